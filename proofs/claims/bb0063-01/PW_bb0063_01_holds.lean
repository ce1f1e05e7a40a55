import PyProof.Rows.All
import Wide.All
import OpenK.AllK
import Wide.FinOn
import PySem.Challenge.RW_bb0063_01
set_option Elab.async false
section
open PySem PySem.W PyProof.Rows
namespace Mine
section
local macro_rules | `(tactic| o_head $_) => `(tactic| contradiction)
set_option maxRecDepth 100000 in
set_option maxHeartbeats 40000000 in
/-- only to have the written part of the heap, hd.heap_39 -/
theorem hd (_h : False) : PySem.Challenge.rw_bb0063_01.Holds := by
  w_on
  o_law
  k_head
end
end Mine
end

section
open PySem PySem.W PySem.Calls PyProof.Rows
namespace Mine
abbrev tupO (vs : List Value) (n : Nat) : Obj := { cls := .type "tuple", data := .seq vs.toArray n }
abbrev lstO (vs : List Value) (n : Nat) : Obj := { cls := .type "list", data := .seq vs.toArray n }

/-- one ledger lies in another -/
def Sub (l n : List (Addr × Obj)) : Prop := ∀ p ∈ l, p ∈ n
theorem Sub.refl {l : List (Addr × Obj)} : Sub l l := fun _ h => h
theorem Sub.left {l r : List (Addr × Obj)} : Sub l (l ++ r) := fun _ h => List.mem_append_left _ h
theorem Sub.right {l r k : List (Addr × Obj)} (h : Sub l r) : Sub l (k ++ r) := fun p hp => List.mem_append_right _ (h p hp)
theorem Sub.tail {l r : List (Addr × Obj)} {q : Addr × Obj} (h : Sub l r) : Sub l (q :: r) := fun p hp => List.mem_cons_of_mem _ (h p hp)
theorem Sub.app {l l' r : List (Addr × Obj)} (h : Sub l r) (h' : Sub l' r) : Sub (l ++ l') r := fun p hp => (List.mem_append.mp hp).elim (h p) (h' p)
theorem Sub.cons {l r : List (Addr × Obj)} {q : Addr × Obj} (h : q ∈ r) (h' : Sub l r) : Sub (q :: l) r := fun p hp => by
  rcases List.mem_cons.mp hp with rfl | hp
  · exact h
  · exact h' p hp
theorem Sub.nil {r : List (Addr × Obj)} : Sub [] r := fun _ h => nomatch h
theorem Sub.trans {a b c : List (Addr × Obj)} (h : Sub a b) (h' : Sub b c) : Sub a c := fun p hp => h' p (h p hp)
theorem Sub.inL {a b c : List (Addr × Obj)} (h : Sub (a ++ b) c) : Sub a c := fun p hp => h p (List.mem_append_left _ hp)
theorem Sub.inR {a b c : List (Addr × Obj)} (h : Sub (a ++ b) c) : Sub b c := fun p hp => h p (List.mem_append_right _ hp)
theorem News.sub {h₀ h : Heap} {L : Addr} {l n : List (Addr × Obj)} (N : News h₀ L h n) (s : Sub l n) : News h₀ L h l := fun p hp => N p (s p hp)

/-- what a def leaves behind: its own end, seen from its caller, what it was not handed left as it stood -/
def LeaveM (h₀ : Heap) (L : Addr) (m : Str → Option Value) (g : Heap) (old : Heap) (small : List (Addr × Obj)) (R : Result → Shared → Prop) (v : Value) (s' : Shared) : Prop :=
  ∃ L' m' news', Fr g L' s'.heap m' ∧ News g L' s'.heap news' ∧
    (Fr h₀ L s'.heap m → News h₀ L s'.heap news' → (∀ b o, old.get? b = some o → b ∉ small.map (·.1) → s'.heap.get? b = some o) → R (.ok (.ret v)) s')
theorem leaveM_ {h₀ g old : Heap} {L L' : Addr} {m m' : Str → Option Value} {small news' : List (Addr × Obj)} {R : Result → Shared → Prop} {v : Value} {s' : Shared} (F' : Fr g L' s'.heap m') (N' : News g L' s'.heap news')
    (k : Fr h₀ L s'.heap m → News h₀ L s'.heap news' → (∀ b o, old.get? b = some o → b ∉ small.map (·.1) → s'.heap.get? b = some o) → R (.ok (.ret v)) s') : LeaveM h₀ L m g old small R v s' := ⟨L', m', news', F', N', k⟩

section
variable {prog : Program} {w : World} {A₀ A : Around} {s : Shared} {base h₀ : Heap} {outer : List Env} {L : Addr} {m mg mb : Str → Option Value} {env : Env} {small : List (Addr × Obj)} {K : Frag} {p : Program} {loose : List Str} {mean : ExcName → Option Value}
  {R : Result → Shared → Prop} {name qual : Str} {params : Arguments} {body : List Stmt} {scope : Scope} {dV kV doc pm cdv ct oc : Value} {an od : Option Addr} {osl : Array (Option Value)} {f : Addr} {args : Args} {binds : List (Str × Value)}

theorem leaveM_of (B : Below A₀ base outer h₀) (F : Fr h₀ L s.heap m) (N : News h₀ L s.heap small) (hA : A.frames = some (env :: outer)) (hf : env.frame = some L) (hke : env.scope.kind = .function) {v : Value} {s' : Shared}
    (hl : LeaveM h₀ L m (hideAll s.heap (small.map (·.1))) s.heap small R v s') : R (.ok (.ret v)) s' := by
  obtain ⟨FG, BG, st, lv⟩ := groundX (R := R) B F N hA hf hke
  obtain ⟨L', m', news', F', N', k⟩ := hl
  exact lv v s' ⟨L', m', news', F', N', fun a b => k a b fun b o e hb => F'.keep b o (hideAll_get _ e hb)⟩

theorem code_M (B : Below A₀ base outer h₀) (F : Fr h₀ L s.heap m) (X₀ : K.In h₀) (N : News h₀ L s.heap small) (T : Top p loose mean mg mb h₀) (hA : A.frames = some (env :: outer)) (hf : env.frame = some L) (hke : env.scope.kind = .function)
    (ho : K.lookup f = some ⟨oc, od, .func (fnOf name qual params body scope dV kV doc pm an cdv ct), osl⟩) (hcd : codeIn K cdv qual = true) (hroom : A.depth < recursionLimit)
    (hbind : BindsTo s (fnOf name qual params body scope dV kV doc pm an cdv ct) args binds) (hloc : ∀ y ∈ binds, scope.names.lookup y.1 = some .local)
    (h : ∀ g L' h₁, Fr h₀ L g m → Fr g L' h₁ (fun y => binds.reverse.lookup y) → News g L' h₁ small → Below A base (env :: outer) g → K.In g → Top p loose mean mg mb g →
      wpAny (model prog w) (A.deeper (envOf qual scope L' f cdv)) (execs body (envOf qual scope L' f cdv))
        (fun fl s' => LeaveM h₀ L m g s.heap small R (match fl with | .ret v => v | _ => .none) s')
        (fun e s' => wpAny (model prog w) (A.deeper (envOf qual scope L' f cdv)) (leaving (envOf qual scope L' f cdv) e) (fun _ s'' => R (.error e) s'') (fun e' s'' => R (.error e') s'') s')
        { s with heap := h₁, toks := s.toks + binds.length })
    (hco : scope.isCoroutine = false) (hgen : scope.isGenerator = false) (hk : scope.kind = .function)
    (hcell : ∀ x ∈ scope.names, x.2 ≠ .cell) : codeAny (model prog w) A (.call (.ref f) args) R s := by
  obtain ⟨FG, BG, st, lv⟩ := groundX (R := R) B F N hA hf hke
  refine codeAny_call_def (fd := fnX name qual params body scope [] dV kV doc pm an cdv ct) (body := body) (binds := binds) hroom ((X₀.keeps F.keep) _ _ ho) rfl (T.nolimit.keeps F.keep) (codeRec_of (X₀.keeps F.keep) hcd) rfl hbind hcell hloc (fun h₁ hns hk₁ => ?_) hco hgen hk
  exact wpAny_mono (h _ s.heap.objs.size h₁ FG ⟨hns, fun b o e => hk₁ b o (of_hideAll _ e), Nat.le_of_eq (hideAll_size _ _)⟩
    (fun p hp => ⟨hk₁ _ _ (N p hp).1, Nat.ne_of_lt (Heap.lt_size (N p hp).1), hideAll_none _ (List.mem_map_of_mem hp)⟩) BG (X₀.keeps st) (T.keeps st)) (fun fl s' hl => leaveM_of B F N hA hf hke hl) fun _ _ y => y

theorem code_MC (B : Below A₀ base outer h₀) (F : Fr h₀ L s.heap m) (X₀ : K.In h₀) (N : News h₀ L s.heap small) (T : Top p loose mean mg mb h₀) (hA : A.frames = some (env :: outer)) (hf : env.frame = some L) (hke : env.scope.kind = .function)
    (ho : K.lookup f = some ⟨oc, od, .func (fnOf name qual params body scope dV kV doc pm an cdv ct), osl⟩) (hcd : codeIn K cdv qual = true) (hroom : A.depth < recursionLimit)
    (hbind : BindsTo s (fnOf name qual params body scope dV kV doc pm an cdv ct) args binds) (hkind : (binds.all fun y => scope.names.lookup y.1 == some .local || scope.names.lookup y.1 == some .cell) = true)
    (hnd : ((cellsFrom 0 scope.names []).map (·.1)).Nodup)
    (h : ∀ g L' h₁ tk cells, Fr h₀ L g m → Fr g L' h₁ (bindL (envOfC qual scope L' f cdv).kindOf binds fun _ => none) → News g L' h₁ (cells ++ small) →
      CellsAre (bindC (envOfC qual scope L' f cdv).kindOf binds fun _ => none) (cellsFrom (L' + 1) scope.names []) cells → Below A base (env :: outer) g → K.In g → Top p loose mean mg mb g → (∀ p ∈ small, p.1 < L') →
      wpAny (model prog w) (A.deeper (envOfC qual scope L' f cdv)) (execs body (envOfC qual scope L' f cdv))
        (fun fl s' => LeaveM h₀ L m g s.heap small R (match fl with | .ret v => v | _ => .none) s')
        (fun e s' => wpAny (model prog w) (A.deeper (envOfC qual scope L' f cdv)) (leaving (envOfC qual scope L' f cdv) e) (fun _ s'' => R (.error e) s'') (fun e' s'' => R (.error e') s'') s')
        { s with heap := h₁, toks := tk })
    (hco : scope.isCoroutine = false) (hgen : scope.isGenerator = false) (hk : scope.kind = .function) : codeAny (model prog w) A (.call (.ref f) args) R s := by
  obtain ⟨FG, BG, st, lv⟩ := groundX (R := R) B F N hA hf hke
  refine codeAny_call_function hroom ((X₀.keeps F.keep) _ _ ho) rfl hco hgen rfl (codeRec_of (X₀.keeps F.keep) hcd) (hbind _ _ _ _ ?_)
  refine wpAny_newFunctionEnv_cells hk (kindsX hkind _) fun env' he s' x => ?_
  subst he
  refine ⟨((T.nolimit).keeps F.keep).keeps x.toInCall.keep, codeAny_func ?_⟩
  obtain ⟨h₁, tk, rfl, _⟩ := x.done
  have hk₁ := x.toInCall.keep
  obtain ⟨cells, NC, Y⟩ := Cl.news (h₀ := s.heap) (Nat.le_refl _) fun n c hm => ⟨x.cell n c (lookup_of_mem_nodup (cellsFrom_names scope.names 0 (s.heap.objs.size + 1) [] [] rfl ▸ hnd) hm), x.above n c hm⟩
  refine wpAny_mono (h _ s.heap.objs.size h₁ tk cells FG ⟨x.toInCall.ns, fun b o e => hk₁ b o (of_hideAll _ e), Nat.le_of_eq (hideAll_size _ _)⟩ (fun p hp => ?_) Y BG (X₀.keeps st) (T.keeps st) (fun p hp => Heap.lt_size (N p hp).1)) (fun fl s' hl => leaveM_of B F N hA hf hke hl) fun _ _ y => y
  rcases List.mem_append.mp hp with hp | hp
  · refine ⟨(NC p hp).1, (NC p hp).2.1, ?_⟩
    cases q : (hideAll s.heap (small.map (·.1))).get? p.1 with
    | none => rfl
    | some o => have := of_hideAll _ q; rw [(NC p hp).2.2] at this; cases this
  · exact ⟨hk₁ _ _ (N p hp).1, Nat.ne_of_lt (Heap.lt_size (N p hp).1), hideAll_none _ (List.mem_map_of_mem hp)⟩
end

/-- the caller's ledger again, with the answer's own part -/
theorem back {h₀ h h' : Heap} {L : Addr} {news small led l : List (Addr × Obj)} (N : News h₀ L h news) (hs : Sub small news) (kN : News h₀ L h' led)
    (keep : ∀ b o, h.get? b = some o → b ∉ small.map (·.1) → h'.get? b = some o) (h1 : Sub small led) (h2 : Sub l led) : News h₀ L h' (l ++ news) := by
  intro p hp
  rcases List.mem_append.mp hp with hp | hp
  · exact kN p (h2 p hp)
  · have z := N p hp
    refine ⟨?_, z.2⟩
    by_cases q : p.1 ∈ small.map (·.1)
    · obtain ⟨e, he, hq⟩ := List.mem_map.mp q
      have y := N e (hs e he)
      have y' := kN e (h1 e he)
      rw [hq, z.1] at y
      rw [hq] at y'
      rw [Option.some.inj y.1]
      exact y'.1
    · exact keep _ _ z.1 q

/-- what a def does: its arguments' relation, its size, what comes back -/
structure Told (D : Type) where
  Rel : List (Addr × Obj) → List Value → D → Prop
  Ok : D → Prop
  size : D → Nat
  Out : List (Addr × Obj) → Value → D → Prop

def Does {D : Type} (w : World) (f : Addr) (c : Told D) (d : D) : Prop :=
  ∀ (p : Program) (loose : List Str) (mean : ExcName → Option Value) (mg mb : Str → Option Value) (dp un : Nat) (gd : Option (List Code)) (cn : Str) (cs : Scope) (a : Addr) (ccd : Value) (cl : List (Str × Addr)) (outer : List Env) (A₀ : Around) (base h₀ : Heap) (L : Addr) (m : Str → Option Value)
    (news small : List (Addr × Obj)) (s : Shared) (vs : List Value) (Q E : Value → Shared → Prop),
    Below A₀ base outer h₀ → Fr h₀ L s.heap m → (hd.heap_39 w.params).In h₀ → News h₀ L s.heap news → Top p loose mean mg mb h₀ → cs.kind = .function → Sub small news → c.Rel small vs d → c.Ok d → dp + c.size d < recursionLimit → un + 8 * c.size d < cLine →
    (∀ r l h' tk', Fr h₀ L h' m → News h₀ L h' (l ++ news) → c.Out l r d → Q r { s with heap := h', toks := tk' }) →
    wpAny (model PySem.Challenge.rw_bb0063_01.row.prog w) (ktrTop dp un gd cn cs L a ccd cl outer) (call (.ref f) vs) Q E s

theorem Does.use {D : Type} {w : World} {f : Addr} {c : Told D} {d : D} (C : Does w f c d)
    {p : Program} {loose : List Str} {mean : ExcName → Option Value} {mg mb : Str → Option Value} {dp un : Nat} {gd : Option (List Code)} {cn : Str} {cs : Scope} {a : Addr} {ccd : Value} {cl : List (Str × Addr)} {outer : List Env} {A₀ : Around} {base h₀ : Heap} {L : Addr} {m : Str → Option Value}
    {news small : List (Addr × Obj)} {s : Shared} {vs : List Value} {Q E : Value → Shared → Prop}
    (B : Below A₀ base outer h₀) (F : Fr h₀ L s.heap m) (X : (hd.heap_39 w.params).In h₀) (N : News h₀ L s.heap news) (T : Top p loose mean mg mb h₀) (hk : cs.kind = .function) (hs : Sub small news) (R : c.Rel small vs d) (ok : c.Ok d) (hd : dp + c.size d < recursionLimit) (hu : un + 8 * c.size d < cLine)
    (ret : ∀ r l h' tk', Fr h₀ L h' m → News h₀ L h' (l ++ news) → c.Out l r d → Q r { s with heap := h', toks := tk' }) :
    wpAny (model PySem.Challenge.rw_bb0063_01.row.prog w) (ktrTop dp un gd cn cs L a ccd cl outer) (call (.ref f) vs) Q E s :=
  C p loose mean mg mb dp un gd cn cs a ccd cl outer A₀ base h₀ L m news small s vs Q E B F X N T hk hs R ok hd hu ret
end Mine
end

section
open PySem PySem.W PySem.Calls PyProof.Rows
namespace Mine
section
variable {prog : Program} {w : World} {A : Around} {E : Value → Shared → Prop} {s : Shared}

/-- an iterator that another one draws from: its steps, its end, what it stands on -/
structure Draws (prog : Program) (w : World) (A : Around) (I : Addr) (items : Array Value) (fp : List Addr) (St : Nat → Heap → Prop) : Prop where
  frame : ∀ i h h', St i h → (∀ b ∈ fp, ∀ o, h.get? b = some o → h'.get? b = some o) → St i h'
  live : ∀ i h, St i h → ∃ o, h.get? I = some o
  item : ∀ i (s : Shared) (Q : Value → Shared → Prop) (E : Value → Shared → Prop) x, items[i]? = some x → St i s.heap →
    (∀ h', St (i + 1) h' → Heap.SameBut I s.heap h' → Q x { s with heap := h' }) → wpAny (model prog w) A (Builtin.SmallTypes.nextOf (.ref I)) Q E s
  stop : ∀ i (s : Shared) (Q : Value → Shared → Prop) (E : Value → Shared → Prop), items[i]? = none → St i s.heap →
    (∀ h' e, Heap.ExtBut I s.heap h' → (∃ o, h'.get? e = some o ∧ o.cls = .type "StopIteration") → E (.ref e) { s with heap := h' }) → wpAny (model prog w) A (Builtin.SmallTypes.nextOf (.ref I)) Q E s

theorem draws_tuple (hh : A.handled = none) (I t : Addr) (hne : t ≠ I) (items : Array Value) :
    Draws prog w A I items [I, t] (fun i h => h.IsTupleIter I t i ∧ h.IsTuple t items) where
  frame := fun i h h' st k => by
    obtain ⟨⟨o, e, r⟩, ⟨o', e', r'⟩⟩ := st
    exact ⟨⟨o, k I (by simp) o e, r⟩, ⟨o', k t (by simp) o' e', r'⟩⟩
  live := fun i h st => by obtain ⟨⟨o, e, _⟩, _⟩ := st; exact ⟨o, e⟩
  item := fun i s Q E x hx st hQ => by
    obtain ⟨hit, ht⟩ := st
    obtain ⟨o, ho, hc, hd⟩ := id hit
    obtain ⟨ol, hol, hcl, nl, hdl⟩ := ht
    unfold Builtin.SmallTypes.nextOf
    refine wpAny_bind (wpAny_callSpecial?_slot (name := Str.ofString "__next__") hit.typeIs F.slot_tuple_iterator_next
      (wpAny_call_entry F.slot_tuple_iterator_next hit.typeIs F.entry_tuple_iterator_next ?_ (F.args_tuple_iterator_next_1 _)))
    show wpAny _ _ (field (.ref I) 0 >>= _) _ _ s
    refine wpAny_bind (wpAny_field ho hd (x := .ref t) rfl ?_)
    show wpAny _ _ (if (Value.ref t == Value.none) = true then _ else _) _ _ s
    rw [if_neg (show ¬ ((Value.ref t == Value.none) = true) from Bool.false_ne_true)]
    show wpAny _ _ (field (.ref I) 1 >>= _) _ _ s
    refine wpAny_bind (wpAny_field ho hd (x := .int i 0) rfl ?_)
    show wpAny _ _ (seqItems? (.ref t) >>= _) _ _ s
    refine wpAny_bind (wpAny_seqItems hol hdl ?_)
    simp only [Int.toNat_natCast, hx]
    refine wpAny_bind (wpAny_setField ho hd (by simp) (wpAny_pure ⟨x, rfl, wpAny_pure (hQ _ ⟨?_, ?_⟩ (Heap.SameBut.update ..))⟩))
    · exact ⟨_, Heap.get?_update_self _ ho (Obj.isFreed_of_fields (Obj.data_mapFields hd _)), (Obj.cls_mapFields ..).trans hc, by
        rw [Obj.data_mapFields hd]; simp [rawInt]⟩
    · exact ⟨ol, ((Heap.SameBut.update ..).2 t hne).trans hol, hcl, nl, hdl⟩
  stop := fun i s Q E hx st hE => by
    obtain ⟨hit, ht⟩ := st
    obtain ⟨o, ho, hc, hd⟩ := id hit
    obtain ⟨ol, hol, _, nl, hdl⟩ := ht
    unfold Builtin.SmallTypes.nextOf
    refine wpAny_bind (wpAny_callSpecial?_slot (name := Str.ofString "__next__") hit.typeIs F.slot_tuple_iterator_next
      (wpAny_call_entry F.slot_tuple_iterator_next hit.typeIs F.entry_tuple_iterator_next ?_ (F.args_tuple_iterator_next_1 _)))
    show wpAny _ _ (field (.ref I) 0 >>= _) _ _ s
    refine wpAny_bind (wpAny_field ho hd (x := .ref t) rfl ?_)
    show wpAny _ _ (if (Value.ref t == Value.none) = true then _ else _) _ _ s
    rw [if_neg (show ¬ ((Value.ref t == Value.none) = true) from Bool.false_ne_true)]
    show wpAny _ _ (field (.ref I) 1 >>= _) _ _ s
    refine wpAny_bind (wpAny_field ho hd (x := .int i 0) rfl ?_)
    show wpAny _ _ (seqItems? (.ref t) >>= _) _ _ s
    refine wpAny_bind (wpAny_seqItems hol hdl ?_)
    simp only [Int.toNat_natCast, hx]
    refine wpAny_bind (wpAny_rule (wpAny_bind (wpAny_setField ho hd (by simp) ?_)))
    show wpAny _ _ (newExc (.type "StopIteration") [] >>= _) _ _ _
    refine wpAny_bind ?_
    simp only [newExc, newTuple]
    refine wpAny_bind (wpAny_newObj_type ?_ (by size_fits))
    refine wpAny_bind (m := firstArgMember _ _) (wpAny_of_eq (a := Value.none) (by first | rfl | (simp only [firstArgMember]; rfl)) ?_)
    refine wpAny_newObj_type ?_ (by size_fits)
    simp only [raiseNew]
    refine wpAny_bind (wpAny_handled ?_)
    first | rw [show A.in1.handled = none from hh] | rw [hh]
    refine wpAny_bind (wpAny_pure (wpAny_throw ?_))
    exact hE _ _ (((Heap.SameBut.update ..).extBut.push _).push _) ⟨_, Heap.get?_push_size _ rfl, rfl⟩

abbrev EnumOut (h : Heap) (e it : Addr) (i : Int) (item : Value) (a : Addr) : Prop :=
  h.get? e = some { cls := .type "enumerate", dict := none, data := .fields #[rawInt a, .bool false, .ref it, rawInt i, .none, item], slots := #[] }

/-- enumerate over any drawn iterator: one turn -/
theorem enum_turn {e it : Addr} {i : Nat} {items : Array Value} {fp : List Addr} {St : Nat → Heap → Prop} {x old : Value} {Q : Option Value → Shared → Prop} (W : Draws prog w A.in1 it items fp St)
    (he : IsEnum s.heap e it i old) (hit : St i s.heap) (hx : items[i]? = some x) (hne : e ≠ it) (hef : e ∉ fp)
    (hQ : ∀ h', EnumOut h' e it ((i : Int) + 1) x s.heap.objs.size → St (i + 1) h' → h'.get? s.heap.objs.size = some { cls := .type "tuple", data := .seq #[.int i s.toks, x] } →
      (∀ b o, b ∉ [e, it] → s.heap.get? b = some o → h'.get? b = some o) → Q (some (.ref s.heap.objs.size)) { s with heap := h', toks := s.toks + 1 }) :
    wpAny (model prog w) A (pyNext (.ref e)) Q E s := by
  have hT : s.TypeIs (.ref e) "enumerate" := ⟨_, he, rfl⟩
  unfold pyNext
  refine wpAny_bind (wpAny_attempt (wpAny_callSpecial?_slot (name := Str.ofString "__next__") hT F.slot_enumerate_next
    (wpAny_call_entry F.slot_enumerate_next hT F.entry_enumerate_next ?_ (F.args_enumerate_next_1 _))))
  obtain ⟨hp, g, d, tk, os⟩ := s
  show wpAny _ _ (field (.ref e) 2 >>= _) _ _ _
  refine wpAny_bind (wpAny_field he rfl (x := .ref it) rfl ?_)
  refine wpAny_bind (W.item i _ _ _ x hx hit fun h₁ hit₁ hs₁ => ?_)
  replace hs₁ : Heap.SameBut it hp h₁ := hs₁
  have he₁ : IsEnum h₁ e it i old := (hs₁.2 e hne).trans he
  show wpAny _ _ (field (.ref e) 3 >>= _) _ _ ⟨h₁, g, d, tk, os⟩
  refine wpAny_bind (wpAny_field he₁ rfl (x := rawInt i) rfl ?_)
  show wpAny _ _ (field (.ref e) 4 >>= _) _ _ ⟨h₁, g, d, tk, os⟩
  refine wpAny_bind (wpAny_field he₁ rfl (x := .none) rfl ?_)
  show wpAny _ _ (mkInt i >>= _) _ _ ⟨h₁, g, d, tk, os⟩
  refine wpAny_bind (wpAny_mkInt ?_)
  show wpAny _ _ (setField (.ref e) 3 (rawInt ((i : Int) + 1)) >>= _) _ _ ⟨h₁, g, d, tk + 1, os⟩
  refine wpAny_bind (wpAny_setField_rec he₁ (by simp) fun h₂ he₂ hs₂ => ?_)
  replace hs₂ : Heap.SameBut e h₁ h₂ := hs₂
  replace he₂ : IsEnum h₂ e it ((i : Int) + 1) old := he₂
  show wpAny _ _ (setField (.ref e) 4 .none >>= _) _ _ ⟨h₂, g, d, tk + 1, os⟩
  refine wpAny_bind (wpAny_setField_rec he₂ (by simp) fun h₃ he₃ hs₃ => ?_)
  replace hs₃ : Heap.SameBut e h₂ h₃ := hs₃
  replace he₃ : IsEnum h₃ e it ((i : Int) + 1) old := he₃
  have hsz : h₃.objs.size = hp.objs.size := by rw [hs₃.1, hs₂.1, hs₁.1]
  have hel : e < hp.objs.size := Heap.lt_size he
  have kp₃ : ∀ b o, b ∉ [e, it] → hp.get? b = some o → h₃.get? b = some o := fun b o hb x =>
    hs₃.extBut b o (fun q => hb (by simp [q])) (hs₂.extBut b o (fun q => hb (by simp [q])) (hs₁.extBut b o (fun q => hb (by simp [q])) x))
  have st₃ : St (i + 1) h₃ := W.frame _ _ _ (W.frame _ _ _ hit₁ fun b hb o x => hs₂.extBut b o (fun q => hef (q ▸ hb)) x) fun b hb o x => hs₃.extBut b o (fun q => hef (q ▸ hb)) x
  show wpAny _ _ (newTuple [.int i tk, x] >>= _) _ _ ⟨h₃, g, d, tk + 1, os⟩
  refine wpAny_bind (wpAny_newTuple ?_)
  have he₄ : IsEnum (h₃.push { cls := .type "tuple", data := .seq #[.int i tk, x] }) e it ((i : Int) + 1) old := Heap.get?_push_of_some _ he₃
  have ht₄ : (h₃.push { cls := .type "tuple", data := .seq #[.int i tk, x] }).get? hp.objs.size = some { cls := .type "tuple", data := .seq #[.int i tk, x] } := by rw [← hsz]; exact Heap.get?_push_size _ rfl
  have st₄ : St (i + 1) (h₃.push { cls := .type "tuple", data := .seq #[.int i tk, x] }) := W.frame _ _ _ st₃ fun b _ o x => Heap.get?_push_of_some _ x
  have kp₄ : ∀ b o, b ∉ [e, it] → hp.get? b = some o → (h₃.push { cls := .type "tuple", data := .seq #[.int i tk, x] }).get? b = some o := fun b o hb x => Heap.get?_push_of_some _ (kp₃ b o hb x)
  generalize h₃.push { cls := .type "tuple", data := .seq #[.int i tk, x] } = h₄ at he₄ ht₄ st₄ kp₄
  show wpAny _ _ (Builtin.SmallTypes.ownedTupleIsFree (.ref e) >>= _) _ _ ⟨h₄, g, d, tk + 1, os⟩
  rw [hsz]
  refine wpAny_bind ?_
  unfold Builtin.SmallTypes.ownedTupleIsFree
  refine wpAny_bind (wpAny_field he₄ rfl (x := .none) rfl (wpAny_pure ?_))
  simp only [if_true]
  refine wpAny_bind (wpAny_rule ?_)
  refine wpAny_bind (wpAny_field he₄ rfl (x := old) rfl ?_)
  refine wpAny_bind (wpAny_setField_rec he₄ (by simp) fun h₅ he₅ hs₅ => ?_)
  replace hs₅ : Heap.SameBut e h₄ h₅ := hs₅
  replace he₅ : IsEnum h₅ e it ((i : Int) + 1) x := he₅
  show wpAny _ _ (Builtin.SmallTypes.ownedTupleHandOut (.ref e) (.ref hp.objs.size) >>= _) _ _ ⟨h₅, g, d, tk + 1, os⟩
  refine wpAny_bind ?_
  unfold Builtin.SmallTypes.ownedTupleHandOut
  refine wpAny_bind (wpAny_setField_rec he₅ (by simp) fun h₆ he₆ hs₆ => ?_)
  replace hs₆ : Heap.SameBut e h₅ h₆ := hs₆
  replace he₆ : EnumOut h₆ e it ((i : Int) + 1) x hp.objs.size := he₆
  refine wpAny_setField_rec he₆ (by simp) fun h₇ he₇ hs₇ => ?_
  replace hs₇ : Heap.SameBut e h₆ h₇ := hs₇
  replace he₇ : EnumOut h₇ e it ((i : Int) + 1) x hp.objs.size := he₇
  have up : ∀ b o, b ≠ e → h₄.get? b = some o → h₇.get? b = some o := fun b o hb x => hs₇.extBut b o hb (hs₆.extBut b o hb (hs₅.extBut b o hb x))
  refine wpAny_bind (wpAny_letGo (wpAny_pure ⟨_, rfl, wpAny_pure (hQ h₇ he₇ ?_ (up _ _ (Nat.ne_of_gt hel) ht₄) ?_)⟩))
  · exact W.frame _ _ _ st₄ fun b hb o x => up b o (fun q => hef (q ▸ hb)) x
  · exact fun b o hb x => up b o (fun q => hb (by simp [q])) (kp₄ b o hb x)

theorem enum_stop {e it : Addr} {i : Nat} {items : Array Value} {fp : List Addr} {St : Nat → Heap → Prop} {old : Value} {Q : Option Value → Shared → Prop} (W : Draws prog w A.in1 it items fp St)
    (he : IsEnum s.heap e it i old) (hit : St i s.heap) (hx : items[i]? = none)
    (hQ : ∀ h', Heap.ExtBut it s.heap h' → Q none { s with heap := h' }) : wpAny (model prog w) A (pyNext (.ref e)) Q E s := by
  have hT : s.TypeIs (.ref e) "enumerate" := ⟨_, he, rfl⟩
  unfold pyNext
  refine wpAny_bind (wpAny_attempt (wpAny_callSpecial?_slot (name := Str.ofString "__next__") hT F.slot_enumerate_next
    (wpAny_call_entry F.slot_enumerate_next hT F.entry_enumerate_next ?_ (F.args_enumerate_next_1 _))))
  show wpAny _ _ (field (.ref e) 2 >>= _) _ _ _
  refine wpAny_bind (wpAny_field he rfl (x := .ref it) rfl ?_)
  refine wpAny_bind (W.stop i _ _ _ hx hit fun h' x he' hx' => ?_)
  obtain ⟨o, ho, hc⟩ := hx'
  refine wpAny_bind (wpAny_isInstance (T := "StopIteration") (b := true) ⟨o, ho, hc⟩ isSubtype_stop ?_)
  exact wpAny_pure (hQ _ he')

theorem turns_enum {elts : List Expr} {k : Nat} {pos : Pos} {e it : Addr} {items : Array Value} {fp : List Addr} {St : Nat → Heap → Prop} (W : Draws prog w A.in1 it items fp St) (hne : e ≠ it) (hef : e ∉ fp) (hit : it ∈ fp) :
    KTurns prog w A (.Tuple elts k pos) e (e :: fp) [e, it] items.size
      (fun i v h => ∃ T t x, v = .ref T ∧ items[i]? = some x ∧ h.IsTuple T #[.int i t, x])
      (fun i v h => ∃ T t x, v = .ref T ∧ items[i]? = some x ∧ h.IsTuple T #[.int i t, x] ∧ EnumOut h e it ((i : Int) + 1) x T ∧ St (i + 1) h ∧ T ∉ [e, it])
      (fun i h => (∃ old, IsEnum h e it i old) ∧ St i h) where
  sub := fun b hb => by
    rcases List.mem_cons.mp hb with rfl | hb
    · exact List.mem_cons_self ..
    · rw [List.mem_singleton.mp hb]; exact List.mem_cons_of_mem _ hit
  frame := fun i h h' st hk => by
    obtain ⟨⟨old, he⟩, st⟩ := st
    exact ⟨⟨old, hk e (by simp) _ he⟩, W.frame _ _ _ st fun b hb o x => hk b (List.mem_cons_of_mem _ hb) o x⟩
  item := fun i s Q E hi st hQ => by
    obtain ⟨⟨old, he⟩, st⟩ := st
    have hx : items[i]? = some items[i] := Array.getElem?_eq_getElem hi
    refine enum_turn W he st hx hne hef fun h' ho st' hT hk => ?_
    have hl : e < s.heap.objs.size := Heap.lt_size he
    refine hQ (.ref s.heap.objs.size) h' (s.toks + 1) ⟨_, _, _, rfl, hx, ⟨_, hT, rfl, _, rfl⟩, ho, st', ?_⟩ hk
    intro hb
    rcases List.mem_cons.mp hb with q | hb
    · exact Nat.ne_of_gt hl q
    · have q := List.mem_singleton.mp hb
      obtain ⟨o, ho'⟩ := W.live _ _ st
      exact Nat.ne_of_gt (Heap.lt_size ho') q
  go := fun i v s Q E hm hQ => by
    obtain ⟨T, t, x, rfl, hx, hT, ho, st, hTn⟩ := hm
    refine wpAny_letOwnedTupleGo_enum ho fun h' he' hs' => hQ h' ⟨T, t, x, rfl, hx, ?_⟩ ⟨⟨x, by simpa using he'⟩, W.frame _ _ _ st fun b hb o y => (hs'.2 b fun q => hef (q ▸ hb)).trans y⟩ fun b o hb y => ?_
    · obtain ⟨o, ho', r⟩ := hT
      exact ⟨o, (hs'.2 T fun q => hTn (by simp [q])).trans ho', r⟩
    · exact (hs'.2 b fun q => hb (by simp [q])).trans y
  done := fun s Q E st hQ => by
    obtain ⟨⟨old, he⟩, st⟩ := st
    exact enum_stop W he st (Array.getElem?_eq_none (Nat.le_refl _)) fun h' hx => hQ h' s.toks fun b o hb y => hx b o (fun q => hb (by simp [q])) y

/-- two drawn iterators, zipped: what must lie apart -/
structure Apart (z TI TO i1 i2 : Addr) (f1 f2 : List Addr) : Prop where
  TIz : TI ≠ z
  TOz : TO ≠ z
  TITO : TI ≠ TO
  TI1 : TI ≠ i1
  TI2 : TI ≠ i2
  z1 : z ∉ f1
  z2 : z ∉ f2
  TO1 : TO ∉ f1
  TO2 : TO ∉ f2
  i12 : i1 ∉ f2
  i21 : i2 ∉ f1
  m1 : i1 ∈ f1
  m2 : i2 ∈ f2

theorem zip_turn {z TI TO i1 i2 : Addr} {k : Nat} {xs ys : Array Value} {f1 f2 : List Addr} {S1 S2 : Nat → Heap → Prop} {x y a b : Value} {Q : Option Value → Shared → Prop} (W1 : Draws prog w A.in1 i1 xs f1 S1) (W2 : Draws prog w A.in1 i2 ys f2 S2) (D : Apart z TI TO i1 i2 f1 f2)
    (hz : IsZip s.heap z TI TO .none) (hTI : IsPair s.heap TI (.ref i1) (.ref i2)) (hTO : IsPair s.heap TO a b) (h1 : S1 k s.heap) (h2 : S2 k s.heap) (hx : xs[k]? = some x) (hy : ys[k]? = some y)
    (hQ : ∀ h', IsZip h' z TI TO (rawInt s.heap.objs.size) → IsPair h' TO x y → S1 (k + 1) h' → S2 (k + 1) h' → IsPair h' s.heap.objs.size x y →
      (∀ c o, c ∉ [z, TO, i1, i2] → s.heap.get? c = some o → h'.get? c = some o) → Q (some (.ref s.heap.objs.size)) { s with heap := h' }) :
    wpAny (model prog w) A (pyNext (.ref z)) Q E s := by
  have hT : s.TypeIs (.ref z) "zip" := ⟨_, hz, rfl⟩
  unfold pyNext
  refine wpAny_bind (wpAny_attempt (wpAny_callSpecial?_slot (name := Str.ofString "__next__") hT F.slot_zip_next
    (wpAny_call_entry F.slot_zip_next hT F.entry_zip_next ?_ (F.args_zip_next_1 _))))
  have n1z : z ≠ i1 := fun q => D.z1 (q ▸ D.m1)
  have n2z : z ≠ i2 := fun q => D.z2 (q ▸ D.m2)
  have n1T : TO ≠ i1 := fun q => D.TO1 (q ▸ D.m1)
  have n2T : TO ≠ i2 := fun q => D.TO2 (q ▸ D.m2)
  show wpAny _ _ (field (.ref z) 2 >>= _) _ _ _
  refine wpAny_bind (wpAny_field hz rfl (x := .bool false) rfl ?_)
  show wpAny _ _ (field (.ref z) 3 >>= _) _ _ _
  refine wpAny_bind (wpAny_field hz rfl (x := .ref TI) rfl ?_)
  refine wpAny_bind (wpAny_seqItems hTI rfl ?_)
  show wpAny _ _ (Builtin.SmallTypes.ownedTupleIsFree (.ref z) >>= _) _ _ _
  refine wpAny_bind ?_
  unfold Builtin.SmallTypes.ownedTupleIsFree
  refine wpAny_bind (wpAny_field hz rfl (x := .none) rfl (wpAny_pure ?_))
  simp only [if_true]
  refine wpAny_bind (wpAny_rule ?_)
  refine wpAny_bind (wpAny_field hz rfl (x := .ref TO) rfl ?_)
  refine wpAny_bind (wpAny_setField_rec hz (by simp) fun h₁ hz₁ hs₁ => ?_)
  replace hz₁ : IsZip h₁ z TI TO .ellipsis := hz₁
  replace hs₁ : Heap.SameBut z s.heap h₁ := hs₁
  have s11 : S1 k h₁ := W1.frame _ _ _ h1 fun b hb o e => hs₁.extBut b o (fun q => D.z1 (q ▸ hb)) e
  have s21 : S2 k h₁ := W2.frame _ _ _ h2 fun b hb o e => hs₁.extBut b o (fun q => D.z2 (q ▸ hb)) e
  refine wpAny_bind ?_
  simp only [List.zipIdx_cons, List.zipIdx_nil, List.forIn_cons, List.forIn_nil]
  refine wpAny_bind (wpAny_bind (wpAny_onRaise ?_))
  show wpAny _ _ (Builtin.SmallTypes.nextOf (.ref i1) >>= _) _ _ _
  refine wpAny_bind (W1.item k _ _ _ x hx s11 fun h₂ s12 hs₂ => wpAny_pure ?_)
  replace hs₂ : Heap.SameBut i1 h₁ h₂ := hs₂
  have s22 : S2 k h₂ := W2.frame _ _ _ s21 fun b hb o e => hs₂.extBut b o (fun q => D.i12 (q ▸ hb)) e
  have hTO₂ : IsPair h₂ TO a b := hs₂.extBut _ _ n1T (hs₁.extBut _ _ D.TOz hTO)
  refine wpAny_bind (wpAny_seqItems hTO₂ rfl ?_)
  refine wpAny_bind (wpAny_updateSeq_pair hTO₂ fun h₃ hTO₃ hs₃ => ?_)
  replace hTO₃ : IsPair h₃ TO x b := hTO₃
  replace hs₃ : Heap.SameBut TO h₂ h₃ := hs₃
  have s13 : S1 (k + 1) h₃ := W1.frame _ _ _ s12 fun b hb o e => hs₃.extBut b o (fun q => D.TO1 (q ▸ hb)) e
  have s23 : S2 k h₃ := W2.frame _ _ _ s22 fun b hb o e => hs₃.extBut b o (fun q => D.TO2 (q ▸ hb)) e
  refine wpAny_bind (wpAny_letGo (wpAny_pure ?_))
  refine wpAny_bind (wpAny_bind (wpAny_onRaise ?_))
  show wpAny _ _ (Builtin.SmallTypes.nextOf (.ref i2) >>= _) _ _ _
  refine wpAny_bind (W2.item k _ _ _ y hy s23 fun h₄ s24 hs₄ => wpAny_pure ?_)
  replace hs₄ : Heap.SameBut i2 h₃ h₄ := hs₄
  have s14 : S1 (k + 1) h₄ := W1.frame _ _ _ s13 fun b hb o e => hs₄.extBut b o (fun q => D.i21 (q ▸ hb)) e
  have hTO₄ : IsPair h₄ TO x b := hs₄.extBut _ _ n2T hTO₃
  refine wpAny_bind (wpAny_seqItems hTO₄ rfl ?_)
  refine wpAny_bind (wpAny_updateSeq_pair hTO₄ fun h₅ hTO₅ hs₅ => ?_)
  replace hTO₅ : IsPair h₅ TO x y := hTO₅
  replace hs₅ : Heap.SameBut TO h₄ h₅ := hs₅
  have s15 : S1 (k + 1) h₅ := W1.frame _ _ _ s14 fun b hb o e => hs₅.extBut b o (fun q => D.TO1 (q ▸ hb)) e
  have s25 : S2 (k + 1) h₅ := W2.frame _ _ _ s24 fun b hb o e => hs₅.extBut b o (fun q => D.TO2 (q ▸ hb)) e
  refine wpAny_bind (wpAny_letGo (wpAny_pure (wpAny_pure ?_)))
  refine wpAny_bind (wpAny_seqItems hTO₅ rfl ?_)
  refine wpAny_bind (wpAny_newTuple ?_)
  have hsz : h₅.objs.size = s.heap.objs.size := by rw [hs₅.1, hs₄.1, hs₃.1, hs₂.1, hs₁.1]
  have hz₅ : IsZip h₅ z TI TO .ellipsis := hs₅.extBut _ _ D.TOz.symm (hs₄.extBut _ _ n2z (hs₃.extBut _ _ D.TOz.symm (hs₂.extBut _ _ n1z hz₁)))
  have kp₅ : ∀ c o, c ∉ [z, TO, i1, i2] → s.heap.get? c = some o → h₅.get? c = some o := fun c o hc e =>
    hs₅.extBut _ _ (fun q => hc (by simp [q])) (hs₄.extBut _ _ (fun q => hc (by simp [q])) (hs₃.extBut _ _ (fun q => hc (by simp [q])) (hs₂.extBut _ _ (fun q => hc (by simp [q])) (hs₁.extBut _ _ (fun q => hc (by simp [q])) e))))
  have hzl : z < h₅.objs.size := Heap.lt_size hz₅
  show wpAny _ _ (Builtin.SmallTypes.ownedTupleHandOut (.ref z) (.ref h₅.objs.size) >>= _) _ _ _
  refine wpAny_bind ?_
  unfold Builtin.SmallTypes.ownedTupleHandOut
  have hz₆ : IsZip (h₅.push { cls := .type "tuple", data := .seq #[x, y] }) z TI TO .ellipsis := Heap.get?_push_of_some _ hz₅
  refine wpAny_bind (wpAny_setField_rec hz₆ (by simp) fun h₇ hz₇ hs₇ => ?_)
  replace hz₇ : IsZip h₇ z TI TO (rawInt h₅.objs.size) := hz₇
  refine wpAny_setField_rec hz₇ (by simp) fun h₈ hz₈ hs₈ => ?_
  replace hz₈ : IsZip h₈ z TI TO (rawInt h₅.objs.size) := hz₈
  have up : ∀ c o, c ≠ z → h₅.get? c = some o → h₈.get? c = some o := fun c o c1 e => hs₈.extBut _ _ c1 (hs₇.extBut _ _ c1 (Heap.get?_push_of_some _ e))
  have hT₈ : IsPair h₈ h₅.objs.size x y := hs₈.extBut _ _ (Nat.ne_of_gt hzl) (hs₇.extBut _ _ (Nat.ne_of_gt hzl) (Heap.get?_push_size _ rfl))
  rw [hsz] at hz₈ hT₈
  refine wpAny_pure ⟨_, rfl, ?_⟩
  show wpAny _ _ (pure (some (Value.ref h₅.objs.size))) _ _ _
  rw [hsz]
  exact wpAny_pure (hQ h₈ hz₈ (up _ _ D.TOz hTO₅) (W1.frame _ _ _ s15 fun b hb o e => up b o (fun q => D.z1 (q ▸ hb)) e) (W2.frame _ _ _ s25 fun b hb o e => up b o (fun q => D.z2 (q ▸ hb)) e) hT₈
    fun c o hc e => up c o (fun q => hc (by simp [q])) (kp₅ c o hc e))

theorem zip_stop {z TI TO i1 i2 : Addr} {k : Nat} {xs : Array Value} {f1 f2 : List Addr} {S1 S2 : Nat → Heap → Prop} {a b : Value} {Q : Option Value → Shared → Prop} (W1 : Draws prog w A.in1 i1 xs f1 S1) (D : Apart z TI TO i1 i2 f1 f2)
    (hz : IsZip s.heap z TI TO .none) (hTI : IsPair s.heap TI (.ref i1) (.ref i2)) (_hTO : IsPair s.heap TO a b) (h1 : S1 k s.heap) (_h2 : S2 k s.heap) (hx : xs[k]? = none)
    (hQ : ∀ h', (∀ c o, c ∉ [z, TO, i1, i2] → s.heap.get? c = some o → h'.get? c = some o) → Q none { s with heap := h' }) :
    wpAny (model prog w) A (pyNext (.ref z)) Q E s := by
  have hT : s.TypeIs (.ref z) "zip" := ⟨_, hz, rfl⟩
  unfold pyNext
  refine wpAny_bind (wpAny_attempt (wpAny_callSpecial?_slot (name := Str.ofString "__next__") hT F.slot_zip_next
    (wpAny_call_entry F.slot_zip_next hT F.entry_zip_next ?_ (F.args_zip_next_1 _))))
  have n1z : z ≠ i1 := fun q => D.z1 (q ▸ D.m1)
  show wpAny _ _ (field (.ref z) 2 >>= _) _ _ _
  refine wpAny_bind (wpAny_field hz rfl (x := .bool false) rfl ?_)
  show wpAny _ _ (field (.ref z) 3 >>= _) _ _ _
  refine wpAny_bind (wpAny_field hz rfl (x := .ref TI) rfl ?_)
  refine wpAny_bind (wpAny_seqItems hTI rfl ?_)
  show wpAny _ _ (Builtin.SmallTypes.ownedTupleIsFree (.ref z) >>= _) _ _ _
  refine wpAny_bind ?_
  unfold Builtin.SmallTypes.ownedTupleIsFree
  refine wpAny_bind (wpAny_field hz rfl (x := .none) rfl (wpAny_pure ?_))
  simp only [if_true]
  refine wpAny_bind (wpAny_rule ?_)
  refine wpAny_bind (wpAny_field hz rfl (x := .ref TO) rfl ?_)
  refine wpAny_bind (wpAny_setField_rec hz (by simp) fun h₁ hz₁ hs₁ => ?_)
  replace hz₁ : IsZip h₁ z TI TO .ellipsis := hz₁
  replace hs₁ : Heap.SameBut z s.heap h₁ := hs₁
  have s11 : S1 k h₁ := W1.frame _ _ _ h1 fun b hb o e => hs₁.extBut b o (fun q => D.z1 (q ▸ hb)) e
  refine wpAny_bind ?_
  simp only [List.zipIdx_cons, List.zipIdx_nil, List.forIn_cons, List.forIn_nil]
  refine wpAny_bind (wpAny_bind (wpAny_onRaise ?_))
  show wpAny _ _ (Builtin.SmallTypes.nextOf (.ref i1) >>= _) _ _ _
  refine wpAny_bind (W1.stop k _ _ _ hx s11 fun h₂ e hs₂ he => ?_)
  replace hs₂ : Heap.ExtBut i1 h₁ h₂ := hs₂
  obtain ⟨oe, hoe, hce⟩ := he
  have hz₂ : IsZip h₂ z TI TO .ellipsis := hs₂ _ _ n1z hz₁
  have hez : e ≠ z := fun q => by
    subst q
    replace hoe : h₂.get? e = some oe := hoe
    rw [hz₂] at hoe; cases hoe; simp at hce
  refine wpAny_setField_rec hz₂ (by simp) fun h₃ _ hs₃ => ?_
  refine wpAny_bind (wpAny_isInstance (T := "StopIteration") (b := true) ⟨oe, hs₃.extBut _ _ hez hoe, hce⟩ isSubtype_stop ?_)
  exact wpAny_pure (hQ h₃ fun c o hc q => hs₃.extBut _ _ (fun q => hc (by simp [q])) (hs₂ _ _ (fun q => hc (by simp [q])) (hs₁.extBut _ _ (fun q => hc (by simp [q])) q)))

theorem turns_zip {elts : List Expr} {k : Nat} {pos : Pos} {z TI TO i1 i2 : Addr} {xs ys : Array Value} {f1 f2 : List Addr} {S1 S2 : Nat → Heap → Prop} (W1 : Draws prog w A.in1 i1 xs f1 S1) (W2 : Draws prog w A.in1 i2 ys f2 S2) (D : Apart z TI TO i1 i2 f1 f2) (hsame : xs.size = ys.size) :
    KTurns prog w A (.Tuple elts k pos) z (z :: TI :: TO :: (f1 ++ f2)) [z, TO, i1, i2] xs.size
      (fun i v h => ∃ T x y, v = .ref T ∧ xs[i]? = some x ∧ ys[i]? = some y ∧ h.IsTuple T #[x, y])
      (fun i v h => ∃ T x y, v = .ref T ∧ xs[i]? = some x ∧ ys[i]? = some y ∧ h.IsTuple T #[x, y] ∧ IsZip h z TI TO (rawInt T) ∧ IsPair h TI (.ref i1) (.ref i2) ∧ (∃ a b, IsPair h TO a b) ∧ S1 (i + 1) h ∧ S2 (i + 1) h ∧ T ∉ [z, TO, i1, i2])
      (fun i h => IsZip h z TI TO .none ∧ IsPair h TI (.ref i1) (.ref i2) ∧ (∃ a b, IsPair h TO a b) ∧ S1 i h ∧ S2 i h) where
  sub := fun b hb => by
    simp only [List.mem_cons, List.not_mem_nil, or_false] at hb
    rcases hb with rfl | rfl | rfl | rfl
    · simp
    · simp
    · simp [D.m1]
    · simp [D.m2]
  frame := fun i h h' st hk => by
    obtain ⟨hz, hTI, ⟨a, b, hTO⟩, h1, h2⟩ := st
    exact ⟨hk z (by simp) _ hz, hk TI (by simp) _ hTI, ⟨a, b, hk TO (by simp) _ hTO⟩, W1.frame _ _ _ h1 fun b hb o e => hk b (by simp [hb]) o e, W2.frame _ _ _ h2 fun b hb o e => hk b (by simp [hb]) o e⟩
  item := fun i s Q E hi st hQ => by
    obtain ⟨hz, hTI, ⟨a, b, hTO⟩, h1, h2⟩ := st
    have hx : xs[i]? = some xs[i] := Array.getElem?_eq_getElem hi
    have hiy : i < ys.size := hsame ▸ hi
    have hy : ys[i]? = some ys[i] := Array.getElem?_eq_getElem hiy
    refine zip_turn W1 W2 D hz hTI hTO h1 h2 hx hy fun h' a1 a2 a3 a4 a5 hk => ?_
    have lt : ∀ {c o}, s.heap.get? c = some o → s.heap.objs.size ≠ c := fun e => Nat.ne_of_gt (Heap.lt_size e)
    refine hQ (.ref s.heap.objs.size) h' s.toks ⟨_, _, _, rfl, hx, hy, ⟨_, a5, rfl, _, rfl⟩, a1, hk _ _ ?_ hTI, ⟨_, _, a2⟩, a3, a4, ?_⟩ hk
    · simp only [List.mem_cons, List.not_mem_nil, or_false, not_or]
      exact ⟨D.TIz, D.TITO, D.TI1, D.TI2⟩
    · obtain ⟨o1, e1⟩ := W1.live _ _ h1
      obtain ⟨o2, e2⟩ := W2.live _ _ h2
      simp only [List.mem_cons, List.not_mem_nil, or_false, not_or]
      exact ⟨lt hz, lt hTO, lt e1, lt e2⟩
  go := fun i v s Q E hm hQ => by
    obtain ⟨T, x, y, rfl, hx, hy, hT, hz, hTI, ⟨a, b, hTO⟩, h1, h2, hTn⟩ := hm
    refine wpAny_letOwnedTupleGo_zip hz fun h' hz' hs' => hQ h' ⟨T, x, y, rfl, hx, hy, ?_⟩ ⟨hz', hs'.extBut _ _ D.TIz hTI, ⟨a, b, hs'.extBut _ _ D.TOz hTO⟩, W1.frame _ _ _ h1 fun b hb o e => hs'.extBut b o (fun q => D.z1 (q ▸ hb)) e, W2.frame _ _ _ h2 fun b hb o e => hs'.extBut b o (fun q => D.z2 (q ▸ hb)) e⟩ fun c o hc e => hs'.extBut _ _ (fun q => hc (by simp [q])) e
    obtain ⟨o, ho', r⟩ := hT
    exact ⟨o, hs'.extBut _ _ (fun q => hTn (by simp [q])) ho', r⟩
  done := fun s Q E st hQ => by
    obtain ⟨hz, hTI, ⟨a, b, hTO⟩, h1, h2⟩ := st
    exact zip_stop W1 D hz hTI hTO h1 h2 (Array.getElem?_eq_none (Nat.le_refl _)) fun h' hk => hQ h' s.toks hk

/-- enumerate of a tuple -/
theorem meets_enum_tuple (l : Addr) (items : Array Value) (n : Nat) (dct : Option Addr) (sl : Array (Option Value)) :
    Meets (Builtin.«enumerate.__new__» ⟨[.type "enumerate", .ref l], []⟩) (fun _ R s => s.heap.get? l = some { cls := .type "tuple", dict := dct, data := .seq items n, slots := sl } ∧
      R (.ok (.ret (.ref (s.heap.push { cls := .type "tuple_iterator", data := .fields #[.ref l, .int 0 0] }).objs.size)))
        { s with heap := (s.heap.push { cls := .type "tuple_iterator", data := .fields #[.ref l, .int 0 0] }).push { cls := .type "enumerate", data := .fields #[.none, .bool false, .ref s.heap.objs.size, rawInt 0, .none, .none] } }) :=
  .of_wp fun prog w A R s h => by
    obtain ⟨hp, g, d, tk, os⟩ := s; obtain ⟨hl, h⟩ := h
    have hsub := sub_enumerate
    have hL : Heap.IsTuple (Shared.heap ⟨hp, g, d, tk, os⟩) l items := ⟨_, hl, rfl, n, rfl⟩
    wp_walk using AutoSeq1.wpAny_loadPart' hl
    refine wpAny_stack_any fun st => wpAny_pure ?_
    split
    · rename_i c _ _ _ _ _
      cases (c == Value.type "enumerate")
      · wp_walk using AutoSeq1.wpAny_loadPart' hl, wpAny_pyIter_tuple hL
        exact ⟨_, rfl, h⟩
      · wp_walk using AutoSeq1.wpAny_loadPart' hl, wpAny_pyIter_tuple hL
        exact ⟨_, rfl, h⟩
    · wp_walk using AutoSeq1.wpAny_loadPart' hl, wpAny_pyIter_tuple hL
      exact ⟨_, rfl, h⟩

theorem call_enum_tuple {l : Addr} {items : Array Value} {Q : Value → Shared → Prop} (hL : s.heap.IsTuple l items)
    (h : ∀ h', IsEnum h' (s.heap.objs.size + 1) s.heap.objs.size 0 .none → h'.IsTupleIter s.heap.objs.size l 0 →
      (∀ b o, s.heap.get? b = some o → h'.get? b = some o) → Q (.ref (s.heap.objs.size + 1)) { s with heap := h' }) :
    wpAny (model prog w) A (call (.type "enumerate") [.ref l]) Q E s := by
  obtain ⟨⟨c, dct, dt, sl⟩, hl, hc, n, hd⟩ := hL
  replace hc : c = .type "tuple" := hc
  replace hd : dt = .seq items n := hd
  subst hc hd
  refine callType_new F.called_enumerate (by decide) (F.typeCall_enumerate_1 _) (F.newCall_enumerate_1 _) (fun obj => F.args_object_init_2 obj _) F.entry_enumerate_new
    (meets_enum_tuple l items n dct sl) ⟨hl, ?_⟩
  have hz : (s.heap.push { cls := .type "tuple_iterator", data := .fields #[.ref l, .int 0 0] }).objs.size = s.heap.objs.size + 1 := Heap.size_push ..
  have he : IsEnum ((s.heap.push { cls := .type "tuple_iterator", data := .fields #[.ref l, .int 0 0] }).push
      { cls := .type "enumerate", data := .fields #[.none, .bool false, .ref s.heap.objs.size, rawInt 0, .none, .none] }) (s.heap.objs.size + 1) s.heap.objs.size 0 .none := by
    have := Heap.get?_push_size (s.heap.push { cls := .type "tuple_iterator", data := .fields #[.ref l, .int 0 0] })
      (o := { cls := .type "enumerate", data := .fields #[.none, .bool false, .ref s.heap.objs.size, rawInt 0, .none, .none] }) rfl
    rw [hz] at this; exact this
  show _ ∧ _
  rw [hz]
  exact ⟨⟨_, he, rfl⟩, h _ he ⟨_, Heap.get?_push_of_some _ (Heap.get?_push_size _ rfl), rfl, rfl⟩ fun b o x => Heap.get?_push_of_some _ (Heap.get?_push_of_some _ x)⟩

abbrev zh1 (h : Heap) (l1 : Addr) : Heap := h.push { cls := .type "tuple_iterator", data := .fields #[.ref l1, .int 0 0] }
abbrev zh2 (h : Heap) (l1 l2 : Addr) : Heap := (zh1 h l1).push { cls := .type "tuple_iterator", data := .fields #[.ref l2, .int 0 0] }
abbrev zh3 (h : Heap) (l1 l2 : Addr) : Heap := (zh2 h l1 l2).push { cls := .type "tuple", data := .seq #[.ref h.objs.size, .ref (zh1 h l1).objs.size] }
abbrev zh4 (h : Heap) (l1 l2 : Addr) : Heap := (zh3 h l1 l2).push { cls := .type "tuple", data := .seq #[.none, .none] }
abbrev zh5 (h : Heap) (l1 l2 : Addr) : Heap := (zh4 h l1 l2).push { cls := .type "zip", data := .fields #[.none, .bool false, .bool false, .ref (zh2 h l1 l2).objs.size, .ref (zh3 h l1 l2).objs.size] }

theorem meets_zip_tuples (l1 l2 : Addr) (xs ys : Array Value) :
    Meets (Builtin.«zip.__new__» ⟨[.type "zip", .ref l1, .ref l2], []⟩) (fun _ R s => s.heap.IsTuple l1 xs ∧ s.heap.IsTuple l2 ys ∧
      R (.ok (.ret (.ref (zh4 s.heap l1 l2).objs.size))) { s with heap := zh5 s.heap l1 l2 }) :=
  .of_wp fun prog w A R s h => by
    obtain ⟨hp, g, d, tk, os⟩ := s; obtain ⟨hl1, hl2, h⟩ := h
    have hsub := sub_zip
    have hL1 : Heap.IsTuple (Shared.heap ⟨hp, g, d, tk, os⟩) l1 xs := hl1
    have hL2 : Heap.IsTuple (Shared.heap ⟨hp.push { cls := .type "tuple_iterator", data := .fields #[.ref l1, .int 0 0] }, g, d, tk, os⟩) l2 ys := Heap.IsTuple.push hl2 _
    wp_walk using wpAny_pyIter_tuple hL1, wpAny_pyIter_tuple hL2
    exact ⟨_, rfl, h⟩

theorem call_zip_tuples {l1 l2 : Addr} {xs ys : Array Value} {Q : Value → Shared → Prop} (hl1 : s.heap.IsTuple l1 xs) (hl2 : s.heap.IsTuple l2 ys)
    (h : ∀ h', IsZip h' (s.heap.objs.size + 4) (s.heap.objs.size + 2) (s.heap.objs.size + 3) .none → IsPair h' (s.heap.objs.size + 2) (.ref s.heap.objs.size) (.ref (s.heap.objs.size + 1)) →
      IsPair h' (s.heap.objs.size + 3) .none .none → h'.IsTupleIter s.heap.objs.size l1 0 → h'.IsTupleIter (s.heap.objs.size + 1) l2 0 →
      (∀ c o, s.heap.get? c = some o → h'.get? c = some o) → Q (.ref (s.heap.objs.size + 4)) { s with heap := h' }) :
    wpAny (model prog w) A (call (.type "zip") [.ref l1, .ref l2]) Q E s := by
  refine callType_new F.called_zip (by decide) (F.typeCall_zip_2 _ _) (F.newCall_zip_2 _ _) (fun obj => F.args_object_init_3 obj _ _) F.entry_zip_new
    (meets_zip_tuples l1 l2 xs ys) ⟨hl1, hl2, ?_⟩
  have z1 : (zh1 s.heap l1).objs.size = s.heap.objs.size + 1 := Heap.size_push ..
  have z2 : (zh2 s.heap l1 l2).objs.size = s.heap.objs.size + 2 := by rw [Heap.size_push, z1]
  have z3 : (zh3 s.heap l1 l2).objs.size = s.heap.objs.size + 3 := by rw [Heap.size_push, z2]
  have z4 : (zh4 s.heap l1 l2).objs.size = s.heap.objs.size + 4 := by rw [Heap.size_push, z3]
  have g5 : (zh5 s.heap l1 l2).get? (zh4 s.heap l1 l2).objs.size = some _ := Heap.get?_push_size _ rfl
  have g4 : (zh5 s.heap l1 l2).get? (zh3 s.heap l1 l2).objs.size = some _ := Heap.get?_push_of_some _ (Heap.get?_push_size _ rfl)
  have g3 : (zh5 s.heap l1 l2).get? (zh2 s.heap l1 l2).objs.size = some _ := Heap.get?_push_of_some _ (Heap.get?_push_of_some _ (Heap.get?_push_size _ rfl))
  have g2 : (zh5 s.heap l1 l2).get? (zh1 s.heap l1).objs.size = some _ := Heap.get?_push_of_some _ (Heap.get?_push_of_some _ (Heap.get?_push_of_some _ (Heap.get?_push_size _ rfl)))
  have g1 : (zh5 s.heap l1 l2).get? s.heap.objs.size = some _ := Heap.get?_push_of_some _ (Heap.get?_push_of_some _ (Heap.get?_push_of_some _ (Heap.get?_push_of_some _ (Heap.get?_push_size _ rfl))))
  show _ ∧ _
  rw [z2, z3, z4] at g5
  rw [z1, z2] at g3
  rw [z3] at g4
  rw [z1] at g2
  rw [z4]
  exact ⟨⟨_, g5, rfl⟩, h _ g5 g3 g4 ⟨_, g1, rfl, rfl⟩ ⟨_, g2, rfl, rfl⟩ fun c o x =>
    Heap.get?_push_of_some _ (Heap.get?_push_of_some _ (Heap.get?_push_of_some _ (Heap.get?_push_of_some _ (Heap.get?_push_of_some _ x))))⟩
end
end Mine
end

section
open PySem PySem.W PySem.Calls PyProof.Rows
set_option maxRecDepth 100000
namespace Mine
section
variable {prog : Program} {w : World} {A : Around} {E : Value → Shared → Prop} {s : Shared}

theorem wpAny_alive {M : Model} {a : Addr} {Q : Option Obj → Shared → Prop} (h : Q (s.heap.get? a) s) : wpAny M A (loadIfAlive a) Q E s := fun _ _ _ => h

/-- an enumerate whose last pair is out of its hands -/
abbrev EnumF (h : Heap) (e it : Addr) (f0 f1 : Value) (i : Int) (old : Value) : Prop :=
  h.get? e = some { cls := .type "enumerate", dict := none, data := .fields #[f0, f1, .ref it, rawInt i, .none, old], slots := #[] }

theorem enum_turn2 {e it T : Addr} {i : Nat} {items : Array Value} {fp : List Addr} {St : Nat → Heap → Prop} {x old : Value} {Q : Option Value → Shared → Prop} {oT : Obj} (W : Draws prog w A.in1 it items fp St)
    (he : EnumOut s.heap e it i old T) (hT0 : s.heap.get? T = some oT) (hTe : T ≠ e) (hTi : T ≠ it) (hit : St i s.heap) (hx : items[i]? = some x) (hne : e ≠ it) (hef : e ∉ fp)
    (hQ : ∀ h' f1, EnumF h' e it (rawInt T) f1 ((i : Int) + 1) old → St (i + 1) h' → h'.get? s.heap.objs.size = some { cls := .type "tuple", data := .seq #[.int i s.toks, x] } →
      (∀ b o, b ∉ [e, it] → s.heap.get? b = some o → h'.get? b = some o) → Q (some (.ref s.heap.objs.size)) { s with heap := h', toks := s.toks + 1 }) :
    wpAny (model prog w) A (pyNext (.ref e)) Q E s := by
  have hT : s.TypeIs (.ref e) "enumerate" := ⟨_, he, rfl⟩
  unfold pyNext
  refine wpAny_bind (wpAny_attempt (wpAny_callSpecial?_slot (name := Str.ofString "__next__") hT F.slot_enumerate_next
    (wpAny_call_entry F.slot_enumerate_next hT F.entry_enumerate_next ?_ (F.args_enumerate_next_1 _))))
  obtain ⟨hp, g, d, tk, os⟩ := s
  show wpAny _ _ (field (.ref e) 2 >>= _) _ _ _
  refine wpAny_bind (wpAny_field he rfl (x := .ref it) rfl ?_)
  refine wpAny_bind (W.item i _ _ _ x hx hit fun h₁ hit₁ hs₁ => ?_)
  replace hs₁ : Heap.SameBut it hp h₁ := hs₁
  have he₁ : EnumF h₁ e it (rawInt T) (.bool false) i old := (hs₁.2 e hne).trans he
  show wpAny _ _ (field (.ref e) 3 >>= _) _ _ ⟨h₁, g, d, tk, os⟩
  refine wpAny_bind (wpAny_field he₁ rfl (x := rawInt i) rfl ?_)
  show wpAny _ _ (field (.ref e) 4 >>= _) _ _ ⟨h₁, g, d, tk, os⟩
  refine wpAny_bind (wpAny_field he₁ rfl (x := .none) rfl ?_)
  show wpAny _ _ (mkInt i >>= _) _ _ ⟨h₁, g, d, tk, os⟩
  refine wpAny_bind (wpAny_mkInt ?_)
  show wpAny _ _ (setField (.ref e) 3 (rawInt ((i : Int) + 1)) >>= _) _ _ ⟨h₁, g, d, tk + 1, os⟩
  refine wpAny_bind (wpAny_setField_rec he₁ (by simp) fun h₂ he₂ hs₂ => ?_)
  replace hs₂ : Heap.SameBut e h₁ h₂ := hs₂
  replace he₂ : EnumF h₂ e it (rawInt T) (.bool false) ((i : Int) + 1) old := he₂
  show wpAny _ _ (setField (.ref e) 4 .none >>= _) _ _ ⟨h₂, g, d, tk + 1, os⟩
  refine wpAny_bind (wpAny_setField_rec he₂ (by simp) fun h₃ he₃ hs₃ => ?_)
  replace hs₃ : Heap.SameBut e h₂ h₃ := hs₃
  replace he₃ : EnumF h₃ e it (rawInt T) (.bool false) ((i : Int) + 1) old := he₃
  have hsz : h₃.objs.size = hp.objs.size := by rw [hs₃.1, hs₂.1, hs₁.1]
  have hel : e < hp.objs.size := Heap.lt_size he
  have kp₃ : ∀ b o, b ∉ [e, it] → hp.get? b = some o → h₃.get? b = some o := fun b o hb x =>
    hs₃.extBut b o (fun q => hb (by simp [q])) (hs₂.extBut b o (fun q => hb (by simp [q])) (hs₁.extBut b o (fun q => hb (by simp [q])) x))
  have st₃ : St (i + 1) h₃ := W.frame _ _ _ (W.frame _ _ _ hit₁ fun b hb o x => hs₂.extBut b o (fun q => hef (q ▸ hb)) x) fun b hb o x => hs₃.extBut b o (fun q => hef (q ▸ hb)) x
  show wpAny _ _ (newTuple [.int i tk, x] >>= _) _ _ ⟨h₃, g, d, tk + 1, os⟩
  refine wpAny_bind (wpAny_newTuple ?_)
  have he₄ : EnumF (h₃.push { cls := .type "tuple", data := .seq #[.int i tk, x] }) e it (rawInt T) (.bool false) ((i : Int) + 1) old := Heap.get?_push_of_some _ he₃
  have ht₄ : (h₃.push { cls := .type "tuple", data := .seq #[.int i tk, x] }).get? hp.objs.size = some { cls := .type "tuple", data := .seq #[.int i tk, x] } := by rw [← hsz]; exact Heap.get?_push_size _ rfl
  have st₄ : St (i + 1) (h₃.push { cls := .type "tuple", data := .seq #[.int i tk, x] }) := W.frame _ _ _ st₃ fun b _ o x => Heap.get?_push_of_some _ x
  have kp₄ : ∀ b o, b ∉ [e, it] → hp.get? b = some o → (h₃.push { cls := .type "tuple", data := .seq #[.int i tk, x] }).get? b = some o := fun b o hb x => Heap.get?_push_of_some _ (kp₃ b o hb x)
  generalize h₃.push { cls := .type "tuple", data := .seq #[.int i tk, x] } = h₄ at he₄ ht₄ st₄ kp₄
  show wpAny _ _ (Builtin.SmallTypes.ownedTupleIsFree (.ref e) >>= _) _ _ ⟨h₄, g, d, tk + 1, os⟩
  rw [hsz]
  refine wpAny_bind ?_
  unfold Builtin.SmallTypes.ownedTupleIsFree
  refine wpAny_bind (wpAny_field he₄ rfl (x := rawInt T) rfl ?_)
  have hT4 : h₄.get? T = some oT := kp₄ T oT (by simp [hTe, hTi]) hT0
  show wpAny _ _ (loadIfAlive ((T : Int).toNat) >>= _) _ _ _
  rw [Int.toNat_natCast]
  refine wpAny_bind (wpAny_alive ?_)
  rw [hT4]
  show wpAny _ _ (field (.ref e) 1 >>= _) _ _ _
  refine wpAny_bind (wpAny_field he₄ rfl (x := .bool false) rfl ?_)
  show wpAny _ _ (setField (.ref e) 1 (.bool true) >>= _) _ _ _
  refine wpAny_bind (wpAny_setField_rec he₄ (by simp) fun h₅ he₅ hs₅ => ?_)
  replace hs₅ : Heap.SameBut e h₄ h₅ := hs₅
  replace he₅ : EnumF h₅ e it (rawInt T) (.bool true) ((i : Int) + 1) old := he₅
  refine wpAny_pure ?_
  show wpAny _ _ (ret (.ref hp.objs.size)) _ _ _
  refine wpAny_pure ⟨_, rfl, wpAny_pure (hQ h₅ _ he₅ ?_ ?_ ?_)⟩
  · exact W.frame _ _ _ st₄ fun b hb o x => hs₅.extBut b o (fun q => hef (q ▸ hb)) x
  · exact hs₅.extBut _ _ (Nat.ne_of_gt hel) ht₄
  · exact fun b o hb x => hs₅.extBut b o (fun q => hb (by simp [q])) (kp₄ b o hb x)

theorem enum_stop2 {e it : Addr} {i : Nat} {items : Array Value} {fp : List Addr} {St : Nat → Heap → Prop} {f0 f1 old : Value} {j : Int} {Q : Option Value → Shared → Prop} (W : Draws prog w A.in1 it items fp St)
    (he : EnumF s.heap e it f0 f1 j old) (hit : St i s.heap) (hx : items[i]? = none)
    (hQ : ∀ h', Heap.ExtBut it s.heap h' → Q none { s with heap := h' }) : wpAny (model prog w) A (pyNext (.ref e)) Q E s := by
  have hT : s.TypeIs (.ref e) "enumerate" := ⟨_, he, rfl⟩
  unfold pyNext
  refine wpAny_bind (wpAny_attempt (wpAny_callSpecial?_slot (name := Str.ofString "__next__") hT F.slot_enumerate_next
    (wpAny_call_entry F.slot_enumerate_next hT F.entry_enumerate_next ?_ (F.args_enumerate_next_1 _))))
  show wpAny _ _ (field (.ref e) 2 >>= _) _ _ _
  refine wpAny_bind (wpAny_field he rfl (x := .ref it) rfl ?_)
  refine wpAny_bind (W.stop i _ _ _ hx hit fun h' x he' hx' => ?_)
  obtain ⟨o, ho, hc⟩ := hx'
  refine wpAny_bind (wpAny_isInstance (T := "StopIteration") (b := true) ⟨o, ho, hc⟩ isSubtype_stop ?_)
  exact wpAny_pure (hQ _ he')

namespace F
theorem nolen_en : typeLookup (.type "enumerate") "__len__" = pure none := by rw [typeLookup_type, builtinLookup_eq_fast]; kernel_rfl
theorem nohint_en : typeLookup (.type "enumerate") "__length_hint__" = pure none := by rw [typeLookup_type, builtinLookup_eq_fast]; kernel_rfl
end F

theorem turn_ext {R : Result → Shared → Prop} {S I : Addr} {res : Value} {acc : Array Value} {c : Nat} (v : Value)
    (hn : wpAny (model prog w) A.in1 (pyNext (.ref I)) (fun r s' => r = some v ∧ s'.heap.get? S = some { cls := .type "list", dict := none, data := .seq acc c, slots := #[] } ∧
      codeAny (model prog w) A (.builtin "list.extend.loop" ⟨[.ref S, .ref I, res], []⟩) R { s' with heap := s'.heap.update S (Obj.mapSeq (·.push v)) }) (fun e s' => R (.error e) s') s) (hz : acc.size ≤ sizeLine) :
    codeAny (model prog w) A (.builtin "list.extend.loop" ⟨[.ref S, .ref I, res], []⟩) R s := by
  refine codeAny_builtin F.entry_extend_loop ?_
  rw [Around.under_plainId F.plain_extend_loop _]
  show wpAny _ A.in1 (pyNext (.ref I) >>= _) _ _ s
  refine wpAny_bind (wpAny_mono hn (fun r s' h => ?_) fun _ _ e => e)
  obtain ⟨rfl, hS', hc⟩ := h
  show wpAny _ A.in1 (updateSeq S (·.push v) >>= _) _ _ _
  refine wpAny_bind ?_
  exact wpAny_updateSeq hS' rfl (wpAny_pure ⟨plainId_quiet F.plain_extend_loop _, hc⟩) (by omega) (by show (acc.push v).size ≤ sizeLine + 1; rw [Array.size_push]; omega)
theorem end_ext {R : Result → Shared → Prop} {S I : Addr} {res : Value}
    (hn : wpAny (model prog w) A.in1 (pyNext (.ref I)) (fun r s' => r = none ∧ R (.ok (.ret res)) s') (fun e s' => R (.error e) s') s) :
    codeAny (model prog w) A (.builtin "list.extend.loop" ⟨[.ref S, .ref I, res], []⟩) R s := by
  refine codeAny_builtin F.entry_extend_loop ?_
  rw [Around.under_plainId F.plain_extend_loop _]
  show wpAny _ A.in1 (pyNext (.ref I) >>= _) _ _ s
  refine wpAny_bind (wpAny_mono hn (fun r s' h => ?_) fun _ _ e => e)
  obtain ⟨rfl, hR⟩ := h
  exact wpAny_pure hR

theorem call_list_en {I : Addr} {Q : Value → Shared → Prop} (hT : s.TypeIs (.ref I) "enumerate") (hlt : I < s.heap.objs.size)
    (hit : ∀ s' Q' E', (∀ o, s.heap.get? I = some o → s'.heap.get? I = some o) → Q' (.ref I) s' → wpAny (model prog w) A.in1.in1 (pyIter (.ref I)) Q' E' s')
    (hl : ∀ h' c, (∀ b o, s.heap.get? b = some o → h'.get? b = some o) → h'.objs.size = s.heap.objs.size + 1 → h'.get? s.heap.objs.size = some { cls := .type "list", dict := none, data := .seq #[] c, slots := #[] } →
      codeAny (model prog w) A.in1 (.builtin "list.extend.loop" ⟨[.ref s.heap.objs.size, .ref I, .none], []⟩) (wants (fun r s₂ => r = .none ∧ Q (.ref s.heap.objs.size) s₂) E) { s with heap := h' }) :
    wpAny (model prog w) A (call (.type "list") [.ref I]) Q E s := by
  refine callType_codes (Q₁ := fun obj s₁ => obj = .ref s.heap.objs.size ∧ s₁ = { s with heap := s.heap.push { cls := .type "list", data := .seq #[] } }) F.called_list (F.typeCall_list_1 _) F.entry_list_init
    (code_list_new _ ⟨rfl, rfl⟩) fun obj s₁ h₁ => ?_
  obtain ⟨rfl, rfl⟩ := h₁
  have hS : (s.heap.push { cls := .type "list", data := .seq #[] }).get? s.heap.objs.size = some { cls := .type "list", data := .seq #[] } := Heap.get?_push_size _ rfl
  have hT1 : Shared.TypeIs { s with heap := s.heap.push { cls := .type "list", data := .seq #[] } } (.ref I) "enumerate" := by
    obtain ⟨o, ho, hc⟩ := hT
    exact ⟨o, Heap.get?_push_of_some _ ho, hc⟩
  refine ⟨⟨_, hS, rfl⟩, F.args_list_init_2 _ _, ?_⟩
  show wpAny _ A.in1.in1 (do let old ← Builtin.List.listItems (.ref s.heap.objs.size); Builtin.List.listUpdate (.ref s.heap.objs.size) (fun _ => #[]); letGo old.toList.reverse; Builtin.List.listExtendWith (.ref s.heap.objs.size) (.ref I) .none) _ _ _
  refine wpAny_bind ?_
  unfold Builtin.List.listItems
  refine wpAny_bind (wpAny_seqItems hS rfl (wpAny_pure ?_))
  show wpAny _ A.in1.in1 (updateSeq s.heap.objs.size (fun _ => #[]) >>= fun _ => letGo (#[] : Array Value).toList.reverse >>= fun _ => Builtin.List.listExtendWith (.ref s.heap.objs.size) (.ref I) .none) _ _ _
  refine wpAny_bind (wpAny_updateSeq hS rfl ?_)
  have hS₂ := Heap.get?_update_self (Obj.mapSeq (fun _ => (#[] : Array Value))) hS rfl
  have oth : ∀ b o, b ≠ s.heap.objs.size → (s.heap.push { cls := .type "list", data := .seq #[] }).get? b = some o → ((s.heap.push { cls := .type "list", data := .seq #[] }).update s.heap.objs.size (Obj.mapSeq (fun _ => (#[] : Array Value)))).get? b = some o :=
    fun b o hb e => (Heap.get?_update_other _ _ (Ne.symm hb)).trans e
  have hI : ∃ oI, s.heap.get? I = some oI ∧ oI.cls = .type "enumerate" := hT
  obtain ⟨oI, hoI, hcI⟩ := hI
  have hIne : I ≠ s.heap.objs.size := Nat.ne_of_lt hlt
  have hoI1 : (s.heap.push { cls := .type "list", data := .seq #[] }).get? I = some oI := Heap.get?_push_of_some _ hoI
  have up : ∀ b o, s.heap.get? b = some o → ((s.heap.push { cls := .type "list", data := .seq #[] }).update s.heap.objs.size (Obj.mapSeq (fun _ => (#[] : Array Value)))).get? b = some o :=
    fun b o e => oth b o (Nat.ne_of_lt (Heap.lt_size e)) (Heap.get?_push_of_some _ e)
  have hsz : ((s.heap.push { cls := .type "list", data := .seq #[] }).update s.heap.objs.size (Obj.mapSeq (fun _ => (#[] : Array Value)))).objs.size = s.heap.objs.size + 1 := by rw [Heap.size_update, Heap.size_push]
  refine wpAny_bind (wpAny_letGo ?_)
  generalize (s.heap.push { cls := .type "list", data := .seq #[] }).update s.heap.objs.size (Obj.mapSeq (fun _ => (#[] : Array Value))) = h₂ at hS₂ up hsz
  have hT2 : Shared.TypeIs { s with heap := h₂ } (.ref I) "enumerate" := ⟨oI, up _ _ hoI, hcI⟩
  unfold Builtin.List.listExtendWith
  refine wpAny_bind (wpAny_typeOf hT2 ?_)
  have h1 : Builtin.List.listSameRef (.ref s.heap.objs.size) (.ref I) = false := by simp [Builtin.List.listSameRef, Ne.symm hIne]
  have h2 : (Value.type "enumerate" == Value.type "list") = false := by decide
  have h3 : (Value.type "enumerate" == Value.type "tuple") = false := by decide
  simp only [h1, h2, h3, Bool.or_false, Bool.false_eq_true, if_false]
  refine wpAny_bind (hit _ _ _ (fun o e => up _ _ e) ?_)
  refine wpAny_bind (wpAny_holding ?_)
  unfold Builtin.List.listLengthHint
  refine wpAny_bind (wpAny_specialOf hT2 F.nolen_en ?_)
  show wpAny _ A.in1.in1 (specialOf (Value.ref I) (Str.ofString "__length_hint__") >>= _) _ _ _
  refine wpAny_bind (wpAny_specialOf hT2 F.nohint_en ?_)
  refine wpAny_pure ?_
  show wpAny _ A.in1.in1 (rule "list.extend.makes-room" >>= fun _ => Builtin.List.listTouch (.ref s.heap.objs.size) >>= fun _ =>
    again (.builtin "list.extend.loop" ⟨[.ref s.heap.objs.size, .ref I, .none], []⟩)) _ _ _
  refine wpAny_bind (wpAny_rule ?_)
  refine wpAny_bind ?_
  show wpAny _ A.in1.in1 (updateSeq s.heap.objs.size (·.push .none) >>= fun _ => updateSeq s.heap.objs.size (·.pop)) _ _ _
  refine wpAny_bind (wpAny_updateSeq hS₂ rfl ?_)
  have hS₃ := Heap.get?_update_self (Obj.mapSeq (·.push Value.none)) hS₂ rfl
  refine wpAny_updateSeq (hz := by seq_fits) hS₃ rfl ?_
  have hS₄ := Heap.get?_update_self (Obj.mapSeq (·.pop)) hS₃ rfl
  obtain ⟨c4, hc4⟩ : ∃ c, ((h₂.update s.heap.objs.size (Obj.mapSeq fun x => x.push Value.none)).update s.heap.objs.size (Obj.mapSeq fun x => x.pop)).get? s.heap.objs.size = some { cls := .type "list", dict := none, data := .seq #[] c, slots := #[] } := ⟨_, hS₄⟩
  refine wpAny_pure ⟨plainId_quiet F.plain_extend_loop _, hl _ c4 (fun b o e => ?_) ?_ ?_⟩
  · have hb : b ≠ s.heap.objs.size := Nat.ne_of_lt (Heap.lt_size e)
    exact (Heap.get?_update_other _ _ (Ne.symm hb)).trans ((Heap.get?_update_other _ _ (Ne.symm hb)).trans (up b o e))
  · rw [Heap.size_update, Heap.size_update, hsz]
  · exact hc4

variable {h₀ : Heap} {L : Addr} {m : Str → Option Value} {news : List (Addr × Obj)}
abbrev enumO (I : Addr) : Obj := { cls := .type "enumerate", data := .fields #[.none, .bool false, .ref I, rawInt 0, .none, .none] }

theorem enum_N {ax : Addr} {vs : List Value} {n : Nat} {Q : Value → Shared → Prop} (F : Fr h₀ L s.heap m) (N : News h₀ L s.heap news) (hm : (ax, tupO vs n) ∈ news)
    (h : ∀ I oI h', oI.cls = .type "tuple_iterator" → oI.data = .fields #[.ref ax, .int 0 0] → Fr h₀ L h' m → News h₀ L h' ((I + 1, enumO I) :: (I, oI) :: news) → (∀ q ∈ news, q.1 < I) → Q (.ref (I + 1)) { s with heap := h' }) :
    wpAny (model prog w) A (call (.type "enumerate") [.ref ax]) Q E s := by
  refine call_enum_tuple (items := vs.toArray) ⟨_, (N _ hm).1, rfl, _, rfl⟩ fun h' hE hI hk => ?_
  obtain ⟨oI, hoI, hc, hd⟩ := hI
  refine h _ oI h' hc hd (F.keeps hk) (fun q hq => ?_) fun q hq => Heap.lt_size (N q hq).1
  rcases List.mem_cons.mp hq with rfl | hq
  · exact ⟨hE, Nat.ne_of_gt (Nat.lt_succ_of_lt F.ns.lt), ktu_new F (Nat.le_add_right _ _)⟩
  · rcases List.mem_cons.mp hq with rfl | hq
    · exact ⟨hoI, Nat.ne_of_gt F.ns.lt, ktu_new F (Nat.le_refl _)⟩
    · exact N.grown hk q hq

theorem list_enum2 {I ax : Addr} {oI : Obj} {a0 a1 : Value} {n : Nat} {Q : Value → Shared → Prop} (hh : A.handled = none) (F : Fr h₀ L s.heap m) (N : News h₀ L s.heap ((I + 1, enumO I) :: (I, oI) :: news))
    (hc : oI.cls = .type "tuple_iterator") (hd : oI.data = .fields #[.ref ax, .int 0 0]) (hm : (ax, tupO [a0, a1] n) ∈ news) (hl : ∀ q ∈ news, q.1 < I)
    (h : ∀ D T0 T1 t0 t1 c h' tk', Fr h₀ L h' m → News h₀ L h' ((D, lstO [.ref T0, .ref T1] c) :: (T0, tupO [.int 0 t0, a0] 0) :: (T1, tupO [.int 1 t1, a1] 0) :: news) → (∀ q ∈ news, q.1 < D) → @LT.lt Nat _ D T0 → @LT.lt Nat _ T0 T1 → Q (.ref D) { s with heap := h', toks := tk' }) :
    wpAny (model prog w) A (call (.type "list") [.ref (I + 1)]) Q E s := by
  have hE := N _ (.head _)
  have hIo := N _ (.tail _ (.head _))
  have hax := N _ (.tail _ (.tail _ hm))
  have hsz : I + 1 < s.heap.objs.size := Heap.lt_size hE.1
  have lax : @LT.lt Nat _ ax I := hl _ hm
  have nax : ax ≠ I := Nat.ne_of_lt lax
  have nIe : I + 1 ≠ I := Nat.succ_ne_self _
  refine call_list_en ⟨_, hE.1, rfl⟩ hsz (fun s' Q' E' hk q => wpAny_pyIter_enum (it := I) (i := 0) (old := .none) (hk _ hE.1) q) fun h1 c up hs1 hS => ?_
  have W : Draws prog w A.in1.in1.in1 I #[a0, a1] [I, ax] (fun i h => h.IsTupleIter I ax i ∧ h.IsTuple ax #[a0, a1]) := draws_tuple (A := A.in1.in1.in1) hh I ax nax _
  have hef : I + 1 ∉ [I, ax] := by
    simp only [List.mem_cons, List.not_mem_nil, or_false, not_or]
    exact ⟨Nat.succ_ne_self _, Nat.ne_of_gt (Nat.lt_succ_of_lt lax)⟩
  generalize hD : s.heap.objs.size = D at *
  have hID : @LT.lt Nat _ (I + 1) D := hsz
  have hE1 := up _ _ hE.1
  have hI1 := up _ _ hIo.1
  have ha1 := up _ _ hax.1
  have nDe : D ≠ I + 1 := Nat.ne_of_gt hID
  have nDi : D ≠ I := Nat.ne_of_gt (Nat.lt_of_succ_lt hID)
  refine turn_ext (acc := #[]) (c := c) (.ref h1.objs.size) ?_ (by decide)
  refine enum_turn (i := 0) (x := a0) W hE1 ⟨⟨_, hI1, hc, hd⟩, _, ha1, rfl, _, rfl⟩ rfl nIe hef fun h2 ho2 st2 hT2 hk2 => ⟨rfl, hk2 _ _ (by simp [nDe, nDi]) hS, ?_⟩
  have hoT0 := hT2
  dsimp only at ho2 hoT0 hk2
  clear hT2
  have n1D : @LT.lt Nat _ D h1.objs.size := by rw [hs1]; exact Nat.lt_succ_self _
  generalize hT0 : h1.objs.size = T0 at *
  have nT0D : T0 ≠ D := Nat.ne_of_gt n1D
  have nT0e : T0 ≠ I + 1 := Nat.ne_of_gt (Nat.lt_trans hID n1D)
  have nT0i : T0 ≠ I := Nat.ne_of_gt (Nat.lt_trans (Nat.lt_of_succ_lt hID) n1D)
  have oth3 : ∀ b o, b ≠ D → h2.get? b = some o → (h2.update D (Obj.mapSeq (·.push (.ref T0)))).get? b = some o := fun b o hb e => (Heap.get?_update_other _ _ (Ne.symm hb)).trans e
  obtain ⟨c3, hS3⟩ : ∃ c, (h2.update D (Obj.mapSeq (·.push (.ref T0)))).get? D = some { cls := .type "list", dict := none, data := .seq #[.ref T0] c, slots := #[] } := ⟨_, Heap.get?_update_self (Obj.mapSeq (·.push (Value.ref T0))) (hk2 _ _ (by simp [nDe, nDi]) hS) rfl⟩
  have st3 : (fun i (h : Heap) => h.IsTupleIter I ax i ∧ h.IsTuple ax #[a0, a1]) 1 (h2.update D (Obj.mapSeq (·.push (.ref T0)))) := W.frame _ _ _ st2 fun b hb o e => oth3 b o (by
    rcases List.mem_cons.mp hb with rfl | hb
    · exact Ne.symm nDi
    · rw [List.mem_singleton.mp hb]; exact Nat.ne_of_lt (Nat.lt_trans lax (Nat.lt_of_succ_lt hID))) e
  have ho3 := oth3 _ _ (Ne.symm nDe) ho2
  have hoT3 := oth3 _ _ nT0D hoT0
  have hsz3 : (h2.update D (Obj.mapSeq (·.push (.ref T0)))).objs.size = h2.objs.size := Heap.size_update ..
  have lT0 : @LT.lt Nat _ T0 h2.objs.size := Heap.lt_size hoT0
  generalize h2.update D (Obj.mapSeq (·.push (.ref T0))) = h3 at *
  refine turn_ext (acc := #[.ref T0]) (c := c3) (.ref h3.objs.size) ?_ (show 1 ≤ sizeLine by decide)
  refine enum_turn2 (i := 1) (x := a1) W ho3 hoT3 nT0e nT0i st3 rfl nIe hef fun h4 f1 ho4 st4 hT4 hk4 => ⟨rfl, hk4 _ _ (by simp [nDe, nDi]) hS3, ?_⟩
  dsimp only at ho4 hT4 hk4
  rw [hsz3] at *
  generalize hT1 : h2.objs.size = T1 at *
  have nT1D : T1 ≠ D := Nat.ne_of_gt (Nat.lt_trans n1D lT0)
  have oth5 : ∀ b o, b ≠ D → h4.get? b = some o → (h4.update D (Obj.mapSeq (·.push (.ref T1)))).get? b = some o := fun b o hb e => (Heap.get?_update_other _ _ (Ne.symm hb)).trans e
  obtain ⟨c5, hS5⟩ : ∃ c, (h4.update D (Obj.mapSeq (·.push (.ref T1)))).get? D = some { cls := .type "list", dict := none, data := .seq #[.ref T0, .ref T1] c, slots := #[] } := ⟨_, Heap.get?_update_self (Obj.mapSeq (·.push (Value.ref T1))) (hk4 _ _ (by simp [nDe, nDi]) hS3) rfl⟩
  have st5 : (fun i (h : Heap) => h.IsTupleIter I ax i ∧ h.IsTuple ax #[a0, a1]) 2 (h4.update D (Obj.mapSeq (·.push (.ref T1)))) := W.frame _ _ _ st4 fun b hb o e => oth5 b o (by
    rcases List.mem_cons.mp hb with rfl | hb
    · exact Ne.symm nDi
    · rw [List.mem_singleton.mp hb]; exact Nat.ne_of_lt (Nat.lt_trans lax (Nat.lt_of_succ_lt hID))) e
  have ho5 := oth5 _ _ (Ne.symm nDe) ho4
  have hT05 := oth5 _ _ nT0D (hk4 _ _ (by simp [nT0e, nT0i]) hoT3)
  have hT15 := oth5 _ _ nT1D hT4
  have keep5 : ∀ b o, b ∉ [I + 1, I] → s.heap.get? b = some o → (h4.update D (Obj.mapSeq (·.push (.ref T1)))).get? b = some o := fun b o hb e => by
    have hbD : b ≠ D := hD ▸ Nat.ne_of_lt (Heap.lt_size e)
    exact oth5 b o hbD (hk4 b o hb (oth3 b o hbD (hk2 b o hb (up b o e))))
  generalize h4.update D (Obj.mapSeq (·.push (.ref T1))) = h5 at *
  refine end_ext ?_
  refine enum_stop2 (i := 2) W ho5 st5 rfl fun h6 hx => ⟨rfl, rfl, ?_⟩
  dsimp only at hx ⊢
  have keep6 : ∀ b o, b ∉ [I + 1, I] → s.heap.get? b = some o → h6.get? b = some o := fun b o hb e => hx b o (fun q => hb (by simp [q])) (keep5 b o hb e)
  have kp : ∀ b o, h₀.get? b = some o → h6.get? b = some o := fun b o e => by
    refine keep6 b o ?_ (F.keep b o e)
    intro hb
    rcases List.mem_cons.mp hb with rfl | hb
    · exact (Option.some_ne_none _ (e.symm.trans hE.2.2)).elim
    · rw [List.mem_singleton.mp hb] at e
      exact (Option.some_ne_none _ (e.symm.trans hIo.2.2)).elim
  have nn : ∀ b, @LE.le Nat _ s.heap.objs.size b → h₀.get? b = none ∧ b ≠ L := fun b hb => ⟨ktu_new F hb, Nat.ne_of_gt (Nat.lt_of_lt_of_le F.ns.lt hb)⟩
  have f1 := nn D (Nat.le_of_eq hD)
  have f2 := nn T0 (Nat.le_trans (Nat.le_of_eq hD) (Nat.le_of_lt n1D))
  have f3 := nn T1 (Nat.le_trans (Nat.le_of_eq hD) (Nat.le_of_lt (Nat.lt_trans n1D lT0)))
  have N6 : News h₀ L h6 ((D, lstO [.ref T0, .ref T1] c5) :: (T0, tupO [.int 0 s.toks, a0] 0) :: (T1, tupO [.int 1 (s.toks + 1), a1] 0) :: news) := by
    intro q hq
    rcases List.mem_cons.mp hq with rfl | hq
    · exact ⟨hx _ _ nDi hS5, f1.2, f1.1⟩
    rcases List.mem_cons.mp hq with rfl | hq
    · exact ⟨hx _ _ nT0i hT05, f2.2, f2.1⟩
    rcases List.mem_cons.mp hq with rfl | hq
    · exact ⟨hx _ _ (Nat.ne_of_gt (Nat.lt_trans (Nat.lt_of_succ_lt hID) (Nat.lt_trans n1D lT0))) hT15, f3.2, f3.1⟩
    · have hqI := hl q hq
      have z := N q (.tail _ (.tail _ hq))
      exact ⟨keep6 _ _ (by
        simp only [List.mem_cons, List.not_mem_nil, or_false, not_or]
        exact ⟨Nat.ne_of_lt (Nat.lt_succ_of_lt hqI), Nat.ne_of_lt hqI⟩) z.1, z.2⟩

  exact h D T0 T1 _ _ _ h6 _ ⟨F.ns.at' fun o e => keep6 _ o (by simp [Ne.symm hE.2.1, Ne.symm hIo.2.1]) e, kp, F.above⟩ N6 (fun q hq => Nat.lt_trans (hl q hq) (Nat.lt_of_succ_lt hID)) n1D lT0
end
end Mine
end

section
open PySem PySem.W PySem.Calls PyProof.Rows
namespace Mine
open LCg (NsObj lst)
def Sub0 (l n : List (Addr × Obj)) : Prop := ∀ p ∈ l, p ∈ n
section
variable {prog : Program} {w : World} {A : Around} {E : Value → Shared → Prop} {s : Shared} {h₀ : Heap} {L : Addr} {m : Str → Option Value} {env : Env}

/-- one comprehension's loop, any target, any tests -/
theorem compLoop_any {elt target iter : Expr} {ifs : List Expr} {scope : Scope} {pos : Pos} {it acc : Value} {env : Env} {R : Result → Shared → Prop} (I : Nat → Shared → Prop)
    (turn : ∀ n s, I n s → wpAny (model prog w) A (pyNext it) (fun r s₁ => match r with
      | none => R (.ok .next) s₁
      | some v => wpAny (model prog w) A (letOwnedTupleGo target it v) (fun _ s₁' => wpAny (model prog w) A (assign target env v) (fun _ s₂ =>
          wpAny (model prog w) A (forIn ifs true fun c r => if r = true then do let ok ← isTrue c env (eval c env); pure (ForInStep.yield ok) else pure (ForInStep.yield r)) (fun ok s₃ =>
            if ok = true then wpAny (model prog w) A (eval elt env) (fun x s₄ =>
              wpAny (model prog w) A (call (.builtin "list.append") [acc, x]) (fun _ s₅ => ∃ m, m < n ∧ I m s₅) (notedBy (model prog w) A env fun e s' => R (.error e) s') s₄) (notedBy (model prog w) A env fun e s' => R (.error e) s') s₃
            else ∃ m, m < n ∧ I m s₃) (notedBy (model prog w) A env fun e s' => R (.error e) s') s₂)
          (notedBy (model prog w) A env fun e s' => R (.error e) s') s₁') (notedBy (model prog w) A env fun e s' => R (.error e) s') s₁) (notedBy (model prog w) A env fun e s' => R (.error e) s') s)
    (n : Nat) (h : I n s) : codeAny (model prog w) A (.compLoop (.ListComp elt [⟨target, iter, ifs, 0⟩] scope pos) 0 it acc env) R s := by
  refine codeAny_loop rfl I (fun n s hI => ?_) n h
  show wpAny _ A ((compTurn (.ListComp elt [⟨target, iter, ifs, 0⟩] scope pos) 0 it acc env).onRaise (fun x => do noteFrame x env; theTreesLotGoes x)) _ _ s
  refine wpAny_noted ?_
  rw [compTurn_list]
  refine wpAny_bind (wpAny_standAt (wpAny_bind (wpAny_mono (turn n s hI) (fun r s₁ h₁ => ?_) fun _ _ h' => h')))
  cases r with
  | none => exact wpAny_pure h₁
  | some v =>
    refine wpAny_bind (wpAny_mono h₁ (fun _ s₁' h₁' => ?_) fun _ _ h' => h')
    refine wpAny_bind (wpAny_mono h₁' (fun _ s₂ h₂ => wpAny_bind (wpAny_mono h₂ (fun ok s₃ h₃ => ?_) fun _ _ h' => h')) fun _ _ h' => h')
    cases ok with
    | false => exact wpAny_pure ⟨rfl, h₃⟩
    | true =>
      exact wpAny_bind (wpAny_bind (wpAny_mono h₃ (fun x s₄ h₄ => wpAny_bind (wpAny_mono h₄ (fun _ s₅ h₅ => wpAny_pure (wpAny_pure ⟨rfl, h₅⟩)) fun _ _ h' => h')) fun _ _ h' => h'))

/-- what an item gives the names of the target -/
def Gives : Itm → List Str → (Str → Option Value) → Prop
  | .val v, [x], m => m x = some v
  | .pair f y, [a, b], m => ∃ t, m a = some (f t) ∧ m b = some y
  | _, _, _ => False

/-- an iterator and its written items -/
def Src (prog : Program) (w : World) (A : Around) (h₀ : Heap) (L : Addr) (target : Expr) (I : Addr) (xs : List Itm) (ws : List (Addr × String)) (keep : List (Addr × Obj)) (h : Heap) : Prop :=
  ∃ (fp wr : List Addr) (n : Nat) (P Md : Nat → Value → Heap → Prop) (St : Nat → Heap → Prop), KTurns prog w A target I fp wr n P Md St ∧ n = xs.length ∧ (∀ i v h, P i v h → ∃ a, xs[i]? = some a ∧ a.Is v h) ∧
    (∀ i h, St i h → ∃ its, Objs ws its ∧ ∀ p ∈ its, h.get? p.1 = some p.2) ∧ (∀ b ∈ ws.map (·.1), b ∈ fp ∧ h₀.get? b = none ∧ b ≠ L) ∧ (∀ b ∈ wr, b ∈ ws.map (·.1)) ∧
    (∀ b ∈ fp, b ∈ ws.map (·.1) ∨ ∃ o, (b, o) ∈ keep) ∧ St 0 h ∧ (∀ b ∈ fp, ∃ o, h.get? b = some o) ∧
    (∀ i (s : Shared) (Q : Value → Shared → Prop) (E : Value → Shared → Prop), St i s.heap → Q (.ref I) s → wpAny (model prog w) A (pyIter (.ref I)) Q E s)

theorem AllObj.mono {k k' : List (Addr × Obj) → Prop} (hk : ∀ its, k its → k' its) : ∀ {ws : List (Addr × String)}, AllObj ws k → AllObj ws k'
  | [], h => hk _ h
  | _ :: _, h => fun o ho => AllObj.mono (fun its => hk (_ :: its)) (h o ho)
def OffOne (a : Addr) : List (Addr × Obj) → Prop
  | [] => True
  | q :: r => (@Ne Nat a q.1) ∧ OffOne a r
theorem OffOne.mem {a : Addr} : ∀ {l : List (Addr × Obj)}, OffOne a l → ∀ q ∈ l, a ≠ q.1
  | [], _, _, h => nomatch h
  | _ :: _, x, q, h => by
    rcases List.mem_cons.mp h with rfl | h
    · exact x.1
    · exact OffOne.mem x.2 q h
def CEnd (h₀ : Heap) (L : Addr) (m : Str → Option Value) (s : Shared) (its : List (Addr × Obj)) (C : Addr) (oC : Obj) (D : Addr) (oD : Obj) (news : List (Addr × Obj)) (rest : Value → List (Addr × Obj) → Prop) (y : Value) (s₂ : Shared) : Prop :=
  ∃ h' tk add, s₂ = { s with heap := h', toks := tk } ∧ Fr h₀ L h' m ∧ News h₀ L h' (its ++ ((C, oC) :: (D, oD) :: (add ++ news))) ∧ (∀ p ∈ add, p ∈ news ∨ (p.1 ≠ C ∧ p.1 ≠ D ∧ ∀ q ∈ its, p.1 ≠ q.1)) ∧ rest y add

def COff (its : List (Addr × Obj)) (C D : Addr) (news : List (Addr × Obj)) : Prop := ∀ p ∈ news, p.1 ≠ C ∧ p.1 ≠ D ∧ ∀ q ∈ its, p.1 ≠ q.1

def CRest (prog : Program) (w : World) (A : Around) (h₀ : Heap) (L : Addr) (m : Str → Option Value) (env : Env) (elt : Expr) (ifs : List Expr) (names : List Str) (scope : Scope) (cl : List (Str × Addr)) (s : Shared) (ws : List (Addr × String)) (Fin : List Value → List (Addr × Obj) → Prop) :
    List Itm → List Value → List (Addr × Obj) → Prop
  | [], ys, news => Fin ys news
  | a :: r, ys, news => ∀ h tk C oC D m₂ (E' : Value → Shared → Prop), NsObj oC m₂ → Gives a names m₂ → Fr h₀ L h m → AllObj ws (fun its => News h₀ L h (its ++ ((C, oC) :: (D, lst ys) :: news)) → COff its C D news →
      wpAny (model prog w) A (forIn ifs true fun c r => if r = true then do let ok ← isTrue c (compEnvC scope cl C env) (eval c (compEnvC scope cl C env)); pure (ForInStep.yield ok) else pure (ForInStep.yield r)) (fun ok s₃ =>
        if ok = true then wpAny (model prog w) A (eval elt (compEnvC scope cl C env)) (CEnd h₀ L m s its C oC D (lst ys) news (fun y add => CRest prog w A h₀ L m env elt ifs names scope cl s ws Fin r (ys ++ [y]) (add ++ news))) E' s₃
        else CEnd h₀ L m s its C oC D (lst ys) news (fun _ add => CRest prog w A h₀ L m env elt ifs names scope cl s ws Fin r ys (add ++ news)) .none s₃) E' { s with heap := h, toks := tk })

def Fits : Itm → List Str → Prop
  | .val _, [_] => True
  | .pair _ _, [_, _] => True
  | _, _ => False
/-- the target binds what the item gives -/
def BindsT (prog : Program) (w : World) (A : Around) (target : Expr) (names : List Str) (scope : Scope) (cl : List (Str × Addr)) (env : Env) : Prop :=
  ∀ (a : Itm) (v : Value) (s : Shared) (C : Addr) (m' : Str → Option Value) (Q : Unit → Shared → Prop) (E : Value → Shared → Prop), a.Is v s.heap → Fits a names → s.heap.Ns C m' →
    (∀ h₃ tk m₂, h₃.Ns C m₂ → Gives a names m₂ → (∀ b o, b ≠ C → s.heap.get? b = some o → h₃.get? b = some o) → Q () { s with heap := h₃, toks := tk }) → wpAny (model prog w) A (assign target (compEnvC scope cl C env) v) Q E s

theorem binds_name {x : Str} {px : Pos} {scope : Scope} {cl : List (Str × Addr)} (hx : scope.names.lookup x = some .local) (hkind : scope.kind = .function) : BindsT prog w A (.Name x px) [x] scope cl env := by
  intro a v s C m' Q E hv hf hn hQ
  cases a with
  | val u =>
    have e : v = u := hv
    subst e
    refine wpAny_assign_Name (wpAny_storeName_local (lookup_relabel_local hx) hn (fun h₃ hn₃ hs₃ => ?_) (by simp [compEnvC, relabel, hkind]))
    exact hQ h₃ _ _ hn₃ (by simp [Gives]) fun b o hb e => hs₃.extBut b o hb e
  | _ => exact hf.elim
theorem binds_pair {x x₂ : Str} {px px₂ tp : Pos} {k : Nat} {scope : Scope} {cl : List (Str × Addr)} (hh : A.handled = none) (hx : scope.names.lookup x = some .local) (hx₂ : scope.names.lookup x₂ = some .local) (hxx : x ≠ x₂) (hkind : scope.kind = .function) :
    BindsT prog w A (.Tuple [.Name x px, .Name x₂ px₂] k tp) [x, x₂] scope cl env := by
  intro a v s C m' Q E hv hf hn hQ
  cases a with
  | pair f y =>
    obtain ⟨T, t, rfl, ht⟩ := hv
    refine assign_Tuple_tuple hh ht rfl rfl fun h₅ he => ?_
    have he' : ∀ b o, s.heap.get? b = some o → h₅.get? b = some o := fun b o e => he b o (Nat.ne_of_lt (Heap.lt_size e)) e
    refine assignInOrder_cons (wpAny_assign_Name (wpAny_storeName_local (lookup_relabel_local hx) (hn.at' fun o e => he' _ o e) (fun h₆ hn₆ hs₆ => ?_) (by simp [compEnvC, relabel, hkind])))
    refine assignInOrder_cons (wpAny_assign_Name (wpAny_storeName_local (lookup_relabel_local hx₂) hn₆ (fun h₃ hn₃ hs₃ => ?_) (by simp [compEnvC, relabel, hkind])))
    refine assignInOrder_nil ?_
    exact hQ h₃ _ _ hn₃ ⟨t, by simp [hxx], by simp⟩ fun b o hb e => hs₃.extBut b o hb (hs₆.extBut b o hb (he' b o e))
  | _ => exact hf.elim

theorem comp_block {elt target iter : Expr} {ifs : List Expr} {names : List Str} {scope : Scope} {cl : List (Str × Addr)} {pos : Pos} {s₂ : Shared} {I : Addr} {xs : List Itm} {ws : List (Addr × String)} {keep news : List (Addr × Obj)}
    {Fin : List Value → List (Addr × Obj) → Prop} {RR : Value → Addr → Result → Shared → Prop} (S : Src prog w A h₀ L target I xs ws keep s₂.heap) (hsz : xs.length ≤ sizeLine) (hfit : ∀ a ∈ xs, Fits a names) (hb : BindsT prog w A target names scope cl env)
    (hcell : ∀ y ∈ scope.names, y.2 ≠ .cell) (hkind : scope.kind = .function) (F : Fr h₀ L s₂.heap m) (N : News h₀ L s₂.heap news) (hk : Sub0 keep news) (off : ∀ p ∈ news, p.1 ∉ ws.map (·.1))
    (R : CRest prog w A h₀ L m env elt ifs names scope cl s₂ ws Fin xs [] news)
    (hRR : ∀ D C h tk m' ys news', Fr h₀ L h m → News h₀ L h ((D, lst ys) :: news') → (∀ p ∈ news', p.1 ≠ C ∧ p.1 ≠ D) → h.Ns C m' → h₀.get? C = none → h₀.get? D = none → C ≠ L → D ≠ L → C ≠ D → (∀ p ∈ news, p.1 < D) → Fin ys news' → RR (.ref D) C (.ok .next) { s₂ with heap := h, toks := tk }) :
    wpAny (model prog w) A (newList []) (fun acc s₃ => wpAny (model prog w) A (newFunctionEnv scope env.globals cl [] env.qual none .none (some env)) (fun cenv s₄ =>
      codeAny (model prog w) A (.compStart (.ListComp elt [⟨target, iter, ifs, 0⟩] scope pos) 0 (.ref I) acc { cenv with scope := relabel scope env }) (RR acc cenv.locals) s₄) E s₃) E s₂ := by
  obtain ⟨fp, wr, n, P, Md, St, W, hn, hP, hobj, hws, hwr, hfp, hst, hlive, hself⟩ := S
  refine wpAny_newObj_type (wpAny_newFunctionEnv hcell (by intro y hy; simp at hy) (fun h₁ hns₁ hsb₁ => ?_) hkind)
  dsimp only at hns₁ hsb₁ ⊢
  generalize hH2 : s₂.heap.push { cls := .type "list", dict := none, data := .seq ([] : List Value).toArray } = H2 at hns₁ hsb₁ ⊢
  have hC : H2.objs.size = s₂.heap.objs.size + 1 := by rw [← hH2, Heap.size_push]
  have hDC : s₂.heap.objs.size ≠ H2.objs.size := by rw [hC]; exact Nat.ne_of_lt (Nat.lt_succ_self _)
  have below : ∀ b, b < s₂.heap.objs.size → b ≠ H2.objs.size ∧ b ≠ s₂.heap.objs.size := fun b hb => ⟨by rw [hC]; exact Nat.ne_of_lt (Nat.lt_succ_of_lt hb), Nat.ne_of_lt hb⟩
  have old : ∀ b o, s₂.heap.get? b = some o → h₁.get? b = some o := fun b o e => hsb₁.extBut b o (below b (Heap.lt_size e)).1 (Heap.get?_push_of_some _ (hH2 ▸ Heap.get?_push_of_some _ e))
  have hacc : h₁.get? s₂.heap.objs.size = some (lst []) := hsb₁.extBut _ _ hDC (Heap.get?_push_of_some _ (hH2 ▸ Heap.get?_push_size _ rfl))
  have fresh₀ : ∀ a, s₂.heap.objs.size ≤ a → h₀.get? a = none := fun a ha => by
    cases e : h₀.get? a with
    | none => rfl
    | some o' => exact absurd (Heap.lt_size (F.keep a o' e)) (Nat.not_lt.mpr ha)
  have hD₀ : h₀.get? s₂.heap.objs.size = none := fresh₀ _ (Nat.le_refl _)
  have hC₀ : h₀.get? H2.objs.size = none := fresh₀ _ (by rw [hC]; exact Nat.le_succ _)
  have hLlt : L < s₂.heap.objs.size := F.ns.lt
  have hDL : s₂.heap.objs.size ≠ L := Ne.symm (below L hLlt).2
  have hCL : H2.objs.size ≠ L := Ne.symm (below L hLlt).1
  have fplt : ∀ b ∈ fp, b < s₂.heap.objs.size := fun b hb => by obtain ⟨o, e⟩ := hlive b hb; exact Heap.lt_size e
  have hst₁ : St 0 h₁ := W.frame _ _ _ hst fun b _ o e => old b o e
  have wlt : ∀ b ∈ ws.map (·.1), b < s₂.heap.objs.size := fun b hb => fplt b (hws b hb).1
  have hwC : H2.objs.size ∉ wr := fun q => (below _ (wlt _ (hwr _ q))).1 rfl
  have hwD : s₂.heap.objs.size ∉ wr := fun q => (below _ (wlt _ (hwr _ q))).2 rfl
  have hwL : L ∉ wr := fun q => (hws _ (hwr _ q)).2.2 rfl
  have hw₀ : ∀ b o, h₀.get? b = some o → b ∉ wr := fun b o e q => by rw [(hws _ (hwr _ q)).2.1] at e; cases e
  have offC : ∀ p ∈ news, p.1 ≠ H2.objs.size ∧ p.1 ≠ s₂.heap.objs.size ∧ p.1 ∉ ws.map (·.1) := fun p hp => ⟨(below _ (Heap.lt_size (N p hp).1)).1, (below _ (Heap.lt_size (N p hp).1)).2, off p hp⟩
  have loop : ∀ s₃ : Shared, s₃ = { s₂ with heap := h₁, toks := s₂.toks + ([] : List (Str × Value)).length } →
      codeAny (model prog w) A (.compLoop (.ListComp elt [⟨target, iter, ifs, 0⟩] scope pos) 0 (.ref I) (.ref s₂.heap.objs.size) (compEnvC scope cl H2.objs.size env))
        (RR (.ref s₂.heap.objs.size) H2.objs.size) s₃ := by
    rintro s₃ rfl
    refine compLoop_any
      (fun k s' => ∃ h' tk i ys m' news', s' = { s₂ with heap := h', toks := tk } ∧ i ≤ n ∧ k = n + 1 - i ∧ ys.length ≤ i ∧ St i h' ∧ Fr h₀ L h' m ∧ h'.Ns H2.objs.size m' ∧ News h₀ L h' ((s₂.heap.objs.size, lst ys) :: news') ∧
        (∀ p ∈ news', p.1 ≠ H2.objs.size ∧ p.1 ≠ s₂.heap.objs.size ∧ p.1 ∉ ws.map (·.1)) ∧ Sub0 keep news' ∧ CRest prog w A h₀ L m env elt ifs names scope cl s₂ ws Fin (xs.drop i) ys news') ?_ (n + 1)
      ⟨h₁, _, 0, [], _, news, rfl, Nat.zero_le _, rfl, Nat.le_refl _, hst₁, F.keeps old, hns₁, fun p hp => ?_, offC, hk, by rw [List.drop_zero]; exact R⟩
    · rintro k s' ⟨h', tk, i, ys, m', news', rfl, hi, rfl, hyl, hst', F', hn', N', off', hk', R'⟩
      by_cases hlt : i < n
      · have hlt' : i < xs.length := hn ▸ hlt
        refine W.item i _ _ _ hlt hst' fun v h₂ tk₂ hMd hk₂ => ?_
        refine W.go i v _ _ _ hMd fun h₃ hPv hst₃ hk₃ => ?_
        replace hk₃ : ∀ b o, b ∉ wr → h₂.get? b = some o → h₃.get? b = some o := hk₃
        have up3 : ∀ b o, b ∉ wr → h'.get? b = some o → h₃.get? b = some o := fun b o hb e => hk₃ b o hb (hk₂ b o hb e)
        obtain ⟨a, ha, hav⟩ := hP i v h₃ hPv
        have hdrop : xs.drop i = a :: xs.drop (i + 1) := by
          rw [List.drop_eq_getElem_cons hlt']
          congr 1
          exact Option.some.inj ((List.getElem?_eq_getElem hlt').symm.trans ha)
        rw [hdrop] at R'
        refine hb a v _ H2.objs.size m' _ _ hav (hfit a (List.mem_of_getElem? ha)) (hn'.at' fun o e => up3 _ o hwC e) fun h₄ tk₄ m₂ hn₄ hg hk₄ => ?_
        replace hk₄ : ∀ b o, b ≠ H2.objs.size → h₃.get? b = some o → h₄.get? b = some o := hk₄
        have up : ∀ b o, b ∉ wr → b ≠ H2.objs.size → h'.get? b = some o → h₄.get? b = some o := fun b o hb hc e => hk₄ b o hc (up3 b o hb e)
        have hst₄ : St (i + 1) h₄ := W.frame _ _ _ hst₃ fun b hb o e => hk₄ b o (below b (fplt b hb)).1 e
        obtain ⟨its, hits, hval⟩ := hobj (i + 1) h₄ hst₄
        have hmap := hits.map
        obtain ⟨oC, heC, hoC⟩ := LCg.ns_obj hn₄
        have F₄ : Fr h₀ L h₄ m := ⟨F'.ns.at' fun o e => up L o hwL (Ne.symm hCL) e, fun b o e => up b o (hw₀ b o e) (fun q => by rw [q, hC₀] at e; cases e) (F'.keep b o e), F'.above⟩
        have N₄ : News h₀ L h₄ (its ++ ((H2.objs.size, oC) :: (s₂.heap.objs.size, lst ys) :: news')) := fun p hp => by
          rcases List.mem_append.mp hp with hp | hp
          · have hq : p.1 ∈ ws.map (·.1) := by rw [← hmap]; exact List.mem_map.mpr ⟨p, hp, rfl⟩
            exact ⟨hval p hp, (hws _ hq).2.2, (hws _ hq).2.1⟩
          rcases List.mem_cons.mp hp with rfl | hp
          · exact ⟨heC, hCL, hC₀⟩
          rcases List.mem_cons.mp hp with rfl | hp
          · exact ⟨up _ _ hwD hDC (N' _ (.head _)).1, hDL, hD₀⟩
          · have z := N' p (List.mem_cons_of_mem _ hp)
            exact ⟨up _ _ (fun q => (off' p hp).2.2 (hwr _ q)) (off' p hp).1 z.1, z.2⟩
        have inI : ∀ q ∈ its, q.1 ∈ ws.map (·.1) := fun q hq => by rw [← hmap]; exact List.mem_map.mpr ⟨q, hq, rfl⟩
        have coff : COff its H2.objs.size s₂.heap.objs.size news' := fun p hp => ⟨(off' p hp).1, (off' p hp).2.1, fun q hq e => (off' p hp).2.2 (e ▸ inI q hq)⟩
        -- what the turn's end leaves for the loop
        have again : ∀ {ys' : List Value} {h₅ : Heap} {tk₅ : Nat} {add : List (Addr × Obj)}, ys'.length ≤ i + 1 → Fr h₀ L h₅ m → News h₀ L h₅ (its ++ ((H2.objs.size, oC) :: (s₂.heap.objs.size, lst ys') :: (add ++ news'))) →
            (∀ p ∈ add, p ∈ news' ∨ (p.1 ≠ H2.objs.size ∧ p.1 ≠ s₂.heap.objs.size ∧ ∀ q ∈ its, p.1 ≠ q.1)) → CRest prog w A h₀ L m env elt ifs names scope cl s₂ ws Fin (xs.drop (i + 1)) ys' (add ++ news') →
            ∃ k', k' < n + 1 - i ∧ ∃ h' tk i ys m' news', ({ s₂ with heap := h₅, toks := tk₅ } : Shared) = { s₂ with heap := h', toks := tk } ∧ i ≤ n ∧ k' = n + 1 - i ∧ ys.length ≤ i ∧ St i h' ∧ Fr h₀ L h' m ∧ h'.Ns H2.objs.size m' ∧ News h₀ L h' ((s₂.heap.objs.size, lst ys) :: news') ∧
              (∀ p ∈ news', p.1 ≠ H2.objs.size ∧ p.1 ≠ s₂.heap.objs.size ∧ p.1 ∉ ws.map (·.1)) ∧ Sub0 keep news' ∧ CRest prog w A h₀ L m env elt ifs names scope cl s₂ ws Fin (xs.drop i) ys news' := by
          intro ys' h₅ tk₅ add hy F₅ N₅ ho r
          have offn : ∀ p ∈ add ++ news', p.1 ≠ H2.objs.size ∧ p.1 ≠ s₂.heap.objs.size ∧ p.1 ∉ ws.map (·.1) := fun p hp => by
            rcases List.mem_append.mp hp with hp | hp
            · rcases ho p hp with hp | ⟨a1, a2, a3⟩
              · exact off' p hp
              · refine ⟨a1, a2, fun q => ?_⟩
                rw [← hmap] at q
                obtain ⟨e, he, hq⟩ := List.mem_map.mp q
                exact a3 e he hq.symm
            · exact off' p hp
          refine ⟨n + 1 - (i + 1), by omega, h₅, tk₅, i + 1, ys', m₂, add ++ news', rfl, hlt, rfl, hy, ?_, F₅, hoC.ns (N₅ _ (List.mem_append_right _ (.head _))).1, fun p hp => ?_, offn, fun p hp => List.mem_append_right _ (hk' p hp), r⟩
          · refine W.frame _ _ _ hst₄ fun b hb o e => ?_
            rcases hfp b hb with hq | ⟨o', hq⟩
            · rw [← hmap] at hq
              obtain ⟨q, hqm, hqe⟩ := List.mem_map.mp hq
              have z := hval q hqm
              have z5 := (N₅ q (List.mem_append_left _ hqm)).1
              rw [hqe] at z z5
              rw [e] at z
              rw [Option.some.inj z]
              exact z5
            · have hm := hk' _ hq
              have z := (N₄ _ (List.mem_append_right _ (List.mem_cons_of_mem _ (List.mem_cons_of_mem _ hm)))).1
              have z' : h₄.get? b = some o' := z
              rw [e] at z'
              rw [Option.some.inj z']
              exact (N₅ _ (List.mem_append_right _ (List.mem_cons_of_mem _ (List.mem_cons_of_mem _ (List.mem_append_right _ hm))))).1
          · rcases List.mem_cons.mp hp with rfl | hp
            · exact N₅ _ (List.mem_append_right _ (List.mem_cons_of_mem _ (.head _)))
            · exact N₅ _ (List.mem_append_right _ (List.mem_cons_of_mem _ (List.mem_cons_of_mem _ hp)))
        refine wpAny_mono ((R' h₄ tk₄ H2.objs.size oC s₂.heap.objs.size m₂ _ hoC hg F₄).at hits N₄ coff) (fun ok s₄ h₅ => ?_) fun _ _ e => e
        cases ok with
        | false =>
          obtain ⟨h₅, tk₅, add, rfl, F₅, N₅, ho, r⟩ := h₅
          exact again (Nat.le_succ_of_le hyl) F₅ N₅ ho r
        | true =>
          refine wpAny_mono h₅ (fun y s₅ h₆ => ?_) fun _ _ e => e
          obtain ⟨h₅, tk₅, add, rfl, F₅, N₅, ho, r⟩ := h₆
          have zD := (N₅ (s₂.heap.objs.size, lst ys) (List.mem_append_right _ (List.mem_cons_of_mem _ (.head _)))).1
          refine append_at (hsz := by show ys.toArray.size ≤ sizeLine; rw [List.size_toArray]; exact Nat.le_trans hyl (Nat.le_trans hi (hn ▸ hsz))) zD fun h₆ hs₆ hD₆ => ?_
          refine again (ys' := ys ++ [y]) (by rw [List.length_append, List.length_singleton]; exact Nat.succ_le_succ hyl) (F₅.change hs₆ hDL hD₀) (fun p hp => ?_) ho r
          rcases List.mem_append.mp hp with hq | hp
          · have z := N₅ p (List.mem_append_left _ hq)
            exact ⟨hs₆.extBut _ _ (fun e => (below _ (wlt _ (inI p hq))).2 e) z.1, z.2⟩
          rcases List.mem_cons.mp hp with rfl | hp
          · have z := N₅ _ (List.mem_append_right _ (.head _))
            exact ⟨hs₆.extBut _ _ (Ne.symm hDC) z.1, z.2⟩
          rcases List.mem_cons.mp hp with rfl | hp
          · exact ⟨hD₆.trans (congrArg some (LCg.lst_snoc ys y)), hDL, hD₀⟩
          · have z := N₅ p (List.mem_append_right _ (List.mem_cons_of_mem _ (List.mem_cons_of_mem _ hp)))
            refine ⟨hs₆.extBut _ _ ?_ z.1, z.2⟩
            rcases List.mem_append.mp hp with hp | hp
            · rcases ho p hp with hp | hp
              · exact (off' p hp).2.1
              · exact hp.2.1
            · exact (off' p hp).2.1
      · obtain rfl : i = n := Nat.le_antisymm hi (Nat.not_lt.mp hlt)
        have z : xs.drop i = [] := List.drop_eq_nil_of_le (Nat.le_of_eq hn.symm)
        rw [z] at R'
        refine W.done _ _ _ hst' fun h₂ tk₂ hk₂ => ?_
        exact hRR _ _ h₂ tk₂ m' ys news' ⟨F'.ns.at' fun o e => hk₂ L o hwL e, fun b o e => hk₂ b o (hw₀ b o e) (F'.keep b o e), F'.above⟩ (fun p hp => by
          have z := N' p hp
          refine ⟨hk₂ _ _ ?_ z.1, z.2⟩
          rcases List.mem_cons.mp hp with rfl | hp
          · exact hwD
          · exact fun q => (off' p hp).2.2 (hwr _ q)) (fun p hp => ⟨(off' p hp).1, (off' p hp).2.1⟩) (hn'.at' fun o e => hk₂ _ o hwC e) hC₀ hD₀ hCL hDL (Ne.symm hDC) (fun p hp => Heap.lt_size (N p hp).1) R'
    · rcases List.mem_cons.mp hp with rfl | hp
      · exact ⟨hacc, hDL, hD₀⟩
      · exact ⟨old _ _ (N p hp).1, (N p hp).2⟩
  exact codeAny_compStart_list (loop _ rfl) (hself 0 _ _ _ hst₁ (loop _ rfl))

theorem off1_of {D : Addr} : ∀ {l : List (Addr × Obj)}, (∀ p ∈ l, p.1 ≠ D) → LCg.Off1 D l
  | [], _ => trivial
  | _ :: _, h => ⟨h _ List.mem_cons_self, off1_of fun p hp => h p (List.mem_cons_of_mem _ hp)⟩
/-- the new list, with what was made beside it -/
def CFin (h₀ : Heap) (L : Addr) (m : Str → Option Value) (s : Shared) (Q : Value → Shared → Prop) (news₀ : List (Addr × Obj)) (ys : List Value) (news : List (Addr × Obj)) : Prop :=
  ∀ D h tk, Fr h₀ L h m → News h₀ L h ((D, lst ys) :: news) → LCg.Off1 D news → (∀ p ∈ news₀, p.1 < D) → Q (.ref D) { s with heap := h, toks := tk }

/-- the iterable, reached: its iterator and the turns -/
def CSrc (prog : Program) (w : World) (A : Around) (h₀ : Heap) (L : Addr) (m : Str → Option Value) (env : Env) (elt target : Expr) (ifs : List Expr) (names : List Str) (scope : Scope) (cl : List (Str × Addr)) (Fn : Shared → List (Addr × Obj) → List Value → List (Addr × Obj) → Prop) (it : Value) (s₂ : Shared) : Prop :=
  ∃ I xs ws keep news, it = .ref I ∧ Src prog w A h₀ L target I xs ws keep s₂.heap ∧ xs.length ≤ sizeLine ∧ (∀ a ∈ xs, Fits a names) ∧ Fr h₀ L s₂.heap m ∧ News h₀ L s₂.heap news ∧ Sub0 keep news ∧ (∀ p ∈ news, p.1 ∉ ws.map (·.1)) ∧
    CRest prog w A h₀ L m env elt ifs names scope cl s₂ ws (Fn s₂ news) xs [] news

theorem ListComp_M {elt target iter : Expr} {ifs : List Expr} {scope : Scope} {cl : List (Str × Addr)} {pos : Pos} {Q : Value → Shared → Prop} (names : List Str) (_F₀ : Fr h₀ L s.heap m)
    (hclos : closureFor scope env = pure cl) (hcell : ∀ y ∈ scope.names, y.2 ≠ .cell) (hkind : scope.kind = .function)
    (hnames : ∀ y ∈ scope.names, y.2 = .local → scope.names.lookup y.1 = some .local) (hb : BindsT prog w A target names scope cl env)
    (h : wpAny (model prog w) A (eval iter env) (fun xv s₁ => wpAny (model prog w) A (pyIter xv) (fun it s₂ => CSrc prog w A h₀ L m env elt target ifs names scope cl (fun s₂ n₀ => CFin h₀ L m s₂ Q n₀) it s₂) E s₁) E s)
    (hs : ∀ x, foldedSetIterable iter env x = pure x := by intro _; rfl) :
    wpAny (model prog w) A (eval (.ListComp elt [⟨target, iter, ifs, 0⟩] scope pos) env) Q E s := by
  rw [eval_ListComp]
  refine wpAny_comprehension_free (use := none) rfl hs hclos hkind hnames (wpAny_mono h (fun xv s₁ h₁ => wpAny_mono h₁ (fun it s₂ h₂ => ?_) fun _ _ e => e) fun _ _ e => e)
  obtain ⟨I, xs, ws, keep, news, rfl, S, hsz, hfit, F, N, hk, off, R⟩ := h₂
  refine comp_block S hsz hfit hb hcell hkind F N hk off R ?_
  intro D C h tk m' ys news' F' N' o1 hn hC₀ hD₀ hCL hDL hCD hlt fin
  refine ⟨m', hn, fun h'' hs'' => fin D h'' tk (F'.change hs'' hCL hC₀) (fun p hp => ?_) (off1_of fun p hp => (o1 p hp).2) hlt⟩
  refine ⟨hs''.extBut _ _ ?_ (N' p hp).1, (N' p hp).2⟩
  rcases List.mem_cons.mp hp with rfl | hp
  · exact Ne.symm hCD
  · exact (o1 p hp).1

/-- the new list, stored under its name -/
def CFinA (h₀ : Heap) (L : Addr) (m : Str → Option Value) (y : Str) (Q : Flow → Shared → Prop) (s : Shared) (news₀ : List (Addr × Obj)) (ys : List Value) (news : List (Addr × Obj)) : Prop :=
  ∀ D h tk, Fr h₀ L h (fun z => if z = y then some (.ref D) else m z) → News h₀ L h ((D, lst ys) :: news) → LCg.Off1 D news → (∀ p ∈ news₀, p.1 < D) → Q .next { s with heap := h, toks := tk }
theorem Assign_ListComp_M {elt target iter : Expr} {ifs : List Expr} {y : Str} {py : Pos} {scope : Scope} {cl : List (Str × Addr)} {pos spos : Pos} {Q : Flow → Shared → Prop} (names : List Str) (_F₀ : Fr h₀ L s.heap m) (hLe : env.locals = L)
    (hsw : swapsWith (.ListComp elt [⟨target, iter, ifs, 0⟩] scope pos) (some (.Name y py)) spos.line env = pure true)
    (hclos : closureFor scope env = pure cl) (hcell : ∀ y ∈ scope.names, y.2 ≠ .cell) (hkind : scope.kind = .function)
    (hnames : ∀ y ∈ scope.names, y.2 = .local → scope.names.lookup y.1 = some .local) (hb : BindsT prog w A target names scope cl env)
    (hy : env.kindOf y = some .local) (hp : (env.scope.kind == .class || (env.scope.kind == .module && env.locals != env.globals)) = false)
    (h : wpAny (model prog w) A (eval iter env) (fun xv s₁ => wpAny (model prog w) A (pyIter xv) (fun it s₂ => CSrc prog w A h₀ L m env elt target ifs names scope cl (CFinA h₀ L m y Q) it s₂) E s₁) E s)
    (hs : ∀ x, foldedSetIterable iter env x = pure x := by intro _; rfl) :
    wpAny (model prog w) A (exec (.Assign [.Name y py] (.ListComp elt [⟨target, iter, ifs, 0⟩] scope pos) spos) env) Q E s := by
  subst hLe
  rw [exec_Assign_Name_used _ _ _ _ hsw]
  refine wpAny_bind (wpAny_standAt (wpAny_bind ?_))
  show wpAny _ A (do let _ ← comprehension (.ListComp elt [⟨target, iter, ifs, 0⟩] scope pos) scope env _ (newList []) false (eval iter env) (some (assign (.Name y py) env))) _ _ s
  refine wpAny_bind (wpAny_mono (wpAny_comprehension_free (use := some (assign (.Name y py) env)) (Q := fun _ s' => Q .next s') rfl hs hclos hkind hnames
    (wpAny_mono h (fun xv s₁ h₁ => wpAny_mono h₁ (fun it s₂ h₂ => ?_) fun _ _ e => e) fun _ _ e => e)) (fun _ s' hq => wpAny_pure (wpAny_pure hq)) fun _ _ e => e)
  obtain ⟨I, xs, ws, keep, news, rfl, S, hsz, hfit, F, N, hk, off, R⟩ := h₂
  refine comp_block S hsz hfit hb hcell hkind F N hk off R ?_
  intro D C h tk m' ys news' F' N' o1 hn hC₀ hD₀ hCL hDL hCD hlt fin
  show wpAny _ A (assign (.Name y py) env (.ref D)) _ _ _
  refine wpAny_assign_Name (wpAny_storeName_local hy F'.ns (fun h₂ hn₂ hs₂ => ?_) hp)
  have hL₀ : h₀.get? env.locals = none := Heap.get?_none_of_le F'.above
  have F₂ : Fr h₀ env.locals h₂ (fun z => if z = y then some (.ref D) else m z) := ⟨hn₂, fun b o e => hs₂.extBut b o (fun q => by rw [q, hL₀] at e; cases e) (F'.keep b o e), F'.above⟩
  refine ⟨m', hn.sameBut hs₂ hCL, fun h'' hs'' => fin D h'' _ (F₂.change hs'' hCL hC₀) (fun p hp => ?_) (off1_of fun p hp => (o1 p hp).2) hlt⟩
  have z : h₂.get? p.1 = some p.2 := hs₂.extBut _ _ (N' p hp).2.1 (N' p hp).1
  refine ⟨hs''.extBut _ _ ?_ z, (N' p hp).2⟩
  rcases List.mem_cons.mp hp with rfl | hp
  · exact Ne.symm hCD
  · exact (o1 p hp).1

section
variable {elt : Expr} {ifs : List Expr} {names : List Str} {scope : Scope} {cl : List (Str × Addr)} {ws : List (Addr × String)} {Fin : List Value → List (Addr × Obj) → Prop} {r : List Itm} {ys : List Value} {news : List (Addr × Obj)}
theorem crest_nil (h : Fin ys news) : CRest prog w A h₀ L m env elt ifs names scope cl s ws Fin [] ys news := h
theorem crest_val {v : Value} {x : Str}
    (h : ∀ h tk C oC D m₂ (E' : Value → Shared → Prop), NsObj oC m₂ → m₂ x = some v → Fr h₀ L h m → AllObj ws (fun its => News h₀ L h (its ++ ((C, oC) :: (D, lst ys) :: news)) → 
      wpAny (model prog w) A (forIn ifs true fun c r => if r = true then do let ok ← isTrue c (compEnvC scope cl C env) (eval c (compEnvC scope cl C env)); pure (ForInStep.yield ok) else pure (ForInStep.yield r)) (fun ok s₃ =>
        if ok = true then wpAny (model prog w) A (eval elt (compEnvC scope cl C env)) (CEnd h₀ L m s its C oC D (lst ys) news (fun y add => CRest prog w A h₀ L m env elt ifs [x] scope cl s ws Fin r (ys ++ [y]) (add ++ news))) E' s₃
        else CEnd h₀ L m s its C oC D (lst ys) news (fun _ add => CRest prog w A h₀ L m env elt ifs [x] scope cl s ws Fin r ys (add ++ news)) .none s₃) E' { s with heap := h, toks := tk })) :
    CRest prog w A h₀ L m env elt ifs [x] scope cl s ws Fin (.val v :: r) ys news := by
  intro h' tk C oC D m₂ E' hC hG F
  exact AllObj.mono (fun its k N _ => k N) (h h' tk C oC D m₂ E' hC hG F)
theorem crest_pair {f : Tok → Value} {y : Value} {a b : Str}
    (h : ∀ t h tk C oC D m₂ (E' : Value → Shared → Prop), NsObj oC m₂ → m₂ a = some (f t) → m₂ b = some y → Fr h₀ L h m → AllObj ws (fun its => News h₀ L h (its ++ ((C, oC) :: (D, lst ys) :: news)) → 
      wpAny (model prog w) A (forIn ifs true fun c r => if r = true then do let ok ← isTrue c (compEnvC scope cl C env) (eval c (compEnvC scope cl C env)); pure (ForInStep.yield ok) else pure (ForInStep.yield r)) (fun ok s₃ =>
        if ok = true then wpAny (model prog w) A (eval elt (compEnvC scope cl C env)) (CEnd h₀ L m s its C oC D (lst ys) news (fun y add => CRest prog w A h₀ L m env elt ifs [a, b] scope cl s ws Fin r (ys ++ [y]) (add ++ news))) E' s₃
        else CEnd h₀ L m s its C oC D (lst ys) news (fun _ add => CRest prog w A h₀ L m env elt ifs [a, b] scope cl s ws Fin r ys (add ++ news)) .none s₃) E' { s with heap := h, toks := tk })) :
    CRest prog w A h₀ L m env elt ifs [a, b] scope cl s ws Fin (.pair f y :: r) ys news := by
  intro h' tk C oC D m₂ E' hC hG F
  obtain ⟨t, h1, h2⟩ := hG
  exact AllObj.mono (fun its k N _ => k N) (h t h' tk C oC D m₂ E' hC h1 h2 F)
theorem cend_nil {its : List (Addr × Obj)} {C D : Addr} {oC oD : Obj} {rest : Value → List (Addr × Obj) → Prop} {y : Value} {h' : Heap} {tk : Nat} {all : List (Addr × Obj)}
    (F : Fr h₀ L h' m) (N : News h₀ L h' all) (sub : SubL (its ++ ((C, oC) :: (D, oD) :: news)) all) (r : rest y []) : CEnd h₀ L m s its C oC D oD news rest y { s with heap := h', toks := tk } :=
  ⟨h', tk, [], rfl, F, fun p hp => N p (sub.mem p hp), (fun _ hp => nomatch hp), r⟩
theorem cend_one {its : List (Addr × Obj)} {C D a : Addr} {o oC oD : Obj} {rest : Value → List (Addr × Obj) → Prop} {h' : Heap} {tk : Nat} {all : List (Addr × Obj)}
    (F : Fr h₀ L h' m) (N : News h₀ L h' all) (ha : (a, o) ∈ all) (sub : SubL (its ++ ((C, oC) :: (D, oD) :: news)) all) (hC : @Ne Nat a C) (hD : @Ne Nat a D) (hi : OffOne a its) (r : rest (.ref a) [(a, o)]) : CEnd h₀ L m s its C oC D oD news rest (.ref a) { s with heap := h', toks := tk } :=
  ⟨h', tk, [(a, o)], rfl, F, fun p hp => by
    rcases List.mem_append.mp hp with hp | hp
    · exact N p (sub.mem p (List.mem_append_left _ hp))
    rcases List.mem_cons.mp hp with rfl | hp
    · exact N _ (sub.mem _ (List.mem_append_right _ (.head _)))
    rcases List.mem_cons.mp hp with rfl | hp
    · exact N _ (sub.mem _ (List.mem_append_right _ (.tail _ (.head _))))
    rcases List.mem_cons.mp hp with rfl | hp
    · exact N _ ha
    · exact N _ (sub.mem _ (List.mem_append_right _ (.tail _ (.tail _ hp)))), fun p hp => by
    rw [List.mem_singleton.mp hp]
    exact .inr ⟨hC, hD, hi.mem⟩, r⟩
end
end
end Mine
end

section
open PySem PySem.W PySem.Calls PyProof.Rows
namespace Mine
open LCg (NsObj lst)
section
variable {prog : Program} {w : World} {A : Around} {E : Value → Shared → Prop} {s : Shared} {h₀ : Heap} {L : Addr} {m : Str → Option Value} {env : Env}

theorem src_list {target : Expr} {ax : Addr} {lo : Obj} {vs : List Value} {n : Nat} {news : List (Addr × Obj)} {Q : Value → Shared → Prop}
    (hh : A.handled = none) (F : Fr h₀ L s.heap m) (N : News h₀ L s.heap news) (hm : (ax, lo) ∈ news) (hc : lo.cls = .type "list") (hd : lo.data = .seq vs.toArray n)
    (k : ∀ I h', Fr h₀ L h' m → News h₀ L h' news → (∀ p ∈ news, p.1 < I) → Src prog w A h₀ L target I (vs.map .val) [(I, "list_iterator")] [(ax, lo)] h' → Q (.ref I) { s with heap := h' }) :
    wpAny (model prog w) A (pyIter (.ref ax)) Q E s := by
  have hax := N _ hm
  have hl : s.heap.IsList ax vs.toArray := ⟨lo, hax.1, hc, n, hd⟩
  have hlt : ax < s.heap.objs.size := Heap.lt_size hax.1
  have hne : ax ≠ s.heap.objs.size := Nat.ne_of_lt hlt
  refine wpAny_pyIter_list hl ?_
  have up : ∀ b o, s.heap.get? b = some o → (s.heap.push { cls := .type "list_iterator", data := .fields #[.ref ax, .int 0 0] }).get? b = some o := fun b o e => Heap.get?_push_of_some _ e
  refine k _ _ (F.keeps up) (N.grown up) (fun p hp => Heap.lt_size (N p hp).1) ⟨_, _, _, _, _, _, KTurns.ofWalks (Walks.list hh s.heap.objs.size ax hne vs.toArray) (fun i v s Q E st q => letGo_listiter st.1 q), by simp, ?_, ?_, ?_, ?_, ?_, ?_, ?_, (Walks.list hh s.heap.objs.size ax hne vs.toArray).self⟩
  · intro i v h hp
    have hp' : vs.toArray[i]? = some v := hp
    exact ⟨.val v, by simpa using hp', rfl⟩
  · intro i h st
    obtain ⟨it, hit, hic, _⟩ := st.1
    exact ⟨[(s.heap.objs.size, it)], ⟨⟨rfl, hic⟩, trivial⟩, fun p hp => by rw [List.mem_singleton.mp hp]; exact hit⟩
  · intro b hb
    have hb' : b = s.heap.objs.size := by simpa using hb
    rw [hb']
    exact ⟨List.mem_cons_self .., next_is_new F, Nat.ne_of_gt F.ns.lt⟩
  · intro b hb; simpa using hb
  · intro b hb
    have hb' : b = s.heap.objs.size ∨ b = ax := by simpa using hb
    rcases hb' with e | e
    · exact .inl (by simp [e])
    · exact .inr ⟨lo, by simp [e]⟩
  · exact ⟨⟨_, Heap.get?_push_size _ rfl, rfl, rfl⟩, hl.at fun o e => Heap.get?_push_of_some _ e⟩
  · intro b hb
    have hb' : b = s.heap.objs.size ∨ b = ax := by simpa using hb
    rcases hb' with e | e
    · exact ⟨_, by rw [e]; exact Heap.get?_push_size _ rfl⟩
    · exact ⟨lo, by rw [e]; exact up _ _ hax.1⟩

theorem src_tuple {target : Expr} {ax : Addr} {lo : Obj} {vs : List Value} {n : Nat} {news : List (Addr × Obj)} {Q : Value → Shared → Prop}
    (hh : A.handled = none) (F : Fr h₀ L s.heap m) (N : News h₀ L s.heap news) (hm : (ax, lo) ∈ news) (hc : lo.cls = .type "tuple") (hd : lo.data = .seq vs.toArray n)
    (k : ∀ I h', Fr h₀ L h' m → News h₀ L h' news → (∀ p ∈ news, p.1 < I) → Src prog w A h₀ L target I (vs.map .val) [(I, "tuple_iterator")] [(ax, lo)] h' → Q (.ref I) { s with heap := h' }) :
    wpAny (model prog w) A (pyIter (.ref ax)) Q E s := by
  have hax := N _ hm
  have hl : s.heap.IsTuple ax vs.toArray := ⟨lo, hax.1, hc, n, hd⟩
  have hlt : ax < s.heap.objs.size := Heap.lt_size hax.1
  have hne : ax ≠ s.heap.objs.size := Nat.ne_of_lt hlt
  refine wpAny_pyIter_tuple hl ?_
  have up : ∀ b o, s.heap.get? b = some o → (s.heap.push { cls := .type "tuple_iterator", data := .fields #[.ref ax, .int 0 0] }).get? b = some o := fun b o e => Heap.get?_push_of_some _ e
  refine k _ _ (F.keeps up) (N.grown up) (fun p hp => Heap.lt_size (N p hp).1) ⟨_, _, _, _, _, _, KTurns.ofWalks (Walks.tuple hh s.heap.objs.size ax hne vs.toArray) (fun i v s Q E st q => letGo_tupleiter st.1 q), by simp, ?_, ?_, ?_, ?_, ?_, ?_, ?_, (Walks.tuple hh s.heap.objs.size ax hne vs.toArray).self⟩
  · intro i v h hp
    have hp' : vs.toArray[i]? = some v := hp
    exact ⟨.val v, by simpa using hp', rfl⟩
  · intro i h st
    obtain ⟨it, hit, hic, _⟩ := st.1
    exact ⟨[(s.heap.objs.size, it)], ⟨⟨rfl, hic⟩, trivial⟩, fun p hp => by rw [List.mem_singleton.mp hp]; exact hit⟩
  · intro b hb
    have hb' : b = s.heap.objs.size := by simpa using hb
    rw [hb']
    exact ⟨List.mem_cons_self .., next_is_new F, Nat.ne_of_gt F.ns.lt⟩
  · intro b hb; simpa using hb
  · intro b hb
    have hb' : b = s.heap.objs.size ∨ b = ax := by simpa using hb
    rcases hb' with e | e
    · exact .inl (by simp [e])
    · exact .inr ⟨lo, by simp [e]⟩
  · exact ⟨⟨_, Heap.get?_push_size _ rfl, rfl, rfl⟩, hl.at fun o e => Heap.get?_push_of_some _ e⟩
  · intro b hb
    have hb' : b = s.heap.objs.size ∨ b = ax := by simpa using hb
    rcases hb' with e | e
    · exact ⟨_, by rw [e]; exact Heap.get?_push_size _ rfl⟩
    · exact ⟨lo, by rw [e]; exact up _ _ hax.1⟩

/-- enumerate(tuple), called and drawn from -/
theorem src_enum {elts : List Expr} {kk : Nat} {pos : Pos} {ax : Addr} {lo : Obj} {vs : List Value} {n : Nat} {news : List (Addr × Obj)} {Q : Value → Shared → Prop}
    (hh : A.handled = none) (F : Fr h₀ L s.heap m) (N : News h₀ L s.heap news) (hm : (ax, lo) ∈ news) (hc : lo.cls = .type "tuple") (hd : lo.data = .seq vs.toArray n)
    (k : ∀ I h', Fr h₀ L h' m → News h₀ L h' news → (∀ p ∈ news, p.1 < I) → Src prog w A h₀ L (.Tuple elts kk pos) (I + 1) (enumItems 0 vs) [(I + 1, "enumerate"), (I, "tuple_iterator")] [(ax, lo)] h' → Q (.ref (I + 1)) { s with heap := h' }) :
    wpAny (model prog w) A (call (.type "enumerate") [.ref ax]) (fun xv s₁ => wpAny (model prog w) A (pyIter xv) Q E s₁) E s := by
  have hax := N _ hm
  have hl : s.heap.IsTuple ax vs.toArray := ⟨lo, hax.1, hc, n, hd⟩
  have hlt : ax < s.heap.objs.size := Heap.lt_size hax.1
  have hne : ax ≠ s.heap.objs.size := Nat.ne_of_lt hlt
  refine call_enum_tuple hl fun h' hE hI hk => ?_
  refine wpAny_pyIter_enum hE ?_
  have W : Draws prog w A.in1 s.heap.objs.size vs.toArray [s.heap.objs.size, ax] (fun i h => h.IsTupleIter s.heap.objs.size ax i ∧ h.IsTuple ax vs.toArray) := draws_tuple (A := A.in1) hh s.heap.objs.size ax hne vs.toArray
  have st0 : h'.IsTupleIter s.heap.objs.size ax 0 ∧ h'.IsTuple ax vs.toArray := ⟨hI, by obtain ⟨o, e, r⟩ := hl; exact ⟨o, hk _ _ e, r⟩⟩
  have hn1 : s.heap.objs.size + 1 ≠ ax := Nat.ne_of_gt (Nat.lt_succ_of_lt hlt)
  refine k _ h' (F.keeps hk) (N.grown hk) (fun p hp => Heap.lt_size (N p hp).1) ⟨_, _, _, _, _, _, turns_enum W (Nat.succ_ne_self _) (by simp [hn1]) (by simp), by simp [enumItems_length], ?_, ?_, ?_, ?_, ?_, ⟨⟨_, hE⟩, st0⟩, ?_, ?_⟩
  · rintro i v h ⟨T, t, x, rfl, hx, hT⟩
    refine ⟨_, enumItems_get vs 0 i (v := x) (by simpa using hx), T, t, rfl, ?_⟩
    show IsTup h T #[.int ((0 + i : Nat) : Int) t, x]
    rw [Nat.zero_add]
    exact hT
  · rintro i h ⟨⟨old, he⟩, ⟨oi, hoi, hic, _⟩, _⟩
    have he' : ∃ oe : Obj, h.get? (s.heap.objs.size + 1) = some oe ∧ oe.cls = .type "enumerate" := ⟨_, he, rfl⟩
    obtain ⟨oe, h1, h2⟩ := he'
    refine ⟨[(s.heap.objs.size + 1, oe), (s.heap.objs.size, oi)], ⟨⟨rfl, h2⟩, ⟨rfl, hic⟩, trivial⟩, fun p hp => ?_⟩
    rcases List.mem_cons.mp hp with rfl | hp
    · exact h1
    · rw [List.mem_singleton.mp hp]; exact hoi
  · intro b hb
    have hb' : b = s.heap.objs.size + 1 ∨ b = s.heap.objs.size := by simpa using hb
    rcases hb' with rfl | rfl
    · exact ⟨by simp, ktu_new F (Nat.le_add_right _ _), Nat.ne_of_gt (Nat.lt_succ_of_lt F.ns.lt)⟩
    · exact ⟨by simp, ktu_new F (Nat.le_refl _), Nat.ne_of_gt F.ns.lt⟩
  · intro b hb; simpa using hb
  · intro b hb
    have hb' : b = s.heap.objs.size + 1 ∨ b = s.heap.objs.size ∨ b = ax := by simpa using hb
    rcases hb' with rfl | rfl | rfl
    · exact .inl (by simp)
    · exact .inl (by simp)
    · exact .inr ⟨lo, by simp⟩
  · intro b hb
    have hb' : b = s.heap.objs.size + 1 ∨ b = s.heap.objs.size ∨ b = ax := by simpa using hb
    rcases hb' with rfl | rfl | rfl
    · exact ⟨_, hE⟩
    · obtain ⟨o, e, _⟩ := hI; exact ⟨o, e⟩
    · exact ⟨lo, hk _ _ hax.1⟩
  · exact fun i s Q E st q => by obtain ⟨⟨old, he⟩, _⟩ := st; exact wpAny_pyIter_enum he q

theorem src_zip {elts : List Expr} {kk : Nat} {pos : Pos} {l1 l2 : Addr} {lo1 lo2 : Obj} {xs ys : List Value} {n1 n2 : Nat} {news : List (Addr × Obj)} {Q : Value → Shared → Prop}
    (hh : A.handled = none) (F : Fr h₀ L s.heap m) (N : News h₀ L s.heap news) (hm1 : (l1, lo1) ∈ news) (hc1 : lo1.cls = .type "tuple") (hd1 : lo1.data = .seq xs.toArray n1) (hm2 : (l2, lo2) ∈ news) (hc2 : lo2.cls = .type "tuple") (hd2 : lo2.data = .seq ys.toArray n2) (hsame : xs.length = ys.length)
    (k : ∀ I h', Fr h₀ L h' m → News h₀ L h' news → (∀ p ∈ news, p.1 < I) → Src prog w A h₀ L (.Tuple elts kk pos) (I + 4) (zipItems xs ys) [(I + 4, "zip"), (I + 2, "tuple"), (I + 3, "tuple"), (I, "tuple_iterator"), (I + 1, "tuple_iterator")] [(l1, lo1), (l2, lo2)] h' → Q (.ref (I + 4)) { s with heap := h' }) :
    wpAny (model prog w) A (call (.type "zip") [.ref l1, .ref l2]) (fun xv s₁ => wpAny (model prog w) A (pyIter xv) Q E s₁) E s := by
  have hax1 := N _ hm1
  have hax2 := N _ hm2
  have hl1 : s.heap.IsTuple l1 xs.toArray := ⟨lo1, hax1.1, hc1, n1, hd1⟩
  have hl2 : s.heap.IsTuple l2 ys.toArray := ⟨lo2, hax2.1, hc2, n2, hd2⟩
  have hlt1 : l1 < s.heap.objs.size := Heap.lt_size hax1.1
  have hlt2 : l2 < s.heap.objs.size := Heap.lt_size hax2.1
  have hLs : L < s.heap.objs.size := F.ns.lt
  refine call_zip_tuples hl1 hl2 fun h' hz hTI hTO hi1 hi2 hk => ?_
  refine wpAny_pyIter_zip hz ?_
  generalize hq : s.heap.objs.size = q at *
  have W1 : Draws prog w A.in1 q xs.toArray [q, l1] (fun i h => h.IsTupleIter q l1 i ∧ h.IsTuple l1 xs.toArray) := draws_tuple (A := A.in1) hh q l1 (Nat.ne_of_lt hlt1) xs.toArray
  have W2 : Draws prog w A.in1 (q + 1) ys.toArray [q + 1, l2] (fun i h => h.IsTupleIter (q + 1) l2 i ∧ h.IsTuple l2 ys.toArray) := draws_tuple (A := A.in1) hh (q + 1) l2 (Nat.ne_of_lt (Nat.lt_succ_of_lt hlt2)) ys.toArray
  have hn1 : @LT.lt Nat _ l1 q := hlt1
  have hn2 : @LT.lt Nat _ l2 q := hlt2
  have nn : ∀ (a : Nat) (j : Nat), a < q → q + j ≠ a := fun a j h e => by omega
  have D : Apart (q + 4) (q + 2) (q + 3) q (q + 1) [q, l1] [q + 1, l2] := by
    refine ⟨neN (by omega), neN (by omega), neN (by omega), neN (by omega), neN (by omega), ?_, ?_, ?_, ?_, ?_, ?_, by simp, by simp⟩ <;> simp only [List.mem_cons, List.not_mem_nil, or_false, not_or] <;> exact ⟨neN (by omega), neN (by omega)⟩
  have st1 : h'.IsTupleIter q l1 0 ∧ h'.IsTuple l1 xs.toArray := ⟨hi1, by obtain ⟨o, e, r⟩ := hl1; exact ⟨o, hk _ _ e, r⟩⟩
  have st2 : h'.IsTupleIter (q + 1) l2 0 ∧ h'.IsTuple l2 ys.toArray := ⟨hi2, by obtain ⟨o, e, r⟩ := hl2; exact ⟨o, hk _ _ e, r⟩⟩
  refine k q h' (F.keeps hk) (N.grown hk) (fun p hp => hq ▸ Heap.lt_size (N p hp).1) ⟨_, _, _, _, _, _, turns_zip W1 W2 D (by simpa using hsame), by simp [zipItems_length, hsame], ?_, ?_, ?_, ?_, ?_, ⟨hz, hTI, ⟨_, _, hTO⟩, st1, st2⟩, ?_, ?_⟩
  · rintro i v h ⟨T, x, y, rfl, hx, hy, hT⟩
    exact ⟨_, zipItems_get xs ys i (x := x) (y := y) (by simpa using hx) (by simpa using hy), T, 0, rfl, hT⟩
  · rintro i h ⟨hz, hTI, ⟨a, b, hTO⟩, ⟨⟨o1, ho1, hc1, _⟩, _⟩, ⟨o2, ho2, hc2, _⟩, _⟩
    have e1 : ∃ o : Obj, h.get? (q + 4) = some o ∧ o.cls = .type "zip" := ⟨_, hz, rfl⟩
    have e2 : ∃ o : Obj, h.get? (q + 2) = some o ∧ o.cls = .type "tuple" := ⟨_, hTI, rfl⟩
    have e3 : ∃ o : Obj, h.get? (q + 3) = some o ∧ o.cls = .type "tuple" := ⟨_, hTO, rfl⟩
    obtain ⟨q1, g1, k1⟩ := e1
    obtain ⟨q2, g2, k2⟩ := e2
    obtain ⟨q3, g3, k3⟩ := e3
    refine ⟨[(q + 4, q1), (q + 2, q2), (q + 3, q3), (q, o1), (q + 1, o2)], ⟨⟨rfl, k1⟩, ⟨rfl, k2⟩, ⟨rfl, k3⟩, ⟨rfl, hc1⟩, ⟨rfl, hc2⟩, trivial⟩, fun p hp => ?_⟩
    simp only [List.mem_cons, List.not_mem_nil, or_false] at hp
    rcases hp with rfl | rfl | rfl | rfl | rfl
    · exact g1
    · exact g2
    · exact g3
    · exact ho1
    · exact ho2
  · intro b hb
    have hb' : b = q + 4 ∨ b = q + 2 ∨ b = q + 3 ∨ b = q ∨ b = q + 1 := by simpa using hb
    have fr : ∀ j, h₀.get? (q + j) = none ∧ q + j ≠ L := fun j => ⟨by
      cases e : h₀.get? (q + j) with
      | none => rfl
      | some o => exact absurd (hq ▸ Heap.lt_size (F.keep _ _ e)) (Nat.not_lt.mpr (Nat.le_add_right _ _)), nn _ _ hLs⟩
    rcases hb' with rfl | rfl | rfl | rfl | rfl
    · exact ⟨by simp, fr 4⟩
    · exact ⟨by simp, fr 2⟩
    · exact ⟨by simp, fr 3⟩
    · exact ⟨by simp, fr 0⟩
    · exact ⟨by simp, fr 1⟩
  · intro b hb
    have hb' : b = q + 4 ∨ b = q + 3 ∨ b = q ∨ b = q + 1 := by simpa using hb
    rcases hb' with rfl | rfl | rfl | rfl <;> simp
  · intro b hb
    have hb' : b = q + 4 ∨ b = q + 2 ∨ b = q + 3 ∨ b = q ∨ b = l1 ∨ b = q + 1 ∨ b = l2 := by simpa using hb
    rcases hb' with rfl | rfl | rfl | rfl | rfl | rfl | rfl
    · exact .inl (by simp)
    · exact .inl (by simp)
    · exact .inl (by simp)
    · exact .inl (by simp)
    · exact .inr ⟨lo1, by simp⟩
    · exact .inl (by simp)
    · exact .inr ⟨lo2, by simp⟩
  · intro b hb
    have hb' : b = q + 4 ∨ b = q + 2 ∨ b = q + 3 ∨ b = q ∨ b = l1 ∨ b = q + 1 ∨ b = l2 := by simpa using hb
    rcases hb' with rfl | rfl | rfl | rfl | rfl | rfl | rfl
    · exact ⟨_, hz⟩
    · exact ⟨_, hTI⟩
    · exact ⟨_, hTO⟩
    · obtain ⟨o, e, _⟩ := hi1; exact ⟨o, e⟩
    · exact ⟨lo1, hk _ _ hax1.1⟩
    · obtain ⟨o, e, _⟩ := hi2; exact ⟨o, e⟩
    · exact ⟨lo2, hk _ _ hax2.1⟩
  · exact fun i s Q E st q => wpAny_pyIter_zip st.1 q

/-- a for loop over such an iterator -/
theorem turns_src {target : Expr} {body : List Stmt} {Q : Flow → Shared → Prop} {I : Addr} {xs : List Itm} {ws : List (Addr × String)} {keep news : List (Addr × Obj)} {hp : Heap} {tk0 : Nat} {m₀ : Str → Option Value}
    (S : Src prog w A h₀ env.locals target I xs ws keep hp) (F : Fr h₀ env.locals hp m₀) (N : News h₀ env.locals hp news) (hk : SubL keep news) (hlt : ∀ p ∈ news, p.1 ∉ ws.map (·.1))
    (rest : ItemsRest prog w A E h₀ env target body Q s ws keep xs m₀ news) : TurnsAt prog w A h₀ env target body Q E (.ref I) { s with heap := hp, toks := tk0 } := by
  obtain ⟨fp, wr, n, P, Md, St, W, hn, hP, hobj, hws, hwr, hfp, hst, _, _⟩ := S
  refine ktu_core (tk0 := tk0) W hn hP hobj (fun b hb => ⟨(hws b hb).1, (hws b hb).2.1⟩) hwr hfp ?_ (fun p hp q => hlt p hp (hwr _ q)) hst F N hk rest
  intro q
  rcases hfp _ q with q | ⟨o, q⟩
  · exact (hws _ q).2.2 rfl
  · exact (N _ (hk.mem _ q)).2.1 rfl
theorem off_ws {I : Addr} {news : List (Addr × Obj)} {ws : List (Addr × String)} (h : ∀ p ∈ news, p.1 < I) (hw : ∀ b ∈ ws.map (·.1), I ≤ b) : ∀ p ∈ news, p.1 ∉ ws.map (·.1) := fun p hp q => Nat.lt_irrefl _ (Nat.lt_of_lt_of_le (h p hp) (hw _ q))

theorem csrc {target elt : Expr} {ifs : List Expr} {names : List Str} {scope : Scope} {cl : List (Str × Addr)} {Fn : Shared → List (Addr × Obj) → List Value → List (Addr × Obj) → Prop} {I J : Addr} {xs : List Itm} {ws : List (Addr × String)} {keep news : List (Addr × Obj)} {h' : Heap} {tk : Nat}
    (S : Src prog w A h₀ L target J xs ws keep h') (F : Fr h₀ L h' m) (N : News h₀ L h' news) (hlt : ∀ p ∈ news, p.1 < I) (hw : ∀ b ∈ ws.map (·.1), I ≤ b) (hk : SubL keep news) (hsz : xs.length ≤ sizeLine) (hfit : ∀ a ∈ xs, Fits a names)
    (R : CRest prog w A h₀ L m env elt ifs names scope cl { s with heap := h', toks := tk } ws (Fn { s with heap := h', toks := tk } news) xs [] news) : CSrc prog w A h₀ L m env elt target ifs names scope cl Fn (.ref J) { s with heap := h', toks := tk } :=
  ⟨J, xs, ws, keep, news, rfl, S, hsz, hfit, F, N, hk.mem, off_ws hlt hw, R⟩

theorem csrc_list {target : Expr} {ax : Addr} {lo : Obj} {vs : List Value} {n : Nat} {elt : Expr} {ifs : List Expr} {names : List Str} {scope : Scope} {cl : List (Str × Addr)} {Fn : Shared → List (Addr × Obj) → List Value → List (Addr × Obj) → Prop} {news : List (Addr × Obj)} (hh : A.handled = none) (F : Fr h₀ L s.heap m) (N : News h₀ L s.heap news) (hm : (ax, lo) ∈ news) (hc : lo.cls = .type "list") (hd : lo.data = .seq vs.toArray n)
    (hfit : ∀ a ∈ (vs.map .val), Fits a names) (hsz : vs.length ≤ sizeLine)
    (rest : ∀ I h', (∀ p ∈ news, p.1 < I) → CRest prog w A h₀ L m env elt ifs names scope cl { s with heap := h' } [(I, "list_iterator")] (Fn { s with heap := h' } news) (vs.map .val) [] news) :
    wpAny (model prog w) A (pyIter (.ref ax)) (fun it s₂ => CSrc prog w A h₀ L m env elt target ifs names scope cl Fn it s₂) E s :=
  src_list hh F N hm hc hd fun I h' F' N' hlt S => csrc (s := s) (tk := s.toks) S F' N' hlt (by intro b hb; simp at hb; first | (subst hb; exact Nat.le_refl _) | (rcases hb with rfl | rfl | rfl | rfl | rfl <;> first | exact Nat.le_refl _ | exact Nat.le_add_right _ _) | (rcases hb with rfl | rfl; exact Nat.le_succ _; exact Nat.le_refl _)) ⟨hm, trivial⟩ (by simpa using hsz) hfit (rest I h' hlt)

theorem csrc_tuple {target : Expr} {ax : Addr} {lo : Obj} {vs : List Value} {n : Nat} {elt : Expr} {ifs : List Expr} {names : List Str} {scope : Scope} {cl : List (Str × Addr)} {Fn : Shared → List (Addr × Obj) → List Value → List (Addr × Obj) → Prop} {news : List (Addr × Obj)} (hh : A.handled = none) (F : Fr h₀ L s.heap m) (N : News h₀ L s.heap news) (hm : (ax, lo) ∈ news) (hc : lo.cls = .type "tuple") (hd : lo.data = .seq vs.toArray n)
    (hfit : ∀ a ∈ (vs.map .val), Fits a names) (hsz : vs.length ≤ sizeLine)
    (rest : ∀ I h', (∀ p ∈ news, p.1 < I) → CRest prog w A h₀ L m env elt ifs names scope cl { s with heap := h' } [(I, "tuple_iterator")] (Fn { s with heap := h' } news) (vs.map .val) [] news) :
    wpAny (model prog w) A (pyIter (.ref ax)) (fun it s₂ => CSrc prog w A h₀ L m env elt target ifs names scope cl Fn it s₂) E s :=
  src_tuple hh F N hm hc hd fun I h' F' N' hlt S => csrc (s := s) (tk := s.toks) S F' N' hlt (by intro b hb; simp at hb; first | (subst hb; exact Nat.le_refl _) | (rcases hb with rfl | rfl | rfl | rfl | rfl <;> first | exact Nat.le_refl _ | exact Nat.le_add_right _ _) | (rcases hb with rfl | rfl; exact Nat.le_succ _; exact Nat.le_refl _)) ⟨hm, trivial⟩ (by simpa using hsz) hfit (rest I h' hlt)

theorem csrc_enum {elts : List Expr} {kk : Nat} {pos : Pos} {ax : Addr} {lo : Obj} {vs : List Value} {n : Nat} {elt : Expr} {ifs : List Expr} {names : List Str} {scope : Scope} {cl : List (Str × Addr)} {Fn : Shared → List (Addr × Obj) → List Value → List (Addr × Obj) → Prop} {news : List (Addr × Obj)} (hh : A.handled = none) (F : Fr h₀ L s.heap m) (N : News h₀ L s.heap news) (hm : (ax, lo) ∈ news) (hc : lo.cls = .type "tuple") (hd : lo.data = .seq vs.toArray n)
    (hfit : ∀ a ∈ (enumItems 0 vs), Fits a names) (hsz : vs.length ≤ sizeLine)
    (rest : ∀ I h', (∀ p ∈ news, p.1 < I) → CRest prog w A h₀ L m env elt ifs names scope cl { s with heap := h' } [(I + 1, "enumerate"), (I, "tuple_iterator")] (Fn { s with heap := h' } news) (enumItems 0 vs) [] news) :
    wpAny (model prog w) A (call (.type "enumerate") [.ref ax]) (fun xv s₁ => wpAny (model prog w) A (pyIter xv) (fun it s₂ => CSrc prog w A h₀ L m env elt (.Tuple elts kk pos) ifs names scope cl Fn it s₂) E s₁) E s :=
  src_enum hh F N hm hc hd fun I h' F' N' hlt S => csrc (s := s) (tk := s.toks) S F' N' hlt (by intro b hb; simp at hb; first | (subst hb; exact Nat.le_refl _) | (rcases hb with rfl | rfl | rfl | rfl | rfl <;> first | exact Nat.le_refl _ | exact Nat.le_add_right _ _) | (rcases hb with rfl | rfl; exact Nat.le_succ _; exact Nat.le_refl _)) ⟨hm, trivial⟩ (by rw [enumItems_length]; exact hsz) hfit (rest I h' hlt)

theorem turns_enumT {elts : List Expr} {kk : Nat} {pos : Pos} {ax : Addr} {lo : Obj} {vs : List Value} {n : Nat} {body : List Stmt} {Q : Flow → Shared → Prop} {news : List (Addr × Obj)} (hh : A.handled = none) (F : Fr h₀ env.locals s.heap m) (N : News h₀ env.locals s.heap news) (hm : (ax, lo) ∈ news) (hc : lo.cls = .type "tuple") (hd : lo.data = .seq vs.toArray n)
    (rest : ∀ I h', (∀ p ∈ news, p.1 < I) → ItemsRest prog w A E h₀ env (.Tuple elts kk pos) body Q { s with heap := h' } [(I + 1, "enumerate"), (I, "tuple_iterator")] [(ax, lo)] (enumItems 0 vs) m news) :
    wpAny (model prog w) A (call (.type "enumerate") [.ref ax]) (fun xv s₁ => wpAny (model prog w) A (pyIter xv) (fun it s₂ => TurnsAt prog w A h₀ env (.Tuple elts kk pos) body Q E it s₂) E s₁) E s :=
  src_enum hh F N hm hc hd fun I h' F' N' hlt S => turns_src (s := { s with heap := h' }) (tk0 := s.toks) S F' N' ⟨hm, trivial⟩ (off_ws hlt (by intro b hb; simp at hb; first | (subst hb; exact Nat.le_refl _) | (rcases hb with rfl | rfl | rfl | rfl | rfl <;> first | exact Nat.le_refl _ | exact Nat.le_add_right _ _) | (rcases hb with rfl | rfl; exact Nat.le_succ _; exact Nat.le_refl _))) (rest I h' hlt)

theorem csrc_zip {elts : List Expr} {kk : Nat} {pos : Pos} {l1 l2 : Addr} {lo1 lo2 : Obj} {vs ys : List Value} {n1 n2 : Nat} {elt : Expr} {ifs : List Expr} {names : List Str} {scope : Scope} {cl : List (Str × Addr)} {Fn : Shared → List (Addr × Obj) → List Value → List (Addr × Obj) → Prop} {news : List (Addr × Obj)} (hh : A.handled = none) (F : Fr h₀ L s.heap m) (N : News h₀ L s.heap news) (hm1 : (l1, lo1) ∈ news) (hc1 : lo1.cls = .type "tuple") (hd1 : lo1.data = .seq vs.toArray n1) (hm2 : (l2, lo2) ∈ news) (hc2 : lo2.cls = .type "tuple") (hd2 : lo2.data = .seq ys.toArray n2) (hsame : vs.length = ys.length)
    (hfit : ∀ a ∈ (zipItems vs ys), Fits a names) (hsz : vs.length ≤ sizeLine)
    (rest : ∀ I h', (∀ p ∈ news, p.1 < I) → CRest prog w A h₀ L m env elt ifs names scope cl { s with heap := h' } [(I + 4, "zip"), (I + 2, "tuple"), (I + 3, "tuple"), (I, "tuple_iterator"), (I + 1, "tuple_iterator")] (Fn { s with heap := h' } news) (zipItems vs ys) [] news) :
    wpAny (model prog w) A (call (.type "zip") [.ref l1, .ref l2]) (fun xv s₁ => wpAny (model prog w) A (pyIter xv) (fun it s₂ => CSrc prog w A h₀ L m env elt (.Tuple elts kk pos) ifs names scope cl Fn it s₂) E s₁) E s :=
  src_zip hh F N hm1 hc1 hd1 hm2 hc2 hd2 hsame fun I h' F' N' hlt S => csrc (s := s) (tk := s.toks) S F' N' hlt (by intro b hb; simp at hb; first | (subst hb; exact Nat.le_refl _) | (rcases hb with rfl | rfl | rfl | rfl | rfl <;> first | exact Nat.le_refl _ | exact Nat.le_add_right _ _) | (rcases hb with rfl | rfl; exact Nat.le_succ _; exact Nat.le_refl _)) ⟨hm1, hm2, trivial⟩ (by rw [zipItems_length]; exact Nat.le_trans (Nat.min_le_left _ _) hsz) hfit (rest I h' hlt)

theorem turns_zipT {elts : List Expr} {kk : Nat} {pos : Pos} {l1 l2 : Addr} {lo1 lo2 : Obj} {vs ys : List Value} {n1 n2 : Nat} {body : List Stmt} {Q : Flow → Shared → Prop} {news : List (Addr × Obj)} (hh : A.handled = none) (F : Fr h₀ env.locals s.heap m) (N : News h₀ env.locals s.heap news) (hm1 : (l1, lo1) ∈ news) (hc1 : lo1.cls = .type "tuple") (hd1 : lo1.data = .seq vs.toArray n1) (hm2 : (l2, lo2) ∈ news) (hc2 : lo2.cls = .type "tuple") (hd2 : lo2.data = .seq ys.toArray n2) (hsame : vs.length = ys.length)
    (rest : ∀ I h', (∀ p ∈ news, p.1 < I) → ItemsRest prog w A E h₀ env (.Tuple elts kk pos) body Q { s with heap := h' } [(I + 4, "zip"), (I + 2, "tuple"), (I + 3, "tuple"), (I, "tuple_iterator"), (I + 1, "tuple_iterator")] [(l1, lo1), (l2, lo2)] (zipItems vs ys) m news) :
    wpAny (model prog w) A (call (.type "zip") [.ref l1, .ref l2]) (fun xv s₁ => wpAny (model prog w) A (pyIter xv) (fun it s₂ => TurnsAt prog w A h₀ env (.Tuple elts kk pos) body Q E it s₂) E s₁) E s :=
  src_zip hh F N hm1 hc1 hd1 hm2 hc2 hd2 hsame fun I h' F' N' hlt S => turns_src (s := { s with heap := h' }) (tk0 := s.toks) S F' N' ⟨hm1, hm2, trivial⟩ (off_ws hlt (by intro b hb; simp at hb; first | (subst hb; exact Nat.le_refl _) | (rcases hb with rfl | rfl | rfl | rfl | rfl <;> first | exact Nat.le_refl _ | exact Nat.le_add_right _ _) | (rcases hb with rfl | rfl; exact Nat.le_succ _; exact Nat.le_refl _))) (rest I h' hlt)
end
end Mine
end

section
open PySem PySem.W PySem.Calls PyProof.Rows
namespace Mine
section
variable {prog : Program} {w : World} {M : Model} {A : Around} {E : Value → Shared → Prop} {s : Shared} {h₀ : Heap} {L : Addr} {m mg mb : Str → Option Value} {news : List (Addr × Obj)} {p : Program} {loose : List Str} {mean : ExcName → Option Value}

/-- a code that the def's own table knows already -/
theorem genexprCode_hit {env : Env} {c P : Addr} {ps : Array Value} {pos : Pos} {qualname : Str} {scope : Scope} {v : Value} {Q : Value → Shared → Prop} (hc : env.code = .ref c) (C : CodeHd s.heap c P) (hP : s.heap.get? P = some (tabObj ps))
    (hf : codeAmong pos ps.toList = some v) (h : Q v s) : wpAny M A (genexprCode env pos qualname scope) Q E s := by
  obtain ⟨o, vs, file, tf, flags, tg, inF, text, tt, ho, hcl, hd, h11, hg11, r⟩ := C
  unfold genexprCode codeAt
  rw [hc, if_neg (show ¬ ((Value.ref c == Value.none) = true) from Bool.false_ne_true)]
  refine wpAny_bind (wpAny_fieldsOf ho hd ?_)
  rw [hg11]
  refine wpAny_bind (wpAny_fieldsOf hP rfl ?_)
  rw [hf]
  exact wpAny_pure h

/-- the code of a generator expression, made or met: only the def's table may grow -/
theorem genexprCode_any {env : Env} {c P : Addr} {ps : Array Value} {pos : Pos} {qualname : Str} {scope : Scope} {Q : Value → Shared → Prop} (hc : env.code = .ref c) (C : CodeHd s.heap c P) (hP : s.heap.get? P = some (tabObj ps)) (ht : TriplesOk ps.toList)
    (h : ∀ code ps' h' tk, TriplesOk ps'.toList → Heap.ExtBut P s.heap h' → s.heap.objs.size ≤ h'.objs.size → h'.get? P = some (tabObj ps') → Q code { s with heap := h', toks := tk }) : wpAny M A (genexprCode env pos qualname scope) Q E s := by
  cases hf : codeAmong pos ps.toList with
  | some v => exact genexprCode_hit hc C hP hf (h v ps s.heap s.toks ht (fun _ _ _ e => e) (Nat.le_refl _) hP)
  | none =>
    refine wpAny_genexprCodeX hc (C.code hP ht) (C.tab hP) hf fun c' h' tk hx hge hlt hcode _ htab _ => ?_
    refine h _ _ h' tk ?_ hx (Nat.le_trans hge (Nat.le_of_lt hlt)) htab.2
    have e : (ps ++ #[rawInt pos.line, rawInt pos.col, .ref c']).toList = ps.toList ++ [rawInt pos.line, rawInt pos.col, .ref c'] := by simp
    rw [e]
    exact TriplesOk_snoc _ _ _ _ ht

/-- a generator of two items, not yet drawn from; what it writes lies above the ledger -/
def GenTwo (prog : Program) (w : World) (A : Around) (L a : Addr) (Fy : Nat → Value → Prop) (news : List (Addr × Obj)) (s : Shared) : Prop :=
  ∃ Kb, Gen prog w A Kb a 2 Fy s ∧ (∀ q ∈ news, q.1 ≤ Kb) ∧ L ≤ Kb
/-- a generator expression over a list of two: the generator -/
theorem genexp_M {env : Env} {elt iter : Expr} {x : Str} {px : Pos} {scope : Scope} {cl : List (Str × Addr)} {pos : Pos} {c P l : Addr} {lo : Obj} {ps : Array Value} {v0 v1 : Value} {n : Nat} {gg : Obj → List (Addr × Obj)} {Fy : Nat → Value → Prop} {Q : Value → Shared → Prop}
    (hh : A.handled = none) (hco : scope.isCoroutine = false) (hclos : closureFor scope env = pure cl) (hcell : ∀ y ∈ scope.names, y.2 ≠ .cell) (h0 : scope.names.lookup (".0" : Str) = some NameKind.local)
    (hx : scope.names.lookup x = some .local) (hkind : scope.kind = .function) (hroom : A.depth < recursionLimit) (hcode : env.code = .ref c) (hglob : env.globals = mainGlobals) (hs : ∀ x, genFold iter env x = pure x)
    (F : Fr h₀ L s.heap m) (N : News h₀ L s.heap news) (T : Top p loose mean mg mb h₀) (G : AllBare s.gens) (C : CodeHd h₀ c P) (U : UpdF P (tabObj ps) news gg) (ht : TriplesOk ps.toList)
    (hiter : wpAny (model prog w) A (eval iter env) (fun xv s₁ => xv = .ref l ∧ s₁ = s) E s) (hm : (l, lo) ∈ news) (hc : lo.cls = .type "list") (hd : lo.data = .seq [v0, v1].toArray n)
    (helt : ∀ (Cn : Addr) (code : Value) (A' : Around) E' i v (t : Shared) m₂, A'.handled = none → A'.depth ≤ A.depth + 1 → A'.units ≤ A.units + 8 → [v0, v1][i]? = some v → m₂ x = some v → Fr h₀ Cn t.heap m₂ → (∀ l', Sub l' news → (∀ q ∈ l', q.1 ≠ P) → News h₀ Cn t.heap l') →
      wpAny (model prog w) A' (eval elt (genEnv scope cl Cn code builtinsNs env)) (fun y s₃ => Fy i y ∧ Keeps t s₃) E' t)
    (h : ∀ a ps' h' tk g', TriplesOk ps'.toList → Fr h₀ L h' m → News h₀ L h' (gg (tabObj ps')) → AllBare g' → GenTwo prog w A L a Fy (gg (tabObj ps')) ⟨h', g', s.drawn, tk, s.os⟩ → Q (.ref a) ⟨h', g', s.drawn, tk, s.os⟩) :
    wpAny (model prog w) A (eval (.GeneratorExp elt [⟨.Name x px, iter, [], 0⟩] scope pos) env) Q E s := by
  obtain ⟨own, rest, rfl, hgr, h1, h2⟩ := U.split
  have hPm := N (P, tabObj ps) (List.mem_append_right _ (.head _))
  have hl := N _ hm
  have hL : s.heap.IsList l [v0, v1].toArray := ⟨lo, hl.1, hc, n, hd⟩
  have hlt : l < s.heap.objs.size := Heap.lt_size hl.1
  have hPlt : P < s.heap.objs.size := Heap.lt_size hPm.1
  have hlP : l ≠ P := fun e => by
    have z := hl.1
    have z' : s.heap.get? l = some (tabObj ps) := e ▸ hPm.1
    rw [z'] at z; cases z; cases hc
  obtain ⟨bm, ob, b1, b2, b3, b4, b5, b6⟩ := T.bmain
  have hgs := T.g.keeps F.keep
  have hgP : mainGlobals ≠ P := fun q => by
    obtain ⟨o, es, ep, e, hd, _⟩ := hgs
    have z := hPm.1
    rw [← q, e] at z; cases z; cases hd
  have hbP : bm ≠ P := fun q => by
    have e := F.keep _ _ b3
    have z := hPm.1
    rw [← q, e] at z; cases z; cases b4
  have hnl : s.heap.NoLimit := T.nolimit.keeps F.keep
  refine wpAny_GeneratorExp_walksQD hh hco hclos hcell h0 hx hkind hroom (wpAny_mono hiter (fun xv s₁ hxv => ?_) fun _ _ e => e) hs
  obtain ⟨rfl, rfl⟩ := hxv
  refine wpAny_pyIter_list hL ?_
  have up1 : ∀ b o, s₁.heap.get? b = some o → (s₁.heap.push { cls := .type "list_iterator", data := .fields #[.ref l, .int 0 0] }).get? b = some o := fun b o e => Heap.get?_push_of_some _ e
  refine ⟨hnl.push _, ?_⟩
  refine genexprCode_any hcode ((C.keeps F.keep).keeps up1) (up1 _ _ hPm.1) ht fun code ps' h₂ tk₂ ht' hx₂ hsz₂ hP₂ => ?_
  have up2 : ∀ b o, b ≠ P → s₁.heap.get? b = some o → h₂.get? b = some o := fun b o hb e => hx₂ b o hb (up1 b o e)
  have hsz1 : (s₁.heap.push { cls := .type "list_iterator", data := .fields #[.ref l, .int 0 0] }).objs.size = s₁.heap.objs.size + 1 := Heap.size_push ..
  have hsz2 : s₁.heap.objs.size + 1 ≤ h₂.objs.size := hsz1 ▸ hsz₂
  have hg₂ : h₂.Ns mainGlobals mg := hgs.at' fun o e => up2 _ o hgP e
  rw [hglob]
  refine wpAny_builtinsFor hg₂ b1 b2 (up2 _ _ hbP (F.keep _ _ b3)) b4 b5 b6 ?_
  have hIP : s₁.heap.objs.size ≠ P := Nat.ne_of_gt hPlt
  have hI₂ : h₂.IsListIter s₁.heap.objs.size l 0 := ⟨_, hx₂ _ _ hIP (Heap.get?_push_size _ rfl), rfl, rfl⟩
  have hl₂ : h₂.IsList l [v0, v1].toArray := ⟨lo, up2 _ _ hlP hl.1, hc, n, hd⟩
  have hcs : cStatics ≠ P := fun e => by
    obtain ⟨_, hns, _⟩ := hnl
    obtain ⟨o, es, ep, ho, hd, _⟩ := hns
    have z := hPm.1
    rw [← e, ho] at z; cases z; cases hd
  have hcl : cStatics < s₁.heap.objs.size := by
    obtain ⟨_, hns, _⟩ := hnl
    exact hns.lt
  have hnl₂ : h₂.NoLimit := (hnl.push { cls := .type "list_iterator", data := .fields #[.ref l, .int 0 0] }).extBut hx₂ hcs
  have hLlt : L < s₁.heap.objs.size := F.ns.lt
  refine ⟨s₁.heap.objs.size, [s₁.heap.objs.size, l], [s₁.heap.objs.size], [v0, v1].toArray.size, (fun i v => [v0, v1].toArray[i]? = some v), (fun i h => h.IsListIter s₁.heap.objs.size l i ∧ h.IsList l [v0, v1].toArray), (fun _ => true), Fy, rfl,
    fun A' hA => Walks.list hA _ _ (Nat.ne_of_lt hlt) _, ⟨hI₂, hl₂⟩, ?_, hnl₂, ?_, ?_, ?_⟩
  · intro b hb
    show b < h₂.objs.size
    rcases List.mem_cons.mp hb with rfl | hb
    · exact hsz2
    · rw [List.mem_singleton.mp hb]; exact Nat.lt_of_lt_of_le (Nat.lt_succ_of_lt hlt) hsz2
  · intro hb
    rw [List.mem_singleton.mp hb] at hcl
    exact Nat.lt_irrefl _ hcl
  · intro href hhref
    refine ⟨fun A' E' i v t m₂ hA hD hU hP hn hm hkp => wpAny_tests_nil ⟨rfl, ?_⟩, fun A' E' i v t m₂ hA hD hU hP hp hn hm hkp => ?_⟩
    · exact ⟨t.heap, t.toks, rfl, fun _ _ e => e⟩
    · have kp : ∀ b o, b ≠ P → b ≠ s₁.heap.objs.size → s₁.heap.get? b = some o → t.heap.get? b = some o := fun b o hb hi e =>
        hkp b (List.mem_range.mpr (Heap.lt_size (up2 b o hb e))) (fun q => hi (List.mem_singleton.mp q)) o (hhref b o (up2 b o hb e))
      have hLC : L < h₂.objs.size := Nat.lt_of_lt_of_le hLlt (Nat.le_trans (Nat.le_succ _) hsz2)
      refine helt _ _ A' E' i v t m₂ hA hD hU (by simpa using hP) hm ⟨hn, fun b o e => kp b o (fun q => by have z := hPm.2.2; rw [← q, e] at z; cases z) (Nat.ne_of_lt (Heap.lt_size (F.keep b o e))) (F.keep b o e), Nat.le_trans F.above (Nat.le_of_lt hLC)⟩ fun l' hl' hp' q hq => ?_
      have z := N q (hl' q hq)
      exact ⟨kp _ _ (hp' q hq) (Nat.ne_of_lt (Heap.lt_size z.1)) z.1, Nat.ne_of_lt (Nat.lt_of_lt_of_le (Nat.lt_succ_of_lt (Heap.lt_size z.1)) hsz2), z.2.2⟩
  · intro a h₅ tk gs hgb hag hsz₅ hk₅ W hat
    have up5 : ∀ b o, b ≠ P → s₁.heap.get? b = some o → h₅.get? b = some o := fun b o hb e => hk₅ b o (up2 b o hb e)
    have eqp : passing (fun _ => true) [v0, v1].toArray.size 0 = [0, 1] := rfl
    have W' : WalksS prog w A.in4 a (a :: h₂.objs.size :: List.range h₂.objs.size) (h₂.objs.size :: [s₁.heap.objs.size]) (GenOnlyQ s₁.gens.size) 2 Fy
        (GenAt prog w A.in4 a s₁.gens.size h₂.objs.size (List.range h₂.objs.size) [s₁.heap.objs.size] (fun _ => true) [v0, v1].toArray.size Fy) :=
      { W with
        item := fun i s Q E hi st hQ => W.item i s Q E hi st fun v s' hP => hQ v s' (by
          obtain ⟨j, hj, hF⟩ := hP
          rw [eqp] at hj
          have : j = i := by
            rcases i with _ | _ | i
            · simpa using hj.symm
            · simpa using hj.symm
            · simp at hj
          rw [← this]; exact hF)
        done := W.done }
    have hK : ∀ b, b < s₁.heap.objs.size → b ≤ s₁.heap.objs.size - 1 := fun b hb => by
      have hb' : @LT.lt Nat _ b s₁.heap.objs.size := hb
      show @LE.le Nat _ b (s₁.heap.objs.size - 1)
      omega
    refine h a ps' h₅ tk (s₁.gens.push gs) ht' ⟨F.ns.at' fun o e => up5 L o (fun q => hPm.2.1 q.symm) e, fun b o e => up5 b o (fun q => by have z := hPm.2.2; rw [← q, e] at z; cases z) (F.keep b o e), F.above⟩ (fun q hq => ?_) (G.push hgb)
      ⟨s₁.heap.objs.size - 1, ⟨_, _, _, _, W', hat, fun i s' st => st.1.typeIs, List.mem_cons_self, ?_, ?_⟩, fun q hq => hK _ ?_, hK _ hLlt⟩
    · rw [hgr] at hq
      rcases List.mem_append.mp hq with hq | hq
      · have z := N q (List.mem_append_left _ hq)
        exact ⟨up5 _ _ (h1 q hq) z.1, z.2⟩
      rcases List.mem_cons.mp hq with rfl | hq
      · exact ⟨hk₅ _ _ hP₂, hPm.2⟩
      · have z := N q (List.mem_append_right _ (.tail _ hq))
        exact ⟨up5 _ _ (h2 q hq) z.1, z.2⟩
    · intro b hb
      show b < h₅.objs.size
      rw [hsz₅]
      rcases List.mem_cons.mp hb with rfl | hb
      · exact Nat.lt_succ_self _
      · rcases List.mem_cons.mp hb with rfl | hb
        · exact Nat.lt_succ_of_lt hag
        · exact Nat.lt_succ_of_lt (Nat.lt_trans (List.mem_range.mp hb) hag)
    · intro b hb
      have hz : @LT.lt Nat _ 0 s₁.heap.objs.size := Nat.lt_of_le_of_lt (Nat.zero_le _) hLlt
      show @LT.lt Nat _ (s₁.heap.objs.size - 1) b
      rcases List.mem_cons.mp hb with rfl | hb
      · have := hsz2; omega
      · rw [List.mem_singleton.mp hb]; omega
    · rw [hgr] at hq
      rcases List.mem_append.mp hq with hq | hq
      · exact Heap.lt_size (N q (List.mem_append_left _ hq)).1
      rcases List.mem_cons.mp hq with rfl | hq
      · exact hPlt
      · exact Heap.lt_size (N q (List.mem_append_right _ (.tail _ hq))).1

/-- tuple(..) of such a generator -/
theorem tuple_M {a : Addr} {Fy : Nat → Value → Prop} {Q : Value → Shared → Prop} (F : Fr h₀ L s.heap m) (N : News h₀ L s.heap news) (G : AllBare s.gens) (X : GenTwo prog w A L a Fy news s)
    (h : ∀ D y0 y1 h' tk g', Fy 0 y0 → Fy 1 y1 → Fr h₀ L h' m → News h₀ L h' ((D, tupO [y0, y1] 0) :: news) → AllBare g' → (∀ q ∈ news, q.1 < D) → Q (.ref D) ⟨h', g', s.drawn, tk, s.os⟩) :
    wpAny (model prog w) A (call (.type "tuple") [.ref a]) Q E s := by
  obtain ⟨Kb, ⟨fp, wr, g, St, W, hst, hT, hI, hfp, hwr⟩, hK, hLK⟩ := X
  refine call_tuple_gen (hsz := by decide) W.in4_3 hT hst hfp hI fun s' acc hm hacc => ?_
  obtain ⟨hp', gs', dr', tk', os'⟩ := s'
  have kp : ∀ b o, b ≤ Kb → s.heap.get? b = some o → hp'.get? b = some o := fun b o hb e => hm.heap b o (fun q => Nat.lt_irrefl _ (Nat.lt_of_lt_of_le (hwr b q) hb)) e
  have nw : ∀ b o, h₀.get? b = some o → b ≤ Kb := fun b o e => Nat.le_trans (Nat.le_of_lt (Nat.lt_of_lt_of_le (Heap.lt_size e) F.above)) hLK
  have F₁ : Fr h₀ L hp' m := ⟨F.ns.at' fun o e => kp L o hLK e, fun b o e => kp b o (nw b o e) (F.keep b o e), F.above⟩
  have N₁ : News h₀ L hp' news := fun q hq => ⟨kp _ _ (hK q hq) (N q hq).1, (N q hq).2⟩
  have G₁ : AllBare gs' := G.movedS hm
  have hd : dr' = s.drawn := hm.drawn
  have ho : os' = s.os := hm.os
  subst hd ho
  obtain ⟨l⟩ := acc
  obtain ⟨hsz, hit⟩ := hacc
  obtain ⟨y0, y1, rfl⟩ : ∃ y0 y1, l = [y0, y1] := by
    rcases l with _ | ⟨y0, _ | ⟨y1, _ | ⟨y2, r⟩⟩⟩
    · simp at hsz
    · simp at hsz
    · exact ⟨_, _, rfl⟩
    · simp at hsz
  refine h hp'.objs.size y0 y1 _ tk' gs' (hit 0 y0 rfl) (hit 1 y1 rfl) (F₁.push _) (N₁.push F₁ _) G₁ fun q hq => Heap.lt_size (N₁ q hq).1

theorem tuple_MI {a : Addr} {f : Nat → Int} {Q : Value → Shared → Prop} (F : Fr h₀ L s.heap m) (N : News h₀ L s.heap news) (G : AllBare s.gens) (X : GenTwo prog w A L a (fun i y => ∃ t, y = .int (f i) t) news s)
    (h : ∀ D t0 t1 h' tk g', Fr h₀ L h' m → News h₀ L h' ((D, tupO [.int (f 0) t0, .int (f 1) t1] 0) :: news) → AllBare g' → (∀ q ∈ news, q.1 < D) → Q (.ref D) ⟨h', g', s.drawn, tk, s.os⟩) :
    wpAny (model prog w) A (call (.type "tuple") [.ref a]) Q E s := by
  refine tuple_M F N G X fun D y0 y1 h' tk g' h0 h1 F' N' G' l => ?_
  obtain ⟨t0, rfl⟩ := h0
  obtain ⟨t1, rfl⟩ := h1
  exact h D t0 t1 h' tk g' F' N' G' l
end
end Mine
end

section
open PySem PySem.W PySem.Calls PyProof.Rows
namespace Mine
/-- the table of the one def that holds a generator expression -/
def TabOk (o : Obj) : Prop := ∃ ps, o = tabObj ps ∧ TriplesOk ps.toList
def NoP (l : List (Addr × Obj)) : Prop := ∀ p ∈ l, @Ne Nat p.1 93
theorem NoP.nil : NoP [] := fun _ h => nomatch h
theorem NoP.cons {a : Addr} {o : Obj} {l : List (Addr × Obj)} (h : @Ne Nat a 93) (h' : NoP l) : NoP ((a, o) :: l) := fun p hp => by
  rcases List.mem_cons.mp hp with rfl | hp
  · exact h
  · exact h' p hp
theorem NoP.app {l l' : List (Addr × Obj)} (h : NoP l) (h' : NoP l') : NoP (l ++ l') := fun p hp => (List.mem_append.mp hp).elim (h p) (h' p)
theorem NoP.sub {l l' : List (Addr × Obj)} (h : NoP l') (s : Sub l l') : NoP l := fun p hp => h p (s p hp)

theorem UpdF.app {d : Addr} {o : Obj} {l r : List (Addr × Obj)} {g : Obj → List (Addr × Obj)} (h : ∀ p ∈ l, p.1 ≠ d) (u : UpdF d o r g) : UpdF d o (l ++ r) (fun o' => l ++ g o') := by
  induction l with
  | nil => exact u
  | cons p l ih => exact UpdF.tail (h p (.head _)) (ih fun q hq => h q (.tail _ hq))

/-- a def that may make elements: it may grow the one table, and it may leave finished generators -/
def DoesG {D : Type} (w : World) (f : Addr) (c : Told D) (d : D) : Prop :=
  ∀ (p : Program) (loose : List Str) (mean : ExcName → Option Value) (mg mb : Str → Option Value) (dp un : Nat) (gd : Option (List Code)) (cn : Str) (cs : Scope) (a : Addr) (ccd : Value) (cl : List (Str × Addr)) (outer : List Env) (A₀ : Around) (base h₀ : Heap) (L : Addr) (m : Str → Option Value)
    (news small : List (Addr × Obj)) (oP : Obj) (s : Shared) (vs : List Value) (Q E : Value → Shared → Prop),
    Below A₀ base outer h₀ → Fr h₀ L s.heap m → (hd.heap_39 w.params).In h₀ → News h₀ L s.heap ((93, oP) :: news) → TabOk oP → NoP news → AllBare s.gens → Top p loose mean mg mb h₀ → cs.kind = .function → Sub small news → c.Rel small vs d → c.Ok d → dp + c.size d < recursionLimit → un + 8 * c.size d < cLine →
    (∀ r l h' g' tk' oP', TabOk oP' → Fr h₀ L h' m → News h₀ L h' ((93, oP') :: (l ++ news)) → NoP l → AllBare g' → c.Out l r d → Q r ⟨h', g', s.drawn, tk', s.os⟩) →
    wpAny (model PySem.Challenge.rw_bb0063_01.row.prog w) (ktrTop dp un gd cn cs L a ccd cl outer) (call (.ref f) vs) Q E s

theorem DoesG.use {D : Type} {w : World} {f : Addr} {c : Told D} {d : D} (C : DoesG w f c d)
    {p : Program} {loose : List Str} {mean : ExcName → Option Value} {mg mb : Str → Option Value} {dp un : Nat} {gd : Option (List Code)} {cn : Str} {cs : Scope} {a : Addr} {ccd : Value} {cl : List (Str × Addr)} {outer : List Env} {A₀ : Around} {base h₀ : Heap} {L : Addr} {m : Str → Option Value}
    {led small : List (Addr × Obj)} {gg : Obj → List (Addr × Obj)} {oP : Obj} {s : Shared} {vs : List Value} {Q E : Value → Shared → Prop}
    (B : Below A₀ base outer h₀) (F : Fr h₀ L s.heap m) (X : (hd.heap_39 w.params).In h₀) (N : News h₀ L s.heap led) (U : UpdF 93 oP led gg) (hP : TabOk oP) (G : AllBare s.gens) (T : Top p loose mean mg mb h₀) (hk : cs.kind = .function) (hs : Sub small led) (hn : NoP small) (R : c.Rel small vs d) (ok : c.Ok d) (hd : dp + c.size d < recursionLimit) (hu : un + 8 * c.size d < cLine)
    (ret : ∀ r l h' g' tk' oP', TabOk oP' → Fr h₀ L h' m → News h₀ L h' (l ++ gg oP') → NoP l → AllBare g' → c.Out l r d → Q r ⟨h', g', s.drawn, tk', s.os⟩) :
    wpAny (model PySem.Challenge.rw_bb0063_01.row.prog w) (ktrTop dp un gd cn cs L a ccd cl outer) (call (.ref f) vs) Q E s := by
  obtain ⟨pre, post, rfl, hg, h1, h2⟩ := U.split
  have nP : NoP (pre ++ post) := fun q hq => (List.mem_append.mp hq).elim (h1 q) (h2 q)
  have hsub : Sub small (pre ++ post) := fun q hq => by
    rcases List.mem_append.mp (hs q hq) with h | h
    · exact List.mem_append_left _ h
    · rcases List.mem_cons.mp h with rfl | h
      · exact absurd rfl (hn _ hq)
      · exact List.mem_append_right _ h
  have N' : News h₀ L s.heap ((93, oP) :: (pre ++ post)) := fun q hq => N q (by
    rcases List.mem_cons.mp hq with rfl | hq
    · exact List.mem_append_right _ (.head _)
    · rcases List.mem_append.mp hq with h | h
      · exact List.mem_append_left _ h
      · exact List.mem_append_right _ (.tail _ h))
  refine C p loose mean mg mb dp un gd cn cs a ccd cl outer A₀ base h₀ L m (pre ++ post) small oP s vs Q E B F X N' hP nP G T hk hsub R ok hd hu fun r l h' g' tk' oP' hP' F' N'' nl G' O => ret r l h' g' tk' oP' hP' F' (fun q hq => N'' q ?_) nl G' O
  rcases List.mem_append.mp hq with h | h
  · exact .tail _ (List.mem_append_left _ h)
  · rw [hg] at h
    rcases List.mem_append.mp h with h | h
    · exact .tail _ (List.mem_append_right _ (List.mem_append_left _ h))
    · rcases List.mem_cons.mp h with rfl | h
      · exact .head _
      · exact .tail _ (List.mem_append_right _ (List.mem_append_right _ h))

theorem backG {h₀ h h' : Heap} {L : Addr} {news small led l : List (Addr × Obj)} {oP oP' : Obj} (N : News h₀ L h ((93, oP) :: news)) (nP : NoP news) (hs : Sub small news) (kN : News h₀ L h' led)
    (keep : ∀ b o, h.get? b = some o → b ∉ ((93, oP) :: small).map (·.1) → h'.get? b = some o) (h1 : Sub small led) (h2 : Sub l led) (h3 : (93, oP') ∈ led) : News h₀ L h' ((93, oP') :: (l ++ news)) := by
  intro p hp
  rcases List.mem_cons.mp hp with rfl | hp
  · exact kN _ h3
  rcases List.mem_append.mp hp with hp | hp
  · exact kN p (h2 p hp)
  · have z := N p (.tail _ hp)
    refine ⟨?_, z.2⟩
    by_cases q : p.1 ∈ small.map (·.1)
    · obtain ⟨e, he, hq⟩ := List.mem_map.mp q
      have y := N e (.tail _ (hs e he))
      have y' := kN e (h1 e he)
      rw [hq, z.1] at y
      rw [hq] at y'
      rw [Option.some.inj y.1]
      exact y'.1
    · refine keep _ _ z.1 fun r => ?_
      rcases List.mem_cons.mp r with r | r
      · exact nP p hp r
      · exact q r

/-- an element of the field of pairs modulo p, as it lies: its own ledger, its value, its two ints -/
inductive FQ (p : Int) : List (Addr × Obj) → Value → Int × Int → Prop
  | mk {x d c m l t : Addr} {z : Int × Int} {h1 h2 h3 h4 h5 : Int} {k1 k2 k3 k4 k5 tp tg t0 t1 ta tb u1 u0 : Tok} {n1 n2 n3 n4 : Nat} :
      0 ≤ z.1 → z.1 < p → 0 ≤ z.2 → z.2 < p →
      NoP [(x, instObj 234 d), (d, dictOf [⟨h1, .str "field_modulus" k1, .int p tp⟩, ⟨h2, .str "mc_tuples" k2, .ref l⟩, ⟨h3, .str "coeffs" k3, .ref c⟩, ⟨h4, .str "modulus_coeffs" k4, .ref m⟩, ⟨h5, .str "degree" k5, .int 2 tg⟩] 5),
        (c, tupO [.int z.1 ta, .int z.2 tb] n1), (m, tupO [.int 1 u1, .int 0 u0] n2), (l, lstO [.ref t] n3), (t, tupO [.int 0 t0, .int 1 t1] n4)] →
      FQ p [(x, instObj 234 d), (d, dictOf [⟨h1, .str "field_modulus" k1, .int p tp⟩, ⟨h2, .str "mc_tuples" k2, .ref l⟩, ⟨h3, .str "coeffs" k3, .ref c⟩, ⟨h4, .str "modulus_coeffs" k4, .ref m⟩, ⟨h5, .str "degree" k5, .int 2 tg⟩] 5),
        (c, tupO [.int z.1 ta, .int z.2 tb] n1), (m, tupO [.int 1 u1, .int 0 u0] n2), (l, lstO [.ref t] n3), (t, tupO [.int 0 t0, .int 1 t1] n4)] (.ref x) z
theorem FQ.noP {p : Int} {l : List (Addr × Obj)} {v : Value} {z : Int × Int} (h : FQ p l v z) : NoP l := by
  cases h
  assumption
theorem FQ.bd {p : Int} {l : List (Addr × Obj)} {v : Value} {z : Int × Int} (h : FQ p l v z) : 0 ≤ z.1 ∧ z.1 < p ∧ 0 ≤ z.2 ∧ z.2 < p := by
  cases h
  refine ⟨?_, ?_, ?_, ?_⟩ <;> assumption
/-- what an operator's rule asks of an element -/
theorem FQ.has {p : Int} {l : List (Addr × Obj)} {v : Value} {z : Int × Int} (h : FQ p l v z) : ∃ x d es, v = .ref x ∧ (x, (⟨.ref 234, some d, .plain, #[]⟩ : Obj)) ∈ l ∧ (d, dictOf es 5) ∈ l := by
  cases h
  exact ⟨_, _, _, rfl, .head _, .tail _ (.head _)⟩
theorem codeHd_init {w : World} {h : Heap} (X : (hd.heap_39 w.params).In h) : CodeHd h 95 93 := by
  have e : ∃ o, List.lookup 95 (hd.heap_39 w.params) = some o := ⟨_, rfl⟩
  obtain ⟨o, e⟩ := e
  have z := X _ _ e
  cases e
  exact ⟨_, _, _, _, _, _, _, _, _, z, rfl, rfl, rfl, rfl, rfl, rfl, rfl, rfl, by decide⟩

theorem backMk {h₀ h h' : Heap} {L x d : Addr} {ox od : Obj} {news small led l : List (Addr × Obj)} {oP oP' : Obj} (N : News h₀ L h ((x, ox) :: (d, od) :: (93, oP) :: news)) (nP : NoP news) (hs : Sub small news) (lt : ∀ p ∈ news, p.1 < d) (hdx : d < x) (kN : News h₀ L h' led)
    (keep : ∀ b o, h.get? b = some o → b ∉ ((x, ox) :: (d, od) :: (93, oP) :: small).map (·.1) → h'.get? b = some o) (h1 : Sub small led) (h2 : Sub l led) (h3 : (93, oP') ∈ led) : News h₀ L h' ((93, oP') :: (l ++ news)) := by
  intro p hp
  rcases List.mem_cons.mp hp with rfl | hp
  · exact kN _ h3
  rcases List.mem_append.mp hp with hp | hp
  · exact kN p (h2 p hp)
  · have z := N p (.tail _ (.tail _ (.tail _ hp)))
    refine ⟨?_, z.2⟩
    by_cases q : p.1 ∈ small.map (·.1)
    · obtain ⟨e, he, hq⟩ := List.mem_map.mp q
      have y := N e (.tail _ (.tail _ (.tail _ (hs e he))))
      have y' := kN e (h1 e he)
      rw [hq, z.1] at y
      rw [hq] at y'
      rw [Option.some.inj y.1]
      exact y'.1
    · refine keep _ _ z.1 fun r => ?_
      have l1 := lt p hp
      rcases List.mem_cons.mp r with r | r
      · exact Nat.ne_of_lt (Nat.lt_trans l1 hdx) r
      rcases List.mem_cons.mp r with r | r
      · exact Nat.ne_of_lt l1 r
      rcases List.mem_cons.mp r with r | r
      · exact nP p hp r
      · exact q r

theorem room_le {dp k j k' n : Nat} (h : dp + k < n) (hk : j + k' ≤ k) : dp + j + k' < n := by omega
theorem FQ.off {p : Int} {l : List (Addr × Obj)} {v : Value} {z : Int × Int} (h : FQ p l v z) : LCg.Off1 93 l := off1_of h.noP

theorem FQ.cast {p : Int} {l : List (Addr × Obj)} {v : Value} {z z' : Int × Int} (h : FQ p l v z) (e : z = z') : FQ p l v z' := e ▸ h
def addF (p : Int) (x y : Int × Int) : Int × Int := ((x.1 + y.1) % p, (x.2 + y.2) % p)
def subF (p : Int) (x y : Int × Int) : Int × Int := ((x.1 - y.1) % p, (x.2 - y.2) % p)
def mulF (p : Int) (x y : Int × Int) : Int × Int := ((x.1 * y.1 - x.2 * y.2) % p, (x.1 * y.2 + x.2 * y.1) % p)
def smulF (p : Int) (k : Int) (x : Int × Int) : Int × Int := ((x.1 * k) % p, (x.2 * k) % p)
def negF (p : Int) (x : Int × Int) : Int × Int := ((-x.1) % p, (-x.2) % p)
theorem fm {a b p : Int} (hp : 0 < p) (e : a = b) : a.fmod p % p = b % p := by rw [Int.fmod_eq_emod_of_nonneg _ (Int.le_of_lt hp), Int.emod_emod_of_dvd _ (Int.dvd_refl p), e]
/-- two elements -/
structure DTwo where
  p : Int
  x : Int × Int
  y : Int × Int
def RelTwo (small : List (Addr × Obj)) (vs : List Value) (d : DTwo) : Prop := ∃ v1 v2 l1 l2, vs = [.ref v1, .ref v2] ∧ small = l1 ++ l2 ∧ FQ d.p l1 (.ref v1) d.x ∧ FQ d.p l2 (.ref v2) d.y
structure DOne where
  p : Int
  x : Int × Int
def RelOne (small : List (Addr × Obj)) (vs : List Value) (d : DOne) : Prop := ∃ v1, vs = [.ref v1] ∧ FQ d.p small (.ref v1) d.x
structure DInt where
  p : Int
  x : Int × Int
  k : Int
def RelInt (small : List (Addr × Obj)) (vs : List Value) (d : DInt) : Prop := ∃ v1 tk, vs = [.ref v1, .int d.k tk] ∧ FQ d.p small (.ref v1) d.x
theorem off_p {D : Addr} {o : Obj} : ∀ {l : List (Addr × Obj)}, LCg.Off1 D l → (93, o) ∈ l → @Ne Nat D 93
  | _ :: _, x, .head _ => x.1.symm
  | _ :: _, x, .tail _ y => off_p x.2 y
end Mine
end

section
open PySem PySem.W PySem.Calls PyProof.Rows
namespace Mine
/-- a turn's end: the names again, the ledger again, finished generators besides -/
def WEnd {σ : Type} (h₀ : Heap) (L : Addr) (s : Shared) (Led : σ → List (Addr × Obj)) (ps : σ → List (Str × Value)) (Facts : σ → Prop) (stored : List Str) (m₀ : Str → Option Value) (μ : σ → Nat) (c : σ) (f : Flow) (s₂ : Shared) : Prop :=
  f = .next ∧ ∃ (c' : σ) (h' : Heap) (g' : Array GenState) (tk : Nat) (m' : Str → Option Value) (news' : List (Addr × Obj)), s₂ = ⟨h', g', s.drawn, tk, s.os⟩ ∧ AllBare g' ∧ Fr h₀ L h' m' ∧ News h₀ L h' news' ∧ Sub (Led c') news' ∧ Facts c' ∧ (∀ p ∈ ps c', m' p.1 = some p.2) ∧ (∀ z, (∀ p ∈ ps c', z ≠ p.1) → stored.contains z = false → m' z = m₀ z) ∧ μ c' < μ c

theorem wend {σ : Type} {h₀ : Heap} {L : Addr} {s : Shared} {Led : σ → List (Addr × Obj)} {ps : σ → List (Str × Value)} {Facts : σ → Prop} {stored : List Str} {m₀ m' : Str → Option Value} {μ : σ → Nat} {c : σ} {h' : Heap} {g' : Array GenState} {tk : Nat} {news' : List (Addr × Obj)} (c' : σ)
    (G : AllBare g') (F : Fr h₀ L h' m') (N : News h₀ L h' news') (hn : Sub (Led c') news') (hf : Facts c') (hk : ∀ p ∈ ps c', m' p.1 = some p.2) (hr : ∀ z, (∀ p ∈ ps c', z ≠ p.1) → stored.contains z = false → m' z = m₀ z) (hm : μ c' < μ c) :
    WEnd h₀ L s Led ps Facts stored m₀ μ c .next ⟨h', g', s.drawn, tk, s.os⟩ := ⟨rfl, c', h', g', tk, m', news', rfl, G, F, N, hn, hf, hk, hr, hm⟩

section
variable {prog : Program} {w : World} {A : Around} {E : Value → Shared → Prop} {Q : Flow → Shared → Prop} {s : Shared} {env : Env} {h₀ : Heap} {L : Addr}
theorem while_G {σ : Type} {test : Expr} {body : List Stmt} {pos : Pos} {m₀ : Str → Option Value} (Led : σ → List (Addr × Obj)) (ps : σ → List (Str × Value)) (Facts : σ → Prop) (stored : List Str) (μ : σ → Nat) (c₀ : σ)
    (F : Fr h₀ L s.heap m₀) (N : News h₀ L s.heap (Led c₀)) (G : AllBare s.gens) (hf : Facts c₀) (hk : ∀ p ∈ ps c₀, m₀ p.1 = some p.2)
    (turn : ∀ (c : σ) (u : Str → Option Value) h g tk, Facts c → AllBare g → Fr h₀ L h (kstB (fun z => if stored.contains z then u z else m₀ z) (ps c)) → News h₀ L h (Led c) →
      wpAny (model prog w) A (isTrue test env (eval test env)) (fun b s₂ =>
        if b = true then wpAny (model prog w) A (execs body env) (WEnd h₀ L s Led ps Facts stored m₀ μ c) E s₂ else Q .next s₂) E ⟨h, g, s.drawn, tk, s.os⟩)
    (hE : PassesOwn (model prog w) A env E := by passes_own) :
    wpAny (model prog w) A (exec (.While test body [] pos) env) Q E s := by
  refine wpAny_While (codeAny_whileLoop (fun n s' => ∃ c h g tk m news, s' = ⟨h, g, s.drawn, tk, s.os⟩ ∧ μ c = n ∧ AllBare g ∧ Fr h₀ L h m ∧ News h₀ L h news ∧ Sub (Led c) news ∧ Facts c ∧ (∀ p ∈ ps c, m p.1 = some p.2) ∧ (∀ z, (∀ p ∈ ps c, z ≠ p.1) → stored.contains z = false → m z = m₀ z)) ?_ (μ c₀)
    ⟨c₀, s.heap, s.gens, s.toks, m₀, _, rfl, rfl, G, F, N, Sub.refl, hf, hk, fun _ _ _ => rfl⟩)
  rintro n s' ⟨c, h, g, tk, m, news, rfl, rfl, G', F', N', sb, hf', h1, h2⟩
  refine wpAny_mono (turn c m h g tk hf' G' (ksw_fr h1 h2 F') (News.sub N' sb)) (fun b s₂ h₂ => ?_) hE
  cases b with
  | false =>
    simp only [Bool.false_eq_true, if_false] at h₂ ⊢
    exact wpAny_execs_nil h₂
  | true =>
    simp only [if_true] at h₂ ⊢
    refine wpAny_mono h₂ (fun f s₃ h₃ => ?_) hE
    obtain ⟨rfl, c', h', g', tk', m', news', rfl, G2, F2, N2, hn, hf2, hk2, hr2, hm2⟩ := h₃
    exact ⟨μ c', hm2, c', h', g', tk', m', news', rfl, rfl, G2, F2, N2, hn, hf2, hk2, hr2⟩
end
/-- a turn's end: the names again, the ledger again, no generator touched -/
def WEndP {σ : Type} (h₀ : Heap) (L : Addr) (s : Shared) (Led : σ → List (Addr × Obj)) (ps : σ → List (Str × Value)) (Facts : σ → Prop) (stored : List Str) (m₀ : Str → Option Value) (μ : σ → Nat) (c : σ) (f : Flow) (s₂ : Shared) : Prop :=
  f = .next ∧ ∃ (c' : σ) (h' : Heap) (tk : Nat) (m' : Str → Option Value) (news' : List (Addr × Obj)), s₂ = { s with heap := h', toks := tk } ∧ Fr h₀ L h' m' ∧ News h₀ L h' news' ∧ Sub (Led c') news' ∧ Facts c' ∧ (∀ p ∈ ps c', m' p.1 = some p.2) ∧ (∀ z, (∀ p ∈ ps c', z ≠ p.1) → stored.contains z = false → m' z = m₀ z) ∧ μ c' < μ c

theorem wendP {σ : Type} {h₀ : Heap} {L : Addr} {s : Shared} {Led : σ → List (Addr × Obj)} {ps : σ → List (Str × Value)} {Facts : σ → Prop} {stored : List Str} {m₀ m' : Str → Option Value} {μ : σ → Nat} {c : σ} {h' : Heap} {tk : Nat} {news' : List (Addr × Obj)} (c' : σ)
    (F : Fr h₀ L h' m') (N : News h₀ L h' news') (hn : Sub (Led c') news') (hf : Facts c') (hk : ∀ p ∈ ps c', m' p.1 = some p.2) (hr : ∀ z, (∀ p ∈ ps c', z ≠ p.1) → stored.contains z = false → m' z = m₀ z) (hm : μ c' < μ c) :
    WEndP h₀ L s Led ps Facts stored m₀ μ c .next { s with heap := h', toks := tk } := ⟨rfl, c', h', tk, m', news', rfl, F, N, hn, hf, hk, hr, hm⟩

section
variable {prog : Program} {w : World} {A : Around} {E : Value → Shared → Prop} {Q : Flow → Shared → Prop} {s : Shared} {env : Env} {h₀ : Heap} {L : Addr}
theorem while_P {σ : Type} {test : Expr} {body : List Stmt} {pos : Pos} {m₀ : Str → Option Value} (Led : σ → List (Addr × Obj)) (ps : σ → List (Str × Value)) (Facts : σ → Prop) (stored : List Str) (μ : σ → Nat) (c₀ : σ)
    (F : Fr h₀ L s.heap m₀) (N : News h₀ L s.heap (Led c₀)) (hf : Facts c₀) (hk : ∀ p ∈ ps c₀, m₀ p.1 = some p.2)
    (turn : ∀ (c : σ) (u : Str → Option Value) h tk, Facts c → Fr h₀ L h (kstB (fun z => if stored.contains z then u z else m₀ z) (ps c)) → News h₀ L h (Led c) →
      wpAny (model prog w) A (isTrue test env (eval test env)) (fun b s₂ =>
        if b = true then wpAny (model prog w) A (execs body env) (WEndP h₀ L s Led ps Facts stored m₀ μ c) E s₂ else Q .next s₂) E { s with heap := h, toks := tk })
    (hE : PassesOwn (model prog w) A env E := by passes_own) :
    wpAny (model prog w) A (exec (.While test body [] pos) env) Q E s := by
  refine wpAny_While (codeAny_whileLoop (fun n s' => ∃ c h tk m news, s' = { s with heap := h, toks := tk } ∧ μ c = n ∧ Fr h₀ L h m ∧ News h₀ L h news ∧ Sub (Led c) news ∧ Facts c ∧ (∀ p ∈ ps c, m p.1 = some p.2) ∧ (∀ z, (∀ p ∈ ps c, z ≠ p.1) → stored.contains z = false → m z = m₀ z)) ?_ (μ c₀)
    ⟨c₀, s.heap, s.toks, m₀, _, rfl, rfl, F, N, Sub.refl, hf, hk, fun _ _ _ => rfl⟩)
  rintro n s' ⟨c, h, tk, m, news, rfl, rfl, F', N', sb, hf', h1, h2⟩
  refine wpAny_mono (turn c m h tk hf' (ksw_fr h1 h2 F') (News.sub N' sb)) (fun b s₂ h₂ => ?_) hE
  cases b with
  | false =>
    simp only [Bool.false_eq_true, if_false] at h₂ ⊢
    exact wpAny_execs_nil h₂
  | true =>
    simp only [if_true] at h₂ ⊢
    refine wpAny_mono h₂ (fun f s₃ h₃ => ?_) hE
    obtain ⟨rfl, c', h', tk', m', news', rfl, F2, N2, hn, hf2, hk2, hr2, hm2⟩ := h₃
    exact ⟨μ c', hm2, c', h', tk', m', news', rfl, rfl, F2, N2, hn, hf2, hk2, hr2⟩
end
theorem Does.mono {D : Type} {w : World} {f : Addr} {c : Told D} {d : D} (C : Does w f c d) {Ok : D → Prop} {Out : List (Addr × Obj) → Value → D → Prop} (hok : Ok d → c.Ok d) (hout : Ok d → ∀ l r, c.Out l r d → Out l r d) :
    Does w f { c with Ok := Ok, Out := Out } d := by
  intro p loose mean mg mb dp un gd cn cs a ccd cl outer A₀ base h₀ L m news small s vs Q E B F X N T hk hs hR ok hd hu hret
  exact C p loose mean mg mb dp un gd cn cs a ccd cl outer A₀ base h₀ L m news small s vs Q E B F X N T hk hs hR (hok ok) hd hu fun r l h' tk' F' N' O' => hret r l h' tk' F' N' (hout ok l r O')

theorem nz_of {z c v : Int} (h : z = 0 + c * v) (h1 : 0 < c) (h2 : 0 < v) : z ≠ 0 := by rw [h, Int.zero_add]; exact Int.ne_of_gt (Int.mul_pos h1 h2)

theorem mem_cast2 {led : List (Addr × Obj)} {D : Addr} {a b a' b' : Int} {t u : Tok} {n : Nat} (h : (D, lstO [.int a' t, .int b' u] n) ∈ led) (ha : a' = a) (hb : b' = b) : (D, lstO [.int a t, .int b u] n) ∈ led := ha ▸ hb ▸ h
theorem mem_cast1 {led : List (Addr × Obj)} {D : Addr} {a a' : Int} {t : Tok} {n : Nat} (h : (D, lstO [.int a' t] n) ∈ led) (ha : a' = a) : (D, lstO [.int a t] n) ∈ led := ha ▸ h

theorem mem_cast3 {led : List (Addr × Obj)} {D : Addr} {a b c a' b' c' : Int} {t u v : Tok} {n : Nat} (h : (D, lstO [.int a' t, .int b' u, .int c' v] n) ∈ led) (ha : a' = a) (hb : b' = b) (hc : c' = c) : (D, lstO [.int a t, .int b u, .int c v] n) ∈ led := ha ▸ hb ▸ hc ▸ h

theorem item_led {prog : Program} {w : World} {A : Around} {E : Value → Shared → Prop} {s : Shared} {h₀ : Heap} {L : Addr} {value slice : PySem.Expr} {l : Addr} {vs : List Value} {n : Nat} {k : Int} {u : Tok} {v : Value} {Q : Value → Shared → Prop} {news : List (Addr × Obj)}
    (N : News h₀ L s.heap news) (hm : (l, lstO vs n) ∈ news) (h0 : 0 ≤ k) (hhi : k < 2 ^ 63) (hx : vs[k.toNat]? = some v) (h : Q v s)
    (hs : subscripted slice false (.ref l) (.int k u) = operate [.ref l, .int k u] (getItem (.ref l) (.int k u)) := by with_unfolding_all rfl) :
    wpAny (model prog w) A (subscriptTail value slice (.ref l) (.int k u)) Q E s := by
  have hl : s.heap.IsList l vs.toArray := ⟨_, (N _ hm).1, rfl, _, rfl⟩
  exact tail_any hl.typeIs slot_list_getitem.lookup (wpAny_getItem_list hl h0 hhi (by simpa using hx) h) hs

section
variable {prog : Program} {w : World} {A : Around} {E : Value → Shared → Prop} {s : Shared} {h₀ h : Heap} {L D b : Addr} {m : Str → Option Value} {news news' : List (Addr × Obj)} {its its2 : Array Value} {n n2 : Nat}
theorem iadd_list {Q : Value → Shared → Prop} {q : List Value} (F : Fr h₀ L s.heap m) (N : News h₀ L s.heap news) (hb : (b, W.listOf its2 n2) ∈ news) (e : its.toList ++ its2.toList = q) (ne : its2.toList.length ≠ 0)
    (U : Upd D (W.listOf its n) (W.listOf q.toArray (n + 1)) news news') (hd : ¬(!its.isEmpty && Builtin.List.listTooLong (its.size + its2.size)) = true) (hz : its.toList.length ≤ sizeLine) (hz2 : its.size + its2.size ≤ sizeLine + 1)
    (h : ∀ h', Fr h₀ L h' m → News h₀ L h' news' → Q (.ref D) { s with heap := h' }) : wpAny (model prog w) A (inplaceOp .Add (.ref D) (.ref b)) Q E s := by
  obtain ⟨pre, post, rfl, rfl, a, c⟩ := U.split
  have z := N (D, W.listOf its n) (List.mem_append.mpr (.inr (.head _)))
  have ha : s.TypeIs (.ref D) "list" := Heap.IsList.typeIs ⟨_, z.1, rfl, _, rfl⟩
  have hb' : s.TypeIs (.ref b) "list" := Heap.IsList.typeIs ⟨_, (N _ hb).1, rfl, _, rfl⟩
  have hl : typeLookup (.type "list") (dunderI "add") = pure (some (.builtin "list.__iadd__")) := PySem.F.slot_list_iadd.lookup
  have hfi : fillsInplaceSlot (.type "list") "add" (Operator.Add == .Add) = pure false := by
    unfold fillsInplaceSlot
    show (typeLookup (.type "list") (dunderI "add") >>= fun fi => pure (fi.isSome && !isSeqSlot fi)) = pure false
    rw [hl]; rfl
  have hsi : seqSlot? (.type "list") (dunderI "add") = pure (some (.builtin "list.__iadd__")) := by
    unfold seqSlot?
    rw [hl]; rfl
  have hfill : fillsNumberSlot (.type "list") "add" = pure false := PySem.noFill_list_add
  unfold inplaceOp
  refine wpAny_holding ?_
  refine wpAny_bind (wpAny_typeOf ha (wpAny_bind (wpAny_of_eq hfi ?_)))
  show wpAny _ A (if false = true then _ else _) Q E s
  rw [if_neg Bool.false_ne_true]
  refine wpAny_bind (wpAny_binaryOp1_none (nm := "add") ha hb' hfill ?_)
  refine wpAny_bind (wpAny_of_eq hsi ?_)
  refine wpAny_bind (wpAny_rule ?_)
  exact call_meets PySem.F.slot_list_iadd ⟨_, z.1, rfl⟩ PySem.F.entry_list_iadd (PySem.F.args_list_iadd_2 _ _) (PySem.AutoSeq1.list___iadd___list_list_0 D its n b its2 n2 hd (by simpa using hz) hz2) ⟨z.1, (N _ hb).1, h _ (F.change (Heap.SameBut.update ..) z.2.1 z.2.2) (kl_turn (fun x => x ++ its2) N a c (by rw [← e]; simp) (by rw [← e]; simp; simpa using ne))⟩
end

theorem lt_of_all {a x : Addr} {o : Obj} : ∀ {l : List (Addr × Obj)}, AllLt a l → (x, o) ∈ l → @LT.lt Nat _ x a
  | q :: r, h, m => by
    rcases List.mem_cons.mp m with e | m
    · cases e; exact h.1
    · exact lt_of_all h.2 m

theorem ne_cast {a : Addr} : ∀ {l l' : List (Addr × Obj)}, AllLt a l → l'.map (·.1) = l.map (·.1) → ∀ p ∈ l', p.1 ≠ a
  | [], [], _, _, _, hp => nomatch hp
  | q :: r, q' :: r', h, e, p, hp => by
    rw [List.map_cons, List.map_cons] at e
    injection e with e1 e2
    rcases List.mem_cons.mp hp with rfl | hp
    · rw [e1]; exact Nat.ne_of_lt h.1
    · exact ne_cast h.2 e2 p hp
  | [], _ :: _, _, e, _, _ => nomatch e
  | _ :: _, [], _, e, _, _ => nomatch e

theorem subL_mono {q : Addr × Obj} {all : List (Addr × Obj)} : ∀ {l : List (Addr × Obj)}, SubL l all → SubL l (q :: all)
  | [], _ => trivial
  | _ :: _, h => ⟨.tail _ h.1, subL_mono h.2⟩
theorem subL_refl : ∀ {l : List (Addr × Obj)}, SubL l l
  | [] => trivial
  | _ :: _ => ⟨.head _, subL_mono subL_refl⟩
theorem subL_t1 {p : Addr × Obj} {l : List (Addr × Obj)} : SubL l (p :: l) := subL_mono subL_refl
theorem subL_t2 {p q : Addr × Obj} {l : List (Addr × Obj)} : SubL l (p :: q :: l) := subL_mono subL_t1
theorem subL_t3 {p q r : Addr × Obj} {l : List (Addr × Obj)} : SubL l (p :: q :: r :: l) := subL_mono subL_t2
theorem offI_of {I : Addr} {it : Obj} : ∀ {l : List (Addr × Obj)}, (∀ p ∈ l, p.1 ≠ I) → OffI I it l
  | [], _ => trivial
  | p :: _, h => ⟨Or.inl (h p (.head _)), offI_of fun q hq => h q (.tail _ hq)⟩
theorem offW1 {I : Addr} {it : Obj} : ∀ {l : List (Addr × Obj)}, (∀ p ∈ l, p.1 ≠ I) → OffW [(I, it)] l
  | [], _ => trivial
  | p :: _, h => ⟨⟨Or.inl (h p (.head _)), trivial⟩, offW1 fun q hq => h q (.tail _ hq)⟩
theorem offW2 {I J : Addr} {it jt : Obj} : ∀ {l : List (Addr × Obj)}, (∀ p ∈ l, p.1 ≠ J) → (∀ p ∈ l, p.1 ≠ I) → OffW [(J, jt), (I, it)] l
  | [], _, _ => trivial
  | p :: _, h, h' => ⟨⟨Or.inl (h p (.head _)), Or.inl (h' p (.head _)), trivial⟩, offW2 (fun q hq => h q (.tail _ hq)) fun q hq => h' q (.tail _ hq)⟩
theorem ne_cast1 {a k : Addr} : ∀ {l l' : List (Addr × Obj)}, AllLt a l → l'.map (·.1) = l.map (·.1) → ∀ p ∈ l', p.1 ≠ a + k
  | [], [], _, _, _, hp => nomatch hp
  | q :: r, q' :: r', h, e, p, hp => by
    rw [List.map_cons, List.map_cons] at e
    injection e with e1 e2
    rcases List.mem_cons.mp hp with rfl | hp
    · rw [e1]; exact Nat.ne_of_lt (Nat.lt_add_right _ h.1)
    · exact ne_cast1 h.2 e2 p hp
  | [], _ :: _, _, e, _, _ => nomatch e
  | _ :: _, [], _, e, _, _ => nomatch e

theorem units_lt {un k : Nat} (h : un + k < cLine) : un < cLine := Nat.lt_of_le_of_lt (Nat.le_add_right _ _) h

theorem ne93_of {l : List (Addr × Obj)} {D : Addr} {o : Obj} (h : ∀ p ∈ l, p.1 < D) (m : (93, o) ∈ l) : @Ne Nat D 93 := Ne.symm (Nat.ne_of_lt (h _ m))

def Halt (p : Prop) : Prop := p
theorem halt {p : Prop} (h : Halt p) : p := h
theorem gen_set {M : Model} {A : Around} {D : Addr} {k v : Int} {t tv : Tok} {Q : Unit → Shared → Prop} {E : Value → Shared → Prop} {s : Shared}
    (h : ∀ z tz, z = v → wpAny M A (setItem (.ref D) (.int k t) (.int z tz)) Q E s) : wpAny M A (setItem (.ref D) (.int k t) (.int v tv)) Q E s := h v tv rfl
end Mine
end

section
open PySem PySem.W PySem.Calls PyProof.Rows
set_option maxRecDepth 100000
namespace Mine
open Sem (wp) in
theorem lm_int_mul_inst (a : Int) (t : Tok) (l C dx : Addr) (sl : Array (Option Value)) :
    Meets (Builtin.«int.__mul__» ⟨[.int a t, .ref l], []⟩) (fun _ R s => s.heap.get? l = some { cls := .ref C, dict := some dx, data := .plain, slots := sl } ∧ R (.ok (.ret Value.notImplemented)) s) :=
  .of_wp fun prog w A R s h => by obtain ⟨hp, g, d, tk, os⟩ := s; obtain ⟨hl, h⟩ := h; wp_walk; exact ⟨_, rfl, h⟩
section
variable {prog : Program} {w : World} {A : Around} {E : Value → Shared → Prop} {s : Shared} {K : Frag} {x C L f f' dx : Addr} {h₀ : Heap} {m : Str → Option Value} {od : Obj} {sl : Array (Option Value)}
/-- a number times an instance: the number declines, the instance's own reflected method answers -/
theorem int_mul_inst {k : Int} {t : Tok} {Q : Value → Shared → Prop} (F : Fr h₀ L s.heap m) (X₀ : K.In h₀) (I : InstAt s.heap x ⟨.ref C, some dx, .plain, sl⟩ C (some od)) (hx : s.heap.get? x = some ⟨.ref C, some dx, .plain, sl⟩) (hc : selfFirst K C = true)
    (hm : findIn K (.ref C) (PySem.dunder "mul") = some (some (.ref f'))) (hs : findIn K (.ref C) (dunderR "mul") = some (some (.ref f))) (hf : isFn K (.ref f) = true) (hsub : subIn K (.ref C) (.type "int") = some false)
    (h : wpAny (model prog w) A (call (.ref f) [.ref x, .int k t]) (PySem.W.CmpBack Q) E s) : wpAny (model prog w) A (binaryOp .Mult (.int k t) (.ref x)) Q E s := by
  have X := X₀.keeps F.keep
  obtain ⟨cd, rest, hcd, hmm⟩ := ksp_first hc
  have one : wpAny (model prog w) A (tryMethod (.ref x) (dunderR "mul") (.int k t)) (fun r s' => ∃ v, r = some v ∧ Q v s') E s := by
    have := @ksp_try (model prog w) A E s K x C f _ _ Q (dunderR "mul") (.int k t) X I hs hf h
    exact this
  have decl : wpAny (model prog w) A (tryMethod (.int k t) (PySem.dunder "mul") (.ref x)) (fun r s' => r = none ∧ s' = s) E s := by
    have hcall : wpAny (model prog w) A (call (.builtin "int.__mul__") [.int k t, .ref x]) (fun v s' => v = .notImplemented ∧ (none : Option Value) = none ∧ s' = s) E s :=
      call_meets PySem.F.slot_int_mul (typeIs_int s k t) PySem.F.entry_int_mul (PySem.F.args_int_mul_2 _ _) (lm_int_mul_inst k t x C dx sl) ⟨hx, rfl, rfl, rfl⟩
    refine wpAny_tryMethod_declines (T := "int") (id := "int.__mul__") ?h1 ?h2 ?h3
    case h1 => exact typeIs_int s k t
    case h2 => exact PySem.F.slot_int_mul
    case h3 => exact hcall
  obtain ⟨hh, g, d, tt, os⟩ := s
  have L1 : Looks (model prog w) hh (typeOf (.ref x)) (.ref C) := I.type
  have L2 : Looks (model prog w) hh (typeOf (.int k t)) (.type "int") := Looks.of_pure rfl
  have L3 : Looks (model prog w) hh (fillsNumberSlot (.ref C) "mul") true := fills_K X hcd hmm hm
  have L4 : Looks (model prog w) hh (fillsNumberSlot (.type "int") "mul") true := Looks.of_pure PySem.F.fills_int_mul
  have L5 : Looks (model prog w) hh (isSubtype (.ref C) (.type "int")) false := looks_subIn X hsub
  have L7 : Looks (model prog w) hh (numberSlotInPython (.type "int") "mul") false := Looks.of_pure rfl
  have hne : (Value.type "int" == Value.ref C) = false := Bool.eq_false_iff.mpr fun q => by cases beq_iff_eq.mp q
  have hi : Operator.Mult.info = ("*", "mul") := rfl
  simp only [binaryOp, hi]
  refine wpAny_holding (wpAny_bind ?_)
  unfold binaryOp1
  refine wpAny_bind (L2.at (wpAny_bind (L1.at (wpAny_bind (L4.at ?_)))))
  simp only [hne, Bool.false_eq_true, if_false]
  ksp_lk
  refine wpAny_mono decl (fun r s' hr' => ?_) fun _ _ e => e
  obtain ⟨rfl, rfl⟩ := hr'
  ksp_lk
  refine wpAny_mono one (fun r s' hr' => ?_) fun _ _ e => e
  obtain ⟨v, rfl, hq⟩ := hr'
  ksp_lk
  exact hq
end
end Mine
end

section
open PySem PySem.W PySem.Calls PyProof.Rows
set_option maxRecDepth 100000
namespace Mine
def pmod (a b c : Int) : Int := (Builtin.powMod (a % (c.natAbs : Int)).toNat b.natAbs c.natAbs : Nat)
theorem gives_pow3 (a : Int) (t : Tok) (b : Int) (u : Tok) (c : Int) (v : Tok) (hc0 : ¬(c == 0) = true) (hc1 : ¬(c.natAbs == 1) = true) (hb : ¬ b < 0) (hc : (c < 0 && (Builtin.powMod (a % (c.natAbs : Int)).toNat b.natAbs c.natAbs : Int) != 0) = false) :
    PySem.Gives (Builtin.«int.__pow__» ⟨[.int a t, .int b u, .int c v], []⟩) (.int (pmod a b c)) :=
  .of_wp fun M A E s Q h => by obtain ⟨hp, g, d, tk, os⟩ := s; wp_walk; exact ⟨_, rfl, by rw [if_neg (by rw [hc]; exact Bool.false_ne_true)]; exact h⟩
theorem pow_kind : builtinKind "pow" = none := by decide +kernel
theorem pow_plain : plainId "pow" = true := by decide +kernel
theorem pow_entry : entryFor table "pow" = some Builtin.«pow» := entryFor_of_fast (by kernel_rfl)
theorem pow_args (a b c : Value) : argsOk "pow" ⟨[a, b, c], []⟩ := by unfold argsOk; kernel_rfl
theorem pow_args3 (a b c : Value) : argsOk "int.__pow__" ⟨[a, b, c], []⟩ := by unfold argsOk; kernel_rfl
section
variable {prog : Program} {w : World} {A : Around} {E : Value → Shared → Prop} {s : Shared} {a b c : Int} {t u v : Tok} {Q : Value → Shared → Prop}
set_option maxHeartbeats 2000000 in
theorem call_pow3 (hc0 : ¬(c == 0) = true) (hc1 : ¬(c.natAbs == 1) = true) (hb : ¬ b < 0) (hc : (c < 0 && (Builtin.powMod (a % (c.natAbs : Int)).toNat b.natAbs c.natAbs : Int) != 0) = false)
    (h : Q (.int (pmod a b c) s.toks) { s with toks := s.toks + 1 }) : wpAny (model prog w) A (call (.builtin "pow") [.int a t, .int b u, .int c v]) Q E s := by
  refine call_function_entry pow_kind pow_plain pow_entry (pow_args _ _ _) ?_
  obtain ⟨hp, g, d, tk, os⟩ := s
  have hT : (⟨hp, g, d, tk, os⟩ : Shared).TypeIs (.int a t) "int" := rfl
  unfold Builtin.«pow»
  refine wpAny_bind (m := Builtin.Builtins.bindParams _ _ _ _) (wpAny_pure ?_)
  dsimp only [Option.getD]
  refine wpAny_bind (wpAny_rule ?_)
  refine wpAny_bind (wpAny_typeOf hT ?_)
  dsimp only
  refine wpAny_bind (wpAny_of_eq F.slot_int_pow.lookup ?_)
  dsimp only
  refine wpAny_bind ?_
  have hS : Slot "int" (Str.ofString "__pow__") "int.__pow__" := F.slot_int_pow
  with_reducible refine wpAny_callSpecial?_slot hT hS ?_
  refine call_gives F.slot_int_pow hT F.entry_int_pow (pow_args3 _ _ _) (gives_pow3 a t b u c v hc0 hc1 hb hc) ?_
  show wpAny _ _ (if ((Value.int (pmod a b c) tk) != Value.notImplemented) = true then ret (Value.int (pmod a b c) tk) else _) _ _ _
  rw [if_pos (by rfl)]
  exact wpAny_pure ⟨_, rfl, h⟩
end
theorem powMod_lt {b e m : Nat} (hm : 0 < m) : Builtin.powMod b e m < m := by
  unfold Builtin.powMod
  generalize (List.range (Builtin.Int.intBits e)).reverse = l
  have h0 : 1 % m < m := Nat.mod_lt _ hm
  revert h0
  generalize 1 % m = x
  intro h0
  induction l generalizing x with
  | nil => exact h0
  | cons i l ih =>
    rw [List.foldl_cons]
    refine ih _ ?_
    split <;> exact Nat.mod_lt _ hm
theorem pmod_in {a b c : Int} (hc : 1 < c) : 0 ≤ pmod a b c ∧ pmod a b c < c := by
  have := @powMod_lt (a % (c.natAbs : Int)).toNat b.natAbs c.natAbs (by omega)
  unfold pmod
  omega
section
variable {prog : Program} {w : World} {A : Around} {E : Value → Shared → Prop} {s : Shared} {a b c : Int} {t u v : Tok} {Q : Value → Shared → Prop}
theorem call_powm (hc : 1 < c) (hc2 : c < 24) (hb : 0 ≤ b)
    (h : ∀ r tk, r = pmod a b c → 0 ≤ r → r < c → Builtin.Int.intBits r ≤ 64 → Q (.int r s.toks) { s with toks := tk }) : wpAny (model prog w) A (call (.builtin "pow") [.int a t, .int b u, .int c v]) Q E s := by
  have hi := @pmod_in a b c hc
  refine call_pow3 (by simp; omega) (by simp; omega) (by omega) (by simp; omega) (h _ _ rfl hi.1 hi.2 (PySem.intBits_le_64 (by omega) (by omega)))
end
end Mine
end

section
open PySem PySem.W PySem.Calls PyProof.Rows
namespace Mine
open LCg (NsObj lst)
section
variable {prog : Program} {w : World} {A : Around} {E : Value → Shared → Prop} {s : Shared} {h₀ : Heap} {L : Addr} {m : Str → Option Value} {env : Env}
/-- the end of an element that may have made things: finished generators, the one table grown -/
def CEndG (h₀ : Heap) (L : Addr) (m : Str → Option Value) (s : Shared) (its : List (Addr × Obj)) (C : Addr) (oC : Obj) (D : Addr) (oD : Obj) (news : List (Addr × Obj)) (rest : Value → List (Addr × Obj) → Prop) (y : Value) (s₂ : Shared) : Prop :=
  ∃ h' g' tk oP' add, s₂ = ⟨h', g', s.drawn, tk, s.os⟩ ∧ AllBare g' ∧ TabOk oP' ∧ Fr h₀ L h' m ∧ News h₀ L h' (its ++ ((C, oC) :: (D, oD) :: (93, oP') :: (add ++ news))) ∧ (∀ p ∈ add, p ∈ news ∨ (p.1 ≠ C ∧ p.1 ≠ D ∧ ∀ q ∈ its, p.1 ≠ q.1)) ∧ rest y add
def CRestG (prog : Program) (w : World) (A : Around) (h₀ : Heap) (L : Addr) (m : Str → Option Value) (env : Env) (elt : Expr) (ifs : List Expr) (names : List Str) (scope : Scope) (cl : List (Str × Addr)) (s : Shared) (ws : List (Addr × String)) (Fin : List Value → List (Addr × Obj) → Prop) :
    List Itm → List Value → List (Addr × Obj) → Prop
  | [], ys, news => Fin ys news
  | a :: r, ys, news => ∀ h g tk oP C oC D m₂ (E' : Value → Shared → Prop), AllBare g → TabOk oP → @Ne Nat 93 C → @Ne Nat 93 D → NsObj oC m₂ → Gives a names m₂ → Fr h₀ L h m → AllObj ws (fun its => News h₀ L h (its ++ ((C, oC) :: (D, lst ys) :: (93, oP) :: news)) → COff its C D news →
      wpAny (model prog w) A (forIn ifs true fun c r => if r = true then do let ok ← isTrue c (compEnvC scope cl C env) (eval c (compEnvC scope cl C env)); pure (ForInStep.yield ok) else pure (ForInStep.yield r)) (fun ok s₃ =>
        if ok = true then wpAny (model prog w) A (eval elt (compEnvC scope cl C env)) (CEndG h₀ L m s its C oC D (lst ys) news (fun y add => CRestG prog w A h₀ L m env elt ifs names scope cl s ws Fin r (ys ++ [y]) (add ++ news))) E' s₃
        else CEndG h₀ L m s its C oC D (lst ys) news (fun _ add => CRestG prog w A h₀ L m env elt ifs names scope cl s ws Fin r ys (add ++ news)) .none s₃) E' ⟨h, g, s.drawn, tk, s.os⟩)

theorem comp_blockG {elt target iter : Expr} {ifs : List Expr} {names : List Str} {scope : Scope} {cl : List (Str × Addr)} {pos : Pos} {s₂ : Shared} {I : Addr} {xs : List Itm} {ws : List (Addr × String)} {keep news : List (Addr × Obj)}
    {Fin : List Value → List (Addr × Obj) → Prop} {RR : Value → Addr → Result → Shared → Prop} (S : Src prog w A h₀ L target I xs ws keep s₂.heap) (hsz : xs.length ≤ sizeLine) (hfit : ∀ a ∈ xs, Fits a names) (hb : BindsT prog w A target names scope cl env)
    (hcell : ∀ y ∈ scope.names, y.2 ≠ .cell) (hkind : scope.kind = .function) (F : Fr h₀ L s₂.heap m) {oP : Obj} (N : News h₀ L s₂.heap ((93, oP) :: news)) (hT : TabOk oP) (G : AllBare s₂.gens) (off93 : (93 : Addr) ∉ ws.map (·.1)) (hk : Sub0 keep news) (off : ∀ p ∈ news, p.1 ∉ ws.map (·.1))
    (R : CRestG prog w A h₀ L m env elt ifs names scope cl s₂ ws Fin xs [] news)
    (hRR : ∀ D C h g tk oP m' ys news', AllBare g → TabOk oP → Fr h₀ L h m → News h₀ L h ((D, lst ys) :: (93, oP) :: news') → @Ne Nat 93 C → @Ne Nat 93 D → (∀ p ∈ news', p.1 ≠ C ∧ p.1 ≠ D) → h.Ns C m' → h₀.get? C = none → h₀.get? D = none → C ≠ L → D ≠ L → C ≠ D → (∀ p ∈ news, p.1 < D) → Fin ys news' → RR (.ref D) C (.ok .next) ⟨h, g, s₂.drawn, tk, s₂.os⟩) :
    wpAny (model prog w) A (newList []) (fun acc s₃ => wpAny (model prog w) A (newFunctionEnv scope env.globals cl [] env.qual none .none (some env)) (fun cenv s₄ =>
      codeAny (model prog w) A (.compStart (.ListComp elt [⟨target, iter, ifs, 0⟩] scope pos) 0 (.ref I) acc { cenv with scope := relabel scope env }) (RR acc cenv.locals) s₄) E s₃) E s₂ := by
  obtain ⟨fp, wr, n, P, Md, St, W, hn, hP, hobj, hws, hwr, hfp, hst, hlive, hself⟩ := S
  refine wpAny_newObj_type (wpAny_newFunctionEnv hcell (by intro y hy; simp at hy) (fun h₁ hns₁ hsb₁ => ?_) hkind)
  dsimp only at hns₁ hsb₁ ⊢
  generalize hH2 : s₂.heap.push { cls := .type "list", dict := none, data := .seq ([] : List Value).toArray } = H2 at hns₁ hsb₁ ⊢
  have hC : H2.objs.size = s₂.heap.objs.size + 1 := by rw [← hH2, Heap.size_push]
  have hDC : s₂.heap.objs.size ≠ H2.objs.size := by rw [hC]; exact Nat.ne_of_lt (Nat.lt_succ_self _)
  have below : ∀ b, b < s₂.heap.objs.size → b ≠ H2.objs.size ∧ b ≠ s₂.heap.objs.size := fun b hb => ⟨by rw [hC]; exact Nat.ne_of_lt (Nat.lt_succ_of_lt hb), Nat.ne_of_lt hb⟩
  have old : ∀ b o, s₂.heap.get? b = some o → h₁.get? b = some o := fun b o e => hsb₁.extBut b o (below b (Heap.lt_size e)).1 (Heap.get?_push_of_some _ (hH2 ▸ Heap.get?_push_of_some _ e))
  have hacc : h₁.get? s₂.heap.objs.size = some (lst []) := hsb₁.extBut _ _ hDC (Heap.get?_push_of_some _ (hH2 ▸ Heap.get?_push_size _ rfl))
  have fresh₀ : ∀ a, s₂.heap.objs.size ≤ a → h₀.get? a = none := fun a ha => by
    cases e : h₀.get? a with
    | none => rfl
    | some o' => exact absurd (Heap.lt_size (F.keep a o' e)) (Nat.not_lt.mpr ha)
  have hD₀ : h₀.get? s₂.heap.objs.size = none := fresh₀ _ (Nat.le_refl _)
  have hC₀ : h₀.get? H2.objs.size = none := fresh₀ _ (by rw [hC]; exact Nat.le_succ _)
  have hLlt : L < s₂.heap.objs.size := F.ns.lt
  have hDL : s₂.heap.objs.size ≠ L := Ne.symm (below L hLlt).2
  have hCL : H2.objs.size ≠ L := Ne.symm (below L hLlt).1
  have fplt : ∀ b ∈ fp, b < s₂.heap.objs.size := fun b hb => by obtain ⟨o, e⟩ := hlive b hb; exact Heap.lt_size e
  have hst₁ : St 0 h₁ := W.frame _ _ _ hst fun b _ o e => old b o e
  have wlt : ∀ b ∈ ws.map (·.1), b < s₂.heap.objs.size := fun b hb => fplt b (hws b hb).1
  have hwC : H2.objs.size ∉ wr := fun q => (below _ (wlt _ (hwr _ q))).1 rfl
  have hwD : s₂.heap.objs.size ∉ wr := fun q => (below _ (wlt _ (hwr _ q))).2 rfl
  have hwL : L ∉ wr := fun q => (hws _ (hwr _ q)).2.2 rfl
  have hw₀ : ∀ b o, h₀.get? b = some o → b ∉ wr := fun b o e q => by rw [(hws _ (hwr _ q)).2.1] at e; cases e
  have offC : ∀ p ∈ news, p.1 ≠ H2.objs.size ∧ p.1 ≠ s₂.heap.objs.size ∧ p.1 ∉ ws.map (·.1) := fun p hp => ⟨(below _ (Heap.lt_size (N p (.tail _ hp)).1)).1, (below _ (Heap.lt_size (N p (.tail _ hp)).1)).2, off p hp⟩
  have lt93 : (93 : Addr) < s₂.heap.objs.size := Heap.lt_size (N _ (.head _)).1
  have p93C : (93 : Addr) ≠ H2.objs.size := (below _ lt93).1
  have p93D : (93 : Addr) ≠ s₂.heap.objs.size := (below _ lt93).2
  have p93w : (93 : Addr) ∉ wr := fun q => off93 (hwr _ q)
  have loop : ∀ s₃ : Shared, s₃ = { s₂ with heap := h₁, toks := s₂.toks + ([] : List (Str × Value)).length } →
      codeAny (model prog w) A (.compLoop (.ListComp elt [⟨target, iter, ifs, 0⟩] scope pos) 0 (.ref I) (.ref s₂.heap.objs.size) (compEnvC scope cl H2.objs.size env))
        (RR (.ref s₂.heap.objs.size) H2.objs.size) s₃ := by
    rintro s₃ rfl
    refine compLoop_any
      (fun k s' => ∃ h' g' tk i ys m' oP' news', s' = ⟨h', g', s₂.drawn, tk, s₂.os⟩ ∧ AllBare g' ∧ TabOk oP' ∧ i ≤ n ∧ k = n + 1 - i ∧ ys.length ≤ i ∧ St i h' ∧ Fr h₀ L h' m ∧ h'.Ns H2.objs.size m' ∧ News h₀ L h' ((s₂.heap.objs.size, lst ys) :: (93, oP') :: news') ∧
        (∀ p ∈ news', p.1 ≠ H2.objs.size ∧ p.1 ≠ s₂.heap.objs.size ∧ p.1 ∉ ws.map (·.1)) ∧ Sub0 keep news' ∧ CRestG prog w A h₀ L m env elt ifs names scope cl s₂ ws Fin (xs.drop i) ys news') ?_ (n + 1)
      ⟨h₁, s₂.gens, _, 0, [], _, oP, news, rfl, G, hT, Nat.zero_le _, rfl, Nat.le_refl _, hst₁, F.keeps old, hns₁, fun p hp => ?_, offC, hk, by rw [List.drop_zero]; exact R⟩
    · rintro k s' ⟨h', g', tk, i, ys, m', oP', news', rfl, G', hT', hi, rfl, hyl, hst', F', hn', N', off', hk', R'⟩
      by_cases hlt : i < n
      · have hlt' : i < xs.length := hn ▸ hlt
        refine W.item i _ _ _ hlt hst' fun v h₂ tk₂ hMd hk₂ => ?_
        refine W.go i v _ _ _ hMd fun h₃ hPv hst₃ hk₃ => ?_
        replace hk₃ : ∀ b o, b ∉ wr → h₂.get? b = some o → h₃.get? b = some o := hk₃
        have up3 : ∀ b o, b ∉ wr → h'.get? b = some o → h₃.get? b = some o := fun b o hb e => hk₃ b o hb (hk₂ b o hb e)
        obtain ⟨a, ha, hav⟩ := hP i v h₃ hPv
        have hdrop : xs.drop i = a :: xs.drop (i + 1) := by
          rw [List.drop_eq_getElem_cons hlt']
          congr 1
          exact Option.some.inj ((List.getElem?_eq_getElem hlt').symm.trans ha)
        rw [hdrop] at R'
        refine hb a v _ H2.objs.size m' _ _ hav (hfit a (List.mem_of_getElem? ha)) (hn'.at' fun o e => up3 _ o hwC e) fun h₄ tk₄ m₂ hn₄ hg hk₄ => ?_
        replace hk₄ : ∀ b o, b ≠ H2.objs.size → h₃.get? b = some o → h₄.get? b = some o := hk₄
        have up : ∀ b o, b ∉ wr → b ≠ H2.objs.size → h'.get? b = some o → h₄.get? b = some o := fun b o hb hc e => hk₄ b o hc (up3 b o hb e)
        have hst₄ : St (i + 1) h₄ := W.frame _ _ _ hst₃ fun b hb o e => hk₄ b o (below b (fplt b hb)).1 e
        obtain ⟨its, hits, hval⟩ := hobj (i + 1) h₄ hst₄
        have hmap := hits.map
        obtain ⟨oC, heC, hoC⟩ := LCg.ns_obj hn₄
        have F₄ : Fr h₀ L h₄ m := ⟨F'.ns.at' fun o e => up L o hwL (Ne.symm hCL) e, fun b o e => up b o (hw₀ b o e) (fun q => by rw [q, hC₀] at e; cases e) (F'.keep b o e), F'.above⟩
        have N₄ : News h₀ L h₄ (its ++ ((H2.objs.size, oC) :: (s₂.heap.objs.size, lst ys) :: (93, oP') :: news')) := fun p hp => by
          rcases List.mem_append.mp hp with hp | hp
          · have hq : p.1 ∈ ws.map (·.1) := by rw [← hmap]; exact List.mem_map.mpr ⟨p, hp, rfl⟩
            exact ⟨hval p hp, (hws _ hq).2.2, (hws _ hq).2.1⟩
          rcases List.mem_cons.mp hp with rfl | hp
          · exact ⟨heC, hCL, hC₀⟩
          rcases List.mem_cons.mp hp with rfl | hp
          · exact ⟨up _ _ hwD hDC (N' _ (.head _)).1, hDL, hD₀⟩
          rcases List.mem_cons.mp hp with rfl | hp
          · have z := N' _ (List.mem_cons_of_mem _ (.head _))
            exact ⟨up _ _ p93w p93C z.1, z.2⟩
          · have z := N' p (List.mem_cons_of_mem _ (List.mem_cons_of_mem _ hp))
            exact ⟨up _ _ (fun q => (off' p hp).2.2 (hwr _ q)) (off' p hp).1 z.1, z.2⟩
        have inI : ∀ q ∈ its, q.1 ∈ ws.map (·.1) := fun q hq => by rw [← hmap]; exact List.mem_map.mpr ⟨q, hq, rfl⟩
        have coff : COff its H2.objs.size s₂.heap.objs.size news' := fun p hp => ⟨(off' p hp).1, (off' p hp).2.1, fun q hq e => (off' p hp).2.2 (e ▸ inI q hq)⟩
        -- what the turn's end leaves for the loop
        have again : ∀ {ys' : List Value} {h₅ : Heap} {g₅ : Array GenState} {tk₅ : Nat} {oP₅ : Obj} {add : List (Addr × Obj)}, ys'.length ≤ i + 1 → AllBare g₅ → TabOk oP₅ → Fr h₀ L h₅ m → News h₀ L h₅ (its ++ ((H2.objs.size, oC) :: (s₂.heap.objs.size, lst ys') :: (93, oP₅) :: (add ++ news'))) →
            (∀ p ∈ add, p ∈ news' ∨ (p.1 ≠ H2.objs.size ∧ p.1 ≠ s₂.heap.objs.size ∧ ∀ q ∈ its, p.1 ≠ q.1)) → CRestG prog w A h₀ L m env elt ifs names scope cl s₂ ws Fin (xs.drop (i + 1)) ys' (add ++ news') →
            ∃ k', k' < n + 1 - i ∧ ∃ h' g' tk i ys m' oP' news', (⟨h₅, g₅, s₂.drawn, tk₅, s₂.os⟩ : Shared) = ⟨h', g', s₂.drawn, tk, s₂.os⟩ ∧ AllBare g' ∧ TabOk oP' ∧ i ≤ n ∧ k' = n + 1 - i ∧ ys.length ≤ i ∧ St i h' ∧ Fr h₀ L h' m ∧ h'.Ns H2.objs.size m' ∧ News h₀ L h' ((s₂.heap.objs.size, lst ys) :: (93, oP') :: news') ∧
              (∀ p ∈ news', p.1 ≠ H2.objs.size ∧ p.1 ≠ s₂.heap.objs.size ∧ p.1 ∉ ws.map (·.1)) ∧ Sub0 keep news' ∧ CRestG prog w A h₀ L m env elt ifs names scope cl s₂ ws Fin (xs.drop i) ys news' := by
          intro ys' h₅ g₅ tk₅ oP₅ add hy G₅ T₅ F₅ N₅ ho r
          have offn : ∀ p ∈ add ++ news', p.1 ≠ H2.objs.size ∧ p.1 ≠ s₂.heap.objs.size ∧ p.1 ∉ ws.map (·.1) := fun p hp => by
            rcases List.mem_append.mp hp with hp | hp
            · rcases ho p hp with hp | ⟨a1, a2, a3⟩
              · exact off' p hp
              · refine ⟨a1, a2, fun q => ?_⟩
                rw [← hmap] at q
                obtain ⟨e, he, hq⟩ := List.mem_map.mp q
                exact a3 e he hq.symm
            · exact off' p hp
          refine ⟨n + 1 - (i + 1), by omega, h₅, g₅, tk₅, i + 1, ys', m₂, oP₅, add ++ news', rfl, G₅, T₅, hlt, rfl, hy, ?_, F₅, hoC.ns (N₅ _ (List.mem_append_right _ (.head _))).1, fun p hp => ?_, offn, fun p hp => List.mem_append_right _ (hk' p hp), r⟩
          · refine W.frame _ _ _ hst₄ fun b hb o e => ?_
            rcases hfp b hb with hq | ⟨o', hq⟩
            · rw [← hmap] at hq
              obtain ⟨q, hqm, hqe⟩ := List.mem_map.mp hq
              have z := hval q hqm
              have z5 := (N₅ q (List.mem_append_left _ hqm)).1
              rw [hqe] at z z5
              rw [e] at z
              rw [Option.some.inj z]
              exact z5
            · have hm := hk' _ hq
              have z := (N₄ _ (List.mem_append_right _ (List.mem_cons_of_mem _ (List.mem_cons_of_mem _ (List.mem_cons_of_mem _ hm))))).1
              have z' : h₄.get? b = some o' := z
              rw [e] at z'
              rw [Option.some.inj z']
              exact (N₅ _ (List.mem_append_right _ (List.mem_cons_of_mem _ (List.mem_cons_of_mem _ (List.mem_cons_of_mem _ (List.mem_append_right _ hm)))))).1
          · rcases List.mem_cons.mp hp with rfl | hp
            · exact N₅ _ (List.mem_append_right _ (List.mem_cons_of_mem _ (.head _)))
            · exact N₅ _ (List.mem_append_right _ (List.mem_cons_of_mem _ (List.mem_cons_of_mem _ hp)))
        refine wpAny_mono ((R' h₄ g' tk₄ oP' H2.objs.size oC s₂.heap.objs.size m₂ _ G' hT' p93C p93D hoC hg F₄).at hits N₄ coff) (fun ok s₄ h₅ => ?_) fun _ _ e => e
        cases ok with
        | false =>
          obtain ⟨h₅, g₅, tk₅, oP₅, add, rfl, G₅, T₅, F₅, N₅, ho, r⟩ := h₅
          exact again (Nat.le_succ_of_le hyl) G₅ T₅ F₅ N₅ ho r
        | true =>
          refine wpAny_mono h₅ (fun y s₅ h₆ => ?_) fun _ _ e => e
          obtain ⟨h₅, g₅, tk₅, oP₅, add, rfl, G₅, T₅, F₅, N₅, ho, r⟩ := h₆
          have zD := (N₅ (s₂.heap.objs.size, lst ys) (List.mem_append_right _ (List.mem_cons_of_mem _ (.head _)))).1
          refine append_at (hsz := by show ys.toArray.size ≤ sizeLine; rw [List.size_toArray]; exact Nat.le_trans hyl (Nat.le_trans hi (hn ▸ hsz))) zD fun h₆ hs₆ hD₆ => ?_
          refine again (ys' := ys ++ [y]) (by rw [List.length_append, List.length_singleton]; exact Nat.succ_le_succ hyl) G₅ T₅ (F₅.change hs₆ hDL hD₀) (fun p hp => ?_) ho r
          rcases List.mem_append.mp hp with hq | hp
          · have z := N₅ p (List.mem_append_left _ hq)
            exact ⟨hs₆.extBut _ _ (fun e => (below _ (wlt _ (inI p hq))).2 e) z.1, z.2⟩
          rcases List.mem_cons.mp hp with rfl | hp
          · have z := N₅ _ (List.mem_append_right _ (.head _))
            exact ⟨hs₆.extBut _ _ (Ne.symm hDC) z.1, z.2⟩
          rcases List.mem_cons.mp hp with rfl | hp
          · exact ⟨hD₆.trans (congrArg some (LCg.lst_snoc ys y)), hDL, hD₀⟩
          rcases List.mem_cons.mp hp with rfl | hp
          · have z := N₅ _ (List.mem_append_right _ (List.mem_cons_of_mem _ (List.mem_cons_of_mem _ (.head _))))
            exact ⟨hs₆.extBut _ _ p93D z.1, z.2⟩
          · have z := N₅ p (List.mem_append_right _ (List.mem_cons_of_mem _ (List.mem_cons_of_mem _ (List.mem_cons_of_mem _ hp))))
            refine ⟨hs₆.extBut _ _ ?_ z.1, z.2⟩
            rcases List.mem_append.mp hp with hp | hp
            · rcases ho p hp with hp | hp
              · exact (off' p hp).2.1
              · exact hp.2.1
            · exact (off' p hp).2.1
      · obtain rfl : i = n := Nat.le_antisymm hi (Nat.not_lt.mp hlt)
        have z : xs.drop i = [] := List.drop_eq_nil_of_le (Nat.le_of_eq hn.symm)
        rw [z] at R'
        refine W.done _ _ _ hst' fun h₂ tk₂ hk₂ => ?_
        exact hRR _ _ h₂ g' tk₂ oP' m' ys news' G' hT' ⟨F'.ns.at' fun o e => hk₂ L o hwL e, fun b o e => hk₂ b o (hw₀ b o e) (F'.keep b o e), F'.above⟩ (fun p hp => by
          have z := N' p hp
          refine ⟨hk₂ _ _ ?_ z.1, z.2⟩
          rcases List.mem_cons.mp hp with rfl | hp
          · exact hwD
          rcases List.mem_cons.mp hp with rfl | hp
          · exact p93w
          · exact fun q => (off' p hp).2.2 (hwr _ q)) p93C p93D (fun p hp => ⟨(off' p hp).1, (off' p hp).2.1⟩) (hn'.at' fun o e => hk₂ _ o hwC e) hC₀ hD₀ hCL hDL (Ne.symm hDC) (fun p hp => Heap.lt_size (N p (List.mem_cons_of_mem _ hp)).1) R'
    · rcases List.mem_cons.mp hp with rfl | hp
      · exact ⟨hacc, hDL, hD₀⟩
      · exact ⟨old _ _ (N p hp).1, (N p hp).2⟩
  exact codeAny_compStart_list (loop _ rfl) (hself 0 _ _ _ hst₁ (loop _ rfl))


/-- the new list, with the elements made for it -/
def CFinG (h₀ : Heap) (L : Addr) (m : Str → Option Value) (s : Shared) (Q : Value → Shared → Prop) (ys : List Value) (news : List (Addr × Obj)) : Prop :=
  ∀ D h g tk oP, AllBare g → TabOk oP → Fr h₀ L h m → News h₀ L h ((D, lst ys) :: (93, oP) :: news) → @Ne Nat 93 D → (∀ p ∈ news, p.1 ≠ D) → Q (.ref D) ⟨h, g, s.drawn, tk, s.os⟩
def CSrcG (prog : Program) (w : World) (A : Around) (h₀ : Heap) (L : Addr) (m : Str → Option Value) (env : Env) (elt target : Expr) (ifs : List Expr) (names : List Str) (scope : Scope) (cl : List (Str × Addr)) (Fn : Shared → List Value → List (Addr × Obj) → Prop) (it : Value) (s₂ : Shared) : Prop :=
  ∃ I xs ws keep news oP, it = .ref I ∧ Src prog w A h₀ L target I xs ws keep s₂.heap ∧ xs.length ≤ sizeLine ∧ (∀ a ∈ xs, Fits a names) ∧ Fr h₀ L s₂.heap m ∧ News h₀ L s₂.heap ((93, oP) :: news) ∧ TabOk oP ∧ AllBare s₂.gens ∧ (93 : Addr) ∉ ws.map (·.1) ∧ Sub0 keep news ∧ (∀ p ∈ news, p.1 ∉ ws.map (·.1)) ∧
    CRestG prog w A h₀ L m env elt ifs names scope cl s₂ ws (Fn s₂) xs [] news
theorem ListComp_MG {elt target iter : Expr} {ifs : List Expr} {scope : Scope} {cl : List (Str × Addr)} {pos : Pos} {Q : Value → Shared → Prop} (names : List Str) (_F₀ : Fr h₀ L s.heap m)
    (hclos : closureFor scope env = pure cl) (hcell : ∀ y ∈ scope.names, y.2 ≠ .cell) (hkind : scope.kind = .function)
    (hnames : ∀ y ∈ scope.names, y.2 = .local → scope.names.lookup y.1 = some .local) (hb : BindsT prog w A target names scope cl env)
    (h : wpAny (model prog w) A (eval iter env) (fun xv s₁ => wpAny (model prog w) A (pyIter xv) (fun it s₂ => CSrcG prog w A h₀ L m env elt target ifs names scope cl (fun s₂ => CFinG h₀ L m s₂ Q) it s₂) E s₁) E s)
    (hs : ∀ x, foldedSetIterable iter env x = pure x := by intro _; rfl) :
    wpAny (model prog w) A (eval (.ListComp elt [⟨target, iter, ifs, 0⟩] scope pos) env) Q E s := by
  rw [eval_ListComp]
  refine wpAny_comprehension_free (use := none) rfl hs hclos hkind hnames (wpAny_mono h (fun xv s₁ h₁ => wpAny_mono h₁ (fun it s₂ h₂ => ?_) fun _ _ e => e) fun _ _ e => e)
  obtain ⟨I, xs, ws, keep, news, oP, rfl, S, hsz, hfit, F, N, hT, G, o93, hk, off, R⟩ := h₂
  refine comp_blockG S hsz hfit hb hcell hkind F N hT G o93 hk off R ?_
  intro D C h g tk oP' m' ys news' G' hT' F' N' p93C p93D o1 hn hC₀ hD₀ hCL hDL hCD hlt fin
  refine ⟨m', hn, fun h'' hs'' => fin D h'' g tk oP' G' hT' (F'.change hs'' hCL hC₀) (fun p hp => ?_) p93D (fun p hp => (o1 p hp).2)⟩
  refine ⟨hs''.extBut _ _ ?_ (N' p hp).1, (N' p hp).2⟩
  rcases List.mem_cons.mp hp with rfl | hp
  · exact Ne.symm hCD
  rcases List.mem_cons.mp hp with rfl | hp
  · exact p93C
  · exact (o1 p hp).1
theorem csrc_listG {target : Expr} {ax : Addr} {lo : Obj} {vs : List Value} {n : Nat} {elt : Expr} {ifs : List Expr} {names : List Str} {scope : Scope} {cl : List (Str × Addr)} {Fn : Shared → List Value → List (Addr × Obj) → Prop} {oP : Obj} {news : List (Addr × Obj)} (hh : A.handled = none) (F : Fr h₀ L s.heap m) (N : News h₀ L s.heap ((93, oP) :: news)) (hT : TabOk oP) (G : AllBare s.gens) (hm : (ax, lo) ∈ news) (hc : lo.cls = .type "list") (hd : lo.data = .seq vs.toArray n)
    (hfit : ∀ a ∈ (vs.map .val), Fits a names) (hsz : vs.length ≤ sizeLine)
    (rest : ∀ I h', @Ne Nat 93 I → CRestG prog w A h₀ L m env elt ifs names scope cl { s with heap := h' } [(I, "list_iterator")] (Fn { s with heap := h' }) (vs.map .val) [] news) :
    wpAny (model prog w) A (pyIter (.ref ax)) (fun it s₂ => CSrcG prog w A h₀ L m env elt target ifs names scope cl Fn it s₂) E s :=
  src_list hh F N (.tail _ hm) hc hd fun I h' F' N' hlt S => ⟨I, _, _, _, news, oP, rfl, S, by simpa using hsz, hfit, F', N', hT, G, fun q => Nat.lt_irrefl _ (show 93 < 93 from (by simp at q; exact q ▸ hlt _ (.head _))), fun p hp => by rw [List.mem_singleton.mp hp]; exact hm,
    fun p hp q => Nat.lt_irrefl p.1 (show p.1 < p.1 from (by simp at q; exact Nat.lt_of_lt_of_le (show p.1 < I from hlt p (.tail _ hp)) (Nat.le_of_eq q.symm))), rest I h' (Nat.ne_of_lt (hlt _ (.head _)))⟩
theorem csrc_tupleG {target : Expr} {ax : Addr} {lo : Obj} {vs : List Value} {n : Nat} {elt : Expr} {ifs : List Expr} {names : List Str} {scope : Scope} {cl : List (Str × Addr)} {Fn : Shared → List Value → List (Addr × Obj) → Prop} {oP : Obj} {news : List (Addr × Obj)} (hh : A.handled = none) (F : Fr h₀ L s.heap m) (N : News h₀ L s.heap ((93, oP) :: news)) (hT : TabOk oP) (G : AllBare s.gens) (hm : (ax, lo) ∈ news) (hc : lo.cls = .type "tuple") (hd : lo.data = .seq vs.toArray n)
    (hfit : ∀ a ∈ (vs.map .val), Fits a names) (hsz : vs.length ≤ sizeLine)
    (rest : ∀ I h', @Ne Nat 93 I → CRestG prog w A h₀ L m env elt ifs names scope cl { s with heap := h' } [(I, "tuple_iterator")] (Fn { s with heap := h' }) (vs.map .val) [] news) :
    wpAny (model prog w) A (pyIter (.ref ax)) (fun it s₂ => CSrcG prog w A h₀ L m env elt target ifs names scope cl Fn it s₂) E s :=
  src_tuple hh F N (.tail _ hm) hc hd fun I h' F' N' hlt S => ⟨I, _, _, _, news, oP, rfl, S, by simpa using hsz, hfit, F', N', hT, G, fun q => Nat.lt_irrefl _ (show 93 < 93 from (by simp at q; exact q ▸ hlt _ (.head _))), fun p hp => by rw [List.mem_singleton.mp hp]; exact hm,
    fun p hp q => Nat.lt_irrefl p.1 (show p.1 < p.1 from (by simp at q; exact Nat.lt_of_lt_of_le (show p.1 < I from hlt p (.tail _ hp)) (Nat.le_of_eq q.symm))), rest I h' (Nat.ne_of_lt (hlt _ (.head _)))⟩
theorem crestG_nil {elt : Expr} {ifs : List Expr} {names : List Str} {scope : Scope} {cl : List (Str × Addr)} {ws : List (Addr × String)} {Fin : List Value → List (Addr × Obj) → Prop} {ys : List Value} {news : List (Addr × Obj)} (h : Fin ys news) : CRestG prog w A h₀ L m env elt ifs names scope cl s ws Fin [] ys news := h
theorem crestG_val {elt : Expr} {ifs : List Expr} {scope : Scope} {cl : List (Str × Addr)} {ws : List (Addr × String)} {Fin : List Value → List (Addr × Obj) → Prop} {r : List Itm} {ys : List Value} {news : List (Addr × Obj)} {v : Value} {x : Str}
    (h : ∀ h g tk oP C oC D m₂ (E' : Value → Shared → Prop), AllBare g → TabOk oP → @Ne Nat 93 C → @Ne Nat 93 D → NsObj oC m₂ → m₂ x = some v → Fr h₀ L h m → AllObj ws (fun its => News h₀ L h (its ++ ((C, oC) :: (D, lst ys) :: (93, oP) :: news)) → COff its C D news →
      wpAny (model prog w) A (forIn ifs true fun c r => if r = true then do let ok ← isTrue c (compEnvC scope cl C env) (eval c (compEnvC scope cl C env)); pure (ForInStep.yield ok) else pure (ForInStep.yield r)) (fun ok s₃ =>
        if ok = true then wpAny (model prog w) A (eval elt (compEnvC scope cl C env)) (CEndG h₀ L m s its C oC D (lst ys) news (fun y add => CRestG prog w A h₀ L m env elt ifs [x] scope cl s ws Fin r (ys ++ [y]) (add ++ news))) E' s₃
        else CEndG h₀ L m s its C oC D (lst ys) news (fun _ add => CRestG prog w A h₀ L m env elt ifs [x] scope cl s ws Fin r ys (add ++ news)) .none s₃) E' ⟨h, g, s.drawn, tk, s.os⟩)) :
    CRestG prog w A h₀ L m env elt ifs [x] scope cl s ws Fin (.val v :: r) ys news := by
  intro h' g tk oP C oC D m₂ E' G hT n1 n2 hC hG F
  exact h h' g tk oP C oC D m₂ E' G hT n1 n2 hC hG F
/-- an element of the field, the end of a comprehension's turn -/
theorem cendG_fq {its : List (Addr × Obj)} {C D a : Addr} {oC oP' : Obj} {ys : List Value} {news l' all : List (Addr × Obj)} {rest : Value → List (Addr × Obj) → Prop} {h' : Heap} {g' : Array GenState} {tk : Nat} {q : Int} {z : Int × Int} {m₂ : Str → Option Value} {x : Str} {v : Value}
    (G : AllBare g') (hT : TabOk oP') (F : Fr h₀ L h' m) (N : News h₀ L h' all) (hq : FQ q l' (.ref a) z) (sl : Sub l' all) (sits : Sub its all) (sC : (C, oC) ∈ all) (sD : (D, lst ys) ∈ all) (s93 : (93, oP') ∈ all) (snews : Sub news all)
    (hits : ∀ p ∈ its, p.2.cls = .type "list_iterator" ∨ p.2.cls = .type "tuple_iterator") (hC : NsObj oC m₂) (hx : m₂ x = some v)
    (hxk : ∀ (h1 h2 h3 h4 h5 : Int) (k1 k2 k3 k4 k5 : Tok) (v1 v2 v3 v4 v5 : Value), nsFind (#[⟨h1, .str "field_modulus" k1, v1⟩, ⟨h2, .str "mc_tuples" k2, v2⟩, ⟨h3, .str "coeffs" k3, v3⟩, ⟨h4, .str "modulus_coeffs" k4, v4⟩, ⟨h5, .str "degree" k5, v5⟩] : Array DictEntry) x = none)
    (hys : ∀ u ∈ ys, ∃ a dx, u = .ref a ∧ (a, (⟨.ref 234, some dx, .plain, #[]⟩ : Obj)) ∈ all) (r : rest (.ref a) l') : CEndG h₀ L m s its C oC D (lst ys) news rest (.ref a) ⟨h', g', s.drawn, tk, s.os⟩ := by
  have at' : ∀ {b : Addr} {o o' : Obj}, (b, o) ∈ all → (b, o') ∈ all → o = o' := fun h1 h2 => by
    have z1 := (N _ h1).1
    have z2 := (N _ h2).1
    rw [z1] at z2
    exact Option.some.inj z2
  obtain ⟨es, ep, hCd, _, hCf⟩ := hC
  refine ⟨h', g', tk, oP', l', rfl, G, hT, F, fun p hp => ?_, fun p hp => Or.inr ⟨fun e => ?_, fun e => ?_, fun b hb e => ?_⟩, r⟩
  · rcases List.mem_append.mp hp with hp | hp
    · exact N p (sits p hp)
    rcases List.mem_cons.mp hp with rfl | hp
    · exact N _ sC
    rcases List.mem_cons.mp hp with rfl | hp
    · exact N _ sD
    rcases List.mem_cons.mp hp with rfl | hp
    · exact N _ s93
    rcases List.mem_append.mp hp with hp | hp
    · exact N p (sl p hp)
    · exact N p (snews p hp)
  · have hp' := sl p hp
    obtain ⟨b, ob⟩ := p
    have e' : b = C := e
    subst e'
    have eo := at' hp' sC
    subst eo
    cases hq
    simp only [List.mem_cons, Prod.mk.injEq, List.not_mem_nil, or_false] at hp
    rcases hp with ⟨_, rfl⟩ | ⟨_, rfl⟩ | ⟨_, rfl⟩ | ⟨_, rfl⟩ | ⟨_, rfl⟩ | ⟨_, rfl⟩
    · cases hCd
    · cases hCd
      have h3 := hCf x
      rw [hx] at h3
      cases ((hxk _ _ _ _ _ _ _ _ _ _ _ _ _ _ _).symm.trans h3)
    · cases hCd
    · cases hCd
    · cases hCd
    · cases hCd
  · have hp' := sl p hp
    obtain ⟨b, ob⟩ := p
    have e' : b = D := e
    subst e'
    have eo := at' hp' sD
    cases hq
    simp only [List.mem_cons, Prod.mk.injEq, List.not_mem_nil, or_false] at hp
    rcases hp with ⟨_, rfl⟩ | ⟨_, rfl⟩ | ⟨_, rfl⟩ | ⟨_, rfl⟩ | ⟨_, rfl⟩ | ⟨_, rfl⟩
    · cases eo
    · exact absurd (Value.type.inj (congrArg Obj.cls eo)) (by decide)
    · exact absurd (Value.type.inj (congrArg Obj.cls eo)) (by decide)
    · exact absurd (Value.type.inj (congrArg Obj.cls eo)) (by decide)
    · have e1 : ys = [.ref _] := (congrArg (fun o : Obj => match o.data with | .seq a _ => a.toList | _ => []) eo).symm
      obtain ⟨a1, dx1, e2, hm1⟩ := hys (.ref _) (e1 ▸ List.mem_singleton.mpr rfl)
      cases e2
      have e3 := at' hm1 (sl _ (.tail _ (.tail _ (.tail _ (.tail _ (.tail _ (.head _)))))))
      cases e3
    · exact absurd (Value.type.inj (congrArg Obj.cls eo)) (by decide)
  · have hp' := sl p hp
    have hb' := sits b hb
    obtain ⟨b1, ob⟩ := p
    obtain ⟨b2, ob2⟩ := b
    have e' : b1 = b2 := e
    subst e'
    have eo := at' hp' hb'
    subst eo
    have hcl := hits _ hb
    cases hq
    simp only [List.mem_cons, Prod.mk.injEq, List.not_mem_nil, or_false] at hp
    rcases hp with ⟨_, rfl⟩ | ⟨_, rfl⟩ | ⟨_, rfl⟩ | ⟨_, rfl⟩ | ⟨_, rfl⟩ | ⟨_, rfl⟩ <;> (rcases hcl with hcl | hcl <;> first | exact absurd (Value.type.inj hcl) (by decide) | exact nomatch hcl)
end
end Mine
end

section
open PySem PySem.W PySem.Calls PyProof.Rows
namespace Mine
-- the walk's own lines
local macro_rules | `(tactic| walk_at "exec For Tuple Call cons nil") => `(tactic| (k_here; (rename Fr _ _ _ _ => lF'); (with_unfolding_all refine' For_turns lF' ?_; k_whole)))
local macro_rules | `(tactic| walk_at "exec For Tuple Attribute cons nil") => `(tactic| (k_here; (rename Fr _ _ _ _ => lF'); (with_unfolding_all refine' For_turns lF' ?_; k_whole)))
local macro_rules | `(tactic| walk_at "exec For Tuple Name cons nil") => `(tactic| (k_here; (rename Fr _ _ _ _ => lF'); (with_unfolding_all refine' For_turns lF' ?_; k_whole)))
local macro_rules | `(tactic| walk_at "call type:enumerate") => `(tactic| (k_here; (with_reducible show wpAny _ _ (call (Value.type _) [Value.ref _]) _ _ _); k_dflt (refine' enum_N ?F ?N ?m ?_; (case F => k_asm); (case N => k_asm); (case m => k_mem)); intro I' oI' h' hc' hd' F' N' lI'; (have l1 := lI'); (try k_lt l1)))
local macro_rules | `(tactic| walk_at "call type:list") => `(tactic| (k_here; (with_reducible show wpAny _ _ (call (Value.type _) [Value.ref (_ + 1)]) _ _ _); k_dflt (refine' list_enum2 ?hh ?F ?N ?c ?d ?m ?l ?_; (case hh => rfl); (case F => k_asm); (case N => k_asm); (case c => assumption); (case d => assumption); (case m => k_mem); (case l => assumption)); intro D' T0' T1' t0' t1' c' h' tk' F' N' l1 l2 l3; (try k_lt l1); (try have l4 := tbn_up l2 l1); (try have l5 := tbn_up l3 l4); (try k_sweep)))
local macro_rules | `(tactic| ktn_open) => `(tactic| first | (refine' binds_name ?a ?b; (case a => rfl); (case b => rfl)) | (refine' binds_pair ?a ?b ?c ?d ?e; (case a => rfl); (case b => rfl); (case c => rfl); (case d => decide); (case e => rfl)))
local macro_rules | `(tactic| walk_at "eval ListComp") => `(tactic| (k_here; k_dflt (refine' ListComp_M _ ?k1 ?k2 ?k3 ?k4 ?k5 ?hb ?_ ?k6; (case k1 => k_asm); (case k2 => with_unfolding_all rfl); (case k3 => decide); (case k4 => rfl); (case k5 => decide); (case hb => ktn_open); (case k6 => intro _; with_unfolding_all rfl); k_whole)))
local macro_rules | `(tactic| walk_at "pyIter ref") => `(tactic| ((with_reducible show wpAny _ _ (pyIter (Value.ref _)) (fun it s₂ => CSrc _ _ _ _ _ _ _ _ _ _ _ _ _ _ it s₂) _ _); k_here; k_dflt (first | (refine' csrc_list ?k1 ?k2 ?k3 ?k4 ?k5 ?k6 ?k7 ?k8 ?_; (case k1 => rfl); (case k2 => k_asm); (case k3 => k_asm); (case k4 => k_mem); (case k5 => rfl); (case k6 => rfl)) | (refine' csrc_tuple ?k1 ?k2 ?k3 ?k4 ?k5 ?k6 ?k7 ?k8 ?_; (case k1 => rfl); (case k2 => k_asm); (case k3 => k_asm); (case k4 => k_mem); (case k5 => rfl); (case k6 => rfl))); (case k7 => simp [Fits]); (case k8 => exact Nat.le_of_ble_eq_true rfl); intro i' h' l1; (try k_lt l1)))
local macro_rules | `(tactic| walk_at "call type:enumerate") => `(tactic| ((with_reducible show wpAny _ _ (call (Value.type _) [Value.ref _]) (fun xv s₁ => wpAny _ _ (pyIter xv) (fun it s₂ => CSrc _ _ _ _ _ _ _ _ _ _ _ _ _ _ it s₂) _ s₁) _ _); k_here; k_dflt (refine' csrc_enum ?k1 ?k2 ?k3 ?k4 ?k5 ?k6 ?k7 ?k8 ?_; (case k1 => rfl); (case k2 => k_asm); (case k3 => k_asm); (case k4 => k_mem); (case k5 => rfl); (case k6 => rfl)); (case k7 => simp [Fits, enumItems]); (case k8 => exact Nat.le_of_ble_eq_true rfl); intro i' h' l1; (try k_lt l1)))
local macro_rules | `(tactic| walk_at "call type:zip") => `(tactic| ((with_reducible show wpAny _ _ (call (Value.type _) [Value.ref _, Value.ref _]) (fun xv s₁ => wpAny _ _ (pyIter xv) (fun it s₂ => CSrc _ _ _ _ _ _ _ _ _ _ _ _ _ _ it s₂) _ s₁) _ _); k_here; k_dflt (refine' csrc_zip ?k1 ?k2 ?k3 ?k4 ?k5 ?k6 ?j4 ?j5 ?j6 ?j7 ?k7 ?k8 ?_; (case k1 => rfl); (case k2 => k_asm); (case k3 => k_asm); (case k4 => k_mem); (case k5 => rfl); (case k6 => rfl); (case j4 => k_mem); (case j5 => rfl); (case j6 => rfl); (case j7 => rfl)); (case k7 => simp [Fits, zipItems]); (case k8 => exact Nat.le_of_ble_eq_true rfl); intro i' h' l1; (try k_lt l1)))
local macro_rules | `(tactic| walk_at "call type:enumerate") => `(tactic| (k_here; (with_reducible show wpAny _ _ (call (Value.type _) [Value.ref _]) (fun xv s₁ => wpAny _ _ (pyIter xv) (fun it s₂ => TurnsAt _ _ _ _ _ _ _ _ _ it s₂) _ s₁) _ _); k_dflt (refine' turns_enumT ?k1 ?k2 ?k3 ?k4 ?k5 ?k6 ?_; (case k1 => rfl); (case k2 => k_asm); (case k3 => k_asm); (case k4 => k_mem); (case k5 => rfl); (case k6 => rfl)); intro i' h' l1; (try k_lt l1); (try dsimp only [enumItems])))
local macro_rules | `(tactic| walk_at "call type:zip") => `(tactic| (k_here; (with_reducible show wpAny _ _ (call (Value.type _) [Value.ref _, Value.ref _]) (fun xv s₁ => wpAny _ _ (pyIter xv) (fun it s₂ => TurnsAt _ _ _ _ _ _ _ _ _ it s₂) _ s₁) _ _); k_dflt (refine' turns_zipT ?k1 ?k2 ?k3 ?k4 ?k5 ?k6 ?j4 ?j5 ?j6 ?j7 ?_; (case k1 => rfl); (case k2 => k_asm); (case k3 => k_asm); (case k4 => k_mem); (case k5 => rfl); (case k6 => rfl); (case j4 => k_mem); (case j5 => rfl); (case j6 => rfl); (case j7 => rfl)); intro i' h' l1; (try k_lt l1); (try dsimp only [zipItems])))
local macro_rules | `(tactic| walk_at "CRest") => `(tactic| first | ((with_unfolding_all refine crest_val ?_); intro h' tk' C' oC' D' m' E' hC' hx' F'; ktu_objs; (first | refine wpAny_tests_nil ?_ | refine wpAny_tests_one ?_); (try simp only [if_true])) | ((with_unfolding_all refine crest_pair ?_); intro t' h' tk' C' oC' D' m' E' hC' hx' hy' F'; (try dsimp only at hx'); ktu_objs; (first | refine wpAny_tests_nil ?_ | refine wpAny_tests_one ?_); (try simp only [if_true])) | ((with_unfolding_all refine crest_nil ?_)))
local macro_rules | `(tactic| walk_at "CEnd") => `(tactic| (plain_pass; first | ((refine' cend_one ?e1 ?e2 ?e3 ?e4 ?e5 ?e6 ?e7 ?_); (case e1 => k_asm); (case e2 => k_asm); (case e3 => k_mem); (case e5 => k_ne); (case e6 => k_ne); (case e7 => ktr_rel); (case e4 => k_subL)) | ((refine' cend_nil ?e1 ?e2 ?e4 ?_); (case e1 => k_asm); (case e2 => k_asm); (case e4 => k_subL))); (try simp only [List.nil_append, List.cons_append]))
local macro_rules | `(tactic| ktr_rel) => `(tactic| first | exact True.intro | (refine And.intro (by k_ne) ?_; ktr_rel))
local macro_rules | `(tactic| walk_at "CFin") => `(tactic| ((with_reducible show CFin _ _ _ _ _ _ _ _); (unfold CFin); intro D' h' tk' F' N' o1' l1; (try clear o1'); (try k_lt l1); (try simp only [List.nil_append, List.cons_append] at N'); (try dsimp only); (try k_sweep)))
local macro_rules | `(tactic| walk_at "call type:tuple") => `(tactic| ((with_reducible show wpAny _ _ (call (Value.type _) [Value.ref _]) _ _ _); (with_reducible rename GenTwo _ _ _ _ _ _ _ _ => gX'); k_dflt (refine' tuple_MI ?k1 ?k2 ?k3 gX' ?_; (case k1 => k_asm); (case k2 => k_asm); (case k3 => k_asm)); clear gX'; intro D' t0' t1' h' tk' g' F' N' G' l1; (try k_lt l1); (try dsimp only at N'); (try k_sweep)))
local macro_rules | `(tactic| walk_at "LeaveM") => `(tactic| (k_dflt (refine' leaveM_ ?k1 ?k2 ?_; (case k1 => k_asm); (case k2 => k_asm); k_whole); intro kF kN kK; (try dsimp only [InitBack, CmpBack, LenBack, StrBack, BoolBack]); (try refine ⟨rfl, ?_⟩); (try dsimp only [CmpBack, LenBack, StrBack, BoolBack])))
local macro_rules | `(tactic| walk_at "call type:tuple") => `(tactic| ((with_reducible show wpAny _ _ (call (Value.type _) [Value.ref _]) _ _ _); k_here; k_dflt (refine' call_tuple_tup ?k1 ?_; (case k1 => exact News.isTup (by k_asm) (by k_mem)))))
local macro_rules | `(tactic| walk_at "binaryOp Mult int int") => `(tactic| ((with_reducible refine' PyProof.Rows.mul_int ?_ ?hm); k_dflt ((case hm => first | exact IntMulOk.of_left (by with_reducible assumption) | exact IntMulOk.of_right (by with_reducible assumption) | exact IntMulOk.of_left (PySem.intBits_le_64 (by omega) (by omega)) | mul_fits))))
local macro_rules | `(tactic| walk_at "execs cons") => `(tactic| (with_reducible refine wpAny_execs_cons ?_))
local macro_rules | `(tactic| walk_at "execs nil") => `(tactic| (with_reducible refine wpAny_execs_nil ?_))
local macro_rules | `(tactic| walk_at "eval Name") => `(tactic| (name_kind "globalImplicit"; (first | (with_reducible show wpAny _ _ (PySem.eval (PySem.Expr.Name _ _) (envOfC _ _ _ _ _)) _ _ _) | (with_reducible show wpAny _ _ (PySem.eval (PySem.Expr.Name _ _) (envOf _ _ _ _ _)) _ _ _)); k_dflt (first | (refine' nameX_K ?F ?X ?T ?e ?_ ?a ?b; (case F => k_asm); (case X => k_asm); (case T => k_asm); (case a => rfl); (case b => rfl); (case e => k_is); k_whole) | (refine' nameX_B ?F ?X ?T ?e ?v ?n ?_ ?a ?b; (case F => k_asm); (case X => k_asm); (case T => k_asm); (case a => rfl); (case b => rfl); (case e => k_is); (case v => boot_fast); (case n => decide); k_whole))))
local macro_rules | `(tactic| walk_at "eval Name") => `(tactic| (name_kind "cell"; (first | (with_reducible show wpAny _ _ (PySem.eval (PySem.Expr.Name _ _) (envOfC _ _ _ _ _)) _ _ _) | (with_reducible show wpAny _ _ (PySem.eval (PySem.Expr.Name _ _) (envOf _ _ _ _ _)) _ _ _)); k_dflt (refine' nameX_C ?N ?c ?m ?d ?_ ?a ?b; (case a => rfl); (case b => rfl); (case N => k_asm); (case c => rfl); (case m => k_mem); (case d => k_asm); k_whole)))
local macro_rules | `(tactic| walk_at "eval Name") => `(tactic| (name_kind "local"; (first | (with_reducible show wpAny _ _ (PySem.eval (PySem.Expr.Name _ _) (envOfC _ _ _ _ _)) _ _ _) | (with_reducible show wpAny _ _ (PySem.eval (PySem.Expr.Name _ _) (envOf _ _ _ _ _)) _ _ _)); k_dflt (refine' nameX_L ?F ?v ?_ ?a ?b; (case F => k_asm); (case a => rfl); (case b => rfl); (case v => rfl); k_whole)))
local macro_rules | `(tactic| walk_at "eval Name") => `(tactic| ((with_reducible show wpAny _ _ (PySem.eval (PySem.Expr.Name _ _) (compEnvC _ _ _ _)) _ _ _); first | (name_kind "local"; k_dflt (refine LCgL.ld_own (by k_asm) (by k_mem) (by assumption) (by assumption) ?_)) | (name_kind "free"; k_dflt (refine kcf_cell (by k_asm) (by rfl) (by k_mem) (by k_asm) ?_)) | (name_kind "globalImplicit"; k_dflt (first | refine LCgL.ld_global (by k_asm) (by k_asm) (by k_asm) (by k_is) ?_ | refine LCgL.ld_built (by k_asm) (by k_asm) (by k_asm) (by k_is) (by boot_by_name) (by decide) ?_))))
local macro_rules | `(tactic| walk_at "ite") => `(tactic| (k_closed; k_dflt (first | refine ite_pos (by decide) ?_ | refine ite_neg (by decide) ?_)))
local macro_rules | `(tactic| kd_adr) => `(tactic| first | (with_reducible assumption) | (refine' Ne.symm ?_; with_reducible assumption) | k_ne)
-- containments, the table's place
local macro_rules | `(tactic| kd_subs) => `(tactic| first | (with_reducible assumption) | (with_reducible exact Sub.nil) | ((with_reducible refine' Sub.cons ?ksa ?ksb); (case ksa => k_mem); (case ksb => kd_subs)) | ((with_reducible refine' Sub.app ?ksa ?ksb); (case ksa => kd_subs); (case ksb => kd_subs)) | (with_reducible exact Sub.refl) | (with_reducible exact Sub.left) | ((with_reducible refine' Sub.right ?ksa); kd_subs) | ((with_reducible refine' Sub.tail ?ksa); kd_subs))
local macro_rules | `(tactic| kd_p) => `(tactic| first | (with_reducible assumption) | (with_reducible exact NoP.nil) | exact FQ.noP (by assumption) | ((with_reducible refine' NoP.cons ?kpa ?kpb); (case kpa => kd_adr); (case kpb => kd_p)) | ((with_reducible refine' NoP.app ?kpa ?kpb); (case kpa => kd_p); (case kpb => kd_p)))
local macro_rules | `(tactic| k_updF) => `(tactic| first | (refine' UpdF.head ?kua; (case kua => (show NoP _; kd_p))) | (refine' UpdF.tail ?kua ?kub; (case kua => kd_adr); (case kub => k_updF)) | (refine' UpdF.app ?kua ?kub; (case kua => (show NoP _; kd_p)); (case kub => k_updF)))
local macro_rules | `(tactic| kd_p1) => `(tactic| first | assumption | exact room_le (by assumption) (by decide) | (simp only [recursionLimit, cLine_is]; decide) | decide)

section
open PySem PySem.W PySem.Calls PyProof.Rows
-- the walk's own lines

-- containments, the table's place

structure DMk where
  a : Int
  b : Int
  p : Int
abbrev cMk : Told DMk where
  Rel := fun small vs d => ∃ l m tk ta tb n t1 t0 n', vs = [.ref l, .ref m, .int d.p tk] ∧ small = [(l, lstO [.int d.a ta, .int d.b tb] n), (m, tupO [.int 1 t1, .int 0 t0] n')] ∧ NoP small
  Ok := fun d => 0 < d.p ∧ d.p < 24
  size := fun _ => 6
  Out := fun l r d => FQ d.p l r (d.a % d.p, d.b % d.p)
set_option maxRecDepth 100000 in
set_option maxHeartbeats 40000000 in
theorem does_mk (w : World) (d : DMk) : DoesG w 234 cMk d := by
  w_top off
  unfold DoesG
  k_fill
  intro p loose mean mg mb dp un gd cn cs a ccd cl outer A₀ base h₀ L m news small oP s vs Q E B F X N hP nP G T hk hs hR hok hd hu hret
  obtain ⟨da, db, dp⟩ := d
  obtain ⟨l, m, tk, ta, tb, n, t1, t0, n', rfl, rfl, np⟩ := hR
  obtain ⟨ho1, ho2⟩ := hok
  obtain ⟨ps, rfl, hps⟩ := hP
  have hl93 : @Ne Nat l 93 := np _ (.head _)
  have hm93 : @Ne Nat m 93 := np _ (.tail _ (.head _))
  dsimp only at *
  k_dflt (refine' call_cls ?k1 ?k2 N ?k4 ?k5 ?k6 ?_; (case k1 => k_asm); (case k2 => k_asm); (case k4 => k_is); (case k5 => k_is); (case k6 => k_is); k_whole)
  intro x' d' h' F' N9 l1 l2
  have lt0 : ∀ p ∈ news, p.1 < d' := fun q hq => l1 q (.tail _ hq)
  have lP : @LT.lt Nat _ 93 d' := l1 _ (.head _)
  have ll : @LT.lt Nat _ l d' := lt0 _ (hs _ (.head _))
  have lm : @LT.lt Nat _ m d' := lt0 _ (hs _ (.tail _ (.head _)))
  replace l2 := ltN l2
  clear l1
  have N' : News h₀ L h' [(x', instObj 234 d'), (d', dictOf [] 0), (93, tabObj ps), (l, lstO [.int da ta, .int db tb] n), (m, tupO [.int 1 t1, .int 0 t0] n')] := News.sub N9 (Sub.cons (.head _) (Sub.cons (.tail _ (.head _)) (Sub.cons (.tail _ (.tail _ (.head _))) (Sub.tail (Sub.tail (Sub.tail hs))))))
  k_dflt (refine' code_MC ?k1 ?k2 ?k3 N' ?k5 ?kA ?kF ?kK ?k6 ?k7 ?k8 ?k9 ?kB ?kD ?_ ?c2 ?c3 ?c4; (case kA => exact rfl); (case kF => exact rfl); (case kK => assumption); (case k1 => k_asm); (case k2 => k_asm); (case k3 => k_asm); (case k5 => k_asm); (case k6 => k_is); (case k7 => k_is); (case k8 => ktr_room); (case k9 => exact BindsTo.of_eq rfl); (case kB => exact rfl); (case kD => decide +kernel); (case c2 => exact rfl); (case c3 => exact rfl); (case c4 => exact rfl); k_whole)
  intro g' L' h1' tk' cells' FG' F1' N1' Y' B' X' T' l1; (try k_lt l1)
  obtain ⟨oc, hE, dc⟩ := CellsAre.one Y'
  subst hE
  (try simp only [List.cons_append, List.nil_append] at N1'); (try dsimp only); (try k_lift B'); (try k_fold)
  k_steps
  have CH := codeHd_init X'
  k_dflt (refine' genexp_M (Fy := fun i y => ∃ t, y = .int ((match i with | 0 => da % dp | _ => db % dp : Int)) t) ?hh ?hco ?hclos ?hcell ?h0 ?hx ?hkind ?hroom ?hcode ?hglob ?hs ?F ?N ?T ?G ?C ?U ?ht ?hiter ?hm ?hc ?hd ?helt ?hz)
  case hh => rfl
  case hco => rfl
  case hclos => with_unfolding_all rfl
  case hcell => decide
  case h0 => rfl
  case hx => rfl
  case hkind => rfl
  case hroom => ktr_room
  case hcode => rfl
  case hglob => rfl
  case hs => intro _; with_unfolding_all rfl
  case F => k_asm
  case N => k_asm
  case T => exact T'
  case G => exact G
  case C => exact CH
  case U => k_updF
  case ht => exact hps
  case hiter => exact nameX_L (by assumption) rfl ⟨rfl, rfl⟩ rfl rfl
  case hm => k_mem
  case hc => rfl
  case hd => rfl
  case helt =>
    intro Cn code A' E' i v t m₂ hA hD hU hv hm2 Ft Nt
    have N3 : News g' Cn t.heap [(L' + 1, oc), (x', _), (d', _)] := Nt _ (Sub.cons (by k_mem) (Sub.cons (by k_mem) (Sub.cons (by k_mem) Sub.nil))) (by simp; exact ⟨by k_ne, by k_ne, by k_ne⟩)
    rcases i with _ | _ | i
    · cases hv
      walk1
      refine wpAny_Name (wpAny_loadName_local rfl rfl Ft.ns hm2 ?_) (by decide)
      walk1
      refine wpAny_Name (wpAny_loadName_free rfl rfl rfl ⟨oc, (N3 _ (.head _)).1, dc⟩ ?_) (by decide)
      walk1
      walk1
      exact ⟨⟨_, congrArg (fun z => Value.int z _) (Int.fmod_eq_emod_of_nonneg _ (Int.le_of_lt ho1))⟩, ⟨t.heap, _, rfl, fun _ _ e => e⟩⟩
    · cases hv
      walk1
      refine wpAny_Name (wpAny_loadName_local rfl rfl Ft.ns hm2 ?_) (by decide)
      walk1
      refine wpAny_Name (wpAny_loadName_free rfl rfl rfl ⟨oc, (N3 _ (.head _)).1, dc⟩ ?_) (by decide)
      walk1
      walk1
      exact ⟨⟨_, congrArg (fun z => Value.int z _) (Int.fmod_eq_emod_of_nonneg _ (Int.le_of_lt ho1))⟩, ⟨t.heap, _, rfl, fun _ _ e => e⟩⟩
    · cases hv
  intro a' ps' h' tk' g' ht' F' N' G' X2'
  (try dsimp only at N'); (try k_sweep)
  k_steps
  refine ⟨rfl, ?_⟩
  refine' hret (.ref x') _ _ _ _ _ ?tab ?F (backMk N9 nP hs lt0 l2 ?kN ?kK ?s1 ?s2 ?s3) ?np ?G (FQ.mk ?b1 ?b2 ?b3 ?b4 ?np2)
  case kN => assumption
  case kK => assumption
  case F => assumption
  case s2 => exact Sub.cons (by k_mem) (Sub.cons (by k_mem) (Sub.cons (by k_mem) (Sub.cons (by k_mem) (Sub.cons (by k_mem) (Sub.cons (by k_mem) Sub.nil)))))
  case s3 => k_mem
  case s1 => exact Sub.cons (by k_mem) (Sub.cons (by k_mem) Sub.nil)
  case tab => exact ⟨_, rfl, by assumption⟩
  case G => assumption
  case np => exact NoP.cons (by k_ne) (NoP.cons (by k_ne) (NoP.cons (by k_ne) (NoP.cons (by k_ne) (NoP.cons (by k_ne) (NoP.cons (by k_ne) NoP.nil)))))
  case np2 => exact NoP.cons (by k_ne) (NoP.cons (by k_ne) (NoP.cons (by k_ne) (NoP.cons (by k_ne) (NoP.cons (by k_ne) (NoP.cons (by k_ne) NoP.nil)))))
  case b1 => exact Int.emod_nonneg _ (Int.ne_of_gt ho1)
  case b2 => exact Int.emod_lt_of_pos _ ho1
  case b3 => exact Int.emod_nonneg _ (Int.ne_of_gt ho1)
  case b4 => exact Int.emod_lt_of_pos _ ho1

end

section
open PySem PySem.W PySem.Calls PyProof.Rows
-- the walk's own lines

-- containments, the table's place

structure DMd where
  p : Int
  a : Int
  b : Int
  z : Int × Int
abbrev cMd : Told DMd where
  Rel := fun small vs d => ∃ x l ta tb n lx, vs = [.ref x, .ref l] ∧ small = (l, lstO [.int d.a ta, .int d.b tb] n) :: lx ∧ FQ d.p lx (.ref x) d.z ∧ @Ne Nat l 93
  Ok := fun d => d.p < 24
  size := fun _ => 8
  Out := fun l r d => FQ d.p l r (d.a % d.p, d.b % d.p)
local macro_rules | `(tactic| walk_at "call ref") => `(tactic| (k_here; (with_reducible show wpAny _ _ (call (Value.ref 234) _) _ _ _); k_dflt (refine' DoesG.use (does_mk _ ⟨_, _, _⟩) ?zB ?zF ?zX ?zN ?zU ?zP ?zG ?zT ?zk ?zs ?zn ⟨_, _, _, _, _, _, _, _, _, rfl, rfl, ?zq⟩ ?zo ?zd ?zu ?_; (case zk => first | exact rfl | assumption); (case zB => k_asm); (case zF => k_asm); (case zX => k_asm); (case zN => k_asm); (case zT => k_asm); (case zq => kd_p); (case zs => kd_subs); (case zP => first | assumption | exact ⟨_, rfl, by assumption⟩); (case zG => k_asm); (case zn => kd_p); (case zU => k_updF); (case zo => (first | ((dsimp only); exact ⟨by omega, by omega⟩) | fail "Ok")); (case zd => kd_p1); (case zu => kd_p1)); intro r' l' h' g' tk' oP' hP' F' N' nl' G' O'; (try dsimp only at N'); (try dsimp only at O'); (obtain ⟨x', d', es', e9', m1', m2'⟩ := FQ.has O'); subst e9'; (try dsimp only [PySem.W.CmpBack]); (try k_sweep)))
set_option maxRecDepth 100000 in
set_option maxHeartbeats 40000000 in
theorem does_made (w : World) (d : DMd) : DoesG w 223 cMd d := by
  w_top off
  unfold DoesG
  k_fill
  intro p loose mean mg mb dp un gd cn cs a ccd cl outer A₀ base h₀ L m news small oP s vs Q E B F X N hP nP G T hk hs hR hok hd hu hret
  obtain ⟨dp, da, db, z⟩ := d
  obtain ⟨x, l, ta, tb, n, lx, rfl, rfl, hq, hl93⟩ := hR
  dsimp only at *
  have hb := hq.bd
  have hn := hq.off
  have hq0 := hq
  cases hq
  (try simp only [LCg.Off1, and_true] at hn)
  have N0 := News.sub N (Sub.cons (q := (93, oP)) (.head _) (Sub.tail hs))
  refine wpAny_call ?_
  k_dflt (refine' code_M ?k1 ?k2 ?k3 N0 ?k5 ?kA ?kF ?kK ?k6 ?k7 ?k8 ?k9 ?kB ?_ ?c2 ?c3 ?c4 ?c5; (case kA => exact rfl); (case kF => exact rfl); (case kK => assumption); (case k1 => k_asm); (case k2 => k_asm); (case k3 => k_asm); (case k5 => k_asm); (case k6 => k_is); (case k7 => k_is); (case k8 => ktr_room); (case k9 => exact BindsTo.of_eq rfl); (case kB => exact locs rfl); (case c2 => exact rfl); (case c3 => exact rfl); (case c4 => exact rfl); (case c5 => decide); k_whole)
  intro g' L' h1' FG' F1' N1' B' X' T'; (try dsimp only); (try k_lift B'); (try k_fold)
  clear N0
  k_steps
  all_goals (
    refine' hret _ _ _ _ _ _ ?tab ?F (backG N nP hs ?kN ?kK ?s1 ?s2 ?s3) ?np ?G ?out
    case kN => assumption
    case kK => assumption
    case F => assumption
    case out => assumption
    case s2 => kd_subs
    case s3 => k_mem
    case s1 => kd_subs
    case tab => assumption
    case G => assumption
    case np => kd_p)

end

section
local macro_rules | `(tactic| walk_at "pad 0") => `(tactic| fail)
local macro_rules | `(tactic| walk_at "pad 1") => `(tactic| fail)
local macro_rules | `(tactic| walk_at "pad 2") => `(tactic| fail)
open PySem PySem.W PySem.Calls PyProof.Rows
-- the walk's own lines

-- containments, the table's place

local macro_rules | `(tactic| walk_at "call ref") => `(tactic| (k_here; (with_reducible show wpAny _ _ (call (Value.ref 223) _) _ _ _); k_dflt (refine' DoesG.use (does_made _ ⟨_, _, _, _⟩) ?zB ?zF ?zX ?zN ?zU ?zP ?zG ?zT ?zk ?zs ?zn ⟨_, _, _, _, _, _, rfl, rfl, ?zq, ?zr⟩ ?zo ?zd ?zu ?_; (case zk => first | exact rfl | assumption); (case zB => k_asm); (case zF => k_asm); (case zX => k_asm); (case zN => k_asm); (case zT => k_asm); (case zq => assumption); (case zr => kd_adr); (case zs => kd_subs); (case zP => first | assumption | exact ⟨_, rfl, by assumption⟩); (case zG => k_asm); (case zn => kd_p); (case zU => k_updF); (case zo => (first | ((dsimp only); assumption) | fail "Ok")); (case zd => kd_p1); (case zu => kd_p1)); intro r' l' h' g' tk' oP' hP' F' N' nl' G' O'; (try dsimp only at N'); (try dsimp only at O'); (obtain ⟨x', d', es', e9', m1', m2'⟩ := FQ.has O'); subst e9'; (try dsimp only [PySem.W.CmpBack]); (try k_sweep)))

abbrev cadd : Told DTwo where
  Rel := RelTwo
  Ok := fun d => d.p < 24
  size := fun _ => 12
  Out := fun l r d => FQ d.p l r (addF d.p d.x d.y)
set_option maxRecDepth 100000 in
set_option maxHeartbeats 40000000 in
theorem does_add (w : World) (d : DTwo) : DoesG w 108 cadd d := by
  w_top off
  unfold DoesG
  k_fill
  intro p loose mean mg mb dp un gd cn cs a ccd cl outer A₀ base h₀ L m news small oP s vs Q E B F X N hP nP G T hk hs hR hok hd hu hret
  obtain ⟨dp, x, y⟩ := d
  obtain ⟨v1, v2, l1, l2, rfl, rfl, hq1, hq2⟩ := hR
  dsimp only at *
  have hb1 := hq1.bd
  have hb2 := hq2.bd
  have hn1 := hq1.off
  have hn2 := hq2.off
  have hq10 := hq1
  have hq20 := hq2
  cases hq1
  cases hq2
  (try simp only [LCg.Off1, and_true] at hn1 hn2)
  obtain ⟨_, _, _, _, _, _⟩ := hn1
  obtain ⟨_, _, _, _, _, _⟩ := hn2
  simp only [List.cons_append, List.nil_append] at hs
  have N0 := News.sub N (Sub.cons (q := (93, oP)) (.head _) (Sub.tail hs))
  refine wpAny_call ?_
  k_dflt (refine' code_MC ?k1 ?k2 ?k3 N0 ?k5 ?kA ?kF ?kK ?k6 ?k7 ?k8 ?k9 ?kB ?kD ?_ ?c2 ?c3 ?c4; (case kA => exact rfl); (case kF => exact rfl); (case kK => assumption); (case k1 => k_asm); (case k2 => k_asm); (case k3 => k_asm); (case k5 => k_asm); (case k6 => k_is); (case k7 => k_is); (case k8 => ktr_room); (case k9 => exact BindsTo.of_eq rfl); (case kB => exact rfl); (case kD => decide +kernel); (case c2 => exact rfl); (case c3 => exact rfl); (case c4 => exact rfl); k_whole)
  intro g' L' h1' tk' cells' FG' F1' N1' Y' B' X' T' l1; (replace l1 := allLt_of l1); (simp only [AllLt, and_true] at l1)
  obtain ⟨oc, hE, dc⟩ := CellsAre.one Y'
  subst hE
  (try simp only [List.cons_append, List.nil_append] at N1'); (try dsimp only); (try k_lift B'); (try k_fold)
  clear N0
  k_steps
  all_goals (
    refine' hret _ _ _ _ _ _ ?tab ?F (backG N nP hs ?kN ?kK ?s1 ?s2 ?s3) ?np ?G ?out
    case kN => assumption
    case kK => assumption
    case F => assumption
    case out => exact FQ.cast (by assumption) (Prod.ext (fm (p := dp) (by omega) (by rfl)) (fm (p := dp) (by omega) (by rfl)))
    case s2 => kd_subs
    case s3 => k_mem
    case s1 => kd_subs
    case tab => assumption
    case G => assumption
    case np => kd_p)

end

section
local macro_rules | `(tactic| walk_at "pad 0") => `(tactic| fail)
local macro_rules | `(tactic| walk_at "pad 1") => `(tactic| fail)
local macro_rules | `(tactic| walk_at "pad 2") => `(tactic| fail)
local macro_rules | `(tactic| walk_at "pad 3") => `(tactic| fail)
local macro_rules | `(tactic| walk_at "pad 4") => `(tactic| fail)
local macro_rules | `(tactic| walk_at "pad 5") => `(tactic| fail)
open PySem PySem.W PySem.Calls PyProof.Rows
-- the walk's own lines

-- containments, the table's place

local macro_rules | `(tactic| walk_at "call ref") => `(tactic| (k_here; (with_reducible show wpAny _ _ (call (Value.ref 223) _) _ _ _); k_dflt (refine' DoesG.use (does_made _ ⟨_, _, _, _⟩) ?zB ?zF ?zX ?zN ?zU ?zP ?zG ?zT ?zk ?zs ?zn ⟨_, _, _, _, _, _, rfl, rfl, ?zq, ?zr⟩ ?zo ?zd ?zu ?_; (case zk => first | exact rfl | assumption); (case zB => k_asm); (case zF => k_asm); (case zX => k_asm); (case zN => k_asm); (case zT => k_asm); (case zq => assumption); (case zr => kd_adr); (case zs => kd_subs); (case zP => first | assumption | exact ⟨_, rfl, by assumption⟩); (case zG => k_asm); (case zn => kd_p); (case zU => k_updF); (case zo => (first | ((dsimp only); assumption) | fail "Ok")); (case zd => kd_p1); (case zu => kd_p1)); intro r' l' h' g' tk' oP' hP' F' N' nl' G' O'; (try dsimp only at N'); (try dsimp only at O'); (obtain ⟨x', d', es', e9', m1', m2'⟩ := FQ.has O'); subst e9'; (try dsimp only [PySem.W.CmpBack]); (try k_sweep)))

abbrev csub : Told DTwo where
  Rel := RelTwo
  Ok := fun d => d.p < 24
  size := fun _ => 12
  Out := fun l r d => FQ d.p l r (subF d.p d.x d.y)
set_option maxRecDepth 100000 in
set_option maxHeartbeats 40000000 in
theorem does_sub (w : World) (d : DTwo) : DoesG w 113 csub d := by
  w_top off
  unfold DoesG
  k_fill
  intro p loose mean mg mb dp un gd cn cs a ccd cl outer A₀ base h₀ L m news small oP s vs Q E B F X N hP nP G T hk hs hR hok hd hu hret
  obtain ⟨dp, x, y⟩ := d
  obtain ⟨v1, v2, l1, l2, rfl, rfl, hq1, hq2⟩ := hR
  dsimp only at *
  have hb1 := hq1.bd
  have hb2 := hq2.bd
  have hn1 := hq1.off
  have hn2 := hq2.off
  have hq10 := hq1
  have hq20 := hq2
  cases hq1
  cases hq2
  (try simp only [LCg.Off1, and_true] at hn1 hn2)
  obtain ⟨_, _, _, _, _, _⟩ := hn1
  obtain ⟨_, _, _, _, _, _⟩ := hn2
  simp only [List.cons_append, List.nil_append] at hs
  have N0 := News.sub N (Sub.cons (q := (93, oP)) (.head _) (Sub.tail hs))
  refine wpAny_call ?_
  k_dflt (refine' code_MC ?k1 ?k2 ?k3 N0 ?k5 ?kA ?kF ?kK ?k6 ?k7 ?k8 ?k9 ?kB ?kD ?_ ?c2 ?c3 ?c4; (case kA => exact rfl); (case kF => exact rfl); (case kK => assumption); (case k1 => k_asm); (case k2 => k_asm); (case k3 => k_asm); (case k5 => k_asm); (case k6 => k_is); (case k7 => k_is); (case k8 => ktr_room); (case k9 => exact BindsTo.of_eq rfl); (case kB => exact rfl); (case kD => decide +kernel); (case c2 => exact rfl); (case c3 => exact rfl); (case c4 => exact rfl); k_whole)
  intro g' L' h1' tk' cells' FG' F1' N1' Y' B' X' T' l1; (replace l1 := allLt_of l1); (simp only [AllLt, and_true] at l1)
  obtain ⟨oc, hE, dc⟩ := CellsAre.one Y'
  subst hE
  (try simp only [List.cons_append, List.nil_append] at N1'); (try dsimp only); (try k_lift B'); (try k_fold)
  clear N0
  k_steps
  all_goals (
    refine' hret _ _ _ _ _ _ ?tab ?F (backG N nP hs ?kN ?kK ?s1 ?s2 ?s3) ?np ?G ?out
    case kN => assumption
    case kK => assumption
    case F => assumption
    case out => exact FQ.cast (by assumption) (Prod.ext (fm (p := dp) (by omega) (by rfl)) (fm (p := dp) (by omega) (by rfl)))
    case s2 => kd_subs
    case s3 => k_mem
    case s1 => kd_subs
    case tab => assumption
    case G => assumption
    case np => kd_p)

end

section
local macro_rules | `(tactic| walk_at "pad 0") => `(tactic| fail)
local macro_rules | `(tactic| walk_at "pad 1") => `(tactic| fail)
local macro_rules | `(tactic| walk_at "pad 2") => `(tactic| fail)
local macro_rules | `(tactic| walk_at "pad 3") => `(tactic| fail)
local macro_rules | `(tactic| walk_at "pad 4") => `(tactic| fail)
local macro_rules | `(tactic| walk_at "pad 5") => `(tactic| fail)
local macro_rules | `(tactic| walk_at "pad 6") => `(tactic| fail)
local macro_rules | `(tactic| walk_at "pad 7") => `(tactic| fail)
local macro_rules | `(tactic| walk_at "pad 8") => `(tactic| fail)
open PySem PySem.W PySem.Calls PyProof.Rows
-- the walk's own lines

-- containments, the table's place

local macro_rules | `(tactic| walk_at "call ref") => `(tactic| (k_here; (with_reducible show wpAny _ _ (call (Value.ref 223) _) _ _ _); k_dflt (refine' DoesG.use (does_made _ ⟨_, _, _, _⟩) ?zB ?zF ?zX ?zN ?zU ?zP ?zG ?zT ?zk ?zs ?zn ⟨_, _, _, _, _, _, rfl, rfl, ?zq, ?zr⟩ ?zo ?zd ?zu ?_; (case zk => first | exact rfl | assumption); (case zB => k_asm); (case zF => k_asm); (case zX => k_asm); (case zN => k_asm); (case zT => k_asm); (case zq => assumption); (case zr => kd_adr); (case zs => kd_subs); (case zP => first | assumption | exact ⟨_, rfl, by assumption⟩); (case zG => k_asm); (case zn => kd_p); (case zU => k_updF); (case zo => (first | ((dsimp only); assumption) | fail "Ok")); (case zd => kd_p1); (case zu => kd_p1)); intro r' l' h' g' tk' oP' hP' F' N' nl' G' O'; (try dsimp only at N'); (try dsimp only at O'); (obtain ⟨x', d', es', e9', m1', m2'⟩ := FQ.has O'); subst e9'; (try dsimp only [PySem.W.CmpBack]); (try k_sweep)))

abbrev cneg : Told DOne where
  Rel := RelOne
  Ok := fun d => d.p < 24
  size := fun _ => 12
  Out := fun l r d => FQ d.p l r (negF d.p d.x)
set_option maxRecDepth 100000 in
set_option maxHeartbeats 40000000 in
theorem does_neg (w : World) (d : DOne) : DoesG w 180 cneg d := by
  w_top off
  unfold DoesG
  k_fill
  intro p loose mean mg mb dp un gd cn cs a ccd cl outer A₀ base h₀ L m news small oP s vs Q E B F X N hP nP G T hk hs hR hok hd hu hret
  obtain ⟨dp, x⟩ := d
  obtain ⟨v1, rfl, hq⟩ := hR
  dsimp only at *
  have hb := hq.bd
  have hn := hq.off
  have hq0 := hq
  cases hq
  (try simp only [LCg.Off1, and_true] at hn)
  obtain ⟨_, _, _, _, _, _⟩ := hn
  have N0 := News.sub N (Sub.cons (q := (93, oP)) (.head _) (Sub.tail hs))
  refine wpAny_call ?_
  k_dflt (refine' code_M ?k1 ?k2 ?k3 N0 ?k5 ?kA ?kF ?kK ?k6 ?k7 ?k8 ?k9 ?kB ?_ ?c2 ?c3 ?c4 ?c5; (case kA => exact rfl); (case kF => exact rfl); (case kK => assumption); (case k1 => k_asm); (case k2 => k_asm); (case k3 => k_asm); (case k5 => k_asm); (case k6 => k_is); (case k7 => k_is); (case k8 => ktr_room); (case k9 => exact BindsTo.of_eq rfl); (case kB => exact locs rfl); (case c2 => exact rfl); (case c3 => exact rfl); (case c4 => exact rfl); (case c5 => decide); k_whole)
  intro g' L' h1' FG' F1' N1' B' X' T'; (try dsimp only); (try k_lift B'); (try k_fold)
  clear N0
  k_steps
  all_goals (
    refine' hret _ _ _ _ _ _ ?tab ?F (backG N nP hs ?kN ?kK ?s1 ?s2 ?s3) ?np ?G ?out
    case kN => assumption
    case kK => assumption
    case F => assumption
    case out => exact FQ.cast (by assumption) rfl
    case s2 => kd_subs
    case s3 => k_mem
    case s1 => kd_subs
    case tab => assumption
    case G => assumption
    case np => kd_p)

end

section
open PySem PySem.W PySem.Calls PyProof.Rows
-- the walk's own lines

-- containments, the table's place

local macro_rules | `(tactic| walk_at "call ref") => `(tactic| (k_here; (with_reducible show wpAny _ _ (call (Value.ref 223) _) _ _ _); k_dflt (refine' DoesG.use (does_made _ ⟨_, _, _, _⟩) ?zB ?zF ?zX ?zN ?zU ?zP ?zG ?zT ?zk ?zs ?zn ⟨_, _, _, _, _, _, rfl, rfl, ?zq, ?zr⟩ ?zo ?zd ?zu ?_; (case zk => first | exact rfl | assumption); (case zB => k_asm); (case zF => k_asm); (case zX => k_asm); (case zN => k_asm); (case zT => k_asm); (case zq => assumption); (case zr => kd_adr); (case zs => kd_subs); (case zP => first | assumption | exact ⟨_, rfl, by assumption⟩); (case zG => k_asm); (case zn => kd_p); (case zU => k_updF); (case zo => (first | ((dsimp only); assumption) | fail "Ok")); (case zd => kd_p1); (case zu => kd_p1)); intro r' l' h' g' tk' oP' hP' F' N' nl' G' O'; (try dsimp only at N'); (try dsimp only at O'); (obtain ⟨x', d', es', e9', m1', m2'⟩ := FQ.has O'); subst e9'; (try dsimp only [PySem.W.CmpBack]); (try k_sweep)))

abbrev cmulI : Told DInt where
  Rel := RelInt
  Ok := fun d => d.p < 24 ∧ 0 ≤ d.k ∧ d.k < 24
  size := fun _ => 12
  Out := fun l r d => FQ d.p l r (smulF d.p d.k d.x)
set_option maxRecDepth 100000 in
set_option maxHeartbeats 40000000 in
theorem does_mulI (w : World) (d : DInt) : DoesG w 125 cmulI d := by
  w_top off
  unfold DoesG
  k_fill
  intro p loose mean mg mb dp un gd cn cs a ccd cl outer A₀ base h₀ L m news small oP s vs Q E B F X N hP nP G T hk hs hR hok hd hu hret
  obtain ⟨dp, x, k⟩ := d
  obtain ⟨v1, tk, rfl, hq⟩ := hR
  dsimp only at *
  have hb := hq.bd
  have hn := hq.off
  have hq0 := hq
  cases hq
  (try simp only [LCg.Off1, and_true] at hn)
  obtain ⟨_, _, _, _, _, _⟩ := hn
  obtain ⟨ho1, ho2, ho3⟩ := hok
  have N0 := News.sub N (Sub.cons (q := (93, oP)) (.head _) (Sub.tail hs))
  refine wpAny_call ?_
  k_dflt (refine' code_MC ?k1 ?k2 ?k3 N0 ?k5 ?kA ?kF ?kK ?k6 ?k7 ?k8 ?k9 ?kB ?kD ?_ ?c2 ?c3 ?c4; (case kA => exact rfl); (case kF => exact rfl); (case kK => assumption); (case k1 => k_asm); (case k2 => k_asm); (case k3 => k_asm); (case k5 => k_asm); (case k6 => k_is); (case k7 => k_is); (case k8 => ktr_room); (case k9 => exact BindsTo.of_eq rfl); (case kB => exact rfl); (case kD => decide +kernel); (case c2 => exact rfl); (case c3 => exact rfl); (case c4 => exact rfl); k_whole)
  intro g' L' h1' tk' cells' FG' F1' N1' Y' B' X' T' l1; (replace l1 := allLt_of l1); (simp only [AllLt, and_true] at l1)
  obtain ⟨oc, oc2, hE, dc, dc2⟩ := CellsAre.two Y'
  subst hE
  (try simp only [List.cons_append, List.nil_append] at N1'); (try dsimp only); (try k_lift B'); (try k_fold)
  clear N0
  k_steps
  all_goals (
    refine' hret _ _ _ _ _ _ ?tab ?F (backG N nP hs ?kN ?kK ?s1 ?s2 ?s3) ?np ?G ?out
    case kN => assumption
    case kK => assumption
    case F => assumption
    case out => exact FQ.cast (by assumption) (Prod.ext (fm (p := dp) (by omega) rfl) (fm (p := dp) (by omega) rfl))
    case s2 => kd_subs
    case s3 => k_mem
    case s1 => kd_subs
    case tab => assumption
    case G => assumption
    case np => kd_p)

end

section
local macro_rules | `(tactic| walk_at "pad 0") => `(tactic| fail)
local macro_rules | `(tactic| walk_at "pad 1") => `(tactic| fail)
local macro_rules | `(tactic| walk_at "pad 2") => `(tactic| fail)
open PySem PySem.W PySem.Calls PyProof.Rows
-- the walk's own lines

-- containments, the table's place

local macro_rules | `(tactic| walk_at "call ref") => `(tactic| (k_here; (with_reducible show wpAny _ _ (call (Value.ref 125) _) _ _ _); k_dflt (refine' DoesG.use (does_mulI _ ⟨_, _, _⟩) ?zB ?zF ?zX ?zN ?zU ?zP ?zG ?zT ?zk ?zs ?zn ⟨_, _, rfl, ?zq⟩ ?zo ?zd ?zu ?_; (case zk => first | exact rfl | assumption); (case zB => k_asm); (case zF => k_asm); (case zX => k_asm); (case zN => k_asm); (case zT => k_asm); (case zq => assumption); (case zs => kd_subs); (case zP => first | assumption | exact ⟨_, rfl, by assumption⟩); (case zG => k_asm); (case zn => kd_p); (case zU => k_updF); (case zo => (first | ((dsimp only); exact ⟨by assumption, by omega, by omega⟩) | fail "Ok")); (case zd => kd_p1); (case zu => kd_p1)); intro r' l' h' g' tk' oP' hP' F' N' nl' G' O'; (try dsimp only at N'); (try dsimp only at O'); (obtain ⟨x', d', es', e9', m1', m2'⟩ := FQ.has O'); subst e9'; (try dsimp only [PySem.W.CmpBack]); (try k_sweep)))

abbrev crmul : Told DInt where
  Rel := RelInt
  Ok := fun d => d.p < 24 ∧ 0 ≤ d.k ∧ d.k < 24
  size := fun _ => 16
  Out := fun l r d => FQ d.p l r (smulF d.p d.k d.x)
set_option maxRecDepth 100000 in
set_option maxHeartbeats 40000000 in
theorem does_rmul (w : World) (d : DInt) : DoesG w 132 crmul d := by
  w_top off
  unfold DoesG
  k_fill
  intro p loose mean mg mb dp un gd cn cs a ccd cl outer A₀ base h₀ L m news small oP s vs Q E B F X N hP nP G T hk hs hR hok hd hu hret
  obtain ⟨dp, x, k⟩ := d
  obtain ⟨v1, tk, rfl, hq⟩ := hR
  dsimp only at *
  have hb := hq.bd
  have hn := hq.off
  have hq0 := hq
  cases hq
  (try simp only [LCg.Off1, and_true] at hn)
  obtain ⟨_, _, _, _, _, _⟩ := hn
  obtain ⟨ho1, ho2, ho3⟩ := hok
  have N0 := News.sub N (Sub.cons (q := (93, oP)) (.head _) (Sub.tail hs))
  refine wpAny_call ?_
  k_dflt (refine' code_M ?k1 ?k2 ?k3 N0 ?k5 ?kA ?kF ?kK ?k6 ?k7 ?k8 ?k9 ?kB ?_ ?c2 ?c3 ?c4 ?c5; (case kA => exact rfl); (case kF => exact rfl); (case kK => assumption); (case k1 => k_asm); (case k2 => k_asm); (case k3 => k_asm); (case k5 => k_asm); (case k6 => k_is); (case k7 => k_is); (case k8 => ktr_room); (case k9 => exact BindsTo.of_eq rfl); (case kB => exact locs rfl); (case c2 => exact rfl); (case c3 => exact rfl); (case c4 => exact rfl); (case c5 => decide); k_whole)
  intro g' L' h1' FG' F1' N1' B' X' T'; (try dsimp only); (try k_lift B'); (try k_fold)
  clear N0
  k_steps
  all_goals (
    refine' hret _ _ _ _ _ _ ?tab ?F (backG N nP hs ?kN ?kK ?s1 ?s2 ?s3) ?np ?G ?out
    case kN => assumption
    case kK => assumption
    case F => assumption
    case out => assumption
    case s2 => kd_subs
    case s3 => k_mem
    case s1 => kd_subs
    case tab => assumption
    case G => assumption
    case np => kd_p)

end

section
local macro_rules | `(tactic| walk_at "pad 0") => `(tactic| fail)
open PySem PySem.W PySem.Calls PyProof.Rows
-- the walk's own lines

-- containments, the table's place

local macro_rules | `(tactic| walk_at "call ref") => `(tactic| (k_here; (with_reducible show wpAny _ _ (call (Value.ref 223) _) _ _ _); k_dflt (refine' DoesG.use (does_made _ ⟨_, _, _, _⟩) ?zB ?zF ?zX ?zN ?zU ?zP ?zG ?zT ?zk ?zs ?zn ⟨_, _, _, _, _, _, rfl, rfl, ?zq, ?zr⟩ ?zo ?zd ?zu ?_; (case zk => first | exact rfl | assumption); (case zB => k_asm); (case zF => k_asm); (case zX => k_asm); (case zN => k_asm); (case zT => k_asm); (case zq => assumption); (case zr => kd_adr); (case zs => kd_subs); (case zP => first | assumption | exact ⟨_, rfl, by assumption⟩); (case zG => k_asm); (case zn => kd_p); (case zU => k_updF); (case zo => (first | ((dsimp only); assumption) | fail "Ok")); (case zd => kd_p1); (case zu => kd_p1)); intro r' l' h' g' tk' oP' hP' F' N' nl' G' O'; (try dsimp only at N'); (try dsimp only at O'); (obtain ⟨x', d', es', e9', m1', m2'⟩ := FQ.has O'); subst e9'; (try dsimp only [PySem.W.CmpBack]); (try k_sweep)))

-- quicker lines
local macro_rules | `(tactic| walk_at "setItem ref int") => `(tactic| (k_here; (with_reducible show wpAny _ _ (PySem.setItem (Value.ref _) (Value.int _ _) (Value.int _ _)) _ _ _); (refine gen_set ?_; intro z' tz' hz'); k_dflt (refine' ki_set ?F ?N ?a ?b ?e ?U ?_; (case F => k_asm); (case N => k_asm); (case U => k_upd); (case a => decide); (case b => decide); (case e => rfl)); intro h' F' N'; (try dsimp only [List.nil_append, List.cons_append] at N'); (try k_sweep)))
local macro_rules | `(tactic| walk_at "pyIter ref") => `(tactic| ((with_reducible show wpAny _ _ (pyIter (Value.ref _)) (fun it s₂ => LoopAtV _ _ _ _ _ _ _ _ _ it s₂) _ _); k_here; k_dflt (l_hasStore; krs_unr)))
local macro_rules | `(tactic| walk_at "UnrEndW") => `(tactic| (k_dflt ktu_end))
local macro_rules | `(tactic| walk_at "exec AugAssign Subscript") => `(tactic| (k_dflt (refine wpAny_AugAssign_SubscriptAny ?_)))

local macro_rules | `(tactic| kas_types) => `(tactic| first | (with_reducible exact List.mem_cons_self) | ((with_reducible refine List.mem_cons_of_mem _ ?_); kas_types) | ((with_reducible refine List.mem_append_left _ ?_); kas_types) | ((with_reducible refine List.mem_append_right _ ?_); kas_types) | (with_reducible assumption))
local macro_rules | `(tactic| k_mem) => `(tactic| kas_types)

-- facts of order as one fact an object; apartness by it
local macro_rules | `(tactic| k_lt $h:ident) => `(tactic| (replace $h := allLt_of $h))
local macro_rules | `(tactic| k_ne) => `(tactic| (refine neN ?_; (try dsimp only); first
  | (refine' Nat.ne_of_gt (lt_of_all ?h9 ?m9); (case h9 => with_reducible assumption); (case m9 => kas_types))
  | (refine' Nat.ne_of_lt (lt_of_all ?h9 ?m9); (case h9 => with_reducible assumption); (case m9 => kas_types))
  | (refine' Nat.ne_of_lt (Nat.lt_add_right _ (lt_of_all ?h9 ?m9)); (case h9 => with_reducible assumption); (case m9 => kas_types))
  | (refine' Nat.ne_of_gt (Nat.lt_add_right _ (lt_of_all ?h9 ?m9)); (case h9 => with_reducible assumption); (case m9 => kas_types))
  | (with_reducible assumption) | (refine Ne.symm ?_; with_reducible assumption) | omega))
local macro_rules | `(tactic| krn_ne) => `(tactic| k_ne)
local macro_rules | `(tactic| k_all) => `(tactic| (refine' ne_cast ?h8 ?e8; (case h8 => with_reducible assumption); (case e8 => (simp only [List.map_cons, List.map_nil]; done))))
local macro_rules | `(tactic| k_upd) => `(tactic| first | (refine' Upd.head (ne_cast ?h8 ?e8); (case h8 => with_reducible assumption); (case e8 => (simp only [List.map_cons, List.map_nil]; done))) | (refine' Upd.tail ?ua ?ub; (case ua => k_ne); (case ub => k_upd)))
local macro_rules | `(tactic| k_subL) => `(tactic| first | (with_reducible exact subL_refl) | (with_reducible exact subL_t1) | (with_reducible exact subL_t2) | (with_reducible exact subL_t3))
local macro_rules | `(tactic| krn_off) => `(tactic| (refine' offI_of (ne_cast ?h8 ?e8); (case h8 => with_reducible assumption); (case e8 => (simp only [List.map_cons, List.map_nil]; done))))
local macro_rules | `(tactic| ktu_offI) => `(tactic| (refine' offI_of (ne_cast ?h8 ?e8); (case h8 => with_reducible assumption); (case e8 => (simp only [List.map_cons, List.map_nil]; done))))
local macro_rules | `(tactic| ktu_offL) => `(tactic| first | (refine' offW1 (ne_cast ?h8 ?e8); (case h8 => with_reducible assumption); (case e8 => (simp only [List.map_cons, List.map_nil]; done))) | (refine' offW2 (ne_cast1 ?h8 ?e8) (ne_cast ?h7 ?e7); (case h8 => with_reducible assumption); (case e8 => (simp only [List.map_cons, List.map_nil]; done)); (case h7 => with_reducible assumption); (case e7 => (simp only [List.map_cons, List.map_nil]; done))))
local macro_rules | `(tactic| walk_at "binaryOp Mult ref int") => `(tactic| (k_here; (with_reducible show wpAny _ _ (binaryOp Operator.Mult (Value.ref _) (Value.int _ _)) _ _ _); k_dflt (refine' KMa.mul ?F ?N ?l ?lo ?hi ?z ?e ?_; (case F => k_asm); (case N => k_asm); (case l => is_list); (case lo => decide); (case hi => decide); (case z => exact Nat.le_of_ble_eq_true rfl); (case e => (simp only [Int.reduceMul, Int.reduceSub, Int.reduceAdd, Int.reduceToNat, List.replicate_succ, List.replicate_zero, List.flatten_cons, List.flatten_nil, List.cons_append, List.nil_append, List.append_nil]; first | done | exact rfl)); k_whole); intro D' h' F' N' l1; (try k_lt l1); (try k_sweep)))

abbrev cmul : Told DTwo where
  Rel := RelTwo
  Ok := fun d => d.p < 24
  size := fun _ => 12
  Out := fun l r d => FQ d.p l r (mulF d.p d.x d.y)
set_option maxRecDepth 100000 in
set_option maxHeartbeats 40000000 in
theorem does_mul (w : World) (d : DTwo) : DoesG w 125 cmul d := by
  w_top off
  unfold DoesG
  k_fill
  intro p loose mean mg mb dp un gd cn cs a ccd cl outer A₀ base h₀ L m news small oP s vs Q E B F X N hP nP G T hk hs hR hok hd hu hret
  obtain ⟨dp, x, y⟩ := d
  obtain ⟨v1, v2, l1, l2, rfl, rfl, hq1, hq2⟩ := hR
  dsimp only at *
  have hb1 := hq1.bd
  have hb2 := hq2.bd
  have hn1 := hq1.off
  have hn2 := hq2.off
  have hq10 := hq1
  have hq20 := hq2
  cases hq1
  cases hq2
  (try simp only [LCg.Off1, and_true] at hn1 hn2)
  obtain ⟨_, _, _, _, _, _⟩ := hn1
  obtain ⟨_, _, _, _, _, _⟩ := hn2
  simp only [List.cons_append, List.nil_append] at hs
  have b1 : Builtin.Int.intBits x.1 ≤ 64 := PySem.intBits_le_64 (by omega) (by omega)
  have b2 : Builtin.Int.intBits x.2 ≤ 64 := PySem.intBits_le_64 (by omega) (by omega)
  have N0 := News.sub N (Sub.cons (q := (93, oP)) (.head _) (Sub.tail hs))
  refine wpAny_call ?_
  k_dflt (refine' code_MC ?k1 ?k2 ?k3 N0 ?k5 ?kA ?kF ?kK ?k6 ?k7 ?k8 ?k9 ?kB ?kD ?_ ?c2 ?c3 ?c4; (case kA => exact rfl); (case kF => exact rfl); (case kK => assumption); (case k1 => k_asm); (case k2 => k_asm); (case k3 => k_asm); (case k5 => k_asm); (case k6 => k_is); (case k7 => k_is); (case k8 => ktr_room); (case k9 => exact BindsTo.of_eq rfl); (case kB => exact rfl); (case kD => decide +kernel); (case c2 => exact rfl); (case c3 => exact rfl); (case c4 => exact rfl); k_whole)
  intro g' L' h1' tk' cells' FG' F1' N1' Y' B' X' T' l1; (replace l1 := allLt_of l1); (simp only [AllLt, and_true] at l1)
  obtain ⟨oc, oc2, hE, dc, dc2⟩ := CellsAre.two Y'
  subst hE
  (try simp only [List.cons_append, List.nil_append] at N1'); (try dsimp only); (try k_lift B'); (try k_fold)
  clear N0
  k_steps
  all_goals (
    refine' hret _ _ _ _ _ _ ?tab ?F (backG N nP hs ?kN ?kK ?s1 ?s2 ?s3) ?np ?G ?out
    case kN => assumption
    case kK => assumption
    case F => assumption
    case out => ((refine' FQ.cast (by assumption) (Prod.ext (fm (p := dp) ?q1 ?q2) (fm (p := dp) ?q3 ?q4))); (case q1 => omega); (case q3 => omega); (case q2 => first | rfl | (simp only [Int.mul_one]; done) | grind); (case q4 => first | rfl | (simp only [Int.mul_one]; done) | grind))
    case s2 => kd_subs
    case s3 => k_mem
    case s1 => kd_subs
    case tab => assumption
    case G => assumption
    case np => kd_p)

end

section
local macro_rules | `(tactic| walk_at "pad 0") => `(tactic| fail)
local macro_rules | `(tactic| walk_at "pad 1") => `(tactic| fail)
open PySem PySem.W PySem.Calls PyProof.Rows
-- the walk's own lines

local macro_rules | `(tactic| walk_at "execs cons") => `(tactic| (k_here; (with_reducible rename News _ _ _ (List.cons (Prod.mk _ (listOf (List.toArray (List.flatten _)) _)) _) => nN'); (simp only [Int.reduceMul, Int.reduceSub, Int.reduceAdd, Int.reduceToNat, Nat.reduceAdd, Int.cast_ofNat_Int, List.replicate, List.flatten_cons, List.flatten_nil, List.set_cons_zero, List.set_cons_succ, List.append_nil, List.cons_append, List.nil_append, List.dropLast_cons_cons, List.dropLast, List.getD_cons_zero, List.getD_cons_succ, Int.zero_add, Int.add_zero] at nN'); walk_at "execs cons"))

-- containments, the table's place

local macro_rules | `(tactic| walk_at "call ref") => `(tactic| (k_here; (with_reducible show wpAny _ _ (call (Value.ref 223) _) _ _ _); k_dflt (refine' DoesG.use (does_made _ ⟨_, _, _, _⟩) ?zB ?zF ?zX ?zN ?zU ?zP ?zG ?zT ?zk ?zs ?zn ⟨_, _, _, _, _, _, rfl, rfl, ?zq, ?zr⟩ ?zo ?zd ?zu ?_; (case zk => first | exact rfl | assumption); (case zB => k_asm); (case zF => k_asm); (case zX => k_asm); (case zN => k_asm); (case zT => k_asm); (case zq => assumption); (case zr => kd_adr); (case zs => kd_subs); (case zP => first | assumption | exact ⟨_, rfl, by assumption⟩); (case zG => k_asm); (case zn => kd_p); (case zU => k_updF); (case zo => (first | ((dsimp only); assumption) | fail "Ok")); (case zd => kd_p1); (case zu => kd_p1)); intro r' l' h' g' tk' oP' hP' F' N' nl' G' O'; (try dsimp only at N'); (try dsimp only at O'); (obtain ⟨x', d', es', e9', m1', m2'⟩ := FQ.has O'); subst e9'; (try dsimp only [PySem.W.CmpBack]); (try k_sweep)))

local macro_rules | `(tactic| walk_at "call ref") => `(tactic| (k_here; (with_reducible show wpAny _ _ (call (Value.ref 125) _) _ _ _); k_dflt (refine' DoesG.use (does_mul _ ⟨_, _, _⟩) ?zB ?zF ?zX ?zN ?zU ?zP ?zG ?zT ?zk ?zs ?zn ⟨_, _, _, _, rfl, rfl, ?zq, ?zr⟩ ?zo ?zd ?zu ?_; (case zk => first | exact rfl | assumption); (case zB => k_asm); (case zF => k_asm); (case zX => k_asm); (case zN => k_asm); (case zT => k_asm); (case zq => assumption); (case zr => assumption); (case zs => kd_subs); (case zP => first | assumption | exact ⟨_, rfl, by assumption⟩); (case zG => k_asm); (case zn => kd_p); (case zU => k_updF); (case zo => (first | ((dsimp only); assumption) | fail "Ok")); (case zd => kd_p1); (case zu => kd_p1)); intro r' l' h' g' tk' oP' hP' F' N' nl' G' O'; (try dsimp only at N'); (try dsimp only at O'); (obtain ⟨x', d', es', e9', m1', m2'⟩ := FQ.has O'); subst e9'; (try dsimp only [PySem.W.CmpBack]); (try k_sweep)))

-- quicker lines
local macro_rules | `(tactic| walk_at "setItem ref int") => `(tactic| (k_here; (with_reducible show wpAny _ _ (PySem.setItem (Value.ref _) (Value.int _ _) (Value.int _ _)) _ _ _); (refine gen_set ?_; intro z' tz' hz'); k_dflt (refine' ki_set ?F ?N ?a ?b ?e ?U ?_; (case F => k_asm); (case N => k_asm); (case U => k_upd); (case a => decide); (case b => decide); (case e => rfl)); intro h' F' N'; (try dsimp only [List.nil_append, List.cons_append] at N'); (try k_sweep)))
local macro_rules | `(tactic| walk_at "pyIter ref") => `(tactic| ((with_reducible show wpAny _ _ (pyIter (Value.ref _)) (fun it s₂ => LoopAtV _ _ _ _ _ _ _ _ _ it s₂) _ _); k_here; k_dflt (l_hasStore; krs_unr)))
local macro_rules | `(tactic| walk_at "UnrEndW") => `(tactic| (k_dflt ktu_end))
local macro_rules | `(tactic| walk_at "exec AugAssign Subscript") => `(tactic| (k_dflt (refine wpAny_AugAssign_SubscriptAny ?_)))

local macro_rules | `(tactic| kas_types) => `(tactic| first | (with_reducible exact List.mem_cons_self) | ((with_reducible refine List.mem_cons_of_mem _ ?_); kas_types) | ((with_reducible refine List.mem_append_left _ ?_); kas_types) | ((with_reducible refine List.mem_append_right _ ?_); kas_types) | (with_reducible assumption))
local macro_rules | `(tactic| k_mem) => `(tactic| kas_types)

local macro_rules | `(tactic| walk_at "exec While Compare cons nil") => `(tactic| (k_here; refine halt ?_))

def powL (p : Int) : Nat → Nat → Int × Int → Int × Int → Int × Int
  | 0, _, o, _ => o
  | f + 1, n, o, t => if n = 0 then o else powL p f (n / 2) (if n % 2 = 1 then mulF p o t else o) (mulF p t t)
def powF (p : Int) (n : Nat) (x : Int × Int) : Int × Int := powL p 6 n (1 % p, 0 % p) x
theorem pow_lt {n : Int} {f : Nat} (h0 : 0 < n) (h1 : n < 2 ^ f) : ∃ f', f = f' + 1 ∧ n.fdiv (2 ^ Int.toNat 1) < 2 ^ f' := by
  have e : n.fdiv (2 ^ Int.toNat 1) = n / 2 := Int.fdiv_eq_ediv_of_nonneg _ (by decide)
  rw [e]
  cases f with
  | zero => omega
  | succ f => refine ⟨f, rfl, ?_⟩; rw [Int.pow_succ] at h1; omega
theorem fd_nn {n : Int} (h0 : 0 ≤ n) : 0 ≤ n.fdiv (2 ^ Int.toNat 1) := by rw [Int.fdiv_eq_ediv_of_nonneg _ (by decide)]; exact Int.ediv_nonneg h0 (by decide)
theorem powL_step {p n : Int} {f : Nat} {o t o' : Int × Int} (h0 : 0 < n) (ho : o' = if n % 2 = 1 then mulF p o t else o) : powL p (f + 1) n.toNat o t = powL p f (n.fdiv (2 ^ Int.toNat 1)).toNat o' (mulF p t t) := by
  have e : n.fdiv (2 ^ Int.toNat 1) = n / 2 := Int.fdiv_eq_ediv_of_nonneg _ (by decide)
  have e2 : (n / 2).toNat = n.toNat / 2 := by omega
  rw [e, e2, ho]
  show (if n.toNat = 0 then o else _) = _
  rw [if_neg (by omega)]
  by_cases h : n % 2 = 1
  · rw [if_pos h, if_pos (by omega)]
  · rw [if_neg h, if_neg (by omega)]
theorem powL_end {p : Int} {f : Nat} {o t : Int × Int} : powL p (f + 1) (0 : Int).toNat o t = o := rfl
theorem bit_odd {n : Int} (h : Builtin.bitAnd n 1 ≠ 0) : n % 2 = 1 := by rw [bitAnd_m1] at h; omega
theorem bit_even {n : Int} (h : Builtin.bitAnd n 1 = 0) : ¬ n % 2 = 1 := by rw [bitAnd_m1] at h; omega
structure PowS where
  n : Int
  f : Nat
  vo : Addr
  vt : Addr
  lo : List (Addr × Obj)
  lt : List (Addr × Obj)
  zo : Int × Int
  zt : Int × Int
  tk : Tok
  oP : Obj
abbrev cpow : Told DInt where
  Rel := RelInt
  Ok := fun d => d.p < 24 ∧ 0 ≤ d.k ∧ d.k < 24
  size := fun _ => 16
  Out := fun l r d => FQ d.p l r (powF d.p d.k.toNat d.x)
set_option maxRecDepth 100000 in
set_option maxHeartbeats 40000000 in
theorem does_pow (w : World) (d : DInt) : DoesG w 144 cpow d := by
  w_top off
  unfold DoesG
  k_fill
  intro p loose mean mg mb dp un gd cn cs a ccd cl outer A₀ base h₀ L m news small oP s vs Q E B F X N hP nP G T hk hs hR hok hd hu hret
  obtain ⟨dp, x, k⟩ := d
  obtain ⟨v1, tk, rfl, hq⟩ := hR
  dsimp only at *
  have hb := hq.bd
  have hn := hq.off
  obtain ⟨S, eS⟩ : ∃ S, S = small := ⟨small, rfl⟩
  have hqS : FQ dp S (.ref v1) x := eS ▸ hq
  rw [← eS] at hs
  have hq0 := hq
  cases hq
  (try simp only [LCg.Off1, and_true] at hn)
  obtain ⟨_, _, _, _, _, _⟩ := hn
  obtain ⟨ho1, ho2, ho3⟩ := hok
  have N0 := News.sub N (Sub.cons (q := (93, oP)) (.head _) (Sub.tail (eS ▸ hs)))
  refine wpAny_call ?_
  k_dflt (refine' code_M ?k1 ?k2 ?k3 N0 ?k5 ?kA ?kF ?kK ?k6 ?k7 ?k8 ?k9 ?kB ?_ ?c2 ?c3 ?c4 ?c5; (case kA => exact rfl); (case kF => exact rfl); (case kK => assumption); (case k1 => k_asm); (case k2 => k_asm); (case k3 => k_asm); (case k5 => k_asm); (case k6 => k_is); (case k7 => k_is); (case k8 => ktr_room); (case k9 => exact BindsTo.of_eq rfl); (case kB => exact locs rfl); (case c2 => exact rfl); (case c3 => exact rfl); (case c4 => exact rfl); (case c5 => decide); k_whole)
  intro g' L' h1' FG' F1' N1' B' X' T'; (try dsimp only); (try k_lift B'); (try k_fold)
  clear N0
  k_steps
  unfold Halt
  (with_reducible rename Fr _ _ _ _ => F9)
  (with_reducible rename News _ _ _ _ => N9)
  (with_reducible rename AllBare _ => G9)
  (with_reducible rename FQ _ _ _ (1 % _, 0 % _) => O9)
  (with_reducible rename TabOk _ => T9)
  refine' while_G (σ := PowS) (fun c => (93, c.oP) :: (c.lo ++ (c.lt ++ S))) (fun c => [("other", .int c.n c.tk), ("o", .ref c.vo), ("t", .ref c.vt)])
    (fun c => 0 ≤ c.n ∧ c.n < 2 ^ c.f ∧ c.f < 6 ∧ TabOk c.oP ∧ FQ dp c.lo (.ref c.vo) c.zo ∧ FQ dp c.lt (.ref c.vt) c.zt ∧ powL dp (c.f + 1) c.n.toNat c.zo c.zt = powF dp k.toNat x) [] (fun c => c.f)
    ⟨k, 5, _, _, _, _, _, _, _, _⟩ F9 (News.sub N9 ?ns) G9 ⟨ho2, ?h32, ?h6, T9, O9, hqS, rfl⟩ ?hk ?turn
  case ns => subst eS; exact Sub.cons (by k_mem) (Sub.app (by kd_subs) (Sub.app (by kd_subs) (by kd_subs)))
  case hk => intro p hp; simp only [List.mem_cons, List.not_mem_nil, or_false] at hp; rcases hp with rfl | rfl | rfl <;> rfl
  case h32 => show k < 2 ^ 5; omega
  case h6 => exact (by decide : 5 < 6)
  case turn =>
  clear F9 N9 G9 O9 T9
  intro c u h g tk hf G' F' N'
  obtain ⟨n, f, vo, vt, lo, lt, zo, zt, tk', oP'⟩ := c
  obtain ⟨h0, h1, hf5, hP', qo, qt, hr⟩ := hf
  dsimp only [kstB] at *
  obtain ⟨_, do', eso, e1, mo1, mo2⟩ := FQ.has qo
  obtain ⟨_, dt', est, e2, mt1, mt2⟩ := FQ.has qt
  cases e1
  cases e2
  k_steps
  · (with_reducible rename Fr _ _ _ _ => F8)
    (with_reducible rename News _ _ _ _ => N8)
    (with_reducible rename AllBare _ => G8)
    (with_reducible rename TabOk _ => T8)
    (with_reducible rename FQ _ _ _ (mulF _ zt zt) => O8)
    (with_reducible rename FQ _ _ _ (mulF _ zo zt) => O7)
    (with_reducible rename (Builtin.bitAnd _ _ ≠ 0) => hb8)
    (with_reducible rename (0 < n) => hn8)
    obtain ⟨f', rfl, e2⟩ := pow_lt hn8 h1
    refine' wend ⟨_, f', _, _, _, _, _, _, _, _⟩ G8 F8 N8 ?sub ⟨?nn, e2, ?ff, T8, O7, O8, (powL_step (o' := mulF dp zo zt) hn8 (by rw [if_pos (bit_odd hb8)])).symm.trans hr⟩ ?hk ?hr ?hm
    case sub => exact Sub.cons (by k_mem) (Sub.app (Sub.right Sub.left) (Sub.app Sub.left (Sub.right (Sub.right (Sub.tail (Sub.right (Sub.right Sub.refl)))))))
    case nn => exact fd_nn h0
    case ff => show f' < 6; omega
    case hk => intro p hp; simp only [List.mem_cons, List.not_mem_nil, or_false] at hp; rcases hp with rfl | rfl | rfl <;> rfl
    case hr => ksw_same
    case hm => exact Nat.lt_succ_self _
  · (with_reducible rename Fr _ _ _ _ => F8)
    (with_reducible rename News _ _ _ _ => N8)
    (with_reducible rename AllBare _ => G8)
    (with_reducible rename TabOk _ => T8)
    (with_reducible rename FQ _ _ _ (mulF _ zt zt) => O8)
    (with_reducible rename (Builtin.bitAnd _ _ = 0) => hb8)
    (with_reducible rename (0 < n) => hn8)
    obtain ⟨f', rfl, e2⟩ := pow_lt hn8 h1
    refine' wend ⟨_, f', _, _, _, _, _, _, _, _⟩ G8 F8 N8 ?sub ⟨?nn, e2, ?ff, T8, qo, O8, (powL_step (o' := zo) hn8 (by rw [if_neg (bit_even hb8)])).symm.trans hr⟩ ?hk ?hr ?hm
    case sub => exact Sub.cons (by k_mem) (Sub.app (Sub.right (Sub.tail Sub.left)) (Sub.app Sub.left (Sub.right (Sub.tail (Sub.right (Sub.right Sub.refl))))))
    case nn => exact fd_nn h0
    case ff => show f' < 6; omega
    case hk => intro p hp; simp only [List.mem_cons, List.not_mem_nil, or_false] at hp; rcases hp with rfl | rfl | rfl <;> rfl
    case hr => ksw_same
    case hm => exact Nat.lt_succ_self _
  · have e0 : n = 0 := by omega
    subst e0
    subst eS
    refine' hret _ _ _ _ _ _ hP' ?F (backG N nP hs ?kN ?kK ?s1 ?s2 ?s3) qo.noP G' (FQ.cast qo (powL_end.symm.trans hr))
    case kN => assumption
    case kK => assumption
    case F => assumption
    case s1 => exact Sub.tail (Sub.right (Sub.right Sub.refl))
    case s2 => exact Sub.tail Sub.left
    case s3 => exact .head _

end

section
open PySem PySem.W PySem.Calls PyProof.Rows
-- the walk's own lines

local macro_rules | `(tactic| walk_at "execs cons") => `(tactic| (k_here; (with_reducible rename News _ _ _ (List.cons (Prod.mk _ (listOf (List.toArray (List.flatten _)) _)) _) => nN'); (simp only [Int.reduceMul, Int.reduceSub, Int.reduceAdd, Int.reduceToNat, Nat.reduceAdd, Int.cast_ofNat_Int, List.replicate, List.flatten_cons, List.flatten_nil, List.set_cons_zero, List.set_cons_succ, List.append_nil, List.cons_append, List.nil_append, List.dropLast_cons_cons, List.dropLast, List.getD_cons_zero, List.getD_cons_succ, Int.zero_add, Int.add_zero] at nN'); walk_at "execs cons"))

-- containments, the table's place

local macro_rules | `(tactic| walk_at "call ref") => `(tactic| (k_here; (with_reducible show wpAny _ _ (call (Value.ref 223) _) _ _ _); k_dflt (refine' DoesG.use (does_made _ ⟨_, _, _, _⟩) ?zB ?zF ?zX ?zN ?zU ?zP ?zG ?zT ?zk ?zs ?zn ⟨_, _, _, _, _, _, rfl, rfl, ?zq, ?zr⟩ ?zo ?zd ?zu ?_; (case zk => first | exact rfl | assumption); (case zB => k_asm); (case zF => k_asm); (case zX => k_asm); (case zN => k_asm); (case zT => k_asm); (case zq => assumption); (case zr => kd_adr); (case zs => kd_subs); (case zP => first | assumption | exact ⟨_, rfl, by assumption⟩); (case zG => k_asm); (case zn => kd_p); (case zU => k_updF); (case zo => (first | ((dsimp only); assumption) | fail "Ok")); (case zd => kd_p1); (case zu => kd_p1)); intro r' l' h' g' tk' oP' hP' F' N' nl' G' O'; (try dsimp only at N'); (try dsimp only at O'); (obtain ⟨x', d', es', e9', m1', m2'⟩ := FQ.has O'); subst e9'; (try dsimp only [PySem.W.CmpBack]); (try k_sweep)))

abbrev cone : Told DOne where
  Rel := RelOne
  Ok := fun d => d.p < 24
  size := fun _ => 12
  Out := fun l r d => FQ d.p l r (1 % d.p, 0 % d.p)
set_option maxRecDepth 100000 in
set_option maxHeartbeats 40000000 in
theorem does_one (w : World) (d : DOne) : DoesG w 195 cone d := by
  w_top off
  unfold DoesG
  k_fill
  intro p loose mean mg mb dp un gd cn cs a ccd cl outer A₀ base h₀ L m news small oP s vs Q E B F X N hP nP G T hk hs hR hok hd hu hret
  obtain ⟨dp, x⟩ := d
  obtain ⟨v1, rfl, hq⟩ := hR
  dsimp only at *
  have hb := hq.bd
  have hn := hq.off
  have hq0 := hq
  cases hq
  (try simp only [LCg.Off1, and_true] at hn)
  obtain ⟨_, _, _, _, _, _⟩ := hn
  have N0 := News.sub N (Sub.cons (q := (93, oP)) (.head _) (Sub.tail hs))
  refine wpAny_call ?_
  k_dflt (refine' code_M ?k1 ?k2 ?k3 N0 ?k5 ?kA ?kF ?kK ?k6 ?k7 ?k8 ?k9 ?kB ?_ ?c2 ?c3 ?c4 ?c5; (case kA => exact rfl); (case kF => exact rfl); (case kK => assumption); (case k1 => k_asm); (case k2 => k_asm); (case k3 => k_asm); (case k5 => k_asm); (case k6 => k_is); (case k7 => k_is); (case k8 => ktr_room); (case k9 => exact BindsTo.of_eq rfl); (case kB => exact locs rfl); (case c2 => exact rfl); (case c3 => exact rfl); (case c4 => exact rfl); (case c5 => decide); k_whole)
  intro g' L' h1' FG' F1' N1' B' X' T'; (try dsimp only); (try k_lift B'); (try k_fold)
  clear N0
  k_steps
  all_goals (
    refine' hret _ _ _ _ _ _ ?tab ?F (backG N nP hs ?kN ?kK ?s1 ?s2 ?s3) ?np ?G ?out
    case kN => assumption
    case kK => assumption
    case F => assumption
    case out => assumption
    case s2 => kd_subs
    case s3 => k_mem
    case s1 => kd_subs
    case tab => assumption
    case G => assumption
    case np => kd_p)

end

section
local macro_rules | `(tactic| walk_at "pad 0") => `(tactic| fail)
local macro_rules | `(tactic| walk_at "pad 1") => `(tactic| fail)
local macro_rules | `(tactic| walk_at "pad 2") => `(tactic| fail)
open PySem PySem.W PySem.Calls PyProof.Rows
-- the walk's own lines

local macro_rules | `(tactic| walk_at "execs cons") => `(tactic| (k_here; (with_reducible rename News _ _ _ (List.cons (Prod.mk _ (listOf (List.toArray (List.flatten _)) _)) _) => nN'); (simp only [Int.reduceMul, Int.reduceSub, Int.reduceAdd, Int.reduceToNat, Nat.reduceAdd, Int.cast_ofNat_Int, List.replicate, List.flatten_cons, List.flatten_nil, List.set_cons_zero, List.set_cons_succ, List.append_nil, List.cons_append, List.nil_append, List.dropLast_cons_cons, List.dropLast, List.getD_cons_zero, List.getD_cons_succ, Int.zero_add, Int.add_zero] at nN'); walk_at "execs cons"))

-- containments, the table's place

local macro_rules | `(tactic| walk_at "call ref") => `(tactic| (k_here; (with_reducible show wpAny _ _ (call (Value.ref 223) _) _ _ _); k_dflt (refine' DoesG.use (does_made _ ⟨_, _, _, _⟩) ?zB ?zF ?zX ?zN ?zU ?zP ?zG ?zT ?zk ?zs ?zn ⟨_, _, _, _, _, _, rfl, rfl, ?zq, ?zr⟩ ?zo ?zd ?zu ?_; (case zk => first | exact rfl | assumption); (case zB => k_asm); (case zF => k_asm); (case zX => k_asm); (case zN => k_asm); (case zT => k_asm); (case zq => assumption); (case zr => kd_adr); (case zs => kd_subs); (case zP => first | assumption | exact ⟨_, rfl, by assumption⟩); (case zG => k_asm); (case zn => kd_p); (case zU => k_updF); (case zo => (first | ((dsimp only); assumption) | fail "Ok")); (case zd => kd_p1); (case zu => kd_p1)); intro r' l' h' g' tk' oP' hP' F' N' nl' G' O'; (try dsimp only at N'); (try dsimp only at O'); (obtain ⟨x', d', es', e9', m1', m2'⟩ := FQ.has O'); subst e9'; (try dsimp only [PySem.W.CmpBack]); (try k_sweep)))

abbrev czero : Told DOne where
  Rel := RelOne
  Ok := fun d => d.p < 24
  size := fun _ => 12
  Out := fun l r d => FQ d.p l r (0 % d.p, 0 % d.p)
set_option maxRecDepth 100000 in
set_option maxHeartbeats 40000000 in
theorem does_zero (w : World) (d : DOne) : DoesG w 202 czero d := by
  w_top off
  unfold DoesG
  k_fill
  intro p loose mean mg mb dp un gd cn cs a ccd cl outer A₀ base h₀ L m news small oP s vs Q E B F X N hP nP G T hk hs hR hok hd hu hret
  obtain ⟨dp, x⟩ := d
  obtain ⟨v1, rfl, hq⟩ := hR
  dsimp only at *
  have hb := hq.bd
  have hn := hq.off
  have hq0 := hq
  cases hq
  (try simp only [LCg.Off1, and_true] at hn)
  obtain ⟨_, _, _, _, _, _⟩ := hn
  have N0 := News.sub N (Sub.cons (q := (93, oP)) (.head _) (Sub.tail hs))
  refine wpAny_call ?_
  k_dflt (refine' code_M ?k1 ?k2 ?k3 N0 ?k5 ?kA ?kF ?kK ?k6 ?k7 ?k8 ?k9 ?kB ?_ ?c2 ?c3 ?c4 ?c5; (case kA => exact rfl); (case kF => exact rfl); (case kK => assumption); (case k1 => k_asm); (case k2 => k_asm); (case k3 => k_asm); (case k5 => k_asm); (case k6 => k_is); (case k7 => k_is); (case k8 => ktr_room); (case k9 => exact BindsTo.of_eq rfl); (case kB => exact locs rfl); (case c2 => exact rfl); (case c3 => exact rfl); (case c4 => exact rfl); (case c5 => decide); k_whole)
  intro g' L' h1' FG' F1' N1' B' X' T'; (try dsimp only); (try k_lift B'); (try k_fold)
  clear N0
  k_steps
  all_goals (
    refine' hret _ _ _ _ _ _ ?tab ?F (backG N nP hs ?kN ?kK ?s1 ?s2 ?s3) ?np ?G ?out
    case kN => assumption
    case kK => assumption
    case F => assumption
    case out => assumption
    case s2 => kd_subs
    case s3 => k_mem
    case s1 => kd_subs
    case tab => assumption
    case G => assumption
    case np => kd_p)

end

section
open PySem PySem.W PySem.Calls PyProof.Rows
-- the walk's own lines

local macro_rules | `(tactic| walk_at "execs cons") => `(tactic| (k_here; (with_reducible rename News _ _ _ (List.cons (Prod.mk _ (listOf (List.toArray (List.flatten _)) _)) _) => nN'); (simp only [Int.reduceMul, Int.reduceSub, Int.reduceAdd, Int.reduceToNat, Nat.reduceAdd, Int.cast_ofNat_Int, List.replicate, List.flatten_cons, List.flatten_nil, List.set_cons_zero, List.set_cons_succ, List.append_nil, List.cons_append, List.nil_append, List.dropLast_cons_cons, List.dropLast, List.getD_cons_zero, List.getD_cons_succ, Int.zero_add, Int.add_zero] at nN'); walk_at "execs cons"))

-- containments, the table's place

abbrev ceq : Told DTwo where
  Rel := RelTwo
  Ok := fun d => d.p < 24
  size := fun _ => 8
  Out := fun l r d => l = [] ∧ r = .bool (decide (d.x = d.y))
set_option maxRecDepth 100000 in
set_option maxHeartbeats 40000000 in
theorem does_eq (w : World) (d : DTwo) : Does w 168 ceq d := by
  w_top off
  unfold Does
  k_fill
  intro p loose mean mg mb dp un gd cn cs a ccd cl outer A₀ base h₀ L m news small s vs Q E B F X N T hk hs hR hok hd hu hret
  obtain ⟨dp, x, y⟩ := d
  obtain ⟨v1, v2, l1, l2, rfl, rfl, hq1, hq2⟩ := hR
  dsimp only at *
  have hb1 := hq1.bd
  have hb2 := hq2.bd
  have hn1 := hq1.off
  have hn2 := hq2.off
  have hq10 := hq1
  have hq20 := hq2
  cases hq1
  cases hq2
  (try simp only [LCg.Off1, and_true] at hn1 hn2)
  obtain ⟨_, _, _, _, _, _⟩ := hn1
  obtain ⟨_, _, _, _, _, _⟩ := hn2
  simp only [List.cons_append, List.nil_append] at hs
  have N0 := News.sub N hs
  refine wpAny_call ?_
  k_dflt (refine' code_M ?k1 ?k2 ?k3 N0 ?k5 ?kA ?kF ?kK ?k6 ?k7 ?k8 ?k9 ?kB ?_ ?c2 ?c3 ?c4 ?c5; (case kA => exact rfl); (case kF => exact rfl); (case kK => assumption); (case k1 => k_asm); (case k2 => k_asm); (case k3 => k_asm); (case k5 => k_asm); (case k6 => k_is); (case k7 => k_is); (case k8 => ktr_room); (case k9 => exact BindsTo.of_eq rfl); (case kB => exact locs rfl); (case c2 => exact rfl); (case c3 => exact rfl); (case c4 => exact rfl); (case c5 => decide); k_whole)
  intro g' L' h1' FG' F1' N1' B' X' T'; (try dsimp only); (try k_lift B'); (try k_fold)
  clear N0
  k_steps
  all_goals (
    refine' hret _ _ _ _ ?F (back N hs ?kN ?kK ?s1 ?s2) ?out
    case kN => assumption
    case kK => assumption
    case F => assumption
    case out => first | exact ⟨rfl, congrArg Value.bool (by rw [eq_comm, decide_eq_true_iff]; exact Prod.ext (by omega) (by omega))⟩ | exact ⟨rfl, congrArg Value.bool (by rw [eq_comm, decide_eq_false_iff_not]; intro e; subst e; omega)⟩
    case s2 => kd_subs
    case s1 => kd_subs)

end

section
local macro_rules | `(tactic| walk_at "pad 0") => `(tactic| fail)
local macro_rules | `(tactic| walk_at "pad 1") => `(tactic| fail)
open PySem PySem.W PySem.Calls PyProof.Rows
-- the walk's own lines

local macro_rules | `(tactic| walk_at "execs cons") => `(tactic| (k_here; (with_reducible rename News _ _ _ (List.cons (Prod.mk _ (listOf (List.toArray (List.flatten _)) _)) _) => nN'); (simp only [Int.reduceMul, Int.reduceSub, Int.reduceAdd, Int.reduceToNat, Nat.reduceAdd, Int.cast_ofNat_Int, List.replicate, List.flatten_cons, List.flatten_nil, List.set_cons_zero, List.set_cons_succ, List.append_nil, List.cons_append, List.nil_append, List.dropLast_cons_cons, List.dropLast, List.getD_cons_zero, List.getD_cons_succ, Int.zero_add, Int.add_zero] at nN'); walk_at "execs cons"))

-- containments, the table's place

-- quicker lines
local macro_rules | `(tactic| walk_at "setItem ref int") => `(tactic| (k_here; (with_reducible show wpAny _ _ (PySem.setItem (Value.ref _) (Value.int _ _) (Value.int _ _)) _ _ _); (refine gen_set ?_; intro z' tz' hz'); k_dflt (refine' ki_set ?F ?N ?a ?b ?e ?U ?_; (case F => k_asm); (case N => k_asm); (case U => k_upd); (case a => decide); (case b => decide); (case e => rfl)); intro h' F' N'; (try dsimp only [List.nil_append, List.cons_append] at N'); (try k_sweep)))
local macro_rules | `(tactic| walk_at "pyIter ref") => `(tactic| ((with_reducible show wpAny _ _ (pyIter (Value.ref _)) (fun it s₂ => LoopAtV _ _ _ _ _ _ _ _ _ it s₂) _ _); k_here; k_dflt (l_hasStore; krs_unr)))
local macro_rules | `(tactic| walk_at "UnrEndW") => `(tactic| (k_dflt ktu_end))
local macro_rules | `(tactic| walk_at "exec AugAssign Subscript") => `(tactic| (k_dflt (refine wpAny_AugAssign_SubscriptAny ?_)))

local macro_rules | `(tactic| kas_types) => `(tactic| first | (with_reducible exact List.mem_cons_self) | ((with_reducible refine List.mem_cons_of_mem _ ?_); kas_types) | ((with_reducible refine List.mem_append_left _ ?_); kas_types) | ((with_reducible refine List.mem_append_right _ ?_); kas_types) | (with_reducible assumption))
local macro_rules | `(tactic| k_mem) => `(tactic| kas_types)

local macro_rules | `(tactic| walk_at "exec While Compare cons nil") => `(tactic| (k_here; refine halt ?_))

def pinv (n a : Int) : Int := a ^ (n - 2).toNat % n
def pst (n a : Int) : Nat → Int × Int × Int × Int
  | 0 => (1, a, 0, n)
  | k + 1 => let s := pst n a k
    (s.2.2.1 - s.1 * (s.2.2.2 / s.2.1), s.2.2.2 - s.2.1 * (s.2.2.2 / s.2.1), s.1, s.2.1)
def Pr (p : Int) : Prop := p = 7 ∨ p = 11 ∨ p = 19 ∨ p = 23
def pOk (n a : Int) (k : Nat) : Bool := let s := pst n a k
  decide (-24 < s.1 ∧ s.1 < 24 ∧ 0 ≤ s.2.1 ∧ s.2.1 < 24 ∧ -24 < s.2.2.1 ∧ s.2.2.1 < 24 ∧ 0 < s.2.2.2 ∧ s.2.2.2 < 24) && (decide (k < 8) || !decide (1 < s.2.1)) && (decide (1 < s.2.1) || decide (s.1 % n = pinv n a))
theorem pall : ∀ n ∈ [(7 : Int), 11, 19, 23], ∀ a ∈ List.range 23, ∀ k ∈ List.range 9, (a = 0 ∨ n ≤ a ∨ (∃ j ∈ List.range k, ¬ 1 < (pst n a j).2.1) ∨ pOk n a k = true) := by decide +kernel
theorem pfacts {n a : Int} (hn : Pr n) (h0 : 0 ≤ a) (ha : a < n) (hne : a ≠ 0) {k : Nat} (hk : k ≤ 8) (hj : ∀ j, j < k → 1 < (pst n a j).2.1) :
    -24 < (pst n a k).1 ∧ (pst n a k).1 < 24 ∧ 0 ≤ (pst n a k).2.1 ∧ (pst n a k).2.1 < 24 ∧ -24 < (pst n a k).2.2.1 ∧ (pst n a k).2.2.1 < 24 ∧ 0 < (pst n a k).2.2.2 ∧ (pst n a k).2.2.2 < 24 ∧ (1 < (pst n a k).2.1 → k < 8) ∧ (¬ 1 < (pst n a k).2.1 → (pst n a k).1 % n = pinv n a) := by
  have hm : n ∈ [(7 : Int), 11, 19, 23] := by rcases hn with h | h | h | h <;> simp [h]
  have ha2 : a.toNat ∈ List.range 23 := by rw [List.mem_range]; rcases hn with h | h | h | h <;> omega
  have := pall n hm a.toNat ha2 k (List.mem_range.mpr (by omega))
  have e : ((a.toNat : Nat) : Int) = a := by omega
  rw [e] at this
  rcases this with h | h | ⟨j, hj1, hj2⟩ | h
  · omega
  · omega
  · exact absurd (hj j (List.mem_range.mp hj1)) hj2
  · simp only [pOk, Bool.and_eq_true, Bool.or_eq_true, decide_eq_true_eq, Bool.not_eq_true', decide_eq_false_iff_not] at h
    obtain ⟨⟨⟨c1, c2, c3, c4, c5, c6, c7, c8⟩, d1⟩, d2⟩ := h
    refine ⟨c1, c2, c3, c4, c5, c6, c7, c8, fun h => d1.resolve_right (fun q => q h), fun h => d2.resolve_left h⟩
theorem ppos : ∀ n ∈ [(7 : Int), 11, 19, 23], ∀ a ∈ List.range 23, a = 0 ∨ n ≤ a ∨ 0 < pinv n a := by decide +kernel
theorem pinv_pos {n a : Int} (hn : Pr n) (h0 : 0 < a) (ha : a < n) : 0 < pinv n a := by
  have hm : n ∈ [(7 : Int), 11, 19, 23] := by rcases hn with h | h | h | h <;> simp [h]
  have ha2 : a.toNat ∈ List.range 23 := by rw [List.mem_range]; rcases hn with h | h | h | h <;> omega
  have := ppos n hm a.toNat ha2
  have e : ((a.toNat : Nat) : Int) = a := by omega
  rw [e] at this
  rcases this with h | h | h
  · omega
  · omega
  · exact h
structure PfS where
  k : Nat
  t1 : Tok
  t2 : Tok
  t3 : Tok
  t4 : Tok
structure DPi where
  a : Int
  n : Int
abbrev cpfi : Told DPi where
  Rel := fun small vs d => ∃ ta tn, vs = [.int d.a ta, .int d.n tn] ∧ small = []
  Ok := fun d => Pr d.n ∧ 0 ≤ d.a ∧ d.a < d.n
  size := fun _ => 4
  Out := fun l r d => l = [] ∧ ∃ v t, r = .int v t ∧ v = pinv d.n d.a ∧ 0 ≤ v ∧ v < d.n ∧ (0 < d.a → 0 < v)
set_option maxRecDepth 100000 in
set_option maxHeartbeats 40000000 in
theorem does_pfi (w : World) (d : DPi) : Does w 77 cpfi d := by
  w_top off
  unfold Does
  k_fill
  intro p loose mean mg mb dp un gd cn cs a ccd cl outer A₀ base h₀ L m news small s vs Q E B F X N T hk hs hR hok hd hu hret
  obtain ⟨da, dn⟩ := d
  obtain ⟨ta, tn, rfl, rfl⟩ := hR
  dsimp only at *
  obtain ⟨hpr, ho2, ho3⟩ := hok
  have hlt : dn < 24 := by rcases hpr with h | h | h | h <;> omega
  have hgt : 6 < dn := by rcases hpr with h | h | h | h <;> omega
  have N0 := News.sub N hs
  refine wpAny_call ?_
  k_dflt (refine' code_M ?k1 ?k2 ?k3 N0 ?k5 ?kA ?kF ?kK ?k6 ?k7 ?k8 ?k9 ?kB ?_ ?c2 ?c3 ?c4 ?c5; (case kA => exact rfl); (case kF => exact rfl); (case kK => assumption); (case k1 => k_asm); (case k2 => k_asm); (case k3 => k_asm); (case k5 => k_asm); (case k6 => k_is); (case k7 => k_is); (case k8 => ktr_room); (case k9 => exact BindsTo.of_eq rfl); (case kB => exact locs rfl); (case c2 => exact rfl); (case c3 => exact rfl); (case c4 => exact rfl); (case c5 => decide); k_whole)
  intro g' L' h1' FG' F1' N1' B' X' T'; (try dsimp only); (try k_lift B'); (try k_fold)
  clear N0
  k_steps
  · (with_reducible rename (Int.fmod _ _ = 0) => hz)
    have ez : da = 0 := by rw [Int.fmod_eq_emod_of_nonneg _ (by omega), Int.emod_eq_of_lt ho2 ho3] at hz; exact hz
    subst ez
    refine' hret _ [] _ _ ?F (back N hs ?kN ?kK ?s1 ?s2) ⟨rfl, _, _, rfl, (by rcases hpr with h | h | h | h <;> (subst h; rfl)), Int.le_refl _, ho3, fun h => absurd h (Int.lt_irrefl _)⟩
    case kN => assumption
    case kK => assumption
    case F => assumption
    case s1 => exact Sub.nil
    case s2 => exact Sub.nil
  unfold Halt
  (with_reducible rename Fr _ _ _ _ => F9)
  (with_reducible rename News _ _ _ _ => N9)
  (with_reducible rename (Int.fmod _ _ ≠ 0) => hz)
  have ez : da.fmod dn = da := by rw [Int.fmod_eq_emod_of_nonneg _ (by omega)]; exact Int.emod_eq_of_lt ho2 ho3
  rw [ez] at F9 hz
  rw [ez] at F9
  refine' while_P (σ := PfS) (fun c => []) (fun c => [("lm", .int (pst dn da c.k).1 c.t1), ("low", .int (pst dn da c.k).2.1 c.t2), ("hm", .int (pst dn da c.k).2.2.1 c.t3), ("high", .int (pst dn da c.k).2.2.2 c.t4)])
    (fun c => c.k ≤ 8 ∧ ∀ j, j < c.k → 1 < (pst dn da j).2.1) ["r", "nm", "new"] (fun c => 9 - c.k) ⟨0, _, _, _, _⟩ F9 (News.sub N9 Sub.nil) ⟨?h8, ?hj⟩ ?hk ?turn
  case h8 => exact (by decide : 0 ≤ 8)
  case hj => intro j hj; exact absurd hj (Nat.not_lt_zero j)
  case hk => intro p hp; simp only [List.mem_cons, List.not_mem_nil, or_false] at hp; rcases hp with rfl | rfl | rfl | rfl <;> rfl
  case turn =>
  clear F9 N9
  intro c u h tk hf F' N'
  obtain ⟨k, t1, t2, t3, t4⟩ := c
  obtain ⟨h8, hj⟩ := hf
  dsimp only at h8 hj
  obtain ⟨b1, b2, b3, b4, b5, b6, b7, b8, hlt8, hend⟩ := pfacts hpr ho2 ho3 hz h8 hj
  have hst : pst dn da (k + 1) = ((pst dn da k).2.2.1 - (pst dn da k).1 * ((pst dn da k).2.2.2 / (pst dn da k).2.1), (pst dn da k).2.2.2 - (pst dn da k).2.1 * ((pst dn da k).2.2.2 / (pst dn da k).2.1), (pst dn da k).1, (pst dn da k).2.1) := rfl
  have hlo : (pst dn da k).2.1 = (pst dn da k).2.1 := rfl
  dsimp only [kstB] at *
  generalize hS : pst dn da k = S at *
  obtain ⟨lm, low, hm, high⟩ := S
  dsimp only at *
  k_steps
  · (with_reducible rename Fr _ _ _ _ => F8)
    (with_reducible rename News _ _ _ _ => N8)
    (with_reducible rename (1 < low) => hlow)
    have ed : high.fdiv low = high / low := Int.fdiv_eq_ediv_of_nonneg _ (by omega)
    simp only [ed] at F8
    refine' wendP ⟨k + 1, _, _, _, _⟩ F8 N8 Sub.nil ⟨?a, ?b⟩ ?hk ?hr ?hm
    case a => show k + 1 ≤ 8; have := hlt8 hlow; omega
    case b =>
      intro j hj'
      rcases Nat.lt_succ_iff_lt_or_eq.mp hj' with q | q
      · exact hj j q
      · subst q; rw [hS]; exact hlow
    case hk => intro p hp; dsimp only at hp; rw [hst] at hp; simp only [List.mem_cons, List.not_mem_nil, or_false] at hp; rcases hp with rfl | rfl | rfl | rfl <;> rfl
    case hr => ksw_same
    case hm => show 9 - (k + 1) < 9 - k; omega
  · (with_reducible rename (¬ 1 < low) => hlow)
    refine' hret _ [] _ _ ?F (back N hs ?kN ?kK ?s1 ?s2) ⟨rfl, _, _, rfl, (by rw [← hend hlow, Int.fmod_eq_emod_of_nonneg _ (by omega)]), Int.fmod_nonneg_of_pos _ (by omega), Int.fmod_lt_of_pos _ (by omega), fun h => (by rw [Int.fmod_eq_emod_of_nonneg _ (by omega), hend hlow]; exact pinv_pos hpr h ho3)⟩
    case kN => assumption
    case kK => assumption
    case F => assumption
    case s1 => exact Sub.nil
    case s2 => exact Sub.nil

end

section
local macro_rules | `(tactic| walk_at "pad 0") => `(tactic| fail)
local macro_rules | `(tactic| walk_at "pad 1") => `(tactic| fail)
local macro_rules | `(tactic| walk_at "pad 2") => `(tactic| fail)
local macro_rules | `(tactic| walk_at "pad 3") => `(tactic| fail)
local macro_rules | `(tactic| walk_at "pad 4") => `(tactic| fail)
local macro_rules | `(tactic| walk_at "pad 5") => `(tactic| fail)
open PySem PySem.W PySem.Calls PyProof.Rows
-- the walk's own lines

local macro_rules | `(tactic| walk_at "execs cons") => `(tactic| (k_here; (with_reducible rename News _ _ _ (List.cons (Prod.mk _ (listOf (List.toArray (List.flatten _)) _)) _) => nN'); (simp only [Int.reduceMul, Int.reduceSub, Int.reduceAdd, Int.reduceToNat, Nat.reduceAdd, Int.cast_ofNat_Int, List.replicate, List.flatten_cons, List.flatten_nil, List.set_cons_zero, List.set_cons_succ, List.append_nil, List.cons_append, List.nil_append, List.dropLast_cons_cons, List.dropLast, List.getD_cons_zero, List.getD_cons_succ, Int.zero_add, Int.add_zero] at nN'); walk_at "execs cons"))

-- containments, the table's place

-- quicker lines
local macro_rules | `(tactic| walk_at "setItem ref int") => `(tactic| (k_here; (with_reducible show wpAny _ _ (PySem.setItem (Value.ref _) (Value.int _ _) (Value.int _ _)) _ _ _); (refine gen_set ?_; intro z' tz' hz'); k_dflt (refine' ki_set ?F ?N ?a ?b ?e ?U ?_; (case F => k_asm); (case N => k_asm); (case U => k_upd); (case a => decide); (case b => decide); (case e => rfl)); intro h' F' N'; (try dsimp only [List.nil_append, List.cons_append] at N'); (try k_sweep)))
local macro_rules | `(tactic| walk_at "pyIter ref") => `(tactic| ((with_reducible show wpAny _ _ (pyIter (Value.ref _)) (fun it s₂ => LoopAtV _ _ _ _ _ _ _ _ _ it s₂) _ _); k_here; k_dflt (l_hasStore; krs_unr)))
local macro_rules | `(tactic| walk_at "UnrEndW") => `(tactic| (k_dflt ktu_end))
local macro_rules | `(tactic| walk_at "exec AugAssign Subscript") => `(tactic| (k_dflt (refine wpAny_AugAssign_SubscriptAny ?_)))

local macro_rules | `(tactic| kas_types) => `(tactic| first | (with_reducible exact List.mem_cons_self) | ((with_reducible refine List.mem_cons_of_mem _ ?_); kas_types) | ((with_reducible refine List.mem_append_left _ ?_); kas_types) | ((with_reducible refine List.mem_append_right _ ?_); kas_types) | (with_reducible assumption))
local macro_rules | `(tactic| k_mem) => `(tactic| kas_types)

def deg3 (a b c : Int) : Int := if c = 0 then (if b = 0 then 0 else 1) else 2
structure DL3 where
  a : Int
  b : Int
  c : Int
abbrev cdeg : Told DL3 where
  Rel := fun small vs d => ∃ l ta tb tc n, vs = [.ref l] ∧ small = [(l, lstO [.int d.a ta, .int d.b tb, .int d.c tc] n)]
  Ok := fun _ => True
  size := fun _ => 4
  Out := fun l r d => l = [] ∧ ∃ t, r = .int (deg3 d.a d.b d.c) t
set_option maxRecDepth 100000 in
set_option maxHeartbeats 40000000 in
theorem does_deg (w : World) (d : DL3) : Does w 84 cdeg d := by
  w_top off
  unfold Does
  k_fill
  intro p loose mean mg mb dp un gd cn cs a ccd cl outer A₀ base h₀ L m news small s vs Q E B F X N T hk hs hR hok hd hu hret
  obtain ⟨da, db, dc⟩ := d
  obtain ⟨l, ta, tb, tc, n, rfl, rfl⟩ := hR
  dsimp only at *
  have N0 := News.sub N hs
  refine wpAny_call ?_
  k_dflt (refine' code_M ?k1 ?k2 ?k3 N0 ?k5 ?kA ?kF ?kK ?k6 ?k7 ?k8 ?k9 ?kB ?_ ?c2 ?c3 ?c4 ?c5; (case kA => exact rfl); (case kF => exact rfl); (case kK => assumption); (case k1 => k_asm); (case k2 => k_asm); (case k3 => k_asm); (case k5 => k_asm); (case k6 => k_is); (case k7 => k_is); (case k8 => ktr_room); (case k9 => exact BindsTo.of_eq rfl); (case kB => exact locs rfl); (case c2 => exact rfl); (case c3 => exact rfl); (case c4 => exact rfl); (case c5 => decide); k_whole)
  intro g' L' h1' FG' F1' N1' B' X' T'; (try dsimp only); (try k_lift B'); (try k_fold)
  clear N0
  k_steps
  all_goals (
    refine' hret _ [] _ _ ?F (back N hs ?kN ?kK ?s1 ?s2) ?out
    case kN => assumption
    case kK => assumption
    case F => assumption
    case out => exact ⟨rfl, _, congrArg (fun z => Value.int z _) (by (try simp only [Int.reduceSub, Int.reduceToNat, List.getD_cons_zero, List.getD_cons_succ] at *); unfold deg3; (repeat' split) <;> omega)⟩
    case s2 => exact Sub.nil
    case s1 => kd_subs)

theorem does_deg2 (w : World) (d : DL3) : Does w 84 { cdeg with Ok := fun d => d.c ≠ 0, Out := fun l r _ => l = [] ∧ ∃ t, r = .int 2 t } d :=
  (does_deg w d).mono (fun _ => trivial) fun ok l r o => ⟨o.1, by obtain ⟨_, t, e⟩ := o; exact ⟨t, by rw [e, deg3, if_neg ok]⟩⟩
theorem does_deg1 (w : World) (d : DL3) : Does w 84 { cdeg with Ok := fun d => d.c = 0 ∧ d.b ≠ 0, Out := fun l r _ => l = [] ∧ ∃ t, r = .int 1 t } d :=
  (does_deg w d).mono (fun _ => trivial) fun ok l r o => ⟨o.1, by obtain ⟨_, t, e⟩ := o; exact ⟨t, by rw [e, deg3, if_pos ok.1, if_neg ok.2]⟩⟩
theorem does_deg0 (w : World) (d : DL3) : Does w 84 { cdeg with Ok := fun d => d.c = 0 ∧ d.b = 0, Out := fun l r _ => l = [] ∧ ∃ t, r = .int 0 t } d :=
  (does_deg w d).mono (fun _ => trivial) fun ok l r o => ⟨o.1, by obtain ⟨_, t, e⟩ := o; exact ⟨t, by rw [e, deg3, if_pos ok.1, if_pos ok.2]⟩⟩

end

section
open PySem PySem.W PySem.Calls PyProof.Rows
abbrev T3 : Type := Int × Int × Int
def istep (p : Int) (s : T3 × T3 × T3 × T3) : T3 × T3 × T3 × T3 :=
  let lm := s.1
  let hm := s.2.1
  let low := s.2.2.1
  let high := s.2.2.2
  let v := pinv p low.2.1
  let r0 := high.2.1 * v % p
  let r1 := high.2.2 * v % p
  (((hm.1 - lm.1 * r0) % p, (hm.2.1 - lm.1 * r1 - lm.2.1 * r0) % p, (hm.2.2 - lm.1 * 0 - lm.2.1 * r1 - lm.2.2 * r0) % p), lm,
   ((high.1 - low.1 * r0) % p, (high.2.1 - low.1 * r1 - low.2.1 * r0) % p, (high.2.2 - low.1 * 0 - low.2.1 * r1 - low.2.2 * r0) % p), low)
def ist (p : Int) (z : Int × Int) : Nat → T3 × T3 × T3 × T3
  | 0 => ((1, 0, 0), (0, 0, 0), (z.1, z.2, 0), (1, 0, 1))
  | k + 1 => istep p (ist p z k)
def invF (p : Int) (z : Int × Int) : Int × Int := (z.1 * pinv p ((z.1 * z.1 + z.2 * z.2) % p) % p, -z.2 * pinv p ((z.1 * z.1 + z.2 * z.2) % p) % p)
def in0 (p a : Int) : Bool := decide (0 ≤ a) && decide (a < p)
def in3 (p : Int) (t : T3) : Bool := in0 p t.1 && (in0 p t.2.1 && in0 p t.2.2)
def igood (p : Int) (z : Int × Int) (s : T3 × T3 × T3 × T3) : Bool :=
  in3 p s.1 && (in3 p s.2.1 && (in3 p s.2.2.1 && (in3 p s.2.2.2 && (decide (s.2.2.1.2.2 = 0) &&
    ((decide (s.2.2.1.2.1 = 0) || (decide (0 < s.2.2.2.2.2) || (decide (s.2.2.2.2.2 = 0) && decide (0 < s.2.2.2.2.1)))) &&
     (!decide (s.2.2.1.2.1 = 0) || (decide (0 < s.2.2.1.1) && decide (smulF p (pinv p s.2.2.1.1) (s.1.1 % p, s.1.2.1 % p) = invF p z))))))))
def iOk (p : Int) (z : Int × Int) (s : T3 × T3 × T3 × T3) : Nat → Bool
  | 0 => igood p z s && decide (s.2.2.1.2.1 = 0)
  | k + 1 => igood p z s && (decide (s.2.2.1.2.1 = 0) || iOk p z (istep p s) k)
def iChk (n : Nat) : Bool := (List.range n).all fun a => (List.range n).all fun b => (a == 0 && b == 0) || iOk n (a, b) (ist n (a, b) 0) 2
theorem iChk7 : iChk 7 = true := by decide +kernel
theorem iChk11 : iChk 11 = true := by decide +kernel
theorem iChk19 : iChk 19 = true := by decide +kernel
theorem iChk23 : iChk 23 = true := by decide +kernel
theorem iall {p : Int} (hp : Pr p) {z : Int × Int} (h1 : 0 ≤ z.1) (h2 : z.1 < p) (h3 : 0 ≤ z.2) (h4 : z.2 < p) (hz : z ≠ (0, 0)) : iOk p z (ist p z 0) 2 = true := by
  have key : ∀ n : Nat, iChk n = true → p = n → iOk p z (ist p z 0) 2 = true := by
    rintro n hn rfl
    have ha := List.all_eq_true.mp (List.all_eq_true.mp hn z.1.toNat (List.mem_range.mpr (by omega))) z.2.toNat (List.mem_range.mpr (by omega))
    have e1 : ((z.1.toNat : Nat) : Int) = z.1 := by omega
    have e2 : ((z.2.toNat : Nat) : Int) = z.2 := by omega
    rw [e1, e2] at ha
    rcases Bool.or_eq_true_iff.mp ha with h | h
    · rw [Bool.and_eq_true, beq_iff_eq, beq_iff_eq] at h
      exact absurd (Prod.ext (by show z.1 = 0; omega) (by show z.2 = 0; omega)) hz
    · exact h
  rcases hp with rfl | rfl | rfl | rfl
  · exact key 7 iChk7 rfl
  · exact key 11 iChk11 rfl
  · exact key 19 iChk19 rfl
  · exact key 23 iChk23 rfl
theorem iOk_good {p : Int} {z : Int × Int} {s : T3 × T3 × T3 × T3} : ∀ {k : Nat}, iOk p z s k = true → igood p z s = true
  | 0, h => (Bool.and_eq_true_iff.mp h).1
  | _ + 1, h => (Bool.and_eq_true_iff.mp h).1
theorem iOk_step {p : Int} {z : Int × Int} {s : T3 × T3 × T3 × T3} {k : Nat} (h : iOk p z s k = true) (hn : s.2.2.1.2.1 ≠ 0) : ∃ k', k = k' + 1 ∧ iOk p z (istep p s) k' = true := by
  cases k with
  | zero => exact absurd (of_decide_eq_true (Bool.and_eq_true_iff.mp h).2) hn
  | succ k => exact ⟨k, rfl, (Bool.or_eq_true_iff.mp (Bool.and_eq_true_iff.mp h).2).resolve_left fun q => hn (of_decide_eq_true q)⟩
def In0 (p a : Int) : Prop := 0 ≤ a ∧ a < p
def In3 (p : Int) (t : T3) : Prop := In0 p t.1 ∧ In0 p t.2.1 ∧ In0 p t.2.2
theorem in0_ {p a : Int} (h : in0 p a = true) : In0 p a := by simpa [in0, In0] using h
theorem in3_ {p : Int} {t : T3} (h : in3 p t = true) : In3 p t := by
  obtain ⟨a, h⟩ := Bool.and_eq_true_iff.mp h
  obtain ⟨b, c⟩ := Bool.and_eq_true_iff.mp h
  exact ⟨in0_ a, in0_ b, in0_ c⟩
theorem igood_ {p : Int} {z : Int × Int} {s : T3 × T3 × T3 × T3} (h : igood p z s = true) :
    In3 p s.1 ∧ In3 p s.2.1 ∧ In3 p s.2.2.1 ∧ In3 p s.2.2.2 ∧ s.2.2.1.2.2 = 0 ∧ (s.2.2.1.2.1 = 0 ∨ 0 < s.2.2.2.2.2 ∨ (s.2.2.2.2.2 = 0 ∧ 0 < s.2.2.2.2.1)) ∧
      (s.2.2.1.2.1 = 0 → 0 < s.2.2.1.1 ∧ smulF p (pinv p s.2.2.1.1) (s.1.1 % p, s.1.2.1 % p) = invF p z) := by
  simp only [igood, Bool.and_eq_true, Bool.or_eq_true, Bool.not_eq_true', decide_eq_true_eq, decide_eq_false_iff_not] at h
  obtain ⟨a, b, c, d, e, f, g⟩ := h
  exact ⟨in3_ a, in3_ b, in3_ c, in3_ d, e, f, fun q => g.resolve_left fun r => r q⟩

end

section
local macro_rules | `(tactic| walk_at "pad 0") => `(tactic| fail)
local macro_rules | `(tactic| walk_at "pad 1") => `(tactic| fail)
local macro_rules | `(tactic| walk_at "pad 2") => `(tactic| fail)
local macro_rules | `(tactic| walk_at "pad 3") => `(tactic| fail)
open PySem PySem.W PySem.Calls PyProof.Rows
-- the walk's own lines

local macro_rules | `(tactic| walk_at "execs cons") => `(tactic| (k_here; (with_reducible rename News _ _ _ (List.cons (Prod.mk _ (listOf (List.toArray (List.flatten _)) _)) _) => nN'); (simp only [Int.reduceMul, Int.reduceSub, Int.reduceAdd, Int.reduceToNat, Nat.reduceAdd, Int.cast_ofNat_Int, List.replicate, List.flatten_cons, List.flatten_nil, List.set_cons_zero, List.set_cons_succ, List.append_nil, List.cons_append, List.nil_append, List.dropLast_cons_cons, List.dropLast, List.getD_cons_zero, List.getD_cons_succ, Int.zero_add, Int.add_zero] at nN'); walk_at "execs cons"))

-- containments, the table's place

-- quicker lines
local macro_rules | `(tactic| walk_at "setItem ref int") => `(tactic| (k_here; (with_reducible show wpAny _ _ (PySem.setItem (Value.ref _) (Value.int _ _) (Value.int _ _)) _ _ _); (refine gen_set ?_; intro z' tz' hz'); k_dflt (refine' ki_set ?F ?N ?a ?b ?e ?U ?_; (case F => k_asm); (case N => k_asm); (case U => k_upd); (case a => decide); (case b => decide); (case e => rfl)); intro h' F' N'; (try dsimp only [List.nil_append, List.cons_append] at N'); (try k_sweep)))
local macro_rules | `(tactic| walk_at "pyIter ref") => `(tactic| ((with_reducible show wpAny _ _ (pyIter (Value.ref _)) (fun it s₂ => LoopAtV _ _ _ _ _ _ _ _ _ it s₂) _ _); k_here; k_dflt (l_hasStore; krs_unr)))
local macro_rules | `(tactic| walk_at "UnrEndW") => `(tactic| (k_dflt ktu_end))
local macro_rules | `(tactic| walk_at "exec AugAssign Subscript") => `(tactic| (k_dflt (refine wpAny_AugAssign_SubscriptAny ?_)))

local macro_rules | `(tactic| walk_at "exec Assign cons ListComp") => `(tactic| (k_here; k_dflt (refine' Assign_ListComp_M _ ?k1 ?kL ?kw ?k2 ?k3 ?k4 ?k5 ?hb ?ky ?kp ?_ ?k6; (case k1 => k_asm); (case kL => exact rfl); (case kw => with_unfolding_all rfl); (case k2 => with_unfolding_all rfl); (case k3 => decide); (case k4 => rfl); (case k5 => decide); (case hb => ktn_open); (case ky => with_unfolding_all rfl); (case kp => with_unfolding_all rfl); (case k6 => intro _; with_unfolding_all rfl); k_whole)))
local macro_rules | `(tactic| walk_at "CFinA") => `(tactic| ((with_reducible show CFinA _ _ _ _ _ _ _ _ _); (unfold CFinA); intro D' h' tk' F' N' o1' l1; (try clear o1'); (try k_lt l1); (try simp only [List.nil_append, List.cons_append] at N'); (try dsimp only); (try k_sweep)))
local macro_rules | `(tactic| walk_at "UnrEnd") => `(tactic| (k_dflt (first | krn_end | ktu_endR)))

local macro_rules | `(tactic| walk_at "call ref") => `(tactic| (k_here; (with_reducible show wpAny _ _ (call (Value.ref 223) _) _ _ _); k_dflt (refine' DoesG.use (does_made _ ⟨_, _, _, _⟩) ?zB ?zF ?zX ?zN ?zU ?zP ?zG ?zT ?zk ?zs ?zn ⟨_, _, _, _, _, _, rfl, rfl, ?zq, ?zr⟩ ?zo ?zd ?zu ?_; (case zk => first | exact rfl | assumption); (case zB => k_asm); (case zF => k_asm); (case zX => k_asm); (case zN => k_asm); (case zT => k_asm); (case zq => assumption); (case zr => kd_adr); (case zs => kd_subs); (case zP => first | assumption | exact ⟨_, rfl, by assumption⟩); (case zG => k_asm); (case zn => kd_p); (case zU => k_updF); (case zo => (first | ((dsimp only); assumption) | fail "Ok")); (case zd => kd_p1); (case zu => kd_p1)); intro r' l' h' g' tk' oP' hP' F' N' nl' G' O'; (try dsimp only at N'); (try dsimp only at O'); (obtain ⟨x', d', es', e9', m1', m2'⟩ := FQ.has O'); subst e9'; (try dsimp only [PySem.W.CmpBack]); (try k_sweep)))

local macro_rules | `(tactic| walk_at "call ref") => `(tactic| (k_here; (with_reducible show wpAny _ _ (call (Value.ref 77) _) _ _ _); k_dflt (first | (refine' Does.use (does_pfi _ ⟨_, _⟩) ?zB ?zF ?zX ?zN ?zT ?zk ?zs ⟨_, _, rfl, rfl⟩ ?zo ?zd ?zu ?_; (case zk => first | exact rfl | assumption); (case zN => k_asm); (case zs => kd_subs); (case zo => (dsimp only; exact ⟨by assumption, by omega, by omega⟩)); (case zB => k_asm); (case zF => k_asm); (case zX => k_asm); (case zT => k_asm); (case zd => kd_p1); (case zu => kd_p1))); intro r' l' h' tk' F' N' O'; (try dsimp only at O'); (obtain ⟨e1', v', t', e2', ev', lv', gv', pv'⟩ := O'); subst e1'; subst e2'; (try simp only [List.nil_append] at N'); (try (replace pv' := pv' (by first | assumption | omega))); (try k_sweep)))

abbrev cdivI : Told DInt where
  Rel := RelInt
  Ok := fun d => Pr d.p ∧ 0 ≤ d.k ∧ d.k < d.p
  size := fun _ => 16
  Out := fun l r d => FQ d.p l r (smulF d.p (pinv d.p d.k) d.x)
set_option maxRecDepth 100000 in
set_option maxHeartbeats 40000000 in
theorem does_divI (w : World) (d : DInt) : DoesG w 137 cdivI d := by
  w_top off
  unfold DoesG
  k_fill
  intro p loose mean mg mb dp un gd cn cs a ccd cl outer A₀ base h₀ L m news small oP s vs Q E B F X N hP nP G T hk hs hR hok hd hu hret
  obtain ⟨dp, x, k⟩ := d
  obtain ⟨v1, tk, rfl, hq⟩ := hR
  dsimp only at *
  have hb := hq.bd
  have hn := hq.off
  have hq0 := hq
  cases hq
  (try simp only [LCg.Off1, and_true] at hn)
  obtain ⟨_, _, _, _, _, _⟩ := hn
  obtain ⟨hpr, ho2, ho3⟩ := hok
  have hlt : dp < 24 := by rcases hpr with h | h | h | h <;> omega
  have hgt : 6 < dp := by rcases hpr with h | h | h | h <;> omega
  have N0 := News.sub N (Sub.cons (q := (93, oP)) (.head _) (Sub.tail hs))
  refine wpAny_call ?_
  k_dflt (refine' code_MC ?k1 ?k2 ?k3 N0 ?k5 ?kA ?kF ?kK ?k6 ?k7 ?k8 ?k9 ?kB ?kD ?_ ?c2 ?c3 ?c4; (case kA => exact rfl); (case kF => exact rfl); (case kK => assumption); (case k1 => k_asm); (case k2 => k_asm); (case k3 => k_asm); (case k5 => k_asm); (case k6 => k_is); (case k7 => k_is); (case k8 => ktr_room); (case k9 => exact BindsTo.of_eq rfl); (case kB => exact rfl); (case kD => decide +kernel); (case c2 => exact rfl); (case c3 => exact rfl); (case c4 => exact rfl); k_whole)
  intro g' L' h1' tk' cells' FG' F1' N1' Y' B' X' T' l1; (replace l1 := allLt_of l1); (simp only [AllLt, and_true] at l1)
  obtain ⟨oc, oc2, hE, dc, dc2⟩ := CellsAre.two Y'
  subst hE
  (try simp only [List.cons_append, List.nil_append] at N1'); (try dsimp only); (try k_lift B'); (try k_fold)
  clear N0
  k_steps
  all_goals (
    refine' hret _ _ _ _ _ _ ?tab ?F (backG N nP hs ?kN ?kK ?s1 ?s2 ?s3) ?np ?G ?out
    case kN => assumption
    case kK => assumption
    case F => assumption
    case out => exact FQ.cast (by assumption) (Prod.ext (by (repeat ((with_reducible rename (@Eq Int _ _) => e9); (first | subst e9 | clear e9))); exact fm (p := dp) (by omega) rfl) (by (repeat ((with_reducible rename (@Eq Int _ _) => e9); (first | subst e9 | clear e9))); exact fm (p := dp) (by omega) rfl))
    case s2 => kd_subs
    case s3 => k_mem
    case s1 => kd_subs
    case tab => assumption
    case G => assumption
    case np => kd_p)

end

section
local macro_rules | `(tactic| walk_at "pad 0") => `(tactic| fail)
local macro_rules | `(tactic| walk_at "pad 1") => `(tactic| fail)
local macro_rules | `(tactic| walk_at "pad 2") => `(tactic| fail)
local macro_rules | `(tactic| walk_at "pad 3") => `(tactic| fail)
local macro_rules | `(tactic| walk_at "pad 4") => `(tactic| fail)
local macro_rules | `(tactic| walk_at "pad 5") => `(tactic| fail)
local macro_rules | `(tactic| walk_at "pad 6") => `(tactic| fail)
open PySem PySem.W PySem.Calls PyProof.Rows
-- the walk's own lines

local macro_rules | `(tactic| walk_at "execs cons") => `(tactic| (k_here; (with_reducible rename News _ _ _ (List.cons (Prod.mk _ (listOf (List.toArray (List.flatten _)) _)) _) => nN'); (simp only [Int.reduceMul, Int.reduceSub, Int.reduceAdd, Int.reduceToNat, Nat.reduceAdd, Int.cast_ofNat_Int, List.replicate, List.flatten_cons, List.flatten_nil, List.set_cons_zero, List.set_cons_succ, List.append_nil, List.cons_append, List.nil_append, List.dropLast_cons_cons, List.dropLast, List.getD_cons_zero, List.getD_cons_succ, Int.zero_add, Int.add_zero] at nN'); walk_at "execs cons"))

-- containments, the table's place

-- quicker lines
local macro_rules | `(tactic| walk_at "setItem ref int") => `(tactic| (k_here; (with_reducible show wpAny _ _ (PySem.setItem (Value.ref _) (Value.int _ _) (Value.int _ _)) _ _ _); (refine gen_set ?_; intro z' tz' hz'); k_dflt (refine' ki_set ?F ?N ?a ?b ?e ?U ?_; (case F => k_asm); (case N => k_asm); (case U => k_upd); (case a => decide); (case b => decide); (case e => rfl)); intro h' F' N'; (try dsimp only [List.nil_append, List.cons_append] at N'); (try k_sweep)))
local macro_rules | `(tactic| walk_at "pyIter ref") => `(tactic| ((with_reducible show wpAny _ _ (pyIter (Value.ref _)) (fun it s₂ => LoopAtV _ _ _ _ _ _ _ _ _ it s₂) _ _); k_here; k_dflt (l_hasStore; krs_unr)))
local macro_rules | `(tactic| walk_at "UnrEndW") => `(tactic| (k_dflt ktu_end))
local macro_rules | `(tactic| walk_at "exec AugAssign Subscript") => `(tactic| (k_dflt (refine wpAny_AugAssign_SubscriptAny ?_)))

local macro_rules | `(tactic| walk_at "exec Assign cons ListComp") => `(tactic| (k_here; k_dflt (refine' Assign_ListComp_M _ ?k1 ?kL ?kw ?k2 ?k3 ?k4 ?k5 ?hb ?ky ?kp ?_ ?k6; (case k1 => k_asm); (case kL => exact rfl); (case kw => with_unfolding_all rfl); (case k2 => with_unfolding_all rfl); (case k3 => decide); (case k4 => rfl); (case k5 => decide); (case hb => ktn_open); (case ky => with_unfolding_all rfl); (case kp => with_unfolding_all rfl); (case k6 => intro _; with_unfolding_all rfl); k_whole)))
local macro_rules | `(tactic| walk_at "CFinA") => `(tactic| ((with_reducible show CFinA _ _ _ _ _ _ _ _ _); (unfold CFinA); intro D' h' tk' F' N' o1' l1; (try clear o1'); (try k_lt l1); (try simp only [List.nil_append, List.cons_append] at N'); (try dsimp only); (try k_sweep)))
local macro_rules | `(tactic| walk_at "UnrEnd") => `(tactic| (k_dflt (first | krn_end | ktu_endR)))

local macro_rules | `(tactic| kas_types) => `(tactic| first | (with_reducible exact List.mem_cons_self) | ((with_reducible refine List.mem_cons_of_mem _ ?_); kas_types) | ((with_reducible refine List.mem_append_left _ ?_); kas_types) | ((with_reducible refine List.mem_append_right _ ?_); kas_types) | (with_reducible assumption))
local macro_rules | `(tactic| k_mem) => `(tactic| kas_types)

local macro_rules | `(tactic| walk_at "call ref") => `(tactic| (k_here; (with_reducible show wpAny _ _ (call (Value.ref 84) _) _ _ _); k_dflt (first | (refine' Does.use (does_deg2 _ ⟨_, _, _⟩) ?zB ?zF ?zX ?zN ?zT ?zk ?zs ⟨_, _, _, _, _, rfl, rfl⟩ ?zo ?zd ?zu ?_; (case zk => first | exact rfl | assumption); (case zN => k_asm); (case zs => kd_subs); (case zo => ((dsimp only; first | assumption | decide | omega))); (case zB => k_asm); (case zF => k_asm); (case zX => k_asm); (case zT => k_asm); (case zd => kd_p1); (case zu => kd_p1)) | (refine' Does.use (does_deg1 _ ⟨_, _, _⟩) ?zB ?zF ?zX ?zN ?zT ?zk ?zs ⟨_, _, _, _, _, rfl, rfl⟩ ?zo ?zd ?zu ?_; (case zk => first | exact rfl | assumption); (case zN => k_asm); (case zs => kd_subs); (case zo => ((dsimp only; exact ⟨by first | assumption | rfl | omega, by first | assumption | decide | omega | exact nz_of (by assumption) (by assumption) (by assumption)⟩))); (case zB => k_asm); (case zF => k_asm); (case zX => k_asm); (case zT => k_asm); (case zd => kd_p1); (case zu => kd_p1)) | (refine' Does.use (does_deg0 _ ⟨_, _, _⟩) ?zB ?zF ?zX ?zN ?zT ?zk ?zs ⟨_, _, _, _, _, rfl, rfl⟩ ?zo ?zd ?zu ?_; (case zk => first | exact rfl | assumption); (case zN => k_asm); (case zs => kd_subs); (case zo => ((dsimp only; exact ⟨by first | assumption | rfl | omega, by first | assumption | rfl | omega⟩))); (case zB => k_asm); (case zF => k_asm); (case zX => k_asm); (case zT => k_asm); (case zd => kd_p1); (case zu => kd_p1)) | (refine' Does.use (does_deg _ ⟨_, _, _⟩) ?zB ?zF ?zX ?zN ?zT ?zk ?zs ⟨_, _, _, _, _, rfl, rfl⟩ ?zo ?zd ?zu ?_; (case zk => first | exact rfl | assumption); (case zN => k_asm); (case zs => kd_subs); (case zo => (exact True.intro)); (case zB => k_asm); (case zF => k_asm); (case zX => k_asm); (case zT => k_asm); (case zd => kd_p1); (case zu => kd_p1))); intro r' l' h' tk' F' N' O'; (try dsimp only at O'); (obtain ⟨e1', t', e2'⟩ := O'); subst e1'; subst e2'; (try simp only [List.nil_append] at N'); (try k_sweep)))

local macro_rules | `(tactic| walk_at "call ref") => `(tactic| (k_here; (with_reducible show wpAny _ _ (call (Value.ref 77) _) _ _ _); k_dflt (first | (refine' Does.use (does_pfi _ ⟨_, _⟩) ?zB ?zF ?zX ?zN ?zT ?zk ?zs ⟨_, _, rfl, rfl⟩ ?zo ?zd ?zu ?_; (case zk => first | exact rfl | assumption); (case zN => k_asm); (case zs => kd_subs); (case zo => (dsimp only; exact ⟨by assumption, by omega, by omega⟩)); (case zB => k_asm); (case zF => k_asm); (case zX => k_asm); (case zT => k_asm); (case zd => kd_p1); (case zu => kd_p1))); intro r' l' h' tk' F' N' O'; (try dsimp only at O'); (obtain ⟨e1', v', t', e2', ev', lv', gv', pv'⟩ := O'); subst e1'; subst e2'; (try simp only [List.nil_append] at N'); (try (replace pv' := pv' (by first | assumption | omega))); (try k_sweep)))

structure DPd where
  p : Int
  z : Int × Int
  a : Int
  b : Int
  c : Int
  e : Int
  f : Int
abbrev RelPd (small : List (Addr × Obj)) (vs : List Value) (d : DPd) : Prop :=
  ∃ x la lb ta tb tc te tf tg n n' lx, vs = [.ref x, .ref la, .ref lb] ∧ small = (la, lstO [.int d.a ta, .int d.b tb, .int d.c tc] n) :: (lb, lstO [.int d.e te, .int d.f tf, .int 0 tg] n') :: lx ∧ FQ d.p lx (.ref x) d.z
abbrev OkPd (d : DPd) : Prop := Pr d.p ∧ (0 ≤ d.a ∧ d.a < d.p) ∧ (0 ≤ d.b ∧ d.b < d.p) ∧ (0 ≤ d.c ∧ d.c < d.p) ∧ (0 ≤ d.e ∧ d.e < d.p) ∧ (0 < d.f ∧ d.f < d.p)
abbrev cpd2 : Told DPd where
  Rel := RelPd
  Ok := fun d => OkPd d ∧ 0 < d.c
  size := fun _ => 8
  Out := fun l r d => ∃ D r0 r1 t0 t1 n, r = .ref D ∧ l = [(D, lstO [.int r0 t0, .int r1 t1] n)] ∧ r0 = d.b * pinv d.p d.f % d.p ∧ r1 = d.c * pinv d.p d.f % d.p ∧ 0 ≤ r0 ∧ r0 < d.p ∧ 0 ≤ r1 ∧ r1 < d.p
abbrev cpd1 : Told DPd where
  Rel := RelPd
  Ok := fun d => OkPd d ∧ d.c = 0 ∧ 0 < d.b
  size := fun _ => 8
  Out := fun l r d => ∃ D r0 t0 n, r = .ref D ∧ l = [(D, lstO [.int r0 t0] n)] ∧ r0 = d.b * pinv d.p d.f % d.p ∧ 0 ≤ r0 ∧ r0 < d.p
set_option maxRecDepth 100000 in
set_option maxHeartbeats 40000000 in
theorem does_pd2 (w : World) (d : DPd) : Does w 149 cpd2 d := by
  w_top off
  unfold Does
  k_fill
  intro p loose mean mg mb dp un gd cn cs a ccd cl outer A₀ base h₀ L m news small s vs Q E B F X N T hk hs hR hok hd hu hret
  obtain ⟨dp, z, qa, qb, qc, qe, qf⟩ := d
  obtain ⟨x, la, lb, ta, tb, tc, te, tf, tg, n, n', lx, rfl, rfl, hq⟩ := hR
  dsimp only at *
  dsimp only [OkPd] at hok
  obtain ⟨⟨hpr, ⟨a1, a2⟩, ⟨a3, a4⟩, ⟨a5, a6⟩, ⟨a7, a8⟩, ⟨a9, a10⟩⟩, hc⟩ := hok
  have hlt : dp < 24 := by rcases hpr with h | h | h | h <;> omega
  have hgt : 6 < dp := by rcases hpr with h | h | h | h <;> omega
  have hf0 : qf ≠ 0 := by omega
  cases hq
  have hc0 : qc ≠ 0 := by omega
  have N0 := News.sub N hs
  refine wpAny_call ?_
  k_dflt (refine' code_MC ?k1 ?k2 ?k3 N0 ?k5 ?kA ?kF ?kK ?k6 ?k7 ?k8 ?k9 ?kB ?kD ?_ ?c2 ?c3 ?c4; (case kA => exact rfl); (case kF => exact rfl); (case kK => assumption); (case k1 => k_asm); (case k2 => k_asm); (case k3 => k_asm); (case k5 => k_asm); (case k6 => k_is); (case k7 => k_is); (case k8 => ktr_room); (case k9 => exact BindsTo.of_eq rfl); (case kB => exact rfl); (case kD => decide +kernel); (case c2 => exact rfl); (case c3 => exact rfl); (case c4 => exact rfl); k_whole)
  intro g' L' h1' tk' cells' FG' F1' N1' Y' B' X' T' l1; (replace l1 := allLt_of l1); (simp only [AllLt, and_true] at l1)
  obtain ⟨oc, hE, dc⟩ := CellsAre.one Y'
  subst hE
  (try simp only [List.cons_append, List.nil_append] at N1'); (try dsimp only); (try k_lift B'); (try k_fold)
  clear N0
  k_steps
  all_goals (
    refine' hret _ [_] _ _ ?F (back N hs ?kN ?kK ?s1 (Sub.cons (.head _) Sub.nil)) ⟨_, _, _, _, _, _, rfl, rfl, ?e0, ?e1, ?b0, ?c0, ?b1, ?c1⟩
    case kN => assumption
    case kK => assumption
    case F => assumption
    case e0 => ((repeat ((with_reducible rename (@Eq Int _ _) => e9); (first | subst e9 | clear e9))); rw [Int.fmod_eq_emod_of_nonneg _ (by omega)]; refine congrArg (· % dp) ?_; simp)
    case e1 => ((repeat ((with_reducible rename (@Eq Int _ _) => e9); (first | subst e9 | clear e9))); rw [Int.fmod_eq_emod_of_nonneg _ (by omega)]; refine congrArg (· % dp) ?_; simp)
    case b0 => exact Int.fmod_nonneg_of_pos _ (by omega)
    case c0 => exact Int.fmod_lt_of_pos _ (by omega)
    case b1 => exact Int.fmod_nonneg_of_pos _ (by omega)
    case c1 => exact Int.fmod_lt_of_pos _ (by omega)
    case s1 => kd_subs)

end

section
open PySem PySem.W PySem.Calls PyProof.Rows
-- the walk's own lines

local macro_rules | `(tactic| walk_at "execs cons") => `(tactic| (k_here; (with_reducible rename News _ _ _ (List.cons (Prod.mk _ (listOf (List.toArray (List.flatten _)) _)) _) => nN'); (simp only [Int.reduceMul, Int.reduceSub, Int.reduceAdd, Int.reduceToNat, Nat.reduceAdd, Int.cast_ofNat_Int, List.replicate, List.flatten_cons, List.flatten_nil, List.set_cons_zero, List.set_cons_succ, List.append_nil, List.cons_append, List.nil_append, List.dropLast_cons_cons, List.dropLast, List.getD_cons_zero, List.getD_cons_succ, Int.zero_add, Int.add_zero] at nN'); walk_at "execs cons"))

-- containments, the table's place

-- quicker lines
local macro_rules | `(tactic| walk_at "setItem ref int") => `(tactic| (k_here; (with_reducible show wpAny _ _ (PySem.setItem (Value.ref _) (Value.int _ _) (Value.int _ _)) _ _ _); (refine gen_set ?_; intro z' tz' hz'); k_dflt (refine' ki_set ?F ?N ?a ?b ?e ?U ?_; (case F => k_asm); (case N => k_asm); (case U => k_upd); (case a => decide); (case b => decide); (case e => rfl)); intro h' F' N'; (try dsimp only [List.nil_append, List.cons_append] at N'); (try k_sweep)))
local macro_rules | `(tactic| walk_at "pyIter ref") => `(tactic| ((with_reducible show wpAny _ _ (pyIter (Value.ref _)) (fun it s₂ => LoopAtV _ _ _ _ _ _ _ _ _ it s₂) _ _); k_here; k_dflt (l_hasStore; krs_unr)))
local macro_rules | `(tactic| walk_at "UnrEndW") => `(tactic| (k_dflt ktu_end))
local macro_rules | `(tactic| walk_at "exec AugAssign Subscript") => `(tactic| (k_dflt (refine wpAny_AugAssign_SubscriptAny ?_)))

local macro_rules | `(tactic| walk_at "exec Assign cons ListComp") => `(tactic| (k_here; k_dflt (refine' Assign_ListComp_M _ ?k1 ?kL ?kw ?k2 ?k3 ?k4 ?k5 ?hb ?ky ?kp ?_ ?k6; (case k1 => k_asm); (case kL => exact rfl); (case kw => with_unfolding_all rfl); (case k2 => with_unfolding_all rfl); (case k3 => decide); (case k4 => rfl); (case k5 => decide); (case hb => ktn_open); (case ky => with_unfolding_all rfl); (case kp => with_unfolding_all rfl); (case k6 => intro _; with_unfolding_all rfl); k_whole)))
local macro_rules | `(tactic| walk_at "CFinA") => `(tactic| ((with_reducible show CFinA _ _ _ _ _ _ _ _ _); (unfold CFinA); intro D' h' tk' F' N' o1' l1; (try clear o1'); (try k_lt l1); (try simp only [List.nil_append, List.cons_append] at N'); (try dsimp only); (try k_sweep)))
local macro_rules | `(tactic| walk_at "UnrEnd") => `(tactic| (k_dflt (first | krn_end | ktu_endR)))

local macro_rules | `(tactic| kas_types) => `(tactic| first | (with_reducible exact List.mem_cons_self) | ((with_reducible refine List.mem_cons_of_mem _ ?_); kas_types) | ((with_reducible refine List.mem_append_left _ ?_); kas_types) | ((with_reducible refine List.mem_append_right _ ?_); kas_types) | (with_reducible assumption))
local macro_rules | `(tactic| k_mem) => `(tactic| kas_types)

local macro_rules | `(tactic| walk_at "call ref") => `(tactic| (k_here; (with_reducible show wpAny _ _ (call (Value.ref 84) _) _ _ _); k_dflt (first | (refine' Does.use (does_deg2 _ ⟨_, _, _⟩) ?zB ?zF ?zX ?zN ?zT ?zk ?zs ⟨_, _, _, _, _, rfl, rfl⟩ ?zo ?zd ?zu ?_; (case zk => first | exact rfl | assumption); (case zN => k_asm); (case zs => kd_subs); (case zo => ((dsimp only; first | assumption | decide | omega))); (case zB => k_asm); (case zF => k_asm); (case zX => k_asm); (case zT => k_asm); (case zd => kd_p1); (case zu => kd_p1)) | (refine' Does.use (does_deg1 _ ⟨_, _, _⟩) ?zB ?zF ?zX ?zN ?zT ?zk ?zs ⟨_, _, _, _, _, rfl, rfl⟩ ?zo ?zd ?zu ?_; (case zk => first | exact rfl | assumption); (case zN => k_asm); (case zs => kd_subs); (case zo => ((dsimp only; exact ⟨by first | assumption | rfl | omega, by first | assumption | decide | omega | exact nz_of (by assumption) (by assumption) (by assumption)⟩))); (case zB => k_asm); (case zF => k_asm); (case zX => k_asm); (case zT => k_asm); (case zd => kd_p1); (case zu => kd_p1)) | (refine' Does.use (does_deg0 _ ⟨_, _, _⟩) ?zB ?zF ?zX ?zN ?zT ?zk ?zs ⟨_, _, _, _, _, rfl, rfl⟩ ?zo ?zd ?zu ?_; (case zk => first | exact rfl | assumption); (case zN => k_asm); (case zs => kd_subs); (case zo => ((dsimp only; exact ⟨by first | assumption | rfl | omega, by first | assumption | rfl | omega⟩))); (case zB => k_asm); (case zF => k_asm); (case zX => k_asm); (case zT => k_asm); (case zd => kd_p1); (case zu => kd_p1)) | (refine' Does.use (does_deg _ ⟨_, _, _⟩) ?zB ?zF ?zX ?zN ?zT ?zk ?zs ⟨_, _, _, _, _, rfl, rfl⟩ ?zo ?zd ?zu ?_; (case zk => first | exact rfl | assumption); (case zN => k_asm); (case zs => kd_subs); (case zo => (exact True.intro)); (case zB => k_asm); (case zF => k_asm); (case zX => k_asm); (case zT => k_asm); (case zd => kd_p1); (case zu => kd_p1))); intro r' l' h' tk' F' N' O'; (try dsimp only at O'); (obtain ⟨e1', t', e2'⟩ := O'); subst e1'; subst e2'; (try simp only [List.nil_append] at N'); (try k_sweep)))

local macro_rules | `(tactic| walk_at "call ref") => `(tactic| (k_here; (with_reducible show wpAny _ _ (call (Value.ref 77) _) _ _ _); k_dflt (first | (refine' Does.use (does_pfi _ ⟨_, _⟩) ?zB ?zF ?zX ?zN ?zT ?zk ?zs ⟨_, _, rfl, rfl⟩ ?zo ?zd ?zu ?_; (case zk => first | exact rfl | assumption); (case zN => k_asm); (case zs => kd_subs); (case zo => (dsimp only; exact ⟨by assumption, by omega, by omega⟩)); (case zB => k_asm); (case zF => k_asm); (case zX => k_asm); (case zT => k_asm); (case zd => kd_p1); (case zu => kd_p1))); intro r' l' h' tk' F' N' O'; (try dsimp only at O'); (obtain ⟨e1', v', t', e2', ev', lv', gv', pv'⟩ := O'); subst e1'; subst e2'; (try simp only [List.nil_append] at N'); (try (replace pv' := pv' (by first | assumption | omega))); (try k_sweep)))

set_option maxRecDepth 100000 in
set_option maxHeartbeats 40000000 in
theorem does_pd1 (w : World) (d : DPd) : Does w 149 cpd1 d := by
  w_top off
  unfold Does
  k_fill
  intro p loose mean mg mb dp un gd cn cs a ccd cl outer A₀ base h₀ L m news small s vs Q E B F X N T hk hs hR hok hd hu hret
  obtain ⟨dp, z, qa, qb, qc, qe, qf⟩ := d
  obtain ⟨x, la, lb, ta, tb, tc, te, tf, tg, n, n', lx, rfl, rfl, hq⟩ := hR
  dsimp only at *
  dsimp only [OkPd] at hok
  obtain ⟨⟨hpr, ⟨a1, a2⟩, ⟨a3, a4⟩, ⟨a5, a6⟩, ⟨a7, a8⟩, ⟨a9, a10⟩⟩, rfl, hb⟩ := hok
  have hlt : dp < 24 := by rcases hpr with h | h | h | h <;> omega
  have hgt : 6 < dp := by rcases hpr with h | h | h | h <;> omega
  have hf0 : qf ≠ 0 := by omega
  cases hq
  have hb0 : qb ≠ 0 := by omega
  have N0 := News.sub N hs
  refine wpAny_call ?_
  k_dflt (refine' code_MC ?k1 ?k2 ?k3 N0 ?k5 ?kA ?kF ?kK ?k6 ?k7 ?k8 ?k9 ?kB ?kD ?_ ?c2 ?c3 ?c4; (case kA => exact rfl); (case kF => exact rfl); (case kK => assumption); (case k1 => k_asm); (case k2 => k_asm); (case k3 => k_asm); (case k5 => k_asm); (case k6 => k_is); (case k7 => k_is); (case k8 => ktr_room); (case k9 => exact BindsTo.of_eq rfl); (case kB => exact rfl); (case kD => decide +kernel); (case c2 => exact rfl); (case c3 => exact rfl); (case c4 => exact rfl); k_whole)
  intro g' L' h1' tk' cells' FG' F1' N1' Y' B' X' T' l1; (replace l1 := allLt_of l1); (simp only [AllLt, and_true] at l1)
  obtain ⟨oc, hE, dc⟩ := CellsAre.one Y'
  subst hE
  (try simp only [List.cons_append, List.nil_append] at N1'); (try dsimp only); (try k_lift B'); (try k_fold)
  clear N0
  k_steps
  all_goals (
    refine' hret _ [_] _ _ ?F (back N hs ?kN ?kK ?s1 (Sub.cons (.head _) Sub.nil)) ⟨_, _, _, _, rfl, rfl, ?e0, ?b0, ?c0⟩
    case kN => assumption
    case kK => assumption
    case F => assumption
    case e0 => ((repeat ((with_reducible rename (@Eq Int _ _) => e9); (first | subst e9 | clear e9))); rw [Int.fmod_eq_emod_of_nonneg _ (by omega)]; refine congrArg (· % dp) ?_; simp)
    case b0 => exact Int.fmod_nonneg_of_pos _ (by omega)
    case c0 => exact Int.fmod_lt_of_pos _ (by omega)
    case s1 => kd_subs)

end

section
open PySem PySem.W PySem.Calls PyProof.Rows
-- the walk's own lines

-- containments, the table's place

-- quicker lines
local macro_rules | `(tactic| walk_at "setItem ref int") => `(tactic| (k_here; (with_reducible show wpAny _ _ (PySem.setItem (Value.ref _) (Value.int _ _) (Value.int _ _)) _ _ _); (refine gen_set ?_; intro z' tz' hz'); k_dflt (refine' ki_set ?F ?N ?a ?b ?e ?U ?_; (case F => k_asm); (case N => k_asm); (case U => k_upd); (case a => decide); (case b => decide); (case e => rfl)); intro h' F' N'; (try dsimp only [List.nil_append, List.cons_append] at N'); (try k_sweep)))
local macro_rules | `(tactic| walk_at "pyIter ref") => `(tactic| ((with_reducible show wpAny _ _ (pyIter (Value.ref _)) (fun it s₂ => LoopAtV _ _ _ _ _ _ _ _ _ it s₂) _ _); k_here; k_dflt (l_hasStore; krs_unr)))
local macro_rules | `(tactic| walk_at "UnrEndW") => `(tactic| (k_dflt ktu_end))
local macro_rules | `(tactic| walk_at "exec AugAssign Subscript") => `(tactic| (k_dflt (refine wpAny_AugAssign_SubscriptAny ?_)))

local macro_rules | `(tactic| walk_at "exec Assign cons ListComp") => `(tactic| (k_here; k_dflt (refine' Assign_ListComp_M _ ?k1 ?kL ?kw ?k2 ?k3 ?k4 ?k5 ?hb ?ky ?kp ?_ ?k6; (case k1 => k_asm); (case kL => exact rfl); (case kw => with_unfolding_all rfl); (case k2 => with_unfolding_all rfl); (case k3 => decide); (case k4 => rfl); (case k5 => decide); (case hb => ktn_open); (case ky => with_unfolding_all rfl); (case kp => with_unfolding_all rfl); (case k6 => intro _; with_unfolding_all rfl); k_whole)))
local macro_rules | `(tactic| walk_at "CFinA") => `(tactic| ((with_reducible show CFinA _ _ _ _ _ _ _ _ _); (unfold CFinA); intro D' h' tk' F' N' o1' l1; (try clear o1'); (try k_lt l1); (try simp only [List.nil_append, List.cons_append] at N'); (try dsimp only); (try k_sweep)))
local macro_rules | `(tactic| walk_at "UnrEnd") => `(tactic| (k_dflt (first | krn_end | ktu_endR)))

local macro_rules | `(tactic| walk_at "subscriptTail") => `(tactic| (k_here; (with_reducible show wpAny _ _ (subscriptTail _ _ (Value.ref _) (Value.int _ _)) _ _ _); k_dflt (refine' item_led ?N ?m ?a ?b ?x ?_ ?s; (case N => k_asm); (case m => kas_types); (case a => decide); (case b => decide); (case x => rfl); (case s => with_unfolding_all rfl))))
local macro_rules | `(tactic| walk_at "inplaceOp Add ref") => `(tactic| (k_here; (with_reducible show wpAny _ _ (inplaceOp Operator.Add (Value.ref _) (Value.ref _)) _ _ _); k_dflt (refine' iadd_list ?F ?N ?b ?e ?ne ?U ?d ?z ?y ?_; (case F => k_asm); (case N => k_asm); (case b => k_mem); (case U => k_upd); (case e => kl_lit); (case ne => kl_some); (case d => kl_no); (case z => kl_room); (case y => kl_room)); intro h' F' N'; (try dsimp only [List.nil_append, List.cons_append] at N'); (try k_sweep)))
local macro_rules | `(tactic| walk_at "compareOp Eq ref") => `(tactic| (k_here; (with_reducible show wpAny _ _ (compareOp CmpOp.Eq (Value.ref _) (Value.ref _)) _ _ _); (refine cmp_ofEq ?_); k_dflt (refine' cmp_K ?k1 ?k2 ?k3 ?k4 ?k5 ?k6 ?k7 ?k8 ?_; (case k1 => ktr_units); (case k2 => k_asm); (case k3 => k_asm); (case k4 => k_inst); (case k5 => k_typeOf); (case k6 => k_is); (case k7 => k_is); (case k8 => k_is); k_whole)))
local macro_rules | `(tactic| walk_at "compareOp NotEq ref") => `(tactic| (k_here; (with_reducible show wpAny _ _ (compareOp CmpOp.NotEq (Value.ref _) (Value.ref _)) _ _ _); (refine cmp_ofNotEq ?_); k_dflt (refine' cmp_K ?k1 ?k2 ?k3 ?k4 ?k5 ?k6 ?k7 ?k8 ?_; (case k1 => ktr_units); (case k2 => k_asm); (case k3 => k_asm); (case k4 => k_inst); (case k5 => k_typeOf); (case k6 => k_is); (case k7 => k_is); (case k8 => k_is); k_whole)))
local macro_rules | `(tactic| kd_adr) => `(tactic| first | (with_reducible assumption) | (refine' Ne.symm ?_; with_reducible assumption) | (refine' ne93_of ?h6 ?m6; (case h6 => with_reducible assumption); (case m6 => kas_types)))

local macro_rules | `(tactic| kas_types) => `(tactic| first | (with_reducible exact List.mem_cons_self) | ((with_reducible refine List.mem_cons_of_mem _ ?_); kas_types) | ((with_reducible refine List.mem_append_left _ ?_); kas_types) | ((with_reducible refine List.mem_append_right _ ?_); kas_types) | (with_reducible assumption))
local macro_rules | `(tactic| k_mem) => `(tactic| kas_types)

local macro_rules | `(tactic| walk_at "exec While Call") => `(tactic| (k_here; refine halt ?_))

-- facts of order as one fact an object; apartness by it
local macro_rules | `(tactic| k_lt $h:ident) => `(tactic| (replace $h := allLt_of $h))
local macro_rules | `(tactic| k_ne) => `(tactic| (refine neN ?_; (try dsimp only); first
  | (refine' Nat.ne_of_gt (lt_of_all ?h9 ?m9); (case h9 => with_reducible assumption); (case m9 => kas_types))
  | (refine' Nat.ne_of_lt (lt_of_all ?h9 ?m9); (case h9 => with_reducible assumption); (case m9 => kas_types))
  | (refine' Nat.ne_of_lt (Nat.lt_add_right _ (lt_of_all ?h9 ?m9)); (case h9 => with_reducible assumption); (case m9 => kas_types))
  | (refine' Nat.ne_of_gt (Nat.lt_add_right _ (lt_of_all ?h9 ?m9)); (case h9 => with_reducible assumption); (case m9 => kas_types))
  | (with_reducible assumption) | (refine Ne.symm ?_; with_reducible assumption) | omega))
local macro_rules | `(tactic| krn_ne) => `(tactic| k_ne)
local macro_rules | `(tactic| k_all) => `(tactic| (refine' ne_cast ?h8 ?e8; (case h8 => with_reducible assumption); (case e8 => (simp only [List.map_cons, List.map_nil]; done))))
local macro_rules | `(tactic| k_upd) => `(tactic| first | (refine' Upd.head (ne_cast ?h8 ?e8); (case h8 => with_reducible assumption); (case e8 => (simp only [List.map_cons, List.map_nil]; done))) | (refine' Upd.tail ?ua ?ub; (case ua => k_ne); (case ub => k_upd)))
local macro_rules | `(tactic| k_subL) => `(tactic| first | (with_reducible exact subL_refl) | (with_reducible exact subL_t1) | (with_reducible exact subL_t2) | (with_reducible exact subL_t3))
local macro_rules | `(tactic| krn_off) => `(tactic| (refine' offI_of (ne_cast ?h8 ?e8); (case h8 => with_reducible assumption); (case e8 => (simp only [List.map_cons, List.map_nil]; done))))
local macro_rules | `(tactic| ktu_offI) => `(tactic| (refine' offI_of (ne_cast ?h8 ?e8); (case h8 => with_reducible assumption); (case e8 => (simp only [List.map_cons, List.map_nil]; done))))
local macro_rules | `(tactic| ktu_offL) => `(tactic| first | (refine' offW1 (ne_cast ?h8 ?e8); (case h8 => with_reducible assumption); (case e8 => (simp only [List.map_cons, List.map_nil]; done))) | (refine' offW2 (ne_cast1 ?h8 ?e8) (ne_cast ?h7 ?e7); (case h8 => with_reducible assumption); (case e8 => (simp only [List.map_cons, List.map_nil]; done)); (case h7 => with_reducible assumption); (case e7 => (simp only [List.map_cons, List.map_nil]; done))))
local macro_rules | `(tactic| walk_at "binaryOp Mult ref int") => `(tactic| (k_here; (with_reducible show wpAny _ _ (binaryOp Operator.Mult (Value.ref _) (Value.int _ _)) _ _ _); k_dflt (refine' KMa.mul ?F ?N ?l ?lo ?hi ?z ?e ?_; (case F => k_asm); (case N => k_asm); (case l => is_list); (case lo => decide); (case hi => decide); (case z => exact Nat.le_of_ble_eq_true rfl); (case e => (simp only [Int.reduceMul, Int.reduceSub, Int.reduceAdd, Int.reduceToNat, List.replicate_succ, List.replicate_zero, List.flatten_cons, List.flatten_nil, List.cons_append, List.nil_append, List.append_nil]; first | done | exact rfl)); k_whole); intro D' h' F' N' l1; (try k_lt l1); (try k_sweep)))

local macro_rules | `(tactic| walk_at "call ref") => `(tactic| (k_here; (with_reducible show wpAny _ _ (call (Value.ref 84) _) _ _ _); k_dflt (first | (refine' Does.use (does_deg2 _ ⟨_, _, _⟩) ?zB ?zF ?zX ?zN ?zT ?zk ?zs ⟨_, _, _, _, _, rfl, rfl⟩ ?zo ?zd ?zu ?_; (case zk => first | exact rfl | assumption); (case zN => k_asm); (case zs => kd_subs); (case zo => ((dsimp only; first | assumption | decide | omega))); (case zB => k_asm); (case zF => k_asm); (case zX => k_asm); (case zT => k_asm); (case zd => kd_p1); (case zu => kd_p1)) | (refine' Does.use (does_deg1 _ ⟨_, _, _⟩) ?zB ?zF ?zX ?zN ?zT ?zk ?zs ⟨_, _, _, _, _, rfl, rfl⟩ ?zo ?zd ?zu ?_; (case zk => first | exact rfl | assumption); (case zN => k_asm); (case zs => kd_subs); (case zo => ((dsimp only; exact ⟨by first | assumption | rfl | omega, by first | assumption | decide | omega | exact nz_of (by assumption) (by assumption) (by assumption)⟩))); (case zB => k_asm); (case zF => k_asm); (case zX => k_asm); (case zT => k_asm); (case zd => kd_p1); (case zu => kd_p1)) | (refine' Does.use (does_deg0 _ ⟨_, _, _⟩) ?zB ?zF ?zX ?zN ?zT ?zk ?zs ⟨_, _, _, _, _, rfl, rfl⟩ ?zo ?zd ?zu ?_; (case zk => first | exact rfl | assumption); (case zN => k_asm); (case zs => kd_subs); (case zo => ((dsimp only; exact ⟨by first | assumption | rfl | omega, by first | assumption | rfl | omega⟩))); (case zB => k_asm); (case zF => k_asm); (case zX => k_asm); (case zT => k_asm); (case zd => kd_p1); (case zu => kd_p1)) | (refine' Does.use (does_deg _ ⟨_, _, _⟩) ?zB ?zF ?zX ?zN ?zT ?zk ?zs ⟨_, _, _, _, _, rfl, rfl⟩ ?zo ?zd ?zu ?_; (case zk => first | exact rfl | assumption); (case zN => k_asm); (case zs => kd_subs); (case zo => (exact True.intro)); (case zB => k_asm); (case zF => k_asm); (case zX => k_asm); (case zT => k_asm); (case zd => kd_p1); (case zu => kd_p1))); intro r' l' h' tk' F' N' O'; (try dsimp only at O'); (obtain ⟨e1', t', e2'⟩ := O'); subst e1'; subst e2'; (try simp only [List.nil_append] at N'); (try k_sweep)))

local macro_rules | `(tactic| walk_at "call ref") => `(tactic| (k_here; (with_reducible show wpAny _ _ (call (Value.ref 77) _) _ _ _); k_dflt (first | (refine' Does.use (does_pfi _ ⟨_, _⟩) ?zB ?zF ?zX ?zN ?zT ?zk ?zs ⟨_, _, rfl, rfl⟩ ?zo ?zd ?zu ?_; (case zk => first | exact rfl | assumption); (case zN => k_asm); (case zs => kd_subs); (case zo => (dsimp only; exact ⟨by assumption, by omega, by omega⟩)); (case zB => k_asm); (case zF => k_asm); (case zX => k_asm); (case zT => k_asm); (case zd => kd_p1); (case zu => kd_p1))); intro r' l' h' tk' F' N' O'; (try dsimp only at O'); (obtain ⟨e1', v', t', e2', ev', lv', gv', pv'⟩ := O'); subst e1'; subst e2'; (try simp only [List.nil_append] at N'); (try (replace pv' := pv' (by first | assumption | omega))); (try k_sweep)))

local macro_rules | `(tactic| walk_at "call ref") => `(tactic| (k_here; (with_reducible show wpAny _ _ (call (Value.ref 223) _) _ _ _); k_dflt (refine' DoesG.use (does_made _ ⟨_, _, _, _⟩) ?zB ?zF ?zX ?zN ?zU ?zP ?zG ?zT ?zk ?zs ?zn ⟨_, _, _, _, _, _, rfl, rfl, ?zq, ?zr⟩ ?zo ?zd ?zu ?_; (case zk => first | exact rfl | assumption); (case zB => k_asm); (case zF => k_asm); (case zX => k_asm); (case zN => k_asm); (case zT => k_asm); (case zq => assumption); (case zr => kd_adr); (case zs => kd_subs); (case zP => first | assumption | exact ⟨_, rfl, by assumption⟩); (case zG => k_asm); (case zn => kd_p); (case zU => k_updF); (case zo => (first | ((dsimp only); assumption) | fail "Ok")); (case zd => kd_p1); (case zu => kd_p1)); intro r' l' h' g' tk' oP' hP' F' N' nl' G' O'; (try dsimp only at N'); (try dsimp only at O'); (obtain ⟨x', d', es', e9', m1', m2'⟩ := FQ.has O'); subst e9'; (try dsimp only [PySem.W.CmpBack]); (try k_sweep)))

local macro_rules | `(tactic| walk_at "call ref") => `(tactic| (k_here; (with_reducible show wpAny _ _ (call (Value.ref 149) _) _ _ _); k_dflt (first | ((refine' Does.use (does_pd2 _ ⟨_, _, _, _, _, _, _⟩) ?zB ?zF ?zX ?zN ?zT ?zk ?zs ⟨_, _, _, _, _, _, _, _, _, _, _, _, rfl, rfl, ?zq⟩ ?zo ?zd ?zu ?_; (case zk => first | exact rfl | assumption); (case zN => k_asm); (case zq => assumption); (case zs => kd_subs); (case zo => (dsimp only; exact ⟨⟨by assumption, ⟨by omega, by omega⟩, ⟨by omega, by omega⟩, ⟨by omega, by omega⟩, ⟨by omega, by omega⟩, ⟨by omega, by omega⟩⟩, by omega⟩)); (case zB => k_asm); (case zF => k_asm); (case zX => k_asm); (case zT => k_asm); (case zd => kd_p1); (case zu => kd_p1)); intro r' l' h' tk' F' N' O'; (try dsimp only at O'); (obtain ⟨D', r0', r1', t0', t1', n', e1', e2', er0', er1', ra', rb', rc', rd'⟩ := O')) | ((refine' Does.use (does_pd1 _ ⟨_, _, _, _, _, _, _⟩) ?zB ?zF ?zX ?zN ?zT ?zk ?zs ⟨_, _, _, _, _, _, _, _, _, _, _, _, rfl, rfl, ?zq⟩ ?zo ?zd ?zu ?_; (case zk => first | exact rfl | assumption); (case zN => k_asm); (case zq => assumption); (case zs => kd_subs); (case zo => (dsimp only; exact ⟨⟨by assumption, ⟨by omega, by omega⟩, ⟨by omega, by omega⟩, ⟨by omega, by omega⟩, ⟨by omega, by omega⟩, ⟨by omega, by omega⟩⟩, by first | rfl | omega, by omega⟩)); (case zB => k_asm); (case zF => k_asm); (case zX => k_asm); (case zT => k_asm); (case zd => kd_p1); (case zu => kd_p1)); intro r' l' h' tk' F' N' O'; (try dsimp only at O'); (obtain ⟨D', r0', t0', n', e1', e2', er0', ra', rb'⟩ := O'))); subst e1'; subst e2'; (try simp only [List.cons_append, List.nil_append] at N'); (try k_sweep)))

local macro_rules | `(tactic| walk_at "call ref") => `(tactic| (k_here; (with_reducible show wpAny _ _ (call (Value.ref 137) _) _ _ _); k_dflt (refine' DoesG.use (does_divI _ ⟨_, _, _⟩) ?zB ?zF ?zX ?zN ?zU ?zP ?zG ?zT ?zk ?zs ?zn ⟨_, _, rfl, ?zq⟩ ?zo ?zd ?zu ?_; (case zk => first | exact rfl | assumption); (case zB => k_asm); (case zF => k_asm); (case zX => k_asm); (case zN => k_asm); (case zT => k_asm); (case zq => assumption); (case zs => kd_subs); (case zP => first | assumption | exact ⟨_, rfl, by assumption⟩); (case zG => k_asm); (case zn => kd_p); (case zU => k_updF); (case zo => (first | ((dsimp only; exact ⟨by assumption, by omega, by omega⟩)) | fail "Ok")); (case zd => kd_p1); (case zu => kd_p1)); intro r' l' h' g' tk' oP' hP' F' N' nl' G' O'; (try dsimp only at N'); (try dsimp only at O'); (obtain ⟨x', d', es', e9', m1', m2'⟩ := FQ.has O'); subst e9'; (try dsimp only [PySem.W.CmpBack]); (try k_sweep)))

def MkI : Prop := True
def Two (P : Shared → Prop) (f : Flow) (s : Shared) : Prop := f = .next ∧ P s
theorem merge2 {M : Model} {A : Around} {st st2 : Stmt} {rest : List Stmt} {env : Env} {E : Value → Shared → Prop} {s : Shared} {Q : Flow → Shared → Prop} (Mid : Shared → Prop)
    (h1 : wpAny M A (exec st env) (Two fun s' => wpAny M A (exec st2 env) (Two Mid) E s') E s) (h2 : ∀ s', Mid s' → wpAny M A (execs rest env) Q E s') :
    wpAny M A (exec st env) (fun f s' => match f with | .next => wpAny M A (execs (st2 :: rest) env) Q E s' | f => Q f s') E s :=
  wpAny_mono h1 (fun f s' h => by
    obtain ⟨rfl, h⟩ := h
    exact wpAny_execs_cons (wpAny_mono h (fun f s'' h => by
      obtain ⟨rfl, h⟩ := h
      exact h2 _ h) fun _ _ h => h)) fun _ _ h => h
theorem bits3 {a b c : Int} {k : Nat} {y : Int} (ha : Builtin.Int.intBits a ≤ 64) (hb : Builtin.Int.intBits b ≤ 64) (hc : Builtin.Int.intBits c ≤ 64) : IntMulOk (([a, b, c] : List Int).getD k 0) y := by
  refine IntMulOk.of_left ?_
  match k with
  | 0 => exact ha
  | 1 => exact hb
  | 2 => exact hc
  | n + 3 => exact PySem.intBits_le_64 (by simp) (by simp)
local macro_rules | `(tactic| walk_at "binaryOp Mult int int") => `(tactic| ((with_reducible refine' PyProof.Rows.mul_int ?_ ?hm); k_dflt (case hm => exact bits3 (by with_reducible assumption) (by with_reducible assumption) (by with_reducible assumption))))
theorem fr_nm {h₀ L h m} (_F : Fr h₀ L h m) : ∃ m9, m9 = m := ⟨m, rfl⟩
local macro_rules | `(tactic| walk_at "exec Assign") => `(tactic| (k_here; (with_reducible show wpAny _ _ (exec (Stmt.Assign [PySem.Expr.Name _ _] (PySem.Expr.Call _ _ _ _) _) _) _ _ _); (with_reducible rename MkI => mk9); refine halt ?_))
structure Ls where
  ad : Addr
  t1 : Tok
  t2 : Tok
  t3 : Tok
  n : Nat
abbrev Ls.ent (l : Ls) (v : T3) : Addr × Obj := (l.ad, lstO [.int v.1 l.t1, .int v.2.1 l.t2, .int v.2.2 l.t3] l.n)
structure InvS where
  s : T3 × T3 × T3 × T3
  k : Nat
  a1 : Ls
  a2 : Ls
  a3 : Ls
  a4 : Ls
abbrev cinv : Told DOne where
  Rel := RelOne
  Ok := fun d => Pr d.p ∧ d.x ≠ (0, 0)
  size := fun _ => 24
  Out := fun l r d => FQ d.p l r (invF d.p d.x)
set_option maxRecDepth 100000 in
set_option maxHeartbeats 40000000 in
theorem does_inv (w : World) (d : DOne) : DoesG w 154 cinv d := by
  w_top off
  unfold DoesG
  k_fill
  intro p loose mean mg mb dp un gd cn cs a ccd cl outer A₀ base h₀ L m news small oP s vs Q E B F X N hP nP G T hk hs hR hok hd hu hret
  obtain ⟨dp, x⟩ := d
  obtain ⟨v1, rfl, hq⟩ := hR
  dsimp only at *
  have hb := hq.bd
  have hn := hq.off
  obtain ⟨S, eS⟩ : ∃ S, S = small := ⟨small, rfl⟩
  have hqS : FQ dp S (.ref v1) x := eS ▸ hq
  rw [← eS] at hs
  have hq0 := hq
  cases hq
  (try simp only [LCg.Off1, and_true] at hn)
  obtain ⟨_, _, _, _, _, _⟩ := hn
  obtain ⟨hpr, hne⟩ := hok
  have hlt : dp < 24 := by rcases hpr with h | h | h | h <;> omega
  have hgt : 6 < dp := by rcases hpr with h | h | h | h <;> omega
  have N0 := News.sub N (Sub.cons (q := (93, oP)) (.head _) (Sub.tail (eS ▸ hs)))
  refine wpAny_call ?_
  k_dflt (refine' code_MC ?k1 ?k2 ?k3 N0 ?k5 ?kA ?kF ?kK ?k6 ?k7 ?k8 ?k9 ?kB ?kD ?_ ?c2 ?c3 ?c4; (case kA => exact rfl); (case kF => exact rfl); (case kK => assumption); (case k1 => k_asm); (case k2 => k_asm); (case k3 => k_asm); (case k5 => k_asm); (case k6 => k_is); (case k7 => k_is); (case k8 => ktr_room); (case k9 => exact BindsTo.of_eq rfl); (case kB => exact rfl); (case kD => decide +kernel); (case c2 => exact rfl); (case c3 => exact rfl); (case c4 => exact rfl); k_whole)
  intro g' L' h1' tk' cells' FG' F1' N1' Y' B' X' T' l1; (replace l1 := allLt_of l1); (simp only [AllLt, and_true] at l1)
  obtain ⟨oc, hE, dc⟩ := CellsAre.one Y'
  subst hE
  (try simp only [List.cons_append, List.nil_append] at N1'); (try dsimp only); (try k_lift B'); (try k_fold)
  clear N0
  k_steps
  unfold Halt
  (with_reducible rename Fr _ _ _ _ => F9)
  (with_reducible rename News _ _ _ _ => N9)
  refine' while_P (σ := InvS) (fun c => c.a1.ent c.s.1 :: c.a2.ent c.s.2.1 :: c.a3.ent c.s.2.2.1 :: c.a4.ent c.s.2.2.2 :: (L' + 1, oc) :: (93, oP) :: S)
    (fun c => [("lm", .ref c.a1.ad), ("hm", .ref c.a2.ad), ("low", .ref c.a3.ad), ("high", .ref c.a4.ad)])
    (fun c => iOk dp x c.s c.k = true ∧ @LT.lt Nat _ 93 c.a1.ad ∧ @LT.lt Nat _ 93 c.a2.ad ∧ @LT.lt Nat _ 93 c.a3.ad ∧ @LT.lt Nat _ 93 c.a4.ad) ["r", "nm", "new", "i", "j"] (fun c => c.k)
    ⟨ist dp x 0, 2, ⟨_, _, _, _, _⟩, ⟨_, _, _, _, _⟩, ⟨_, _, _, _, _⟩, ⟨_, _, _, _, _⟩⟩ F9 (News.sub N9 ?sub) ⟨iall hpr hb.1 hb.2.1 hb.2.2.1 hb.2.2.2 hne, ?o1, ?o2, ?o3, ?o4⟩ ?hk ?turn
  case hk => intro p hp; simp only [List.mem_cons, List.not_mem_nil, or_false] at hp; rcases hp with rfl | rfl | rfl | rfl <;> rfl
  case sub =>
    subst eS
    exact Sub.cons (by k_mem) (Sub.cons (by k_mem) (Sub.cons (by k_mem) (Sub.cons (by k_mem) (Sub.cons (by k_mem) (Sub.cons (by k_mem) (by kd_subs))))))
  case o1 => exact lt_of_all (o := oP) (by assumption) (by k_mem)
  case o2 => exact lt_of_all (o := oP) (by assumption) (by k_mem)
  case o3 => exact lt_of_all (o := oP) (by assumption) (by k_mem)
  case o4 => exact lt_of_all (o := oP) (by assumption) (by k_mem)
  case turn =>
  clear F9 N9
  repeat ((with_reducible rename AllLt _ _ => q9); clear q9)
  intro c u h tk hf F' N'
  obtain ⟨⟨⟨p0, p1, p2⟩, ⟨q0, q1, q2⟩, ⟨l0, l1, l2⟩, ⟨h0, h1, h2⟩⟩, k, ⟨A1, t11, t12, t13, n1⟩, ⟨A2, t21, t22, t23, n2⟩, ⟨A3, t31, t32, t33, n3⟩, ⟨A4, t41, t42, t43, n4⟩⟩ := c
  obtain ⟨hf, z1, z2, z3, z4⟩ := hf
  obtain ⟨g1, g2, g3, g4, g5, g6, g7⟩ := igood_ (iOk_good hf)
  obtain ⟨⟨_, _⟩, ⟨_, _⟩, ⟨_, _⟩⟩ := g1
  obtain ⟨⟨_, _⟩, ⟨_, _⟩, ⟨_, _⟩⟩ := g2
  obtain ⟨⟨_, _⟩, ⟨_, _⟩, ⟨_, _⟩⟩ := g3
  obtain ⟨⟨_, _⟩, ⟨_, _⟩, ⟨_, _⟩⟩ := g4
  dsimp only at *
  have B0 : Builtin.Int.intBits p0 ≤ 64 := PySem.intBits_le_64 (by omega) (by omega)
  have B1 : Builtin.Int.intBits p1 ≤ 64 := PySem.intBits_le_64 (by omega) (by omega)
  have B2 : Builtin.Int.intBits p2 ≤ 64 := PySem.intBits_le_64 (by omega) (by omega)
  have B3 : Builtin.Int.intBits l0 ≤ 64 := PySem.intBits_le_64 (by omega) (by omega)
  have B4 : Builtin.Int.intBits l1 ≤ 64 := PySem.intBits_le_64 (by omega) (by omega)
  have B5 : Builtin.Int.intBits 0 ≤ 64 := PySem.intBits_le_64 (by omega) (by omega)
  dsimp only [kstB, Ls.ent] at *
  rw [eS] at N'
  subst g5
  by_cases hl : l1 = 0
  · subst hl
    obtain ⟨gl, gr⟩ := g7 rfl
    have gl0 : l0 ≠ 0 := by omega
    k_steps
    subst eS
    refine' hret _ _ _ _ _ _ ?tab ?F (backG N nP hs ?kN ?kK ?s1 ?s2 ?s3) ?np ?G ?out
    case kN => assumption
    case kK => assumption
    case F => assumption
    case out => exact FQ.cast (by assumption) gr
    case s2 => kd_subs
    case s3 => k_mem
    case s1 => kd_subs
    case tab => assumption
    case G => assumption
    case np => kd_p
  · have hl1 : 0 < l1 := by omega
    have hq : 0 < h2 ∨ (h2 = 0 ∧ 0 < h1) := g6.resolve_left hl
    clear g6 g7
    have mk0 : MkI := trivial
    k_steps
    unfold Halt
    (with_reducible rename MkI => mk0); clear mk0
    (with_reducible rename Fr _ _ _ _ => F9)
    (with_reducible rename News _ _ _ _ => N9)
    obtain ⟨m9, em9⟩ := fr_nm F9
    refine merge2 (fun s' => ∃ hh tt A r0 r1 w0 w1 w2 nn mm, s' = { heap := hh, gens := s.gens, drawn := s.drawn, toks := tt, os := s.os } ∧ r0 = h1 * pinv dp l1 % dp ∧ r1 = h2 * pinv dp l1 % dp ∧ @LT.lt Nat _ 93 A ∧ Fr g' L' hh mm ∧ mm (Str.ofString "r") = some (.ref A) ∧ (∀ z, z ≠ Str.ofString "r" → mm z = m9 z) ∧
      News g' L' hh ((A, lstO [.int r0 w0, .int r1 w1, .int 0 w2] nn) :: (A1, lstO [.int p0 t11, .int p1 t12, .int p2 t13] n1) :: (A2, lstO [.int q0 t21, .int q1 t22, .int q2 t23] n2) :: (A3, lstO [.int l0 t31, .int l1 t32, .int 0 t33] n3) :: (A4, lstO [.int h0 t41, .int h1 t42, .int h2 t43] n4) :: (L' + 1, oc) :: (93, oP) :: S)) ?first ?rest
    case first =>
      rcases hq with hq | ⟨hq, hq'⟩
      · k_steps
        refine ⟨rfl, ?_⟩
        k_steps
        (with_reducible rename Fr _ _ _ _ => F8)
        (with_reducible rename News _ _ _ _ => N8)
        subst eS
        exact ⟨rfl, _, _, _, _, _, _, _, _, _, _, rfl, by assumption, by assumption, lt_of_all (o := oP) (by assumption) (by k_mem), F8, rfl, fun z hz => by rw [em9]; simp only [hz, if_false], News.sub N8 (by kd_subs)⟩
      · subst hq
        k_steps
        refine ⟨rfl, ?_⟩
        k_steps
        (with_reducible rename Fr _ _ _ _ => F8)
        (with_reducible rename News _ _ _ _ => N8)
        subst eS
        exact ⟨rfl, _, _, _, _, 0, _, _, _, _, _, rfl, by assumption, by simp, lt_of_all (o := oP) (by assumption) (by k_mem), F8, rfl, fun z hz => by rw [em9]; simp only [hz, if_false], News.sub N8 (by kd_subs)⟩
    case rest =>
      clear F9 N9
      rintro s' ⟨hh, tt, A, r0, r1, w0, w1, w2, nn, mm, rfl, er0, er1, zA, F8, em, ez, N8⟩
      have e : mm = fun z => if z = Str.ofString "r" then some (.ref A) else m9 z := funext fun z => by
        by_cases q : z = Str.ofString "r"
        · rw [q, em, if_pos rfl]
        · rw [ez z q, if_neg q]
      clear em ez
      subst e
      subst em9
      (try dsimp only at F8)
      rw [eS] at N8
      k_steps
      (with_reducible rename Fr _ _ _ _ => F8)
      (with_reducible rename News _ _ _ _ => N8)
      subst eS
      obtain ⟨k', rfl, hk2⟩ := iOk_step hf hl
      refine' wendP ⟨_, k', ⟨_, _, _, _, _⟩, ⟨A1, t11, t12, t13, n1⟩, ⟨_, _, _, _, _⟩, ⟨A3, t31, t32, t33, n3⟩⟩ F8 N8 ?sub ⟨hk2, ?o1, z1, ?o3, z3⟩ ?hk ?hr ?hm
      case hk => intro p hp; simp only [List.mem_cons, List.not_mem_nil, or_false] at hp; rcases hp with rfl | rfl | rfl | rfl <;> rfl
      case hr => ksw_same
      case hm => exact Nat.lt_succ_self _
      case o1 => exact lt_of_all (o := oP) (by assumption) (by k_mem)
      case o3 => exact lt_of_all (o := oP) (by assumption) (by k_mem)
      case sub =>
        refine Sub.cons (mem_cast3 (by k_mem) ?a1 ?a2 ?a3) (Sub.cons (by k_mem) (Sub.cons (mem_cast3 (by k_mem) ?a4 ?a5 ?a6) (Sub.cons (by k_mem) (Sub.cons (by k_mem) (Sub.cons (by k_mem) (by kd_subs))))))
        all_goals (dsimp only [istep]; (repeat ((with_reducible rename (@Eq Int _ _) => e9); (first | subst e9 | clear e9))); rw [Int.fmod_eq_emod_of_nonneg _ (by omega)]; refine congrArg (· % dp) ?_; simp)
end

section
open PySem PySem.W PySem.Calls PyProof.Rows
-- the walk's own lines

-- containments, the table's place

-- quicker lines
local macro_rules | `(tactic| walk_at "setItem ref int") => `(tactic| (k_here; (with_reducible show wpAny _ _ (PySem.setItem (Value.ref _) (Value.int _ _) (Value.int _ _)) _ _ _); (refine gen_set ?_; intro z' tz' hz'); k_dflt (refine' ki_set ?F ?N ?a ?b ?e ?U ?_; (case F => k_asm); (case N => k_asm); (case U => k_upd); (case a => decide); (case b => decide); (case e => rfl)); intro h' F' N'; (try dsimp only [List.nil_append, List.cons_append] at N'); (try k_sweep)))
local macro_rules | `(tactic| walk_at "pyIter ref") => `(tactic| ((with_reducible show wpAny _ _ (pyIter (Value.ref _)) (fun it s₂ => LoopAtV _ _ _ _ _ _ _ _ _ it s₂) _ _); k_here; k_dflt (l_hasStore; krs_unr)))
local macro_rules | `(tactic| walk_at "UnrEndW") => `(tactic| (k_dflt ktu_end))
local macro_rules | `(tactic| walk_at "exec AugAssign Subscript") => `(tactic| (k_dflt (refine wpAny_AugAssign_SubscriptAny ?_)))

local macro_rules | `(tactic| walk_at "exec Assign cons ListComp") => `(tactic| (k_here; k_dflt (refine' Assign_ListComp_M _ ?k1 ?kL ?kw ?k2 ?k3 ?k4 ?k5 ?hb ?ky ?kp ?_ ?k6; (case k1 => k_asm); (case kL => exact rfl); (case kw => with_unfolding_all rfl); (case k2 => with_unfolding_all rfl); (case k3 => decide); (case k4 => rfl); (case k5 => decide); (case hb => ktn_open); (case ky => with_unfolding_all rfl); (case kp => with_unfolding_all rfl); (case k6 => intro _; with_unfolding_all rfl); k_whole)))
local macro_rules | `(tactic| walk_at "CFinA") => `(tactic| ((with_reducible show CFinA _ _ _ _ _ _ _ _ _); (unfold CFinA); intro D' h' tk' F' N' o1' l1; (try clear o1'); (try k_lt l1); (try simp only [List.nil_append, List.cons_append] at N'); (try dsimp only); (try k_sweep)))
local macro_rules | `(tactic| walk_at "UnrEnd") => `(tactic| (k_dflt (first | krn_end | ktu_endR)))

local macro_rules | `(tactic| walk_at "subscriptTail") => `(tactic| (k_here; (with_reducible show wpAny _ _ (subscriptTail _ _ (Value.ref _) (Value.int _ _)) _ _ _); k_dflt (refine' item_led ?N ?m ?a ?b ?x ?_ ?s; (case N => k_asm); (case m => kas_types); (case a => decide); (case b => decide); (case x => rfl); (case s => with_unfolding_all rfl))))
local macro_rules | `(tactic| walk_at "inplaceOp Add ref") => `(tactic| (k_here; (with_reducible show wpAny _ _ (inplaceOp Operator.Add (Value.ref _) (Value.ref _)) _ _ _); k_dflt (refine' iadd_list ?F ?N ?b ?e ?ne ?U ?d ?z ?y ?_; (case F => k_asm); (case N => k_asm); (case b => k_mem); (case U => k_upd); (case e => kl_lit); (case ne => kl_some); (case d => kl_no); (case z => kl_room); (case y => kl_room)); intro h' F' N'; (try dsimp only [List.nil_append, List.cons_append] at N'); (try k_sweep)))
local macro_rules | `(tactic| walk_at "compareOp Eq ref") => `(tactic| (k_here; (with_reducible show wpAny _ _ (compareOp CmpOp.Eq (Value.ref _) (Value.ref _)) _ _ _); (refine cmp_ofEq ?_); k_dflt (refine' cmp_K ?k1 ?k2 ?k3 ?k4 ?k5 ?k6 ?k7 ?k8 ?_; (case k1 => ktr_units); (case k2 => k_asm); (case k3 => k_asm); (case k4 => k_inst); (case k5 => k_typeOf); (case k6 => k_is); (case k7 => k_is); (case k8 => k_is); k_whole)))
local macro_rules | `(tactic| walk_at "compareOp NotEq ref") => `(tactic| (k_here; (with_reducible show wpAny _ _ (compareOp CmpOp.NotEq (Value.ref _) (Value.ref _)) _ _ _); (refine cmp_ofNotEq ?_); k_dflt (refine' cmp_K ?k1 ?k2 ?k3 ?k4 ?k5 ?k6 ?k7 ?k8 ?_; (case k1 => ktr_units); (case k2 => k_asm); (case k3 => k_asm); (case k4 => k_inst); (case k5 => k_typeOf); (case k6 => k_is); (case k7 => k_is); (case k8 => k_is); k_whole)))
local macro_rules | `(tactic| kd_adr) => `(tactic| first | (with_reducible assumption) | (refine' Ne.symm ?_; with_reducible assumption) | (refine' ne93_of ?h6 ?m6; (case h6 => with_reducible assumption); (case m6 => kas_types)))

local macro_rules | `(tactic| kas_types) => `(tactic| first | (with_reducible exact List.mem_cons_self) | ((with_reducible refine List.mem_cons_of_mem _ ?_); kas_types) | ((with_reducible refine List.mem_append_left _ ?_); kas_types) | ((with_reducible refine List.mem_append_right _ ?_); kas_types) | (with_reducible assumption))
local macro_rules | `(tactic| k_mem) => `(tactic| kas_types)

local macro_rules | `(tactic| walk_at "call ref") => `(tactic| (k_here; (with_reducible show wpAny _ _ (call (Value.ref 154) _) _ _ _); k_dflt (refine' DoesG.use (does_inv _ ⟨_, _⟩) ?zB ?zF ?zX ?zN ?zU ?zP ?zG ?zT ?zk ?zs ?zn ⟨_, rfl, ?zq⟩ ?zo ?zd ?zu ?_; (case zk => first | exact rfl | assumption); (case zB => k_asm); (case zF => k_asm); (case zX => k_asm); (case zN => k_asm); (case zT => k_asm); (case zq => assumption); (case zs => kd_subs); (case zP => first | assumption | exact ⟨_, rfl, by assumption⟩); (case zG => k_asm); (case zn => kd_p); (case zU => k_updF); (case zo => (first | ((dsimp only; exact ⟨by assumption, by assumption⟩)) | fail "Ok")); (case zd => kd_p1); (case zu => kd_p1)); intro r' l' h' g' tk' oP' hP' F' N' nl' G' O'; (try dsimp only at N'); (try dsimp only at O'); (obtain ⟨x', d', es', e9', m1', m2'⟩ := FQ.has O'); subst e9'; (try dsimp only [PySem.W.CmpBack]); (try k_sweep)))

local macro_rules | `(tactic| walk_at "call ref") => `(tactic| (k_here; (with_reducible show wpAny _ _ (call (Value.ref 125) _) _ _ _); k_dflt (refine' DoesG.use (does_mul _ ⟨_, _, _⟩) ?zB ?zF ?zX ?zN ?zU ?zP ?zG ?zT ?zk ?zs ?zn ⟨_, _, _, _, rfl, rfl, ?zq, ?zr⟩ ?zo ?zd ?zu ?_; (case zk => first | exact rfl | assumption); (case zB => k_asm); (case zF => k_asm); (case zX => k_asm); (case zN => k_asm); (case zT => k_asm); (case zq => assumption); (case zr => assumption); (case zs => kd_subs); (case zP => first | assumption | exact ⟨_, rfl, by assumption⟩); (case zG => k_asm); (case zn => kd_p); (case zU => k_updF); (case zo => (first | ((dsimp only); assumption) | fail "Ok")); (case zd => kd_p1); (case zu => kd_p1)); intro r' l' h' g' tk' oP' hP' F' N' nl' G' O'; (try dsimp only at N'); (try dsimp only at O'); (obtain ⟨x', d', es', e9', m1', m2'⟩ := FQ.has O'); subst e9'; (try dsimp only [PySem.W.CmpBack]); (try k_sweep)))

abbrev cdiv : Told DTwo where
  Rel := RelTwo
  Ok := fun d => Pr d.p ∧ d.y ≠ (0, 0)
  size := fun _ => 32
  Out := fun l r d => FQ d.p l r (mulF d.p d.x (invF d.p d.y))
set_option maxRecDepth 100000 in
set_option maxHeartbeats 40000000 in
theorem does_div (w : World) (d : DTwo) : DoesG w 137 cdiv d := by
  w_top off
  unfold DoesG
  k_fill
  intro p loose mean mg mb dp un gd cn cs a ccd cl outer A₀ base h₀ L m news small oP s vs Q E B F X N hP nP G T hk hs hR hok hd hu hret
  obtain ⟨dp, x, y⟩ := d
  obtain ⟨v1, v2, l1, l2, rfl, rfl, hq1, hq2⟩ := hR
  dsimp only at *
  have hb1 := hq1.bd
  have hb2 := hq2.bd
  have hn1 := hq1.off
  have hn2 := hq2.off
  have hq10 := hq1
  have hq20 := hq2
  cases hq1
  cases hq2
  (try simp only [LCg.Off1, and_true] at hn1 hn2)
  obtain ⟨_, _, _, _, _, _⟩ := hn1
  obtain ⟨_, _, _, _, _, _⟩ := hn2
  simp only [List.cons_append, List.nil_append] at hs
  obtain ⟨hpr, hne⟩ := hok
  have hlt : dp < 24 := by rcases hpr with h | h | h | h <;> omega
  have N0 := News.sub N (Sub.cons (q := (93, oP)) (.head _) (Sub.tail hs))
  refine wpAny_call ?_
  k_dflt (refine' code_MC ?k1 ?k2 ?k3 N0 ?k5 ?kA ?kF ?kK ?k6 ?k7 ?k8 ?k9 ?kB ?kD ?_ ?c2 ?c3 ?c4; (case kA => exact rfl); (case kF => exact rfl); (case kK => assumption); (case k1 => k_asm); (case k2 => k_asm); (case k3 => k_asm); (case k5 => k_asm); (case k6 => k_is); (case k7 => k_is); (case k8 => ktr_room); (case k9 => exact BindsTo.of_eq rfl); (case kB => exact rfl); (case kD => decide +kernel); (case c2 => exact rfl); (case c3 => exact rfl); (case c4 => exact rfl); k_whole)
  intro g' L' h1' tk' cells' FG' F1' N1' Y' B' X' T' l1; (replace l1 := allLt_of l1); (simp only [AllLt, and_true] at l1)
  obtain ⟨oc, oc2, hE, dc, dc2⟩ := CellsAre.two Y'
  subst hE
  (try simp only [List.cons_append, List.nil_append] at N1'); (try dsimp only); (try k_lift B'); (try k_fold)
  clear N0
  k_steps
  all_goals (
    refine' hret _ _ _ _ _ _ ?tab ?F (backG N nP hs ?kN ?kK ?s1 ?s2 ?s3) ?np ?G ?out
    case kN => assumption
    case kK => assumption
    case F => assumption
    case out => assumption
    case s2 => kd_subs
    case s3 => k_mem
    case s1 => kd_subs
    case tab => assumption
    case G => assumption
    case np => kd_p)

end

section
open PySem PySem.W PySem.Calls PyProof.Rows
set_option maxRecDepth 100000
abbrev Rho := List (Str × (Int × Int))
/-- what an expression over elements comes to -/
def evF (q : Int) (ρ : Rho) : Nat → Expr → Option (Int × Int)
  | 0, _ => none
  | n + 1, e => match e with
    | .Name x _ => ρ.lookup x
    | .BinOp l .Mult r _ => match l with
      | .Constant (.int k) _ _ => if 0 ≤ k ∧ k < 24 then (evF q ρ n r).map (smulF q k) else none
      | l => match evF q ρ n l, evF q ρ n r with
        | some a, some b => some (mulF q a b)
        | _, _ => none
    | .BinOp l .Sub r _ => match evF q ρ n l, evF q ρ n r with
      | some a, some b => some (subF q a b)
      | _, _ => none
    | _ => none
/-- a run of assignments -/
def runF (q : Int) (ns : List Str) : Nat → List Stmt → Rho → Option (Rho × List Stmt)
  | 0, ss, ρ => some (ρ, ss)
  | n + 1, .Assign [.Name x _] e _ :: ss, ρ => if ns.contains x then match evF q ρ 8 e with
      | some z => runF q ns n ss ((x, z) :: ρ)
      | none => none
    else none
  | _, _, _ => none
def RhoOk (q : Int) (ns : List Str) (ρ : Rho) (m : Str → Option Value) (led : List (Addr × Obj)) : Prop :=
  ∀ x z, ρ.lookup x = some z → x ∈ ns ∧ ∃ v l, m x = some (.ref v) ∧ FQ q l (.ref v) z ∧ Sub l led
theorem RhoOk.mono {q : Int} {ns : List Str} {ρ : Rho} {m : Str → Option Value} {led led' : List (Addr × Obj)} (h : RhoOk q ns ρ m led) (s : Sub led led') : RhoOk q ns ρ m led' := fun x z e => by
  obtain ⟨a, v, l, b, c, d⟩ := h x z e
  exact ⟨a, v, l, b, c, d.trans s⟩
theorem swaps_evF {q : Int} {ρ : Rho} {n : Nat} {e : Expr} {z : Int × Int} {t : Option Expr} {line : Nat} {env : Env} (h : evF q ρ n e = some z) : swapsWith e t line env = pure false := by
  cases n with
  | zero => cases h
  | succ n => cases e <;> first | rfl | (simp [evF] at h)

section
variable {w : World} {p : Program} {loose : List Str} {mean : ExcName → Option Value} {mg mb : Str → Option Value} {dp un : Nat} {gd : Option (List Code)} {cn : Str} {cs : Scope} {fa : Addr} {ccd : Value} {cl : List (Str × Addr)} {outer : List Env} {A₀ : Around} {base h₀ : Heap} {L : Addr} {env : Env}

/-- what every use of an operator asks of the frame -/
structure Here (w : World) (p : Program) (loose : List Str) (mean : ExcName → Option Value) (mg mb : Str → Option Value) (dp un : Nat) (cs : Scope) (outer : List Env) (A₀ : Around) (base h₀ : Heap) (L : Addr) (env : Env) (q : Int) (ns : List Str) : Prop where
  B : Below A₀ base outer h₀
  X : (hd.heap_39 w.params).In h₀
  T : Top p loose mean mg mb h₀
  hk : cs.kind = .function
  hd : dp + 16 < recursionLimit
  hu : un + 8 * 16 < cLine
  hq : q < 24
  hL : env.locals = L
  hek : env.scope.kind = .function
  hns : ∀ x ∈ ns, env.kindOf x = some .local ∧ (x == ("__debug__" : Str)) = false

theorem sub3 {l1 l2 l3 led : List (Addr × Obj)} : Sub (l3 ++ led) (l3 ++ (l2 ++ (l1 ++ led))) := Sub.app Sub.left (Sub.right (Sub.right (Sub.right Sub.refl)))

theorem fill_ (w : World) : hd.heap_39 w.params = hd.heap_39 w.params ∧ PySem.Challenge.rw_bb0063_01.row.prog = PySem.Challenge.rw_bb0063_01.row.prog := by
  k_fill
  exact ⟨rfl, rfl⟩
theorem mul_ref {q : Int} {ns : List Str} (H : Here w p loose mean mg mb dp un cs outer A₀ base h₀ L env q ns) {E : Value → Shared → Prop} {x y : Int × Int} {v1 v2 : Addr} {l1 l2 led : List (Addr × Obj)} {m : Str → Option Value} {oP : Obj} {s : Shared} {Q : Value → Shared → Prop}
    (F : Fr h₀ L s.heap m) (N : News h₀ L s.heap ((93, oP) :: led)) (hP : TabOk oP) (nP : NoP led) (G : AllBare s.gens) (q1 : FQ q l1 (.ref v1) x) (q2 : FQ q l2 (.ref v2) y) (s1 : Sub l1 led) (s2 : Sub l2 led)
    (ret : ∀ r l h' g' tk' oP', TabOk oP' → Fr h₀ L h' m → News h₀ L h' ((93, oP') :: (l ++ led)) → NoP l → AllBare g' → FQ q l (.ref r) (mulF q x y) → Q (.ref r) ⟨h', g', s.drawn, tk', s.os⟩) :
    wpAny (model PySem.Challenge.rw_bb0063_01.row.prog w) (ktrTop dp un gd cn cs L fa ccd cl outer) (binaryOp .Mult (.ref v1) (.ref v2)) Q E s := by
  obtain ⟨x1, d1, es1, e1, m1, m1'⟩ := FQ.has q1
  obtain ⟨x2, d2, es2, e2, m2, m2'⟩ := FQ.has q2
  cases e1
  cases e2
  have X := H.X
  refine binop_K (K := hd.heap_39 w.params) (C := 234) (f := 125) F H.X (InstAt.of_news N (.tail _ (s1 _ m1)) (.tail _ (s1 _ m1'))) (InstAt.type (InstAt.of_news N (.tail _ (s2 _ m2)) (.tail _ (s2 _ m2')))) (by k_is) (by k_is) (by k_is) ?_
  refine DoesG.use (does_mul w ⟨q, x, y⟩) (small := l1 ++ l2) H.B F H.X N (UpdF.head fun pp hp => nP pp hp) hP G H.T H.hk (Sub.app (Sub.tail s1) (Sub.tail s2)) (NoP.app (NoP.sub nP s1) (NoP.sub nP s2)) ⟨_, _, _, _, rfl, rfl, q1, q2⟩ H.hq (by have := H.hd; show dp + 12 < _; omega) (by have := H.hu; show un + 8 * 12 < _; omega) ?_
  intro r l h' g' tk' oP' hP' F' N' nl G' O
  obtain ⟨xr, dr, esr, er, mr, mr'⟩ := FQ.has O
  cases er
  exact ret xr l h' g' tk' oP' hP' F' (News.sub N' (Sub.cons (List.mem_append_right _ (.head _)) (Sub.app Sub.left (Sub.right (Sub.tail Sub.refl))))) nl G' O

theorem sub_ref {q : Int} {ns : List Str} (H : Here w p loose mean mg mb dp un cs outer A₀ base h₀ L env q ns) {E : Value → Shared → Prop} {x y : Int × Int} {v1 v2 : Addr} {l1 l2 led : List (Addr × Obj)} {m : Str → Option Value} {oP : Obj} {s : Shared} {Q : Value → Shared → Prop}
    (F : Fr h₀ L s.heap m) (N : News h₀ L s.heap ((93, oP) :: led)) (hP : TabOk oP) (nP : NoP led) (G : AllBare s.gens) (q1 : FQ q l1 (.ref v1) x) (q2 : FQ q l2 (.ref v2) y) (s1 : Sub l1 led) (s2 : Sub l2 led)
    (ret : ∀ r l h' g' tk' oP', TabOk oP' → Fr h₀ L h' m → News h₀ L h' ((93, oP') :: (l ++ led)) → NoP l → AllBare g' → FQ q l (.ref r) (subF q x y) → Q (.ref r) ⟨h', g', s.drawn, tk', s.os⟩) :
    wpAny (model PySem.Challenge.rw_bb0063_01.row.prog w) (ktrTop dp un gd cn cs L fa ccd cl outer) (binaryOp .Sub (.ref v1) (.ref v2)) Q E s := by
  obtain ⟨x1, d1, es1, e1, m1, m1'⟩ := FQ.has q1
  obtain ⟨x2, d2, es2, e2, m2, m2'⟩ := FQ.has q2
  cases e1
  cases e2
  have X := H.X
  refine binop_K (K := hd.heap_39 w.params) (C := 234) (f := 113) F H.X (InstAt.of_news N (.tail _ (s1 _ m1)) (.tail _ (s1 _ m1'))) (InstAt.type (InstAt.of_news N (.tail _ (s2 _ m2)) (.tail _ (s2 _ m2')))) (by k_is) (by k_is) (by k_is) ?_
  refine DoesG.use (does_sub w ⟨q, x, y⟩) (small := l1 ++ l2) H.B F H.X N (UpdF.head fun pp hp => nP pp hp) hP G H.T H.hk (Sub.app (Sub.tail s1) (Sub.tail s2)) (NoP.app (NoP.sub nP s1) (NoP.sub nP s2)) ⟨_, _, _, _, rfl, rfl, q1, q2⟩ H.hq (by have := H.hd; show dp + 12 < _; omega) (by have := H.hu; show un + 8 * 12 < _; omega) ?_
  intro r l h' g' tk' oP' hP' F' N' nl G' O
  obtain ⟨xr, dr, esr, er, mr, mr'⟩ := FQ.has O
  cases er
  exact ret xr l h' g' tk' oP' hP' F' (News.sub N' (Sub.cons (List.mem_append_right _ (.head _)) (Sub.app Sub.left (Sub.right (Sub.tail Sub.refl))))) nl G' O

theorem smul_ref {q : Int} {ns : List Str} (H : Here w p loose mean mg mb dp un cs outer A₀ base h₀ L env q ns) {E : Value → Shared → Prop} {x : Int × Int} {k : Int} {t : Tok} {v1 : Addr} {l1 led : List (Addr × Obj)} {m : Str → Option Value} {oP : Obj} {s : Shared} {Q : Value → Shared → Prop} (hk0 : 0 ≤ k ∧ k < 24)
    (F : Fr h₀ L s.heap m) (N : News h₀ L s.heap ((93, oP) :: led)) (hP : TabOk oP) (nP : NoP led) (G : AllBare s.gens) (q1 : FQ q l1 (.ref v1) x) (s1 : Sub l1 led)
    (ret : ∀ r l h' g' tk' oP', TabOk oP' → Fr h₀ L h' m → News h₀ L h' ((93, oP') :: (l ++ led)) → NoP l → AllBare g' → FQ q l (.ref r) (smulF q k x) → Q (.ref r) ⟨h', g', s.drawn, tk', s.os⟩) :
    wpAny (model PySem.Challenge.rw_bb0063_01.row.prog w) (ktrTop dp un gd cn cs L fa ccd cl outer) (binaryOp .Mult (.int k t) (.ref v1)) Q E s := by
  obtain ⟨x1, d1, es1, e1, m1, m1'⟩ := FQ.has q1
  cases e1
  have X := H.X
  refine int_mul_inst (K := hd.heap_39 w.params) (C := 234) (f := 132) (f' := 125) F H.X (InstAt.of_news N (.tail _ (s1 _ m1)) (.tail _ (s1 _ m1'))) (N _ (.tail _ (s1 _ m1))).1 (by k_is) (by k_is) (by k_is) (by k_is) (by k_is) ?_
  refine DoesG.use (does_rmul w ⟨q, x, k⟩) (small := l1) H.B F H.X N (UpdF.head fun pp hp => nP pp hp) hP G H.T H.hk (Sub.tail s1) (NoP.sub nP s1) ⟨_, _, rfl, q1⟩ ⟨H.hq, hk0.1, hk0.2⟩ H.hd H.hu ?_
  intro r l h' g' tk' oP' hP' F' N' nl G' O
  obtain ⟨xr, dr, esr, er, mr, mr'⟩ := FQ.has O
  cases er
  exact ret xr l h' g' tk' oP' hP' F' (News.sub N' (Sub.cons (List.mem_append_right _ (.head _)) (Sub.app Sub.left (Sub.right (Sub.tail Sub.refl))))) nl G' O

theorem evF_ok {q : Int} {ns : List Str} {ρ : Rho} (H : Here w p loose mean mg mb dp un cs outer A₀ base h₀ L env q ns) {E : Value → Shared → Prop} : ∀ (n : Nat) (e : Expr) (z : Int × Int) (led : List (Addr × Obj)) (m : Str → Option Value) (oP : Obj) (s : Shared) (Q : Value → Shared → Prop),
    evF q ρ n e = some z → RhoOk q ns ρ m led → Fr h₀ L s.heap m → News h₀ L s.heap ((93, oP) :: led) → TabOk oP → NoP led → AllBare s.gens →
    (∀ r l h' g' tk' oP', TabOk oP' → Fr h₀ L h' m → News h₀ L h' ((93, oP') :: (l ++ led)) → NoP l → AllBare g' → FQ q l (.ref r) z → Q (.ref r) ⟨h', g', s.drawn, tk', s.os⟩) →
    wpAny (model PySem.Challenge.rw_bb0063_01.row.prog w) (ktrTop dp un gd cn cs L fa ccd cl outer) (eval e env) Q E s
  | 0, _, _, _, _, _, _, _, h, _, _, _, _, _, _, _ => nomatch h
  | n + 1, e, z, led, m, oP, s, Q, h, R, F, N, hP, nP, G, ret => by
    cases e with
    | Name x px =>
      obtain ⟨hx, v, l, hm, hq, hs⟩ := R x z h
      refine wpAny_Name (wpAny_loadName_local H.hek (H.hns x hx).1 (H.hL ▸ F.ns) hm ?_) (H.hns x hx).2
      have := ret v l s.heap s.gens s.toks oP hP F (News.sub N (Sub.cons (.head _) (Sub.app (Sub.tail hs) (Sub.tail Sub.refl)))) (NoP.sub nP hs) G hq
      exact this
    | BinOp l op r pos =>
      refine wpAny_BinOp ?_
      have two : ∀ (a b : Int × Int) (f : Int → Int × Int → Int × Int → Int × Int) (o : Operator), evF q ρ n l = some a → evF q ρ n r = some b → f q a b = z →
          (∀ (x y : Int × Int) (v1 v2 : Addr) (l1 l2 led : List (Addr × Obj)) (oP : Obj) (s : Shared) (Q : Value → Shared → Prop), Fr h₀ L s.heap m → News h₀ L s.heap ((93, oP) :: led) → TabOk oP → NoP led → AllBare s.gens → FQ q l1 (.ref v1) x → FQ q l2 (.ref v2) y → Sub l1 led → Sub l2 led →
            (∀ r l h' g' tk' oP', TabOk oP' → Fr h₀ L h' m → News h₀ L h' ((93, oP') :: (l ++ led)) → NoP l → AllBare g' → FQ q l (.ref r) (f q x y) → Q (.ref r) ⟨h', g', s.drawn, tk', s.os⟩) →
            wpAny (model PySem.Challenge.rw_bb0063_01.row.prog w) (ktrTop dp un gd cn cs L fa ccd cl outer) (binaryOp o (.ref v1) (.ref v2)) Q E s) →
          wpAny (model PySem.Challenge.rw_bb0063_01.row.prog w) (ktrTop dp un gd cn cs L fa ccd cl outer) (eval l env) (fun a s₁ => wpAny (model PySem.Challenge.rw_bb0063_01.row.prog w) (ktrTop dp un gd cn cs L fa ccd cl outer) (eval r env) (fun b s₂ => wpAny (model PySem.Challenge.rw_bb0063_01.row.prog w) (ktrTop dp un gd cn cs L fa ccd cl outer) (binaryOp o a b) Q E s₂) E s₁) E s := by
        intro a b f o ha hb hz rule
        refine evF_ok H n l a led m oP s _ ha R F N hP nP G fun r1 l1 h1 g1 tk1 oP1 T1 F1 N1 n1 G1 q1 => ?_
        refine evF_ok H n r b (l1 ++ led) m oP1 _ _ hb (R.mono (Sub.right Sub.refl)) F1 N1 T1 (NoP.app n1 nP) G1 fun r2 l2 h2 g2 tk2 oP2 T2 F2 N2 n2 G2 q2 => ?_
        refine rule a b r1 r2 l1 l2 (l2 ++ (l1 ++ led)) oP2 _ _ F2 N2 T2 (NoP.app n2 (NoP.app n1 nP)) G2 q1 q2 (Sub.right Sub.left) Sub.left fun r3 l3 h3 g3 tk3 oP3 T3 F3 N3 n3 G3 q3 => ?_
        exact ret r3 l3 h3 g3 tk3 oP3 T3 F3 (News.sub N3 (Sub.cons (.head _) (Sub.tail sub3))) n3 G3 (FQ.cast q3 hz)
      cases op with
      | Mult =>
        by_cases hl : ∃ k u pp, l = .Constant (.int k) u pp
        · obtain ⟨k, u, pp, rfl⟩ := hl
          simp only [evF] at h
          split at h
          · rename_i hk
            cases hr : evF q ρ n r with
            | none => rw [hr] at h; cases h
            | some b =>
              rw [hr] at h
              cases h
              refine wpAny_Constant_int ?_
              refine evF_ok H n r b led m oP _ _ hr R F N hP nP G fun r2 l2 h2 g2 tk2 oP2 T2 F2 N2 n2 G2 q2 => ?_
              refine smul_ref H hk F2 N2 T2 (NoP.app n2 nP) G2 q2 Sub.left fun r3 l3 h3 g3 tk3 oP3 T3 F3 N3 n3 G3 q3 => ?_
              exact ret r3 l3 h3 g3 tk3 oP3 T3 F3 (News.sub N3 (Sub.cons (.head _) (Sub.tail (Sub.app Sub.left (Sub.right (Sub.right Sub.refl)))))) n3 G3 q3
          · cases h
        · have h2 : (match evF q ρ n l, evF q ρ n r with
            | some a, some b => some (mulF q a b)
            | _, _ => none) = some z := by
            rw [← h]
            simp only [evF]
            cases l with
            | Constant c u pp => cases c with
              | int k => exact absurd ⟨k, u, pp, rfl⟩ hl
              | _ => rfl
            | _ => rfl
          cases hl' : evF q ρ n l with
          | none => rw [hl'] at h2; cases h2
          | some a =>
            cases hr' : evF q ρ n r with
            | none => rw [hl', hr'] at h2; cases h2
            | some b =>
              rw [hl', hr'] at h2
              cases h2
              exact two a b mulF .Mult hl' hr' rfl fun x y v1 v2 l1 l2 led oP s Q F N hP nP G q1 q2 s1 s2 ret => mul_ref H F N hP nP G q1 q2 s1 s2 ret
      | Sub =>
        simp only [evF] at h
        cases hl' : evF q ρ n l with
        | none => rw [hl'] at h; cases h
        | some a =>
          cases hr' : evF q ρ n r with
          | none => rw [hl', hr'] at h; cases h
          | some b =>
            rw [hl', hr'] at h
            cases h
            exact two a b subF .Sub hl' hr' rfl fun x y v1 v2 l1 l2 led oP s Q F N hP nP G q1 q2 s1 s2 ret => sub_ref H F N hP nP G q1 q2 s1 s2 ret
      | _ => simp [evF] at h
    | _ => simp [evF] at h

theorem RhoOk.cons {q : Int} {ns : List Str} {ρ : Rho} {m : Str → Option Value} {led l : List (Addr × Obj)} {x : Str} {z : Int × Int} {v : Addr} (h : RhoOk q ns ρ m led) (hx : x ∈ ns) (hq : FQ q l (.ref v) z) :
    RhoOk q ns ((x, z) :: ρ) (fun y => if y = x then some (.ref v) else m y) (l ++ led) := by
  intro y z' e
  rw [List.lookup_cons] at e
  by_cases hy : y = x
  · subst hy
    rw [beq_self_eq_true] at e
    cases e
    exact ⟨hx, v, l, if_pos rfl, hq, Sub.left⟩
  · have hb : (y == x) = false := Bool.eq_false_iff.mpr fun q => hy (beq_iff_eq.mp q)
    rw [hb] at e
    obtain ⟨a, v', l', b, c, d⟩ := h y z' e
    exact ⟨a, v', l', by show (if y = x then _ else _) = _; rw [if_neg hy]; exact b, c, Sub.right d⟩

theorem runF_ok {q : Int} {ns : List Str} (H : Here w p loose mean mg mb dp un cs outer A₀ base h₀ L env q ns) (hp : (env.scope.kind == .class || (env.scope.kind == .module && env.locals != env.globals)) = false) {E : Value → Shared → Prop} {Q : Flow → Shared → Prop} :
    ∀ (n : Nat) (ss : List Stmt) (ρ ρ' : Rho) (rest : List Stmt) (led : List (Addr × Obj)) (m : Str → Option Value) (oP : Obj) (s : Shared),
    runF q ns n ss ρ = some (ρ', rest) → RhoOk q ns ρ m led → Fr h₀ L s.heap m → News h₀ L s.heap ((93, oP) :: led) → TabOk oP → NoP led → AllBare s.gens →
    (∀ m' led' h' g' tk' oP', TabOk oP' → RhoOk q ns ρ' m' led' → Fr h₀ L h' m' → News h₀ L h' ((93, oP') :: led') → Sub led led' → NoP led' → AllBare g' → (∀ x, x ∉ ns → m' x = m x) →
      wpAny (model PySem.Challenge.rw_bb0063_01.row.prog w) (ktrTop dp un gd cn cs L fa ccd cl outer) (execs rest env) Q E ⟨h', g', s.drawn, tk', s.os⟩) →
    wpAny (model PySem.Challenge.rw_bb0063_01.row.prog w) (ktrTop dp un gd cn cs L fa ccd cl outer) (execs ss env) Q E s
  | 0, ss, ρ, ρ', rest, led, m, oP, s, h, R, F, N, hP, nP, G, ret => by
    cases h
    exact ret m led s.heap s.gens s.toks oP hP R F N Sub.refl nP G fun _ _ => rfl
  | n + 1, [], ρ, ρ', rest, led, m, oP, s, h, R, F, N, hP, nP, G, ret => by simp [runF] at h
  | n + 1, st :: ss, ρ, ρ', rest, led, m, oP, s, h, R, F, N, hP, nP, G, ret => by
    by_cases hst : ∃ x px e pos, st = .Assign [.Name x px] e pos
    · obtain ⟨x, px, e, pos, rfl⟩ := hst
      simp only [runF] at h
      split at h
      · rename_i hx
        have hx' : x ∈ ns := List.contains_iff_mem.mp hx
        cases he : evF q ρ 8 e with
        | none => rw [he] at h; cases h
        | some z =>
          rw [he] at h
          refine wpAny_execs_cons (wpAny_Assign_Name ?_ (swaps_evF he))
          refine evF_ok H 8 e z led m oP s _ he R F N hP nP G fun r1 l1 h1 g1 tk1 oP1 T1 F1 N1 n1 G1 q1 => ?_
          refine wpAny_storeName_local (H.hns x hx').1 (H.hL.symm ▸ F1.ns) (fun h2 hn2 hs2 => ?_) hp
          replace hn2 : h2.Ns L _ := H.hL ▸ hn2
          replace hs2 : Heap.SameBut L h1 h2 := H.hL ▸ hs2
          refine runF_ok H hp n ss ((x, z) :: ρ) ρ' rest (l1 ++ led) _ oP1 _ h (R.cons hx' q1) (F1.set hn2 hs2) (fun pp hpp => ?_) T1 (NoP.app n1 nP) G1 fun m' led' h' g' tk' oP' T' R' F' N' sb nP' G' same => ?_
          · have z := N1 pp hpp
            exact ⟨hs2.extBut _ _ z.2.1 z.1, z.2⟩
          · refine ret m' led' h' g' tk' oP' T' R' F' N' ((Sub.right Sub.refl).trans sb) nP' G' fun y hy => ?_
            rw [same y hy, if_neg]
            rintro rfl
            exact hy hx'
      · cases h
    · exfalso
      revert h
      unfold runF
      split
      · rename_i heq; cases heq
      · rename_i heq; cases heq; exact absurd ⟨_, _, _, _, rfl⟩ hst
      · intro h; cases h
end
theorem RhoOk.nil {q : Int} {ns : List Str} {m : Str → Option Value} {led : List (Addr × Obj)} : RhoOk q ns [] m led := fun _ _ e => nomatch e
theorem RhoOk.add {q : Int} {ns : List Str} {ρ : Rho} {m : Str → Option Value} {led l : List (Addr × Obj)} {x : Str} {z : Int × Int} {v : Addr} (h : RhoOk q ns ρ m led) (hx : x ∈ ns) (hm : m x = some (.ref v)) (hq : FQ q l (.ref v) z) (hs : Sub l led) : RhoOk q ns ((x, z) :: ρ) m led := by
  intro y z' e
  rw [List.lookup_cons] at e
  by_cases hy : y = x
  · subst hy
    rw [beq_self_eq_true] at e
    cases e
    exact ⟨hx, v, l, hm, hq, hs⟩
  · have hb : (y == x) = false := Bool.eq_false_iff.mpr fun q => hy (beq_iff_eq.mp q)
    rw [hb] at e
    exact h y z' e
theorem frB {h₀ h : Heap} {L : Addr} {m : Str → Option Value} (ps : List (Str × Value)) (hps : ∀ p ∈ ps, m p.1 = some p.2) (F : Fr h₀ L h m) : Fr h₀ L h (kstB m ps) := by
  have e : kstB m ps = m := by
    funext y
    exact kstB_eq hps fun _ => rfl
  rw [e]; exact F
abbrev P3 : Type := (Int × Int) × (Int × Int) × (Int × Int)
/-- a form of a point, as it lies -/
def PtF (p : Int) (l : List (Addr × Obj)) (v : Value) (P : P3) : Prop :=
  ∃ t n vx vy vz lx ly lz, v = .ref t ∧ @Ne Nat t 93 ∧ l = (t, tupO [.ref vx, .ref vy, .ref vz] n) :: (lx ++ (ly ++ lz)) ∧ FQ p lx (.ref vx) P.1 ∧ FQ p ly (.ref vy) P.2.1 ∧ FQ p lz (.ref vz) P.2.2
theorem PtF.noP {p : Int} {l : List (Addr × Obj)} {v : Value} {P : P3} (h : PtF p l v P) : NoP l := by
  obtain ⟨t, n, vx, vy, vz, lx, ly, lz, rfl, ht, rfl, a, b, c⟩ := h
  exact NoP.cons ht (NoP.app a.noP (NoP.app b.noP c.noP))
structure DPt where
  p : Int
  P : P3
abbrev RelPt (small : List (Addr × Obj)) (vs : List Value) (d : DPt) : Prop := ∃ v, vs = [v] ∧ PtF d.p small v d.P
def dblF (p : Int) (P : P3) : P3 :=
  let x := P.1
  let y := P.2.1
  let z := P.2.2
  let W := mulF p (smulF p 3 x) x
  let S := mulF p y z
  let B := mulF p (mulF p x y) S
  let H := subF p (mulF p W W) (smulF p 8 B)
  let S2 := mulF p S S
  (mulF p (smulF p 2 H) S, subF p (mulF p W (subF p (smulF p 4 B) H)) (mulF p (mulF p (smulF p 8 y) y) S2), mulF p (smulF p 8 S) S2)
end

section
open PySem PySem.W PySem.Calls PyProof.Rows
-- the walk's own lines

-- containments, the table's place

-- quicker lines
local macro_rules | `(tactic| walk_at "setItem ref int") => `(tactic| (k_here; (with_reducible show wpAny _ _ (PySem.setItem (Value.ref _) (Value.int _ _) (Value.int _ _)) _ _ _); (refine gen_set ?_; intro z' tz' hz'); k_dflt (refine' ki_set ?F ?N ?a ?b ?e ?U ?_; (case F => k_asm); (case N => k_asm); (case U => k_upd); (case a => decide); (case b => decide); (case e => rfl)); intro h' F' N'; (try dsimp only [List.nil_append, List.cons_append] at N'); (try k_sweep)))
local macro_rules | `(tactic| walk_at "pyIter ref") => `(tactic| ((with_reducible show wpAny _ _ (pyIter (Value.ref _)) (fun it s₂ => LoopAtV _ _ _ _ _ _ _ _ _ it s₂) _ _); k_here; k_dflt (l_hasStore; krs_unr)))
local macro_rules | `(tactic| walk_at "UnrEndW") => `(tactic| (k_dflt ktu_end))
local macro_rules | `(tactic| walk_at "exec AugAssign Subscript") => `(tactic| (k_dflt (refine wpAny_AugAssign_SubscriptAny ?_)))

local macro_rules | `(tactic| kas_types) => `(tactic| first | (with_reducible exact List.mem_cons_self) | ((with_reducible refine List.mem_cons_of_mem _ ?_); kas_types) | ((with_reducible refine List.mem_append_left _ ?_); kas_types) | ((with_reducible refine List.mem_append_right _ ?_); kas_types) | (with_reducible assumption))
local macro_rules | `(tactic| k_mem) => `(tactic| kas_types)

local macro_rules | `(tactic| walk_at "execs cons") => `(tactic| (k_here; (with_reducible show wpAny _ _ (execs (Stmt.Assign [PySem.Expr.Name _ _] (PySem.Expr.BinOp _ _ _ _) _ :: _) _) _ _ _); refine halt ?_))

abbrev cdbl : Told DPt where
  Rel := RelPt
  Ok := fun d => d.p < 24
  size := fun _ => 20
  Out := fun l r d => PtF d.p l r (dblF d.p d.P)
set_option maxRecDepth 100000 in
set_option maxHeartbeats 1600000 in
theorem does_dbl (w : World) (d : DPt) : DoesG w 35 cdbl d := by
  w_top off
  unfold DoesG
  k_fill
  intro p loose mean mg mb dp un gd cn cs a ccd cl outer A₀ base h₀ L m news small oP s vs Q E B F X N hP nP G T hk hs hR hok hd hu hret
  obtain ⟨dp, P⟩ := d
  obtain ⟨v, rfl, hR⟩ := hR
  dsimp only at *
  obtain ⟨t, n, vx, vy, vz, lx, ly, lz, rfl, ht93, rfl, hqx, hqy, hqz⟩ := hR
  have npx := hqx.noP
  have npy := hqy.noP
  have npz := hqz.noP
  have N0 := News.sub N (Sub.cons (q := (93, oP)) (.head _) (Sub.tail hs))
  refine wpAny_call ?_
  k_dflt (refine' code_M ?k1 ?k2 ?k3 N0 ?k5 ?kA ?kF ?kK ?k6 ?k7 ?k8 ?k9 ?kB ?_ ?c2 ?c3 ?c4 ?c5; (case kA => exact rfl); (case kF => exact rfl); (case kK => assumption); (case k1 => k_asm); (case k2 => k_asm); (case k3 => k_asm); (case k5 => k_asm); (case k6 => k_is); (case k7 => k_is); (case k8 => ktr_room); (case k9 => exact BindsTo.of_eq rfl); (case kB => exact locs rfl); (case c2 => exact rfl); (case c3 => exact rfl); (case c4 => exact rfl); (case c5 => decide); k_whole)
  intro g' L' h1' FG' F1' N1' B' X' T'; (try dsimp only); (try k_lift B'); (try k_fold)
  clear N0
  k_steps
  unfold Halt
  k_dflt (refine' runF_ok (q := dp) (ns := [("x" : Str), ("y" : Str), ("z" : Str), ("W" : Str), ("S" : Str), ("B" : Str), ("H" : Str), ("S_squared" : Str), ("newx" : Str), ("newy" : Str), ("newz" : Str)]) ⟨?hB, ?hX, ?hT, ?hk9, ?hd9, ?hu9, ?hq9, ?hL9, ?hek9, ?hns9⟩ ?hp9 8 _ _ _ _ _ _ _ _ ?hrun (RhoOk.add (x := ("z" : Str)) (RhoOk.add (x := ("y" : Str)) (RhoOk.add (x := ("x" : Str)) RhoOk.nil ?rx0 ?rm0 hqx ?rs0) ?rx1 ?rm1 hqy ?rs1) ?rx2 ?rm2 hqz ?rs2) ?hF ?hN ?hP9 ?hnP ?hG ?ret; (case hF => k_asm); (case hN => k_asm); (case rx0 => decide); (case rm0 => exact rfl); (case rs0 => kd_subs); (case rx1 => decide); (case rm1 => exact rfl); (case rs1 => kd_subs); (case rx2 => decide); (case rm2 => exact rfl); (case rs2 => kd_subs); (case hB => k_asm); (case hX => k_asm); (case hT => k_asm); (case hk9 => first | exact rfl | assumption); (case hd9 => kd_p1); (case hu9 => kd_p1); (case hq9 => assumption); (case hL9 => exact rfl); (case hek9 => exact rfl); (case hp9 => exact rfl); (case hrun => exact rfl); (case hP9 => assumption); (case hnP => kd_p); (case hG => k_asm))
  case hns9 =>
    intro x hx
    simp only [List.mem_cons, List.not_mem_nil, or_false] at hx
    rcases hx with rfl | rfl | rfl | rfl | rfl | rfl | rfl | rfl | rfl | rfl | rfl <;> exact ⟨rfl, by decide⟩
  intro m9 led9 h9 g9 tk9 oP9 T9 R9 F9 N9 sb9 nP9 G9 same9
  obtain ⟨_, vA, lA, hmA, qA, sA⟩ := R9 "newx" _ rfl
  obtain ⟨_, vB, lB, hmB, qB, sB⟩ := R9 "newy" _ rfl
  obtain ⟨_, vC, lC, hmC, qC, sC⟩ := R9 "newz" _ rfl
  replace F9 := frB [("newx", .ref vA), ("newy", .ref vB), ("newz", .ref vC)] (by intro p hp; simp only [List.mem_cons, List.not_mem_nil, or_false] at hp; rcases hp with rfl | rfl | rfl <;> assumption) F9
  dsimp only [kstB] at F9
  k_steps
  all_goals (
    refine' hret _ _ _ _ _ _ ?tab ?F (backG N nP hs ?kN ?kK ?s1 ?s2 ?s3) ?np ?G ?out
    case out => (refine' ⟨_, 0, _, _, _, _, _, _, rfl, ?ne, rfl, qA, qB, qC⟩; case ne => kd_adr)
    case kN => assumption
    case kK => assumption
    case F => assumption
    case s2 => kd_subs
    case s3 => k_mem
    case s1 => kd_subs
    case tab => assumption
    case G => assumption
    case np => kd_p)

end

section
open PySem PySem.W PySem.Calls PyProof.Rows
-- the walk's own lines

-- containments, the table's place

-- quicker lines
local macro_rules | `(tactic| walk_at "setItem ref int") => `(tactic| (k_here; (with_reducible show wpAny _ _ (PySem.setItem (Value.ref _) (Value.int _ _) (Value.int _ _)) _ _ _); (refine gen_set ?_; intro z' tz' hz'); k_dflt (refine' ki_set ?F ?N ?a ?b ?e ?U ?_; (case F => k_asm); (case N => k_asm); (case U => k_upd); (case a => decide); (case b => decide); (case e => rfl)); intro h' F' N'; (try dsimp only [List.nil_append, List.cons_append] at N'); (try k_sweep)))
local macro_rules | `(tactic| walk_at "pyIter ref") => `(tactic| ((with_reducible show wpAny _ _ (pyIter (Value.ref _)) (fun it s₂ => LoopAtV _ _ _ _ _ _ _ _ _ it s₂) _ _); k_here; k_dflt (l_hasStore; krs_unr)))
local macro_rules | `(tactic| walk_at "UnrEndW") => `(tactic| (k_dflt ktu_end))
local macro_rules | `(tactic| walk_at "exec AugAssign Subscript") => `(tactic| (k_dflt (refine wpAny_AugAssign_SubscriptAny ?_)))

local macro_rules | `(tactic| walk_at "subscriptTail") => `(tactic| (k_here; (with_reducible show wpAny _ _ (subscriptTail _ _ (Value.ref _) (Value.int _ _)) _ _ _); k_dflt (refine' item_led ?N ?m ?a ?b ?x ?_ ?s; (case N => k_asm); (case m => kas_types); (case a => decide); (case b => decide); (case x => rfl); (case s => with_unfolding_all rfl))))
local macro_rules | `(tactic| walk_at "inplaceOp Add ref") => `(tactic| (k_here; (with_reducible show wpAny _ _ (inplaceOp Operator.Add (Value.ref _) (Value.ref _)) _ _ _); k_dflt (refine' iadd_list ?F ?N ?b ?e ?ne ?U ?d ?z ?y ?_; (case F => k_asm); (case N => k_asm); (case b => k_mem); (case U => k_upd); (case e => kl_lit); (case ne => kl_some); (case d => kl_no); (case z => kl_room); (case y => kl_room)); intro h' F' N'; (try dsimp only [List.nil_append, List.cons_append] at N'); (try k_sweep)))
local macro_rules | `(tactic| walk_at "compareOp Eq ref") => `(tactic| (k_here; (with_reducible show wpAny _ _ (compareOp CmpOp.Eq (Value.ref _) (Value.ref _)) _ _ _); (refine cmp_ofEq ?_); k_dflt (refine' cmp_K ?k1 ?k2 ?k3 ?k4 ?k5 ?k6 ?k7 ?k8 ?_; (case k1 => ktr_units); (case k2 => k_asm); (case k3 => k_asm); (case k4 => k_inst); (case k5 => k_typeOf); (case k6 => k_is); (case k7 => k_is); (case k8 => k_is); k_whole)))
local macro_rules | `(tactic| walk_at "compareOp NotEq ref") => `(tactic| (k_here; (with_reducible show wpAny _ _ (compareOp CmpOp.NotEq (Value.ref _) (Value.ref _)) _ _ _); (refine cmp_ofNotEq ?_); k_dflt (refine' cmp_K ?k1 ?k2 ?k3 ?k4 ?k5 ?k6 ?k7 ?k8 ?_; (case k1 => ktr_units); (case k2 => k_asm); (case k3 => k_asm); (case k4 => k_inst); (case k5 => k_typeOf); (case k6 => k_is); (case k7 => k_is); (case k8 => k_is); k_whole)))
local macro_rules | `(tactic| kd_adr) => `(tactic| first | (with_reducible assumption) | (refine' Ne.symm ?_; with_reducible assumption) | (refine' ne93_of ?h6 ?m6; (case h6 => with_reducible assumption); (case m6 => kas_types)))

local macro_rules | `(tactic| kas_types) => `(tactic| first | (with_reducible exact List.mem_cons_self) | ((with_reducible refine List.mem_cons_of_mem _ ?_); kas_types) | ((with_reducible refine List.mem_append_left _ ?_); kas_types) | ((with_reducible refine List.mem_append_right _ ?_); kas_types) | (with_reducible assumption))
local macro_rules | `(tactic| k_mem) => `(tactic| kas_types)

local macro_rules | `(tactic| walk_at "call ref") => `(tactic| (k_here; (with_reducible show wpAny _ _ (call (Value.ref 202) _) _ _ _); k_dflt (refine' DoesG.use (does_zero _ ⟨_, _⟩) ?zB ?zF ?zX ?zN ?zU ?zP ?zG ?zT ?zk ?zs ?zn ⟨_, rfl, ?zq⟩ ?zo ?zd ?zu ?_; (case zk => first | exact rfl | assumption); (case zB => k_asm); (case zF => k_asm); (case zX => k_asm); (case zN => k_asm); (case zT => k_asm); (case zq => assumption); (case zs => kd_subs); (case zP => first | assumption | exact ⟨_, rfl, by assumption⟩); (case zG => k_asm); (case zn => kd_p); (case zU => k_updF); (case zo => (first | ((dsimp only; assumption)) | fail "Ok")); (case zd => kd_p1); (case zu => kd_p1)); intro r' l' h' g' tk' oP' hP' F' N' nl' G' O'; (try dsimp only at N'); (try dsimp only at O'); (obtain ⟨x', d', es', e9', m1', m2'⟩ := FQ.has O'); subst e9'; (try dsimp only [PySem.W.CmpBack]); (try k_sweep)))

local macro_rules | `(tactic| walk_at "call ref") => `(tactic| (k_here; (with_reducible show wpAny _ _ (call (Value.ref 168) _) _ _ _); k_dflt (refine' Does.use (does_eq _ ⟨_, _, _⟩) ?zB ?zF ?zX ?zN ?zT ?zk ?zs ⟨_, _, _, _, rfl, rfl, ?zq, ?zr⟩ ?zo ?zd ?zu ?_; (case zk => first | exact rfl | assumption); (case zB => k_asm); (case zF => k_asm); (case zX => k_asm); (case zN => k_asm); (case zT => k_asm); (case zq => assumption); (case zr => assumption); (case zs => kd_subs); (case zo => (first | ((dsimp only; assumption)) | fail "Ok")); (case zd => kd_p1); (case zu => kd_p1)); intro r' l' h' tk' F' N' O'; (try dsimp only at O'); (obtain ⟨e1', e2'⟩ := O'); subst e1'; subst e2'; (try simp only [List.nil_append] at N'); (try dsimp only [PySem.W.CmpBack]); (try k_sweep)))

abbrev cinf : Told DPt where
  Rel := RelPt
  Ok := fun d => d.p < 24
  size := fun _ => 20
  Out := fun _ r d => r = .bool (decide (d.P.2.2 = (0, 0)))
set_option maxRecDepth 100000 in
set_option maxHeartbeats 1600000 in
theorem does_inf (w : World) (d : DPt) : DoesG w 28 cinf d := by
  w_top off
  unfold DoesG
  k_fill
  intro p loose mean mg mb dp un gd cn cs a ccd cl outer A₀ base h₀ L m news small oP s vs Q E B F X N hP nP G T hk hs hR hok hd hu hret
  obtain ⟨dp, P⟩ := d
  obtain ⟨v, rfl, hR⟩ := hR
  dsimp only at *
  obtain ⟨t, n, vx, vy, vz, lx, ly, lz, rfl, ht93, rfl, hqx, hqy, hqz⟩ := hR
  have npx := hqx.noP
  have npy := hqy.noP
  have npz := hqz.noP
  have hqz0 := hqz
  cases hqz
  have N0 := News.sub N (Sub.cons (q := (93, oP)) (.head _) (Sub.tail hs))
  refine wpAny_call ?_
  k_dflt (refine' code_M ?k1 ?k2 ?k3 N0 ?k5 ?kA ?kF ?kK ?k6 ?k7 ?k8 ?k9 ?kB ?_ ?c2 ?c3 ?c4 ?c5; (case kA => exact rfl); (case kF => exact rfl); (case kK => assumption); (case k1 => k_asm); (case k2 => k_asm); (case k3 => k_asm); (case k5 => k_asm); (case k6 => k_is); (case k7 => k_is); (case k8 => ktr_room); (case k9 => exact BindsTo.of_eq rfl); (case kB => exact locs rfl); (case c2 => exact rfl); (case c3 => exact rfl); (case c4 => exact rfl); (case c5 => decide); k_whole)
  intro g' L' h1' FG' F1' N1' B' X' T'; (try dsimp only); (try k_lift B'); (try k_fold)
  clear N0
  k_steps
  all_goals (
    refine' hret _ [] _ _ _ _ ?tab ?F (backG N nP hs ?kN ?kK ?s1 Sub.nil ?s3) NoP.nil ?G ?out
    case out => (simp only [Int.zero_emod]; rfl)
    case kN => assumption
    case kK => assumption
    case F => assumption
    case s3 => k_mem
    case s1 => kd_subs
    case tab => assumption
    case G => assumption)

end

section
open PySem PySem.W PySem.Calls PyProof.Rows
-- the walk's own lines

-- containments, the table's place

-- quicker lines
local macro_rules | `(tactic| walk_at "setItem ref int") => `(tactic| (k_here; (with_reducible show wpAny _ _ (PySem.setItem (Value.ref _) (Value.int _ _) (Value.int _ _)) _ _ _); (refine gen_set ?_; intro z' tz' hz'); k_dflt (refine' ki_set ?F ?N ?a ?b ?e ?U ?_; (case F => k_asm); (case N => k_asm); (case U => k_upd); (case a => decide); (case b => decide); (case e => rfl)); intro h' F' N'; (try dsimp only [List.nil_append, List.cons_append] at N'); (try k_sweep)))
local macro_rules | `(tactic| walk_at "pyIter ref") => `(tactic| ((with_reducible show wpAny _ _ (pyIter (Value.ref _)) (fun it s₂ => LoopAtV _ _ _ _ _ _ _ _ _ it s₂) _ _); k_here; k_dflt (l_hasStore; krs_unr)))
local macro_rules | `(tactic| walk_at "UnrEndW") => `(tactic| (k_dflt ktu_end))
local macro_rules | `(tactic| walk_at "exec AugAssign Subscript") => `(tactic| (k_dflt (refine wpAny_AugAssign_SubscriptAny ?_)))

local macro_rules | `(tactic| walk_at "subscriptTail") => `(tactic| (k_here; (with_reducible show wpAny _ _ (subscriptTail _ _ (Value.ref _) (Value.int _ _)) _ _ _); k_dflt (refine' item_led ?N ?m ?a ?b ?x ?_ ?s; (case N => k_asm); (case m => kas_types); (case a => decide); (case b => decide); (case x => rfl); (case s => with_unfolding_all rfl))))
local macro_rules | `(tactic| walk_at "inplaceOp Add ref") => `(tactic| (k_here; (with_reducible show wpAny _ _ (inplaceOp Operator.Add (Value.ref _) (Value.ref _)) _ _ _); k_dflt (refine' iadd_list ?F ?N ?b ?e ?ne ?U ?d ?z ?y ?_; (case F => k_asm); (case N => k_asm); (case b => k_mem); (case U => k_upd); (case e => kl_lit); (case ne => kl_some); (case d => kl_no); (case z => kl_room); (case y => kl_room)); intro h' F' N'; (try dsimp only [List.nil_append, List.cons_append] at N'); (try k_sweep)))
local macro_rules | `(tactic| walk_at "compareOp Eq ref") => `(tactic| (k_here; (with_reducible show wpAny _ _ (compareOp CmpOp.Eq (Value.ref _) (Value.ref _)) _ _ _); (refine cmp_ofEq ?_); k_dflt (refine' cmp_K ?k1 ?k2 ?k3 ?k4 ?k5 ?k6 ?k7 ?k8 ?_; (case k1 => ktr_units); (case k2 => k_asm); (case k3 => k_asm); (case k4 => k_inst); (case k5 => k_typeOf); (case k6 => k_is); (case k7 => k_is); (case k8 => k_is); k_whole)))
local macro_rules | `(tactic| walk_at "compareOp NotEq ref") => `(tactic| (k_here; (with_reducible show wpAny _ _ (compareOp CmpOp.NotEq (Value.ref _) (Value.ref _)) _ _ _); (refine cmp_ofNotEq ?_); k_dflt (refine' cmp_K ?k1 ?k2 ?k3 ?k4 ?k5 ?k6 ?k7 ?k8 ?_; (case k1 => ktr_units); (case k2 => k_asm); (case k3 => k_asm); (case k4 => k_inst); (case k5 => k_typeOf); (case k6 => k_is); (case k7 => k_is); (case k8 => k_is); k_whole)))
local macro_rules | `(tactic| kd_adr) => `(tactic| first | (with_reducible assumption) | (refine' Ne.symm ?_; with_reducible assumption) | (refine' ne93_of ?h6 ?m6; (case h6 => with_reducible assumption); (case m6 => kas_types)))

local macro_rules | `(tactic| kas_types) => `(tactic| first | (with_reducible exact List.mem_cons_self) | ((with_reducible refine List.mem_cons_of_mem _ ?_); kas_types) | ((with_reducible refine List.mem_append_left _ ?_); kas_types) | ((with_reducible refine List.mem_append_right _ ?_); kas_types) | (with_reducible assumption))
local macro_rules | `(tactic| k_mem) => `(tactic| kas_types)

local macro_rules | `(tactic| walk_at "call ref") => `(tactic| (k_here; (with_reducible show wpAny _ _ (call (Value.ref 180) _) _ _ _); k_dflt (refine' DoesG.use (does_neg _ ⟨_, _⟩) ?zB ?zF ?zX ?zN ?zU ?zP ?zG ?zT ?zk ?zs ?zn ⟨_, rfl, ?zq⟩ ?zo ?zd ?zu ?_; (case zk => first | exact rfl | assumption); (case zB => k_asm); (case zF => k_asm); (case zX => k_asm); (case zN => k_asm); (case zT => k_asm); (case zq => assumption); (case zs => kd_subs); (case zP => first | assumption | exact ⟨_, rfl, by assumption⟩); (case zG => k_asm); (case zn => kd_p); (case zU => k_updF); (case zo => (first | ((dsimp only; assumption)) | fail "Ok")); (case zd => kd_p1); (case zu => kd_p1)); intro r' l' h' g' tk' oP' hP' F' N' nl' G' O'; (try dsimp only at N'); (try dsimp only at O'); (obtain ⟨x', d', es', e9', m1', m2'⟩ := FQ.has O'); subst e9'; (try dsimp only [PySem.W.CmpBack]); (try k_sweep)))

def ngF (p : Int) (P : P3) : P3 := (P.1, negF p P.2.1, P.2.2)
abbrev cngp : Told DPt where
  Rel := RelPt
  Ok := fun d => d.p < 24
  size := fun _ => 20
  Out := fun l r d => PtF d.p l r (ngF d.p d.P)
set_option maxRecDepth 100000 in
set_option maxHeartbeats 1600000 in
theorem does_ngp (w : World) (d : DPt) : DoesG w 70 cngp d := by
  w_top off
  unfold DoesG
  k_fill
  intro p loose mean mg mb dp un gd cn cs a ccd cl outer A₀ base h₀ L m news small oP s vs Q E B F X N hP nP G T hk hs hR hok hd hu hret
  obtain ⟨dp, P⟩ := d
  obtain ⟨v, rfl, hR⟩ := hR
  dsimp only at *
  obtain ⟨t, n, vx, vy, vz, lx, ly, lz, rfl, ht93, rfl, hqx, hqy, hqz⟩ := hR
  have npx := hqx.noP
  have npy := hqy.noP
  have npz := hqz.noP
  obtain ⟨wx, ox, ex, wy1, mx1, mx2⟩ := FQ.has hqx
  obtain ⟨wy, oy, ey, wy2, my1, my2⟩ := FQ.has hqy
  obtain ⟨wz, oz, ez, wy3, mz1, mz2⟩ := FQ.has hqz
  cases wy1
  cases wy2
  cases wy3
  have N0 := News.sub N (Sub.cons (q := (93, oP)) (.head _) (Sub.tail hs))
  refine wpAny_call ?_
  k_dflt (refine' code_M ?k1 ?k2 ?k3 N0 ?k5 ?kA ?kF ?kK ?k6 ?k7 ?k8 ?k9 ?kB ?_ ?c2 ?c3 ?c4 ?c5; (case kA => exact rfl); (case kF => exact rfl); (case kK => assumption); (case k1 => k_asm); (case k2 => k_asm); (case k3 => k_asm); (case k5 => k_asm); (case k6 => k_is); (case k7 => k_is); (case k8 => ktr_room); (case k9 => exact BindsTo.of_eq rfl); (case kB => exact locs rfl); (case c2 => exact rfl); (case c3 => exact rfl); (case c4 => exact rfl); (case c5 => decide); k_whole)
  intro g' L' h1' FG' F1' N1' B' X' T'; (try dsimp only); (try k_lift B'); (try k_fold)
  clear N0
  k_steps
  all_goals (
    refine' hret _ _ _ _ _ _ ?tab ?F (backG N nP hs ?kN ?kK ?s1 ?s2 ?s3) ?np ?G ?out
    case out => (refine' ⟨_, 0, _, _, _, _, _, _, rfl, ?ne, rfl, hqx, by assumption, hqz⟩; case ne => kd_adr)
    case kN => assumption
    case kK => assumption
    case F => assumption
    case s2 => kd_subs
    case s3 => k_mem
    case s1 => kd_subs
    case tab => assumption
    case G => assumption
    case np => kd_p)

end

section
local macro_rules | `(tactic| walk_at "pad 0") => `(tactic| fail)
local macro_rules | `(tactic| walk_at "pad 1") => `(tactic| fail)
local macro_rules | `(tactic| walk_at "pad 2") => `(tactic| fail)
open PySem PySem.W PySem.Calls PyProof.Rows
-- the walk's own lines

-- containments, the table's place

-- quicker lines
local macro_rules | `(tactic| walk_at "setItem ref int") => `(tactic| (k_here; (with_reducible show wpAny _ _ (PySem.setItem (Value.ref _) (Value.int _ _) (Value.int _ _)) _ _ _); (refine gen_set ?_; intro z' tz' hz'); k_dflt (refine' ki_set ?F ?N ?a ?b ?e ?U ?_; (case F => k_asm); (case N => k_asm); (case U => k_upd); (case a => decide); (case b => decide); (case e => rfl)); intro h' F' N'; (try dsimp only [List.nil_append, List.cons_append] at N'); (try k_sweep)))
local macro_rules | `(tactic| walk_at "pyIter ref") => `(tactic| ((with_reducible show wpAny _ _ (pyIter (Value.ref _)) (fun it s₂ => LoopAtV _ _ _ _ _ _ _ _ _ it s₂) _ _); k_here; k_dflt (l_hasStore; krs_unr)))
local macro_rules | `(tactic| walk_at "UnrEndW") => `(tactic| (k_dflt ktu_end))
local macro_rules | `(tactic| walk_at "exec AugAssign Subscript") => `(tactic| (k_dflt (refine wpAny_AugAssign_SubscriptAny ?_)))

local macro_rules | `(tactic| walk_at "subscriptTail") => `(tactic| (k_here; (with_reducible show wpAny _ _ (subscriptTail _ _ (Value.ref _) (Value.int _ _)) _ _ _); k_dflt (refine' item_led ?N ?m ?a ?b ?x ?_ ?s; (case N => k_asm); (case m => kas_types); (case a => decide); (case b => decide); (case x => rfl); (case s => with_unfolding_all rfl))))
local macro_rules | `(tactic| walk_at "inplaceOp Add ref") => `(tactic| (k_here; (with_reducible show wpAny _ _ (inplaceOp Operator.Add (Value.ref _) (Value.ref _)) _ _ _); k_dflt (refine' iadd_list ?F ?N ?b ?e ?ne ?U ?d ?z ?y ?_; (case F => k_asm); (case N => k_asm); (case b => k_mem); (case U => k_upd); (case e => kl_lit); (case ne => kl_some); (case d => kl_no); (case z => kl_room); (case y => kl_room)); intro h' F' N'; (try dsimp only [List.nil_append, List.cons_append] at N'); (try k_sweep)))
local macro_rules | `(tactic| walk_at "compareOp Eq ref") => `(tactic| (k_here; (with_reducible show wpAny _ _ (compareOp CmpOp.Eq (Value.ref _) (Value.ref _)) _ _ _); (refine cmp_ofEq ?_); k_dflt (refine' cmp_K ?k1 ?k2 ?k3 ?k4 ?k5 ?k6 ?k7 ?k8 ?_; (case k1 => ktr_units); (case k2 => k_asm); (case k3 => k_asm); (case k4 => k_inst); (case k5 => k_typeOf); (case k6 => k_is); (case k7 => k_is); (case k8 => k_is); k_whole)))
local macro_rules | `(tactic| walk_at "compareOp NotEq ref") => `(tactic| (k_here; (with_reducible show wpAny _ _ (compareOp CmpOp.NotEq (Value.ref _) (Value.ref _)) _ _ _); (refine cmp_ofNotEq ?_); k_dflt (refine' cmp_K ?k1 ?k2 ?k3 ?k4 ?k5 ?k6 ?k7 ?k8 ?_; (case k1 => ktr_units); (case k2 => k_asm); (case k3 => k_asm); (case k4 => k_inst); (case k5 => k_typeOf); (case k6 => k_is); (case k7 => k_is); (case k8 => k_is); k_whole)))
local macro_rules | `(tactic| kd_adr) => `(tactic| first | (with_reducible assumption) | (refine' Ne.symm ?_; with_reducible assumption) | (refine' ne93_of ?h6 ?m6; (case h6 => with_reducible assumption); (case m6 => kas_types)))

local macro_rules | `(tactic| kas_types) => `(tactic| first | (with_reducible exact List.mem_cons_self) | ((with_reducible refine List.mem_cons_of_mem _ ?_); kas_types) | ((with_reducible refine List.mem_append_left _ ?_); kas_types) | ((with_reducible refine List.mem_append_right _ ?_); kas_types) | (with_reducible assumption))
local macro_rules | `(tactic| k_mem) => `(tactic| kas_types)

local macro_rules | `(tactic| walk_at "call ref") => `(tactic| (k_here; (with_reducible show wpAny _ _ (call (Value.ref 125) _) _ _ _); k_dflt (refine' DoesG.use (does_mul _ ⟨_, _, _⟩) ?zB ?zF ?zX ?zN ?zU ?zP ?zG ?zT ?zk ?zs ?zn ⟨_, _, _, _, rfl, rfl, ?zq, ?zr⟩ ?zo ?zd ?zu ?_; (case zk => first | exact rfl | assumption); (case zB => k_asm); (case zF => k_asm); (case zX => k_asm); (case zN => k_asm); (case zT => k_asm); (case zq => assumption); (case zr => assumption); (case zs => kd_subs); (case zP => first | assumption | exact ⟨_, rfl, by assumption⟩); (case zG => k_asm); (case zn => kd_p); (case zU => k_updF); (case zo => (first | ((dsimp only); assumption) | fail "Ok")); (case zd => kd_p1); (case zu => kd_p1)); intro r' l' h' g' tk' oP' hP' F' N' nl' G' O'; (try dsimp only at N'); (try dsimp only at O'); (obtain ⟨x', d', es', e9', m1', m2'⟩ := FQ.has O'); subst e9'; (try dsimp only [PySem.W.CmpBack]); (try k_sweep)))

local macro_rules | `(tactic| walk_at "call ref") => `(tactic| (k_here; (with_reducible show wpAny _ _ (call (Value.ref 168) _) _ _ _); k_dflt (refine' Does.use (does_eq _ ⟨_, _, _⟩) ?zB ?zF ?zX ?zN ?zT ?zk ?zs ⟨_, _, _, _, rfl, rfl, ?zq, ?zr⟩ ?zo ?zd ?zu ?_; (case zk => first | exact rfl | assumption); (case zB => k_asm); (case zF => k_asm); (case zX => k_asm); (case zN => k_asm); (case zT => k_asm); (case zq => assumption); (case zr => assumption); (case zs => kd_subs); (case zo => (first | ((dsimp only; assumption)) | fail "Ok")); (case zd => kd_p1); (case zu => kd_p1)); intro r' l' h' tk' F' N' O'; (try dsimp only at O'); (obtain ⟨e1', e2'⟩ := O'); subst e1'; subst e2'; (try simp only [List.nil_append] at N'); (try dsimp only [PySem.W.CmpBack]); (try k_sweep)))

structure DPt2 where
  p : Int
  P : P3
  R : P3
abbrev RelPt2 (small : List (Addr × Obj)) (vs : List Value) (d : DPt2) : Prop := ∃ v1 v2 l1 l2, vs = [v1, v2] ∧ small = l1 ++ l2 ∧ PtF d.p l1 v1 d.P ∧ PtF d.p l2 v2 d.R
def eqF (p : Int) (P R : P3) : Bool := decide (mulF p P.1 R.2.2 = mulF p R.1 P.2.2) && decide (mulF p P.2.1 R.2.2 = mulF p R.2.1 P.2.2)
theorem eqF_true {p : Int} {P R : P3} (h : mulF p P.1 R.2.2 = mulF p R.1 P.2.2) : decide (mulF p P.2.1 R.2.2 = mulF p R.2.1 P.2.2) = eqF p P R := by unfold eqF; rw [decide_eq_true h, Bool.true_and]
theorem eqF_false {p : Int} {P R : P3} (h : ¬ mulF p P.1 R.2.2 = mulF p R.1 P.2.2) : decide (mulF p P.1 R.2.2 = mulF p R.1 P.2.2) = eqF p P R := by unfold eqF; rw [decide_eq_false h, Bool.false_and]
theorem eqF_false' {p : Int} {P R : P3} (h : ¬ mulF p P.1 R.2.2 = mulF p R.1 P.2.2) : false = eqF p P R := by unfold eqF; rw [decide_eq_false h, Bool.false_and]

abbrev ceqp : Told DPt2 where
  Rel := RelPt2
  Ok := fun d => d.p < 24
  size := fun _ => 20
  Out := fun _ r d => r = .bool (eqF d.p d.P d.R)
set_option maxRecDepth 100000 in
set_option maxHeartbeats 1600000 in
theorem does_eqp (w : World) (d : DPt2) : DoesG w 56 ceqp d := by
  w_top off
  unfold DoesG
  k_fill
  intro p loose mean mg mb dp un gd cn cs a ccd cl outer A₀ base h₀ L m news small oP s vs Q E B F X N hP nP G T hk hs hR hok hd hu hret
  obtain ⟨dp, P, R⟩ := d
  obtain ⟨v1, v2, l1, l2, rfl, rfl, hR1, hR2⟩ := hR
  dsimp only at *
  obtain ⟨t, n, vx, vy, vz, lx, ly, lz, rfl, ht93, rfl, hqx, hqy, hqz⟩ := hR1
  obtain ⟨t', n', vx', vy', vz', lx', ly', lz', rfl, ht93', rfl, hqx', hqy', hqz'⟩ := hR2
  have npx := hqx.noP
  have npy := hqy.noP
  have npz := hqz.noP
  have npx' := hqx'.noP
  have npy' := hqy'.noP
  have npz' := hqz'.noP
  simp only [List.cons_append, List.append_assoc] at hs
  obtain ⟨wx, ox, ex, wy1, mx1, mx2⟩ := FQ.has hqx
  obtain ⟨wy, oy, ey, wy2, my1, my2⟩ := FQ.has hqy
  obtain ⟨wz, oz, ez, wy3, mz1, mz2⟩ := FQ.has hqz
  cases wy1
  cases wy2
  cases wy3
  obtain ⟨wx', ox', ex', wy1, mx1', mx2'⟩ := FQ.has hqx'
  obtain ⟨wy', oy', ey', wy2, my1', my2'⟩ := FQ.has hqy'
  obtain ⟨wz', oz', ez', wy3, mz1', mz2'⟩ := FQ.has hqz'
  cases wy1
  cases wy2
  cases wy3
  have N0 := News.sub N (Sub.cons (q := (93, oP)) (.head _) (Sub.tail hs))
  refine wpAny_call ?_
  k_dflt (refine' code_M ?k1 ?k2 ?k3 N0 ?k5 ?kA ?kF ?kK ?k6 ?k7 ?k8 ?k9 ?kB ?_ ?c2 ?c3 ?c4 ?c5; (case kA => exact rfl); (case kF => exact rfl); (case kK => assumption); (case k1 => k_asm); (case k2 => k_asm); (case k3 => k_asm); (case k5 => k_asm); (case k6 => k_is); (case k7 => k_is); (case k8 => ktr_room); (case k9 => exact BindsTo.of_eq rfl); (case kB => exact locs rfl); (case c2 => exact rfl); (case c3 => exact rfl); (case c4 => exact rfl); (case c5 => decide); k_whole)
  intro g' L' h1' FG' F1' N1' B' X' T'; (try dsimp only); (try k_lift B'); (try k_fold)
  clear N0
  k_steps
  all_goals (
    refine' hret _ [] _ _ _ _ ?tab ?F (backG N nP hs ?kN ?kK ?s1 Sub.nil ?s3) NoP.nil ?G ?out
    case out => first | exact congrArg Value.bool (eqF_true (by assumption)) | exact congrArg Value.bool (eqF_false (by assumption)) | exact congrArg Value.bool (eqF_false' (by assumption))
    case kN => assumption
    case kK => assumption
    case F => assumption
    case s3 => k_mem
    case s1 => kd_subs
    case tab => assumption
    case G => assumption)

end

section
open PySem PySem.W PySem.Calls PyProof.Rows
-- the walk's own lines

-- containments, the table's place

-- quicker lines
local macro_rules | `(tactic| walk_at "setItem ref int") => `(tactic| (k_here; (with_reducible show wpAny _ _ (PySem.setItem (Value.ref _) (Value.int _ _) (Value.int _ _)) _ _ _); (refine gen_set ?_; intro z' tz' hz'); k_dflt (refine' ki_set ?F ?N ?a ?b ?e ?U ?_; (case F => k_asm); (case N => k_asm); (case U => k_upd); (case a => decide); (case b => decide); (case e => rfl)); intro h' F' N'; (try dsimp only [List.nil_append, List.cons_append] at N'); (try k_sweep)))
local macro_rules | `(tactic| walk_at "pyIter ref") => `(tactic| ((with_reducible show wpAny _ _ (pyIter (Value.ref _)) (fun it s₂ => LoopAtV _ _ _ _ _ _ _ _ _ it s₂) _ _); k_here; k_dflt (l_hasStore; krs_unr)))
local macro_rules | `(tactic| walk_at "UnrEndW") => `(tactic| (k_dflt ktu_end))
local macro_rules | `(tactic| walk_at "exec AugAssign Subscript") => `(tactic| (k_dflt (refine wpAny_AugAssign_SubscriptAny ?_)))

local macro_rules | `(tactic| walk_at "subscriptTail") => `(tactic| (k_here; (with_reducible show wpAny _ _ (subscriptTail _ _ (Value.ref _) (Value.int _ _)) _ _ _); k_dflt (refine' item_led ?N ?m ?a ?b ?x ?_ ?s; (case N => k_asm); (case m => kas_types); (case a => decide); (case b => decide); (case x => rfl); (case s => with_unfolding_all rfl))))
local macro_rules | `(tactic| walk_at "inplaceOp Add ref") => `(tactic| (k_here; (with_reducible show wpAny _ _ (inplaceOp Operator.Add (Value.ref _) (Value.ref _)) _ _ _); k_dflt (refine' iadd_list ?F ?N ?b ?e ?ne ?U ?d ?z ?y ?_; (case F => k_asm); (case N => k_asm); (case b => k_mem); (case U => k_upd); (case e => kl_lit); (case ne => kl_some); (case d => kl_no); (case z => kl_room); (case y => kl_room)); intro h' F' N'; (try dsimp only [List.nil_append, List.cons_append] at N'); (try k_sweep)))
local macro_rules | `(tactic| walk_at "compareOp Eq ref") => `(tactic| (k_here; (with_reducible show wpAny _ _ (compareOp CmpOp.Eq (Value.ref _) (Value.ref _)) _ _ _); (refine cmp_ofEq ?_); k_dflt (refine' cmp_K ?k1 ?k2 ?k3 ?k4 ?k5 ?k6 ?k7 ?k8 ?_; (case k1 => ktr_units); (case k2 => k_asm); (case k3 => k_asm); (case k4 => k_inst); (case k5 => k_typeOf); (case k6 => k_is); (case k7 => k_is); (case k8 => k_is); k_whole)))
local macro_rules | `(tactic| walk_at "compareOp NotEq ref") => `(tactic| (k_here; (with_reducible show wpAny _ _ (compareOp CmpOp.NotEq (Value.ref _) (Value.ref _)) _ _ _); (refine cmp_ofNotEq ?_); k_dflt (refine' cmp_K ?k1 ?k2 ?k3 ?k4 ?k5 ?k6 ?k7 ?k8 ?_; (case k1 => ktr_units); (case k2 => k_asm); (case k3 => k_asm); (case k4 => k_inst); (case k5 => k_typeOf); (case k6 => k_is); (case k7 => k_is); (case k8 => k_is); k_whole)))
local macro_rules | `(tactic| kd_adr) => `(tactic| first | (with_reducible assumption) | (refine' Ne.symm ?_; with_reducible assumption) | (refine' ne93_of ?h6 ?m6; (case h6 => with_reducible assumption); (case m6 => kas_types)))
local macro_rules | `(tactic| walk_at "binaryOp Div ref ref") => `(tactic| (k_here; (with_reducible show wpAny _ _ (binaryOp _ (Value.ref _) (Value.ref _)) _ _ _); k_dflt (refine' binop_K ?k1 ?k2 ?k3 ?k4 ?k5 ?k6 ?k7 ?_; (case k1 => k_asm); (case k2 => k_asm); (case k3 => k_inst); (case k4 => k_typeOf); (case k5 => k_is); (case k6 => k_is); (case k7 => k_is); k_whole)))

local macro_rules | `(tactic| walk_at "subscriptTail Name Constant ref int") => `(tactic| (k_here; (with_reducible show wpAny _ _ (subscriptTail _ _ (Value.ref _) (Value.int _ _)) _ _ _); k_dflt (refine' item_tupleT (News.isTup ?N ?m) ?a ?b ?j ?x ?_ ?s; (case N => k_asm); (case m => kas_types); (case a => decide); (case b => decide); (case j => rfl); (case x => rfl); (case s => with_unfolding_all rfl))))
local macro_rules | `(tactic| walk_at "compareOp Eq ref ref") => `(tactic| (k_here; (with_reducible show wpAny _ _ (compareOp CmpOp.Eq (Value.ref _) (Value.ref _)) _ _ _); (refine cmp_ofEq ?_); k_dflt (refine' cmp_K ?k1 ?k2 ?k3 (InstAt.of_news ?n1 ?m1 ?m2) (InstAt.type (InstAt.of_news ?n2 ?m3 ?m4)) ?k6 ?k7 ?k8 ?_; (case k1 => ktr_units); (case k2 => k_asm); (case k3 => k_asm); (case n1 => k_asm); (case n2 => k_asm); (case m1 => kas_types); (case m2 => kas_types); (case m3 => kas_types); (case m4 => kas_types); (case k6 => k_is); (case k7 => k_is); (case k8 => k_is); k_whole)))

local macro_rules | `(tactic| kas_types) => `(tactic| first | (with_reducible exact List.mem_cons_self) | ((with_reducible refine List.mem_cons_of_mem _ ?_); kas_types) | ((with_reducible refine List.mem_append_left _ ?_); kas_types) | ((with_reducible refine List.mem_append_right _ ?_); kas_types) | (with_reducible assumption))
local macro_rules | `(tactic| k_mem) => `(tactic| kas_types)

local macro_rules | `(tactic| walk_at "execs cons") => `(tactic| (k_here; (with_reducible show wpAny _ _ (execs (Stmt.Assign [PySem.Expr.Name _ _] (PySem.Expr.BinOp _ _ _ _) _ :: _) _) _ _ _); refine halt ?_))

local macro_rules | `(tactic| walk_at "call ref") => `(tactic| (k_here; (with_reducible show wpAny _ _ (call (Value.ref 202) _) _ _ _); k_dflt (refine' DoesG.use (does_zero _ ⟨_, _⟩) ?zB ?zF ?zX ?zN ?zU ?zP ?zG ?zT ?zk ?zs ?zn ⟨_, rfl, ?zq⟩ ?zo ?zd ?zu ?_; (case zk => first | exact rfl | assumption); (case zB => k_asm); (case zF => k_asm); (case zX => k_asm); (case zN => k_asm); (case zT => k_asm); (case zq => assumption); (case zs => kd_subs); (case zP => first | assumption | exact ⟨_, rfl, by assumption⟩); (case zG => k_asm); (case zn => kd_p); (case zU => k_updF); (case zo => (first | ((dsimp only; assumption)) | fail "Ok")); (case zd => kd_p1); (case zu => kd_p1)); intro r' l' h' g' tk' oP' hP' F' N' nl' G' O'; (try dsimp only at N'); (try dsimp only at O'); (obtain ⟨x', d', es', e9', m1', m2'⟩ := FQ.has O'); subst e9'; (try dsimp only [PySem.W.CmpBack]); (try k_sweep)))

local macro_rules | `(tactic| walk_at "call ref") => `(tactic| (k_here; (with_reducible show wpAny _ _ (call (Value.ref 195) _) _ _ _); k_dflt (refine' DoesG.use (does_one _ ⟨_, _⟩) ?zB ?zF ?zX ?zN ?zU ?zP ?zG ?zT ?zk ?zs ?zn ⟨_, rfl, ?zq⟩ ?zo ?zd ?zu ?_; (case zk => first | exact rfl | assumption); (case zB => k_asm); (case zF => k_asm); (case zX => k_asm); (case zN => k_asm); (case zT => k_asm); (case zq => assumption); (case zs => kd_subs); (case zP => first | assumption | exact ⟨_, rfl, by assumption⟩); (case zG => k_asm); (case zn => kd_p); (case zU => k_updF); (case zo => (first | ((dsimp only; assumption)) | fail "Ok")); (case zd => kd_p1); (case zu => kd_p1)); intro r' l' h' g' tk' oP' hP' F' N' nl' G' O'; (try dsimp only at N'); (try dsimp only at O'); (obtain ⟨x', d', es', e9', m1', m2'⟩ := FQ.has O'); subst e9'; (try dsimp only [PySem.W.CmpBack]); (try k_sweep)))

local macro_rules | `(tactic| walk_at "call ref") => `(tactic| (k_here; (with_reducible show wpAny _ _ (call (Value.ref 168) _) _ _ _); k_dflt (refine' Does.use (does_eq _ ⟨_, _, _⟩) ?zB ?zF ?zX ?zN ?zT ?zk ?zs ⟨_, _, _, _, rfl, rfl, ?zq, ?zr⟩ ?zo ?zd ?zu ?_; (case zk => first | exact rfl | assumption); (case zB => k_asm); (case zF => k_asm); (case zX => k_asm); (case zN => k_asm); (case zT => k_asm); (case zq => assumption); (case zr => assumption); (case zs => kd_subs); (case zo => (first | ((dsimp only; assumption)) | fail "Ok")); (case zd => kd_p1); (case zu => kd_p1)); intro r' l' h' tk' F' N' O'; (try dsimp only at O'); (obtain ⟨e1', e2'⟩ := O'); subst e1'; subst e2'; (try simp only [List.nil_append] at N'); (try dsimp only [PySem.W.CmpBack]); (try k_sweep)))

local macro_rules | `(tactic| walk_at "call ref") => `(tactic| (k_here; (with_reducible show wpAny _ _ (call (Value.ref 35) _) _ _ _); k_dflt (refine' DoesG.use (does_dbl _ ⟨_, _⟩) ?zB ?zF ?zX ?zN ?zU ?zP ?zG ?zT ?zk ?zs ?zn ⟨_, rfl, ?zq⟩ ?zo ?zd ?zu ?_; (case zk => first | exact rfl | assumption); (case zB => k_asm); (case zF => k_asm); (case zX => k_asm); (case zN => k_asm); (case zT => k_asm); (case zq => assumption); (case zs => kd_subs); (case zP => first | assumption | exact ⟨_, rfl, by assumption⟩); (case zG => k_asm); (case zn => kd_p); (case zU => k_updF); (case zo => (first | ((dsimp only; assumption)) | fail "Ok")); (case zd => kd_p1); (case zu => kd_p1)); intro r' l' h' g' tk' oP' hP' F' N' nl' G' O'; (try dsimp only at N'); (try dsimp only at O'); (have npp := PtF.noP O'); (try k_sweep)))

def paF (p : Int) (P R : P3) : P3 :=
  if P.2.2 = (0 % p, 0 % p) ∨ R.2.2 = (0 % p, 0 % p) then (if R.2.2 = (0 % p, 0 % p) then P else R)
  else
    let U1 := mulF p R.2.1 P.2.2
    let U2 := mulF p P.2.1 R.2.2
    let V1 := mulF p R.1 P.2.2
    let V2 := mulF p P.1 R.2.2
    if V1 = V2 ∧ U1 = U2 then dblF p P
    else if V1 = V2 then ((1 % p, 0 % p), (1 % p, 0 % p), (0 % p, 0 % p))
    else
      let U := subF p U1 U2
      let V := subF p V1 V2
      let Vs := mulF p V V
      let VsV2 := mulF p Vs V2
      let Vc := mulF p V Vs
      let W := mulF p P.2.2 R.2.2
      let A := subF p (subF p (mulF p (mulF p U U) W) Vc) (smulF p 2 VsV2)
      (mulF p V A, subF p (mulF p U (subF p VsV2 A)) (mulF p Vc U2), mulF p Vc W)
theorem PtF.sub {p : Int} {l X Y : List (Addr × Obj)} {v : Value} {P : P3} (_h : PtF p l v P) (sb : Sub X Y) (s : Sub l X) : Sub l Y := s.trans sb
theorem subS {S news X Y : List (Addr × Obj)} (_hs : Sub S news) (sb : Sub X Y) (s : Sub S X) : Sub S Y := s.trans sb
theorem FQ.subT {p : Int} {l X Y : List (Addr × Obj)} {v : Value} {z : Int × Int} (_h : FQ p l v z) (sb : Sub X Y) (s : Sub l X) : Sub l Y := s.trans sb
theorem led_of {q : Int} {v0 v1 : Value} {z0 z1 : Int × Int} {l0 l1 S news full : List (Addr × Obj)} {h₀ h : Heap} {L : Addr} {o : Obj} (_o1 : FQ q l1 v1 z1) (_o0 : FQ q l0 v0 z0) (_hs : Sub S news) (N : News h₀ L h full) (m : (93, o) ∈ full) (s1 : Sub l1 full) (s0 : Sub l0 full) (sS : Sub S full) :
    News h₀ L h ((93, o) :: (l0 ++ (l1 ++ S))) := News.sub N (Sub.cons m (Sub.app s0 (Sub.app s1 sS)))
theorem paF_z2 {p : Int} {P R : P3} (h : R.2.2 = (0 % p, 0 % p)) : P = paF p P R := by unfold paF; rw [if_pos (Or.inr h), if_pos h]
theorem paF_z1 {p : Int} {P R : P3} (h : P.2.2 = (0 % p, 0 % p)) (h2 : ¬ R.2.2 = (0 % p, 0 % p)) : R = paF p P R := by unfold paF; rw [if_pos (Or.inl h), if_neg h2]
theorem paF_dbl {p : Int} {P R : P3} (h : ¬ P.2.2 = (0 % p, 0 % p)) (h2 : ¬ R.2.2 = (0 % p, 0 % p)) (hV : mulF p R.1 P.2.2 = mulF p P.1 R.2.2) (hU : mulF p R.2.1 P.2.2 = mulF p P.2.1 R.2.2) : dblF p P = paF p P R := by
  unfold paF; rw [if_neg (fun q => q.elim h h2), if_pos ⟨hV, hU⟩]
theorem paF_opp {p : Int} {P R : P3} (h : ¬ P.2.2 = (0 % p, 0 % p)) (h2 : ¬ R.2.2 = (0 % p, 0 % p)) (hV : mulF p R.1 P.2.2 = mulF p P.1 R.2.2) (hU : ¬ mulF p R.2.1 P.2.2 = mulF p P.2.1 R.2.2) : ((1 % p, 0 % p), (1 % p, 0 % p), (0 % p, 0 % p)) = paF p P R := by
  unfold paF; rw [if_neg (fun q => q.elim h h2), if_neg (fun q => hU q.2), if_pos hV]
theorem paF_gen {p : Int} {P R : P3} (h : ¬ P.2.2 = (0 % p, 0 % p)) (h2 : ¬ R.2.2 = (0 % p, 0 % p)) (hV : ¬ mulF p R.1 P.2.2 = mulF p P.1 R.2.2) :
    (let U1 := mulF p R.2.1 P.2.2
     let U2 := mulF p P.2.1 R.2.2
     let V1 := mulF p R.1 P.2.2
     let V2 := mulF p P.1 R.2.2
     let U := subF p U1 U2
     let V := subF p V1 V2
     let Vs := mulF p V V
     let VsV2 := mulF p Vs V2
     let Vc := mulF p V Vs
     let W := mulF p P.2.2 R.2.2
     let A := subF p (subF p (mulF p (mulF p U U) W) Vc) (smulF p 2 VsV2)
     (mulF p V A, subF p (mulF p U (subF p VsV2 A)) (mulF p Vc U2), mulF p Vc W)) = paF p P R := by
  unfold paF; rw [if_neg (fun q => q.elim h h2), if_neg (fun q => hV q.1), if_neg hV]
theorem PtF.cast {p : Int} {l : List (Addr × Obj)} {v : Value} {P R : P3} (h : PtF p l v P) (e : P = R) : PtF p l v R := e ▸ h
abbrev caddp : Told DPt2 where
  Rel := RelPt2
  Ok := fun d => d.p < 24
  size := fun _ => 28
  Out := fun l r d => PtF d.p l r (paF d.p d.P d.R)
set_option maxRecDepth 100000 in
set_option maxHeartbeats 40000000 in
theorem does_addp (w : World) (d : DPt2) : DoesG w 42 caddp d := by
  w_top off
  unfold DoesG
  k_fill
  intro p loose mean mg mb dp un gd cn cs a ccd cl outer A₀ base h₀ L m news small oP s vs Q E B F X N hP nP G T hk hs hR hok hd hu hret
  obtain ⟨dp, P, R⟩ := d
  obtain ⟨v1, v2, l1, l2, rfl, rfl, hR1, hR2⟩ := hR
  dsimp only at *
  have hR10 := hR1
  have hR20 := hR2
  obtain ⟨t, n, vx, vy, vz, lx, ly, lz, rfl, ht93, rfl, hqx, hqy, hqz⟩ := hR1
  obtain ⟨t', n', vx', vy', vz', lx', ly', lz', rfl, ht93', rfl, hqx', hqy', hqz'⟩ := hR2
  have npx := hqx.noP
  have npy := hqy.noP
  have npz := hqz.noP
  have npx' := hqx'.noP
  have npy' := hqy'.noP
  have npz' := hqz'.noP
  simp only [List.cons_append, List.append_assoc] at hs
  obtain ⟨wy, oy, ey, wy2, my1, my2⟩ := FQ.has hqy
  obtain ⟨wz, oz, ez, wy3, mz1, mz2⟩ := FQ.has hqz
  cases wy2
  cases wy3
  obtain ⟨wx', ox', ex', wy1, mx1', mx2'⟩ := FQ.has hqx'
  obtain ⟨wy', oy', ey', wy2, my1', my2'⟩ := FQ.has hqy'
  obtain ⟨wz', oz', ez', wy3, mz1', mz2'⟩ := FQ.has hqz'
  cases wy1
  cases wy2
  cases wy3
  have N0 := News.sub N (Sub.cons (q := (93, oP)) (.head _) (Sub.tail hs))
  refine wpAny_call ?_
  k_dflt (refine' code_M ?k1 ?k2 ?k3 N0 ?k5 ?kA ?kF ?kK ?k6 ?k7 ?k8 ?k9 ?kB ?_ ?c2 ?c3 ?c4 ?c5; (case kA => exact rfl); (case kF => exact rfl); (case kK => assumption); (case k1 => k_asm); (case k2 => k_asm); (case k3 => k_asm); (case k5 => k_asm); (case k6 => k_is); (case k7 => k_is); (case k8 => ktr_room); (case k9 => exact BindsTo.of_eq rfl); (case kB => exact locs rfl); (case c2 => exact rfl); (case c3 => exact rfl); (case c4 => exact rfl); (case c5 => decide); k_whole)
  intro g' L' h1' FG' F1' N1' B' X' T'; (try dsimp only); (try k_lift B'); (try k_fold)
  clear N0
  have hP1 := hR10
  have hP2 := hR20
  have nP1 := hP1.noP
  have nP2 := hP2.noP
  have hqx0 := hqx
  cases hqx
  k_steps
  · refine' hret _ _ _ _ _ _ ?tab ?F (backG N nP hs ?kN ?kK ?s1 ?s2 ?s3) ?np ?G ?out
    case out => exact PtF.cast hP1 (paF_z2 (by assumption))
    case kN => assumption
    case kK => assumption
    case F => assumption
    case s2 => kd_subs
    case s3 => k_mem
    case s1 => kd_subs
    case tab => assumption
    case G => assumption
    case np => assumption
  · refine' hret _ _ _ _ _ _ ?tab ?F (backG N nP hs ?kN ?kK ?s1 ?s2 ?s3) ?np ?G ?out
    case out => exact PtF.cast hP2 (paF_z1 (by assumption) (by assumption))
    case kN => assumption
    case kK => assumption
    case F => assumption
    case s2 => kd_subs
    case s3 => k_mem
    case s1 => kd_subs
    case tab => assumption
    case G => assumption
    case np => assumption
  · refine' hret _ _ _ _ _ _ ?tab ?F (backG N nP hs ?kN ?kK ?s1 ?s2 ?s3) ?np ?G ?out
    case out => exact PtF.cast hP1 (paF_z2 (by assumption))
    case kN => assumption
    case kK => assumption
    case F => assumption
    case s2 => kd_subs
    case s3 => k_mem
    case s1 => kd_subs
    case tab => assumption
    case G => assumption
    case np => assumption
  unfold Halt
  (with_reducible rename FQ _ _ _ (1 % _, 0 % _) => O1)
  (with_reducible rename FQ _ _ _ (0 % _, 0 % _) => O0)
  (with_reducible rename News _ _ _ _ => N8)
  have nO1 := O1.noP
  have nO0 := O0.noP
  replace N8 := led_of O1 O0 hs N8 (by k_mem) (by kd_subs) (by kd_subs) (by kd_subs)
  k_dflt (refine' runF_ok (q := dp) (ns := [("x1" : Str), ("y1" : Str), ("z1" : Str), ("x2" : Str), ("y2" : Str), ("z2" : Str), ("U1" : Str), ("U2" : Str), ("V1" : Str), ("V2" : Str)]) ⟨?hB, ?hX, ?hT, ?hk9, ?hd9, ?hu9, ?hq9, ?hL9, ?hek9, ?hns9⟩ ?hp9 4 _ _ _ _ _ _ _ _ ?hrun (RhoOk.add (x := ("z2" : Str)) (RhoOk.add (x := ("y2" : Str)) (RhoOk.add (x := ("x2" : Str)) (RhoOk.add (x := ("z1" : Str)) (RhoOk.add (x := ("y1" : Str)) (RhoOk.add (x := ("x1" : Str)) RhoOk.nil ?rx0 ?rm0 hqx0 ?rs0) ?rx1 ?rm1 hqy ?rs1) ?rx2 ?rm2 hqz ?rs2) ?rx3 ?rm3 hqx' ?rs3) ?rx4 ?rm4 hqy' ?rs4) ?rx5 ?rm5 hqz' ?rs5) ?hF ?hN ?hP9 ?hnP ?hG ?ret; (case hF => k_asm); (case hN => k_asm); (case rx0 => decide); (case rm0 => exact rfl); (case rs0 => kd_subs); (case rx1 => decide); (case rm1 => exact rfl); (case rs1 => kd_subs); (case rx2 => decide); (case rm2 => exact rfl); (case rs2 => kd_subs); (case rx3 => decide); (case rm3 => exact rfl); (case rs3 => kd_subs); (case rx4 => decide); (case rm4 => exact rfl); (case rs4 => kd_subs); (case rx5 => decide); (case rm5 => exact rfl); (case rs5 => kd_subs); (case hB => k_asm); (case hX => k_asm); (case hT => k_asm); (case hk9 => first | exact rfl | assumption); (case hd9 => kd_p1); (case hu9 => kd_p1); (case hq9 => assumption); (case hL9 => exact rfl); (case hek9 => exact rfl); (case hp9 => exact rfl); (case hrun => exact rfl); (case hP9 => assumption); (case hnP => kd_p); (case hG => k_asm))
  case hns9 =>
    intro x hx
    simp only [List.mem_cons, List.not_mem_nil, or_false] at hx
    rcases hx with rfl | rfl | rfl | rfl | rfl | rfl | rfl | rfl | rfl | rfl <;> exact ⟨rfl, by decide⟩
  intro m9 led9 h9 g9 tk9 oP9 T9 R9 F9 N9 sb9 nP9 G9 same9
  obtain ⟨_, vA, lA, hmA, qA, sA⟩ := R9 "V1" _ rfl
  obtain ⟨_, vB, lB, hmB, qB, sB⟩ := R9 "V2" _ rfl
  obtain ⟨_, vC, lC, hmC, qC, sC⟩ := R9 "U1" _ rfl
  obtain ⟨_, vD, lD, hmD, qD, sD⟩ := R9 "U2" _ rfl
  obtain ⟨_, vG, lG, hmG, qG, sG⟩ := R9 "z1" _ rfl
  obtain ⟨_, vH, lH, hmH, qH, sH⟩ := R9 "z2" _ rfl
  have hp1 := same9 "p1" (by decide)
  have hone := same9 "one" (by decide)
  have hzero := same9 "zero" (by decide)
  have hp1' := hp1.trans (rfl : _ = some (Value.ref t))
  have hone' := hone.trans (rfl : _ = some (Value.ref _))
  have hzero' := hzero.trans (rfl : _ = some (Value.ref _))
  clear hp1 hone hzero same9
  replace F9 := frB [(("V1" : Str), _), (("V2" : Str), _), (("U1" : Str), _), (("U2" : Str), _), (("z1" : Str), _), (("z2" : Str), _), (("p1" : Str), _), (("one" : Str), _), (("zero" : Str), _)] (List.forall_mem_cons.mpr ⟨hmA, List.forall_mem_cons.mpr ⟨hmB, List.forall_mem_cons.mpr ⟨hmC, List.forall_mem_cons.mpr ⟨hmD, List.forall_mem_cons.mpr ⟨hmG, List.forall_mem_cons.mpr ⟨hmH, List.forall_mem_cons.mpr ⟨hp1', List.forall_mem_cons.mpr ⟨hone', List.forall_mem_cons.mpr ⟨hzero', List.forall_mem_nil _⟩⟩⟩⟩⟩⟩⟩⟩⟩) F9
  dsimp only [kstB] at F9
  obtain ⟨_, _, _, yA, mA1, mA2⟩ := FQ.has qA
  obtain ⟨_, _, _, yB, mB1, mB2⟩ := FQ.has qB
  obtain ⟨_, _, _, yC, mC1, mC2⟩ := FQ.has qC
  obtain ⟨_, _, _, yD, mD1, mD2⟩ := FQ.has qD
  cases yA
  cases yB
  cases yC
  cases yD
  have kA1 := sA _ mA1
  have kA2 := sA _ mA2
  have kB1 := sB _ mB1
  have kB2 := sB _ mB2
  have kC1 := sC _ mC1
  have kC2 := sC _ mC2
  have kD1 := sD _ mD1
  have kD2 := sD _ mD2
  have sS9 := subS hs sb9 (by kd_subs)
  have sO1 := O1.subT sb9 (by kd_subs)
  have sO0 := O0.subT sb9 (by kd_subs)
  have sP1 := hP1.sub sb9 (by kd_subs)
  have sP2 := hP2.sub sb9 (by kd_subs)
  clear R9
  have nA := qA.noP
  have nB := qB.noP
  have nC := qC.noP
  have nD := qD.noP
  k_steps
  · refine' hret _ _ _ _ _ _ ?tab ?F (backG N nP hs ?kN ?kK ?s1 ?s2 ?s3) ?np ?G ?out
    case out => exact PtF.cast (by assumption) (paF_dbl (by assumption) (by assumption) (by assumption) (by assumption))
    case kN => assumption
    case kK => assumption
    case F => assumption
    case s2 => kd_subs
    case s3 => k_mem
    case s1 => kd_subs
    case tab => assumption
    case G => assumption
    case np => assumption
  · refine' hret _ _ _ _ _ _ ?tab ?F (backG N nP hs ?kN ?kK ?s1 ?s2 ?s3) ?np ?G ?out
    case out => (refine' PtF.cast ?pt (paF_opp (by assumption) (by assumption) (by assumption) (by assumption)); case pt => (refine' ⟨_, 0, _, _, _, _, _, _, rfl, ?ne, rfl, O1, O1, O0⟩; case ne => first | kd_adr | k_ne | omega))
    case kN => assumption
    case kK => assumption
    case F => assumption
    case s2 => kd_subs
    case s3 => k_mem
    case s1 => kd_subs
    case tab => assumption
    case G => assumption
    case np => kd_p
  unfold Halt
  k_dflt (refine' runF_ok (q := dp) (ns := [("V1" : Str), ("V2" : Str), ("U1" : Str), ("U2" : Str), ("z1" : Str), ("z2" : Str), ("U" : Str), ("V" : Str), ("V_squared" : Str), ("V_squared_times_V2" : Str), ("V_cubed" : Str), ("W" : Str), ("A" : Str), ("newx" : Str), ("newy" : Str), ("newz" : Str)]) ⟨?jhB, ?jhX, ?jhT, ?jhk9, ?jhd9, ?jhu9, ?jhq9, ?jhL9, ?jhek9, ?jhns9⟩ ?jhp9 10 _ _ _ _ _ _ _ _ ?jhrun (RhoOk.add (x := ("z2" : Str)) (RhoOk.add (x := ("z1" : Str)) (RhoOk.add (x := ("U2" : Str)) (RhoOk.add (x := ("U1" : Str)) (RhoOk.add (x := ("V2" : Str)) (RhoOk.add (x := ("V1" : Str)) RhoOk.nil ?jrx0 ?jrm0 qA ?jrs0) ?jrx1 ?jrm1 qB ?jrs1) ?jrx2 ?jrm2 qC ?jrs2) ?jrx3 ?jrm3 qD ?jrs3) ?jrx4 ?jrm4 qG ?jrs4) ?jrx5 ?jrm5 qH ?jrs5) ?jhF ?jhN ?jhP9 ?jhnP ?jhG ?jret; (case jhF => k_asm); (case jhN => k_asm); (case jrx0 => decide); (case jrm0 => exact rfl); (case jrs0 => kd_subs); (case jrx1 => decide); (case jrm1 => exact rfl); (case jrs1 => kd_subs); (case jrx2 => decide); (case jrm2 => exact rfl); (case jrs2 => kd_subs); (case jrx3 => decide); (case jrm3 => exact rfl); (case jrs3 => kd_subs); (case jrx4 => decide); (case jrm4 => exact rfl); (case jrs4 => kd_subs); (case jrx5 => decide); (case jrm5 => exact rfl); (case jrs5 => kd_subs); (case jhB => k_asm); (case jhX => k_asm); (case jhT => k_asm); (case jhk9 => first | exact rfl | assumption); (case jhd9 => kd_p1); (case jhu9 => kd_p1); (case jhq9 => assumption); (case jhL9 => exact rfl); (case jhek9 => exact rfl); (case jhp9 => exact rfl); (case jhrun => exact rfl); (case jhP9 => assumption); (case jhnP => kd_p); (case jhG => k_asm))
  case jhns9 =>
    intro x hx
    simp only [List.mem_cons, List.not_mem_nil, or_false] at hx
    rcases hx with rfl | rfl | rfl | rfl | rfl | rfl | rfl | rfl | rfl | rfl | rfl | rfl | rfl | rfl | rfl | rfl <;> exact ⟨rfl, by decide⟩
  intro m9 led9 h9 g9 tk9 oP9 T9 R9 F9 N9 sb10 nP9 G9 same9
  have sS10 := sS9.trans sb10
  obtain ⟨_, vA, lA, hmA, qA, sA⟩ := R9 "newx" _ rfl
  obtain ⟨_, vB, lB, hmB, qB, sB⟩ := R9 "newy" _ rfl
  obtain ⟨_, vC, lC, hmC, qC, sC⟩ := R9 "newz" _ rfl
  replace F9 := frB [("newx", .ref vA), ("newy", .ref vB), ("newz", .ref vC)] (List.forall_mem_cons.mpr ⟨hmA, List.forall_mem_cons.mpr ⟨hmB, List.forall_mem_cons.mpr ⟨hmC, List.forall_mem_nil _⟩⟩⟩) F9
  dsimp only [kstB] at F9
  clear R9 same9
  k_steps
  · refine' hret _ _ _ _ _ _ ?tab ?F (backG N nP hs ?kN ?kK ?s1 ?s2 ?s3) ?np ?G ?out
    case out => (refine' PtF.cast ?pt (paF_gen (by assumption) (by assumption) (by assumption)); case pt => (refine' ⟨_, 0, _, _, _, _, _, _, rfl, ?ne, rfl, qA, qB, qC⟩; case ne => first | kd_adr | k_ne | omega))
    case kN => assumption
    case kK => assumption
    case F => assumption
    case s2 => kd_subs
    case s3 => k_mem
    case s1 => kd_subs
    case tab => assumption
    case G => assumption
    case np => kd_p

end

section
local macro_rules | `(tactic| walk_at "pad 0") => `(tactic| fail)
local macro_rules | `(tactic| walk_at "pad 1") => `(tactic| fail)
local macro_rules | `(tactic| walk_at "pad 2") => `(tactic| fail)
local macro_rules | `(tactic| walk_at "pad 3") => `(tactic| fail)
local macro_rules | `(tactic| walk_at "pad 4") => `(tactic| fail)
open PySem PySem.W PySem.Calls PyProof.Rows
-- the walk's own lines

-- containments, the table's place

-- quicker lines
local macro_rules | `(tactic| walk_at "setItem ref int") => `(tactic| (k_here; (with_reducible show wpAny _ _ (PySem.setItem (Value.ref _) (Value.int _ _) (Value.int _ _)) _ _ _); (refine gen_set ?_; intro z' tz' hz'); k_dflt (refine' ki_set ?F ?N ?a ?b ?e ?U ?_; (case F => k_asm); (case N => k_asm); (case U => k_upd); (case a => decide); (case b => decide); (case e => rfl)); intro h' F' N'; (try dsimp only [List.nil_append, List.cons_append] at N'); (try k_sweep)))
local macro_rules | `(tactic| walk_at "pyIter ref") => `(tactic| ((with_reducible show wpAny _ _ (pyIter (Value.ref _)) (fun it s₂ => LoopAtV _ _ _ _ _ _ _ _ _ it s₂) _ _); k_here; k_dflt (l_hasStore; krs_unr)))
local macro_rules | `(tactic| walk_at "UnrEndW") => `(tactic| (k_dflt ktu_end))
local macro_rules | `(tactic| walk_at "exec AugAssign Subscript") => `(tactic| (k_dflt (refine wpAny_AugAssign_SubscriptAny ?_)))

local macro_rules | `(tactic| walk_at "subscriptTail") => `(tactic| (k_here; (with_reducible show wpAny _ _ (subscriptTail _ _ (Value.ref _) (Value.int _ _)) _ _ _); k_dflt (refine' item_led ?N ?m ?a ?b ?x ?_ ?s; (case N => k_asm); (case m => kas_types); (case a => decide); (case b => decide); (case x => rfl); (case s => with_unfolding_all rfl))))
local macro_rules | `(tactic| walk_at "inplaceOp Add ref") => `(tactic| (k_here; (with_reducible show wpAny _ _ (inplaceOp Operator.Add (Value.ref _) (Value.ref _)) _ _ _); k_dflt (refine' iadd_list ?F ?N ?b ?e ?ne ?U ?d ?z ?y ?_; (case F => k_asm); (case N => k_asm); (case b => k_mem); (case U => k_upd); (case e => kl_lit); (case ne => kl_some); (case d => kl_no); (case z => kl_room); (case y => kl_room)); intro h' F' N'; (try dsimp only [List.nil_append, List.cons_append] at N'); (try k_sweep)))
local macro_rules | `(tactic| walk_at "compareOp Eq ref") => `(tactic| (k_here; (with_reducible show wpAny _ _ (compareOp CmpOp.Eq (Value.ref _) (Value.ref _)) _ _ _); (refine cmp_ofEq ?_); k_dflt (refine' cmp_K ?k1 ?k2 ?k3 ?k4 ?k5 ?k6 ?k7 ?k8 ?_; (case k1 => ktr_units); (case k2 => k_asm); (case k3 => k_asm); (case k4 => k_inst); (case k5 => k_typeOf); (case k6 => k_is); (case k7 => k_is); (case k8 => k_is); k_whole)))
local macro_rules | `(tactic| walk_at "compareOp NotEq ref") => `(tactic| (k_here; (with_reducible show wpAny _ _ (compareOp CmpOp.NotEq (Value.ref _) (Value.ref _)) _ _ _); (refine cmp_ofNotEq ?_); k_dflt (refine' cmp_K ?k1 ?k2 ?k3 ?k4 ?k5 ?k6 ?k7 ?k8 ?_; (case k1 => ktr_units); (case k2 => k_asm); (case k3 => k_asm); (case k4 => k_inst); (case k5 => k_typeOf); (case k6 => k_is); (case k7 => k_is); (case k8 => k_is); k_whole)))
local macro_rules | `(tactic| kd_adr) => `(tactic| first | (with_reducible assumption) | (refine' Ne.symm ?_; with_reducible assumption) | (refine' ne93_of ?h6 ?m6; (case h6 => with_reducible assumption); (case m6 => kas_types)))
local macro_rules | `(tactic| walk_at "binaryOp Div ref ref") => `(tactic| (k_here; (with_reducible show wpAny _ _ (binaryOp _ (Value.ref _) (Value.ref _)) _ _ _); k_dflt (refine' binop_K ?k1 ?k2 ?k3 ?k4 ?k5 ?k6 ?k7 ?_; (case k1 => k_asm); (case k2 => k_asm); (case k3 => k_inst); (case k4 => k_typeOf); (case k5 => k_is); (case k6 => k_is); (case k7 => k_is); k_whole)))

local macro_rules | `(tactic| kas_types) => `(tactic| first | (with_reducible exact List.mem_cons_self) | ((with_reducible refine List.mem_cons_of_mem _ ?_); kas_types) | ((with_reducible refine List.mem_append_left _ ?_); kas_types) | ((with_reducible refine List.mem_append_right _ ?_); kas_types) | (with_reducible assumption))
local macro_rules | `(tactic| k_mem) => `(tactic| kas_types)

local macro_rules | `(tactic| walk_at "call ref") => `(tactic| (k_here; (with_reducible show wpAny _ _ (call (Value.ref 202) _) _ _ _); k_dflt (refine' DoesG.use (does_zero _ ⟨_, _⟩) ?zB ?zF ?zX ?zN ?zU ?zP ?zG ?zT ?zk ?zs ?zn ⟨_, rfl, ?zq⟩ ?zo ?zd ?zu ?_; (case zk => first | exact rfl | assumption); (case zB => k_asm); (case zF => k_asm); (case zX => k_asm); (case zN => k_asm); (case zT => k_asm); (case zq => assumption); (case zs => kd_subs); (case zP => first | assumption | exact ⟨_, rfl, by assumption⟩); (case zG => k_asm); (case zn => kd_p); (case zU => k_updF); (case zo => (first | ((dsimp only; assumption)) | fail "Ok")); (case zd => kd_p1); (case zu => kd_p1)); intro r' l' h' g' tk' oP' hP' F' N' nl' G' O'; (try dsimp only at N'); (try dsimp only at O'); (obtain ⟨x', d', es', e9', m1', m2'⟩ := FQ.has O'); subst e9'; (try dsimp only [PySem.W.CmpBack]); (try k_sweep)))

local macro_rules | `(tactic| walk_at "call ref") => `(tactic| (k_here; (with_reducible show wpAny _ _ (call (Value.ref 195) _) _ _ _); k_dflt (refine' DoesG.use (does_one _ ⟨_, _⟩) ?zB ?zF ?zX ?zN ?zU ?zP ?zG ?zT ?zk ?zs ?zn ⟨_, rfl, ?zq⟩ ?zo ?zd ?zu ?_; (case zk => first | exact rfl | assumption); (case zB => k_asm); (case zF => k_asm); (case zX => k_asm); (case zN => k_asm); (case zT => k_asm); (case zq => assumption); (case zs => kd_subs); (case zP => first | assumption | exact ⟨_, rfl, by assumption⟩); (case zG => k_asm); (case zn => kd_p); (case zU => k_updF); (case zo => (first | ((dsimp only; assumption)) | fail "Ok")); (case zd => kd_p1); (case zu => kd_p1)); intro r' l' h' g' tk' oP' hP' F' N' nl' G' O'; (try dsimp only at N'); (try dsimp only at O'); (obtain ⟨x', d', es', e9', m1', m2'⟩ := FQ.has O'); subst e9'; (try dsimp only [PySem.W.CmpBack]); (try k_sweep)))

theorem dbl_out {l : List (Addr × Obj)} {r : Value} {p : Int} {P : P3} (h : cdbl.Out l r ⟨p, P⟩) : PtF p l r (dblF p P) := h
theorem addp_out {l : List (Addr × Obj)} {r : Value} {p : Int} {P R : P3} (h : caddp.Out l r ⟨p, P, R⟩) : PtF p l r (paF p P R) := h
local macro_rules | `(tactic| walk_at "call ref") => `(tactic| (k_here; (with_reducible show wpAny _ _ (call (Value.ref 35) _) _ _ _); k_dflt (refine' DoesG.use (does_dbl _ ⟨_, _⟩) ?zB ?zF ?zX ?zN ?zU ?zP ?zG ?zT ?zk ?zs ?zn ⟨_, rfl, ?zq⟩ ?zo ?zd ?zu ?_; (case zk => first | exact rfl | assumption); (case zB => k_asm); (case zF => k_asm); (case zX => k_asm); (case zN => k_asm); (case zT => k_asm); (case zq => assumption); (case zs => kd_subs); (case zP => first | assumption | exact ⟨_, rfl, by assumption⟩); (case zG => k_asm); (case zn => kd_p); (case zU => k_updF); (case zo => (first | ((dsimp only; assumption)) | fail "Ok")); (case zd => kd_p1); (case zu => kd_p1)); intro r' l' h' g' tk' oP' hP' F' N' nl' G' O'; (try dsimp only at N'); (replace O' := dbl_out O'); (have npp := PtF.noP O'); (try k_sweep)))

local macro_rules | `(tactic| walk_at "call ref") => `(tactic| (k_here; (with_reducible show wpAny _ _ (call (Value.ref 42) _) _ _ _); k_dflt (refine' DoesG.use (does_addp _ ⟨_, _, _⟩) ?zB ?zF ?zX ?zN ?zU ?zP ?zG ?zT ?zk ?zs ?zn ⟨_, _, _, _, rfl, rfl, ?zq, ?zr⟩ ?zo ?zd ?zu ?_; (case zk => first | exact rfl | assumption); (case zB => k_asm); (case zF => k_asm); (case zX => k_asm); (case zN => k_asm); (case zT => k_asm); (case zq => assumption); (case zr => assumption); (case zs => kd_subs); (case zP => first | assumption | exact ⟨_, rfl, by assumption⟩); (case zG => k_asm); (case zn => kd_p); (case zU => k_updF); (case zo => (first | ((dsimp only; assumption)) | fail "Ok")); (case zd => kd_p1); (case zu => kd_p1)); intro r' l' h' g' tk' oP' hP' F' N' nl' G' O'; (try dsimp only at N'); (replace O' := addp_out O'); (have npp := PtF.noP O'); (try k_sweep)))

def mltF (p : Int) : Nat → Nat → P3 → P3
  | 0, _, P => P
  | f + 1, n, P => if n = 0 then ((1 % p, 0 % p), (1 % p, 0 % p), (0 % p, 0 % p)) else if n = 1 then P else if n % 2 = 0 then mltF p f (n / 2) (dblF p P) else paF p (mltF p f (n / 2) (dblF p P)) P
structure DMlp where
  p : Int
  P : P3
  n : Int
  f : Nat
abbrev RelMlp (small : List (Addr × Obj)) (vs : List Value) (d : DMlp) : Prop := ∃ v tk, vs = [v, .int d.n tk] ∧ PtF d.p small v d.P
abbrev cmlp : Told DMlp where
  Rel := RelMlp
  Ok := fun d => d.p < 24 ∧ 0 ≤ d.n ∧ d.n < 2 ^ d.f ∧ 0 < d.f
  size := fun d => 30 + 2 * d.f
  Out := fun l r d => PtF d.p l r (mltF d.p d.f d.n.toNat d.P)
theorem mlp_out {l : List (Addr × Obj)} {r : Value} {p : Int} {P : P3} {n : Int} {f : Nat} (h : cmlp.Out l r ⟨p, P, n, f⟩) : PtF p l r (mltF p f n.toNat P) := h
theorem fdiv2 {n : Int} : n.fdiv 2 = n / 2 := Int.fdiv_eq_ediv_of_nonneg _ (by decide)
theorem fmod2 {n : Int} : n.fmod 2 = n % 2 := Int.fmod_eq_emod_of_nonneg _ (by decide)
theorem mlp_ok {p n : Int} {f : Nat} (hp : p < 24) (h0 : 0 ≤ n) (h1 : n < 2 ^ (f + 1)) (hz : ¬ n = 0) (ho : ¬ n = 1) : p < 24 ∧ 0 ≤ n.fdiv 2 ∧ n.fdiv 2 < 2 ^ f ∧ 0 < f := by
  rw [fdiv2]
  rw [Int.pow_succ] at h1
  refine ⟨hp, by omega, by omega, ?_⟩
  cases f with
  | zero => exfalso; omega
  | succ f => omega
theorem mlt_0 {p n : Int} {f : Nat} {P : P3} (h : n = 0) : ((1 % p, 0 % p), (1 % p, 0 % p), (0 % p, 0 % p)) = mltF p (f + 1) n.toNat P := by
  subst h; rfl
theorem mlt_1 {p n : Int} {f : Nat} {P : P3} (h : n = 1) : P = mltF p (f + 1) n.toNat P := by
  subst h; rfl
theorem mlt_e {p n : Int} {f : Nat} {P : P3} (h0 : 0 ≤ n) (h : ¬ n = 0) (h1 : ¬ n = 1) (h2 : n.fmod 2 = 0) : mltF p f (n.fdiv 2).toNat (dblF p P) = mltF p (f + 1) n.toNat P := by
  rw [fmod2] at h2
  rw [fdiv2, show (n / 2).toNat = n.toNat / 2 by omega]
  show _ = if _ then _ else _
  rw [if_neg (by omega), if_neg (by omega), if_pos (by omega)]
theorem mlt_o {p n : Int} {f : Nat} {P : P3} (h0 : 0 ≤ n) (h : ¬ n = 0) (h1 : ¬ n = 1) (h2 : ¬ n.fmod 2 = 0) : paF p (mltF p f (n.fdiv 2).toNat (dblF p P)) P = mltF p (f + 1) n.toNat P := by
  rw [fmod2] at h2
  rw [fdiv2, show (n / 2).toNat = n.toNat / 2 by omega]
  show _ = if _ then _ else _
  rw [if_neg (by omega), if_neg (by omega), if_neg (by omega)]
local macro_rules | `(tactic| kd_p1) => `(tactic| first | assumption | exact room_le (by assumption) (by omega) | omega)
local macro_rules | `(tactic| walk_at "call ref") => `(tactic| (k_here; (with_reducible show wpAny _ _ (call (Value.ref 49) _) _ _ _); k_dflt ((with_reducible rename (∀ _, _ = _ → DoesG _ 49 cmlp _) => IH); refine' DoesG.use (IH ⟨_, _, _, _⟩ rfl) ?zB ?zF ?zX ?zN ?zU ?zP ?zG ?zT ?zk ?zs ?zn ⟨_, _, rfl, ?zq⟩ ?zo ?zd ?zu ?_; (case zk => first | exact rfl | assumption); (case zB => k_asm); (case zF => k_asm); (case zX => k_asm); (case zN => k_asm); (case zT => k_asm); (case zq => assumption); (case zs => kd_subs); (case zP => first | assumption | exact ⟨_, rfl, by assumption⟩); (case zG => k_asm); (case zn => kd_p); (case zU => k_updF); (case zo => (first | ((dsimp only; exact mlp_ok (by assumption) (by assumption) (by assumption) (by assumption) (by assumption))) | fail "Ok")); (case zd => (first | kd_p1 | exact room_le (by assumption) (by omega))); (case zu => (first | kd_p1 | exact room_le (by assumption) (by omega)))); intro r' l' h' g' tk' oP' hP' F' N' nl' G' O'; (try dsimp only at N'); (replace O' := mlp_out O'); (have npp := PtF.noP O'); (try k_sweep)))
set_option maxRecDepth 100000 in
set_option maxHeartbeats 40000000 in
theorem mlp_step (w : World) (fu : Nat) (IH : ∀ d : DMlp, d.f = fu → DoesG w 49 cmlp d) (d : DMlp) (hf : d.f = fu + 1) : DoesG w 49 cmlp d := by
  w_top off
  unfold DoesG
  k_fill
  intro p loose mean mg mb dp un gd cn cs a ccd cl outer A₀ base h₀ L m news small oP s vs Q E B F X N hP nP G T hk hs hR hok hd hu hret
  obtain ⟨dp, P, n, f⟩ := d
  have hf : f = fu + 1 := hf
  subst hf
  obtain ⟨v, tkn, rfl, hR⟩ := hR
  dsimp only at *
  have hR0 := hR
  obtain ⟨t, nn, vx, vy, vz, lx, ly, lz, rfl, ht93, rfl, hqx, hqy, hqz⟩ := hR
  have npx := hqx.noP
  have npy := hqy.noP
  have npz := hqz.noP
  obtain ⟨hp24, hn0, hn1, hf0⟩ := hok
  have N0 := News.sub N (Sub.cons (q := (93, oP)) (.head _) (Sub.tail hs))
  refine wpAny_call ?_
  k_dflt (refine' code_M ?k1 ?k2 ?k3 N0 ?k5 ?kA ?kF ?kK ?k6 ?k7 ?k8 ?k9 ?kB ?_ ?c2 ?c3 ?c4 ?c5; (case kA => exact rfl); (case kF => exact rfl); (case kK => assumption); (case k1 => k_asm); (case k2 => k_asm); (case k3 => k_asm); (case k5 => k_asm); (case k6 => k_is); (case k7 => k_is); (case k8 => ktr_room); (case k9 => exact BindsTo.of_eq rfl); (case kB => exact locs rfl); (case c2 => exact rfl); (case c3 => exact rfl); (case c4 => exact rfl); (case c5 => decide); k_whole)
  intro g' L' h1' FG' F1' N1' B' X' T'; (try dsimp only); (try k_lift B'); (try k_fold)
  clear N0
  have hP1 := hR0
  have nP1 := hP1.noP
  have hqx0 := hqx
  cases hqx
  k_steps
  · (with_reducible rename FQ _ _ _ (1 % _, 0 % _) => O1)
    revert O1
    (with_reducible rename FQ _ _ _ (1 % _, 0 % _) => O2)
    intro O1
    (with_reducible rename FQ _ _ _ (0 % _, 0 % _) => O0)
    refine' hret _ _ _ _ _ _ ?tab ?F (backG N nP hs ?kN ?kK ?s1 ?s2 ?s3) ?np ?G ?out
    case out => (refine' PtF.cast ?pt (mlt_0 (by assumption)); case pt => (refine' ⟨_, 0, _, _, _, _, _, _, rfl, ?ne, rfl, O2, O1, O0⟩; case ne => first | kd_adr | k_ne | omega))
    case kN => assumption
    case kK => assumption
    case F => assumption
    case s2 => kd_subs
    case s3 => k_mem
    case s1 => kd_subs
    case tab => assumption
    case G => assumption
    case np => kd_p
  · skip
    refine' hret _ _ _ _ _ _ ?tab ?F (backG N nP hs ?kN ?kK ?s1 ?s2 ?s3) ?np ?G ?out
    case out => exact PtF.cast hP1 (mlt_1 (by assumption))
    case kN => assumption
    case kK => assumption
    case F => assumption
    case s2 => kd_subs
    case s3 => k_mem
    case s1 => kd_subs
    case tab => assumption
    case G => assumption
    case np => kd_p
  · skip
    refine' hret _ _ _ _ _ _ ?tab ?F (backG N nP hs ?kN ?kK ?s1 ?s2 ?s3) ?np ?G ?out
    case out => exact PtF.cast (by assumption) (mlt_o hn0 (by assumption) (by assumption) (by assumption))
    case kN => assumption
    case kK => assumption
    case F => assumption
    case s2 => kd_subs
    case s3 => k_mem
    case s1 => kd_subs
    case tab => assumption
    case G => assumption
    case np => kd_p
  · skip
    refine' hret _ _ _ _ _ _ ?tab ?F (backG N nP hs ?kN ?kK ?s1 ?s2 ?s3) ?np ?G ?out
    case out => exact PtF.cast (by assumption) (mlt_e hn0 (by assumption) (by assumption) (by assumption))
    case kN => assumption
    case kK => assumption
    case F => assumption
    case s2 => kd_subs
    case s3 => k_mem
    case s1 => kd_subs
    case tab => assumption
    case G => assumption
    case np => kd_p

theorem does_mlp (w : World) : ∀ (f : Nat) (d : DMlp), d.f = f → DoesG w 49 cmlp d
  | 0, d, h => by
    intro p loose mean mg mb dp un gd cn cs a ccd cl outer A₀ base h₀ L m news small oP s vs Q E B F X N hP nP G T hk hs hR hok hd hu hret
    have := hok.2.2.2
    omega
  | f + 1, d, h => mlp_step w f (fun d' h' => does_mlp w f d' h') d h

end

section
open PySem PySem.W PySem.Calls PyProof.Rows
-- the walk's own lines

-- containments, the table's place

-- quicker lines
local macro_rules | `(tactic| walk_at "setItem ref int") => `(tactic| (k_here; (with_reducible show wpAny _ _ (PySem.setItem (Value.ref _) (Value.int _ _) (Value.int _ _)) _ _ _); (refine gen_set ?_; intro z' tz' hz'); k_dflt (refine' ki_set ?F ?N ?a ?b ?e ?U ?_; (case F => k_asm); (case N => k_asm); (case U => k_upd); (case a => decide); (case b => decide); (case e => rfl)); intro h' F' N'; (try dsimp only [List.nil_append, List.cons_append] at N'); (try k_sweep)))
local macro_rules | `(tactic| walk_at "pyIter ref") => `(tactic| ((with_reducible show wpAny _ _ (pyIter (Value.ref _)) (fun it s₂ => LoopAtV _ _ _ _ _ _ _ _ _ it s₂) _ _); k_here; k_dflt (l_hasStore; krs_unr)))
local macro_rules | `(tactic| walk_at "UnrEndW") => `(tactic| (k_dflt ktu_end))
local macro_rules | `(tactic| walk_at "exec AugAssign Subscript") => `(tactic| (k_dflt (refine wpAny_AugAssign_SubscriptAny ?_)))

local macro_rules | `(tactic| walk_at "subscriptTail") => `(tactic| (k_here; (with_reducible show wpAny _ _ (subscriptTail _ _ (Value.ref _) (Value.int _ _)) _ _ _); k_dflt (refine' item_led ?N ?m ?a ?b ?x ?_ ?s; (case N => k_asm); (case m => kas_types); (case a => decide); (case b => decide); (case x => rfl); (case s => with_unfolding_all rfl))))
local macro_rules | `(tactic| walk_at "inplaceOp Add ref") => `(tactic| (k_here; (with_reducible show wpAny _ _ (inplaceOp Operator.Add (Value.ref _) (Value.ref _)) _ _ _); k_dflt (refine' iadd_list ?F ?N ?b ?e ?ne ?U ?d ?z ?y ?_; (case F => k_asm); (case N => k_asm); (case b => k_mem); (case U => k_upd); (case e => kl_lit); (case ne => kl_some); (case d => kl_no); (case z => kl_room); (case y => kl_room)); intro h' F' N'; (try dsimp only [List.nil_append, List.cons_append] at N'); (try k_sweep)))
local macro_rules | `(tactic| walk_at "compareOp Eq ref") => `(tactic| (k_here; (with_reducible show wpAny _ _ (compareOp CmpOp.Eq (Value.ref _) (Value.ref _)) _ _ _); (refine cmp_ofEq ?_); k_dflt (refine' cmp_K ?k1 ?k2 ?k3 ?k4 ?k5 ?k6 ?k7 ?k8 ?_; (case k1 => ktr_units); (case k2 => k_asm); (case k3 => k_asm); (case k4 => k_inst); (case k5 => k_typeOf); (case k6 => k_is); (case k7 => k_is); (case k8 => k_is); k_whole)))
local macro_rules | `(tactic| walk_at "compareOp NotEq ref") => `(tactic| (k_here; (with_reducible show wpAny _ _ (compareOp CmpOp.NotEq (Value.ref _) (Value.ref _)) _ _ _); (refine cmp_ofNotEq ?_); k_dflt (refine' cmp_K ?k1 ?k2 ?k3 ?k4 ?k5 ?k6 ?k7 ?k8 ?_; (case k1 => ktr_units); (case k2 => k_asm); (case k3 => k_asm); (case k4 => k_inst); (case k5 => k_typeOf); (case k6 => k_is); (case k7 => k_is); (case k8 => k_is); k_whole)))
local macro_rules | `(tactic| kd_adr) => `(tactic| first | (with_reducible assumption) | (refine' Ne.symm ?_; with_reducible assumption) | (refine' ne93_of ?h6 ?m6; (case h6 => with_reducible assumption); (case m6 => kas_types)))
local macro_rules | `(tactic| walk_at "binaryOp Div ref ref") => `(tactic| (k_here; (with_reducible show wpAny _ _ (binaryOp _ (Value.ref _) (Value.ref _)) _ _ _); k_dflt (refine' binop_K ?k1 ?k2 ?k3 ?k4 ?k5 ?k6 ?k7 ?_; (case k1 => k_asm); (case k2 => k_asm); (case k3 => k_inst); (case k4 => k_typeOf); (case k5 => k_is); (case k6 => k_is); (case k7 => k_is); k_whole)))

local macro_rules | `(tactic| kas_types) => `(tactic| first | (with_reducible exact List.mem_cons_self) | ((with_reducible refine List.mem_cons_of_mem _ ?_); kas_types) | ((with_reducible refine List.mem_append_left _ ?_); kas_types) | ((with_reducible refine List.mem_append_right _ ?_); kas_types) | (with_reducible assumption))
local macro_rules | `(tactic| k_mem) => `(tactic| kas_types)

local macro_rules | `(tactic| walk_at "call ref") => `(tactic| (k_here; (with_reducible show wpAny _ _ (call (Value.ref 137) _) _ _ _); k_dflt (refine' DoesG.use (does_div _ ⟨_, _, _⟩) ?zB ?zF ?zX ?zN ?zU ?zP ?zG ?zT ?zk ?zs ?zn ⟨_, _, _, _, rfl, rfl, ?zq, ?zr⟩ ?zo ?zd ?zu ?_; (case zk => first | exact rfl | assumption); (case zB => k_asm); (case zF => k_asm); (case zX => k_asm); (case zN => k_asm); (case zT => k_asm); (case zq => assumption); (case zr => assumption); (case zs => kd_subs); (case zP => first | assumption | exact ⟨_, rfl, by assumption⟩); (case zG => k_asm); (case zn => kd_p); (case zU => k_updF); (case zo => (first | ((dsimp only; exact ⟨by assumption, by assumption⟩)) | fail "Ok")); (case zd => kd_p1); (case zu => kd_p1)); intro r' l' h' g' tk' oP' hP' F' N' nl' G' O'; (try dsimp only at N'); (try dsimp only at O'); (obtain ⟨x', d', es', e9', m1', m2'⟩ := FQ.has O'); subst e9'; (try dsimp only [PySem.W.CmpBack]); (try k_sweep)))

abbrev cnrm : Told DPt where
  Rel := RelPt
  Ok := fun d => Pr d.p ∧ d.P.2.2 ≠ (0, 0)
  size := fun _ => 40
  Out := fun l r d => ∃ t n v1 v2 l1 l2, r = .ref t ∧ @Ne Nat t 93 ∧ l = (t, tupO [.ref v1, .ref v2] n) :: (l1 ++ l2) ∧ FQ d.p l1 (.ref v1) (mulF d.p d.P.1 (invF d.p d.P.2.2)) ∧ FQ d.p l2 (.ref v2) (mulF d.p d.P.2.1 (invF d.p d.P.2.2))
set_option maxRecDepth 100000 in
set_option maxHeartbeats 40000000 in
theorem does_nrm (w : World) (d : DPt) : DoesG w 63 cnrm d := by
  w_top off
  unfold DoesG
  k_fill
  intro p loose mean mg mb dp un gd cn cs a ccd cl outer A₀ base h₀ L m news small oP s vs Q E B F X N hP nP G T hk hs hR hok hd hu hret
  obtain ⟨dp, P⟩ := d
  obtain ⟨v, rfl, hR⟩ := hR
  dsimp only at *
  obtain ⟨t, n, vx, vy, vz, lx, ly, lz, rfl, ht93, rfl, hqx, hqy, hqz⟩ := hR
  have npx := hqx.noP
  have npy := hqy.noP
  have npz := hqz.noP
  obtain ⟨wx, ox, ex, wy1, mx1, mx2⟩ := FQ.has hqx
  obtain ⟨wy, oy, ey, wy2, my1, my2⟩ := FQ.has hqy
  obtain ⟨wz, oz, ez, wy3, mz1, mz2⟩ := FQ.has hqz
  cases wy1
  cases wy2
  cases wy3
  obtain ⟨hpr, hne⟩ := hok
  have hlt : dp < 24 := by rcases hpr with h | h | h | h <;> omega
  have N0 := News.sub N (Sub.cons (q := (93, oP)) (.head _) (Sub.tail hs))
  refine wpAny_call ?_
  k_dflt (refine' code_M ?k1 ?k2 ?k3 N0 ?k5 ?kA ?kF ?kK ?k6 ?k7 ?k8 ?k9 ?kB ?_ ?c2 ?c3 ?c4 ?c5; (case kA => exact rfl); (case kF => exact rfl); (case kK => assumption); (case k1 => k_asm); (case k2 => k_asm); (case k3 => k_asm); (case k5 => k_asm); (case k6 => k_is); (case k7 => k_is); (case k8 => ktr_room); (case k9 => exact BindsTo.of_eq rfl); (case kB => exact locs rfl); (case c2 => exact rfl); (case c3 => exact rfl); (case c4 => exact rfl); (case c5 => decide); k_whole)
  intro g' L' h1' FG' F1' N1' B' X' T'; (try dsimp only); (try k_lift B'); (try k_fold)
  clear N0
  k_steps
  all_goals (
    refine' hret _ _ _ _ _ _ ?tab ?F (backG N nP hs ?kN ?kK ?s1 ?s2 ?s3) ?np ?G ?out
    case out => (refine' ⟨_, 0, _, _, _, _, rfl, ?ne, rfl, by assumption, by assumption⟩; case ne => kd_adr)
    case kN => assumption
    case kK => assumption
    case F => assumption
    case s2 => kd_subs
    case s3 => k_mem
    case s1 => kd_subs
    case tab => assumption
    case G => assumption
    case np => kd_p)

end

section
open PySem PySem.W PySem.Calls PyProof.Rows
-- the walk's own lines

-- containments, the table's place

-- quicker lines
local macro_rules | `(tactic| walk_at "setItem ref int") => `(tactic| (k_here; (with_reducible show wpAny _ _ (PySem.setItem (Value.ref _) (Value.int _ _) (Value.int _ _)) _ _ _); (refine gen_set ?_; intro z' tz' hz'); k_dflt (refine' ki_set ?F ?N ?a ?b ?e ?U ?_; (case F => k_asm); (case N => k_asm); (case U => k_upd); (case a => decide); (case b => decide); (case e => rfl)); intro h' F' N'; (try dsimp only [List.nil_append, List.cons_append] at N'); (try k_sweep)))
local macro_rules | `(tactic| walk_at "pyIter ref") => `(tactic| ((with_reducible show wpAny _ _ (pyIter (Value.ref _)) (fun it s₂ => LoopAtV _ _ _ _ _ _ _ _ _ it s₂) _ _); k_here; k_dflt (l_hasStore; krs_unr)))
local macro_rules | `(tactic| walk_at "UnrEndW") => `(tactic| (k_dflt ktu_end))
local macro_rules | `(tactic| walk_at "exec AugAssign Subscript") => `(tactic| (k_dflt (refine wpAny_AugAssign_SubscriptAny ?_)))

local macro_rules | `(tactic| kas_types) => `(tactic| first | (with_reducible exact List.mem_cons_self) | ((with_reducible refine List.mem_cons_of_mem _ ?_); kas_types) | ((with_reducible refine List.mem_append_left _ ?_); kas_types) | ((with_reducible refine List.mem_append_right _ ?_); kas_types) | (with_reducible assumption))
local macro_rules | `(tactic| k_mem) => `(tactic| kas_types)

-- facts of order as one fact an object; apartness by it
local macro_rules | `(tactic| k_lt $h:ident) => `(tactic| (replace $h := allLt_of $h))
local macro_rules | `(tactic| k_ne) => `(tactic| (refine neN ?_; (try dsimp only); first
  | (refine' Nat.ne_of_gt (lt_of_all ?h9 ?m9); (case h9 => with_reducible assumption); (case m9 => kas_types))
  | (refine' Nat.ne_of_lt (lt_of_all ?h9 ?m9); (case h9 => with_reducible assumption); (case m9 => kas_types))
  | (refine' Nat.ne_of_lt (Nat.lt_add_right _ (lt_of_all ?h9 ?m9)); (case h9 => with_reducible assumption); (case m9 => kas_types))
  | (refine' Nat.ne_of_gt (Nat.lt_add_right _ (lt_of_all ?h9 ?m9)); (case h9 => with_reducible assumption); (case m9 => kas_types))
  | (with_reducible assumption) | (refine Ne.symm ?_; with_reducible assumption) | omega))
local macro_rules | `(tactic| krn_ne) => `(tactic| k_ne)
local macro_rules | `(tactic| k_all) => `(tactic| (refine' ne_cast ?h8 ?e8; (case h8 => with_reducible assumption); (case e8 => (simp only [List.map_cons, List.map_nil]; done))))
local macro_rules | `(tactic| k_upd) => `(tactic| first | (refine' Upd.head (ne_cast ?h8 ?e8); (case h8 => with_reducible assumption); (case e8 => (simp only [List.map_cons, List.map_nil]; done))) | (refine' Upd.tail ?ua ?ub; (case ua => k_ne); (case ub => k_upd)))
local macro_rules | `(tactic| k_subL) => `(tactic| first | (with_reducible exact subL_refl) | (with_reducible exact subL_t1) | (with_reducible exact subL_t2) | (with_reducible exact subL_t3))
local macro_rules | `(tactic| krn_off) => `(tactic| (refine' offI_of (ne_cast ?h8 ?e8); (case h8 => with_reducible assumption); (case e8 => (simp only [List.map_cons, List.map_nil]; done))))
local macro_rules | `(tactic| ktu_offI) => `(tactic| (refine' offI_of (ne_cast ?h8 ?e8); (case h8 => with_reducible assumption); (case e8 => (simp only [List.map_cons, List.map_nil]; done))))
local macro_rules | `(tactic| ktu_offL) => `(tactic| first | (refine' offW1 (ne_cast ?h8 ?e8); (case h8 => with_reducible assumption); (case e8 => (simp only [List.map_cons, List.map_nil]; done))) | (refine' offW2 (ne_cast1 ?h8 ?e8) (ne_cast ?h7 ?e7); (case h8 => with_reducible assumption); (case e8 => (simp only [List.map_cons, List.map_nil]; done)); (case h7 => with_reducible assumption); (case e7 => (simp only [List.map_cons, List.map_nil]; done))))
local macro_rules | `(tactic| walk_at "binaryOp Mult ref int") => `(tactic| (k_here; (with_reducible show wpAny _ _ (binaryOp Operator.Mult (Value.ref _) (Value.int _ _)) _ _ _); k_dflt (refine' KMa.mul ?F ?N ?l ?lo ?hi ?z ?e ?_; (case F => k_asm); (case N => k_asm); (case l => is_list); (case lo => decide); (case hi => decide); (case z => exact Nat.le_of_ble_eq_true rfl); (case e => (simp only [Int.reduceMul, Int.reduceSub, Int.reduceAdd, Int.reduceToNat, List.replicate_succ, List.replicate_zero, List.flatten_cons, List.flatten_nil, List.cons_append, List.nil_append, List.append_nil]; first | done | exact rfl)); k_whole); intro D' h' F' N' l1; (try k_lt l1); (try k_sweep)))

/-- a pair of ints, as it lies -/
def Pa (l : List (Addr × Obj)) (v : Value) (z : Int × Int) : Prop := ∃ a t1 t2 n, v = .ref a ∧ @Ne Nat a 93 ∧ l = [(a, tupO [.int z.1 t1, .int z.2 t2] n)]
theorem Pa.noP {l : List (Addr × Obj)} {v : Value} {z : Int × Int} (h : Pa l v z) : NoP l := by
  obtain ⟨a, t1, t2, n, rfl, h, rfl⟩ := h
  exact NoP.cons h NoP.nil
def In2 (p : Int) (z : Int × Int) : Prop := 0 ≤ z.1 ∧ z.1 < p ∧ 0 ≤ z.2 ∧ z.2 < p
theorem mulF_in {p : Int} (hp : 0 < p) (x y : Int × Int) : In2 p (mulF p x y) := ⟨Int.emod_nonneg _ (Int.ne_of_gt hp), Int.emod_lt_of_pos _ hp, Int.emod_nonneg _ (Int.ne_of_gt hp), Int.emod_lt_of_pos _ hp⟩
abbrev RelTms (small : List (Addr × Obj)) (vs : List Value) (d : DTwo) : Prop := ∃ v1 v2 l1 l2 tp oP, vs = [v1, v2, .int d.p tp] ∧ small = (93, oP) :: (l1 ++ l2) ∧ Pa l1 v1 d.x ∧ Pa l2 v2 d.y
abbrev ctms : Told DTwo where
  Rel := RelTms
  Ok := fun d => 0 < d.p ∧ d.p < 24 ∧ In2 d.p d.x ∧ In2 d.p d.y
  size := fun _ => 12
  Out := fun l r d => Pa l r (mulF d.p d.x d.y)
theorem fm0 {a b p : Int} (hp : 0 < p) (e : a = b) : a.fmod p = b % p := by rw [Int.fmod_eq_emod_of_nonneg _ (Int.le_of_lt hp), e]
theorem pa_mul {p : Int} {x y : Int × Int} {a : Addr} {u v : Int} {t1 t2 : Tok} {n : Nat} {l : List (Addr × Obj)} (hp : 0 < p) (hl : l = [(a, tupO [.int u t1, .int v t2] n)]) (ha : @Ne Nat a 93) (h1 : u = (x.1 * y.1 - x.2 * y.2).fmod p) (h2 : v = (x.1 * y.2 + x.2 * y.1).fmod p) : Pa l (.ref a) (mulF p x y) := by
  subst h1; subst h2; subst hl
  exact ⟨a, t1, t2, n, rfl, ha, by rw [fm0 hp rfl, fm0 hp rfl]; rfl⟩
set_option maxRecDepth 100000 in
set_option maxHeartbeats 40000000 in
theorem does_tms (w : World) (d : DTwo) : Does w 244 ctms d := by
  w_top off
  unfold Does
  k_fill
  intro p loose mean mg mb dp un gd cn cs a ccd cl outer A₀ base h₀ L m news small s vs Q E B F X N T hk hs hR hok hd hu hret
  obtain ⟨dp, x, y⟩ := d
  obtain ⟨v1, v2, l1, l2, tp, oP, rfl, rfl, hR1, hR2⟩ := hR
  dsimp only at *
  obtain ⟨a1, t11, t12, n1, rfl, ha1, rfl⟩ := hR1
  obtain ⟨a2, t21, t22, n2, rfl, ha2, rfl⟩ := hR2
  simp only [List.cons_append, List.nil_append] at hs
  obtain ⟨hp0, hp24, ⟨x1l, x1h, x2l, x2h⟩, ⟨y1l, y1h, y2l, y2h⟩⟩ := hok
  have b1 : Builtin.Int.intBits x.1 ≤ 64 := PySem.intBits_le_64 (by omega) (by omega)
  have b2 : Builtin.Int.intBits x.2 ≤ 64 := PySem.intBits_le_64 (by omega) (by omega)
  have N0 := News.sub N hs
  refine wpAny_call ?_
  k_dflt (refine' code_M ?k1 ?k2 ?k3 N0 ?k5 ?kA ?kF ?kK ?k6 ?k7 ?k8 ?k9 ?kB ?_ ?c2 ?c3 ?c4 ?c5; (case kA => exact rfl); (case kF => exact rfl); (case kK => assumption); (case k1 => k_asm); (case k2 => k_asm); (case k3 => k_asm); (case k5 => k_asm); (case k6 => k_is); (case k7 => k_is); (case k8 => ktr_room); (case k9 => exact BindsTo.of_eq rfl); (case kB => exact locs rfl); (case c2 => exact rfl); (case c3 => exact rfl); (case c4 => exact rfl); (case c5 => decide); k_whole)
  intro g' L' h1' FG' F1' N1' B' X' T'; (try dsimp only); (try k_lift B'); (try k_fold)
  clear N0
  k_steps
  all_goals (
    refine' hret _ [(_, tupO [.int _ _, .int _ _] 0)] _ _ ?F (back N hs ?kN ?kK ?s1 ?s2) ?out
    case kN => assumption
    case kK => assumption
    case F => assumption
    case s2 => kd_subs
    case out => (refine' pa_mul (n := 0) hp0 rfl ?ne rfl rfl; case ne => (first | kd_adr | k_ne | omega))
    case s1 => kd_subs)

end

section
local macro_rules | `(tactic| walk_at "pad 0") => `(tactic| fail)
local macro_rules | `(tactic| walk_at "pad 1") => `(tactic| fail)
open PySem PySem.W PySem.Calls PyProof.Rows
-- the walk's own lines

-- containments, the table's place

-- quicker lines
local macro_rules | `(tactic| walk_at "setItem ref int") => `(tactic| (k_here; (with_reducible show wpAny _ _ (PySem.setItem (Value.ref _) (Value.int _ _) (Value.int _ _)) _ _ _); (refine gen_set ?_; intro z' tz' hz'); k_dflt (refine' ki_set ?F ?N ?a ?b ?e ?U ?_; (case F => k_asm); (case N => k_asm); (case U => k_upd); (case a => decide); (case b => decide); (case e => rfl)); intro h' F' N'; (try dsimp only [List.nil_append, List.cons_append] at N'); (try k_sweep)))
local macro_rules | `(tactic| walk_at "pyIter ref") => `(tactic| ((with_reducible show wpAny _ _ (pyIter (Value.ref _)) (fun it s₂ => LoopAtV _ _ _ _ _ _ _ _ _ it s₂) _ _); k_here; k_dflt (l_hasStore; krs_unr)))
local macro_rules | `(tactic| walk_at "UnrEndW") => `(tactic| (k_dflt ktu_end))
local macro_rules | `(tactic| walk_at "exec AugAssign Subscript") => `(tactic| (k_dflt (refine wpAny_AugAssign_SubscriptAny ?_)))

local macro_rules | `(tactic| kas_types) => `(tactic| first | (with_reducible exact List.mem_cons_self) | ((with_reducible refine List.mem_cons_of_mem _ ?_); kas_types) | ((with_reducible refine List.mem_append_left _ ?_); kas_types) | ((with_reducible refine List.mem_append_right _ ?_); kas_types) | (with_reducible assumption))
local macro_rules | `(tactic| k_mem) => `(tactic| kas_types)

-- facts of order as one fact an object; apartness by it
local macro_rules | `(tactic| k_lt $h:ident) => `(tactic| (replace $h := allLt_of $h))
local macro_rules | `(tactic| k_ne) => `(tactic| (refine neN ?_; (try dsimp only); first
  | (refine' Nat.ne_of_gt (lt_of_all ?h9 ?m9); (case h9 => with_reducible assumption); (case m9 => kas_types))
  | (refine' Nat.ne_of_lt (lt_of_all ?h9 ?m9); (case h9 => with_reducible assumption); (case m9 => kas_types))
  | (refine' Nat.ne_of_lt (Nat.lt_add_right _ (lt_of_all ?h9 ?m9)); (case h9 => with_reducible assumption); (case m9 => kas_types))
  | (refine' Nat.ne_of_gt (Nat.lt_add_right _ (lt_of_all ?h9 ?m9)); (case h9 => with_reducible assumption); (case m9 => kas_types))
  | (with_reducible assumption) | (refine Ne.symm ?_; with_reducible assumption) | omega))
local macro_rules | `(tactic| krn_ne) => `(tactic| k_ne)
local macro_rules | `(tactic| k_all) => `(tactic| (refine' ne_cast ?h8 ?e8; (case h8 => with_reducible assumption); (case e8 => (simp only [List.map_cons, List.map_nil]; done))))
local macro_rules | `(tactic| k_upd) => `(tactic| first | (refine' Upd.head (ne_cast ?h8 ?e8); (case h8 => with_reducible assumption); (case e8 => (simp only [List.map_cons, List.map_nil]; done))) | (refine' Upd.tail ?ua ?ub; (case ua => k_ne); (case ub => k_upd)))
local macro_rules | `(tactic| k_subL) => `(tactic| first | (with_reducible exact subL_refl) | (with_reducible exact subL_t1) | (with_reducible exact subL_t2) | (with_reducible exact subL_t3))
local macro_rules | `(tactic| krn_off) => `(tactic| (refine' offI_of (ne_cast ?h8 ?e8); (case h8 => with_reducible assumption); (case e8 => (simp only [List.map_cons, List.map_nil]; done))))
local macro_rules | `(tactic| ktu_offI) => `(tactic| (refine' offI_of (ne_cast ?h8 ?e8); (case h8 => with_reducible assumption); (case e8 => (simp only [List.map_cons, List.map_nil]; done))))
local macro_rules | `(tactic| ktu_offL) => `(tactic| first | (refine' offW1 (ne_cast ?h8 ?e8); (case h8 => with_reducible assumption); (case e8 => (simp only [List.map_cons, List.map_nil]; done))) | (refine' offW2 (ne_cast1 ?h8 ?e8) (ne_cast ?h7 ?e7); (case h8 => with_reducible assumption); (case e8 => (simp only [List.map_cons, List.map_nil]; done)); (case h7 => with_reducible assumption); (case e7 => (simp only [List.map_cons, List.map_nil]; done))))
local macro_rules | `(tactic| walk_at "binaryOp Mult ref int") => `(tactic| (k_here; (with_reducible show wpAny _ _ (binaryOp Operator.Mult (Value.ref _) (Value.int _ _)) _ _ _); k_dflt (refine' KMa.mul ?F ?N ?l ?lo ?hi ?z ?e ?_; (case F => k_asm); (case N => k_asm); (case l => is_list); (case lo => decide); (case hi => decide); (case z => exact Nat.le_of_ble_eq_true rfl); (case e => (simp only [Int.reduceMul, Int.reduceSub, Int.reduceAdd, Int.reduceToNat, List.replicate_succ, List.replicate_zero, List.flatten_cons, List.flatten_nil, List.cons_append, List.nil_append, List.append_nil]; first | done | exact rfl)); k_whole); intro D' h' F' N' l1; (try k_lt l1); (try k_sweep)))

local macro_rules | `(tactic| walk_at "call builtin:pow") => `(tactic| (k_here; (with_reducible show wpAny _ _ (call (Value.builtin _) [Value.int _ _, Value.int _ _, Value.int _ _]) _ _ _); k_dflt (refine' call_powm ?c1 ?c2 ?c3 ?_; (case c1 => omega); (case c2 => omega); (case c3 => first | omega | exact Int.fdiv_nonneg (by omega) (by decide))); intro r' tk' hr' hr0' hr1' hr2'))
def rootR (p v high low a e : Int) : Option (Int × Int) := if (a * a - high).fmod p = 0 ∧ (e * e - low).fmod p = 0 then some (if (2 * a * e - v).fmod p = 0 then (a, e) else (a, p - e)) else none
def rootT (p u v side : Int) : Option (Int × Int) := let high := (((side + u) * (p + 1)).fdiv 2).fmod p
  let low := (((side - u) * (p + 1)).fdiv 2).fmod p
  rootR p v high low (pmod high ((p + 1).fdiv 4) p) (pmod low ((p + 1).fdiv 4) p)
def root1 (p u v size : Int) : Option (Int × Int) := if (size * size - u * u - v * v).fmod p ≠ 0 then none else
  match rootT p u v size with
  | some z => some z
  | none => rootT p u v (p - size)
def rootF (p : Int) (s : Int × Int) : Option (Int × Int) := root1 p s.1 s.2 (pmod (s.1 * s.1 + s.2 * s.2) ((p + 1).fdiv 4) p)
theorem root_z {p : Int} {s : Int × Int} {r : Int} (hs : r = pmod (s.1 * s.1 + s.2 * s.2) ((p + 1).fdiv 4) p) (h : (r * r - s.1 * s.1 - s.2 * s.2).fmod p ≠ 0) : rootF p s = none := by
  unfold rootF root1; rw [← hs, if_pos h]
theorem root_t1 {p : Int} {s : Int × Int} {r : Int} {z : Int × Int} (hs : r = pmod (s.1 * s.1 + s.2 * s.2) ((p + 1).fdiv 4) p) (h : (r * r - s.1 * s.1 - s.2 * s.2).fmod p = 0) (ht : rootT p s.1 s.2 r = some z) : rootF p s = some z := by
  unfold rootF root1; rw [← hs, if_neg (fun q => q h), ht]
theorem root_t2 {p : Int} {s : Int × Int} {r : Int} {z : Option (Int × Int)} (hs : r = pmod (s.1 * s.1 + s.2 * s.2) ((p + 1).fdiv 4) p) (h : (r * r - s.1 * s.1 - s.2 * s.2).fmod p = 0) (ht : rootT p s.1 s.2 r = none) (ht2 : rootT p s.1 s.2 (p - r) = z) : rootF p s = z := by
  unfold rootF root1; rw [← hs, if_neg (fun q => q h), ht]; exact ht2
theorem rt_na {p u v side a : Int} (ha : a = pmod ((((side + u) * (p + 1)).fdiv 2).fmod p) ((p + 1).fdiv 4) p) (h : (a * a - (((side + u) * (p + 1)).fdiv 2).fmod p).fmod p ≠ 0) : rootT p u v side = none := by
  unfold rootT rootR; dsimp only; rw [← ha, if_neg (fun q => h q.1)]
theorem rt_nb {p u v side e : Int} (he : e = pmod ((((side - u) * (p + 1)).fdiv 2).fmod p) ((p + 1).fdiv 4) p) (h : (e * e - (((side - u) * (p + 1)).fdiv 2).fmod p).fmod p ≠ 0) : rootT p u v side = none := by
  unfold rootT rootR; dsimp only; rw [← he, if_neg (fun q => h q.2)]
theorem rt_s1 {p u v side a e : Int} (ha : a = pmod ((((side + u) * (p + 1)).fdiv 2).fmod p) ((p + 1).fdiv 4) p) (he : e = pmod ((((side - u) * (p + 1)).fdiv 2).fmod p) ((p + 1).fdiv 4) p) (h : (a * a - (((side + u) * (p + 1)).fdiv 2).fmod p).fmod p = 0) (h2 : (e * e - (((side - u) * (p + 1)).fdiv 2).fmod p).fmod p = 0) (h3 : (2 * a * e - v).fmod p = 0) : rootT p u v side = some (a, e) := by
  unfold rootT rootR; dsimp only; rw [← ha, ← he, if_pos ⟨h, h2⟩, if_pos h3]
theorem rt_s2 {p u v side a e : Int} (ha : a = pmod ((((side + u) * (p + 1)).fdiv 2).fmod p) ((p + 1).fdiv 4) p) (he : e = pmod ((((side - u) * (p + 1)).fdiv 2).fmod p) ((p + 1).fdiv 4) p) (h : (a * a - (((side + u) * (p + 1)).fdiv 2).fmod p).fmod p = 0) (h2 : (e * e - (((side - u) * (p + 1)).fdiv 2).fmod p).fmod p = 0) (h3 : ¬ (2 * a * e - v).fmod p = 0) : rootT p u v side = some (a, p - e) := by
  unfold rootT rootR; dsimp only; rw [← ha, ← he, if_pos ⟨h, h2⟩, if_neg h3]
abbrev RelRoot (small : List (Addr × Obj)) (vs : List Value) (d : DOne) : Prop := ∃ v1 l1 tp oP, vs = [v1, .int d.p tp] ∧ small = (93, oP) :: l1 ∧ Pa l1 v1 d.x
abbrev croot : Told DOne where
  Rel := RelRoot
  Ok := fun d => 1 < d.p ∧ d.p < 24 ∧ In2 d.p d.x
  size := fun _ => 12
  Out := fun l r d => (l = [] ∧ r = .none ∧ rootF d.p d.x = none) ∨ ∃ z, rootF d.p d.x = some z ∧ Pa l r z
set_option maxRecDepth 100000 in
set_option maxHeartbeats 40000000 in
theorem does_root (w : World) (d : DOne) : Does w 251 croot d := by
  w_top off
  unfold Does
  k_fill
  intro p loose mean mg mb dp un gd cn cs a ccd cl outer A₀ base h₀ L m news small s vs Q E B F X N T hk hs hR hok hd hu hret
  obtain ⟨dp, x⟩ := d
  obtain ⟨v1, l1, tp, oP, rfl, rfl, hR1⟩ := hR
  dsimp only at *
  obtain ⟨a1, t11, t12, n1, rfl, ha1, rfl⟩ := hR1
  obtain ⟨hp0, hp24, ⟨x1l, x1h, x2l, x2h⟩⟩ := hok
  have b1 : Builtin.Int.intBits x.1 ≤ 64 := PySem.intBits_le_64 (by omega) (by omega)
  have b2 : Builtin.Int.intBits x.2 ≤ 64 := PySem.intBits_le_64 (by omega) (by omega)
  have b3 : Builtin.Int.intBits (dp + 1) ≤ 64 := PySem.intBits_le_64 (by omega) (by omega)
  have N0 := News.sub N hs
  refine wpAny_call ?_
  k_dflt (refine' code_M ?k1 ?k2 ?k3 N0 ?k5 ?kA ?kF ?kK ?k6 ?k7 ?k8 ?k9 ?kB ?_ ?c2 ?c3 ?c4 ?c5; (case kA => exact rfl); (case kF => exact rfl); (case kK => assumption); (case k1 => k_asm); (case k2 => k_asm); (case k3 => k_asm); (case k5 => k_asm); (case k6 => k_is); (case k7 => k_is); (case k8 => ktr_room); (case k9 => exact BindsTo.of_eq rfl); (case kB => exact locs rfl); (case c2 => exact rfl); (case c3 => exact rfl); (case c4 => exact rfl); (case c5 => decide); k_whole)
  intro g' L' h1' FG' F1' N1' B' X' T'; (try dsimp only); (try k_lift B'); (try k_fold)
  clear N0
  k_steps
  all_goals first
    | (refine' hret .none [] _ _ ?F (back N hs ?kN ?kK ?s1 Sub.nil) (Or.inl ⟨rfl, rfl, ?out⟩)
       case kN => assumption
       case kK => assumption
       case F => assumption
       case out => (first | exact root_z (by assumption) (by assumption) | exact root_t2 (by assumption) (by assumption) (rt_na (by assumption) (by assumption)) (rt_na (by assumption) (by assumption)) | exact root_t2 (by assumption) (by assumption) (rt_na (by assumption) (by assumption)) (rt_nb (by assumption) (by assumption)) | exact root_t2 (by assumption) (by assumption) (rt_nb (by assumption) (by assumption)) (rt_na (by assumption) (by assumption)) | exact root_t2 (by assumption) (by assumption) (rt_nb (by assumption) (by assumption)) (rt_nb (by assumption) (by assumption)))
       case s1 => kd_subs)
    | (refine' hret _ [(_, tupO [.int _ _, .int _ _] 0)] _ _ ?F (back N hs ?kN ?kK ?s1 ?s2) ?out
       case kN => assumption
       case kK => assumption
       case F => assumption
       case s2 => kd_subs
       case out => (refine' Or.inr ⟨(_, _), ?eq, ⟨_, _, _, 0, rfl, ?ne, rfl⟩⟩; (case eq => (first | exact root_t1 (by assumption) (by assumption) (rt_s1 (by assumption) (by assumption) (by assumption) (by assumption) (by assumption)) | exact root_t1 (by assumption) (by assumption) (rt_s2 (by assumption) (by assumption) (by assumption) (by assumption) (by assumption)) | exact root_t2 (by assumption) (by assumption) (rt_na (by assumption) (by assumption)) (rt_s1 (by assumption) (by assumption) (by assumption) (by assumption) (by assumption)) | exact root_t2 (by assumption) (by assumption) (rt_na (by assumption) (by assumption)) (rt_s2 (by assumption) (by assumption) (by assumption) (by assumption) (by assumption)) | exact root_t2 (by assumption) (by assumption) (rt_nb (by assumption) (by assumption)) (rt_s1 (by assumption) (by assumption) (by assumption) (by assumption) (by assumption)) | exact root_t2 (by assumption) (by assumption) (rt_nb (by assumption) (by assumption)) (rt_s2 (by assumption) (by assumption) (by assumption) (by assumption) (by assumption)))); (case ne => (first | kd_adr | k_ne | omega)))
       case s1 => kd_subs)

end

section
local macro_rules | `(tactic| walk_at "pad 0") => `(tactic| fail)
local macro_rules | `(tactic| walk_at "pad 1") => `(tactic| fail)
local macro_rules | `(tactic| walk_at "pad 2") => `(tactic| fail)
local macro_rules | `(tactic| walk_at "pad 3") => `(tactic| fail)
local macro_rules | `(tactic| walk_at "pad 4") => `(tactic| fail)
local macro_rules | `(tactic| walk_at "pad 5") => `(tactic| fail)
open PySem PySem.W PySem.Calls PyProof.Rows
-- the walk's own lines

-- containments, the table's place

-- quicker lines
local macro_rules | `(tactic| walk_at "setItem ref int") => `(tactic| (k_here; (with_reducible show wpAny _ _ (PySem.setItem (Value.ref _) (Value.int _ _) (Value.int _ _)) _ _ _); (refine gen_set ?_; intro z' tz' hz'); k_dflt (refine' ki_set ?F ?N ?a ?b ?e ?U ?_; (case F => k_asm); (case N => k_asm); (case U => k_upd); (case a => decide); (case b => decide); (case e => rfl)); intro h' F' N'; (try dsimp only [List.nil_append, List.cons_append] at N'); (try k_sweep)))
local macro_rules | `(tactic| walk_at "pyIter ref") => `(tactic| ((with_reducible show wpAny _ _ (pyIter (Value.ref _)) (fun it s₂ => LoopAtV _ _ _ _ _ _ _ _ _ it s₂) _ _); k_here; k_dflt (l_hasStore; krs_unr)))
local macro_rules | `(tactic| walk_at "UnrEndW") => `(tactic| (k_dflt ktu_end))
local macro_rules | `(tactic| walk_at "exec AugAssign Subscript") => `(tactic| (k_dflt (refine wpAny_AugAssign_SubscriptAny ?_)))

local macro_rules | `(tactic| kas_types) => `(tactic| first | (with_reducible exact List.mem_cons_self) | ((with_reducible refine List.mem_cons_of_mem _ ?_); kas_types) | ((with_reducible refine List.mem_append_left _ ?_); kas_types) | ((with_reducible refine List.mem_append_right _ ?_); kas_types) | (with_reducible assumption))
local macro_rules | `(tactic| k_mem) => `(tactic| kas_types)

local macro_rules | `(tactic| walk_at "pyIter ref") => `(tactic| ((with_reducible show wpAny _ _ (pyIter (Value.ref _)) (fun it s₂ => LoopAtV _ _ _ _ _ _ _ _ _ it s₂) _ _); k_here; refine halt ?_))

-- facts of order as one fact an object; apartness by it
local macro_rules | `(tactic| k_lt $h:ident) => `(tactic| (replace $h := allLt_of $h))
local macro_rules | `(tactic| k_ne) => `(tactic| (refine neN ?_; (try dsimp only); first
  | (refine' Nat.ne_of_gt (lt_of_all ?h9 ?m9); (case h9 => with_reducible assumption); (case m9 => kas_types))
  | (refine' Nat.ne_of_lt (lt_of_all ?h9 ?m9); (case h9 => with_reducible assumption); (case m9 => kas_types))
  | (refine' Nat.ne_of_lt (Nat.lt_add_right _ (lt_of_all ?h9 ?m9)); (case h9 => with_reducible assumption); (case m9 => kas_types))
  | (refine' Nat.ne_of_gt (Nat.lt_add_right _ (lt_of_all ?h9 ?m9)); (case h9 => with_reducible assumption); (case m9 => kas_types))
  | (with_reducible assumption) | (refine Ne.symm ?_; with_reducible assumption) | omega))
local macro_rules | `(tactic| krn_ne) => `(tactic| k_ne)
local macro_rules | `(tactic| k_all) => `(tactic| (refine' ne_cast ?h8 ?e8; (case h8 => with_reducible assumption); (case e8 => (simp only [List.map_cons, List.map_nil]; done))))
local macro_rules | `(tactic| k_upd) => `(tactic| first | (refine' Upd.head (ne_cast ?h8 ?e8); (case h8 => with_reducible assumption); (case e8 => (simp only [List.map_cons, List.map_nil]; done))) | (refine' Upd.tail ?ua ?ub; (case ua => k_ne); (case ub => k_upd)))
local macro_rules | `(tactic| k_subL) => `(tactic| first | (with_reducible exact subL_refl) | (with_reducible exact subL_t1) | (with_reducible exact subL_t2) | (with_reducible exact subL_t3))
local macro_rules | `(tactic| krn_off) => `(tactic| (refine' offI_of (ne_cast ?h8 ?e8); (case h8 => with_reducible assumption); (case e8 => (simp only [List.map_cons, List.map_nil]; done))))
local macro_rules | `(tactic| ktu_offI) => `(tactic| (refine' offI_of (ne_cast ?h8 ?e8); (case h8 => with_reducible assumption); (case e8 => (simp only [List.map_cons, List.map_nil]; done))))
local macro_rules | `(tactic| ktu_offL) => `(tactic| first | (refine' offW1 (ne_cast ?h8 ?e8); (case h8 => with_reducible assumption); (case e8 => (simp only [List.map_cons, List.map_nil]; done))) | (refine' offW2 (ne_cast1 ?h8 ?e8) (ne_cast ?h7 ?e7); (case h8 => with_reducible assumption); (case e8 => (simp only [List.map_cons, List.map_nil]; done)); (case h7 => with_reducible assumption); (case e7 => (simp only [List.map_cons, List.map_nil]; done))))
local macro_rules | `(tactic| walk_at "binaryOp Mult ref int") => `(tactic| (k_here; (with_reducible show wpAny _ _ (binaryOp Operator.Mult (Value.ref _) (Value.int _ _)) _ _ _); k_dflt (refine' KMa.mul ?F ?N ?l ?lo ?hi ?z ?e ?_; (case F => k_asm); (case N => k_asm); (case l => is_list); (case lo => decide); (case hi => decide); (case z => exact Nat.le_of_ble_eq_true rfl); (case e => (simp only [Int.reduceMul, Int.reduceSub, Int.reduceAdd, Int.reduceToNat, List.replicate_succ, List.replicate_zero, List.flatten_cons, List.flatten_nil, List.cons_append, List.nil_append, List.append_nil]; first | done | exact rfl)); k_whole); intro D' h' F' N' l1; (try k_lt l1); (try k_sweep)))

def tr1 (p c many x : Int) : Int := if (x ^ (3 : Int).toNat + c).fmod p = 0 then many + 1 else if pmod ((x ^ (3 : Int).toNat + c).fmod p) ((p - 1).fdiv 2) p = 1 then many + 2 else many
def traceL (p c : Int) (pre : List Int) : Int := pre.foldl (tr1 p c) 1
def traceF (p c : Int) : Int := p + 1 - traceL p c (rangeKs 0 p.toNat)
theorem traceL_snoc {p c k : Int} {pre : List Int} {m : Int} (h : m = traceL p c pre) : tr1 p c m k = traceL p c (pre ++ [k]) := by
  subst h; unfold traceL; rw [List.foldl_append]; rfl
theorem tr1_z {p c m x : Int} (h : (x ^ (3 : Int).toNat + c).fmod p = 0) : m + 1 = tr1 p c m x := by unfold tr1; rw [if_pos h]
theorem tr1_s {p c m x r : Int} (h : ¬ (x ^ (3 : Int).toNat + c).fmod p = 0) (hr : r = pmod ((x ^ (3 : Int).toNat + c).fmod p) ((p - 1).fdiv 2) p) (h1 : r = 1) : m + 2 = tr1 p c m x := by unfold tr1; rw [if_neg h, ← hr, if_pos h1]
theorem tr1_n {p c m x r : Int} (h : ¬ (x ^ (3 : Int).toNat + c).fmod p = 0) (hr : r = pmod ((x ^ (3 : Int).toNat + c).fmod p) ((p - 1).fdiv 2) p) (h1 : ¬ r = 1) : m = tr1 p c m x := by unfold tr1; rw [if_neg h, ← hr, if_neg h1]
structure DTr where
  p : Int
  c : Int
abbrev ctr : Told DTr where
  Rel := fun small vs d => ∃ tp tc, vs = [.int d.p tp, .int d.c tc] ∧ small = []
  Ok := fun d => 1 < d.p ∧ d.p < 24 ∧ 0 < d.c ∧ d.c < d.p
  size := fun _ => 12
  Out := fun l r d => l = [] ∧ ∃ t, r = .int (traceF d.p d.c) t
local macro_rules | `(tactic| walk_at "call builtin:pow") => `(tactic| (k_here; (with_reducible show wpAny _ _ (call (Value.builtin _) [Value.int _ _, Value.int _ _, Value.int _ _]) _ _ _); k_dflt (refine' call_powm ?c1 ?c2 ?c3 ?_; (case c1 => omega); (case c2 => omega); (case c3 => first | omega | exact Int.fdiv_nonneg (by omega) (by decide))); intro r' tk' hr' hr0' hr1' hr2'))
set_option maxRecDepth 100000 in
set_option maxHeartbeats 40000000 in
theorem does_tr (w : World) (d : DTr) : Does w 258 ctr d := by
  w_top off
  unfold Does
  k_fill
  intro p loose mean mg mb dp un gd cn cs a ccd cl outer A₀ base h₀ L m news small s vs Q E B F X N T hk hs hR hok hd hu hret
  obtain ⟨dp, dc⟩ := d
  obtain ⟨tp, tc, rfl, rfl⟩ := hR
  dsimp only at *
  obtain ⟨hp0, hp24, hc0, hc1⟩ := hok
  have N0 := News.sub N hs
  refine wpAny_call ?_
  k_dflt (refine' code_M ?k1 ?k2 ?k3 N0 ?k5 ?kA ?kF ?kK ?k6 ?k7 ?k8 ?k9 ?kB ?_ ?c2 ?c3 ?c4 ?c5; (case kA => exact rfl); (case kF => exact rfl); (case kK => assumption); (case k1 => k_asm); (case k2 => k_asm); (case k3 => k_asm); (case k5 => k_asm); (case k6 => k_is); (case k7 => k_is); (case k8 => ktr_room); (case k9 => exact BindsTo.of_eq rfl); (case kB => exact locs rfl); (case c2 => exact rfl); (case c3 => exact rfl); (case c4 => exact rfl); (case c5 => decide); k_whole)
  intro g' L' h1' FG' F1' N1' B' X' T'; (try dsimp only); (try k_lift B'); (try k_fold)
  clear N0
  k_steps
  unfold Halt
  (with_reducible rename Fr _ _ _ _ => F9)
  (with_reducible rename News _ _ _ _ => N9)
  (with_reducible rename IsRange _ _ _ _ _ _ _ _ => rg9)
  k_dflt (refine' kst_range (σ := Int × Tok) (n := dp.toNat) (fun _ => []) (fun c => [("many", .int c.1 c.2)]) (fun _ => True) ["value"] (fun pre c => c.1 = traceL dp dc pre) (1, _) ?hh rg9 ?sm ?rs F9 N9 True.intro ?hk ?hp ?turn ?done)
  case hh => exact rfl
  case sm => exact small_one (by decide) (by decide) (by omega) (by omega)
  case rs => rw [rangeSize_one]; omega
  case hk => intro p hp; simp only [List.mem_cons, List.not_mem_nil, or_false] at hp; subst hp; rfl
  case hp => exact rfl
  case turn =>
    clear F9 N9 rg9
    intro c pre k t u h tk own hk hlen ho _ hp F' N'
    obtain ⟨many, tm⟩ := c
    have hk0 : 0 ≤ k := by omega
    have hk1 : k < dp := by omega
    have hk24 : k < 24 := by omega
    dsimp only [kstB] at *
    k_steps
    all_goals (
      (with_reducible rename Fr _ _ _ _ => F8)
      (with_reducible rename News _ _ _ _ => N8)
      refine' kst_end (_, _) F8 N8 ?en ?eo rfl True.intro ?ek ?er ?ep
      case en => exact List.forall_mem_nil _
      case eo => exact fun p h => h
      case ek => intro p hp; simp only [List.mem_cons, List.not_mem_nil, or_false] at hp; subst hp; rfl
      case er => kst_same
      case ep => first
        | exact (tr1_z (by assumption)).trans (traceL_snoc hp)
        | exact (tr1_s (by assumption) (by assumption) (by assumption)).trans (traceL_snoc hp)
        | exact (tr1_n (by assumption) (by assumption) (by assumption)).trans (traceL_snoc hp))
  case done =>
    clear F9 N9 rg9
    intro c u h tk _ hp F' N'
    obtain ⟨many, tm⟩ := c
    dsimp only [kstB] at *
    k_steps
    all_goals (
      refine' hret _ [] _ _ ?F (back N hs ?kN ?kK Sub.nil Sub.nil) ⟨rfl, _, by rw [hp]; rfl⟩
      case kN => assumption
      case kK => assumption
      case F => assumption)

end

section
open PySem PySem.W PyProof.Rows
def rhsF (p c : Int) (x : Int × Int) : Int × Int := (((mulF p (mulF p x x) x).1 + c).fmod p, (mulF p (mulF p x x) x).2)
def xAt (p k2 k3 k : Int) : Int × Int := ((k2 + k).fmod p, (k3 + k.fdiv p).fmod p)
theorem rhs_eq {p c z1 z2 y1 y2 : Int} {x : Int × Int} (h1 : (y1, y2) = mulF p x x) (h2 : (z1, z2) = mulF p (y1, y2) x) : ((z1 + c).fmod p, z2) = rhsF p c x := by unfold rhsF; rw [← h1, ← h2]
theorem mem_rangeKs {n : Nat} {k : Int} (h0 : 0 ≤ k) (h1 : k < n) : k ∈ rangeKs 0 n := by
  unfold rangeKs
  rw [List.mem_map]
  exact ⟨k.toNat, List.mem_range.mpr (by omega), by omega⟩
theorem cb {k p : Int} (hp : 6 < p) : 0 < 1 + k.fmod (p - 1) ∧ 1 + k.fmod (p - 1) < p := by
  have h1 := Int.fmod_nonneg_of_pos k (b := p - 1) (by omega)
  have h2 := Int.fmod_lt_of_pos k (b := p - 1) (by omega)
  omega
theorem none_snoc {p c k2 k3 k : Int} {pre : List Int} (h : ∀ k ∈ pre, rootF p (rhsF p c (xAt p k2 k3 k)) = none) (hk : rootF p (rhsF p c (xAt p k2 k3 k)) = none) : ∀ k' ∈ pre ++ [k], rootF p (rhsF p c (xAt p k2 k3 k')) = none := by
  intro k' hk'
  rcases List.mem_append.mp hk' with q | q
  · exact h _ q
  · rw [List.mem_singleton.mp q]; exact hk
theorem rhs_in {p c : Int} (hp : 0 < p) (x : Int × Int) : In2 p (rhsF p c x) := ⟨Int.fmod_nonneg_of_pos _ hp, Int.fmod_lt_of_pos _ hp, Int.emod_nonneg _ (Int.ne_of_gt hp), Int.emod_lt_of_pos _ hp⟩
def conjF (p : Int) (x : Int × Int) : Int × Int := (x.1, (-x.2).fmod p)
theorem conj_in {p : Int} {x : Int × Int} (hp : 0 < p) (h : In2 p x) : In2 p (conjF p x) := ⟨h.1, h.2.1, Int.fmod_nonneg_of_pos _ hp, Int.fmod_lt_of_pos _ hp⟩
def ngF3 (p : Int) (P : P3) : P3 := (P.1, negF p P.2.1, P.2.2)
/-- t times a point, t below nought too -/
def rightF (p t : Int) (P : P3) : P3 := if 0 ≤ t then mltF p 5 t.toNat P else ngF3 p (mltF p 5 (-t).toNat P)
def conj3 (p : Int) (P : P3) : P3 := (conjF p P.1, conjF p P.2.1, conjF p P.2.2)
/-- what the law asks of a form of a point -/
structure Asked (p c : Int) (P : P3) : Prop where
  inf : (mltF p 5 (p + 1).toNat P).2.2 = (0, 0) ↔ (rightF p (traceF p c) (conj3 p P)).2.2 = (0, 0)
  eq : (mltF p 5 (p + 1).toNat P).2.2 ≠ (0, 0) → eqF p (mltF p 5 (p + 1).toNat P) (rightF p (traceF p c) (conj3 p P)) = true
  b1 : (paF p P (conj3 p P)).2.2 ≠ (0, 0) → (mulF p (paF p P (conj3 p P)).1 (invF p (paF p P (conj3 p P)).2.2)).2 = 0
  b2 : (paF p P (conj3 p P)).2.2 ≠ (0, 0) → (mulF p (paF p P (conj3 p P)).2.1 (invF p (paF p P (conj3 p P)).2.2)).2 = 0
  a1 : (paF p P (ngF3 p (conj3 p P))).2.2 ≠ (0, 0) → (mulF p (paF p P (ngF3 p (conj3 p P))).1 (invF p (paF p P (ngF3 p (conj3 p P))).2.2)).2 = 0
  a2 : (paF p P (ngF3 p (conj3 p P))).2.2 ≠ (0, 0) → (mulF p (paF p P (ngF3 p (conj3 p P))).2.1 (invF p (paF p P (ngF3 p (conj3 p P))).2.2)).1 = 0
end

section
open PySem PySem.W PyProof.Rows
def rd (p : Int) (x : Int × Int) : Int × Int := (x.1 % p, x.2 % p)
def gm (x y : Int × Int) : Int × Int := (x.1 * y.1 - x.2 * y.2, x.1 * y.2 + x.2 * y.1)
def gs (x y : Int × Int) : Int × Int := (x.1 - y.1, x.2 - y.2)
theorem mulF_eq (p : Int) (x y : Int × Int) : mulF p x y = rd p (gm x y) := rfl
theorem subF_eq (p : Int) (x y : Int × Int) : subF p x y = rd p (gs x y) := rfl
theorem rd_rd (p : Int) (x : Int × Int) : rd p (rd p x) = rd p x := Prod.ext (Int.emod_emod_of_dvd _ (Int.dvd_refl p)) (Int.emod_emod_of_dvd _ (Int.dvd_refl p))
theorem em_sub (x y c d p : Int) : (x % p * c - y % p * d) % p = (x * c - y * d) % p := by
  have hx := Int.emod_add_mul_ediv x p
  have hy := Int.emod_add_mul_ediv y p
  have e : x * c - y * d = (x % p * c - y % p * d) + p * (x / p * c - y / p * d) := by grind
  rw [e, Int.add_mul_emod_self_left]
theorem em_add (x y c d p : Int) : (x % p * c + y % p * d) % p = (x * c + y * d) % p := by
  have hx := Int.emod_add_mul_ediv x p
  have hy := Int.emod_add_mul_ediv y p
  have e : x * c + y * d = (x % p * c + y % p * d) + p * (x / p * c + y / p * d) := by grind
  rw [e, Int.add_mul_emod_self_left]
theorem gm_comm (x y : Int × Int) : gm x y = gm y x := Prod.ext (by simp only [gm]; grind) (by simp only [gm]; grind)
theorem gm_assoc (x y z : Int × Int) : gm (gm x y) z = gm x (gm y z) := Prod.ext (by simp only [gm]; grind) (by simp only [gm]; grind)
theorem gm_gs (k x y : Int × Int) : gs (gm k x) (gm k y) = gm k (gs x y) := Prod.ext (by simp only [gm, gs]; grind) (by simp only [gm, gs]; grind)
theorem rd_gm (p : Int) (x y : Int × Int) : rd p (gm (rd p x) y) = rd p (gm x y) := Prod.ext (em_sub _ _ _ _ _) (em_add _ _ _ _ _)
theorem rd_gm' (p : Int) (x y : Int × Int) : rd p (gm x (rd p y)) = rd p (gm x y) := by rw [gm_comm, rd_gm, gm_comm]
theorem rd_gs (p : Int) (x y : Int × Int) : rd p (gs (rd p x) (rd p y)) = rd p (gs x y) := Prod.ext (by simp [rd, gs]) (by simp [rd, gs])
theorem mulF_comm (p : Int) (x y : Int × Int) : mulF p x y = mulF p y x := by rw [mulF_eq, mulF_eq, gm_comm]
theorem mulF_assoc (p : Int) (x y z : Int × Int) : mulF p (mulF p x y) z = mulF p x (mulF p y z) := by simp only [mulF_eq, rd_gm, rd_gm', gm_assoc]
theorem mulF_subF (p : Int) (k x y : Int × Int) : subF p (mulF p k x) (mulF p k y) = mulF p k (subF p x y) := by simp only [mulF_eq, subF_eq, rd_gm', rd_gs, gm_gs]
theorem smulF_eq (p n : Int) (x : Int × Int) : smulF p n x = mulF p (n, 0) x := Prod.ext (by simp [smulF, mulF, Int.mul_comm]) (by simp [smulF, mulF, Int.mul_comm])
section
variable {p : Int} {k l a b a' b' u n : Int × Int}
theorem mm (p : Int) (k a l b : Int × Int) : mulF p (mulF p k a) (mulF p l b) = mulF p (mulF p k l) (mulF p a b) := by
  haveI : Std.Associative (mulF p) := ⟨mulF_assoc p⟩
  haveI : Std.Commutative (mulF p) := ⟨mulF_comm p⟩
  ac_rfl
theorem sc_mul (h1 : a' = mulF p k a) (h2 : b' = mulF p l b) : mulF p a' b' = mulF p (mulF p k l) (mulF p a b) := by rw [h1, h2, mm]
theorem sc_sm {n : Int} (h : a' = mulF p k a) : smulF p n a' = mulF p k (smulF p n a) := by
  rw [h, smulF_eq, smulF_eq, ← mulF_assoc, mulF_comm p (n, 0) k, mulF_assoc]
theorem sc_sub (h1 : a' = mulF p k a) (h2 : b' = mulF p l b) (e : l = k) : subF p a' b' = mulF p k (subF p a b) := by rw [h1, h2, e, mulF_subF]
/-- the forms of a point that belong together -/
def tw (p : Int) (k u : Int × Int) (P : P3) : P3 := (mulF p (mulF p k (mulF p u u)) P.1, mulF p (mulF p k (mulF p u (mulF p u u))) P.2.1, mulF p k P.2.2)
def KD (p : Int) (k u : Int × Int) : Int × Int := mulF p (mulF p (mulF p k (mulF p u (mulF p u u))) k) (mulF p (mulF p (mulF p k (mulF p u (mulF p u u))) k) (mulF p (mulF p k (mulF p u (mulF p u u))) k))
theorem dbl_tw (p : Int) (k u : Int × Int) (P : P3) : dblF p (tw p k u P) = tw p (KD p k u) u (dblF p P) := by
  haveI : Std.Associative (mulF p) := ⟨mulF_assoc p⟩
  haveI : Std.Commutative (mulF p) := ⟨mulF_comm p⟩
  obtain ⟨x, y, z⟩ := P
  have hx : mulF p (mulF p k (mulF p u u)) x = mulF p (mulF p k (mulF p u u)) x := rfl
  have hy : mulF p (mulF p k (mulF p u (mulF p u u))) y = mulF p (mulF p k (mulF p u (mulF p u u))) y := rfl
  have hz : mulF p k z = mulF p k z := rfl
  have hW := sc_mul (sc_sm (n := 3) hx) hx
  have hS := sc_mul hy hz
  have hB := sc_mul (sc_mul hx hy) hS
  have hH := sc_sub (sc_mul hW hW) (sc_sm (n := 8) hB) (by ac_rfl)
  have nx := sc_mul (sc_sm (n := 2) hH) hS
  have ny := sc_sub (sc_mul hW (sc_sub (sc_sm (n := 4) hB) hH (by ac_rfl))) (sc_mul (sc_mul (sc_sm (n := 8) hy) hy) (sc_mul hS hS)) (by ac_rfl)
  have nz := sc_mul (sc_sm (n := 8) hS) (sc_mul hS hS)
  refine Prod.ext (nx.trans ?_) (Prod.ext (ny.trans ?_) (nz.trans ?_))
  · show mulF p _ _ = mulF p (mulF p (KD p k u) (mulF p u u)) _
    refine congrArg (fun t => mulF p t _) ?_
    unfold KD
    ac_rfl
  · show mulF p _ _ = mulF p (mulF p (KD p k u) (mulF p u (mulF p u u))) _
    refine congrArg (fun t => mulF p t _) ?_
    unfold KD
    ac_rfl
  · show mulF p _ _ = mulF p (KD p k u) _
    refine congrArg (fun t => mulF p t _) ?_
    unfold KD
    ac_rfl
/-- the sum of two points that are neither the same nor opposite -/
def gaF (p : Int) (P R : P3) : P3 :=
  let U1 := mulF p R.2.1 P.2.2
  let U2 := mulF p P.2.1 R.2.2
  let V1 := mulF p R.1 P.2.2
  let V2 := mulF p P.1 R.2.2
  let U := subF p U1 U2
  let V := subF p V1 V2
  let Vs := mulF p V V
  let VsV2 := mulF p Vs V2
  let Vc := mulF p V Vs
  let W := mulF p P.2.2 R.2.2
  let A := subF p (subF p (mulF p (mulF p U U) W) Vc) (smulF p 2 VsV2)
  (mulF p V A, subF p (mulF p U (subF p VsV2 A)) (mulF p Vc U2), mulF p Vc W)
def KA (p : Int) (n u : Int × Int) : Int × Int := mulF p (mulF p (mulF p n (mulF p u u)) (mulF p (mulF p n (mulF p u u)) (mulF p n (mulF p u u)))) n
theorem ga_tw (p : Int) (k m u : Int × Int) (P R : P3) : gaF p (tw p k u P) (tw p m u R) = tw p (KA p (mulF p k m) u) u (gaF p P R) := by
  haveI : Std.Associative (mulF p) := ⟨mulF_assoc p⟩
  haveI : Std.Commutative (mulF p) := ⟨mulF_comm p⟩
  obtain ⟨x1, y1, z1⟩ := P
  obtain ⟨x2, y2, z2⟩ := R
  have hx1 : mulF p (mulF p k (mulF p u u)) x1 = mulF p (mulF p k (mulF p u u)) x1 := rfl
  have hy1 : mulF p (mulF p k (mulF p u (mulF p u u))) y1 = mulF p (mulF p k (mulF p u (mulF p u u))) y1 := rfl
  have hz1 : mulF p k z1 = mulF p k z1 := rfl
  have hx2 : mulF p (mulF p m (mulF p u u)) x2 = mulF p (mulF p m (mulF p u u)) x2 := rfl
  have hy2 : mulF p (mulF p m (mulF p u (mulF p u u))) y2 = mulF p (mulF p m (mulF p u (mulF p u u))) y2 := rfl
  have hz2 : mulF p m z2 = mulF p m z2 := rfl
  have hU1 := sc_mul hy2 hz1
  have hU2 := sc_mul hy1 hz2
  have hV1 := sc_mul hx2 hz1
  have hV2 := sc_mul hx1 hz2
  have hU := sc_sub hU1 hU2 (by ac_rfl)
  have hV := sc_sub hV1 hV2 (by ac_rfl)
  have hVs := sc_mul hV hV
  have hVV := sc_mul hVs hV2
  have hVc := sc_mul hV hVs
  have hW := sc_mul hz1 hz2
  have hA := sc_sub (sc_sub (sc_mul (sc_mul hU hU) hW) hVc (by ac_rfl)) (sc_sm (n := 2) hVV) (by ac_rfl)
  have nx := sc_mul hV hA
  have ny := sc_sub (sc_mul hU (sc_sub hVV hA (by ac_rfl))) (sc_mul hVc hU2) (by ac_rfl)
  have nz := sc_mul hVc hW
  refine Prod.ext (nx.trans ?_) (Prod.ext (ny.trans ?_) (nz.trans ?_))
  · show mulF p _ _ = mulF p (mulF p (KA p (mulF p k m) u) (mulF p u u)) _
    refine congrArg (fun t => mulF p t _) ?_
    unfold KA
    ac_rfl
  · show mulF p _ _ = mulF p (mulF p (KA p (mulF p k m) u) (mulF p u (mulF p u u))) _
    refine congrArg (fun t => mulF p t _) ?_
    unfold KA
    ac_rfl
  · show mulF p _ _ = mulF p (KA p (mulF p k m) u) _
    refine congrArg (fun t => mulF p t _) ?_
    unfold KA
    ac_rfl
end
/-- an element that has an inverse -/
def Un (p : Int) (k : Int × Int) : Prop := ∃ k', mulF p k k' = (1, 0)
/-- an element in its own form -/
def Can (p : Int) (x : Int × Int) : Prop := mulF p (1, 0) x = x
theorem can_of {p : Int} {x : Int × Int} (h : In2 p x) : Can p x := by
  obtain ⟨a, b⟩ := x
  refine Prod.ext ?_ ?_
  · show (1 * a - 0 * b) % p = a
    rw [Int.one_mul, Int.zero_mul, Int.sub_zero]; exact Int.emod_eq_of_lt h.1 h.2.1
  · show (1 * b + 0 * a) % p = b
    rw [Int.one_mul, Int.zero_mul, Int.add_zero]; exact Int.emod_eq_of_lt h.2.2.1 h.2.2.2
theorem gm_one (x : Int × Int) : gm (1, 0) x = x := Prod.ext (by simp [gm]) (by simp [gm])
theorem can_rd (p : Int) (x : Int × Int) : Can p (rd p x) := by unfold Can; rw [mulF_eq, rd_gm', gm_one]
theorem can_mul (p : Int) (x y : Int × Int) : Can p (mulF p x y) := can_rd p (gm x y)
theorem can_sub (p : Int) (x y : Int × Int) : Can p (subF p x y) := can_rd p (gs x y)
theorem un_mul {p : Int} (hp : 1 < p) {k l : Int × Int} (h1 : Un p k) (h2 : Un p l) : Un p (mulF p k l) := by
  obtain ⟨k', e1⟩ := h1
  obtain ⟨l', e2⟩ := h2
  refine ⟨mulF p k' l', ?_⟩
  rw [mm, e1, e2]
  exact can_of ⟨by decide, hp, Int.le_refl _, by show (0 : Int) < p; omega⟩
theorem cancel {p : Int} {k a b : Int × Int} (hk : Un p k) (ha : Can p a) (hb : Can p b) (h : mulF p k a = mulF p k b) : a = b := by
  obtain ⟨k', e⟩ := hk
  have h2 := congrArg (mulF p k') h
  rw [← mulF_assoc, ← mulF_assoc, mulF_comm p k' k, e] at h2
  exact ha.symm.trans (h2.trans hb)
theorem mul_z (p : Int) (k : Int × Int) : mulF p k (0, 0) = (0, 0) := by simp [mulF]
theorem can_z (p : Int) : Can p (0, 0) := mul_z p _
theorem z_iff {p : Int} {k a : Int × Int} (hk : Un p k) (ha : Can p a) : mulF p k a = (0, 0) ↔ a = (0, 0) :=
  ⟨fun h => cancel hk ha (can_z p) (h.trans (mul_z p k).symm), fun h => by rw [h, mul_z]⟩
def CanP (p : Int) (P : P3) : Prop := Can p P.1 ∧ Can p P.2.1 ∧ Can p P.2.2
theorem can_tw (p : Int) (k u : Int × Int) (P : P3) : CanP p (tw p k u P) := ⟨can_mul _ _ _, can_mul _ _ _, can_mul _ _ _⟩
theorem can_dbl (p : Int) (P : P3) : CanP p (dblF p P) := ⟨can_mul _ _ _, can_sub _ _ _, can_mul _ _ _⟩
theorem can_ga (p : Int) (P R : P3) : CanP p (gaF p P R) := ⟨can_mul _ _ _, can_sub _ _ _, can_mul _ _ _⟩
/-- two forms of points that belong together by u -/
def Rl (p : Int) (u : Int × Int) (P P' : P3) : Prop := CanP p P ∧ CanP p P' ∧ ((∃ k, Un p k ∧ P' = tw p k u P) ∨ (P.2.2 = (0, 0) ∧ P'.2.2 = (0, 0)))
theorem Rl.z {p : Int} {u : Int × Int} {P P' : P3} (h : Rl p u P P') : P'.2.2 = (0, 0) ↔ P.2.2 = (0, 0) := by
  obtain ⟨h1, h2, ⟨k, hk, rfl⟩ | ⟨e1, e2⟩⟩ := h
  · exact z_iff hk h1.2.2
  · exact ⟨fun _ => e1, fun _ => e2⟩
theorem Rl.get {p : Int} {u : Int × Int} {P P' : P3} (h : Rl p u P P') (hz : P.2.2 ≠ (0, 0)) : ∃ k, Un p k ∧ P' = tw p k u P := by
  obtain ⟨h1, h2, h | ⟨e1, e2⟩⟩ := h
  · exact h
  · exact absurd e1 hz
theorem un_KD {p : Int} (hp : 1 < p) {k u : Int × Int} (hk : Un p k) (hu : Un p u) : Un p (KD p k u) := by
  have h3 := un_mul hp (un_mul hp hk (un_mul hp hu (un_mul hp hu hu))) hk
  exact un_mul hp h3 (un_mul hp h3 h3)
theorem un_KA {p : Int} (hp : 1 < p) {n u : Int × Int} (hn : Un p n) (hu : Un p u) : Un p (KA p n u) := by
  have h2 := un_mul hp hn (un_mul hp hu hu)
  exact un_mul hp (un_mul hp h2 (un_mul hp h2 h2)) hn
theorem Rl.dbl {p : Int} (hp : 1 < p) {u : Int × Int} (hu : Un p u) {P P' : P3} (h : Rl p u P P') : Rl p u (dblF p P) (dblF p P') := by
  refine ⟨can_dbl _ _, can_dbl _ _, ?_⟩
  obtain ⟨h1, h2, ⟨k, hk, rfl⟩ | ⟨e1, e2⟩⟩ := h
  · exact Or.inl ⟨_, un_KD hp hk hu, dbl_tw p k u P⟩
  · have hz : ∀ Q : P3, Q.2.2 = (0, 0) → (dblF p Q).2.2 = (0, 0) := fun Q hQ => by
      show mulF p (smulF p 8 (mulF p Q.2.1 Q.2.2)) _ = _
      rw [hQ, mul_z, smulF_eq, mul_z, mulF_comm, mul_z]
    exact Or.inr ⟨hz _ e1, hz _ e2⟩
theorem zm (p : Int) : ((0 % p, 0 % p) : Int × Int) = (0, 0) := by simp
theorem Rl.add {p : Int} (hp : 1 < p) {u : Int × Int} (hu : Un p u) {P P' R R' : P3} (h : Rl p u P P') (h' : Rl p u R R') : Rl p u (paF p P R) (paF p P' R') := by
  by_cases hR : R.2.2 = (0, 0)
  · rw [← paF_z2 (P := P) (by rw [zm]; exact hR), ← paF_z2 (P := P') (by rw [zm]; exact h'.z.mpr hR)]
    exact h
  · have hR' : ¬ R'.2.2 = (0, 0) := fun q => hR (h'.z.mp q)
    by_cases hP : P.2.2 = (0, 0)
    · rw [← paF_z1 (R := R) (by rw [zm]; exact hP) (by rw [zm]; exact hR), ← paF_z1 (R := R') (by rw [zm]; exact h.z.mpr hP) (by rw [zm]; exact hR')]
      exact h'
    · have hP' : ¬ P'.2.2 = (0, 0) := fun q => hP (h.z.mp q)
      have g0 : ¬ P.2.2 = (0 % p, 0 % p) := by rw [zm]; exact hP
      have g1 : ¬ R.2.2 = (0 % p, 0 % p) := by rw [zm]; exact hR
      have g0' : ¬ P'.2.2 = (0 % p, 0 % p) := by rw [zm]; exact hP'
      have g1' : ¬ R'.2.2 = (0 % p, 0 % p) := by rw [zm]; exact hR'
      have hd := h.dbl hp hu
      obtain ⟨k, hk, e1⟩ := h.get hP
      obtain ⟨m, hm, e2⟩ := h'.get hR
      haveI : Std.Associative (mulF p) := ⟨mulF_assoc p⟩
      haveI : Std.Commutative (mulF p) := ⟨mulF_comm p⟩
      have hn := un_mul hp hm hk
      have uV := un_mul hp (un_mul hp hm (un_mul hp hu hu)) hk
      have uU := un_mul hp (un_mul hp hm (un_mul hp hu (un_mul hp hu hu))) hk
      have V1 : mulF p R'.1 P'.2.2 = mulF p (mulF p (mulF p m (mulF p u u)) k) (mulF p R.1 P.2.2) := by rw [e1, e2]; exact mm _ _ _ _ _
      have V2 : mulF p P'.1 R'.2.2 = mulF p (mulF p (mulF p m (mulF p u u)) k) (mulF p P.1 R.2.2) := by rw [e1, e2]; exact (mm _ _ _ _ _).trans (congrArg (fun t => mulF p t _) (by ac_rfl))
      have U1 : mulF p R'.2.1 P'.2.2 = mulF p (mulF p (mulF p m (mulF p u (mulF p u u))) k) (mulF p R.2.1 P.2.2) := by rw [e1, e2]; exact mm _ _ _ _ _
      have U2 : mulF p P'.2.1 R'.2.2 = mulF p (mulF p (mulF p m (mulF p u (mulF p u u))) k) (mulF p P.2.1 R.2.2) := by rw [e1, e2]; exact (mm _ _ _ _ _).trans (congrArg (fun t => mulF p t _) (by ac_rfl))
      have iV : mulF p R'.1 P'.2.2 = mulF p P'.1 R'.2.2 ↔ mulF p R.1 P.2.2 = mulF p P.1 R.2.2 := by
        rw [V1, V2]
        exact ⟨fun q => cancel uV (can_mul _ _ _) (can_mul _ _ _) q, fun q => by rw [q]⟩
      have iU : mulF p R'.2.1 P'.2.2 = mulF p P'.2.1 R'.2.2 ↔ mulF p R.2.1 P.2.2 = mulF p P.2.1 R.2.2 := by
        rw [U1, U2]
        exact ⟨fun q => cancel uU (can_mul _ _ _) (can_mul _ _ _) q, fun q => by rw [q]⟩
      by_cases hV : mulF p R.1 P.2.2 = mulF p P.1 R.2.2
      · by_cases hU : mulF p R.2.1 P.2.2 = mulF p P.2.1 R.2.2
        · rw [← paF_dbl g0 g1 hV hU, ← paF_dbl g0' g1' (iV.mpr hV) (iU.mpr hU)]
          exact hd
        · rw [← paF_opp g0 g1 hV hU, ← paF_opp g0' g1' (iV.mpr hV) (fun q => hU (iU.mp q))]
          have c1 : Can p (1 % p, 0 % p) := can_rd p (1, 0)
          have c0 : Can p (0 % p, 0 % p) := can_rd p (0, 0)
          exact ⟨⟨c1, c1, c0⟩, ⟨c1, c1, c0⟩, Or.inr ⟨zm p, zm p⟩⟩
      · have r1 : gaF p P R = paF p P R := paF_gen g0 g1 hV
        have r2 : gaF p P' R' = paF p P' R' := paF_gen g0' g1' (fun q => hV (iV.mp q))
        rw [← r1, ← r2]
        exact ⟨can_ga _ _ _, can_ga _ _ _, Or.inl ⟨_, un_KA hp (un_mul hp hk hm) hu, by rw [e1, e2]; exact ga_tw p k m u P R⟩⟩
theorem Rl.mlt {p : Int} (hp : 1 < p) {u : Int × Int} (hu : Un p u) : ∀ (f n : Nat) {P P' : P3}, Rl p u P P' → Rl p u (mltF p f n P) (mltF p f n P')
  | 0, _, _, _, h => h
  | f + 1, n, P, P', h => by
    unfold mltF
    by_cases h0 : n = 0
    · rw [if_pos h0, if_pos h0]
      have c1 : Can p (1 % p, 0 % p) := can_rd p (1, 0)
      have c0 : Can p (0 % p, 0 % p) := can_rd p (0, 0)
      exact ⟨⟨c1, c1, c0⟩, ⟨c1, c1, c0⟩, Or.inr ⟨zm p, zm p⟩⟩
    · rw [if_neg h0, if_neg h0]
      by_cases h1 : n = 1
      · rw [if_pos h1, if_pos h1]; exact h
      · rw [if_neg h1, if_neg h1]
        have ih := Rl.mlt hp hu f (n / 2) (h.dbl hp hu)
        by_cases h2 : n % 2 = 0
        · rw [if_pos h2, if_pos h2]; exact ih
        · rw [if_neg h2, if_neg h2]; exact ih.add hp hu h
end

section
open PySem PySem.W PyProof.Rows
set_option maxRecDepth 100000
/-- every pair below n -/
def allP (n : Nat) (f : Nat → Nat → Bool) : Bool := (List.range n).all fun a => (List.range n).all fun b => f a b
theorem allP_at {n : Nat} {f : Nat → Nat → Bool} (h : allP n f = true) {a b : Nat} (ha : a < n) (hb : b < n) : f a b = true :=
  List.all_eq_true.mp (List.all_eq_true.mp h a (List.mem_range.mpr ha)) b (List.mem_range.mpr hb)
theorem pr_nat {p : Int} (h : Pr p) : ∃ n : Nat, p = n ∧ (n = 7 ∨ n = 11 ∨ n = 19 ∨ n = 23) := by
  rcases h with h | h | h | h
  · exact ⟨7, h, Or.inl rfl⟩
  · exact ⟨11, h, Or.inr (Or.inl rfl)⟩
  · exact ⟨19, h, Or.inr (Or.inr (Or.inl rfl))⟩
  · exact ⟨23, h, Or.inr (Or.inr (Or.inr rfl))⟩
theorem all4 {B : Nat → Bool} (h7 : B 7 = true) (h11 : B 11 = true) (h19 : B 19 = true) (h23 : B 23 = true) {n : Nat} (h : n = 7 ∨ n = 11 ∨ n = 19 ∨ n = 23) : B n = true := by
  rcases h with rfl | rfl | rfl | rfl <;> assumption
theorem in2_nat {n : Nat} {x : Int × Int} (h : In2 (n : Int) x) : ∃ a b : Nat, x = ((a : Int), (b : Int)) ∧ a < n ∧ b < n := by
  obtain ⟨x1, x2⟩ := x
  obtain ⟨h1, h2, h3, h4⟩ := h
  dsimp only at h1 h2 h3 h4
  exact ⟨x1.toNat, x2.toNat, Prod.ext (by show x1 = _; omega) (by show x2 = _; omega), by omega, by omega⟩
def frobB (p : Nat) : Bool := allP p fun a b => decide (powF p p (a, b) = conjF p (a, b))
theorem frob7 : frobB 7 = true := by decide +kernel
theorem frob11 : frobB 11 = true := by decide +kernel
theorem frob19 : frobB 19 = true := by decide +kernel
theorem frob23 : frobB 23 = true := by decide +kernel
theorem frob {p : Int} {x : Int × Int} (hpr : Pr p) (hx : In2 p x) : powF p p.toNat x = conjF p x := by
  obtain ⟨n, rfl, hn⟩ := pr_nat hpr
  obtain ⟨a, b, rfl, ha, hb⟩ := in2_nat hx
  exact of_decide_eq_true (allP_at (all4 (B := frobB) frob7 frob11 frob19 frob23 hn) ha hb)
def rootB (p : Nat) : Bool := allP p fun a b => match rootF p (a, b) with
  | none => true
  | some y => decide (0 ≤ y.1 ∧ y.1 < p ∧ 0 ≤ y.2 ∧ y.2 < p ∧ mulF p y y = ((a : Int), (b : Int)))
theorem rootA7 : rootB 7 = true := by decide +kernel
theorem rootA11 : rootB 11 = true := by decide +kernel
theorem rootA19 : rootB 19 = true := by decide +kernel
theorem rootA23 : rootB 23 = true := by decide +kernel
theorem root_sound {p : Int} {s y : Int × Int} (hpr : Pr p) (hs : In2 p s) (h : rootF p s = some y) : In2 p y ∧ mulF p y y = s := by
  obtain ⟨n, rfl, hn⟩ := pr_nat hpr
  obtain ⟨a, b, rfl, ha, hb⟩ := in2_nat hs
  have := allP_at (all4 (B := rootB) rootA7 rootA11 rootA19 rootA23 hn) ha hb
  rw [h] at this
  obtain ⟨h1, h2, h3, h4, h5⟩ := of_decide_eq_true this
  exact ⟨⟨h1, h2, h3, h4⟩, h5⟩
def rotcB (p : Nat) : Bool := allP p fun a b => match rootF p (mulF p (a, b) (a, b)) with
  | none => false
  | some y => decide (y = ((a : Int), (b : Int))) || decide (y = negF p (a, b))
theorem rotc7 : rotcB 7 = true := by decide +kernel
theorem rotc11 : rotcB 11 = true := by decide +kernel
theorem rotc19 : rotcB 19 = true := by decide +kernel
theorem rotc23 : rotcB 23 = true := by decide +kernel
theorem root_comp {p : Int} {y : Int × Int} (hpr : Pr p) (hy : In2 p y) : rootF p (mulF p y y) = some y ∨ rootF p (mulF p y y) = some (negF p y) := by
  obtain ⟨n, rfl, hn⟩ := pr_nat hpr
  obtain ⟨a, b, rfl, ha, hb⟩ := in2_nat hy
  have := allP_at (all4 (B := rotcB) rotc7 rotc11 rotc19 rotc23 hn) ha hb
  cases e : rootF n (mulF n ((a : Int), (b : Int)) ((a : Int), (b : Int))) with
  | none => rw [e] at this; cases this
  | some z =>
    rw [e] at this
    rcases (Bool.or_eq_true _ _).mp this with q | q
    · exact Or.inl (congrArg some (of_decide_eq_true q))
    · exact Or.inr (congrArg some (of_decide_eq_true q))
def invB (p : Nat) : Bool := allP p fun a b => (decide (a = 0) && decide (b = 0)) || decide (mulF p (a, b) (invF p (a, b)) = (1, 0))
theorem invA7 : invB 7 = true := by decide +kernel
theorem invA11 : invB 11 = true := by decide +kernel
theorem invA19 : invB 19 = true := by decide +kernel
theorem invA23 : invB 23 = true := by decide +kernel
theorem inv_ok {p : Int} (hpr : Pr p) : ∀ z, In2 p z → z ≠ (0, 0) → mulF p z (invF p z) = (1, 0) := by
  intro z hz hnz
  obtain ⟨n, rfl, hn⟩ := pr_nat hpr
  obtain ⟨a, b, rfl, ha, hb⟩ := in2_nat hz
  have := allP_at (all4 (B := invB) invA7 invA11 invA19 invA23 hn) ha hb
  rcases (Bool.or_eq_true _ _).mp this with q | q
  · obtain ⟨q1, q2⟩ := (Bool.and_eq_true _ _).mp q
    exact absurd (Prod.ext (by show (a : Int) = 0; rw [of_decide_eq_true q1]; rfl) (by show (b : Int) = 0; rw [of_decide_eq_true q2]; rfl)) hnz
  · exact of_decide_eq_true q
/-- a square's norm is a square -/
def nrT (p : Nat) (s : Int × Int) : Nat := ((s.1 * s.1 + s.2 * s.2) % p).toNat ^ ((p - 1) / 2) % p
def eulB (p : Nat) : Bool := allP p fun a b => !decide (nrT p (a, b) ≤ 1) || (rootF p (a, b)).isSome
theorem eul7 : eulB 7 = true := by decide +kernel
theorem eul11 : eulB 11 = true := by decide +kernel
theorem eul19 : eulB 19 = true := by decide +kernel
theorem eul23 : eulB 23 = true := by decide +kernel
def fndB (p : Nat) : Bool := (List.range (p - 1)).all fun c => (List.range p).all fun e => (List.range p).any fun a => decide (nrT p (rhsF p ((c : Int) + 1) (a, e)) ≤ 1)
theorem fnd7 : fndB 7 = true := by decide +kernel
theorem fnd11 : fndB 11 = true := by decide +kernel
theorem fnd19 : fndB 19 = true := by decide +kernel
theorem fnd23 : fndB 23 = true := by decide +kernel
theorem found {p c k2 k3 : Int} (hpr : Pr p) (hc : 0 < c) (hc' : c < p) : ∃ k, 0 ≤ k ∧ k < p * p ∧ rootF p (rhsF p c (xAt p k2 k3 k)) ≠ none := by
  have hp6 : 6 < p := by rcases hpr with h | h | h | h <;> omega
  have hpp : p ≤ p * p := by rcases hpr with h | h | h | h <;> (subst h; decide)
  obtain ⟨n, rfl, hn⟩ := pr_nat hpr
  have h1 := List.all_eq_true.mp (all4 (B := fndB) fnd7 fnd11 fnd19 fnd23 hn) (c - 1).toNat (List.mem_range.mpr (by omega))
  have hE1 := Int.emod_nonneg k3 (b := (n : Int)) (by omega)
  have hE2 := Int.emod_lt_of_pos k3 (b := (n : Int)) (by omega)
  have h2 := List.all_eq_true.mp h1 (k3 % n).toNat (List.mem_range.mpr (by omega))
  obtain ⟨a, ha, h3⟩ := List.any_eq_true.mp h2
  have ha' := List.mem_range.mp ha
  have e1 : (((c - 1).toNat : Nat) : Int) + 1 = c := by omega
  have e2 : (((k3 % n).toNat : Nat) : Int) = k3 % n := by omega
  have h3' := of_decide_eq_true h3
  rw [e1, e2] at h3'
  have hk1 := Int.emod_nonneg ((a : Int) - k2) (b := (n : Int)) (by omega)
  have hk2 := Int.emod_lt_of_pos ((a : Int) - k2) (b := (n : Int)) (by omega)
  refine ⟨((a : Int) - k2) % n, hk1, by omega, ?_⟩
  have ex : xAt n k2 k3 (((a : Int) - k2) % n) = ((a : Int), k3 % n) := by
    refine Prod.ext ?_ ?_
    · show (k2 + ((a : Int) - k2) % n).fmod n = a
      rw [Int.fmod_eq_emod_of_nonneg _ (by omega), Int.add_emod_emod, show k2 + ((a : Int) - k2) = a by omega]
      exact Int.emod_eq_of_lt (by omega) (by omega)
    · show (k3 + (((a : Int) - k2) % n).fdiv n).fmod n = _
      rw [Int.fdiv_eq_ediv_of_nonneg _ (by omega), Int.ediv_eq_zero_of_lt hk1 hk2, Int.add_zero, Int.fmod_eq_emod_of_nonneg _ (by omega)]
  rw [ex]
  obtain ⟨u, v, e, hu, hv⟩ := in2_nat (rhs_in (p := (n : Int)) (c := c) (by omega) ((a : Int), k3 % n))
  rw [e] at h3' ⊢
  have h4 := allP_at (all4 (B := eulB) eul7 eul11 eul19 eul23 hn) hu hv
  rcases (Bool.or_eq_true _ _).mp h4 with q | q
  · rw [decide_eq_true h3'] at q; cases q
  · intro q2
    rw [q2] at q
    cases q
theorem tr1_bd (p c m x : Int) : m ≤ tr1 p c m x ∧ tr1 p c m x ≤ m + 2 := by unfold tr1; split <;> (try split) <;> omega
theorem traceL_bd (p c : Int) : ∀ (l : List Int) (m : Int), m ≤ l.foldl (tr1 p c) m ∧ l.foldl (tr1 p c) m ≤ m + 2 * l.length
  | [], m => by simp
  | x :: l, m => by
    have h1 := tr1_bd p c m x
    have h2 := traceL_bd p c l (tr1 p c m x)
    rw [List.foldl_cons, List.length_cons]
    omega
theorem trace_bd {p c : Int} (hpr : Pr p) : -24 < traceF p c ∧ traceF p c < 25 := by
  have h := traceL_bd p c (rangeKs 0 p.toNat) 1
  rw [rangeKs_length] at h
  unfold traceF traceL
  rcases hpr with e | e | e | e <;> (subst e; omega)
def trT (p : Nat) : List Int := if p = 7 then [0, (-4), (-1), (-5), 5, 1, 4] else if p = 11 then [0, 0, 0, 0, 0, 0, 0, 0, 0, 0, 0] else if p = 19 then [0, 8, 7, 7, (-1), (-7), (-1), 8, (-8), (-1), 1, 8, (-8), 1, 7, 1, (-7), (-7), (-8)] else [0, 0, 0, 0, 0, 0, 0, 0, 0, 0, 0, 0, 0, 0, 0, 0, 0, 0, 0, 0, 0, 0, 0]
def trcB (p : Nat) : Bool := (List.range (p - 1)).all fun c => decide (traceF p ((c : Int) + 1) = (trT p).getD (c + 1) 0)
theorem trc7 : trcB 7 = true := by decide +kernel
theorem trc11 : trcB 11 = true := by decide +kernel
theorem trc19 : trcB 19 = true := by decide +kernel
theorem trc23 : trcB 23 = true := by decide +kernel
def triB (p : Nat) : Bool := (List.range (p - 1)).all fun c => (List.range (p - 1)).all fun u => decide ((trT p).getD ((u + 1) ^ 6 * (c + 1) % p) 0 = (trT p).getD (c + 1) 0) && decide (0 < (u + 1) ^ 6 * (c + 1) % p)
theorem tri7 : triB 7 = true := by decide +kernel
theorem tri11 : triB 11 = true := by decide +kernel
theorem tri19 : triB 19 = true := by decide +kernel
theorem tri23 : triB 23 = true := by decide +kernel
theorem trace_inv {p c u : Int} (hpr : Pr p) (hc : 0 < c) (hc' : c < p) (hu : 0 < u) (hu' : u < p) : traceF p (u ^ 6 * c % p) = traceF p c ∧ 0 < u ^ 6 * c % p := by
  have hp6 : 6 < p := by rcases hpr with h | h | h | h <;> omega
  obtain ⟨n, rfl, hn⟩ := pr_nat hpr
  have t : ∀ d : Nat, 0 < d → d < n → traceF n (d : Int) = (trT n).getD d 0 := fun d h1 h2 => by
    have := of_decide_eq_true (List.all_eq_true.mp (all4 (B := trcB) trc7 trc11 trc19 trc23 hn) (d - 1) (List.mem_range.mpr (by omega)))
    have e : (((d - 1 : Nat) : Int) + 1) = d := by omega
    rw [e, show d - 1 + 1 = d by omega] at this
    exact this
  obtain ⟨c', rfl⟩ : ∃ c' : Nat, c = c' := ⟨c.toNat, by omega⟩
  obtain ⟨u', rfl⟩ : ∃ u' : Nat, u = u' := ⟨u.toNat, by omega⟩
  have h := List.all_eq_true.mp (List.all_eq_true.mp (all4 (B := triB) tri7 tri11 tri19 tri23 hn) (c' - 1) (List.mem_range.mpr (by omega))) (u' - 1) (List.mem_range.mpr (by omega))
  rw [show c' - 1 + 1 = c' by omega, show u' - 1 + 1 = u' by omega] at h
  obtain ⟨h1, h2⟩ := (Bool.and_eq_true _ _).mp h
  have h1 := of_decide_eq_true h1
  have h2 := of_decide_eq_true h2
  have e : ((u' : Int) ^ 6 * (c' : Int) % (n : Int)) = ((u' ^ 6 * c' % n : Nat) : Int) := by simp
  rw [e]
  refine ⟨?_, by omega⟩
  rw [t _ h2 (Nat.mod_lt _ (by omega)), t c' (by omega) (by omega), h1]
/-- a first place for every orbit -/
def nfL (n : Nat) : List (Int × Int) := (0, 0) :: (0, 1) :: (0, (n : Int) - 1) :: (((List.range n).map fun (b : Nat) => ((1 : Int), (b : Int))) ++ ((List.range n).map fun (b : Nat) => ((n : Int) - 1, (b : Int))))
def nfB (p : Nat) (x : Int × Int) : Bool := decide (x = (0, 0)) || decide (x = (0, 1)) || decide (x = (0, (p : Int) - 1)) || decide (x.1 = 1) || decide (x.1 = (p : Int) - 1)
theorem nf_mem {n : Nat} {x : Int × Int} (hx : In2 (n : Int) x) (h : nfB n x = true) : x ∈ nfL n := by
  obtain ⟨a, b, rfl, ha, hb⟩ := in2_nat hx
  unfold nfB at h
  simp only [Bool.or_eq_true, decide_eq_true_eq] at h
  unfold nfL
  rcases h with (((h | h) | h) | h) | h
  · rw [h]; exact .head _
  · rw [h]; exact .tail _ (.head _)
  · rw [h]; exact .tail _ (.tail _ (.head _))
  · refine .tail _ (.tail _ (.tail _ (List.mem_append_left _ (List.mem_map.mpr ⟨b, List.mem_range.mpr hb, ?_⟩))))
    exact Prod.ext h.symm rfl
  · refine .tail _ (.tail _ (.tail _ (List.mem_append_right _ (List.mem_map.mpr ⟨b, List.mem_range.mpr hb, ?_⟩))))
    exact Prod.ext h.symm rfl
def nfxB (p : Nat) : Bool := allP p fun a b => (List.range (p - 1)).any fun u => nfB p (mulF p (mulF p ((u : Int) + 1, 0) ((u : Int) + 1, 0)) (a, b))
theorem nfx7 : nfxB 7 = true := by decide +kernel
theorem nfx11 : nfxB 11 = true := by decide +kernel
theorem nfx19 : nfxB 19 = true := by decide +kernel
theorem nfx23 : nfxB 23 = true := by decide +kernel
theorem nf_ex {n : Nat} (hn : n = 7 ∨ n = 11 ∨ n = 19 ∨ n = 23) {x : Int × Int} (hx : In2 (n : Int) x) : ∃ u : Int, 0 < u ∧ u < n ∧ mulF n (mulF n (u, 0) (u, 0)) x ∈ nfL n := by
  obtain ⟨a, b, rfl, ha, hb⟩ := in2_nat hx
  obtain ⟨u, hu, h⟩ := List.any_eq_true.mp (allP_at (all4 (B := nfxB) nfx7 nfx11 nfx19 nfx23 hn) ha hb)
  have := List.mem_range.mp hu
  exact ⟨(u : Int) + 1, by omega, by omega, nf_mem (mulF_in (by omega) _ _) h⟩
/-- a plain number's inverse -/
def rivB (p : Nat) : Bool := (List.range (p - 1)).all fun u => (List.range (p - 1)).any fun v => decide ((u + 1) * (v + 1) % p = 1)
theorem riv7 : rivB 7 = true := by decide +kernel
theorem riv11 : rivB 11 = true := by decide +kernel
theorem riv19 : rivB 19 = true := by decide +kernel
theorem riv23 : rivB 23 = true := by decide +kernel
theorem real_inv {n : Nat} (hn : n = 7 ∨ n = 11 ∨ n = 19 ∨ n = 23) {u : Int} (h0 : 0 < u) (h1 : u < n) : ∃ v : Int, 0 < v ∧ v < n ∧ mulF n (u, 0) (v, 0) = (1, 0) := by
  obtain ⟨v, hv, h⟩ := List.any_eq_true.mp (List.all_eq_true.mp (all4 (B := rivB) riv7 riv11 riv19 riv23 hn) (u - 1).toNat (List.mem_range.mpr (by omega)))
  have := List.mem_range.mp hv
  have h := of_decide_eq_true h
  refine ⟨(v : Int) + 1, by omega, by omega, ?_⟩
  rw [show mulF n (u, 0) ((v : Int) + 1, 0) = (u * ((v : Int) + 1) % n, 0) by simp [mulF]]
  obtain ⟨u', rfl⟩ : ∃ u' : Nat, u = u' := ⟨u.toNat, by omega⟩
  rw [show ((u' : Int) - 1).toNat + 1 = u' by omega] at h
  refine Prod.ext ?_ rfl
  show ((u' : Int) * ((v : Int) + 1)) % n = 1
  have e : ((u' : Int) * ((v : Int) + 1)) % n = ((u' * (v + 1) % n : Nat) : Int) := by simp
  rw [e, h]
  rfl
end

section
open PySem PySem.W PyProof.Rows
set_option maxRecDepth 100000
theorem can_rd_eq {p : Int} {x : Int × Int} : Can p x ↔ rd p x = x := by unfold Can; rw [mulF_eq, gm_one]
theorem can_in2 {p : Int} (hp : 0 < p) {x : Int × Int} (h : Can p x) : In2 p x := by
  rw [← can_rd_eq.mp h]
  exact ⟨Int.emod_nonneg _ (Int.ne_of_gt hp), Int.emod_lt_of_pos _ hp, Int.emod_nonneg _ (Int.ne_of_gt hp), Int.emod_lt_of_pos _ hp⟩
theorem negF_eq (p : Int) (x : Int × Int) : negF p x = mulF p (-1, 0) x := Prod.ext (by simp [negF, mulF]) (by simp [negF, mulF])
theorem neg_mulF (p : Int) (k x : Int × Int) : negF p (mulF p k x) = mulF p k (negF p x) := by
  rw [negF_eq, negF_eq, ← mulF_assoc, mulF_comm p (-1, 0) k, mulF_assoc]
theorem can_neg (p : Int) (x : Int × Int) : Can p (negF p x) := by rw [negF_eq]; exact can_mul _ _ _
theorem Rl.ng {p : Int} {u : Int × Int} {P P' : P3} (h : Rl p u P P') : Rl p u (ngF3 p P) (ngF3 p P') := by
  obtain ⟨h1, h2, h3⟩ := h
  refine ⟨⟨h1.1, can_neg _ _, h1.2.2⟩, ⟨h2.1, can_neg _ _, h2.2.2⟩, ?_⟩
  rcases h3 with ⟨k, hk, rfl⟩ | h3
  · refine Or.inl ⟨k, hk, ?_⟩
    show ((_ : Int × Int), negF p (mulF p _ _), (_ : Int × Int)) = _
    rw [neg_mulF]
    rfl
  · exact Or.inr h3
def cj (x : Int × Int) : Int × Int := (x.1, -x.2)
theorem rd_conj {p : Int} (hp : 0 < p) (x : Int × Int) : rd p (conjF p x) = rd p (cj x) := by
  refine Prod.ext rfl ?_
  show ((-x.2).fmod p) % p = (-x.2) % p
  rw [Int.fmod_eq_emod_of_nonneg _ (Int.le_of_lt hp)]
  exact Int.emod_emod_of_dvd _ (Int.dvd_refl p)
theorem conj_rd {p : Int} (hp : 0 < p) (x : Int × Int) : conjF p (rd p x) = rd p (cj x) := by
  refine Prod.ext rfl ?_
  show (-(x.2 % p)).fmod p = (-x.2) % p
  rw [Int.fmod_eq_emod_of_nonneg _ (Int.le_of_lt hp)]
  have := em_sub 0 x.2 0 1 p
  simpa using this
theorem mulF_rd (p : Int) (x y : Int × Int) : mulF p (rd p x) (rd p y) = mulF p x y := by rw [mulF_eq, mulF_eq, rd_gm, rd_gm']
theorem conj_mul {p : Int} (hp : 0 < p) (x y : Int × Int) : conjF p (mulF p x y) = mulF p (conjF p x) (conjF p y) := by
  rw [mulF_eq, conj_rd hp, ← mulF_rd p (conjF p x), rd_conj hp, rd_conj hp, mulF_rd, mulF_eq]
  exact congrArg (rd p) (Prod.ext (by simp only [cj, gm]; grind) (by simp only [cj, gm]; grind))
theorem can_conj {p : Int} (hp : 0 < p) {x : Int × Int} (h : Can p x) : Can p (conjF p x) := by
  have e := can_rd_eq.mp h
  rw [← e, conj_rd hp]
  exact can_rd _ _
theorem conj_one {p : Int} : conjF p (1, 0) = (1, 0) := Prod.ext rfl (by simp [conjF])
theorem conj_zero {p : Int} : conjF p (0, 0) = (0, 0) := Prod.ext rfl (by simp [conjF])
theorem un_conj {p : Int} (hp : 0 < p) {k : Int × Int} (h : Un p k) : Un p (conjF p k) := by
  obtain ⟨k', e⟩ := h
  exact ⟨conjF p k', by rw [← conj_mul hp, e, conj_one]⟩
theorem Rl.conj {p : Int} (hp : 0 < p) {u : Int × Int} (hu : conjF p u = u) {P P' : P3} (h : Rl p u P P') : Rl p u (conj3 p P) (conj3 p P') := by
  obtain ⟨h1, h2, h3⟩ := h
  refine ⟨⟨can_conj hp h1.1, can_conj hp h1.2.1, can_conj hp h1.2.2⟩, ⟨can_conj hp h2.1, can_conj hp h2.2.1, can_conj hp h2.2.2⟩, ?_⟩
  rcases h3 with ⟨k, hk, rfl⟩ | ⟨e1, e2⟩
  · refine Or.inl ⟨conjF p k, un_conj hp hk, ?_⟩
    unfold conj3 tw
    simp only [conj_mul hp, hu]
  · exact Or.inr ⟨by show conjF p P.2.2 = _; rw [e1, conj_zero], by show conjF p P'.2.2 = _; rw [e2, conj_zero]⟩
theorem Rl.right {p : Int} (hp : 1 < p) {u : Int × Int} (hu : Un p u) (t : Int) {P P' : P3} (h : Rl p u P P') : Rl p u (rightF p t P) (rightF p t P') := by
  unfold rightF
  by_cases ht : 0 ≤ t
  · rw [if_pos ht, if_pos ht]; exact h.mlt hp hu 5 _
  · rw [if_neg ht, if_neg ht]; exact (h.mlt hp hu 5 _).ng
theorem eq_tw1 {p : Int} {k m u s a b x y : Int × Int} (h : mulF p x b = mulF p y a) : mulF p (mulF p (mulF p k s) x) (mulF p m b) = mulF p (mulF p (mulF p m s) y) (mulF p k a) := by
  haveI : Std.Associative (mulF p) := ⟨mulF_assoc p⟩
  haveI : Std.Commutative (mulF p) := ⟨mulF_comm p⟩
  have e : mulF p (mulF p k s) m = mulF p (mulF p m s) k := by ac_rfl
  refine (mm p (mulF p k s) x m b).trans (Eq.trans ?_ (mm p (mulF p m s) y k a).symm)
  rw [h, e]
theorem eq_tw {p : Int} {k m u : Int × Int} {P R : P3} (h : eqF p P R = true) : eqF p (tw p k u P) (tw p m u R) = true := by
  unfold eqF at h ⊢
  rw [Bool.and_eq_true] at h ⊢
  exact ⟨decide_eq_true (eq_tw1 (u := u) (of_decide_eq_true h.1)), decide_eq_true (eq_tw1 (u := u) (of_decide_eq_true h.2))⟩
theorem nrm_tw {p : Int} {k s X Z I I' : Int × Int} (hI : mulF p Z I = (1, 0)) (hI' : mulF p (mulF p k Z) I' = (1, 0)) (cI : Can p I) : mulF p (mulF p (mulF p k s) X) I' = mulF p s (mulF p X I) := by
  haveI : Std.Associative (mulF p) := ⟨mulF_assoc p⟩
  haveI : Std.Commutative (mulF p) := ⟨mulF_comm p⟩
  have e : mulF p k I' = I := by
    have c : mulF p (1, 0) (mulF p k I') = mulF p k I' := can_mul p _ _
    rw [← c, ← hI]
    have : mulF p (mulF p Z I) (mulF p k I') = mulF p (mulF p (mulF p k Z) I') I := by ac_rfl
    rw [this, hI']
    exact cI
  have : mulF p (mulF p (mulF p k s) X) I' = mulF p s (mulF p X (mulF p k I')) := by ac_rfl
  rw [this, e]
theorem real_2 {p v : Int} {w : Int × Int} (h : w.2 = 0) : (mulF p (v, 0) w).2 = 0 := by simp [mulF, h]
theorem real_1 {p v : Int} {w : Int × Int} (h : w.1 = 0) : (mulF p (v, 0) w).1 = 0 := by simp [mulF, h]
theorem real_mul {p a b : Int} : mulF p (a, 0) (b, 0) = (a * b % p, 0) := by simp [mulF]
theorem can_inv (p : Int) (z : Int × Int) : Can p (invF p z) := can_rd p (_, _)
/-- what is asked of a form is asked of every form that belongs to it -/
theorem asked_tw {p c c0 v : Int} {k : Int × Int} {P0 : P3} (hp : 1 < p) (hinv : ∀ z, In2 p z → z ≠ (0, 0) → mulF p z (invF p z) = (1, 0)) (hu : Un p (v, 0)) (hv : conjF p (v, 0) = (v, 0)) (hk : Un p k) (hP : CanP p P0) (ht : traceF p c = traceF p c0) (A : Asked p c0 P0) : Asked p c (tw p k (v, 0) P0) := by
  have hp0 : 0 < p := by omega
  have r0 : Rl p (v, 0) P0 (tw p k (v, 0) P0) := ⟨hP, can_tw _ _ _ _, Or.inl ⟨k, hk, rfl⟩⟩
  have rL := r0.mlt hp hu 5 (p + 1).toNat
  have rC := r0.conj hp0 hv
  have rR := rC.right hp hu (traceF p c0)
  have rB := r0.add hp hu rC
  have rA := r0.add hp hu rC.ng
  have nz : ∀ {P P' : P3}, Rl p (v, 0) P P' → P'.2.2 ≠ (0, 0) → (mulF p P'.1 (invF p P'.2.2) = mulF p (v * v % p, 0) (mulF p P.1 (invF p P.2.2))) ∧ (mulF p P'.2.1 (invF p P'.2.2) = mulF p (v * (v * v % p) % p, 0) (mulF p P.2.1 (invF p P.2.2))) := by
    intro P P' r hz
    have hz0 : P.2.2 ≠ (0, 0) := fun q => hz (r.z.mpr q)
    obtain ⟨m, hm, e⟩ := r.get hz0
    have i1 := hinv _ (can_in2 hp0 r.1.2.2) hz0
    have i2 := hinv _ (can_in2 hp0 r.2.1.2.2) hz
    have e2 : P'.2.2 = mulF p m P.2.2 := by rw [e]; rfl
    have ex : P'.1 = mulF p (mulF p m (v * v % p, 0)) P.1 := by rw [e]; show mulF p (mulF p m (mulF p (v, 0) (v, 0))) _ = _; rw [real_mul]
    have ey : P'.2.1 = mulF p (mulF p m (v * (v * v % p) % p, 0)) P.2.1 := by rw [e]; show mulF p (mulF p m (mulF p (v, 0) (mulF p (v, 0) (v, 0)))) _ = _; rw [real_mul, real_mul]
    rw [e2] at i2 ⊢
    rw [ex, ey]
    exact ⟨nrm_tw i1 i2 (can_inv _ _), nrm_tw i1 i2 (can_inv _ _)⟩
  refine ⟨?_, ?_, ?_, ?_, ?_, ?_⟩
  · rw [ht, rL.z, rR.z]; exact A.inf
  · intro hz
    rw [ht]
    have hz0 : (mltF p 5 (p + 1).toNat P0).2.2 ≠ (0, 0) := fun q => hz (rL.z.mpr q)
    obtain ⟨a, ha, e1⟩ := rL.get hz0
    obtain ⟨b, hb, e2⟩ := rR.get (fun q => hz0 (A.inf.mpr q))
    rw [e1, e2]
    exact eq_tw (A.eq hz0)
  · intro hz
    rw [(nz rB hz).1]
    exact real_2 (A.b1 fun q => hz (rB.z.mpr q))
  · intro hz
    rw [(nz rB hz).2]
    exact real_2 (A.b2 fun q => hz (rB.z.mpr q))
  · intro hz
    rw [(nz rA hz).1]
    exact real_2 (A.a1 fun q => hz (rA.z.mpr q))
  · intro hz
    rw [(nz rA hz).2]
    exact real_1 (A.a2 fun q => hz (rA.z.mpr q))
end

section
open PySem PySem.W PyProof.Rows
set_option maxRecDepth 100000
/-- what is asked, as a test -/
def askedB (p t : Int) (P : P3) : Bool :=
  let Lf := mltF p 5 (p + 1).toNat P
  let Q := conj3 p P
  let Rt := rightF p t Q
  let B := paF p P Q
  let A := paF p P (ngF3 p Q)
  ((decide (Lf.2.2 = (0, 0)) == decide (Rt.2.2 = (0, 0))) && (decide (Lf.2.2 = (0, 0)) || eqF p Lf Rt)) &&
    ((decide (B.2.2 = (0, 0)) || (decide ((mulF p B.1 (invF p B.2.2)).2 = 0) && decide ((mulF p B.2.1 (invF p B.2.2)).2 = 0))) &&
    (decide (A.2.2 = (0, 0)) || (decide ((mulF p A.1 (invF p A.2.2)).2 = 0) && decide ((mulF p A.2.1 (invF p A.2.2)).1 = 0))))
theorem asked_of {p c : Int} {P : P3} (h : askedB p (traceF p c) P = true) : Asked p c P := by
  unfold askedB at h
  dsimp only at h
  obtain ⟨h12, h34⟩ := (Bool.and_eq_true _ _).mp h
  obtain ⟨h1, h2⟩ := (Bool.and_eq_true _ _).mp h12
  obtain ⟨h3, h4⟩ := (Bool.and_eq_true _ _).mp h34
  have or_ : ∀ {q : Prop} [Decidable q] {b : Bool}, (decide q || b) = true → ¬ q → b = true := fun {q} _ {b} h hn => by
    rcases (Bool.or_eq_true _ _).mp h with h | h
    · exact absurd (of_decide_eq_true h) hn
    · exact h
  refine ⟨?_, fun hz => or_ h2 hz, fun hz => ?_, fun hz => ?_, fun hz => ?_, fun hz => ?_⟩
  · exact decide_eq_decide.mp (beq_iff_eq.mp h1)
  · exact of_decide_eq_true ((Bool.and_eq_true _ _).mp (or_ h3 hz)).1
  · exact of_decide_eq_true ((Bool.and_eq_true _ _).mp (or_ h3 hz)).2
  · exact of_decide_eq_true ((Bool.and_eq_true _ _).mp (or_ h4 hz)).1
  · exact of_decide_eq_true ((Bool.and_eq_true _ _).mp (or_ h4 hz)).2
def mainT (p : Nat) (c : Nat) : Bool := let t := traceF p c
  (nfL p).all fun x => match rootF p (rhsF p c x) with
  | none => true
  | some y => askedB p t (x, y, (1, 0))
def mainR (p lo k : Nat) : Bool := (List.range k).all fun i => mainT p (lo + i)
theorem main7_1 : mainR 7 1 6 = true := by decide +kernel
theorem main11_1 : mainR 11 1 5 = true := by decide +kernel
theorem main11_6 : mainR 11 6 5 = true := by decide +kernel
theorem main19_1 : mainR 19 1 6 = true := by decide +kernel
theorem main19_7 : mainR 19 7 6 = true := by decide +kernel
theorem main19_13 : mainR 19 13 6 = true := by decide +kernel
theorem main23_1 : mainR 23 1 6 = true := by decide +kernel
theorem main23_7 : mainR 23 7 6 = true := by decide +kernel
theorem main23_13 : mainR 23 13 5 = true := by decide +kernel
theorem main23_18 : mainR 23 18 5 = true := by decide +kernel
theorem mainR_at {p lo k c : Nat} (h : mainR p lo k = true) (h1 : lo ≤ c) (h2 : c < lo + k) : mainT p c = true := by
  have := List.all_eq_true.mp h (c - lo) (List.mem_range.mpr (by omega))
  rwa [show lo + (c - lo) = c by omega] at this
theorem main_at {n c : Nat} (hn : n = 7 ∨ n = 11 ∨ n = 19 ∨ n = 23) (h0 : 0 < c) (h1 : c < n) : mainT n c = true := by
  rcases hn with rfl | rfl | rfl | rfl
  · exact mainR_at main7_1 h0 h1
  · obtain h | h : (1 ≤ c ∧ c < 6) ∨ (6 ≤ c ∧ c < 11) := by omega
    · exact mainR_at main11_1 h.1 h.2
    · exact mainR_at main11_6 h.1 h.2
  · obtain h | h | h : (1 ≤ c ∧ c < 7) ∨ (7 ≤ c ∧ c < 13) ∨ (13 ≤ c ∧ c < 19) := by omega
    · exact mainR_at main19_1 h.1 h.2
    · exact mainR_at main19_7 h.1 h.2
    · exact mainR_at main19_13 h.1 h.2
  · obtain h | h | h | h : (1 ≤ c ∧ c < 7) ∨ (7 ≤ c ∧ c < 13) ∨ (13 ≤ c ∧ c < 18) ∨ (18 ≤ c ∧ c < 23) := by omega
    · exact mainR_at main23_1 h.1 h.2
    · exact mainR_at main23_7 h.1 h.2
    · exact mainR_at main23_13 h.1 h.2
    · exact mainR_at main23_18 h.1 h.2
theorem main_asked {n : Nat} {c : Int} {x y : Int × Int} (hn : n = 7 ∨ n = 11 ∨ n = 19 ∨ n = 23) (h0 : 0 < c) (h1 : c < n) (hx : x ∈ nfL n) (hy : rootF n (rhsF n c x) = some y) : Asked n c (x, y, (1, 0)) := by
  obtain ⟨c', rfl⟩ : ∃ c' : Nat, c = c' := ⟨c.toNat, by omega⟩
  have h := main_at hn (c := c') (by omega) (by omega)
  have h2 := List.all_eq_true.mp h x hx
  rw [hy] at h2
  exact asked_of h2
end

section
open PySem PySem.W PyProof.Rows
set_option maxRecDepth 100000
theorem em1 (x c p : Int) : (x % p * c) % p = (x * c) % p := by
  have := em_sub x 0 c 0 p
  simpa using this
theorem em2 (x c p : Int) : (c * (x % p)) % p = (c * x) % p := by rw [Int.mul_comm, em1, Int.mul_comm]
theorem rhs_add {p : Int} (hp : 0 < p) (c : Int) (x : Int × Int) : rhsF p c x = addF p (mulF p (mulF p x x) x) (c, 0) := by
  refine Prod.ext ?_ ?_
  · show Int.fmod _ _ = _ % _
    rw [Int.fmod_eq_emod_of_nonneg _ (Int.le_of_lt hp)]
  · show (mulF p (mulF p x x) x).2 = ((mulF p (mulF p x x) x).2 + 0) % p
    rw [Int.add_zero]
    have h := mulF_in hp (mulF p x x) x
    exact (Int.emod_eq_of_lt h.2.2.1 h.2.2.2).symm
def gp (x y : Int × Int) : Int × Int := (x.1 + y.1, x.2 + y.2)
theorem addF_eq (p : Int) (x y : Int × Int) : addF p x y = rd p (gp x y) := rfl
theorem rd_gp (p : Int) (x y : Int × Int) : rd p (gp (rd p x) (rd p y)) = rd p (gp x y) := Prod.ext (by simp [rd, gp]) (by simp [rd, gp])
theorem gm_gp (k x y : Int × Int) : gp (gm k x) (gm k y) = gm k (gp x y) := Prod.ext (by simp only [gm, gp]; grind) (by simp only [gm, gp]; grind)
theorem mulF_addF (p : Int) (k x y : Int × Int) : mulF p k (addF p x y) = addF p (mulF p k x) (mulF p k y) := by simp only [mulF_eq, addF_eq, rd_gm', rd_gp, gm_gp]
theorem u6 (p u c : Int) : mulF p (mulF p (mulF p (u, 0) (mulF p (u, 0) (u, 0))) (mulF p (u, 0) (mulF p (u, 0) (u, 0)))) (c, 0) = (u ^ 6 * c % p, 0) := by
  simp only [real_mul]
  refine Prod.ext ?_ rfl
  show (u * (u * u % p) % p * (u * (u * u % p) % p) % p * c) % p = _
  rw [em1, em2]
  have e : u * (u * u) % p * (u * (u * u) % p) * c = u * (u * u) % p * (u * (u * u) % p * c) := Int.mul_assoc _ _ _
  rw [e, em1, Int.mul_left_comm, em1]
  have e2 : u * (u * u) * (u * (u * u) * c) = u ^ 6 * c := by grind
  rw [e2]
theorem un_m {p : Int} (hp : 1 < p) : mulF p (-1, 0) (-1, 0) = (1, 0) := by
  rw [real_mul]
  exact Prod.ext (Int.emod_eq_of_lt (by decide) hp) rfl
theorem conj_real {p v : Int} : conjF p (v, 0) = (v, 0) := Prod.ext rfl (by simp [conjF])
theorem asked {p c : Int} {x y z : Int × Int} (hpr : Pr p) (hc0 : 0 < c) (hc1 : c < p) (hx : In2 p x) (hy : In2 p y) (hz : In2 p z) (hnz : ¬ (z.1 = 0 ∧ z.2 = 0)) (hcv : mulF p y y = rhsF p c x) : Asked p c (mulF p x z, mulF p y z, z) := by
  have hp6 : 6 < p := by rcases hpr with h | h | h | h <;> omega
  have hp1 : 1 < p := by omega
  have hp0 : 0 < p := by omega
  have hz0 : z ≠ (0, 0) := fun q => hnz ⟨by rw [q], by rw [q]⟩
  have hinv := inv_ok hpr
  obtain ⟨n, e, hn⟩ := pr_nat hpr
  subst e
  haveI : Std.Associative (mulF (n : Int)) := ⟨mulF_assoc n⟩
  haveI : Std.Commutative (mulF (n : Int)) := ⟨mulF_comm n⟩
  obtain ⟨u, hu0, hu1, hnf⟩ := nf_ex hn hx
  obtain ⟨v, hv0, hv1, huv⟩ := real_inv hn hu0 hu1
  obtain ⟨ht, hcc⟩ := trace_inv hpr hc0 hc1 hu0 hu1
  generalize hU : ((u, 0) : Int × Int) = U at hnf huv
  generalize hV : ((v, 0) : Int × Int) = V at huv
  have hcc1 : u ^ 6 * c % n < n := Int.emod_lt_of_pos _ hp0
  -- the first form on the orbit lies on its curve
  have hy1 : mulF n (mulF n (mulF n U (mulF n U U)) y) (mulF n (mulF n U (mulF n U U)) y) = rhsF n (u ^ 6 * c % n) (mulF n (mulF n U U) x) := by
    rw [rhs_add hp0] at hcv ⊢
    rw [mm, hcv, mulF_addF, ← u6, hU]
    have e : mulF n (mulF n (mulF n U (mulF n U U)) (mulF n U (mulF n U U))) (mulF n (mulF n x x) x) = mulF n (mulF n (mulF n (mulF n U U) x) (mulF n (mulF n U U) x)) (mulF n (mulF n U U) x) := by ac_rfl
    rw [e]
  have cZ : mulF n (1, 0) z = z := can_of hz
  have c1 : Can n (1, 0) := can_of ⟨by decide, hp1, Int.le_refl _, hp0⟩
  have uk : Un n z := ⟨_, hinv z hz hz0⟩
  have uV : Un n V := ⟨U, by rw [mulF_comm]; exact huv⟩
  have e1 : mulF n (mulF n z (mulF n V V)) (mulF n (mulF n U U) x) = mulF n x z := by
    have : mulF n (mulF n z (mulF n V V)) (mulF n (mulF n U U) x) = mulF n (mulF n (mulF n U V) (mulF n U V)) (mulF n x z) := by ac_rfl
    rw [this, huv, c1]
    exact can_mul _ _ _
  have e2 : mulF n (mulF n z (mulF n V (mulF n V V))) (mulF n (mulF n U (mulF n U U)) y) = mulF n y z := by
    have : mulF n (mulF n z (mulF n V (mulF n V V))) (mulF n (mulF n U (mulF n U U)) y) = mulF n (mulF n (mulF n U V) (mulF n (mulF n U V) (mulF n U V))) (mulF n y z) := by ac_rfl
    rw [this, huv, c1, c1]
    exact can_mul _ _ _
  rcases root_comp hpr (mulF_in hp0 (mulF n U (mulF n U U)) y) with h | h
  · rw [hy1] at h
    have A := main_asked hn hcc hcc1 hnf h
    have B := asked_tw (k := z) (v := v) hp1 hinv (by rw [hV]; exact uV) conj_real uk ⟨can_mul _ _ _, can_mul _ _ _, c1⟩ ht.symm A
    rw [hV] at B
    have eq : tw n z V (mulF n (mulF n U U) x, mulF n (mulF n U (mulF n U U)) y, (1, 0)) = (mulF n x z, mulF n y z, z) := Prod.ext e1 (Prod.ext e2 (by show mulF n z (1, 0) = z; rw [mulF_comm]; exact cZ))
    rw [eq] at B
    exact B
  · rw [hy1] at h
    have A := main_asked hn hcc hcc1 hnf h
    obtain ⟨v', hV'⟩ : ∃ v', mulF n (-1, 0) V = (v', 0) := ⟨_, by rw [← hV, real_mul]⟩
    have uM : Un n (-1, 0) := ⟨_, un_m hp1⟩
    have B := asked_tw (k := z) (v := v') hp1 hinv (by rw [← hV']; exact un_mul hp1 uM uV) conj_real uk ⟨can_mul _ _ _, can_neg _ _, c1⟩ ht.symm A
    rw [← hV'] at B
    have m2 := un_m hp1
    generalize hM : ((-1, 0) : Int × Int) = M at B m2
    have eq : tw n z (mulF n M V) (mulF n (mulF n U U) x, negF n (mulF n (mulF n U (mulF n U U)) y), (1, 0)) = (mulF n x z, mulF n y z, z) := by
      refine Prod.ext ?_ (Prod.ext ?_ (by show mulF n z (1, 0) = z; rw [mulF_comm]; exact cZ))
      · show mulF n (mulF n z (mulF n (mulF n M V) (mulF n M V))) (mulF n (mulF n U U) x) = mulF n x z
        have : mulF n (mulF n z (mulF n (mulF n M V) (mulF n M V))) (mulF n (mulF n U U) x) = mulF n (mulF n M M) (mulF n (mulF n z (mulF n V V)) (mulF n (mulF n U U) x)) := by ac_rfl
        rw [this, m2, e1]
        exact can_mul _ _ _
      · show mulF n (mulF n z (mulF n (mulF n M V) (mulF n (mulF n M V) (mulF n M V)))) (negF n (mulF n (mulF n U (mulF n U U)) y)) = mulF n y z
        rw [negF_eq, hM]
        have : mulF n (mulF n z (mulF n (mulF n M V) (mulF n (mulF n M V) (mulF n M V)))) (mulF n M (mulF n (mulF n U (mulF n U U)) y)) = mulF n (mulF n (mulF n M M) (mulF n M M)) (mulF n (mulF n z (mulF n V (mulF n V V))) (mulF n (mulF n U (mulF n U U)) y)) := by ac_rfl
        rw [this, m2, c1, e2]
        exact can_mul _ _ _
    rw [eq] at B
    exact B
theorem neg_sq {p : Int} (hp : 0 < p) (y1 y2 : Int) : mulF p ((-y1).fmod p, (-y2).fmod p) ((-y1).fmod p, (-y2).fmod p) = mulF p (y1, y2) (y1, y2) := by
  have e : (((-y1).fmod p, (-y2).fmod p) : Int × Int) = rd p (-y1, -y2) := Prod.ext (Int.fmod_eq_emod_of_nonneg _ (Int.le_of_lt hp)) (Int.fmod_eq_emod_of_nonneg _ (Int.le_of_lt hp))
  rw [e, mulF_rd]
  have h : gm (-y1, -y2) (-y1, -y2) = gm (y1, y2) (y1, y2) := Prod.ext (by simp only [gm]; grind) (by simp only [gm]; grind)
  rw [mulF_eq, mulF_eq, h]
end

section
open PySem PySem.W PyProof.Rows
theorem notfound {p c k2 k3 : Int} (hpr : Pr p) (hc : 0 < c) (hc' : c < p) (h : ∀ k ∈ rangeKs 0 (p * p).toNat, rootF p (rhsF p c (xAt p k2 k3 k)) = none) : False := by
  obtain ⟨k, h0, h1, h2⟩ := found (k2 := k2) (k3 := k3) hpr hc hc'
  exact h2 (h k (mem_rangeKs h0 (by omega)))
end

section
open PySem PySem.W PyProof.Rows
section
local macro_rules | `(tactic| k_head) => `(tactic| o_head (kmHook Mine.hd.heap_39 [2, 3, 15, 17, 18, 20, 21, 22, 24, 25, 27, 28, 29, 31, 32, 34, 35, 36, 38, 39, 41, 42, 43, 45, 46, 48, 49, 50, 52, 53, 55, 56, 57, 59, 60, 62, 63, 64, 66, 67, 69, 70, 71, 73, 74, 76, 77, 78, 80, 81, 83, 84, 92, 95, 96, 97, 99, 100, 102, 103, 104, 107, 108, 109, 112, 113, 114, 116, 117, 119, 120, 121, 124, 125, 126, 128, 129, 131, 132, 133, 136, 137, 138, 140, 141, 143, 144, 145, 148, 149, 150, 153, 154, 155, 157, 158, 160, 161, 162, 164, 165, 167, 168, 169, 171, 172, 174, 175, 176, 179, 180, 181, 183, 184, 186, 187, 188, 189, 191, 192, 194, 195, 196, 198, 199, 201, 202, 203, 204, 205, 206, 207, 210, 217, 219, 220, 222, 223, 224, 226, 227, 229, 230, 231, 232, 233, 234, 237, 238, 240, 241, 243, 244, 245, 247, 248, 250, 251, 252, 254, 255, 257, 258, 259, 262, 263] (fun _ => by kernel_rfl) [93]))
set_option maxRecDepth 100000 in
set_option maxHeartbeats 40000000 in
open_top hd2 for PySem.Challenge.rw_bb0063_01
end
end

section
open PySem PySem.W PySem.Calls PyProof.Rows
set_option maxRecDepth 100000
/-- what holds of a heap's parts holds of the heap without one empty table that no plain def's code owns -/
theorem ns_hide {h : Heap} {a : Addr} {m : Str → Option Value} (h93 : h.get? 93 = some (tabObj #[])) (x : h.Ns a m) : (hideAll h [93]).Ns a m := by
  obtain ⟨o, es, ep, ho, hd, r⟩ := x
  refine ⟨o, es, ep, hideAll_get _ ho fun q => ?_, hd, r⟩
  rw [List.mem_singleton.mp q, h93] at ho
  cases ho
  cases hd
theorem top_hide {K : Frag} {p : Program} {loose : List Str} {mean : ExcName → Option Value} {mg mb : Str → Option Value} {h : Heap} (T : Top p loose mean mg mb h) (X : K.In h) (h93 : h.get? 93 = some (tabObj #[]))
    (hr : (recsOf p).all (fun d => match tabIn K d.name with | some (c, P) => c != 93 && (P != 93 && codeHdIn K c P) | none => false) = true) (hown : ownsOf p = []) : Top p loose mean mg mb (hideAll h [93]) where
  g := ns_hide h93 T.g
  b := ns_hide h93 T.b
  nolimit := let ⟨mc, a, b⟩ := T.nolimit; ⟨mc, ns_hide h93 a, b⟩
  nodigits := let ⟨mc, a, b⟩ := T.nodigits; ⟨mc, ns_hide h93 a, b⟩
  fn := fun d hd => by
    obtain ⟨a, o, pm, code, doc, h1, h2, h3, h4⟩ := T.fn d hd
    refine ⟨a, o, pm, code, doc, h1, hideAll_get _ h2 fun q => ?_, h3, ?_⟩
    · rw [List.mem_singleton.mp q, h93] at h2
      cases h2
      cases h3
    · obtain ⟨c, oc, vs, t, e1, e2, e3, e4⟩ := h4
      refine ⟨c, oc, vs, t, e1, hideAll_get _ e2 fun q => ?_, e3, e4⟩
      rw [List.mem_singleton.mp q, h93] at e2
      cases e2
      cases e3
      cases e4
  own := fun o ho => by rw [hown] at ho; cases ho
  const := T.const
  free := T.free
  builtins := T.builtins
  tab := fun d hd => by
    obtain ⟨a, o, fd, c, P, h1, h2, h3, h4, h5, h6⟩ := T.tab d hd
    have hk := List.all_eq_true.mp hr d hd
    cases ht : tabIn K d.name with
    | none => rw [ht] at hk; cases hk
    | some q =>
      obtain ⟨c', P'⟩ := q
      rw [ht] at hk
      simp only [Bool.and_eq_true, bne_iff_ne, ne_eq] at hk
      obtain ⟨hc, hP, hcd⟩ := hk
      have e := law_code X T.g ht h1 h2 h3
      rw [h4] at e
      cases e
      have hh := codeHd_of_K X hcd
      have e9 : P = P' := by
        obtain ⟨o1, vs1, f1, tf1, fl1, tg1, in1, tx1, tt1, a1, a2, a3, a4, _⟩ := hh
        obtain ⟨⟨o2, vs2, b1, b2, b3, b4⟩, _⟩ := h6
        rw [a1] at b1
        cases b1
        rw [a3] at b3
        cases b3
        rw [a4] at b4
        cases b4
        rfl
      subst e9
      have gk : ∀ b o, b ≠ 93 → h.get? b = some o → (hideAll h [93]).get? b = some o := fun b o n e => hideAll_get _ e fun q => n (List.mem_singleton.mp q)
      refine ⟨a, o, fd, c, P, h1, hideAll_get _ h2 fun q => ?_, h3, h4, ?_, ?_⟩
      · rw [List.mem_singleton.mp q, h93] at h2
        cases h2
        cases h3
      · obtain ⟨o, vs, file, tf, flags, tg, inF, text, tt, op, a, r1, r2, r3, r4, r5, r6, b, r⟩ := h5
        exact ⟨o, vs, file, tf, flags, tg, inF, text, tt, op, gk _ _ hc a, r1, r2, r3, r4, r5, r6, gk _ _ hP b, r⟩
      · obtain ⟨⟨o, vs, a, r⟩, t⟩ := h6
        exact ⟨⟨o, vs, gk _ _ hc a, r⟩, gk _ _ hP t⟩
  bmain := by
    obtain ⟨bm, ob, h1, h2, h3, h4, h5⟩ := T.bmain
    refine ⟨bm, ob, h1, h2, hideAll_get _ h3 fun q => ?_, h4, h5⟩
    rw [List.mem_singleton.mp q, h93] at h3
    cases h3
    cases h4
  seer := fun hi => by
    obtain ⟨⟨mc, a, b⟩, ⟨mm, c, d⟩, ⟨mb', e, f⟩, ⟨mg', bm, ob, g1, g2, g3, g4, g5⟩⟩ := T.seer hi
    refine ⟨⟨mc, ns_hide h93 a, b⟩, ⟨mm, ns_hide h93 c, d⟩, ⟨mb', ns_hide h93 e, f⟩, ⟨mg', bm, ob, ns_hide h93 g1, g2, hideAll_get _ g3 fun q => ?_, g4, g5⟩⟩
    rw [List.mem_singleton.mp q, h93] at g3
    cases g3
    cases g4
theorem in_hide {K : Frag} {h : Heap} (X : K.In h) (hk : K.lookup 93 = none) : K.In (hideAll h [93]) := fun a o e => hideAll_get _ (X a o e) fun q => by
  rw [List.mem_singleton.mp q, hk] at e
  cases e
theorem fr_hide {h₀ h : Heap} {L : Addr} {m : Str → Option Value} (F : Fr h₀ L h m) : Fr (hideAll h₀ [93]) L h m := ⟨F.ns, fun b o e => F.keep b o (of_hideAll _ e), by rw [hideAll_size]; exact F.above⟩
theorem news_hide {h₀ h : Heap} {L : Addr} {m : Str → Option Value} {news : List (Addr × Obj)} (F : Fr h₀ L h m) (h93 : h₀.get? 93 = some (tabObj #[])) (N : News h₀ L h news) : News (hideAll h₀ [93]) L h ((93, tabObj #[]) :: news) := fun q hq => by
  rcases List.mem_cons.mp hq with rfl | hq
  · refine ⟨F.keep _ _ h93, fun e => ?_, hideAll_none _ (.head _)⟩
    have := F.ns
    obtain ⟨o, es, ep, ho, hd, _⟩ := this
    have e' : (93 : Addr) = L := e
    rw [← e', F.keep _ _ h93] at ho
    cases ho
    cases hd
  · have z := N q hq
    refine ⟨z.1, z.2.1, ?_⟩
    cases e : (hideAll h₀ [93]).get? q.1 with
    | none => rfl
    | some o => rw [of_hideAll _ e] at z; cases z.2.2
theorem noP_hide {h₀ h : Heap} {L : Addr} {news : List (Addr × Obj)} (h93 : h₀.get? 93 = some (tabObj #[])) (N : News h₀ L h news) : NoP news := fun q hq e => by
  have z := (N q hq).2.2
  have e' : q.1 = (93 : Addr) := e
  rw [e', h93] at z
  cases z
theorem old_of {h₀ h : Heap} {L : Addr} {m : Str → Option Value} {oP : Obj} {news : List (Addr × Obj)} (h93 : h₀.get? 93 = some (tabObj #[])) (C : CodeHd h₀ 95 93) (F : Fr (hideAll h₀ [93]) L h m) (N : News (hideAll h₀ [93]) L h ((93, oP) :: news)) (hP : TabOk oP) : OldK h₀ h := by
  obtain ⟨ps, rfl, _⟩ := hP
  have z := (N _ (.head _)).1
  have ic : isCodeTable h₀ 93 := by
    obtain ⟨o, vs, file, tf, flags, tg, inF, text, tt, ho, hcl, hd, h11, _⟩ := C
    exact ⟨95, o, vs, ho, hcl, hd, h11⟩
  refine ⟨fun b o e => ?_, fun b o e => ?_⟩
  · by_cases hb : b = 93
    · subst hb
      rw [h93] at e
      cases e
      exact .inr (.inl ⟨ic, rfl, #[], ps, rfl, by rw [z]; simp⟩)
    · exact .inl (F.keep b o (hideAll_get _ e fun q => hb (List.mem_singleton.mp q)))
  · by_cases hb : b = 93
    · subst hb
      exact ⟨_, z⟩
    · exact ⟨o, F.keep b o (hideAll_get _ e fun q => hb (List.mem_singleton.mp q))⟩
end

section
open PySem PySem.W PySem.Calls PyProof.Rows
theorem isList_hide {h : Heap} {l : Addr} {vs : Array Value} (h93 : h.get? 93 = some (tabObj #[])) (x : h.IsList l vs) : (hideAll h [93]).IsList l vs := by
  obtain ⟨o, ho, hc, n, hd⟩ := x
  refine ⟨o, hideAll_get _ ho fun q => ?_, hc, n, hd⟩
  rw [List.mem_singleton.mp q, h93] at ho
  cases ho
  cases hc
/-- the law's answer True, whatever stands in the heap -/
theorem law_end {cl : Str → Option Addr} {mean : ExcName → Option Value} {args : List WData} {s₁ : Shared} {h' : Heap} {g' : Array GenState} {tk : Nat} {L : Addr} {m : Str → Option Value} {oP : Obj} {news : List (Addr × Obj)} (h93 : s₁.heap.get? 93 = some (tabObj #[])) (C : CodeHd s₁.heap 95 93)
    (F : Fr (hideAll s₁.heap [93]) L h' m) (N : News (hideAll s₁.heap [93]) L h' ((93, oP) :: news)) (hP : TabOk oP) (G : AllBare g') :
    GoodWG PySem.Challenge.rw_bb0063_01.row.claim cl mean args s₁ (.ok (.ret (.bool true))) ⟨h', g', s₁.drawn, tk, s₁.os⟩ :=
  ⟨.inl ⟨.bool true, .bool true, [], rfl, fun _ => rfl, .bool true, postW_of (by rfl) (by rfl) (same_self _), unshared_nil⟩, old_of h93 C F N hP, rfl, G⟩
theorem ints7 {ws : List Value} {ks : List Int} (h : IntsAre ws ks) (hl : ks.length = 7) : ∃ k0 k1 k2 k3 k4 k5 k6 t0 t1 t2 t3 t4 t5 t6, ws = [.int k0 t0, .int k1 t1, .int k2 t2, .int k3 t3, .int k4 t4, .int k5 t5, .int k6 t6] := by
  match ks, hl with
  | [k0, k1, k2, k3, k4, k5, k6], _ =>
    have hlen := h.length
    match ws, hlen with
    | [a0, a1, a2, a3, a4, a5, a6], _ =>
      have g := fun i n (e : [k0, k1, k2, k3, k4, k5, k6][i]? = some n) => h.get i n e
      obtain ⟨t0, e0⟩ := g 0 _ rfl
      obtain ⟨t1, e1⟩ := g 1 _ rfl
      obtain ⟨t2, e2⟩ := g 2 _ rfl
      obtain ⟨t3, e3⟩ := g 3 _ rfl
      obtain ⟨t4, e4⟩ := g 4 _ rfl
      obtain ⟨t5, e5⟩ := g 5 _ rfl
      obtain ⟨t6, e6⟩ := g 6 _ rfl
      cases e0
      cases e1
      cases e2
      cases e3
      cases e4
      cases e5
      cases e6
      exact ⟨_, _, _, _, _, _, _, _, _, _, _, _, _, _, rfl⟩
theorem cells7 {ns : List Int} : (List.take 7 ns ++ List.drop ((List.take 7 ns).length : Int).toNat [0, 2, 1, 2, 0, 3, 5]).length = 7 := by
  rw [List.length_append, List.length_drop, Int.toNat_natCast, List.length_take]
  show min 7 ns.length + (7 - min 7 ns.length) = 7
  omega
theorem prime_of {k : Int} (h0 : 0 ≤ k.fmod 4) (h1 : k.fmod 4 < 4) : Pr (([7, 11, 19, 23] : List Int).getD (k.fmod 4).toNat 0) := by
  obtain h | h | h | h : k.fmod 4 = 0 ∨ k.fmod 4 = 1 ∨ k.fmod 4 = 2 ∨ k.fmod 4 = 3 := by omega
  · rw [h]; exact Or.inl rfl
  · rw [h]; exact Or.inr (Or.inl rfl)
  · rw [h]; exact Or.inr (Or.inr (Or.inl rfl))
  · rw [h]; exact Or.inr (Or.inr (Or.inr rfl))
def LawOk (h₀ : Heap) (dr : Drawn) (os : OsState) (f : Flow) (s' : Shared) : Prop :=
  f = .ret (.bool true) ∧ ∃ (h' : Heap) (g' : Array GenState) (tk : Nat) (L : Addr) (m : Str → Option Value) (oP : Obj) (news : List (Addr × Obj)), s' = ⟨h', g', dr, tk, os⟩ ∧ Fr h₀ L h' m ∧ News h₀ L h' ((93, oP) :: news) ∧ TabOk oP ∧ AllBare g'
def Mk (_ : Nat) : Prop := True
theorem mk_ (n : Nat) : Mk n := trivial
theorem name_obj {oc : Obj} {d : Data} (_h : oc.data = d) : ∃ o, o = oc := ⟨_, rfl⟩
theorem name_led {h₀ h : Heap} {L a a' : Addr} {o o' : Obj} {rest : List (Addr × Obj)} (_N : News h₀ L h ((a, o) :: (a', o') :: rest)) : ∃ x, x = a' := ⟨_, rfl⟩
theorem subL_of {all : List (Addr × Obj)} : ∀ {l : List (Addr × Obj)}, Sub l all → SubL l all
  | [], _ => trivial
  | q :: _, h => ⟨h q (.head _), subL_of fun p hp => h p (.tail _ hp)⟩
theorem in2_fm {p a b : Int} (hp : 0 < p) : In2 p (a.fmod p, b.fmod p) := ⟨Int.fmod_nonneg_of_pos _ hp, Int.fmod_lt_of_pos _ hp, Int.fmod_nonneg_of_pos _ hp, Int.fmod_lt_of_pos _ hp⟩
theorem in2_fm1 {p a b c : Int} (hp : 0 < p) (h : In2 p (c, b)) : In2 p (a.fmod p, b) := ⟨Int.fmod_nonneg_of_pos _ hp, Int.fmod_lt_of_pos _ hp, h.2.2.1, h.2.2.2⟩
theorem tms_out {l : List (Addr × Obj)} {r : Value} {p : Int} {x y : Int × Int} (hp : 0 < p) (h : ctms.Out l r ⟨p, x, y⟩) : ∃ z1 z2 a t1 t2 n, (z1, z2) = mulF p x y ∧ r = .ref a ∧ @Ne Nat a 93 ∧ l = [(a, tupO [.int z1 t1, .int z2 t2] n)] ∧ In2 p (z1, z2) := by
  obtain ⟨a, t1, t2, n, e, ha, el⟩ := h
  exact ⟨_, _, a, t1, t2, n, rfl, e, ha, el, mulF_in hp x y⟩
theorem root_out {l : List (Addr × Obj)} {r : Value} {p : Int} {x : Int × Int} (h : croot.Out l r ⟨p, x⟩) : (l = [] ∧ r = .none ∧ rootF p x = none) ∨ ∃ z1 z2 a t1 t2 n, rootF p x = some (z1, z2) ∧ r = .ref a ∧ @Ne Nat a 93 ∧ l = [(a, tupO [.int z1 t1, .int z2 t2] n)] := by
  rcases h with h | ⟨z, h, a, t1, t2, n, e, ha, el⟩
  · exact Or.inl h
  · exact Or.inr ⟨z.1, z.2, a, t1, t2, n, h, e, ha, el⟩
theorem pow_out {l : List (Addr × Obj)} {r : Value} {p k : Int} {x : Int × Int} (h : cpow.Out l r ⟨p, x, k⟩) : FQ p l r (powF p k.toNat x) := h
/-- the law's state once a point of the curve is found -/
def St5 (h₀ : Heap) (L : Addr) (oc : Obj) (Dc : Addr) (cl : Obj) (c : Int) (x y : Int × Int) (h : Heap) : Prop :=
  ∃ (m : Str → Option Value) (ax ay : Addr) (tc tx1 tx2 ty1 ty2 : Tok) (nx ny : Nat), Fr h₀ L h m ∧ m "cells" = some (.ref Dc) ∧ m "c" = some (.int c tc) ∧ m "x" = some (.ref ax) ∧ m "y" = some (.ref ay) ∧ @Ne Nat ax 93 ∧ @Ne Nat ay 93 ∧
    News h₀ L h [(93, tabObj #[]), (Dc, cl), (L + 1, oc), (ax, tupO [.int x.1 tx1, .int x.2 tx2] nx), (ay, tupO [.int y.1 ty1, .int y.2 ty2] ny)]
theorem mk5 {h₀ : Heap} {L : Addr} {oc : Obj} {Dc : Addr} {cl : Obj} {p c x1 x2 y1 y2 : Int} {h : Heap} (hc : 0 < c ∧ c < p) (hx : In2 p (x1, x2)) (hy : In2 p (y1, y2)) (hv : mulF p (y1, y2) (y1, y2) = rhsF p c (x1, x2)) (S : St5 h₀ L oc Dc cl c (x1, x2) (y1, y2) h) :
    ∃ c x1 x2 y1 y2, 0 < c ∧ c < p ∧ In2 p (x1, x2) ∧ In2 p (y1, y2) ∧ mulF p (y1, y2) (y1, y2) = rhsF p c (x1, x2) ∧ St5 h₀ L oc Dc cl c (x1, x2) (y1, y2) h := ⟨_, _, _, _, _, hc.1, hc.2, hx, hy, hv, S⟩
def Post5 (h₀ : Heap) (L : Addr) (oc : Obj) (Dc : Addr) (cl : Obj) (p c x1 x2 : Int) (gn : Array GenState) (dr : Drawn) (os : OsState) (f : Flow) (s' : Shared) : Prop :=
  f = .next ∧ ∃ (h' : Heap) (tk : Nat) (y1 y2 : Int), s' = ⟨h', gn, dr, tk, os⟩ ∧ In2 p (y1, y2) ∧ mulF p (y1, y2) (y1, y2) = rhsF p c (x1, x2) ∧ St5 h₀ L oc Dc cl c (x1, x2) (y1, y2) h'
theorem in2_neg {p a b : Int} (hp : 0 < p) : In2 p ((-a).fmod p, (-b).fmod p) := ⟨Int.fmod_nonneg_of_pos _ hp, Int.fmod_lt_of_pos _ hp, Int.fmod_nonneg_of_pos _ hp, Int.fmod_lt_of_pos _ hp⟩
def St6 (h₀ : Heap) (L : Addr) (oc : Obj) (c : Int) (x y z : Int × Int) (h : Heap) : Prop :=
  ∃ (m : Str → Option Value) (ax ay az : Addr) (tc tx1 tx2 ty1 ty2 tz1 tz2 : Tok) (nx ny nz : Nat), Fr h₀ L h m ∧ m "c" = some (.int c tc) ∧ m "x" = some (.ref ax) ∧ m "y" = some (.ref ay) ∧ m "z" = some (.ref az) ∧ @Ne Nat ax 93 ∧ @Ne Nat ay 93 ∧ @Ne Nat az 93 ∧
    News h₀ L h [(93, tabObj #[]), (L + 1, oc), (ax, tupO [.int x.1 tx1, .int x.2 tx2] nx), (ay, tupO [.int y.1 ty1, .int y.2 ty2] ny), (az, tupO [.int z.1 tz1, .int z.2 tz2] nz)]
def Post6 (h₀ : Heap) (L : Addr) (oc : Obj) (p c x1 x2 y1 y2 : Int) (gn : Array GenState) (dr : Drawn) (os : OsState) (f : Flow) (s' : Shared) : Prop :=
  f = .next ∧ ∃ (h' : Heap) (tk : Nat) (z1 z2 : Int), s' = ⟨h', gn, dr, tk, os⟩ ∧ In2 p (z1, z2) ∧ ¬ (z1 = 0 ∧ z2 = 0) ∧ St6 h₀ L oc c (x1, x2) (y1, y2) (z1, z2) h'
def St7 (h₀ : Heap) (L : Addr) (oc : Obj) (c : Int) (X Y Z : Int × Int) (h : Heap) : Prop :=
  ∃ (m : Str → Option Value) (al a1 a2 a3 : Addr) (tc t1 t2 t3 t4 t5 t6 : Tok) (n0 n1 n2 n3 : Nat), Fr h₀ L h m ∧ m "c" = some (.int c tc) ∧ m "pairs" = some (.ref al) ∧
    News h₀ L h [(93, tabObj #[]), (al, lstO [.ref a1, .ref a2, .ref a3] n0), (a1, tupO [.int X.1 t1, .int X.2 t2] n1), (a2, tupO [.int Y.1 t3, .int Y.2 t4] n2), (a3, tupO [.int Z.1 t5, .int Z.2 t6] n3), (L + 1, oc)] ∧ @Ne Nat al 93 ∧ @Ne Nat a1 93 ∧ @Ne Nat a2 93 ∧ @Ne Nat a3 93 ∧ @Ne Nat (L + 1) 93
theorem pack7 {h₀ : Heap} {L : Addr} {oc : Obj} {p c x1 x2 y1 y2 z1 z2 X1 X2 Y1 Y2 : Int} {h : Heap} (hX : (X1, X2) = mulF p (x1, x2) (z1, z2)) (hY : (Y1, Y2) = mulF p (y1, y2) (z1, z2)) (S : St7 h₀ L oc c (X1, X2) (Y1, Y2) (z1, z2) h) :
    ∃ X1 X2 Y1 Y2, (X1, X2) = mulF p (x1, x2) (z1, z2) ∧ (Y1, Y2) = mulF p (y1, y2) (z1, z2) ∧ St7 h₀ L oc c (X1, X2) (Y1, Y2) (z1, z2) h := ⟨_, _, _, _, hX, hY, S⟩
theorem FQ.cast2 {p : Int} {l : List (Addr × Obj)} {v : Value} {a b : Int} (h : FQ p l v (a % p, b % p)) (i : In2 p (a, b)) : FQ p l v (a, b) := h.cast (Prod.ext (Int.emod_eq_of_lt i.1 i.2.1) (Int.emod_eq_of_lt i.2.2.1 i.2.2.2))
/-- the ledger's part that the pairs take -/
abbrev PairLed (al a1 a2 a3 : Addr) (X Y Z : Int × Int) (t1 t2 t3 t4 t5 t6 : Tok) (n0 n1 n2 n3 : Nat) : List (Addr × Obj) := [(al, lstO [.ref a1, .ref a2, .ref a3] n0), (a1, tupO [.int X.1 t1, .int X.2 t2] n1), (a2, tupO [.int Y.1 t3, .int Y.2 t4] n2), (a3, tupO [.int Z.1 t5, .int Z.2 t6] n3)]
def St8 (h₀ : Heap) (L : Addr) (oc : Obj) (p c : Int) (X Y Z : Int × Int) (h : Heap) (g : Array GenState) : Prop :=
  ∃ (m : Str → Option Value) (oP : Obj) (al a1 a2 a3 : Addr) (tc t1 t2 t3 t4 t5 t6 : Tok) (n0 n1 n2 n3 : Nat) (vP : Value) (lP : List (Addr × Obj)), AllBare g ∧ TabOk oP ∧ Fr h₀ L h m ∧ m "c" = some (.int c tc) ∧ m "pairs" = some (.ref al) ∧ m "point" = some vP ∧
    PtF p lP vP (X, Y, Z) ∧ News h₀ L h ((93, oP) :: (lP ++ (L + 1, oc) :: PairLed al a1 a2 a3 X Y Z t1 t2 t3 t4 t5 t6 n0 n1 n2 n3)) ∧ @Ne Nat al 93 ∧ @Ne Nat a1 93 ∧ @Ne Nat a2 93 ∧ @Ne Nat a3 93 ∧ @Ne Nat (L + 1) 93
def St9 (h₀ : Heap) (L : Addr) (oc : Obj) (p c : Int) (X Y Z : Int × Int) (h : Heap) (g : Array GenState) : Prop :=
  ∃ (m : Str → Option Value) (oP : Obj) (al a1 a2 a3 : Addr) (tc t1 t2 t3 t4 t5 t6 : Tok) (n0 n1 n2 n3 : Nat) (vP vI : Value) (lP lI : List (Addr × Obj)), AllBare g ∧ TabOk oP ∧ Fr h₀ L h m ∧ m "c" = some (.int c tc) ∧ m "pairs" = some (.ref al) ∧ m "point" = some vP ∧ m "image" = some vI ∧
    PtF p lP vP (X, Y, Z) ∧ PtF p lI vI (conjF p X, conjF p Y, conjF p Z) ∧ News h₀ L h ((93, oP) :: (lI ++ (lP ++ (L + 1, oc) :: PairLed al a1 a2 a3 X Y Z t1 t2 t3 t4 t5 t6 n0 n1 n2 n3))) ∧ @Ne Nat al 93 ∧ @Ne Nat a1 93 ∧ @Ne Nat a2 93 ∧ @Ne Nat a3 93 ∧ @Ne Nat (L + 1) 93
theorem mlp_ok5 {p n : Int} {P : P3} (h : p < 24) (h0 : 0 ≤ n) (h1 : n < 32) : cmlp.Ok ⟨p, P, n, 5⟩ := ⟨h, h0, h1, (by decide : 0 < 5)⟩
theorem tr_out {l : List (Addr × Obj)} {r : Value} {p c : Int} (h : ctr.Out l r ⟨p, c⟩) : l = [] ∧ ∃ t, r = .int (traceF p c) t := h
theorem inf_t {l : List (Addr × Obj)} {r : Value} {p : Int} {P : P3} (h : cinf.Out l r ⟨p, P⟩) (hz : P.2.2 = (0, 0)) : r = .bool true := by
  have h' : r = .bool (decide (P.2.2 = (0, 0))) := h
  rw [h', decide_eq_true hz]
theorem inf_f {l : List (Addr × Obj)} {r : Value} {p : Int} {P : P3} (h : cinf.Out l r ⟨p, P⟩) (hz : P.2.2 ≠ (0, 0)) : r = .bool false := by
  have h' : r = .bool (decide (P.2.2 = (0, 0))) := h
  rw [h', decide_eq_false hz]
theorem eqp_t {l : List (Addr × Obj)} {r : Value} {p : Int} {P R : P3} (h : ceqp.Out l r ⟨p, P, R⟩) (hz : eqF p P R = true) : r = .bool true := by
  have h' : r = .bool (eqF p P R) := h
  rw [h', hz]
theorem ngp_out {l : List (Addr × Obj)} {r : Value} {p : Int} {P : P3} (h : cngp.Out l r ⟨p, P⟩) : PtF p l r (ngF3 p P) := h
theorem nrm_out2 {l : List (Addr × Obj)} {r : Value} {p : Int} {P : P3} (h : cnrm.Out l r ⟨p, P⟩) : ∃ t n v1 v2 l1 l2, r = .ref t ∧ @Ne Nat t 93 ∧ l = (t, tupO [.ref v1, .ref v2] n) :: (l1 ++ l2) ∧ FQ p l1 (.ref v1) (mulF p P.1 (invF p P.2.2)) ∧ FQ p l2 (.ref v2) (mulF p P.2.1 (invF p P.2.2)) := h
def NFb (b1 b2 : Bool) (f s : Int × Int) : Prop := (if b1 then f.1 else f.2) = 0 ∧ (if b2 then s.1 else s.2) = 0
/-- what normalize gives back; the second's part that must be nought is nought -/
theorem nrm_out {l : List (Addr × Obj)} {r : Value} {p : Int} {P : P3} (h : cnrm.Out l r ⟨p, P⟩) (hN : ∀ f s : Int × Int, f = mulF p P.1 (invF p P.2.2) → s = mulF p P.2.1 (invF p P.2.2) → f.2 = 0 ∧ s.2 = 0) :
    ∃ t n v1 v2 l1 l2 f1 f2 s1 s2, r = .ref t ∧ l = (t, tupO [.ref v1, .ref v2] n) :: (l1 ++ l2) ∧ @Ne Nat t 93 ∧ FQ p l1 (.ref v1) (f1, f2) ∧ FQ p l2 (.ref v2) (s1, s2) ∧ f2 = 0 ∧ s2 = 0 := by
  obtain ⟨t, n, v1, v2, l1, l2, e, ht, el, q1, q2⟩ := nrm_out2 h
  have z := hN _ _ rfl rfl
  exact ⟨t, n, v1, v2, l1, l2, _, _, _, _, e, el, ht, q1, q2, z.1, z.2⟩
theorem nrm_outa {l : List (Addr × Obj)} {r : Value} {p : Int} {P : P3} (h : cnrm.Out l r ⟨p, P⟩) (hN : ∀ f s : Int × Int, f = mulF p P.1 (invF p P.2.2) → s = mulF p P.2.1 (invF p P.2.2) → f.2 = 0 ∧ s.1 = 0) :
    ∃ t n v1 v2 l1 l2 f1 f2 s1 s2, r = .ref t ∧ l = (t, tupO [.ref v1, .ref v2] n) :: (l1 ++ l2) ∧ @Ne Nat t 93 ∧ FQ p l1 (.ref v1) (f1, f2) ∧ FQ p l2 (.ref v2) (s1, s2) ∧ f2 = 0 ∧ s1 = 0 := by
  obtain ⟨t, n, v1, v2, l1, l2, e, ht, el, q1, q2⟩ := nrm_out2 h
  have z := hN _ _ rfl rfl
  exact ⟨t, n, v1, v2, l1, l2, _, _, _, _, e, el, ht, q1, q2, z.1, z.2⟩
def St10 (h₀ : Heap) (L : Addr) (oc : Obj) (p c : Int) (P : P3) (h : Heap) (g : Array GenState) : Prop :=
  ∃ (m : Str → Option Value) (oP : Obj) (tc : Tok) (vP vI : Value) (lP lI : List (Addr × Obj)), AllBare g ∧ TabOk oP ∧ Fr h₀ L h m ∧ m "c" = some (.int c tc) ∧ m "point" = some vP ∧ m "image" = some vI ∧ PtF p lP vP P ∧ PtF p lI vI (conj3 p P) ∧ News h₀ L h ((93, oP) :: (lI ++ (lP ++ [(L + 1, oc)]))) ∧ @Ne Nat (L + 1) 93
def St11 (h₀ : Heap) (L : Addr) (p c : Int) (P : P3) (h : Heap) (g : Array GenState) : Prop :=
  ∃ (m : Str → Option Value) (oP : Obj) (vP vI vL vR : Value) (lP lI lL lR : List (Addr × Obj)), AllBare g ∧ TabOk oP ∧ Fr h₀ L h m ∧ m "point" = some vP ∧ m "image" = some vI ∧ m "left" = some vL ∧ m "right" = some vR ∧ PtF p lP vP P ∧ PtF p lI vI (conj3 p P) ∧ PtF p lL vL (mltF p 5 (p + 1).toNat P) ∧ PtF p lR vR (rightF p (traceF p c) (conj3 p P)) ∧ News h₀ L h ((93, oP) :: (lR ++ (lL ++ (lI ++ lP))))
def Post11 (h₀ : Heap) (L : Addr) (p c : Int) (P : P3) (dr : Drawn) (os : OsState) (f : Flow) (s' : Shared) : Prop :=
  f = .next ∧ ∃ (h : Heap) (g : Array GenState) (tk : Nat), s' = ⟨h, g, dr, tk, os⟩ ∧ St11 h₀ L p c P h g
def St12 (h₀ : Heap) (L : Addr) (p : Int) (P : P3) (h : Heap) (g : Array GenState) : Prop :=
  ∃ (m : Str → Option Value) (oP : Obj) (vP vI : Value) (lP lI : List (Addr × Obj)), AllBare g ∧ TabOk oP ∧ Fr h₀ L h m ∧ m "point" = some vP ∧ m "image" = some vI ∧ PtF p lP vP P ∧ PtF p lI vI (conj3 p P) ∧ News h₀ L h ((93, oP) :: (lI ++ lP))
def Post12 (h₀ : Heap) (L : Addr) (p : Int) (P : P3) (dr : Drawn) (os : OsState) (f : Flow) (s' : Shared) : Prop :=
  f = .next ∧ ∃ (h : Heap) (g : Array GenState) (tk : Nat), s' = ⟨h, g, dr, tk, os⟩ ∧ St12 h₀ L p P h g
theorem right_nn {p t : Int} {P : P3} (h : 0 ≤ t) : mltF p 5 t.toNat P = rightF p t P := by unfold rightF; rw [if_pos h]
theorem right_neg {p t : Int} {P : P3} (h : ¬ 0 ≤ t) : ngF3 p (mltF p 5 (-t).toNat P) = rightF p t P := by unfold rightF; rw [if_neg h]
theorem St12.open_ {h₀ : Heap} {L : Addr} {p : Int} {P : P3} {h : Heap} {g : Array GenState} (s : St12 h₀ L p P h g) : ∃ (m : Str → Option Value) (oP : Obj) (vP vI : Value) (lP lI : List (Addr × Obj)), AllBare g ∧ TabOk oP ∧ Fr h₀ L h m ∧ m "point" = some vP ∧ m "image" = some vI ∧ PtF p lP vP P ∧ PtF p lI vI (conj3 p P) ∧ NoP lP ∧ NoP lI ∧ News h₀ L h ((93, oP) :: (lI ++ lP)) := by
  obtain ⟨m, oP, vP, vI, lP, lI, G, T, F, q1, q2, h1, h2, N⟩ := s
  exact ⟨m, oP, vP, vI, lP, lI, G, T, F, q1, q2, h1, h2, h1.noP, h2.noP, N⟩
end

section
open PySem PySem.W PySem.Calls PyProof.Rows
-- the walk's own lines
-- containments, the table's place
-- quicker lines
local macro_rules | `(tactic| walk_at "setItem ref int") => `(tactic| (k_here; (with_reducible show wpAny _ _ (PySem.setItem (Value.ref _) (Value.int _ _) (Value.int _ _)) _ _ _); (refine gen_set ?_; intro z' tz' hz'); k_dflt (refine' ki_set ?F ?N ?a ?b ?e ?U ?_; (case F => k_asm); (case N => k_asm); (case U => k_upd); (case a => decide); (case b => decide); (case e => rfl)); intro h' F' N'; (try dsimp only [List.nil_append, List.cons_append] at N'); (try k_sweep)))
local macro_rules | `(tactic| walk_at "pyIter ref") => `(tactic| ((with_reducible show wpAny _ _ (pyIter (Value.ref _)) (fun it s₂ => LoopAtV _ _ _ _ _ _ _ _ _ it s₂) _ _); k_here; k_dflt (l_hasStore; krs_unr)))
local macro_rules | `(tactic| walk_at "UnrEndW") => `(tactic| (k_dflt ktu_end))
local macro_rules | `(tactic| walk_at "exec AugAssign Subscript") => `(tactic| (k_dflt (refine wpAny_AugAssign_SubscriptAny ?_)))
local macro_rules | `(tactic| walk_at "subscriptTail") => `(tactic| (k_here; (with_reducible show wpAny _ _ (subscriptTail _ _ (Value.ref _) (Value.int _ _)) _ _ _); k_dflt (refine' item_led ?N ?m ?a ?b ?x ?_ ?s; (case N => k_asm); (case m => kas_types); (case a => decide); (case b => decide); (case x => rfl); (case s => with_unfolding_all rfl))))
local macro_rules | `(tactic| walk_at "inplaceOp Add ref") => `(tactic| (k_here; (with_reducible show wpAny _ _ (inplaceOp Operator.Add (Value.ref _) (Value.ref _)) _ _ _); k_dflt (refine' iadd_list ?F ?N ?b ?e ?ne ?U ?d ?z ?y ?_; (case F => k_asm); (case N => k_asm); (case b => k_mem); (case U => k_upd); (case e => kl_lit); (case ne => kl_some); (case d => kl_no); (case z => kl_room); (case y => kl_room)); intro h' F' N'; (try dsimp only [List.nil_append, List.cons_append] at N'); (try k_sweep)))
local macro_rules | `(tactic| walk_at "compareOp Eq ref") => `(tactic| (k_here; (with_reducible show wpAny _ _ (compareOp CmpOp.Eq (Value.ref _) (Value.ref _)) _ _ _); (refine cmp_ofEq ?_); k_dflt (refine' cmp_K ?k1 ?k2 ?k3 ?k4 ?k5 ?k6 ?k7 ?k8 ?_; (case k1 => ktr_units); (case k2 => k_asm); (case k3 => k_asm); (case k4 => k_inst); (case k5 => k_typeOf); (case k6 => k_is); (case k7 => k_is); (case k8 => k_is); k_whole)))
local macro_rules | `(tactic| walk_at "compareOp NotEq ref") => `(tactic| (k_here; (with_reducible show wpAny _ _ (compareOp CmpOp.NotEq (Value.ref _) (Value.ref _)) _ _ _); (refine cmp_ofNotEq ?_); k_dflt (refine' cmp_K ?k1 ?k2 ?k3 ?k4 ?k5 ?k6 ?k7 ?k8 ?_; (case k1 => ktr_units); (case k2 => k_asm); (case k3 => k_asm); (case k4 => k_inst); (case k5 => k_typeOf); (case k6 => k_is); (case k7 => k_is); (case k8 => k_is); k_whole)))
local macro_rules | `(tactic| kd_adr) => `(tactic| first | (with_reducible assumption) | (refine' Ne.symm ?_; with_reducible assumption) | (refine' ne93_of ?h6 ?m6; (case h6 => with_reducible assumption); (case m6 => kas_types)))
local macro_rules | `(tactic| walk_at "binaryOp Div ref ref") => `(tactic| (k_here; (with_reducible show wpAny _ _ (binaryOp _ (Value.ref _) (Value.ref _)) _ _ _); k_dflt (refine' binop_K ?k1 ?k2 ?k3 ?k4 ?k5 ?k6 ?k7 ?_; (case k1 => k_asm); (case k2 => k_asm); (case k3 => k_inst); (case k4 => k_typeOf); (case k5 => k_is); (case k6 => k_is); (case k7 => k_is); k_whole)))
local macro_rules | `(tactic| kas_types) => `(tactic| first | (with_reducible exact List.mem_cons_self) | ((with_reducible refine List.mem_cons_of_mem _ ?_); kas_types) | ((with_reducible refine List.mem_append_left _ ?_); kas_types) | ((with_reducible refine List.mem_append_right _ ?_); kas_types) | (with_reducible assumption))
local macro_rules | `(tactic| k_mem) => `(tactic| kas_types)
local macro_rules | `(tactic| walk_at "call ref") => `(tactic| (k_here; (with_reducible show wpAny _ _ (call (Value.ref 244) _) _ _ _); k_dflt (refine' Does.use (does_tms _ ⟨_, (_, _), (_, _)⟩) ?zB ?zF ?zX ?zN ?zT ?zk ?zs ⟨_, _, [(_, tupO [.int _ _, .int _ _] _)], [(_, tupO [.int _ _, .int _ _] _)], _, _, rfl, rfl, ⟨_, _, _, _, rfl, ?za, rfl⟩, ⟨_, _, _, _, rfl, ?zb, rfl⟩⟩ ?zo ?zd ?zu ?_; (case zk => first | exact rfl | assumption); (case zB => k_asm); (case zF => k_asm); (case zX => k_asm); (case zN => k_asm); (case zT => k_asm); (case zs => kd_subs); (case za => first | assumption | kd_adr | k_ne | omega); (case zb => first | assumption | kd_adr | k_ne | omega); (case zo => (first | ((dsimp only; exact ⟨by omega, by omega, by (first | assumption | exact mulF_in (by omega) _ _ | exact in2_fm (by omega) | exact in2_fm1 (by omega) (by assumption)), by (first | assumption | exact mulF_in (by omega) _ _ | exact in2_fm (by omega) | exact in2_fm1 (by omega) (by assumption))⟩)) | fail "Ok")); (case zd => kd_p1); (case zu => kd_p1)); intro r' l' h' tk' F' N' O'; (replace O' := tms_out (by omega) O'); (obtain ⟨z1', z2', a', t1', t2', n', hz', e9', ha', el', hin'⟩ := O'); subst e9'; subst el'; (try simp only [List.cons_append, List.nil_append] at N'); (try dsimp only [PySem.W.CmpBack]); (try k_sweep)))
local macro_rules | `(tactic| walk_at "call ref") => `(tactic| (k_here; (with_reducible show wpAny _ _ (call (Value.ref 251) _) _ _ _); k_dflt (refine' Does.use (does_root _ ⟨_, (_, _)⟩) ?zB ?zF ?zX ?zN ?zT ?zk ?zs ⟨_, [(_, tupO [.int _ _, .int _ _] _)], _, _, rfl, rfl, ⟨_, _, _, _, rfl, ?za, rfl⟩⟩ ?zo ?zd ?zu ?_; (case zk => first | exact rfl | assumption); (case zB => k_asm); (case zF => k_asm); (case zX => k_asm); (case zN => k_asm); (case zT => k_asm); (case zs => kd_subs); (case za => first | assumption | kd_adr | k_ne | omega); (case zo => (first | ((dsimp only; exact ⟨by omega, by omega, by (first | assumption | exact mulF_in (by omega) _ _ | exact in2_fm (by omega) | exact in2_fm1 (by omega) (by assumption))⟩)) | fail "Ok")); (case zd => kd_p1); (case zu => kd_p1)); intro r' l' h' tk' F' N' O'; (replace O' := root_out O'); (rcases O' with ⟨el', e9', hrt'⟩ | ⟨z1', z2', a', t1', t2', n', hrt', e9', ha', el'⟩); (all_goals subst e9'); (all_goals subst el'); (all_goals (try simp only [List.cons_append, List.nil_append] at N')); (all_goals (try dsimp only [PySem.W.CmpBack])); (try k_sweep)))
local macro_rules | `(tactic| walk_at "call ref") => `(tactic| (k_here; (with_reducible show wpAny _ _ (call (Value.ref 234) _) _ _ _); k_dflt (refine' DoesG.use (does_mk _ ⟨_, _, _⟩) ?zB ?zF ?zX ?zN ?zU ?zP ?zG ?zT ?zk ?zs ?zn ⟨_, _, _, _, _, _, _, _, _, rfl, rfl, ?zq⟩ ?zo ?zd ?zu ?_; (case zk => first | exact rfl | assumption); (case zB => k_asm); (case zF => k_asm); (case zX => k_asm); (case zN => k_asm); (case zT => k_asm); (case zq => kd_p); (case zs => kd_subs); (case zP => first | assumption | exact ⟨_, rfl, by assumption⟩); (case zG => k_asm); (case zn => kd_p); (case zU => k_updF); (case zo => (first | ((dsimp only); exact ⟨by omega, by omega⟩) | fail "Ok")); (case zd => kd_p1); (case zu => kd_p1)); intro r' l' h' g' tk' oP' hP' F' N' nl' G' O'; (try dsimp only at N'); (try dsimp only at O'); (obtain ⟨x', d', es', e9', m1', m2'⟩ := FQ.has O'); subst e9'; (try dsimp only [PySem.W.CmpBack]); (try k_sweep)))
local macro_rules | `(tactic| walk_at "call ref") => `(tactic| (k_here; (with_reducible show wpAny _ _ (call (Value.ref 144) _) _ _ _); k_dflt (refine' DoesG.use (does_pow _ ⟨_, _, _⟩) ?zB ?zF ?zX ?zN ?zU ?zP ?zG ?zT ?zk ?zs ?zn ⟨_, _, rfl, ?zq⟩ ?zo ?zd ?zu ?_; (case zk => first | exact rfl | assumption); (case zB => k_asm); (case zF => k_asm); (case zX => k_asm); (case zN => k_asm); (case zT => k_asm); (case zq => assumption); (case zs => kd_subs); (case zP => first | assumption | exact ⟨_, rfl, by assumption⟩); (case zG => k_asm); (case zn => kd_p); (case zU => k_updF); (case zo => (first | ((dsimp only); exact ⟨by omega, by omega, by omega⟩) | fail "Ok")); (case zd => kd_p1); (case zu => kd_p1)); intro r' l' h' g' tk' oP' hP' F' N' nl' G' O'; (try dsimp only at N'); (replace O' := pow_out O'); (obtain ⟨x', d', es', e9', m1', m2'⟩ := FQ.has O'); subst e9'; (try dsimp only [PySem.W.CmpBack]); (try k_sweep)))
local macro_rules | `(tactic| walk_at "call ref") => `(tactic| (k_here; (with_reducible show wpAny _ _ (call (Value.ref 258) _) _ _ _); k_dflt (refine' Does.use (does_tr _ ⟨_, _⟩) ?zB ?zF ?zX ?zN ?zT ?zk ?zs ⟨_, _, rfl, rfl⟩ ?zo ?zd ?zu ?_; (case zk => first | exact rfl | assumption); (case zB => k_asm); (case zF => k_asm); (case zX => k_asm); (case zN => k_asm); (case zT => k_asm); (case zs => kd_subs); (case zo => (first | ((dsimp only); exact ⟨by omega, by omega, by omega, by omega⟩) | fail "Ok")); (case zd => kd_p1); (case zu => kd_p1)); intro r' l' h' tk' F' N' O'; (replace O' := tr_out O'); (obtain ⟨el', t', e9'⟩ := O'); subst el'; subst e9'; (try simp only [List.nil_append] at N'); (try k_sweep)))
local macro_rules | `(tactic| walk_at "call ref") => `(tactic| (k_here; (with_reducible show wpAny _ _ (call (Value.ref 28) _) _ _ _); k_dflt (refine' DoesG.use (does_inf _ ⟨_, _⟩) ?zB ?zF ?zX ?zN ?zU ?zP ?zG ?zT ?zk ?zs ?zn ⟨_, rfl, ?zq⟩ ?zo ?zd ?zu ?_; (case zk => first | exact rfl | assumption); (case zB => k_asm); (case zF => k_asm); (case zX => k_asm); (case zN => k_asm); (case zT => k_asm); (case zq => ((try dsimp only); assumption)); (case zs => kd_subs); (case zP => first | assumption | exact ⟨_, rfl, by assumption⟩); (case zG => k_asm); (case zn => kd_p); (case zU => k_updF); (case zo => (first | ((dsimp only; assumption)) | fail "Ok")); (case zd => kd_p1); (case zu => kd_p1)); intro r' l' h' g' tk' oP' hP' F' N' nl' G' O'; (try dsimp only at N'); (first | (replace O' := inf_t O' (by assumption)) | (replace O' := inf_f O' (by assumption))); subst O'; (try k_sweep)))
local macro_rules | `(tactic| walk_at "call ref") => `(tactic| (k_here; (with_reducible show wpAny _ _ (call (Value.ref 56) _) _ _ _); k_dflt (refine' DoesG.use (does_eqp _ ⟨_, _, _⟩) ?zB ?zF ?zX ?zN ?zU ?zP ?zG ?zT ?zk ?zs ?zn ⟨_, _, _, _, rfl, rfl, ?zq, ?zr⟩ ?zo ?zd ?zu ?_; (case zk => first | exact rfl | assumption); (case zB => k_asm); (case zF => k_asm); (case zX => k_asm); (case zN => k_asm); (case zT => k_asm); (case zq => ((try dsimp only); assumption)); (case zr => ((try dsimp only); assumption)); (case zs => kd_subs); (case zP => first | assumption | exact ⟨_, rfl, by assumption⟩); (case zG => k_asm); (case zn => kd_p); (case zU => k_updF); (case zo => (first | ((dsimp only; assumption)) | fail "Ok")); (case zd => kd_p1); (case zu => kd_p1)); intro r' l' h' g' tk' oP' hP' F' N' nl' G' O'; (try dsimp only at N'); (replace O' := eqp_t O' (by assumption)); subst O'; (try k_sweep)))
local macro_rules | `(tactic| walk_at "call ref") => `(tactic| (k_here; (with_reducible show wpAny _ _ (call (Value.ref 49) _) _ _ _); k_dflt (refine' DoesG.use (does_mlp _ 5 ⟨_, _, _, 5⟩ rfl) ?zB ?zF ?zX ?zN ?zU ?zP ?zG ?zT ?zk ?zs ?zn ⟨_, _, rfl, ?zq⟩ ?zo ?zd ?zu ?_; (case zk => first | exact rfl | assumption); (case zB => k_asm); (case zF => k_asm); (case zX => k_asm); (case zN => k_asm); (case zT => k_asm); (case zq => ((try dsimp only); assumption)); (case zs => kd_subs); (case zP => first | assumption | exact ⟨_, rfl, by assumption⟩); (case zG => k_asm); (case zn => kd_p); (case zU => k_updF); (case zo => (first | (exact mlp_ok5 (by omega) (by omega) (by omega)) | fail "Ok")); (case zd => kd_p1); (case zu => kd_p1)); intro r' l' h' g' tk' oP' hP' F' N' nl' G' O'; (try dsimp only at N'); (replace O' := mlp_out O'); (have npp := PtF.noP O'); (try k_sweep)))
local macro_rules | `(tactic| walk_at "call ref") => `(tactic| (k_here; (with_reducible show wpAny _ _ (call (Value.ref 70) _) _ _ _); k_dflt (refine' DoesG.use (does_ngp _ ⟨_, _⟩) ?zB ?zF ?zX ?zN ?zU ?zP ?zG ?zT ?zk ?zs ?zn ⟨_, rfl, ?zq⟩ ?zo ?zd ?zu ?_; (case zk => first | exact rfl | assumption); (case zB => k_asm); (case zF => k_asm); (case zX => k_asm); (case zN => k_asm); (case zT => k_asm); (case zq => ((try dsimp only); assumption)); (case zs => kd_subs); (case zP => first | assumption | exact ⟨_, rfl, by assumption⟩); (case zG => k_asm); (case zn => kd_p); (case zU => k_updF); (case zo => (first | ((dsimp only; assumption)) | fail "Ok")); (case zd => kd_p1); (case zu => kd_p1)); intro r' l' h' g' tk' oP' hP' F' N' nl' G' O'; (try dsimp only at N'); (replace O' := ngp_out O'); (have npp := PtF.noP O'); (try k_sweep)))
local macro_rules | `(tactic| walk_at "call ref") => `(tactic| (k_here; (with_reducible show wpAny _ _ (call (Value.ref 42) _) _ _ _); k_dflt (refine' DoesG.use (does_addp _ ⟨_, _, _⟩) ?zB ?zF ?zX ?zN ?zU ?zP ?zG ?zT ?zk ?zs ?zn ⟨_, _, _, _, rfl, rfl, ?zq, ?zr⟩ ?zo ?zd ?zu ?_; (case zk => first | exact rfl | assumption); (case zB => k_asm); (case zF => k_asm); (case zX => k_asm); (case zN => k_asm); (case zT => k_asm); (case zq => ((try dsimp only); assumption)); (case zr => ((try dsimp only); assumption)); (case zs => kd_subs); (case zP => first | assumption | exact ⟨_, rfl, by assumption⟩); (case zG => k_asm); (case zn => kd_p); (case zU => k_updF); (case zo => (first | ((dsimp only; assumption)) | fail "Ok")); (case zd => kd_p1); (case zu => kd_p1)); intro r' l' h' g' tk' oP' hP' F' N' nl' G' O'; (try dsimp only at N'); (replace O' := addp_out O'); (have npp := PtF.noP O'); (try k_sweep)))
local macro_rules | `(tactic| walk_at "call ref") => `(tactic| (k_here; (with_reducible show wpAny _ _ (call (Value.ref 63) _) _ _ _); k_dflt (refine' DoesG.use (does_nrm _ ⟨_, _⟩) ?zB ?zF ?zX ?zN ?zU ?zP ?zG ?zT ?zk ?zs ?zn ⟨_, rfl, ?zq⟩ ?zo ?zd ?zu ?_; (case zk => first | exact rfl | assumption); (case zB => k_asm); (case zF => k_asm); (case zX => k_asm); (case zN => k_asm); (case zT => k_asm); (case zq => ((try dsimp only); assumption)); (case zs => kd_subs); (case zP => first | assumption | exact ⟨_, rfl, by assumption⟩); (case zG => k_asm); (case zn => kd_p); (case zU => k_updF); (case zo => (first | ((dsimp only; exact ⟨by assumption, by assumption⟩)) | fail "Ok")); (case zd => kd_p1); (case zu => kd_p1)); intro r' l' h' g' tk' oP' hP' F' N' nl' G' O'; (try dsimp only at N'); (with_reducible rename (∀ _ _ : Int × Int, _ = _ → _ = _ → _ ∧ _) => hNF'); (first | (replace O' := nrm_out O' hNF') | (replace O' := nrm_outa O' hNF')); (obtain ⟨t', n', v1', v2', l1', l2', f1', f2', s1', s2', e9', el', ht', q1', q2', k1', k2'⟩ := O'); subst e9'; subst el'; subst k1'; subst k2'; cases q1'; cases q2'; (try simp only [List.cons_append, List.append_assoc, List.nil_append] at N'); (try k_sweep)))
local macro_rules | `(tactic| kmk_nums) => `(tactic| (refine' kmk_from ?gi (Int.natCast_nonneg _); (case gi => l_ints)))
local macro_rules | `(tactic| walk_at "subscriptTail Name Constant ref int") => `(tactic| (k_here; (with_reducible show wpAny _ _ (subscriptTail _ _ (Value.ref _) (Value.int _ _)) _ _ _); k_dflt (refine' item_led ?N ?m ?a ?b ?x ?_ ?s; (case N => k_asm); (case m => kas_types); (case a => decide); (case b => decide); (case x => rfl); (case s => with_unfolding_all rfl))))
local macro_rules | `(tactic| k_subL) => `(tactic| (refine' subL_of ?sb9; (case sb9 => kd_subs)))
local macro_rules | `(tactic| walk_at "subscriptTail Name Constant ref int") => `(tactic| (k_here; (with_reducible show wpAny _ _ (subscriptTail _ _ (Value.ref _) (Value.int _ _)) _ _ _); k_dflt (refine' item_tupleT (News.isTup ?N ?m) ?a ?b ?j ?x ?_ ?s; (case N => k_asm); (case m => kas_types); (case a => decide); (case b => decide); (case j => rfl); (case x => rfl); (case s => with_unfolding_all rfl))))
local macro_rules | `(tactic| walk_at "compareOp Eq ref ref") => `(tactic| (k_here; (with_reducible show wpAny _ _ (compareOp CmpOp.Eq (Value.ref _) (Value.ref _)) _ _ _); (refine cmp_ofEq ?_); k_dflt (refine' cmp_K ?k1 ?k2 ?k3 (InstAt.of_news ?n1 ?m1 ?m2) (InstAt.type (InstAt.of_news ?n2 ?m3 ?m4)) ?k6 ?k7 ?k8 ?_; (case k1 => ktr_units); (case k2 => k_asm); (case k3 => k_asm); (case n1 => k_asm); (case n2 => k_asm); (case m1 => kas_types); (case m2 => kas_types); (case m3 => kas_types); (case m4 => kas_types); (case k6 => k_is); (case k7 => k_is); (case k8 => k_is); k_whole)))
local macro_rules | `(tactic| walk_at "subscriptTail Attribute") => `(tactic| (k_here; (with_reducible show wpAny _ _ (subscriptTail _ _ (Value.ref _) (Value.int _ _)) _ _ _); k_dflt (refine' item_tupleT (News.isTup ?N ?m) ?a ?b ?j ?x ?_ ?s; (case N => k_asm); (case m => kas_types); (case a => decide); (case b => decide); (case j => rfl); (case x => rfl); (case s => with_unfolding_all rfl))))
local macro_rules | `(tactic| walk_at "exec Assign") => `(tactic| (k_here; (with_reducible show wpAny _ _ (exec (Stmt.Assign [PySem.Expr.Name _ _] (PySem.Expr.Subscript _ _ _) _) _) _ _ _); (with_reducible rename Mk 1 => mk9); refine halt ?_))
local macro_rules | `(tactic| walk_at "exec Assign") => `(tactic| (k_here; (with_reducible show wpAny _ _ (exec (Stmt.Assign [PySem.Expr.Name _ _] (PySem.Expr.BinOp _ _ _ _) _) _) _ _ _); (with_reducible rename Mk 2 => mk9); refine halt ?_))
local macro_rules | `(tactic| walk_at "pyIter ref") => `(tactic| ((with_reducible show wpAny _ _ (pyIter (Value.ref _)) (fun it s₂ => LoopAtV _ _ _ _ _ _ _ _ _ it s₂) _ _); k_here; (with_reducible rename Mk 3 => mk9); refine halt ?_))
local macro_rules | `(tactic| walk_at "exec If") => `(tactic| (k_here; (with_reducible show wpAny _ _ (exec (Stmt.If (PySem.Expr.Compare (PySem.Expr.BinOp _ _ _ _) _ _ _) _ _ _) _) _ _ _); (with_reducible rename Mk 4 => mk9); refine halt ?_))
local macro_rules | `(tactic| walk_at "InvEndN") => `(tactic| (refine halt ?_))
local macro_rules | `(tactic| walk_at "exec If") => `(tactic| (k_here; (with_reducible show wpAny _ _ (exec (Stmt.If (PySem.Expr.Compare (PySem.Expr.Name _ _) _ _ _) _ _ _) _) _ _ _); (with_reducible rename Mk 5 => mk9); refine halt ?_))
local macro_rules | `(tactic| walk_at "exec Assign") => `(tactic| (k_here; (with_reducible show wpAny _ _ (exec (Stmt.Assign [PySem.Expr.Name _ _] (PySem.Expr.Call _ _ _ _) _) _) _ _ _); (with_reducible rename Mk 6 => mk9); refine halt ?_))
local macro_rules | `(tactic| walk_at "eval ListComp") => `(tactic| (k_here; (first | (with_reducible rename Mk 7 => mk9) | (with_reducible rename Mk 8 => mk9)); k_dflt (refine' ListComp_MG _ ?k1 ?k2 ?k3 ?k4 ?k5 ?hb ?_ ?k6; (case k1 => k_asm); (case k2 => with_unfolding_all rfl); (case k3 => decide); (case k4 => rfl); (case k5 => decide); (case hb => ktn_open); (case k6 => intro _; with_unfolding_all rfl); k_whole)))
local macro_rules | `(tactic| walk_at "pyIter ref") => `(tactic| ((with_reducible show wpAny _ _ (pyIter (Value.ref _)) (fun it s₂ => CSrcG _ _ _ _ _ _ _ _ _ _ _ _ _ _ it s₂) _ _); k_here; k_dflt (first | (refine' csrc_listG ?k1 ?k2 ?k3 ?kT ?kG ?k4 ?k5 ?k6 ?k7 ?k8 ?_; (case k1 => rfl); (case k2 => k_asm); (case k3 => k_asm); (case kT => assumption); (case kG => k_asm); (case k4 => k_mem); (case k5 => rfl); (case k6 => rfl)) | (refine' csrc_tupleG ?k1 ?k2 ?k3 ?kT ?kG ?k4 ?k5 ?k6 ?k7 ?k8 ?_; (case k1 => rfl); (case k2 => k_asm); (case k3 => k_asm); (case kT => assumption); (case kG => k_asm); (case k4 => k_mem); (case k5 => rfl); (case k6 => rfl))); (case k7 => simp [Fits]); (case k8 => exact Nat.le_of_ble_eq_true rfl); intro i' h' n0'))
local macro_rules | `(tactic| walk_at "CRestG") => `(tactic| first | ((with_unfolding_all refine crestG_val ?_); intro h' g' tk' oP' C' oC' D' m' E' G' hP' n1' n2' hC' hx' F'; ktu_objs; intro hO'; refine wpAny_tests_nil ?_; (try simp only [if_true])) | ((with_unfolding_all refine crestG_nil ?_)))
local macro_rules | `(tactic| walk_at "CEndG") => `(tactic| (plain_pass; (refine' cendG_fq ?e1 ?e2 ?e3 ?e4 ?e5 ?e6 ?e7 ?e8 ?e9 ?f1 ?f2 ?f3 ?f4 ?f5 ?f6 ?f7 ?_); (case e1 => k_asm); (case e2 => assumption); (case e3 => k_asm); (case e4 => k_asm); (case e5 => assumption); (case e6 => kd_subs); (case e7 => kd_subs); (case e8 => k_mem); (case e9 => k_mem); (case f1 => k_mem); (case f2 => kd_subs); (case f3 => (intro q hq; rw [List.mem_singleton.mp hq]; first | exact Or.inl (by assumption) | exact Or.inr (by assumption))); (case f4 => assumption); (case f5 => assumption); (case f6 => intros; rfl); (case f7 => first | exact List.forall_mem_nil _ | exact List.forall_mem_cons.mpr ⟨⟨_, _, rfl, by k_mem⟩, List.forall_mem_nil _⟩ | exact List.forall_mem_cons.mpr ⟨⟨_, _, rfl, by k_mem⟩, List.forall_mem_cons.mpr ⟨⟨_, _, rfl, by k_mem⟩, List.forall_mem_nil _⟩⟩); (try simp only [List.nil_append, List.cons_append])))
local macro_rules | `(tactic| walk_at "CFinG") => `(tactic| ((with_reducible show CFinG _ _ _ _ _ _ _); (unfold CFinG); intro D' h' g' tk' oP' G' hP' F' N' n1' o1'; (try simp only [List.nil_append, List.cons_append] at N'); (try dsimp only); (try k_sweep)))
-- image
local macro_rules | `(tactic| walk_at "exec Assign") => `(tactic| (k_here; (with_reducible show wpAny _ _ (exec (Stmt.Assign [PySem.Expr.Name _ _] (PySem.Expr.Call _ [PySem.Expr.ListComp (PySem.Expr.BinOp _ _ _ _) _ _ _] _ _) _) _) _ _ _); (with_reducible rename Mk 7 => mk9); refine halt ?_))
local macro_rules | `(tactic| walk_at "exec If") => `(tactic| (k_here; (with_reducible show wpAny _ _ (exec (Stmt.If (PySem.Expr.Compare (PySem.Expr.ListComp _ _ _ _) _ _ _) _ _ _) _) _ _ _); (with_reducible rename Mk 8 => mk9); refine halt ?_))
local macro_rules | `(tactic| walk_at "exec Assign") => `(tactic| (k_here; (with_reducible show wpAny _ _ (exec (Stmt.Assign [PySem.Expr.Name _ _] (PySem.Expr.Call _ [PySem.Expr.Name _ _, PySem.Expr.Name _ _] _ _) _) _) _ _ _); (with_reducible rename Mk 9 => mk9); refine halt ?_))
local macro_rules | `(tactic| walk_at "exec Assign") => `(tactic| (k_here; (with_reducible show wpAny _ _ (exec (Stmt.Assign [PySem.Expr.Name _ _] (PySem.Expr.IfExp _ _ _ _) _) _) _ _ _); (with_reducible rename Mk 10 => mk9); refine halt ?_))
local macro_rules | `(tactic| walk_at "exec If") => `(tactic| (k_here; (with_reducible show wpAny _ _ (exec (Stmt.If (PySem.Expr.BoolOp _ _ _) _ _ _) _) _ _ _); (with_reducible rename Mk 11 => mk9); refine halt ?_))
local macro_rules | `(tactic| walk_at "exec If") => `(tactic| (k_here; (with_reducible show wpAny _ _ (exec (Stmt.If (PySem.Expr.UnaryOp _ _ _) _ _ _) _) _ _ _); (with_reducible rename Mk 12 => mk9); refine halt ?_))
/-- a hypothesis that no search takes for another -/
structure Wrap (P : Prop) : Prop where
  out : P
set_option maxRecDepth 100000 in
set_option maxHeartbeats 40000000 in
/-- the walk's stage 1: what is left behind it, and that it suffices -/
def stage1 : PSigma fun P : Prop => Wrap P → PySem.Challenge.rw_bb0063_01.Holds := by
  refine ⟨?P, fun h9 => ?f⟩
  case f =>
  refine hd2 ?_
  k_fill
  intro w s₀ s₁ mg mb G Y fa o pm cd doc dV kV ho hd hcd hD hmg hg args vals as hpre hlay hrd hwl hlo
  have KX0 := km_in_of Y
  have T93 := km_tabs_of Y 93 (.head _)
  clear Y
  refine Ground.open G ?_
  intro T B D TE TW
  try (refine guard_noD D (by decide +kernel) ?_; clear D)
  clear B TE TW hmg G
  wrow_args hpre hlay hrd hwl hlo
  refine enter_call ?_
  w_top on
  w_call any ho hd hcd hD T F
  (with_reducible rename News _ _ _ _ => N0)
  (with_reducible rename Heap.IsList _ _ _ => hL0)
  (with_reducible rename IntsAre _ _ => hI0)
  (with_reducible rename CellsAre _ _ _ => hC0)
  have C95 := codeHd_init KX0
  refine wpAny_mono (Q := LawOk (hideAll s₁.heap [93]) s₁.drawn s₁.os) (E := fun _ _ => False) ?go ?fin (fun _ _ hf => hf.elim)
  case fin =>
    rintro f s' ⟨rfl, h', g', tk, L, m, oP, news, rfl, F, N, hP, G⟩
    exact law_end T93 C95 F N hP G
  case go =>
  replace N0 := news_hide F T93 N0
  replace F := fr_hide F
  have T' := top_hide T KX0 T93 (by kernel_rfl) rfl
  have KX := in_hide KX0 (by kernel_rfl)
  have K0 := below_caller (hideAll s₁.heap [93])
  have hL := isList_hide T93 hL0
  have hT93 : TabOk (tabObj #[]) := ⟨#[], rfl, trivial⟩
  have hL93 : @LT.lt Nat _ 93 s₁.heap.objs.size := Heap.lt_size T93
  have hbare : AllBare s₁.gens := AllBare.of_eq hg
  (with_reducible rename ReadsAll _ _ _ _ => z1)
  (with_reducible rename Well _ _ _ _ => z2)
  (with_reducible rename Reads _ _ _ _ => z3)
  (with_reducible rename ReadsAllW _ _ _ _ _ _ => z4)
  clear ho hcd hg T93 T KX0 hL0 hD hd C95 z1 z2 z3 z4
  generalize hideAll s₁.heap [93] = h₀ at *
  generalize s₁.heap.objs.size = L at *
  generalize s₁.gens = gn at *
  generalize s₁.drawn = dr at *
  generalize s₁.os = os at *
  clear s₁
  try k_fold
  have mk1 := mk_ 1
  k_steps
  rename_i s1u1 s1u2 s1u3 s1u4 s1u5 s1u6 s1u7 s1u8 s1u9 s1u10 s1u11 s1u12 s1u13 s1u14 s1u15 s1u16 s1u17 s1u18 s1u19 s1u20 s1u21 s1u22 s1u23 s1u24 s1u25 s1u26 s1u27 s1u28 s1u29 s1u30 s1u31 s1u32 s1u33 s1u34 s1u35 s1u36 s1u37 s1u38 s1u39 s1u40 s1u41 s1u42 s1u43 s1u44 s1u45 s1u46 s1u47 s1u48 s1u49 s1u50 s1u51
  repeat revert ‹_›
  intro h9
  exact h9.out
set_option maxRecDepth 100000 in
set_option maxHeartbeats 40000000 in
/-- the walk's stage 2: what is left behind it, and that it suffices -/
def stage2 : PSigma fun P : Prop => Wrap P → stage1.1 := by
  refine ⟨?P, fun h9 => ?f⟩
  case f =>
  w_top off
  intro w
  set_option tactic.hygienic false in intros
  unfold Halt
  (with_reducible rename Mk _ => mk0)
  clear mk0
  have mk2 := mk_ 2
  (with_reducible rename Fr _ _ _ _ => F9)
  (with_reducible rename News _ _ _ _ => N9)
  (with_reducible rename IntsAre _ _ => hI9)
  obtain ⟨k0, k1, k2, k3, k4, k5, k6, t0, t1, t2, t3, t4, t5, t6, e9⟩ := ints7 hI9 cells7
  subst e9
  replace N9 := News.sub N9 (Sub.cons (q := (93, tabObj #[])) (by k_mem) (Sub.cons (q := (_, lstO [.int k0 t0, .int k1 t1, .int k2 t2, .int k3 t3, .int k4 t4, .int k5 t5, .int k6 t6] 0)) (.head _) (Sub.cons (q := (L + 1, _)) (by k_mem) Sub.nil)))
  clear hI9
  k_steps
  rename_i s2u1 s2u2 s2u3 s2u4 s2u5 s2u6 s2u7 s2u8 s2u9
  repeat revert ‹_›
  intro h9
  exact h9.out
set_option maxRecDepth 100000 in
set_option maxHeartbeats 40000000 in
/-- the walk's stage 3: what is left behind it, and that it suffices -/
def stage3 : PSigma fun P : Prop => Wrap P → stage2.1 := by
  refine ⟨?P, fun h9 => ?f⟩
  case f =>
  w_top off
  intro w
  set_option tactic.hygienic false in intros
  unfold Halt
  (with_reducible rename Mk _ => mk0)
  clear mk0
  have mk3 := mk_ 3
  (with_reducible rename News _ _ _ _ => N9)
  (with_reducible rename (Obj.data _ = Data.cell (some _)) => hc9)
  (with_reducible rename (0 ≤ Int.fmod _ 4) => q0)
  (with_reducible rename (Int.fmod _ 4 < 4) => q1)
  (with_reducible rename (Obj.data _ = Data.cell (bindC _ _ _ _)) => z99)
  clear z99
  obtain ⟨oc, oc9⟩ := name_obj hc9
  subst oc9
  obtain ⟨Dc, Dc9⟩ := name_led N9
  subst Dc9
  have hpr := prime_of q0 q1
  obtain ⟨p, hp⟩ : ∃ p, p = ([7, 11, 19, 23] : List Int).getD (Int.fmod k0 4).toNat 0 := ⟨_, rfl⟩
  rw [← hp] at hc9 hpr
  clear q0 q1 hp
  have hp6 : 6 < p := by rcases hpr with h | h | h | h <;> omega
  have hp24 : p < 24 := by rcases hpr with h | h | h | h <;> omega
  iterate 4 ((with_reducible rename IntsAre _ _ => z1); clear z1)
  iterate 3 ((with_reducible rename (List.length _ = _) => z1); clear z1)
  iterate 3 ((with_reducible rename (List.length _ ≤ _) => z1); clear z1)
  clear hL hT93 hC0
  k_steps
  rename_i s3u1 s3u2 s3u3 s3u4 s3u5 s3u6 s3u7 s3u8 s3u9 s3u10 s3u11 s3u12 s3u13 s3u14 s3u15 s3u16 s3u17 s3u18 s3u19
  repeat revert ‹_›
  intro h9
  exact h9.out
set_option maxRecDepth 100000 in
set_option maxHeartbeats 40000000 in
/-- the walk's stage 4: what is left behind it, and that it suffices -/
def stage4 : PSigma fun P : Prop => Wrap P → stage3.1 := by
  refine ⟨?P, fun h9 => ?f⟩
  case f =>
  w_top off
  intro w
  set_option tactic.hygienic false in intros
  unfold Halt
  (with_reducible rename Mk _ => mk0)
  clear mk0
  have mk4 := mk_ 4
  (with_reducible rename Fr _ _ _ _ => F9)
  (with_reducible rename News _ _ _ _ => N9)
  (with_reducible rename IsRange _ _ _ _ _ _ _ _ => rg9)
  replace N9 := News.sub N9 (Sub.cons (q := (93, tabObj #[])) (by k_mem) (Sub.cons (.tail _ (.tail _ (.head _))) (Sub.cons (q := (L + 1, _)) (by k_mem) Sub.nil)))
  k_dflt (refine' kst_range (σ := Unit) (n := (p * p).toNat) (fun _ => _) (fun _ => []) (fun _ => True) ["x", "cube", "y"] (fun pre _ => ∀ k ∈ pre, rootF p (rhsF p (1 + k1.fmod (p - 1)) (xAt p k2 k3 k)) = none) () ?hh rg9 ?sm ?rs F9 N9 True.intro ?hk ?hp ?turn ?done)
  case hh => exact rfl
  case sm => exact small_one (by decide) (by decide) (by rcases hpr with h | h | h | h <;> (subst h; decide)) (by rcases hpr with h | h | h | h <;> (subst h; decide))
  case rs => rw [rangeSize_nat]; rcases hpr with h | h | h | h <;> (subst h; rfl)
  case hk => intro p hp; cases hp
  case hp => intro k hk; cases hk
  case done =>
    intro c u h tk _ hP F' N'
    exact (notfound hpr (cb hp6).1 (cb hp6).2 hP).elim
  case turn =>
  clear F9 N9 rg9
  intro c pre k t u h tk own hk hlen ho _ hP F' N'
  have hk0 : 0 ≤ k := by omega
  have hk1 : k < 529 := by
    have : (p * p).toNat ≤ 529 := by rcases hpr with h | h | h | h <;> (subst h; decide)
    omega
  dsimp only [kstB] at *
  k_steps
  · unfold Halt
    (with_reducible rename Fr _ _ _ _ => F8)
    (with_reducible rename News _ _ _ _ => N8)
    (with_reducible rename (rootF _ _ = none) => hr8)
    (with_reducible rename (_ = mulF _ _ _) => hz2)
    revert hz2
    (with_reducible rename (_ = mulF _ _ _) => hz1)
    intro hz2
    refine' kst_end () F8 N8 ?en ?eo rfl True.intro ?ek ?er ?ep
    case en => show Sub _ _; kd_subs
    case eo => show Sub _ _; kd_subs
    case ek => exact List.forall_mem_nil _
    case er => kst_same
    case ep => exact none_snoc hP ((congrArg (rootF p) (rhs_eq hz1 hz2)).symm.trans hr8)
  rename_i s4u1 s4u2 s4u3 s4u4 s4u5 s4u6 s4u7 s4u8 s4u9 s4u10 s4u11 s4u12 s4u13 s4u14 s4u15 s4u16 s4u17 s4u18 s4u19 s4u20 s4u21 s4u22 s4u23 s4u24 s4u25 s4u26 s4u27 s4u28 s4u29 s4u30 s4u31 s4u32 s4u33 s4u34 s4u35 s4u36 s4u37 s4u38 s4u39 s4u40 s4u41 s4u42 s4u43 s4u44 s4u45 s4u46 s4u47
  repeat revert ‹_›
  intro h9
  exact h9.out
set_option maxRecDepth 100000 in
set_option maxHeartbeats 40000000 in
/-- the walk's stage 5: what is left behind it, and that it suffices -/
def stage5 : PSigma fun P : Prop => Wrap P → stage4.1 := by
  refine ⟨?P, fun h9 => ?f⟩
  case f =>
  w_top off
  intro w
  set_option tactic.hygienic false in intros
  unfold Halt
  (with_reducible rename Mk _ => mk0)
  clear mk0
  (with_reducible rename Fr _ _ _ _ => F9)
  (with_reducible rename News _ _ _ _ => N9)
  (with_reducible rename (rootF _ _ = some _) => hrt)
  (with_reducible rename (_ = mulF _ _ _) => hz2)
  revert hz2
  (with_reducible rename (_ = mulF _ _ _) => hz1)
  intro hz2
  have hy5 := (congrArg (rootF p) (rhs_eq hz1 hz2)).symm.trans hrt
  obtain ⟨hyin5, hcv5⟩ := root_sound hpr (rhs_in (by omega) _) hy5
  have S5 := mk5 (Dc := Dc) (oc := oc) (cl := lstO [.int k0 t0, .int k1 t1, .int k2 t2, .int k3 t3, .int k4 t4, .int k5 t5, .int k6 t6] 0) (cb (k := k1) hp6) (in2_fm (by omega)) hyin5 hcv5 ⟨_, _, _, _, _, _, _, _, _, _, F9, rfl, rfl, rfl, rfl, (by first | assumption | kd_adr | k_ne), (by first | assumption | kd_adr | k_ne), News.sub N9 (by kd_subs)⟩
  clear hy5 hyin5 hcv5 hrt hz1 hz2 F9 N9 hP hk hlen ho hk0 hk1
  obtain ⟨c, x1, x2, y1, y2, hc0, hc1, hxin, hyin, hcv, S5⟩ := S5
  refine wpAny_mono (Q := Post5 h₀ L oc Dc (lstO [.int k0 t0, .int k1 t1, .int k2 t2, .int k3 t3, .int k4 t4, .int k5 t5, .int k6 t6] 0) p c x1 x2 gn dr os) ?hif5 ?rest5 (fun _ _ h => h)
  case hif5 =>
    obtain ⟨m5, ax, ay, tc, tx1, tx2, ty1, ty2, nx, ny, F5, q1, q2, q3, q4, hax, hay, N5⟩ := S5
    replace F5 := frB [("cells", _), ("c", _), ("x", _), ("y", _)] (List.forall_mem_cons.mpr ⟨q1, List.forall_mem_cons.mpr ⟨q2, List.forall_mem_cons.mpr ⟨q3, List.forall_mem_cons.mpr ⟨q4, List.forall_mem_nil _⟩⟩⟩⟩) F5
    dsimp only [kstB] at F5 N5
    k_steps
    · (with_reducible rename Fr _ _ _ _ => F8)
      (with_reducible rename News _ _ _ _ => N8)
      exact ⟨rfl, _, _, _, _, rfl, in2_neg (by omega), (neg_sq (by omega) y1 y2).trans hcv, ⟨_, _, _, _, _, _, _, _, _, _, F8, rfl, rfl, rfl, rfl, hax, (by first | kd_adr | k_ne), News.sub N8 (by kd_subs)⟩⟩
    · (with_reducible rename Fr _ _ _ _ => F8)
      (with_reducible rename News _ _ _ _ => N8)
      exact ⟨rfl, _, _, _, _, rfl, hyin, hcv, ⟨_, _, _, _, _, _, _, _, _, _, F8, rfl, rfl, rfl, rfl, hax, hay, News.sub N8 (by kd_subs)⟩⟩
  case rest5 =>
  rintro f s' ⟨rfl, h5, tk5, y1', y2', rfl, hyin', hcv', S5'⟩
  clear S5 hyin hcv
  obtain ⟨m5, ax, ay, tc, tx1, tx2, ty1, ty2, nx, ny, F5, q1, q2, q3, q4, hax, hay, N5⟩ := S5'
  replace F5 := frB [("cells", _), ("c", _), ("x", _), ("y", _)] (List.forall_mem_cons.mpr ⟨q1, List.forall_mem_cons.mpr ⟨q2, List.forall_mem_cons.mpr ⟨q3, List.forall_mem_cons.mpr ⟨q4, List.forall_mem_nil _⟩⟩⟩⟩) F5
  dsimp only [kstB] at F5 N5
  have mk5 := mk_ 5
  dsimp only
  k_steps
  rename_i s5u1 s5u2 s5u3 s5u4 s5u5 s5u6 s5u7 s5u8
  repeat revert ‹_›
  intro h9
  exact h9.out
set_option maxRecDepth 100000 in
set_option maxHeartbeats 40000000 in
/-- the walk's stage 6: what is left behind it, and that it suffices -/
def stage6 : PSigma fun P : Prop => Wrap P → stage5.1 := by
  refine ⟨?P, fun h9 => ?f⟩
  case f =>
  w_top off
  intro w
  set_option tactic.hygienic false in intros
  unfold Halt
  (with_reducible rename Mk _ => mk0)
  clear mk0
  (with_reducible rename Fr _ _ _ _ => F9)
  (with_reducible rename News _ _ _ _ => N9)
  refine wpAny_mono (Q := Post6 h₀ L oc p c x1 x2 y1' y2' gn dr os) ?hif6 ?rest6 (fun _ _ h => h)
  case hif6 =>
    k_steps
    · (with_reducible rename Fr _ _ _ _ => F8)
      (with_reducible rename News _ _ _ _ => N8)
      exact ⟨rfl, _, _, 1, 0, rfl, ⟨by decide, by show (1 : Int) < p; omega, Int.le_refl _, by show (0 : Int) < p; omega⟩, fun h => absurd h.1 (by decide), ⟨_, _, _, _, _, _, _, _, _, _, _, _, _, _, F8, rfl, rfl, rfl, rfl, hax, hay, (by first | kd_adr | k_ne | omega), News.sub N8 (by kd_subs)⟩⟩
    · (with_reducible rename Fr _ _ _ _ => F8)
      (with_reducible rename News _ _ _ _ => N8)
      (with_reducible rename (_ = false) => hz8)
      exact ⟨rfl, _, _, _, _, rfl, in2_fm (a := k5) (b := k6) (by omega), fun h => absurd hz8 (by simp [h.1, h.2]), ⟨_, _, _, _, _, _, _, _, _, _, _, _, _, _, F8, rfl, rfl, rfl, rfl, hax, hay, (by first | kd_adr | k_ne | omega), News.sub N8 (by kd_subs)⟩⟩
  case rest6 =>
  rintro f s' ⟨rfl, h6, tk6, z1, z2, rfl, hzin, hznz, S6⟩
  clear F9 N9 q1 q2 q3 q4 hax hay
  obtain ⟨m6, ax, ay, az, tc, tx1, tx2, ty1, ty2, tz1, tz2, nx, ny, nz, F6, q1, q2, q3, q4, hax, hay, haz, N6⟩ := S6
  replace F6 := frB [("c", _), ("x", _), ("y", _), ("z", _)] (List.forall_mem_cons.mpr ⟨q1, List.forall_mem_cons.mpr ⟨q2, List.forall_mem_cons.mpr ⟨q3, List.forall_mem_cons.mpr ⟨q4, List.forall_mem_nil _⟩⟩⟩⟩) F6
  dsimp only [kstB] at F6 N6
  have mk6 := mk_ 6
  dsimp only
  k_steps
  rename_i s6u1 s6u2 s6u3 s6u4 s6u5 s6u6 s6u7 s6u8 s6u9 s6u10 s6u11 s6u12 s6u13 s6u14 s6u15 s6u16 s6u17 s6u18 s6u19 s6u20 s6u21 s6u22 s6u23 s6u24 s6u25 s6u26 s6u27 s6u28 s6u29 s6u30 s6u31 s6u32 s6u33 s6u34 s6u35 s6u36 s6u37 s6u38
  repeat revert ‹_›
  intro h9
  exact h9.out
set_option maxRecDepth 100000 in
set_option maxHeartbeats 40000000 in
/-- the walk's stage 7: what is left behind it, and that it suffices -/
def stage7 : PSigma fun P : Prop => Wrap P → stage6.1 := by
  refine ⟨?P, fun h9 => ?f⟩
  case f =>
  w_top off
  intro w
  set_option tactic.hygienic false in intros
  unfold Halt
  (with_reducible rename Mk _ => mk0)
  clear mk0
  (with_reducible rename Fr _ _ _ _ => F9)
  (with_reducible rename News _ _ _ _ => N9)
  (with_reducible rename (_ = mulF _ _ _) => hz2)
  revert hz2
  (with_reducible rename (_ = mulF _ _ _) => hz1)
  intro hz2
  have S7 := pack7 hz1 hz2 ⟨_, _, _, _, _, _, _, _, _, _, _, _, _, _, _, _, F9, rfl, rfl, News.sub N9 (by kd_subs), (by first | kd_adr | k_ne | omega), (by first | assumption | kd_adr | k_ne | omega), (by first | assumption | kd_adr | k_ne | omega), haz, (by have := hL93; exact Nat.ne_of_gt (by omega))⟩
  clear hz1 hz2 F9 N9 q1 q2 q3 q4 hax hay haz
  obtain ⟨X1, X2, Y1, Y2, hX, hY, m7, al, a1, a2, a3, tc7, t71, t72, t73, t74, t75, t76, n70, n71, n72, n73, F7, q1, q2, N7, e0, e1, e2, e3, e4⟩ := S7
  replace F7 := frB [("c", _), ("pairs", _)] (List.forall_mem_cons.mpr ⟨q1, List.forall_mem_cons.mpr ⟨q2, List.forall_mem_nil _⟩⟩) F7
  dsimp only [kstB] at F7 N7
  have hT7 : TabOk (tabObj #[]) := ⟨#[], rfl, trivial⟩
  have mk7 := mk_ 7
  k_steps
  rename_i s7u1 s7u2 s7u3 s7u4 s7u5 s7u6 s7u7 s7u8 s7u9 s7u10 s7u11 s7u12 s7u13 s7u14 s7u15 s7u16 s7u17 s7u18 s7u19 s7u20 s7u21 s7u22 s7u23 s7u24 s7u25 s7u26 s7u27 s7u28 s7u29 s7u30 s7u31 s7u32 s7u33 s7u34 s7u35 s7u36 s7u37 s7u38 s7u39 s7u40 s7u41 s7u42 s7u43 s7u44 s7u45 s7u46 s7u47 s7u48 s7u49 s7u50 s7u51 s7u52 s7u53 s7u54 s7u55 s7u56 s7u57 s7u58 s7u59 s7u60 s7u61 s7u62 s7u63 s7u64 s7u65 s7u66 s7u67 s7u68 s7u69 s7u70 s7u71 s7u72 s7u73 s7u74 s7u75 s7u76 s7u77 s7u78 s7u79 s7u80 s7u81 s7u82 s7u83 s7u84 s7u85 s7u86 s7u87 s7u88 s7u89 s7u90 s7u91 s7u92 s7u93 s7u94 s7u95 s7u96 s7u97 s7u98 s7u99 s7u100 s7u101 s7u102 s7u103 s7u104 s7u105 s7u106 s7u107 s7u108 s7u109 s7u110 s7u111 s7u112 s7u113 s7u114 s7u115 s7u116 s7u117 s7u118 s7u119 s7u120 s7u121 s7u122 s7u123 s7u124 s7u125 s7u126 s7u127 s7u128 s7u129 s7u130 s7u131 s7u132 s7u133 s7u134 s7u135 s7u136 s7u137 s7u138 s7u139 s7u140 s7u141 s7u142 s7u143
  repeat revert ‹_›
  intro h9
  exact h9.out
set_option maxRecDepth 100000 in
set_option maxHeartbeats 40000000 in
/-- the walk's stage 8: what is left behind it, and that it suffices -/
def stage8 : PSigma fun P : Prop => Wrap P → stage7.1 := by
  refine ⟨?P, fun h9 => ?f⟩
  case f =>
  w_top off
  intro w
  set_option tactic.hygienic false in intros
  unfold Halt
  (with_reducible rename Mk _ => mk0)
  clear mk0
  (with_reducible rename Fr _ _ _ _ => F9)
  (with_reducible rename News _ _ _ _ => N9)
  (with_reducible rename FQ _ _ _ (X1 % p, X2 % p) => fx)
  (with_reducible rename FQ _ _ _ (Y1 % p, Y2 % p) => fy)
  (with_reducible rename FQ _ _ _ (z1 % p, z2 % p) => fz)
  (with_reducible rename AllBare _ => G9)
  (with_reducible rename TabOk _ => T9)
  replace fx := fx.cast2 (hX ▸ mulF_in (by omega) _ _)
  replace fy := fy.cast2 (hY ▸ mulF_in (by omega) _ _)
  replace fz := fz.cast2 hzin
  have S8 : St8 h₀ L oc p c (X1, X2) (Y1, Y2) (z1, z2) _ _ := ⟨_, _, al, a1, a2, a3, tc7, t71, t72, t73, t74, t75, t76, n70, n71, n72, n73, _, _, G9, T9, F9, rfl, rfl, rfl, ⟨_, 0, _, _, _, _, _, _, rfl, (by first | kd_adr | k_ne | omega), rfl, fx, fy, fz⟩, News.sub N9 (by kd_subs), e0, e1, e2, e3, e4⟩
  clear fx fy fz N9 F9 G9 T9 e0 e1 e2 e3 e4
  obtain ⟨m8, oP8, al, a1, a2, a3, tc8, t81, t82, t83, t84, t85, t86, n80, n81, n82, n83, vP, lP, G8, T8, F8, q1, q2, q3, hPt, N8, e0, e1, e2, e3, e4⟩ := S8
  have hPt0 := hPt
  have nPt := hPt.noP
  obtain ⟨tP, nP, vx, vy, vz, lx, ly, lz, rfl, ht93, rfl, hqx, hqy, hqz⟩ := hPt
  obtain ⟨wx, ox, ex, wy1, mx1, mx2⟩ := FQ.has hqx
  obtain ⟨wy, oy, ey, wy2, my1, my2⟩ := FQ.has hqy
  obtain ⟨wz, oz, ez, wy3, mz1, mz2⟩ := FQ.has hqz
  cases wy1
  cases wy2
  cases wy3
  have npx := hqx.noP
  have npy := hqy.noP
  have npz := hqz.noP
  replace F8 := frB [("c", _), ("pairs", _), ("point", _)] (List.forall_mem_cons.mpr ⟨q1, List.forall_mem_cons.mpr ⟨q2, List.forall_mem_cons.mpr ⟨q3, List.forall_mem_nil _⟩⟩⟩) F8
  dsimp only [kstB] at F8
  simp only [List.cons_append, List.append_assoc] at N8
  have mk8 := mk_ 8
  k_steps
  rename_i s8u1 s8u2 s8u3 s8u4 s8u5 s8u6 s8u7 s8u8 s8u9 s8u10 s8u11 s8u12 s8u13 s8u14 s8u15 s8u16 s8u17 s8u18 s8u19 s8u20 s8u21 s8u22 s8u23 s8u24 s8u25 s8u26 s8u27 s8u28 s8u29 s8u30 s8u31 s8u32 s8u33 s8u34 s8u35 s8u36 s8u37 s8u38 s8u39 s8u40 s8u41 s8u42 s8u43 s8u44 s8u45 s8u46 s8u47 s8u48 s8u49 s8u50 s8u51 s8u52 s8u53 s8u54 s8u55 s8u56 s8u57 s8u58 s8u59 s8u60 s8u61 s8u62 s8u63 s8u64 s8u65 s8u66 s8u67 s8u68 s8u69 s8u70 s8u71 s8u72 s8u73 s8u74 s8u75 s8u76 s8u77 s8u78 s8u79 s8u80 s8u81 s8u82 s8u83 s8u84 s8u85 s8u86 s8u87 s8u88 s8u89 s8u90 s8u91 s8u92 s8u93 s8u94 s8u95 s8u96 s8u97 s8u98 s8u99 s8u100 s8u101 s8u102 s8u103 s8u104 s8u105 s8u106 s8u107 s8u108 s8u109 s8u110 s8u111 s8u112 s8u113 s8u114 s8u115 s8u116 s8u117 s8u118 s8u119 s8u120 s8u121
  repeat revert ‹_›
  intro h9
  exact h9.out
set_option maxRecDepth 100000 in
set_option maxHeartbeats 40000000 in
/-- the walk's stage 9: what is left behind it, and that it suffices -/
def stage9 : PSigma fun P : Prop => Wrap P → stage8.1 := by
  refine ⟨?P, fun h9 => ?f⟩
  case f =>
  w_top off
  intro w
  set_option tactic.hygienic false in intros
  unfold Halt
  (with_reducible rename Mk _ => mk0)
  clear mk0
  (with_reducible rename Fr _ _ _ _ => F9)
  (with_reducible rename News _ _ _ _ => N9)
  (with_reducible rename FQ _ _ _ (powF p p.toNat (X1, X2)) => fx)
  (with_reducible rename FQ _ _ _ (powF p p.toNat (Y1, Y2)) => fy)
  (with_reducible rename FQ _ _ _ (powF p p.toNat (z1, z2)) => fz)
  (with_reducible rename AllBare _ => G9)
  (with_reducible rename TabOk _ => T9)
  have hXin : In2 p (X1, X2) := hX ▸ mulF_in (by omega) _ _
  have hYin : In2 p (Y1, Y2) := hY ▸ mulF_in (by omega) _ _
  replace fx := fx.cast (frob hpr hXin)
  replace fy := fy.cast (frob hpr hYin)
  replace fz := fz.cast (frob hpr hzin)
  have S9 : St9 h₀ L oc p c (X1, X2) (Y1, Y2) (z1, z2) _ _ := ⟨_, _, al, a1, a2, a3, tc8, t81, t82, t83, t84, t85, t86, n80, n81, n82, n83, _, _, _, _, G9, T9, F9, rfl, rfl, rfl, rfl, hPt0, ⟨_, 0, _, _, _, _, _, _, rfl, (by first | kd_adr | k_ne | omega), rfl, fx, fy, fz⟩, News.sub N9 (by kd_subs), e0, e1, e2, e3, e4⟩
  clear fx fy fz N9 F9 G9 T9 e0 e1 e2 e3 e4 hqx hqy hqz hPt0 mx1 mx2 my1 my2 mz1 mz2 npx npy npz nPt ht93 q1 q2 q3
  obtain ⟨m9, oP9, al, a1, a2, a3, tc9, t91, t92, t93, t94, t95, t96, n90, n91, n92, n93, vP, vI, lP, lI, G9, T9, F9, q1, q2, q3, q4, hPt, hIm, N9, e0, e1, e2, e3, e4⟩ := S9
  have nPt := hPt.noP
  have nIm := hIm.noP
  have hIm0 := hIm
  obtain ⟨tI, nI, ix, iy, iz, lix, liy, liz, rfl, hi93, rfl, hix, hiy, hiz⟩ := hIm
  replace F9 := frB [("c", _), ("pairs", _), ("point", _), ("image", _)] (List.forall_mem_cons.mpr ⟨q1, List.forall_mem_cons.mpr ⟨q2, List.forall_mem_cons.mpr ⟨q3, List.forall_mem_cons.mpr ⟨q4, List.forall_mem_nil _⟩⟩⟩⟩) F9
  dsimp only [kstB] at F9
  cases hix
  cases hiy
  cases hiz
  simp only [List.cons_append, List.append_assoc, List.nil_append] at N9
  have mk9 := mk_ 9
  k_steps
  rotate_left
  · (with_reducible rename (_ = false) => hf9)
    exact absurd hf9 (by simp [conjF])
  rename_i s9u1 s9u2 s9u3 s9u4 s9u5 s9u6 s9u7 s9u8 s9u9 s9u10 s9u11 s9u12 s9u13 s9u14 s9u15 s9u16 s9u17 s9u18 s9u19 s9u20 s9u21 s9u22 s9u23 s9u24 s9u25 s9u26 s9u27 s9u28 s9u29 s9u30 s9u31 s9u32 s9u33 s9u34 s9u35 s9u36 s9u37 s9u38 s9u39 s9u40 s9u41 s9u42 s9u43 s9u44 s9u45 s9u46 s9u47 s9u48 s9u49 s9u50 s9u51 s9u52 s9u53 s9u54 s9u55 s9u56 s9u57 s9u58 s9u59 s9u60 s9u61 s9u62 s9u63 s9u64 s9u65 s9u66 s9u67 s9u68 s9u69 s9u70 s9u71 s9u72 s9u73 s9u74 s9u75 s9u76 s9u77 s9u78 s9u79 s9u80 s9u81 s9u82 s9u83 s9u84 s9u85 s9u86 s9u87 s9u88 s9u89 s9u90 s9u91 s9u92 s9u93 s9u94 s9u95 s9u96 s9u97 s9u98 s9u99 s9u100 s9u101 s9u102 s9u103 s9u104 s9u105 s9u106 s9u107 s9u108 s9u109 s9u110 s9u111 s9u112 s9u113 s9u114 s9u115 s9u116 s9u117 s9u118 s9u119 s9u120 s9u121 s9u122 s9u123 s9u124 s9u125 s9u126 s9u127 s9u128 s9u129 s9u130 s9u131 s9u132 s9u133 s9u134 s9u135 s9u136 s9u137 s9u138 s9u139 s9u140 s9u141 s9u142 s9u143 s9u144 s9u145 s9u146 s9u147 s9u148 s9u149 s9u150 s9u151 s9u152 s9u153 s9u154 s9u155 s9u156 s9u157 s9u158 s9u159 s9u160 s9u161 s9u162 s9u163 s9u164 s9u165 s9u166 s9u167 s9u168 s9u169 s9u170 s9u171 s9u172 s9u173 s9u174 s9u175 s9u176 s9u177 s9u178 s9u179 s9u180 s9u181 s9u182 s9u183 s9u184 s9u185 s9u186 s9u187 s9u188 s9u189 s9u190 s9u191 s9u192 s9u193
  repeat revert ‹_›
  intro h9
  exact h9.out
set_option maxRecDepth 100000 in
set_option maxHeartbeats 40000000 in
/-- the walk's stage 10: what is left behind it, and that it suffices -/
def stage10 : PSigma fun P : Prop => Wrap P → stage9.1 := by
  refine ⟨?P, fun h9 => ?f⟩
  case f =>
  w_top off
  intro w
  set_option tactic.hygienic false in intros
  unfold Halt
  (with_reducible rename Mk _ => mk0)
  clear mk0
  (with_reducible rename Fr _ _ _ _ => FA)
  (with_reducible rename News _ _ _ _ => NA)
  have S10 : St10 h₀ L oc p c ((X1, X2), (Y1, Y2), (z1, z2)) _ _ := ⟨_, _, tc9, vP, _, lP, _, G9, T9, FA, rfl, rfl, rfl, hPt, hIm0, News.sub NA (by kd_subs), e4⟩
  clear FA NA T9 e0 e1 e2 e3 e4 q1 q2 q3 q4 hPt hIm0 nPt nIm hi93
  have hA := asked hpr hc0 hc1 hxin hyin' hzin hznz hcv'
  rw [← hX, ← hY] at hA
  generalize ((X1, X2), (Y1, Y2), (z1, z2)) = PP at S10 hA
  clear hX hY hXin hYin
  obtain ⟨m10, oP10, tc10, vP, vI, lP, lI, G10, T10, F10, q1, q2, q3, hPt, hIm, N10, e4⟩ := S10
  have nPt := hPt.noP
  have nIm := hIm.noP
  replace F10 := frB [("c", _), ("point", _), ("image", _)] (List.forall_mem_cons.mpr ⟨q1, List.forall_mem_cons.mpr ⟨q2, List.forall_mem_cons.mpr ⟨q3, List.forall_mem_nil _⟩⟩⟩) F10
  dsimp only [kstB] at F10
  have mk10 := mk_ 10
  k_steps
  rename_i s10u1 s10u2 s10u3 s10u4 s10u5 s10u6 s10u7 s10u8 s10u9 s10u10 s10u11 s10u12 s10u13 s10u14 s10u15 s10u16 s10u17 s10u18 s10u19 s10u20 s10u21
  repeat revert ‹_›
  intro h9
  exact h9.out
set_option maxRecDepth 100000 in
set_option maxHeartbeats 40000000 in
/-- the walk's stage 11: what is left behind it, and that it suffices -/
def stage11 : PSigma fun P : Prop => Wrap P → stage10.1 := by
  refine ⟨?P, fun h9 => ?f⟩
  case f =>
  w_top off
  intro w
  set_option tactic.hygienic false in intros
  unfold Halt
  (with_reducible rename Mk _ => mk0)
  clear mk0
  (with_reducible rename Fr _ _ _ _ => FA)
  (with_reducible rename News _ _ _ _ => NA)
  have htb := trace_bd (c := c) hpr
  (with_reducible rename PtF _ _ _ (mltF p 5 (p + 1).toNat PP) => hLf)
  generalize hTr : traceF p c = tr at FA htb
  refine wpAny_mono (Q := Post11 h₀ L p c PP dr os) ?hif11 ?rest11 (fun _ _ h => h)
  case hif11 =>
    k_steps
    · (with_reducible rename Fr _ _ _ _ => F8)
      (with_reducible rename News _ _ _ _ => N8)
      (with_reducible rename AllBare _ => G8)
      (with_reducible rename TabOk _ => T8)
      (with_reducible rename PtF _ _ _ (mltF p 5 (Int.toNat tr) _) => hR8)
      exact ⟨rfl, _, _, _, rfl, ⟨_, _, _, _, _, _, _, _, _, _, G8, T8, F8, rfl, rfl, rfl, rfl, hPt, hIm, hLf, hR8.cast (by rw [hTr]; exact right_nn (by assumption)), News.sub N8 (by kd_subs)⟩⟩
    · (with_reducible rename Fr _ _ _ _ => F8)
      (with_reducible rename News _ _ _ _ => N8)
      (with_reducible rename AllBare _ => G8)
      (with_reducible rename TabOk _ => T8)
      (with_reducible rename PtF _ _ _ (ngF3 _ _) => hR8)
      exact ⟨rfl, _, _, _, rfl, ⟨_, _, _, _, _, _, _, _, _, _, G8, T8, F8, rfl, rfl, rfl, rfl, hPt, hIm, hLf, hR8.cast (by rw [hTr]; exact right_neg (by first | assumption | omega)), News.sub N8 (by kd_subs)⟩⟩
  case rest11 =>
  rintro f s' ⟨rfl, h11, g11, tk11, rfl, S11⟩
  clear hTr htb
  clear FA NA hLf hPt hIm nPt nIm q1 q2 q3 e4
  obtain ⟨m11, oP11, vP, vI, vL, vR, lP, lI, lL, lR, G11, T11, F11, q1, q2, q3, q4, hPt, hIm, hLf, hRt, N11⟩ := S11
  have nPt := hPt.noP
  have nIm := hIm.noP
  have nLf := hLf.noP
  have nRt := hRt.noP
  replace F11 := frB [("point", _), ("image", _), ("left", _), ("right", _)] (List.forall_mem_cons.mpr ⟨q1, List.forall_mem_cons.mpr ⟨q2, List.forall_mem_cons.mpr ⟨q3, List.forall_mem_cons.mpr ⟨q4, List.forall_mem_nil _⟩⟩⟩⟩) F11
  dsimp only [kstB] at F11
  have mk11 := mk_ 11
  dsimp only
  k_steps
  rename_i s11u1 s11u2 s11u3 s11u4 s11u5
  repeat revert ‹_›
  intro h9
  exact h9.out
set_option maxRecDepth 100000 in
set_option maxHeartbeats 40000000 in
/-- the walk's stage 12: what is left behind it, and that it suffices -/
def stage12 : PSigma fun P : Prop => Wrap P → stage11.1 := by
  refine ⟨?P, fun h9 => ?f⟩
  case f =>
  w_top off
  intro w
  set_option tactic.hygienic false in intros
  unfold Halt
  (with_reducible rename Mk _ => mk0)
  clear mk0
  (with_reducible rename Fr _ _ _ _ => FB)
  (with_reducible rename News _ _ _ _ => NB)
  refine wpAny_mono (Q := Post12 h₀ L p PP dr os) ?hif12 ?rest12 (fun _ _ h => h)
  case hif12 =>
    by_cases hzL : (mltF p 5 (p + 1).toNat PP).2.2 = (0, 0)
    · have hzR := hA.inf.mp hzL
      k_steps
      (with_reducible rename Fr _ _ _ _ => F8)
      (with_reducible rename News _ _ _ _ => N8)
      (with_reducible rename AllBare _ => G8)
      (with_reducible rename TabOk _ => T8)
      exact ⟨rfl, _, _, _, rfl, ⟨_, _, _, _, _, _, G8, T8, F8, rfl, rfl, hPt, hIm, News.sub N8 (by kd_subs)⟩⟩
    · have hzR : (rightF p (traceF p c) (conj3 p PP)).2.2 ≠ (0, 0) := fun q => hzL (hA.inf.mpr q)
      have heq := hA.eq hzL
      k_steps
      (with_reducible rename Fr _ _ _ _ => F8)
      (with_reducible rename News _ _ _ _ => N8)
      (with_reducible rename AllBare _ => G8)
      (with_reducible rename TabOk _ => T8)
      exact ⟨rfl, _, _, _, rfl, ⟨_, _, _, _, _, _, G8, T8, F8, rfl, rfl, hPt, hIm, News.sub N8 (by kd_subs)⟩⟩
  case rest12 =>
  rintro f s' ⟨rfl, h12, g12, tk12, rfl, S12⟩
  clear FB NB hLf hRt nLf nRt hPt hIm nPt nIm q1 q2 q3 q4
  obtain ⟨m12, oP12, vP, vI, lP, lI, G12, T12, F12, q1, q2, hPt, hIm, nPt, nIm, N12⟩ := S12.open_
  clear S12
  replace F12 := frB [("point", _), ("image", _)] (List.forall_mem_cons.mpr ⟨q1, List.forall_mem_cons.mpr ⟨q2, List.forall_mem_nil _⟩⟩) F12
  dsimp only [kstB] at F12
  have mk12 := mk_ 12
  dsimp only
  k_steps
  rename_i s12u1 s12u2 s12u3 s12u4 s12u5 s12u6 s12u7 s12u8 s12u9 s12u10 s12u11 s12u12 s12u13 s12u14 s12u15 s12u16 s12u17 s12u18 s12u19
  repeat revert ‹_›
  intro h9
  exact h9.out
set_option maxRecDepth 100000 in
set_option maxHeartbeats 40000000 in
/-- the walk's stage 13: what is left behind it, and that it suffices -/
def stage13 : PSigma fun P : Prop => Wrap P → stage12.1 := by
  refine ⟨?P, fun h9 => ?f⟩
  case f =>
  w_top off
  intro w
  set_option tactic.hygienic false in intros
  unfold Halt
  (with_reducible rename Mk _ => mk0)
  clear mk0
  (with_reducible rename Fr _ _ _ _ => FC13)
  (with_reducible rename News _ _ _ _ => NC13)
  (with_reducible rename PtF _ _ _ (paF p PP (conj3 p PP)) => hB8)
  refine wpAny_mono (Q := Post12 h₀ L p PP dr os) ?hif13 ?rest13 (fun _ _ h => h)
  case hif13 =>
    have nB8 := hB8.noP
    by_cases hzB : (paF p PP (conj3 p PP)).2.2 = (0, 0)
    · k_steps
      (with_reducible rename Fr _ _ _ _ => F8)
      (with_reducible rename News _ _ _ _ => N8)
      (with_reducible rename AllBare _ => G8)
      (with_reducible rename TabOk _ => T8)
      exact ⟨rfl, _, _, _, rfl, ⟨_, _, _, _, _, _, G8, T8, F8, rfl, rfl, hPt, hIm, News.sub N8 (by kd_subs)⟩⟩
    · have hNF : ∀ f s : Int × Int, f = mulF p (paF p PP (conj3 p PP)).1 (invF p (paF p PP (conj3 p PP)).2.2) → s = mulF p (paF p PP (conj3 p PP)).2.1 (invF p (paF p PP (conj3 p PP)).2.2) → f.2 = 0 ∧ s.2 = 0 := fun f s hf hs => ⟨by rw [hf]; exact hA.b1 hzB, by rw [hs]; exact hA.b2 hzB⟩
      have hzB' : (paF p PP (conj3 p PP)).2.2 ≠ (0, 0) := hzB
      k_steps
      (with_reducible rename Fr _ _ _ _ => F8)
      (with_reducible rename News _ _ _ _ => N8)
      (with_reducible rename AllBare _ => G8)
      (with_reducible rename TabOk _ => T8)
      exact ⟨rfl, _, _, _, rfl, ⟨_, _, _, _, _, _, G8, T8, F8, rfl, rfl, hPt, hIm, News.sub N8 (by kd_subs)⟩⟩
  case rest13 =>
  rintro f s' ⟨rfl, h13, g13, tk13, rfl, S12⟩
  clear FC13 NC13 hB8 hPt hIm nPt nIm q1 q2
  obtain ⟨m12, oP12, vP, vI, lP, lI, G12, T12, F12, q1, q2, hPt, hIm, nPt, nIm, N12⟩ := S12.open_
  clear S12
  replace F12 := frB [("point", _), ("image", _)] (List.forall_mem_cons.mpr ⟨q1, List.forall_mem_cons.mpr ⟨q2, List.forall_mem_nil _⟩⟩) F12
  dsimp only [kstB] at F12
  have mk12 := mk_ 12
  dsimp only
  k_steps
  rename_i s13u1 s13u2 s13u3 s13u4 s13u5 s13u6 s13u7 s13u8 s13u9 s13u10 s13u11 s13u12 s13u13 s13u14 s13u15 s13u16 s13u17 s13u18 s13u19 s13u20 s13u21 s13u22 s13u23 s13u24 s13u25 s13u26 s13u27 s13u28 s13u29 s13u30 s13u31 s13u32 s13u33 s13u34
  repeat revert ‹_›
  intro h9
  exact h9.out
set_option maxRecDepth 100000 in
set_option maxHeartbeats 40000000 in
theorem law_end14 : stage13.1 := by
  w_top off
  intro w
  set_option tactic.hygienic false in intros
  unfold Halt
  (with_reducible rename Mk _ => mk0)
  clear mk0
  (with_reducible rename Fr _ _ _ _ => FC14)
  (with_reducible rename News _ _ _ _ => NC14)
  (with_reducible rename PtF _ _ _ (paF p PP (ngF3 p (conj3 p PP))) => hB8)
  refine wpAny_mono (Q := Post12 h₀ L p PP dr os) ?hif14 ?rest14 (fun _ _ h => h)
  case hif14 =>
    have nB8 := hB8.noP
    by_cases hzB : (paF p PP (ngF3 p (conj3 p PP))).2.2 = (0, 0)
    · k_steps
      (with_reducible rename Fr _ _ _ _ => F8)
      (with_reducible rename News _ _ _ _ => N8)
      (with_reducible rename AllBare _ => G8)
      (with_reducible rename TabOk _ => T8)
      exact ⟨rfl, _, _, _, rfl, ⟨_, _, _, _, _, _, G8, T8, F8, rfl, rfl, hPt, hIm, News.sub N8 (by kd_subs)⟩⟩
    · have hNF : ∀ f s : Int × Int, f = mulF p (paF p PP (ngF3 p (conj3 p PP))).1 (invF p (paF p PP (ngF3 p (conj3 p PP))).2.2) → s = mulF p (paF p PP (ngF3 p (conj3 p PP))).2.1 (invF p (paF p PP (ngF3 p (conj3 p PP))).2.2) → f.2 = 0 ∧ s.1 = 0 := fun f s hf hs => ⟨by rw [hf]; exact hA.a1 hzB, by rw [hs]; exact hA.a2 hzB⟩
      have hzB' : (paF p PP (ngF3 p (conj3 p PP))).2.2 ≠ (0, 0) := hzB
      k_steps
      (with_reducible rename Fr _ _ _ _ => F8)
      (with_reducible rename News _ _ _ _ => N8)
      (with_reducible rename AllBare _ => G8)
      (with_reducible rename TabOk _ => T8)
      exact ⟨rfl, _, _, _, rfl, ⟨_, _, _, _, _, _, G8, T8, F8, rfl, rfl, hPt, hIm, News.sub N8 (by kd_subs)⟩⟩
  case rest14 =>
  rintro f s' ⟨rfl, h14, g14, tk14, rfl, S12⟩
  clear FC14 NC14 hB8 hPt hIm nPt nIm q1 q2
  obtain ⟨m12, oP12, vP, vI, lP, lI, G12, T12, F12, q1, q2, hPt, hIm, nPt, nIm, N12⟩ := S12.open_
  clear S12
  replace F12 := frB [("point", _), ("image", _)] (List.forall_mem_cons.mpr ⟨q1, List.forall_mem_cons.mpr ⟨q2, List.forall_mem_nil _⟩⟩) F12
  dsimp only [kstB] at F12
  dsimp only
  k_steps
  exact ⟨rfl, _, _, _, _, _, _, _, rfl, F12, N12, T12, G12⟩
theorem law_holds : PySem.Challenge.rw_bb0063_01.Holds := stage1.2 ⟨stage2.2 ⟨stage3.2 ⟨stage4.2 ⟨stage5.2 ⟨stage6.2 ⟨stage7.2 ⟨stage8.2 ⟨stage9.2 ⟨stage10.2 ⟨stage11.2 ⟨stage12.2 ⟨stage13.2 ⟨law_end14⟩⟩⟩⟩⟩⟩⟩⟩⟩⟩⟩⟩⟩
end

end Mine
end

theorem PySem.Challenge.cw_bb0063_01_holds : PySem.Challenge.rw_bb0063_01.Holds := by
  exact Mine.law_holds

import PyProof.Rows.All
import Wide.All
import OpenK.AllK
import Wide.FinOn
import PySem.Challenge.RW_mq0151_01
open PySem PySem.W PyProof.Rows
set_option Elab.async false

namespace Mine
section
set_option maxRecDepth 100000
set_option maxHeartbeats 8000000
open_top hd for PySem.Challenge.rw_mq0151_01
end
end Mine

namespace Mine
section
set_option maxRecDepth 100000

/-- a def of the text, called with vs from any frame that has room, gives back R and leaves frame and ledger as they were -/
abbrev Cl (r u : Nat) (w : World) (mean : ExcName → Option Value) (mg mb : Str → Option Value) (f : Addr) (news : List (Addr × Obj)) (pre : Prop) (vs : List Value) (R : Tok → Value) : Prop :=
  ∀ (dp un : Nat) (gd : Option (List Code)) (cn : Str) (cs : Scope) (a : Addr) (ccd : Value) (cl : List (Str × Addr)) (outer : List Env) (A₀ : Around) (base h₀ : Heap) (L : Addr) (m : Str → Option Value) (s : Shared) (Q E : Value → Shared → Prop),
    Below A₀ base outer h₀ → Fr h₀ L s.heap m → (hd.heap_39 w.params).In h₀ → News h₀ L s.heap news → Top hd.view_39 (looseW hd.view_39 [Str.ofString "_filemode_table"]) mean mg mb h₀ → cs.kind = .function →
    pre → dp + r < recursionLimit → un + u < cLine → CbRet h₀ L m news s Q R →
      wpAny (model PySem.Challenge.rw_mq0151_01.row.prog w) (ktrTop dp un gd cn cs L a ccd cl outer) (call (.ref f) vs) Q E s

def stepI (a : Int) : Int := if ¬ Builtin.bitAnd a 1 = 0 then Builtin.bitXor (a.fdiv (2 ^ Int.toNat 1)) 3988292384 else a.fdiv (2 ^ Int.toNat 1)
def genI (c : Int) : Int := List.foldl (fun a _ => stepI a) c (rangeKs 0 8)

set_option maxHeartbeats 4000000 in
theorem gen_claim (w mean mg mb) (news : List (Addr × Obj)) (n : Int) (t : Tok) : Cl 2 16 w mean mg mb 75 news True [.int n t] (fun t => .int (genI n) t) := by
  w_top off
  k_with_none
  k_with "exec For Name Call cons nil" => kpr_for
  k_with "pyIter ref" => (k_of "j" => kpr_short)
  k_with "tree" => (with_reducible show List.foldl _ _ _ = genI _; exact rfl)
  dsimp only [Cl, CbRet]
  k_fill
  intros
  rename_i hret
  refine wpAny_call ?_
  w_strict ((k_dflt cell_enter); k_steps; all_goals cb_end hret)

set_option maxHeartbeats 4000000 in
theorem ifmt_claim (w mean mg mb) (news : List (Addr × Obj)) (n : Int) (t : Tok) : Cl 2 16 w mean mg mb 28 news True [.int n t] (fun t => .int (Builtin.bitAnd n 61440) t) := by
  w_top off
  k_with_none
  dsimp only [Cl, CbRet]
  k_fill
  intros
  rename_i hret
  refine wpAny_call ?_
  w_strict ((k_dflt cell_enter); k_steps; all_goals cb_end hret)

set_option maxHeartbeats 4000000 in
theorem imode_claim (w mean mg mb) (news : List (Addr × Obj)) (n : Int) (t : Tok) : Cl 2 16 w mean mg mb 21 news True [.int n t] (fun t => .int (Builtin.bitAnd n 4095) t) := by
  w_top off
  k_with_none
  dsimp only [Cl, CbRet]
  k_fill
  intros
  rename_i hret
  refine wpAny_call ?_
  w_strict ((k_dflt cell_enter); k_steps; all_goals cb_end hret)
end
end Mine

namespace Mine
section
set_option maxRecDepth 100000

section
variable {prog : Program} {w : World} {A : Around} {E : Value → Shared → Prop} {s : Shared}

theorem nextOf_tup_item {it t : Addr} {i : Nat} {items} {x : Value} {Q : Value → Shared → Prop} (hit : s.heap.IsTupleIter it t i)
    (ht : s.heap.IsTuple t items) (hx : items[i]? = some x)
    (hQ : ∀ h', h'.IsTupleIter it t (i + 1) → Heap.SameBut it s.heap h' → Q x { s with heap := h' }) :
    wpAny (model prog w) A (Builtin.SmallTypes.nextOf (.ref it)) Q E s := by
  obtain ⟨o, ho, hc, hd⟩ := id hit
  obtain ⟨ol, hol, _, nl, hdl⟩ := ht
  unfold Builtin.SmallTypes.nextOf
  refine wpAny_bind (wpAny_callSpecial?_slot (name := Str.ofString "__next__") hit.typeIs F.slot_tuple_iterator_next
    (wpAny_call_entry F.slot_tuple_iterator_next hit.typeIs F.entry_tuple_iterator_next ?_ (F.args_tuple_iterator_next_1 _)))
  show wpAny _ _ (field (.ref it) 0 >>= _) _ _ s
  refine wpAny_bind (wpAny_field ho hd (x := .ref t) rfl ?_)
  show wpAny _ _ (if (Value.ref t == Value.none) = true then _ else _) _ _ s
  rw [if_neg (show ¬ ((Value.ref t == Value.none) = true) from Bool.false_ne_true)]
  show wpAny _ _ (field (.ref it) 1 >>= _) _ _ s
  refine wpAny_bind (wpAny_field ho hd (x := .int i 0) rfl ?_)
  show wpAny _ _ (seqItems? (.ref t) >>= _) _ _ s
  refine wpAny_bind (wpAny_seqItems hol hdl ?_)
  simp only [Int.toNat_natCast, hx]
  refine wpAny_bind (wpAny_setField ho hd (by simp) (wpAny_pure ⟨x, rfl, wpAny_pure (hQ _ ?_ (Heap.SameBut.update ..))⟩))
  exact ⟨_, Heap.get?_update_self _ ho (Obj.isFreed_of_fields (Obj.data_mapFields hd _)), (Obj.cls_mapFields ..).trans hc, by
    rw [Obj.data_mapFields hd]; simp [rawInt]⟩

theorem nextOf_tup_end {it t : Addr} {i : Nat} {items} {Q : Value → Shared → Prop} (hh : A.handled = none)
    (hit : s.heap.IsTupleIter it t i) (ht : s.heap.IsTuple t items) (hx : items[i]? = none)
    (hE : ∀ h' e, Heap.ExtBut it s.heap h' → (∃ o, h'.get? e = some o ∧ o.cls = .type "StopIteration") → E (.ref e) { s with heap := h' }) :
    wpAny (model prog w) A (Builtin.SmallTypes.nextOf (.ref it)) Q E s := by
  obtain ⟨o, ho, hc, hd⟩ := id hit
  obtain ⟨ol, hol, _, nl, hdl⟩ := ht
  unfold Builtin.SmallTypes.nextOf
  refine wpAny_bind (wpAny_callSpecial?_slot (name := Str.ofString "__next__") hit.typeIs F.slot_tuple_iterator_next
    (wpAny_call_entry F.slot_tuple_iterator_next hit.typeIs F.entry_tuple_iterator_next ?_ (F.args_tuple_iterator_next_1 _)))
  show wpAny _ _ (field (.ref it) 0 >>= _) _ _ s
  refine wpAny_bind (wpAny_field ho hd (x := .ref t) rfl ?_)
  show wpAny _ _ (if (Value.ref t == Value.none) = true then _ else _) _ _ s
  rw [if_neg (show ¬ ((Value.ref t == Value.none) = true) from Bool.false_ne_true)]
  show wpAny _ _ (field (.ref it) 1 >>= _) _ _ s
  refine wpAny_bind (wpAny_field ho hd (x := .int i 0) rfl ?_)
  show wpAny _ _ (seqItems? (.ref t) >>= _) _ _ s
  refine wpAny_bind (wpAny_seqItems hol hdl ?_)
  simp only [Int.toNat_natCast, hx]
  refine wpAny_bind (wpAny_rule (wpAny_bind (wpAny_setField ho hd (by simp) ?_)))
  show wpAny _ _ (newExc (.type "StopIteration") [] >>= _) _ _ _
  refine wpAny_bind ?_
  simp only [newExc, newTuple]
  refine wpAny_bind (wpAny_newObj_type ?_ (by size_fits))
  refine wpAny_bind (m := firstArgMember _ _) (wpAny_of_eq (a := Value.none) (by first | rfl | (simp only [firstArgMember]; rfl)) ?_)
  refine wpAny_newObj_type ?_ (by size_fits)
  simp only [raiseNew]
  refine wpAny_bind (wpAny_handled ?_)
  first | rw [show A.in1.handled = none from hh] | rw [hh]
  refine wpAny_bind (wpAny_pure (wpAny_throw ?_))
  exact hE _ _ (((Heap.SameBut.update ..).extBut.push _).push _) ⟨_, Heap.get?_push_size _ rfl, rfl⟩
end

theorem drawsTup {prog : Program} {w : World} {A : Around} (hh : A.handled = none) (it l : Addr) (hne : l ≠ it) (items : Array Value) :
    Draws prog w A it [it, l] items.size (fun i v => items[i]? = some v) (fun i h => h.IsTupleIter it l i ∧ h.IsTuple l items) where
  live := fun _ _ st => let ⟨o, ho, _⟩ := st.1; ⟨o, ho⟩
  frame := fun _ _ _ st hk => ⟨st.1.at fun o e => hk it (by simp) o e, st.2.at fun o e => hk l (by simp) o e⟩
  item := fun i s Q E hi st hQ => by
    refine nextOf_tup_item st.1 st.2 (x := items[i]) (by simp [hi]) fun h' hit' hs' => ?_
    exact hQ _ h' s.toks (by simp [hi]) ⟨hit', st.2.extBut hs'.extBut hne⟩ hs'
  done := fun s Q E st hE => nextOf_tup_end hh st.1 st.2 (by simp) hE

open AutoSeq1 (wpAny_loadPart') in
theorem meets_enum_tup (l : Addr) (items : Array Value) (n : Nat) (dct : Option Addr) (sl : Array (Option Value)) :
    Meets (Builtin.«enumerate.__new__» ⟨[.type "enumerate", .ref l], []⟩) (fun _ R s => s.heap.get? l = some { cls := .type "tuple", dict := dct, data := .seq items n, slots := sl } ∧
      R (.ok (.ret (.ref (s.heap.push { cls := .type "tuple_iterator", data := .fields #[.ref l, .int 0 0] }).objs.size)))
        { s with heap := (s.heap.push { cls := .type "tuple_iterator", data := .fields #[.ref l, .int 0 0] }).push { cls := .type "enumerate", data := .fields #[.none, .bool false, .ref s.heap.objs.size, rawInt 0, .none, .none] } }) :=
  .of_wp fun prog w A R s h => by
    obtain ⟨hp, g, d, tk, os⟩ := s; obtain ⟨hl, h⟩ := h
    have hsub := sub_enumerate
    have hL : Heap.IsTuple (Shared.heap ⟨hp, g, d, tk, os⟩) l items := ⟨_, hl, rfl, n, rfl⟩
    wp_walk using wpAny_loadPart' hl
    refine wpAny_stack_any fun st => wpAny_pure ?_
    split
    · rename_i c _ _ _ _ _
      cases (c == Value.type "enumerate")
      · wp_walk using wpAny_loadPart' hl, wpAny_pyIter_tuple hL
        exact ⟨_, rfl, h⟩
      · wp_walk using wpAny_loadPart' hl, wpAny_pyIter_tuple hL
        exact ⟨_, rfl, h⟩
    · wp_walk using wpAny_loadPart' hl, wpAny_pyIter_tuple hL
      exact ⟨_, rfl, h⟩
end
end Mine

namespace Mine
section
set_option maxRecDepth 100000

section
variable {prog : Program} {w : World} {A : Around} {E : Value → Shared → Prop} {s : Shared}

theorem call_enum_tup {l : Addr} {items : Array Value} {Q : Value → Shared → Prop} (hL : s.heap.IsTuple l items)
    (h : ∀ h', IsEnum h' (s.heap.objs.size + 1) s.heap.objs.size 0 .none → h'.IsTupleIter s.heap.objs.size l 0 → h'.objs.size = s.heap.objs.size + 2 →
      (∀ b o, s.heap.get? b = some o → h'.get? b = some o) → Q (.ref (s.heap.objs.size + 1)) { s with heap := h' }) :
    wpAny (model prog w) A (call (.type "enumerate") [.ref l]) Q E s := by
  obtain ⟨⟨c, dct, dt, sl⟩, hl, hc, n, hd⟩ := hL
  replace hc : c = .type "tuple" := hc
  replace hd : dt = .seq items n := hd
  subst hc hd
  refine callType_new F.called_enumerate (by decide) (F.typeCall_enumerate_1 _) (F.newCall_enumerate_1 _) (fun obj => F.args_object_init_2 obj _) F.entry_enumerate_new
    (meets_enum_tup l items n dct sl) ⟨hl, ?_⟩
  have hz : (s.heap.push { cls := .type "tuple_iterator", data := .fields #[.ref l, .int 0 0] }).objs.size = s.heap.objs.size + 1 := Heap.size_push ..
  show _ ∧ _
  rw [hz]
  have he : IsEnum ((s.heap.push { cls := .type "tuple_iterator", data := .fields #[.ref l, .int 0 0] }).push
      { cls := .type "enumerate", data := .fields #[.none, .bool false, .ref s.heap.objs.size, rawInt 0, .none, .none] }) (s.heap.objs.size + 1) s.heap.objs.size 0 .none := by
    have := Heap.get?_push_size (s.heap.push { cls := .type "tuple_iterator", data := .fields #[.ref l, .int 0 0] })
      (o := { cls := .type "enumerate", data := .fields #[.none, .bool false, .ref s.heap.objs.size, rawInt 0, .none, .none] }) rfl
    rw [hz] at this; exact this
  refine ⟨⟨_, he, rfl⟩, h _ he ⟨_, Heap.get?_push_of_some _ (Heap.get?_push_size _ rfl), rfl, rfl⟩ (by rw [Heap.size_push, hz]) fun b o x => Heap.get?_push_of_some _ (Heap.get?_push_of_some _ x)⟩
end

section
variable {prog : Program} {w : World} {A : Around} {E : Value → Shared → Prop} {s : Shared} {env : Env} {h₀ : Heap} {target : Expr} {body orelse : List Stmt} {Q : Flow → Shared → Prop} {K : Frag}

theorem enum_tupK {elts : List Expr} {k : Nat} {pos : Pos} {ax : Addr} {lo : Obj} {vs : List Value} {n : Nat} {m₀ : Str → Option Value} {news : List (Addr × Obj)}
    (hh : A.handled = none) (F : Fr h₀ env.locals s.heap m₀) (N : News h₀ env.locals s.heap news) (X₀ : K.In h₀) (hk : K.lookup ax = some lo) (hc : lo.cls = .type "tuple") (hd : lo.data = .seq vs.toArray n)
    (rest₀ : ∀ I : Addr, (∀ p ∈ news, p.1 < I) → ItemsRest prog w A E h₀ env (.Tuple elts k pos) body Q s [(I + 1, "enumerate"), (I, "tuple_iterator")] [] (enumItems 0 vs) m₀ news) :
    wpAny (model prog w) A (call (.type "enumerate") [.ref ax]) (fun xv s₁ => wpAny (model prog w) A (pyIter xv) (fun it s₂ => TurnsAt prog w A h₀ env (.Tuple elts k pos) body Q E it s₂) E s₁) E s := by
  have hg : h₀.get? ax = some lo := X₀ _ _ hk
  have hax : s.heap.get? ax = some lo := F.keep _ _ hg
  have hl : s.heap.IsTuple ax vs.toArray := ⟨lo, hax, hc, n, hd⟩
  have hlt : ax < s.heap.objs.size := Heap.lt_size hax
  have hLs : env.locals < s.heap.objs.size := F.ns.lt
  have hne : ax ≠ s.heap.objs.size := Nat.ne_of_lt hlt
  refine call_enum_tup hl fun h' hE hI hsz hkp => ?_
  refine wpAny_pyIter_enum hE ?_
  refine ktg_core (tk0 := s.toks) (keep := []) (KTurns.ofWalksU (WalksT.enumerateD (drawsTup (A := A.in1) hh s.heap.objs.size ax hne vs.toArray) (s.heap.objs.size + 1) (Nat.succ_ne_self _) ?_ (by simp)).toU) (by simp [enumItems_length]) ?_ ?_ ?_ ?_ ?_ ?_ ?_ ?_ (F.keeps hkp) (N.grown hkp) trivial (rest₀ _ fun p hp => Heap.lt_size (N p hp).1)
  · intro hm
    have hb' : s.heap.objs.size + 1 = s.heap.objs.size ∨ s.heap.objs.size + 1 = ax := by simpa using hm
    rcases hb' with e | e
    · exact absurd e (Nat.succ_ne_self _)
    · exact absurd e.symm (ktu_ne 1 hlt)
  · rintro i v h ⟨T, vals, rfl, ⟨t, x, hx, rfl⟩, hT⟩
    refine ⟨_, enumItems_get vs 0 i (v := x) (by simpa using hx), T, t, rfl, ?_⟩
    show IsTup h T #[.int ((0 + i : Nat) : Int) t, x]
    rw [Nat.zero_add]
    exact hT
  · rintro i h ⟨⟨old, he⟩, ⟨oi, hoi, hic, _⟩, _⟩
    have he' : ∃ oe : Obj, h.get? (s.heap.objs.size + 1) = some oe ∧ oe.cls = .type "enumerate" := ⟨_, he, rfl⟩
    obtain ⟨oe, h1, h2⟩ := he'
    refine ⟨[(s.heap.objs.size + 1, oe), (s.heap.objs.size, oi)], ⟨⟨rfl, h2⟩, ⟨rfl, hic⟩, trivial⟩, fun p hp => ?_⟩
    rcases List.mem_cons.mp hp with rfl | hp
    · exact h1
    · rw [List.mem_singleton.mp hp]; exact hoi
  · intro b hb
    have hb' : b = s.heap.objs.size + 1 ∨ b = s.heap.objs.size := by simpa using hb
    rcases hb' with rfl | rfl
    · exact ⟨by simp, ktu_new F (Nat.le_add_right _ _)⟩
    · exact ⟨by simp, ktu_new F (Nat.le_refl _)⟩
  · intro b hb
    simpa using hb
  · intro b hb
    have hb' : b = s.heap.objs.size + 1 ∨ b = s.heap.objs.size ∨ b = ax := by simpa using hb
    rcases hb' with rfl | rfl | rfl
    · exact .inl (by simp)
    · exact .inl (by simp)
    · exact .inr (.inr ⟨lo, hg⟩)
  · intro hI'
    have hb' : env.locals = s.heap.objs.size + 1 ∨ env.locals = s.heap.objs.size ∨ env.locals = ax := by simpa using hI'
    rcases hb' with e | e | e
    · exact ktu_ne 1 hLs e
    · exact Nat.ne_of_lt hLs e
    · exact absurd (Heap.lt_size hg) (Nat.not_lt.mpr (e ▸ F.above))
  · intro p hp hI'
    have hb' : p.1 = s.heap.objs.size + 1 ∨ p.1 = s.heap.objs.size := by simpa using hI'
    have hlp := Heap.lt_size (N p hp).1
    rcases hb' with e | e
    · exact ktu_ne 1 hlp e
    · exact Nat.ne_of_lt hlp e
  · exact ⟨⟨.none, hE⟩, hI, hl.at fun o e => hkp ax o e⟩

/-- an unrolled loop, cut between two turns -/
theorem items_cut {ws : List (Addr × String)} {keep : List (Addr × Obj)} {a : Itm} {r : List Itm} {J J' : (Str → Option Value) → List (Addr × Obj) → Prop}
    (turn : ∀ m news, J m news → ∀ v h tk, a.Is v h → Fr h₀ env.locals h m → AllObj ws (fun its => News h₀ env.locals h (its ++ news) →
      wpAny (model prog w) A (assign target env v) (fun _ s₂ => wpAny (model prog w) A (execs body env) (UnrPostW h₀ env.locals { s with heap := h, toks := tk } its (fun m' n' => SubL keep n' ∧ J' m' n') Q) E s₂) E { s with heap := h, toks := tk }))
    (rest : ∀ m news, J' m news → ItemsRest prog w A E h₀ env target body Q s ws keep r m news) :
    ∀ m news, J m news → ItemsRest prog w A E h₀ env target body Q s ws keep (a :: r) m news := by
  intro m news hJ v h tk ha F
  have up : ∀ (ws : List (Addr × String)) (k k' : List (Addr × Obj) → Prop), (∀ its, k its → k' its) → AllObj ws k → AllObj ws k' := by
    intro ws
    induction ws with
    | nil => intro k k' hk x; exact hk _ x
    | cons w r ih => intro k k' hk x o ho; exact ih _ _ (fun its => hk _) (x o ho)
  refine up _ _ _ (fun its x N => ?_) (turn m news hJ v h tk ha F)
  refine wpAny_mono (x N) (fun _ s₂ y => wpAny_mono y (fun f s₃ z => ?_) fun _ _ e => e) fun _ _ e => e
  have fin : UnrEndW h₀ env.locals { s with heap := h, toks := tk } its (fun m' n' => SubL keep n' ∧ J' m' n') s₃ →
      UnrEndW h₀ env.locals { s with heap := h, toks := tk } its (fun m' n' => SubL keep n' ∧ ItemsRest prog w A E h₀ env target body Q s ws keep r m' n') s₃ := by
    rintro ⟨h', tk', m', n', e, F', N', ho, hk', j⟩
    exact ⟨h', tk', m', n', e, F', N', ho, hk', rest _ _ j⟩
  cases f with
  | ret v => exact z
  | brk => exact z
  | next => exact fin z
  | cont => exact fin z
end
end
end Mine

namespace Mine
section
set_option maxRecDepth 100000

section
variable {prog : Program} {w : World} {A : Around} {E : Value → Shared → Prop} {s : Shared} {env : Env} {h₀ : Heap} {target : Expr} {body orelse : List Stmt} {Q : Flow → Shared → Prop} {K : Frag}

/-- the turns still to come of a for with an else, over a tuple -/
def ElseRest (prog : Program) (w : World) (A : Around) (E : Value → Shared → Prop) (h₀ : Heap) (env : Env) (target : Expr) (body orelse : List Stmt) (Q : Flow → Shared → Prop) (s : Shared) (I : Addr) : List Value → (Str → Option Value) → List (Addr × Obj) → Prop
  | [], m, news => ∀ h tk, Fr h₀ env.locals h m → News h₀ env.locals h news → wpAny (model prog w) A (execs orelse env) Q E { s with heap := h, toks := tk }
  | v :: r, m, news => ∀ h tk o, Fr h₀ env.locals h m → o.cls = .type "tuple_iterator" → News h₀ env.locals h ((I, o) :: news) →
      wpAny (model prog w) A (assign target env v) (fun _ s₂ => wpAny (model prog w) A (execs body env) (UnrPostW h₀ env.locals { s with heap := h, toks := tk } [(I, o)] (ElseRest prog w A E h₀ env target body orelse Q s I r) Q) E s₂) E { s with heap := h, toks := tk }

def ElseAt (prog : Program) (w : World) (A : Around) (env : Env) (target : Expr) (body orelse : List Stmt) (Q : Flow → Shared → Prop) (E : Value → Shared → Prop) (it : Value) (s₂ : Shared) : Prop :=
  codeAny (model prog w) A (.forLoop target it body orelse env) (fun r s' => match r with | .ok f => Q f s' | .error e => cameBackBy (model prog w) A env E e s') s₂

theorem else_cons {v : Value} {r : List Value} {I : Addr} {m : Str → Option Value} {news : List (Addr × Obj)}
    (h : ∀ h tk o, Fr h₀ env.locals h m → o.cls = .type "tuple_iterator" → News h₀ env.locals h ((I, o) :: news) →
      wpAny (model prog w) A (assign target env v) (fun _ s₂ => wpAny (model prog w) A (execs body env) (UnrPostW h₀ env.locals { s with heap := h, toks := tk } [(I, o)] (ElseRest prog w A E h₀ env target body orelse Q s I r) Q) E s₂) E { s with heap := h, toks := tk }) :
    ElseRest prog w A E h₀ env target body orelse Q s I (v :: r) m news := h
theorem else_nil {I : Addr} {m : Str → Option Value} {news : List (Addr × Obj)}
    (h : ∀ h tk, Fr h₀ env.locals h m → News h₀ env.locals h news → wpAny (model prog w) A (execs orelse env) Q E { s with heap := h, toks := tk }) :
    ElseRest prog w A E h₀ env target body orelse Q s I [] m news := h
theorem else_end {L I : Addr} {o : Obj} {s₁ : Shared} {rest : (Str → Option Value) → List (Addr × Obj) → Prop} {h' : Heap} {tk : Nat} {m' : Str → Option Value} {news' : List (Addr × Obj)}
    (F : Fr h₀ L h' m') (N : News h₀ L h' ((I, o) :: news')) (off : ∀ p ∈ news', p.1 < I) (r : rest m' news') : UnrEndW h₀ L s₁ [(I, o)] rest { s₁ with heap := h', toks := tk } :=
  ⟨h', tk, m', news', rfl, F, N, fun p hp q hq => by rw [List.mem_singleton.mp hq]; exact Nat.ne_of_lt (off p hp), r⟩

theorem else_tupK {ax : Addr} {lo : Obj} {vs : List Value} {n : Nat} {m₀ : Str → Option Value} {news : List (Addr × Obj)}
    (hh : A.handled = none) (F : Fr h₀ env.locals s.heap m₀) (N : News h₀ env.locals s.heap news) (X₀ : K.In h₀) (hk : K.lookup ax = some lo) (hc : lo.cls = .type "tuple") (hd : lo.data = .seq vs.toArray n)
    (rest₀ : ∀ I : Addr, (∀ p ∈ news, p.1 < I) → ElseRest prog w A E h₀ env target body orelse Q s I vs m₀ news) (hE : PassesOwn (model prog w) A env E) :
    wpAny (model prog w) A (pyIter (.ref ax)) (fun it s₂ => ElseAt prog w A env target body orelse Q E it s₂) E s := by
  unfold ElseAt
  have hg : h₀.get? ax = some lo := X₀ _ _ hk
  have hax : s.heap.get? ax = some lo := F.keep _ _ hg
  have hl : s.heap.IsTuple ax vs.toArray := ⟨lo, hax, hc, n, hd⟩
  have hlt : ax < s.heap.objs.size := Heap.lt_size hax
  have hLs : env.locals < s.heap.objs.size := F.ns.lt
  have hnew : h₀.get? s.heap.objs.size = none := ktu_new F (Nat.le_refl _)
  refine wpAny_pyIter_tuple hl ?_
  refine codeAny_forLoop_any (fun k s' => ∃ h tk m news i, s' = { s with heap := h, toks := tk } ∧ h.IsTupleIter s.heap.objs.size ax i ∧ Fr h₀ env.locals h m ∧ News h₀ env.locals h news ∧ (∀ p ∈ news, p.1 ≠ s.heap.objs.size) ∧
    ElseRest prog w A E h₀ env target body orelse Q s s.heap.objs.size (vs.drop i) m news ∧ k = vs.length - i) ?_ (vs.length - 0)
    ⟨s.heap.push { cls := .type "tuple_iterator", data := .fields #[.ref ax, .int 0 0] }, s.toks, m₀, news, 0, rfl, ⟨_, Heap.get?_push_size _ rfl, rfl, rfl⟩, F.push _, fun p hp => ⟨Heap.get?_push_of_some _ (N p hp).1, (N p hp).2⟩, fun p hp => Nat.ne_of_lt (Heap.lt_size (N p hp).1), rest₀ _ fun p hp => Heap.lt_size (N p hp).1, rfl⟩
  rintro k s' ⟨h, tk, m, nw, i, rfl, hit, F', N', hoff, R, rfl⟩
  have keepF : ∀ h₁ : Heap, Heap.ExtBut s.heap.objs.size h h₁ → Fr h₀ env.locals h₁ m ∧ News h₀ env.locals h₁ nw := fun h₁ hk₁ =>
    ⟨⟨F'.ns.at' fun o e => hk₁ _ o (Nat.ne_of_lt hLs) e, fun b o e => hk₁ b o (fun q => by rw [q, hnew] at e; cases e) (F'.keep b o e), F'.above⟩, fun p hp => ⟨hk₁ _ _ (hoff p hp) (N' p hp).1, (N' p hp).2⟩⟩
  have ht : h.IsTuple ax vs.toArray := ⟨lo, F'.keep _ _ hg, hc, n, hd⟩
  by_cases hlt' : i < vs.length
  · have hx : vs.toArray[i]? = some vs[i] := by simp [hlt']
    rw [List.drop_eq_getElem_cons hlt'] at R
    refine wpAny_pyNext_tuple_item hit ht hx fun h₁ hit₁ hs₁ => ?_
    refine letGo_tupleiter hit₁ ?_
    obtain ⟨F₁, N₁⟩ := keepF h₁ hs₁.extBut
    obtain ⟨o, ho, hoc, hod⟩ := id hit₁
    have N₂ : News h₀ env.locals h₁ ((s.heap.objs.size, o) :: nw) := fun p hp => by
      rcases List.mem_cons.mp hp with rfl | hp
      · exact ⟨ho, (Nat.ne_of_lt hLs).symm, hnew⟩
      · exact N₁ p hp
    refine wpAny_mono (R h₁ tk o F₁ hoc N₂) (fun _ s₂ h₂ => wpAny_passesOwn hE (wpAny_mono h₂ (fun f s₃ z => ?_) fun _ _ e => e)) hE
    have fin : UnrEndW h₀ env.locals { s with heap := h₁, toks := tk } [(s.heap.objs.size, o)] (ElseRest prog w A E h₀ env target body orelse Q s s.heap.objs.size (vs.drop (i + 1))) s₃ →
        ∃ m_1, m_1 < vs.length - i ∧ ∃ h tk m news i, s₃ = { s with heap := h, toks := tk } ∧ h.IsTupleIter s.heap.objs.size ax i ∧ Fr h₀ env.locals h m ∧ News h₀ env.locals h news ∧ (∀ p ∈ news, p.1 ≠ s.heap.objs.size) ∧
          ElseRest prog w A E h₀ env target body orelse Q s s.heap.objs.size (vs.drop i) m news ∧ m_1 = vs.length - i := by
      rintro ⟨h₃, tk₃, m₃, n₃, e, F₃, N₃, hoff₃, R₃⟩
      refine ⟨vs.length - (i + 1), by omega, h₃, tk₃, m₃, n₃, i + 1, e, ⟨o, (N₃ (s.heap.objs.size, o) (by simp)).1, hoc, hod⟩, F₃, fun p hp => N₃ p (by simp [hp]), fun p hp => hoff₃ p hp (s.heap.objs.size, o) (by simp), R₃, rfl⟩
    cases f with
    | ret v => exact z
    | brk => exact z
    | next => exact fin z
    | cont => exact fin z
  · have hx : vs.toArray[i]? = none := by simp; omega
    rw [List.drop_eq_nil_of_le (Nat.not_lt.mp hlt')] at R
    refine wpAny_pyNext_tuple_end hh hit ht hx fun h₁ he₁ => ?_
    obtain ⟨F₁, N₁⟩ := keepF h₁ he₁
    exact wpAny_passesOwn hE (R h₁ tk F₁ N₁)

theorem For_else {iter : Expr} {pos : Pos}
    (h : wpAny (model prog w) A (eval iter env) (fun xv s₁ => wpAny (model prog w) A (pyIter xv) (fun it s₂ => ElseAt prog w A env target body orelse Q E it s₂) E s₁) E s)
    (hs : ∀ x, foldedSetIterable iter env x = pure x := by intro _; rfl) :
    wpAny (model prog w) A (exec (.For target iter body orelse pos) env) Q E s := wpAny_For h hs
end
end
end Mine

namespace Mine
section
set_option maxRecDepth 100000

section
variable {prog : Program} {w : World} {A : Around} {E : Value → Shared → Prop} {s : Shared} {env : Env} {h₀ : Heap} {target : Expr} {body orelse : List Stmt} {Q : Flow → Shared → Prop} {K : Frag}

def FmRest (prog : Program) (w : World) (A : Around) (E : Value → Shared → Prop) (h₀ : Heap) (env : Env) (target : Expr) (body : List Stmt) (Q : Flow → Shared → Prop) (s : Shared) (ws : List (Addr × String)) (xs : List Itm) (m : Str → Option Value) (news : List (Addr × Obj)) : Prop :=
  ItemsRest prog w A E h₀ env target body Q s ws [] xs m news

theorem enum_tupF {elts : List Expr} {k : Nat} {pos : Pos} {ax : Addr} {lo : Obj} {vs : List Value} {n : Nat} {m₀ : Str → Option Value} {news : List (Addr × Obj)}
    (hh : A.handled = none) (F : Fr h₀ env.locals s.heap m₀) (N : News h₀ env.locals s.heap news) (X₀ : K.In h₀) (hk : K.lookup ax = some lo) (hc : lo.cls = .type "tuple") (hd : lo.data = .seq vs.toArray n)
    (rest₀ : ∀ I : Addr, (∀ p ∈ news, p.1 < I) → FmRest prog w A E h₀ env (.Tuple elts k pos) body Q s [(I + 1, "enumerate"), (I, "tuple_iterator")] (enumItems 0 vs) m₀ news) :
    wpAny (model prog w) A (call (.type "enumerate") [.ref ax]) (fun xv s₁ => wpAny (model prog w) A (pyIter xv) (fun it s₂ => TurnsAt prog w A h₀ env (.Tuple elts k pos) body Q E it s₂) E s₁) E s :=
  enum_tupK hh F N X₀ hk hc hd rest₀

/-- between two turns: the signs so far -/
def PermJ (n : Int) (t : Tok) (l : Addr) (news₀ : List (Addr × Obj)) (cs : List Str) (m : Str → Option Value) (news : List (Addr × Obj)) : Prop :=
  ∃ vs k, news = (l, W.listOf vs.toArray k) :: news₀ ∧ StrsAre vs cs ∧ m (Str.ofString "mode") = some (.int n t) ∧ m (Str.ofString "perm") = some (.ref l)

theorem perm_fr {L : Addr} {h : Heap} {m : Str → Option Value} {a b : Value} (F : Fr h₀ L h m) (h1 : m (Str.ofString "mode") = some a) (h2 : m (Str.ofString "perm") = some b) :
    Fr h₀ L h (fun y => if y = Str.ofString "mode" then some a else if y = Str.ofString "perm" then some b else m y) := by
  have e : (fun y => if y = Str.ofString "mode" then some a else if y = Str.ofString "perm" then some b else m y) = m := by
    funext y
    by_cases e1 : y = Str.ofString "mode"
    · rw [if_pos e1, e1, h1]
    · rw [if_neg e1]
      by_cases e2 : y = Str.ofString "perm"
      · rw [if_pos e2, e2, h2]
      · rw [if_neg e2]
  rw [e]
  exact F

/-- one turn: it puts one more sign behind -/
def FmTurn (prog : Program) (w : World) (A : Around) (E : Value → Shared → Prop) (h₀ : Heap) (env : Env) (target : Expr) (body : List Stmt) (Q : Flow → Shared → Prop) (s : Shared) (I : Addr) (n : Int) (t : Tok) (l : Addr) (news₀ : List (Addr × Obj)) (i : Int) (x : Value) (c : Str) : Prop :=
  ∀ cs vs k (u : Str → Option Value) T t' h tk oe oi, cs.length ≤ 10 → StrsAre vs cs → IsTup h T #[.int i t', x] →
      Fr h₀ env.locals h (fun y => if y = Str.ofString "mode" then some (.int n t) else if y = Str.ofString "perm" then some (.ref l) else u y) → oe.cls = .type "enumerate" → oi.cls = .type "tuple_iterator" →
      News h₀ env.locals h ((I + 1, oe) :: (I, oi) :: (l, W.listOf vs.toArray k) :: news₀) →
      wpAny (model prog w) A (assign target env (.ref T)) (fun _ s₂ => wpAny (model prog w) A (execs body env) (UnrPostW h₀ env.locals { s with heap := h, toks := tk } [(I + 1, oe), (I, oi)] (fun m' n' => SubL [] n' ∧ PermJ n t l news₀ (cs ++ [c]) m' n') Q) E s₂) E { s with heap := h, toks := tk }

theorem fm_turn {n : Int} {t : Tok} {l : Addr} {news₀ : List (Addr × Obj)} {cs : List Str} {i : Int} {x : Value} {c : Str} {I : Addr} (hcs : cs.length ≤ 10)
    (h : FmTurn prog w A E h₀ env target body Q s I n t l news₀ i x c) :
    ∀ m news, PermJ n t l news₀ cs m news → ∀ v h tk, (Itm.pair (fun t => .int i t) x).Is v h → Fr h₀ env.locals h m → AllObj [(I + 1, "enumerate"), (I, "tuple_iterator")] (fun its => News h₀ env.locals h (its ++ news) →
      wpAny (model prog w) A (assign target env v) (fun _ s₂ => wpAny (model prog w) A (execs body env) (UnrPostW h₀ env.locals { s with heap := h, toks := tk } its (fun m' n' => SubL [] n' ∧ PermJ n t l news₀ (cs ++ [c]) m' n') Q) E s₂) E { s with heap := h, toks := tk }) := by
  rintro m news ⟨vs, k, rfl, hS, h1, h2⟩ v hp tk ⟨T, t', rfl, hT⟩ F oe he oi hi N
  exact h cs vs k m T t' hp tk oe oi hcs hS hT (perm_fr F h1 h2) he hi N

theorem upd_at {D : Addr} {o o' : Obj} {news : List (Addr × Obj)} (h : ∀ p ∈ news, p.1 < D) : Upd D o o' ((D, o) :: news) ((D, o') :: news) := Upd.head fun p hp => Nat.ne_of_lt (h p hp)
theorem append_L {L D : Addr} {m : Str → Option Value} {news news' : List (Addr × Obj)} {vs : List Value} {cs : List Str} {k : Nat} {x : Value} {Q : Value → Shared → Prop} (F : Fr h₀ L s.heap m) (N : News h₀ L s.heap news) (hS : StrsAre vs cs) (hz : cs.length ≤ 10)
    (U : Upd D (W.listOf vs.toArray k) (W.listOf (vs ++ [x]).toArray (k + 1)) news news')
    (h : ∀ h', Fr h₀ L h' m → News h₀ L h' news' → Q .none { s with heap := h' }) : wpAny (model prog w) A (call (.builtin "list.append") [.ref D, x]) Q E s := by
  have e : vs.toArray.push x = (vs ++ [x]).toArray := by simp
  rw [← e] at U
  exact append_K F N U h (by have hl := hS.length; rw [sizeLine_eq, List.size_toArray]; omega)

theorem allLt_at {d : Addr} : ∀ {l : List (Addr × Obj)}, AllLt d l → ∀ p ∈ l, p.1 < d
  | [], _, p, hp => nomatch hp
  | q :: r, h, p, hp => by
    rcases List.mem_cons.mp hp with rfl | hp
    · exact h.1
    · exact allLt_at h.2 p hp

theorem fm_end {n : Int} {t : Tok} {l I : Addr} {news₀ nw : List (Addr × Obj)} {cs : List Str} {vs : List Value} {k : Nat} {c c' : Str} {t' : Tok} {oe oi : Obj} {L : Addr} {s₁ : Shared} {h' : Heap} {tk : Nat} {m' : Str → Option Value}
    (F : Fr h₀ L h' m') (N : News h₀ L h' nw) (hsub : ∀ p ∈ (I + 1, oe) :: (I, oi) :: (l, W.listOf (vs ++ [Value.str c' t']).toArray k) :: news₀, p ∈ nw) (hlt : l < I ∧ AllLt I news₀)
    (hS : StrsAre vs cs) (hc : c' = c) (h1 : m' (Str.ofString "mode") = some (.int n t)) (h2 : m' (Str.ofString "perm") = some (.ref l)) :
    UnrEndW h₀ L s₁ [(I + 1, oe), (I, oi)] (fun m' n' => SubL [] n' ∧ PermJ n t l news₀ (cs ++ [c]) m' n') { s₁ with heap := h', toks := tk } := by
  subst hc
  refine ⟨h', tk, m', (l, W.listOf (vs ++ [Value.str c' t']).toArray k) :: news₀, rfl, F, fun p hp => N p (hsub p hp), ?_, trivial, _, _, rfl, StrsAre.append' hS (.cons _ _ .nil), h1, h2⟩
  have lt : ∀ p ∈ (l, W.listOf (vs ++ [Value.str c' t']).toArray k) :: news₀, p.1 < I := by
    intro p hp
    rcases List.mem_cons.mp hp with rfl | hp
    · exact hlt.1
    · exact allLt_at hlt.2 p hp
  intro p hp q hq
  have := lt p hp
  rcases List.mem_cons.mp hq with rfl | hq
  · exact Nat.ne_of_lt (Nat.lt_succ_of_lt this)
  · rw [List.mem_singleton.mp hq]
    exact Nat.ne_of_lt this

theorem fm_end2 {n : Int} {t : Tok} {l I : Addr} {news₀ : List (Addr × Obj)} {cs : List Str} {vs : List Value} {k : Nat} {c c' : Str} {t' : Tok} {oe oi : Obj} {L : Addr} {s₁ : Shared} {h' : Heap} {tk : Nat} {m' : Str → Option Value}
    (F : Fr h₀ L h' m') (N : News h₀ L h' ((I + 1, oe) :: (I, oi) :: (l, W.listOf (vs ++ [Value.str c' t']).toArray k) :: news₀)) (hlt : l < I ∧ AllLt I news₀)
    (hS : StrsAre vs cs) (hc : c' = c) (h1 : m' (Str.ofString "mode") = some (.int n t)) (h2 : m' (Str.ofString "perm") = some (.ref l)) :
    UnrEndW h₀ L s₁ [(I + 1, oe), (I, oi)] (fun m' n' => SubL [] n' ∧ PermJ n t l news₀ (cs ++ [c]) m' n') { s₁ with heap := h', toks := tk } :=
  fm_end F N (fun _ hp => hp) hlt hS hc h1 h2
theorem fm_end3 {n : Int} {t : Tok} {l I : Addr} {q : Addr × Obj} {news₀ : List (Addr × Obj)} {cs : List Str} {vs : List Value} {k : Nat} {c c' : Str} {t' : Tok} {oe oi : Obj} {L : Addr} {s₁ : Shared} {h' : Heap} {tk : Nat} {m' : Str → Option Value}
    (F : Fr h₀ L h' m') (N : News h₀ L h' (q :: (I + 1, oe) :: (I, oi) :: (l, W.listOf (vs ++ [Value.str c' t']).toArray k) :: news₀)) (hlt : l < I ∧ AllLt I news₀)
    (hS : StrsAre vs cs) (hc : c' = c) (h1 : m' (Str.ofString "mode") = some (.int n t)) (h2 : m' (Str.ofString "perm") = some (.ref l)) :
    UnrEndW h₀ L s₁ [(I + 1, oe), (I, oi)] (fun m' n' => SubL [] n' ∧ PermJ n t l news₀ (cs ++ [c]) m' n') { s₁ with heap := h', toks := tk } :=
  fm_end F N (fun _ hp => List.mem_cons_of_mem _ hp) hlt hS hc h1 h2

/-- all ten turns -/
theorem fm_items {n : Int} {t : Tok} {l : Addr} {news₀ : List (Addr × Obj)} {I : Addr} {m₀ : Str → Option Value} {x0 x1 x2 x3 x4 x5 x6 x7 x8 x9 : Value} {c0 c1 c2 c3 c4 c5 c6 c7 c8 c9 : Str}
    (h1 : m₀ (Str.ofString "mode") = some (.int n t)) (h2 : m₀ (Str.ofString "perm") = some (.ref l))
    (t0 : FmTurn prog w A E h₀ env target body Q s I n t l news₀ 0 x0 c0)
    (t1 : FmTurn prog w A E h₀ env target body Q s I n t l news₀ 1 x1 c1)
    (t2 : FmTurn prog w A E h₀ env target body Q s I n t l news₀ 2 x2 c2)
    (t3 : FmTurn prog w A E h₀ env target body Q s I n t l news₀ 3 x3 c3)
    (t4 : FmTurn prog w A E h₀ env target body Q s I n t l news₀ 4 x4 c4)
    (t5 : FmTurn prog w A E h₀ env target body Q s I n t l news₀ 5 x5 c5)
    (t6 : FmTurn prog w A E h₀ env target body Q s I n t l news₀ 6 x6 c6)
    (t7 : FmTurn prog w A E h₀ env target body Q s I n t l news₀ 7 x7 c7)
    (t8 : FmTurn prog w A E h₀ env target body Q s I n t l news₀ 8 x8 c8)
    (t9 : FmTurn prog w A E h₀ env target body Q s I n t l news₀ 9 x9 c9)
    (fin : ∀ vs k (u : Str → Option Value) h tk, StrsAre vs [c0, c1, c2, c3, c4, c5, c6, c7, c8, c9] →
      Fr h₀ env.locals h (fun y => if y = Str.ofString "mode" then some (.int n t) else if y = Str.ofString "perm" then some (.ref l) else u y) → News h₀ env.locals h ((l, W.listOf vs.toArray k) :: news₀) → Q .next { s with heap := h, toks := tk }) :
    FmRest prog w A E h₀ env target body Q s [(I + 1, "enumerate"), (I, "tuple_iterator")] (enumItems 0 [x0, x1, x2, x3, x4, x5, x6, x7, x8, x9]) m₀ ((l, W.listOf #[] 0) :: news₀) := by
  refine items_cut (fm_turn (by simp) t0) (items_cut (fm_turn (by simp) t1) (items_cut (fm_turn (by simp) t2) (items_cut (fm_turn (by simp) t3) (items_cut (fm_turn (by simp) t4) (items_cut (fm_turn (by simp) t5) (items_cut (fm_turn (by simp) t6) (items_cut (fm_turn (by simp) t7) (items_cut (fm_turn (by simp) t8) (items_cut (fm_turn (by simp) t9) ?_))))))))) _ _ ⟨[], 0, rfl, .nil, h1, h2⟩
  rintro m news ⟨vs, k, rfl, hS, h1, h2⟩ h tk F N
  exact fin vs k m h tk hS (perm_fr F h1 h2) N
end
end
end Mine

namespace Mine
section
set_option maxRecDepth 100000

def ch0 (n : Int) : Str := if Builtin.bitAnd n 61440 = 40960 then Str.ofString "l" else if Builtin.bitAnd n 61440 = 49152 then Str.ofString "s" else if Builtin.bitAnd n 61440 = 32768 then Str.ofString "-" else if Builtin.bitAnd n 61440 = 24576 then Str.ofString "b" else if Builtin.bitAnd n 61440 = 16384 then Str.ofString "d" else if Builtin.bitAnd n 61440 = 8192 then Str.ofString "c" else if Builtin.bitAnd n 61440 = 4096 then Str.ofString "p" else Str.ofString "?"
def ch1 (n b : Int) (y : Str) : Str := if Builtin.bitAnd n b = b then y else Str.ofString "-"
def ch3 (n b1 b2 b3 : Int) (y1 y2 : Str) : Str := if Builtin.bitAnd n b1 = b1 then y1 else if Builtin.bitAnd n b2 = b2 then y2 else if Builtin.bitAnd n b3 = b3 then Str.ofString "x" else Str.ofString "-"

def kd0 (n : Int) : Nat := if Builtin.bitAnd n 61440 = 40960 then 108 else if Builtin.bitAnd n 61440 = 49152 then 115 else if Builtin.bitAnd n 61440 = 32768 then 45 else if Builtin.bitAnd n 61440 = 24576 then 98 else if Builtin.bitAnd n 61440 = 16384 then 100 else if Builtin.bitAnd n 61440 = 8192 then 99 else if Builtin.bitAnd n 61440 = 4096 then 112 else 63
def kd1 (n b : Int) (y : Nat) : Nat := if Builtin.bitAnd n b = b then y else 45
def kd3 (n b1 b2 b3 : Int) (y1 y2 : Nat) : Nat := if Builtin.bitAnd n b1 = b1 then y1 else if Builtin.bitAnd n b2 = b2 then y2 else if Builtin.bitAnd n b3 = b3 then 120 else 45

theorem ch0_eq (n : Int) : ch0 n = ⟨#[kd0 n]⟩ := by unfold ch0 kd0; (repeat' split) <;> rfl
theorem ch1_eq (n b : Int) (y : Nat) : ch1 n b ⟨#[y]⟩ = ⟨#[kd1 n b y]⟩ := by unfold ch1 kd1; (repeat' split) <;> rfl
theorem ch3_eq (n b1 b2 b3 : Int) (y1 y2 : Nat) : ch3 n b1 b2 b3 ⟨#[y1]⟩ ⟨#[y2]⟩ = ⟨#[kd3 n b1 b2 b3 y1 y2]⟩ := by unfold ch3 kd3; (repeat' split) <;> rfl

def chs (n : Int) : List Str := [ch0 n, ch1 n 256 (Str.ofString "r"), ch1 n 128 (Str.ofString "w"), ch3 n 2112 2048 64 (Str.ofString "s") (Str.ofString "S"), ch1 n 32 (Str.ofString "r"), ch1 n 16 (Str.ofString "w"), ch3 n 1032 1024 8 (Str.ofString "s") (Str.ofString "S"), ch1 n 4 (Str.ofString "r"), ch1 n 2 (Str.ofString "w"), ch3 n 513 512 1 (Str.ofString "t") (Str.ofString "T")]
def ten (a0 a1 a2 a3 a4 a5 a6 a7 a8 a9 : Nat) : Str := ⟨#[a0, a1, a2, a3, a4, a5, a6, a7, a8, a9]⟩
def fmodeS (n : Int) : Str := ten (kd0 n) (kd1 n 256 114) (kd1 n 128 119) (kd3 n 2112 2048 64 115 83) (kd1 n 32 114) (kd1 n 16 119) (kd3 n 1032 1024 8 115 83) (kd1 n 4 114) (kd1 n 2 119) (kd3 n 513 512 1 116 84)

theorem chs_eq (n : Int) : chs n = [⟨#[kd0 n]⟩, ⟨#[kd1 n 256 114]⟩, ⟨#[kd1 n 128 119]⟩, ⟨#[kd3 n 2112 2048 64 115 83]⟩, ⟨#[kd1 n 32 114]⟩, ⟨#[kd1 n 16 119]⟩, ⟨#[kd3 n 1032 1024 8 115 83]⟩, ⟨#[kd1 n 4 114]⟩, ⟨#[kd1 n 2 119]⟩, ⟨#[kd3 n 513 512 1 116 84]⟩] := by
  unfold chs
  rw [ch0_eq, show Str.ofString "r" = ⟨#[114]⟩ from rfl, show Str.ofString "w" = ⟨#[119]⟩ from rfl, show Str.ofString "s" = ⟨#[115]⟩ from rfl, show Str.ofString "S" = ⟨#[83]⟩ from rfl, show Str.ofString "t" = ⟨#[116]⟩ from rfl, show Str.ofString "T" = ⟨#[84]⟩ from rfl]
  simp only [ch1_eq, ch3_eq]
theorem join_eq (n : Int) : Txt.join (Str.ofString "") (chs n) = fmodeS n := by
  rw [chs_eq]
  rfl

section
variable {prog : Program} {w : World} {A : Around} {E : Value → Shared → Prop} {s : Shared} {h₀ : Heap}
theorem fm_join {L l : Addr} {vs : List Value} {k : Nat} {news : List (Addr × Obj)} {n : Int} {t : Tok} {Q : Value → Shared → Prop} (N : News h₀ L s.heap ((l, W.listOf vs.toArray k) :: news)) (hS : StrsAre vs (chs n))
    (h : ∀ t' k, Q (.str (fmodeS n) t') { s with toks := k }) : wpAny (model prog w) A (call (.builtin "str.join") [.str (Str.ofString "") t, .ref l]) Q E s := by
  have hl : s.heap.IsList l vs.toArray := ⟨_, (N _ (.head _)).1, rfl, _, rfl⟩
  refine join_list hl hS (by rw [chs_eq]; exact (show (10 : Nat) + 10 * 0 ≤ 16777216 from by decide)) ?_
  rw [join_eq]
  exact h
end
end
end Mine

namespace Mine
section
set_option maxRecDepth 100000

local macro_rules | `(tactic| walk_at "exec For Tuple Call cons nil") => `(tactic| (k_here; (rename Fr _ _ _ _ => lF'); (with_unfolding_all refine' For_turns lF' ?_; k_whole)))
local macro_rules | `(tactic| walk_at "call type:enumerate") => `(tactic| (k_here; (with_reducible show wpAny _ _ (call (Value.type _) [Value.ref _]) (fun xv s₁ => wpAny _ _ (pyIter xv) (fun it s₂ => TurnsAt _ _ _ _ _ _ _ _ _ it s₂) _ s₁) _ _); (with_unfolding_all refine' enum_tupF ?h ?F ?N ?X ?k ?c ?d ?_; (case h => with_unfolding_all rfl); (case F => k_asm); (case N => k_asm); (case X => k_asm); (case k => k_is); (case c => exact rfl); (case d => exact rfl); k_whole); intro i' l1; (try k_lt l1)))

local macro_rules | `(tactic| walk_at "exec For Tuple Name cons cons") => `(tactic| (k_here; (with_unfolding_all refine' For_else ?_; k_whole)))
local macro_rules | `(tactic| walk_at "pyIter ref") => `(tactic| (k_here; (with_reducible show wpAny _ _ (pyIter (Value.ref _)) (fun it s₂ => ElseAt _ _ _ _ _ _ _ _ _ it s₂) _ _); (with_unfolding_all refine' else_tupK ?h ?F ?N ?X ?k ?c ?d ?_ ?e; (case h => with_unfolding_all rfl); (case F => k_asm); (case N => k_asm); (case X => k_asm); (case k => k_is); (case c => exact rfl); (case d => exact rfl); (case e => passes_own); k_whole); intro i' l1; (have l0 := l1); (try k_lt l1)))
local macro_rules | `(tactic| walk_at "ElseRest") => `(tactic| first
  | (refine else_cons (fun h' tk' o' F' hc' N' => ?_))
  | (refine else_nil (fun h' tk' F' N' => ?_)))
local macro_rules | `(tactic| walk_at "call builtin:list.append") => `(tactic| (k_here; (with_reducible show wpAny _ _ (call (Value.builtin _) [Value.ref _, Value.str _ _]) _ _ _); k_dflt (refine' append_L ?k1 ?k2 ?k3 ?k4 ?k5 ?_; (case k1 => k_asm); (case k2 => k_asm); (case k3 => assumption); (case k4 => assumption); (case k5 => first | exact Upd.tail (by k_ne) (Upd.tail (by k_ne) (Upd.tail (by k_ne) (upd_at (by assumption)))) | exact Upd.tail (by k_ne) (Upd.tail (by k_ne) (upd_at (by assumption)))); k_whole); intro h' F' N'; (try k_sweep)))
local macro_rules | `(tactic| walk_at "UnrEndW") => `(tactic| first
  | k_dflt (refine' else_end ?eF ?eN ?eO ?_; (case eF => k_asm); (case eN => k_asm); (case eO => assumption))
  | k_dflt ((first | (refine' fm_end3 ?eF ?eN ?eL ?eS ?eC ?eM ?eP; (case eF => k_asm); (case eN => k_asm)) | (refine' fm_end2 ?eF ?eN ?eL ?eS ?eC ?eM ?eP; (case eF => k_asm); (case eN => k_asm))); (case eL => assumption); (case eS => assumption); (case eC => simp_all [ch0, ch1, ch3]); (case eM => with_unfolding_all rfl); (case eP => with_unfolding_all rfl)))

local macro_rules | `(tactic| walk_at "call ref") => `(tactic| (k_here; (with_reducible show wpAny _ _ (call (Value.ref 28) [Value.int _ _]) _ _ _); k_dflt (refine' ifmt_claim _ _ _ _ _ _ _ _ _ _ _ _ _ _ _ _ _ _ _ _ _ _ _ _ ?cB ?cF ?cK ?cN ?cT ?cC ?cP ?cD ?cU ?_; (case cB => k_asm); (case cF => k_asm); (case cK => k_asm); (case cN => k_asm); (case cT => k_asm); (case cC => first | exact rfl | assumption); (case cP => trivial); (case cD => first | ktr_room | omega); (case cU => first | ktr_units | omega)); intro t9 h9 tk9 F9 N9; (try dsimp only); (try k_fold)))

local macro_rules | `(tactic| walk_at "call builtin:str.join") => `(tactic| (k_here; k_dflt (refine' fm_join ?jN ?jS ?_; (case jN => k_asm); (case jS => assumption)); intro t9 k9))

set_option maxHeartbeats 4000000 in
theorem fm_claim (w mean mg mb) (news : List (Addr × Obj)) (n : Int) (t : Tok) : Cl 5 48 w mean mg mb 68 news True [.int n t] (fun t => .str (fmodeS n) t) := by
  w_top off
  k_with_none
  dsimp only [Cl, CbRet]
  k_fill
  intros
  rename_i hret
  refine wpAny_call ?_
  w_strict ((k_dflt cell_enter); k_steps)
  refine fm_items (n := n) (t := t) (c0 := ch0 n) (c1 := ch1 n 256 (Str.ofString "r")) (c2 := ch1 n 128 (Str.ofString "w")) (c3 := ch3 n 2112 2048 64 (Str.ofString "s") (Str.ofString "S")) (c4 := ch1 n 32 (Str.ofString "r")) (c5 := ch1 n 16 (Str.ofString "w")) (c6 := ch3 n 1032 1024 8 (Str.ofString "s") (Str.ofString "S")) (c7 := ch1 n 4 (Str.ofString "r")) (c8 := ch1 n 2 (Str.ofString "w")) (c9 := ch3 n 513 512 1 (Str.ofString "t") (Str.ofString "T")) (by with_unfolding_all rfl) (by with_unfolding_all rfl) ?t0 ?t1 ?t2 ?t3 ?t4 ?t5 ?t6 ?t7 ?t8 ?t9 ?fin
  case fin =>
    intro vs' k' u' h' tk' hS' F' N'
    dsimp only
    w_strict (k_steps; all_goals cb_end hret)
  all_goals (intro cs' vs' k' u' T' t' h' tk' oe' oi' hz' hS' hT' F' he' hi' N'; w_strict (k_steps))
end
end Mine

namespace Mine
section
set_option maxRecDepth 100000
section
variable {a0 a1 a2 a3 a4 a5 a6 a7 a8 a9 : Nat} {p q : Int}
theorem cut0 (e1 : p = 1) (e2 : q = 4) : (Txt.slice (ten a0 a1 a2 a3 a4 a5 a6 a7 a8 a9) (some p) (some q)).cps = #[a1, a2, a3] := by subst e1 e2; rfl
theorem cut1 (e1 : p = 4) (e2 : q = 7) : (Txt.slice (ten a0 a1 a2 a3 a4 a5 a6 a7 a8 a9) (some p) (some q)).cps = #[a4, a5, a6] := by subst e1 e2; rfl
theorem cut2 (e1 : p = 7) (e2 : q = 10) : (Txt.slice (ten a0 a1 a2 a3 a4 a5 a6 a7 a8 a9) (some p) (some q)).cps = #[a7, a8, a9] := by subst e1 e2; rfl
end
section
variable {prog : Program} {w : World} {A : Around} {E : Value → Shared → Prop} {s : Shared} {env : Env} {h₀ : Heap} {L : Addr} {m : Str → Option Value} {news : List (Addr × Obj)} {elts : List Expr} {k : Nat} {pos : Pos}

theorem sign_at {b0 b1 b2 : Nat} {x : Str} {i c : Nat} {v : Value} (hx : x.cps = #[b0, b1, b2]) (hc : #[b0, b1, b2][i]? = some c) (h : SignAt x i v) : ∃ u, v = .str ⟨#[c]⟩ u := by
  obtain ⟨c', u, h1, rfl⟩ := h
  rw [hx, hc] at h1
  cases h1
  exact ⟨u, rfl⟩

/-- three targets from a text of three signs -/
theorem unpack3 {x : Str} {t : Tok} {b0 b1 b2 : Nat} {Q : Unit → Shared → Prop} (F : Fr h₀ L s.heap m) (N : News h₀ L s.heap news) (hx : x.cps = #[b0, b1, b2]) (hh : A.handled = none)
    (hn : (assignEach elts env).length = 3) (hstar : (assignEach elts env).findIdx? (·.1) = none)
    (h : ∀ h' tk u0 u1 u2, Fr h₀ L h' m → News h₀ L h' news → wpAny (model prog w) A (assignInOrder ((assignEach elts env).map (·.2)) [.str ⟨#[b0]⟩ u0, .str ⟨#[b1]⟩ u1, .str ⟨#[b2]⟩ u2]) Q E { s with heap := h', toks := tk }) :
    wpAny (model prog w) A (assign (.Tuple elts k pos) env (.str x t)) Q E s := by
  rw [assign_Tuple]
  refine wpAny_bind (wpAny_standAt ?_)
  unfold unpack
  rw [hn, hstar]
  refine wpAny_bind (wpAny_holding ?_)
  unfold unpackItems
  refine wpAny_bind ?_
  unfold notIterableAtAll
  refine wpAny_bind (wpAny_specialOf (typeIs_str s x t) PySem.F.slot_str_iter.lookup ?_)
  refine wpAny_pure ?_
  simp only [Bool.false_eq_true, if_false]
  refine wpAny_bind (wpAny_holding (wpAny_pyIter_str fun o St W st => ?_))
  have W := W A hh
  have hz : x.cps.size = 3 := by rw [hx]; rfl
  have up : ∀ h h' : Heap, (∀ b o, b ∉ [s.heap.objs.size] → h.get? b = some o → h'.get? b = some o) → Fr h₀ L h m ∧ News h₀ L h news → Fr h₀ L h' m ∧ News h₀ L h' news := fun h h' hk q =>
    have ext : Heap.ExtBut s.heap.objs.size h h' := fun b o hb e => hk b o (by simpa using hb) e
    have hnew : h₀.get? s.heap.objs.size = none := ktu_new F (Nat.le_refl _)
    ⟨⟨q.1.ns.at' fun o e => ext _ o (Nat.ne_of_lt F.ns.lt) e, fun b o e => ext b o (fun r => by rw [r, hnew] at e; cases e) (q.1.keep b o e), q.1.above⟩, fun p hp => ⟨ext _ _ (fun r => absurd (Heap.lt_size (N p hp).1) (by rw [r]; exact Nat.lt_irrefl _)) (q.2 p hp).1, (q.2 p hp).2⟩⟩
  have q0 : Fr h₀ L (s.heap.push o) m ∧ News h₀ L (s.heap.push o) news := ⟨F.push _, fun p hp => ⟨Heap.get?_push_of_some _ (N p hp).1, (N p hp).2⟩⟩
  refine wpAny_bind (wpAny_holding ?_)
  show wpAny _ _ (pyNext _ >>= _) _ _ _
  refine wpAny_bind (W.item 0 _ _ _ (by omega) st fun v0 h1 tk1 hv0 st1 hk1 => ?_)
  refine wpAny_bind (wpAny_holding ?_)
  show wpAny _ _ (pyNext _ >>= _) _ _ _
  refine wpAny_bind (W.item 1 _ _ _ (by omega) st1 fun v1 h2 tk2 hv1 st2 hk2 => ?_)
  refine wpAny_bind (wpAny_holding ?_)
  show wpAny _ _ (pyNext _ >>= _) _ _ _
  refine wpAny_bind (W.item 2 _ _ _ (by omega) st2 fun v2 h3 tk3 hv2 st3 hk3 => ?_)
  refine wpAny_bind (wpAny_holding ?_)
  show wpAny _ _ (pure []) _ _ _
  refine wpAny_pure (wpAny_pure (wpAny_pure (wpAny_pure ?_)))
  obtain ⟨u0, rfl⟩ := sign_at hx (c := b0) rfl hv0
  obtain ⟨u1, rfl⟩ := sign_at hx (c := b1) rfl hv1
  obtain ⟨u2, rfl⟩ := sign_at hx (c := b2) rfl hv2
  rw [if_neg (by simp)]
  refine wpAny_bind (wpAny_holding (W.done _ _ _ (by rw [hz]; exact st3) fun h4 tk4 hk4 => ?_))
  simp only [Option.isSome_none, Bool.false_eq_true, if_false]
  have q4 := up _ _ hk4 (up _ _ hk3 (up _ _ hk2 (up _ _ hk1 q0)))
  exact wpAny_pure (h h4 tk4 u0 u1 u2 q4.1 q4.2)
theorem unr_end {I : Addr} {it : Obj} {s₁ : Shared} {rest : (Str → Option Value) → List (Addr × Obj) → Prop} {h' : Heap} {tk : Nat} {m' : Str → Option Value} {news' : List (Addr × Obj)}
    (F : Fr h₀ L h' m') (N : News h₀ L h' ((I, it) :: news')) (off : ∀ p ∈ news', p.1 < I) (r : rest m' news') : UnrEnd h₀ L s₁ I it rest { s₁ with heap := h', toks := tk } :=
  ⟨h', tk, m', news', rfl, F, N, fun p hp => Nat.ne_of_lt (off p hp), r⟩
end
end
end Mine

namespace Mine
section
set_option maxRecDepth 100000
def fig (r w x : Nat) : Int := ((4 * if ((⟨#[r]⟩ : Str) == Str.ofString "r") = true then 1 else 0) + 2 * if ((⟨#[w]⟩ : Str) == Str.ofString "w") = true then 1 else 0) + if (!(Builtin.Str.occurrences (Str.ofString "xst") ⟨#[x]⟩ 0 (Str.ofString "xst").length 1).isEmpty) = true then 1 else 0
def spc (x : Nat) : Int := if (!(Builtin.Str.occurrences (Str.ofString "sStT") ⟨#[x]⟩ 0 (Str.ofString "sStT").length 1).isEmpty) = true then 1 else 0
def readI (a1 a2 a3 a4 a5 a6 a7 a8 a9 : Nat) : Int :=
  0 + fig a1 a2 a3 * 8 ^ (2 - (0 + ((0 : Nat) : Int))).toNat + (spc a3 * 2048).fdiv (2 ^ (0 + ((0 : Nat) : Int)).toNat)
    + fig a4 a5 a6 * 8 ^ (2 - (0 + ((0 + 1 : Nat) : Int))).toNat + (spc a6 * 2048).fdiv (2 ^ (0 + ((0 + 1 : Nat) : Int)).toNat)
    + fig a7 a8 a9 * 8 ^ (2 - (0 + ((0 + 1 + 1 : Nat) : Int))).toNat + (spc a9 * 2048).fdiv (2 ^ (0 + ((0 + 1 + 1 : Nat) : Int)).toNat)
local macro_rules | `(tactic| walk_at "assign Tuple") => `(tactic| (k_here; (with_reducible show wpAny _ _ (assign (Expr.Tuple _ _ _) _ (Value.str _ _)) _ _ _); k_dflt (refine' unpack3 ?uF ?uN ?uX ?uH ?uL ?uS ?_; (case uF => k_asm); (case uN => k_asm); (case uX => first | exact cut0 (by decide) (by decide) | exact cut1 (by decide) (by decide) | exact cut2 (by decide) (by decide)); (case uH => exact rfl); (case uL => exact rfl); (case uS => exact rfl)); intro h' tk' t1' t2' t3' F' N'; (try k_sweep)))
local macro_rules | `(tactic| walk_at "UnrEnd") => `(tactic| k_dflt (refine' unr_end ?eF ?eN ?eO ?_; (case eF => k_asm); (case eN => k_asm); (case eO => assumption)))
set_option maxHeartbeats 4000000 in
theorem read_claim (w mean mg mb) (news : List (Addr × Obj)) (a0 a1 a2 a3 a4 a5 a6 a7 a8 a9 : Nat) (t : Tok) : Cl 2 16 w mean mg mb 82 news True [.str (ten a0 a1 a2 a3 a4 a5 a6 a7 a8 a9) t] (fun t => .int (readI a1 a2 a3 a4 a5 a6 a7 a8 a9) t) := by
  w_top off
  k_with_none
  k_with "tree" => (with_reducible show _ = readI _ _ _ _ _ _ _ _ _; unfold readI fig spc; with_reducible rfl)
  dsimp only [Cl, CbRet]
  k_fill
  intros
  rename_i hret
  refine wpAny_call ?_
  w_strict ((k_dflt cell_enter); k_steps; all_goals cb_end hret)
end
end Mine

namespace Mine
section
set_option maxRecDepth 100000

def it (f : Int) : Nat → Int
  | 0 => f
  | n + 1 => genI (it f n)
def crcRow (f : Int) (n : Nat) : List Int := (List.range (n + 1)).map (it f)

/-! over the naturals -/
def sN (n : Nat) : Nat := (n >>> 1) ^^^ (if n.testBit 0 then 3988292384 else 0)
def gN (n : Nat) : Nat := sN (sN (sN (sN (sN (sN (sN (sN n)))))))
def iN (n : Nat) : Nat → Nat
  | 0 => n
  | k + 1 => gN (iN n k)

theorem xor4 (a b c d : Nat) : (a ^^^ b) ^^^ (c ^^^ d) = (a ^^^ c) ^^^ (b ^^^ d) := by
  apply Nat.eq_of_testBit_eq
  intro i
  simp only [Nat.testBit_xor]
  cases a.testBit i <;> cases b.testBit i <;> cases c.testBit i <;> cases d.testBit i <;> rfl
theorem sN_xor (a b : Nat) : sN (a ^^^ b) = sN a ^^^ sN b := by
  unfold sN
  rw [Nat.shiftRight_xor_distrib, Nat.testBit_xor, xor4]
  congr 1
  cases a.testBit 0 <;> cases b.testBit 0 <;> decide
theorem gN_xor (a b : Nat) : gN (a ^^^ b) = gN a ^^^ gN b := by unfold gN; simp only [sN_xor]
theorem iN_xor (a b k : Nat) : iN (a ^^^ b) k = iN a k ^^^ iN b k := by
  induction k with
  | zero => rfl
  | succ k ih => unfold iN; rw [ih, gN_xor]
theorem sN_lt {n : Nat} (h : n < 4294967296) : sN n < 4294967296 := by
  unfold sN
  refine Nat.xor_lt_two_pow (n := 32) ?_ ?_
  · rw [Nat.shiftRight_eq_div_pow]; omega
  · split <;> decide
theorem gN_lt {n : Nat} (h : n < 4294967296) : gN n < 4294967296 := sN_lt (sN_lt (sN_lt (sN_lt (sN_lt (sN_lt (sN_lt (sN_lt h)))))))
theorem iN_lt {n : Nat} (h : n < 4294967296) (k : Nat) : iN n k < 4294967296 := by
  induction k with
  | zero => exact h
  | succ k ih => exact gN_lt ih
theorem iN_add (n j k : Nat) : iN n (j + k) = iN (iN n j) k := by
  induction k with
  | zero => rfl
  | succ k ih => show gN (iN n (j + k)) = gN (iN (iN n j) k); rw [ih]

def ks : List Nat := [0, 1, 2, 4, 5, 7, 8, 10, 11, 12, 16, 22, 23, 26]
def foldX (g : Nat → Nat) : Nat := ks.foldl (fun a k => a ^^^ g k) 0
theorem foldl_xor (g h : Nat → Nat) : ∀ (l : List Nat) (a b : Nat), l.foldl (fun a k => a ^^^ (g k ^^^ h k)) (a ^^^ b) = l.foldl (fun a k => a ^^^ g k) a ^^^ l.foldl (fun a k => a ^^^ h k) b
  | [], _, _ => rfl
  | k :: r, a, b => by
    show r.foldl _ ((a ^^^ b) ^^^ (g k ^^^ h k)) = _
    have e : (a ^^^ b) ^^^ (g k ^^^ h k) = (a ^^^ g k) ^^^ (b ^^^ h k) := xor4 _ _ _ _
    rw [e, foldl_xor g h r]
    rfl
def Good (n : Nat) : Prop := iN n 32 = foldX (iN n)
theorem Good.xor {a b : Nat} (ha : Good a) (hb : Good b) : Good (a ^^^ b) := by
  unfold Good foldX at *
  have e : iN (a ^^^ b) = fun k => iN a k ^^^ iN b k := funext fun k => iN_xor a b k
  rw [iN_xor, ha, hb, e]
  exact (foldl_xor (iN a) (iN b) ks 0 0).symm
def goodB (n : Nat) : Bool := iN n 32 == foldX (iN n)
theorem good_of {n : Nat} (h : goodB n = true) : Good n := by simpa [goodB, Good] using h
theorem basis : ∀ i, i < 32 → Good (2 ^ i) := by
  have h : ∀ i : Fin 32, goodB (2 ^ i.val) = true := by decide +kernel
  exact fun i hi => good_of (h ⟨i, hi⟩)
theorem good_zero : Good 0 := good_of (by decide +kernel)
theorem good_below : ∀ k, k ≤ 32 → ∀ n, n < 2 ^ k → Good n
  | 0, _, n, h => by
    have e : n = 0 := by simpa using h
    rw [e]; exact good_zero
  | k + 1, hk, n, h => by
    by_cases hb : n < 2 ^ k
    · exact good_below k (by omega) n hb
    · have hp : 2 ^ (k + 1) = 2 ^ k + 2 ^ k := by rw [Nat.pow_succ]; omega
      have hr : n - 2 ^ k < 2 ^ k := by omega
      have e : n = 2 ^ k ^^^ (n - 2 ^ k) := by
        have h1 : 2 ^ k + (n - 2 ^ k) = 2 ^ k ||| (n - 2 ^ k) := by
          have := Nat.two_pow_add_eq_or_of_lt (i := k) hr 1
          simpa using this
        have h3 : 2 ^ k ^^^ (n - 2 ^ k) = 2 ^ k ||| (n - 2 ^ k) := by
          apply Nat.eq_of_testBit_eq
          intro i
          rw [Nat.testBit_xor, Nat.testBit_or]
          by_cases hi : k = i
          · subst hi
            rw [Nat.testBit_lt_two_pow hr]; simp
          · rw [Nat.testBit_two_pow_of_ne hi]; simp
        omega
      rw [e]
      exact Good.xor (basis k (by omega)) (good_below k (by omega) _ hr)
end
end Mine

namespace Mine
section
set_option maxRecDepth 100000

theorem xor_add_and (a : Nat) : ∀ b : Nat, (a ^^^ b) + 2 * (a &&& b) = a + b := by
  induction a using Nat.strongRecOn with
  | ind a ih =>
    intro b
    by_cases h0 : a = 0
    · subst h0; simp
    · have h := ih (a / 2) (by omega) (b / 2)
      have h1 : (a ^^^ b) / 2 = a / 2 ^^^ b / 2 := Nat.xor_div_two
      have h2 : (a ^^^ b) % 2 = 1 ↔ ¬ (a % 2 = 1 ↔ b % 2 = 1) := Nat.xor_mod_two_eq_one
      have h3 : (a &&& b) / 2 = a / 2 &&& b / 2 := Nat.and_div_two
      have h4 : (a &&& b) % 2 = 1 ↔ a % 2 = 1 ∧ b % 2 = 1 := Nat.and_mod_two_eq_one
      omega
theorem bitAnd_nn (a b : Nat) : Builtin.bitAnd (a : Int) (b : Int) = ((a &&& b : Nat) : Int) := by
  rw [bitAnd_pp (Int.natCast_nonneg a) (Int.natCast_nonneg b)]; simp
theorem bitXor_nn (a b : Nat) : Builtin.bitXor (a : Int) (b : Int) = ((a ^^^ b : Nat) : Int) := by
  rw [bitXor_and, bitAnd_nn]
  have := xor_add_and a b
  omega
theorem stepI_nn (n : Nat) : stepI (n : Int) = ((sN n : Nat) : Int) := by
  have e1 : Builtin.bitAnd (n : Int) 1 = ((n % 2 : Nat) : Int) := by
    have := bitAnd_nn n 1
    rw [Nat.and_one_is_mod] at this
    exact this
  have e2 : (n : Int).fdiv (2 ^ Int.toNat 1) = ((n >>> 1 : Nat) : Int) := by
    rw [Nat.shiftRight_eq_div_pow]
    show (n : Int).fdiv 2 = ((n / 2 : Nat) : Int)
    rw [Int.fdiv_eq_ediv_of_nonneg _ (by decide)]
    omega
  have e3 : n.testBit 0 = decide (n % 2 = 1) := Nat.testBit_zero n
  unfold stepI sN
  rw [e1, e2, e3]
  by_cases h : n % 2 = 1
  · rw [if_pos (by omega), decide_eq_true h]
    exact bitXor_nn (n >>> 1) 3988292384
  · have h0 : n % 2 = 0 := by omega
    rw [if_neg (by omega), decide_eq_false h]
    simp
theorem genI_nn (n : Nat) : genI (n : Int) = ((gN n : Nat) : Int) := by
  have e : genI (n : Int) = stepI (stepI (stepI (stepI (stepI (stepI (stepI (stepI n))))))) := rfl
  rw [e]
  simp only [stepI_nn]
  rfl
theorem it_nn (n k : Nat) : it (n : Int) k = ((iN n k : Nat) : Int) := by
  induction k with
  | zero => rfl
  | succ k ih => show genI (it n k) = _; rw [ih, genI_nn]; rfl
theorem it_bnd {f : Int} (h0 : 0 ≤ f) (h1 : f < 4294967296) (k : Nat) : 0 ≤ it f k ∧ it f k < 4294967296 := by
  obtain ⟨n, rfl⟩ := Int.eq_ofNat_of_zero_le h0
  rw [it_nn]
  have := iN_lt (n := n) (by omega) k
  omega
theorem row_bnd {f M : Int} {n : Nat} {row : List Int} (h0 : 0 ≤ f) (h1 : f < 4294967296) (e : row = crcRow f n) (hm : M ∈ row) : 0 ≤ M ∧ M < 4294967296 := by
  subst e
  obtain ⟨k, _, rfl⟩ := List.mem_map.mp hm
  exact it_bnd h0 h1 k
theorem it_add (f : Int) (j k : Nat) : it f (j + k) = it (it f j) k := by
  induction k with
  | zero => rfl
  | succ k ih => show genI (it f (j + k)) = genI (it (it f j) k); rw [ih]

/-- the recurrence, with the exclusive ors written out as the loop makes them -/
def odd (g : Nat → Int) (t : Nat) : Int := ks.foldl (fun a k => Builtin.bitXor a (g (t + k))) 0
theorem fold_nn (g : Nat → Nat) (t : Nat) : ∀ (l : List Nat) (a : Nat), l.foldl (fun a k => Builtin.bitXor a ((g (t + k) : Nat) : Int)) (a : Int) = ((l.foldl (fun a k => a ^^^ g (t + k)) a : Nat) : Int)
  | [], _ => rfl
  | k :: r, a => by
    show r.foldl _ (Builtin.bitXor (a : Int) ((g (t + k) : Nat) : Int)) = _
    rw [bitXor_nn, fold_nn g t r]
    rfl
theorem row_odd {f : Int} (h0 : 0 ≤ f) (h1 : f < 4294967296) (t : Nat) : it f (t + 32) = odd (it f) t := by
  obtain ⟨n, rfl⟩ := Int.eq_ofNat_of_zero_le h0
  have e : it (n : Int) = fun k => ((iN n k : Nat) : Int) := funext fun k => it_nn n k
  unfold odd
  rw [e]
  have h := good_below 32 (by decide) (iN n t) (iN_lt (by omega) t)
  unfold Good foldX at h
  have h' := fold_nn (iN n) t ks 0
  rw [show ((0 : Nat) : Int) = 0 from rfl] at h'
  rw [h']
  have e2 : (fun (a k : Nat) => a ^^^ iN n (t + k)) = fun a k => a ^^^ iN (iN n t) k := by
    funext a k; rw [iN_add]
  rw [e2, ← h, ← iN_add]
theorem and_fold (g : Nat → Nat) (b t : Nat) : ∀ (l : List Nat) (a : Nat), l.foldl (fun a k => a ^^^ (g (t + k) &&& b)) (a &&& b) = (l.foldl (fun a k => a ^^^ g (t + k)) a) &&& b
  | [], _ => rfl
  | k :: r, a => by
    show r.foldl _ ((a &&& b) ^^^ (g (t + k) &&& b)) = _
    rw [← Nat.and_xor_distrib_right, and_fold g b t r]
    rfl
theorem mask_odd {f : Int} (b : Nat) (h0 : 0 ≤ f) (h1 : f < 4294967296) (t : Nat) : Builtin.bitAnd (it f (t + 32)) (b : Int) = odd (fun k => Builtin.bitAnd (it f k) (b : Int)) t := by
  rw [row_odd h0 h1]
  obtain ⟨n, rfl⟩ := Int.eq_ofNat_of_zero_le h0
  have e : (fun k => Builtin.bitAnd (it (n : Int) k) (b : Int)) = fun k => ((iN n k &&& b : Nat) : Int) := funext fun k => by rw [it_nn, bitAnd_nn]
  have e' : it (n : Int) = fun k => ((iN n k : Nat) : Int) := funext fun k => it_nn n k
  unfold odd
  rw [e, e']
  have h1' := fold_nn (iN n) t ks 0
  have h2' := fold_nn (fun k => iN n k &&& b) t ks 0
  rw [show ((0 : Nat) : Int) = 0 from rfl] at h1' h2'
  rw [h1', h2', bitAnd_nn]
  have := and_fold (iN n) b t ks 0
  rw [Nat.zero_and] at this
  rw [this]
end
end Mine

namespace Mine
section
set_option maxRecDepth 100000

theorem fig_val (P Q X1 X2 X3 : Prop) [Decidable P] [Decidable Q] [Decidable X1] [Decidable X2] [Decidable X3] (y1 y2 : Nat) (hy : y1 = 115 ∧ y2 = 83 ∨ y1 = 116 ∧ y2 = 84) :
    fig (if P then 114 else 45) (if Q then 119 else 45) (if X1 then y1 else if X2 then y2 else if X3 then 120 else 45) = 4 * (if P then 1 else 0) + 2 * (if Q then 1 else 0) + (if X1 then 1 else if X2 then 0 else if X3 then 1 else 0) := by
  rcases hy with ⟨rfl, rfl⟩ | ⟨rfl, rfl⟩ <;> by_cases h1 : P <;> by_cases h2 : Q <;> by_cases h3 : X1 <;> by_cases h4 : X2 <;> by_cases h5 : X3 <;> simp only [h1, h2, h3, h4, h5, if_true, if_false] <;> decide +kernel
theorem spc_val (X1 X2 X3 : Prop) [Decidable X1] [Decidable X2] [Decidable X3] (y1 y2 : Nat) (hy : y1 = 115 ∧ y2 = 83 ∨ y1 = 116 ∧ y2 = 84) :
    spc (if X1 then y1 else if X2 then y2 else if X3 then 120 else 45) = if X1 then 1 else if X2 then 1 else 0 := by
  rcases hy with ⟨rfl, rfl⟩ | ⟨rfl, rfl⟩ <;> by_cases h3 : X1 <;> by_cases h4 : X2 <;> by_cases h5 : X3 <;> simp only [h3, h4, h5, if_true, if_false] <;> decide +kernel

theorem bit_iff (n i : Nat) : (Builtin.bitAnd (n : Int) ((2 ^ i : Nat) : Int) = ((2 ^ i : Nat) : Int)) ↔ n / 2 ^ i % 2 = 1 := by
  rw [bitAnd_nn, kbt_nat]
  have hp : 0 < 2 ^ i := Nat.two_pow_pos i
  have h2 : n / 2 ^ i % 2 = 0 ∨ n / 2 ^ i % 2 = 1 := by omega
  rcases h2 with h | h
  · rw [h, Nat.zero_mul]
    constructor
    · intro e
      have := Int.ofNat_inj.mp e
      omega
    · intro e
      cases e
  · rw [h]; simp
theorem two_iff (n i j : Nat) (hij : i ≠ j) : (Builtin.bitAnd (n : Int) ((2 ^ i ^^^ 2 ^ j : Nat) : Int) = ((2 ^ i ^^^ 2 ^ j : Nat) : Int)) ↔ (n / 2 ^ i % 2 = 1 ∧ n / 2 ^ j % 2 = 1) := by
  rw [bitAnd_nn, Nat.and_xor_distrib_left, kbt_nat, kbt_nat]
  have h2 : n / 2 ^ i % 2 = 0 ∨ n / 2 ^ i % 2 = 1 := by omega
  have h3 : n / 2 ^ j % 2 = 0 ∨ n / 2 ^ j % 2 = 1 := by omega
  have key : ∀ a b : Nat, (a = 0 ∨ a = 2 ^ i) → (b = 0 ∨ b = 2 ^ j) → a ^^^ b = 2 ^ i ^^^ 2 ^ j → a = 2 ^ i ∧ b = 2 ^ j := by
    intro a b ha hb e
    have ei := congrArg (fun x => Nat.testBit x i) e
    have ej := congrArg (fun x => Nat.testBit x j) e
    simp only [Nat.testBit_xor, Nat.testBit_two_pow_self, Nat.testBit_two_pow_of_ne hij, Nat.testBit_two_pow_of_ne hij.symm] at ei ej
    rcases ha with rfl | rfl <;> rcases hb with rfl | rfl
    · simp at ei
    · simp [Nat.testBit_two_pow_of_ne hij.symm] at ei
    · simp [Nat.testBit_two_pow_of_ne hij] at ej
    · exact ⟨rfl, rfl⟩
  have pi : 0 < 2 ^ i := Nat.two_pow_pos i
  have pj : 0 < 2 ^ j := Nat.two_pow_pos j
  constructor
  · intro e
    have e' := Int.ofNat_inj.mp e
    have := key _ _ (by rcases h2 with h | h <;> simp [h]) (by rcases h3 with h | h <;> simp [h]) e'
    rcases h2 with h | h <;> rcases h3 with h' | h' <;> simp [h, h'] at this ⊢ <;> omega
  · rintro ⟨h, h'⟩
    rw [h, h']; simp

theorem b0 (n : Nat) : (Builtin.bitAnd (n : Int) 1 = 1) ↔ n / 1 % 2 = 1 := bit_iff n 0
theorem b1 (n : Nat) : (Builtin.bitAnd (n : Int) 2 = 2) ↔ n / 2 % 2 = 1 := bit_iff n 1
theorem b2 (n : Nat) : (Builtin.bitAnd (n : Int) 4 = 4) ↔ n / 4 % 2 = 1 := bit_iff n 2
theorem b3 (n : Nat) : (Builtin.bitAnd (n : Int) 8 = 8) ↔ n / 8 % 2 = 1 := bit_iff n 3
theorem b4 (n : Nat) : (Builtin.bitAnd (n : Int) 16 = 16) ↔ n / 16 % 2 = 1 := bit_iff n 4
theorem b5 (n : Nat) : (Builtin.bitAnd (n : Int) 32 = 32) ↔ n / 32 % 2 = 1 := bit_iff n 5
theorem b6 (n : Nat) : (Builtin.bitAnd (n : Int) 64 = 64) ↔ n / 64 % 2 = 1 := bit_iff n 6
theorem b7 (n : Nat) : (Builtin.bitAnd (n : Int) 128 = 128) ↔ n / 128 % 2 = 1 := bit_iff n 7
theorem b8 (n : Nat) : (Builtin.bitAnd (n : Int) 256 = 256) ↔ n / 256 % 2 = 1 := bit_iff n 8
theorem b9 (n : Nat) : (Builtin.bitAnd (n : Int) 512 = 512) ↔ n / 512 % 2 = 1 := bit_iff n 9
theorem b10 (n : Nat) : (Builtin.bitAnd (n : Int) 1024 = 1024) ↔ n / 1024 % 2 = 1 := bit_iff n 10
theorem b11 (n : Nat) : (Builtin.bitAnd (n : Int) 2048 = 2048) ↔ n / 2048 % 2 = 1 := bit_iff n 11
theorem d1 (n : Nat) : (Builtin.bitAnd (n : Int) 2112 = 2112) ↔ (n / 2048 % 2 = 1 ∧ n / 64 % 2 = 1) := two_iff n 11 6 (by decide)
theorem d2 (n : Nat) : (Builtin.bitAnd (n : Int) 1032 = 1032) ↔ (n / 1024 % 2 = 1 ∧ n / 8 % 2 = 1) := two_iff n 10 3 (by decide)
theorem d3 (n : Nat) : (Builtin.bitAnd (n : Int) 513 = 513) ↔ (n / 512 % 2 = 1 ∧ n / 1 % 2 = 1) := two_iff n 9 0 (by decide)

theorem one_of {p : Prop} [Decidable p] {a : Nat} (h : p ↔ a % 2 = 1) : (if p then (1 : Int) else 0) = ((a % 2 : Nat) : Int) := by
  by_cases hp : p
  · rw [if_pos hp, h.mp hp]; rfl
  · rw [if_neg hp]
    have : ¬ a % 2 = 1 := fun e => hp (h.mpr e)
    omega
theorem x_of {p q r : Prop} [Decidable p] [Decidable q] [Decidable r] {a b : Nat} (h1 : p ↔ (a % 2 = 1 ∧ b % 2 = 1)) (h2 : q ↔ a % 2 = 1) (h3 : r ↔ b % 2 = 1) :
    (if p then (1 : Int) else if q then 0 else if r then 1 else 0) = ((b % 2 : Nat) : Int) := by
  by_cases ha : a % 2 = 1 <;> by_cases hb : b % 2 = 1
  · rw [if_pos (h1.mpr ⟨ha, hb⟩), hb]; rfl
  · rw [if_neg (fun e => hb (h1.mp e).2), if_pos (h2.mpr ha)]; omega
  · rw [if_neg (fun e => ha (h1.mp e).1), if_neg (fun e => ha (h2.mp e)), if_pos (h3.mpr hb), hb]; rfl
  · rw [if_neg (fun e => ha (h1.mp e).1), if_neg (fun e => ha (h2.mp e)), if_neg (fun e => hb (h3.mp e))]; omega
theorem s_of {p q : Prop} [Decidable p] [Decidable q] {a b : Nat} (h1 : p ↔ (a % 2 = 1 ∧ b % 2 = 1)) (h2 : q ↔ a % 2 = 1) :
    (if p then (1 : Int) else if q then 1 else 0) = ((a % 2 : Nat) : Int) := by
  by_cases ha : a % 2 = 1
  · by_cases hp : p
    · rw [if_pos hp, ha]; rfl
    · rw [if_neg hp, if_pos (h2.mpr ha), ha]; rfl
  · rw [if_neg (fun e => ha (h1.mp e).1), if_neg (fun e => ha (h2.mp e))]; omega

theorem mod_next (n a b : Nat) : n / a % (2 * b) = n / a % 2 + 2 * (n / (a * 2) % b) := by
  rw [Nat.mod_mul, Nat.div_div_eq_div_mul]
theorem bits12 (n : Nat) : n % 4096 = n / 1 % 2 + 2 * (n / 2 % 2) + 4 * (n / 4 % 2) + 8 * (n / 8 % 2) + 16 * (n / 16 % 2) + 32 * (n / 32 % 2) + 64 * (n / 64 % 2) + 128 * (n / 128 % 2) + 256 * (n / 256 % 2) + 512 * (n / 512 % 2) + 1024 * (n / 1024 % 2) + 2048 * (n / 2048 % 2) := by
  have h0 : n / 1 % 4096 = n / 1 % 2 + 2 * (n / 2 % 2048) := mod_next n 1 2048
  have h1 : n / 2 % 2048 = n / 2 % 2 + 2 * (n / 4 % 1024) := mod_next n 2 1024
  have h2 : n / 4 % 1024 = n / 4 % 2 + 2 * (n / 8 % 512) := mod_next n 4 512
  have h3 : n / 8 % 512 = n / 8 % 2 + 2 * (n / 16 % 256) := mod_next n 8 256
  have h4 : n / 16 % 256 = n / 16 % 2 + 2 * (n / 32 % 128) := mod_next n 16 128
  have h5 : n / 32 % 128 = n / 32 % 2 + 2 * (n / 64 % 64) := mod_next n 32 64
  have h6 : n / 64 % 64 = n / 64 % 2 + 2 * (n / 128 % 32) := mod_next n 64 32
  have h7 : n / 128 % 32 = n / 128 % 2 + 2 * (n / 256 % 16) := mod_next n 128 16
  have h8 : n / 256 % 16 = n / 256 % 2 + 2 * (n / 512 % 8) := mod_next n 256 8
  have h9 : n / 512 % 8 = n / 512 % 2 + 2 * (n / 1024 % 4) := mod_next n 512 4
  have h10 : n / 1024 % 4 = n / 1024 % 2 + 2 * (n / 2048 % 2) := mod_next n 1024 2
  rw [Nat.div_one] at h0
  rw [h0, h1, h2, h3, h4, h5, h6, h7, h8, h9, h10]
  clear h0 h1 h2 h3 h4 h5 h6 h7 h8 h9 h10
  rw [Nat.div_one]
  generalize n % 2 = c0, n / 2 % 2 = c1, n / 4 % 2 = c2, n / 8 % 2 = c3, n / 16 % 2 = c4, n / 32 % 2 = c5, n / 64 % 2 = c6, n / 128 % 2 = c7, n / 256 % 2 = c8, n / 512 % 2 = c9, n / 1024 % 2 = c10, n / 2048 % 2 = c11
  omega
theorem sum12 (c0 c1 c2 c3 c4 c5 c6 c7 c8 c9 c10 c11 : Nat) : 0 + (4 * (c8 : Int) + 2 * (c7 : Int) + (c6 : Int)) * 64 + (c11 : Int) * 2048 + (4 * (c5 : Int) + 2 * (c4 : Int) + (c3 : Int)) * 8 + (c10 : Int) * 1024 + (4 * (c2 : Int) + 2 * (c1 : Int) + (c0 : Int)) * 1 + (c9 : Int) * 512
    = ((c0 + 2 * c1 + 4 * c2 + 8 * c3 + 16 * c4 + 32 * c5 + 64 * c6 + 128 * c7 + 256 * c8 + 512 * c9 + 1024 * c10 + 2048 * c11 : Nat) : Int) := by omega

/-- what is read off a mode's signs is its S_IMODE -/
def readOf (n : Int) : Int := readI (kd1 n 256 114) (kd1 n 128 119) (kd3 n 2112 2048 64 115 83) (kd1 n 32 114) (kd1 n 16 119) (kd3 n 1032 1024 8 115 83) (kd1 n 4 114) (kd1 n 2 119) (kd3 n 513 512 1 116 84)
theorem read_eq {n : Int} (h0 : 0 ≤ n) : readOf n = Builtin.bitAnd n 4095 := by
  obtain ⟨n, rfl⟩ := Int.eq_ofNat_of_zero_le h0
  have e : Builtin.bitAnd (n : Int) 4095 = ((n % 4096 : Nat) : Int) := by
    have := bitAnd_nn n 4095
    rw [show (4095 : Nat) = 2 ^ 12 - 1 from rfl, Nat.and_two_pow_sub_one_eq_mod] at this
    exact this
  rw [e]
  unfold readOf readI kd1 kd3
  rw [fig_val _ _ _ _ _ 115 83 (.inl ⟨rfl, rfl⟩), fig_val _ _ _ _ _ 115 83 (.inl ⟨rfl, rfl⟩), fig_val _ _ _ _ _ 116 84 (.inr ⟨rfl, rfl⟩), spc_val _ _ _ 115 83 (.inl ⟨rfl, rfl⟩), spc_val _ _ _ 115 83 (.inl ⟨rfl, rfl⟩), spc_val _ _ _ 116 84 (.inr ⟨rfl, rfl⟩)]
  rw [x_of (d1 n) (b11 n) (b6 n), x_of (d2 n) (b10 n) (b3 n), x_of (d3 n) (b9 n) (b0 n), s_of (d1 n) (b11 n), s_of (d2 n) (b10 n), s_of (d3 n) (b9 n), one_of (b8 n), one_of (b7 n), one_of (b5 n), one_of (b4 n), one_of (b2 n), one_of (b1 n)]
  have f0 : ∀ a : Nat, ((((a % 2 : Nat) : Int) * 2048).fdiv (2 ^ (0 + ((0 : Nat) : Int)).toNat)) = ((a % 2 : Nat) : Int) * 2048 := by
    intro a
    have h2 : a % 2 = 0 ∨ a % 2 = 1 := by omega
    rcases h2 with h | h <;> rw [h] <;> decide
  have f1 : ∀ a : Nat, ((((a % 2 : Nat) : Int) * 2048).fdiv (2 ^ (0 + ((0 + 1 : Nat) : Int)).toNat)) = ((a % 2 : Nat) : Int) * 1024 := by
    intro a
    have h2 : a % 2 = 0 ∨ a % 2 = 1 := by omega
    rcases h2 with h | h <;> rw [h] <;> decide
  have f2 : ∀ a : Nat, ((((a % 2 : Nat) : Int) * 2048).fdiv (2 ^ (0 + ((0 + 1 + 1 : Nat) : Int)).toNat)) = ((a % 2 : Nat) : Int) * 512 := by
    intro a
    have h2 : a % 2 = 0 ∨ a % 2 = 1 := by omega
    rcases h2 with h | h <;> rw [h] <;> decide
  rw [f0, f1, f2, show (8 : Int) ^ (2 - (0 + ((0 : Nat) : Int))).toNat = 64 from by decide, show (8 : Int) ^ (2 - (0 + ((0 + 1 : Nat) : Int))).toNat = 8 from by decide, show (8 : Int) ^ (2 - (0 + ((0 + 1 + 1 : Nat) : Int))).toNat = 1 from by decide]
  rw [bits12 n]
  exact sum12 _ _ _ _ _ _ _ _ _ _ _ _
end
end Mine

namespace Mine
section
set_option maxRecDepth 100000

section
variable {prog : Program} {w : World} {A : Around} {E : Value → Shared → Prop} {s : Shared} {h₀ : Heap} {L : Addr}
theorem item_mem {value slice : PySem.Expr} {l : Addr} {vs : List Value} {ns : List Int} {c : Nat} {k : Int} {u : Tok} {nw : List (Addr × Obj)} {Q : Value → Shared → Prop}
    (N : News h₀ L s.heap nw) (hm : (l, W.listOf vs.toArray c) ∈ nw) (hi : IntsAre vs ns) (h0 : 0 ≤ k) (h1 : k < (ns.length : Int)) (hz : ns.length = 41)
    (h : ∀ t, Q (.int (ns.getD k.toNat 0) t) s)
    (hs : subscripted slice false (.ref l) (.int k u) = operate [.ref l, .int k u] (getItem (.ref l) (.int k u)) := by with_unfolding_all rfl) :
    wpAny (model prog w) A (subscriptTail value slice (.ref l) (.int k u)) Q E s := by
  have hl : s.heap.IsList l vs.toArray := ⟨_, (N _ hm).1, rfl, _, rfl⟩
  have hv : vs.length = ns.length := IntsAre.length hi
  have hlt : k.toNat < ns.length := by omega
  have hn : ns[k.toNat]? = some (ns.getD k.toNat 0) := by
    rw [List.getD_eq_getElem?_getD, List.getElem?_eq_getElem hlt]; rfl
  obtain ⟨t, ht⟩ : ∃ t, vs[k.toNat]? = some (.int (ns.getD k.toNat 0) t) := by
    have h9 : ∀ {vs : List Value} {ns : List Int}, IntsAre vs ns → ∀ {i : Nat} {x : Int}, ns[i]? = some x → ∃ t, vs[i]? = some (.int x t) := by
      intro vs ns H
      induction H with
      | nil => intro i x e; simp at e
      | cons y t r ih =>
        intro i x e
        cases i with
        | zero =>
          have e' : y = x := by simpa using e
          subst e'
          exact ⟨t, rfl⟩
        | succ i => exact ih (by simpa using e)
    exact h9 hi hn
  exact tail_any hl.typeIs slot_list_getitem.lookup (wpAny_getItem_list hl h0 (by omega) (by simpa using ht) (h t)) hs
end

def oddL (ns : List Int) (t : Int) : Int := [0, 1, 2, 4, 5, 7, 8, 10, 11, 12, 16, 22, 23, 26].foldl (fun a (k : Int) => Builtin.bitXor a (ns.getD (t + k).toNat 0)) 0

theorem ints_news {h₀ h : Heap} {L D : Addr} {news : List (Addr × Obj)} {c : Nat} {t0 t1 t2 t3 t4 t5 t6 t7 t8 t9 t10 t11 t12 t13 : Tok} (_N : News h₀ L h ((D, W.listOf #[.int 0 t0, .int 1 t1, .int 2 t2, .int 4 t3, .int 5 t4, .int 7 t5, .int 8 t6, .int 10 t7, .int 11 t8, .int 12 t9, .int 16 t10, .int 22 t11, .int 23 t12, .int 26 t13] c) :: news)) : IntsAre [.int 0 t0, .int 1 t1, .int 2 t2, .int 4 t3, .int 5 t4, .int 7 t5, .int 8 t6, .int 10 t7, .int 11 t8, .int 12 t9, .int 16 t10, .int 22 t11, .int 23 t12, .int 26 t13] [0, 1, 2, 4, 5, 7, 8, 10, 11, 12, 16, 22, 23, 26] :=
  .cons _ _ (.cons _ _ (.cons _ _ (.cons _ _ (.cons _ _ (.cons _ _ (.cons _ _ (.cons _ _ (.cons _ _ (.cons _ _ (.cons _ _ (.cons _ _ (.cons _ _ (.cons _ _ (.nil))))))))))))))
theorem mem14 {k : Int} (h : k ∈ [(0 : Int), 1, 2, 4, 5, 7, 8, 10, 11, 12, 16, 22, 23, 26]) : 0 ≤ k ∧ k ≤ 26 := by
  have : ∀ x ∈ [(0 : Int), 1, 2, 4, 5, 7, 8, 10, 11, 12, 16, 22, 23, 26], 0 ≤ x ∧ x ≤ 26 := by decide
  exact this k h
theorem st_odd {ns pre : List Int} {n k a : Int} (h : a = pre.foldl (fun a (k : Int) => Builtin.bitXor a (ns.getD (n + k).toNat 0)) 0) :
    Builtin.bitXor a (ns.getD (n + k).toNat 0) = (pre ++ [k]).foldl (fun a (k : Int) => Builtin.bitXor a (ns.getD (n + k).toNat 0)) 0 := by
  rw [List.foldl_append, h]; rfl

theorem folded_list {elts : List Expr} {lp : Pos} {env : Env} : ∀ x, foldedSetIterable (.List elts lp) env x = pure x := fun _ => rfl
local macro_rules | `(tactic| walk_at "exec For Name List cons nil") => `(tactic| (k_here; (rename Fr _ _ _ _ => lF'); (with_reducible refine For_invVF lF' ?fk1 ?fk2 ?_ ?fk3 ?fkE); (case fk1 => with_unfolding_all exact rfl); (case fk2 => with_unfolding_all exact rfl); (case fk3 => with_reducible exact folded_list); (case fkE => passes_own)))
local macro_rules | `(tactic| walk_at "UnrEnd") => `(tactic| k_dflt (refine' unr_end ?eF ?eN ?eO ?_; (case eF => k_asm); (case eN => k_asm); (case eO => first | assumption | exact allLt_at (by assumption))))
local macro_rules | `(tactic| walk_at "subscriptTail") => `(tactic| (k_here; (with_reducible show wpAny _ _ (subscriptTail _ _ (Value.ref _) (Value.int _ _)) _ _ _); k_dflt (refine' item_mem ?iN ?iM ?iI ?iA ?iB ?iZ ?_ ?iS; (case iN => k_asm); (case iM => first | assumption | exact List.mem_append.mpr (.inl (List.Mem.tail _ (by assumption))) | exact List.Mem.tail _ (by assumption) | exact List.Mem.tail _ (List.Mem.tail _ (by assumption))); (case iI => assumption); (case iA => (have hb9 := mem14 (by assumption); omega)); (case iB => (have hb9 := mem14 (by assumption); omega)); (case iZ => assumption); (case iS => with_unfolding_all rfl)); intro t9; (try dsimp only)))

local macro_rules | `(tactic| walk_at "pyIter ref") => `(tactic| ((with_reducible show wpAny _ _ (pyIter (Value.ref _)) (fun it s₂ => LoopAtV _ _ _ _ _ _ _ _ _ it s₂) _ _); k_here; k_extra "pyIter ref"))
set_option maxHeartbeats 1000000 in
theorem odd_claim (w mean mg mb) (news : List (Addr × Obj)) (l : Addr) (vs : List Value) (ns : List Int) (c : Nat) (n : Int) (t : Tok) :
    Cl 2 16 w mean mg mb 89 news ((l, W.listOf vs.toArray c) ∈ news ∧ IntsAre vs ns ∧ ns.length = 41 ∧ 0 ≤ n ∧ n < 9) [.ref l, .int n t] (fun t => .int (oddL ns n) t) := by
  w_top off
  k_with_none
  k_with "tree" => (with_reducible show _ = oddL _ _; unfold oddL; assumption)
  k_with "state" => exact rfl
  k_with "state" => exact st_odd (by assumption)
  k_with "pyIter ref" => ((have hI9 := ints_news (by assumption)); (k_state (fun pre a => a = pre.foldl (fun a (k : Int) => Builtin.bitXor a (ns.getD (n + k).toNat 0)) 0) "told"))
  dsimp only [Cl, CbRet]
  k_fill
  intros
  rename_i hpre hd1 hd2 hret
  obtain ⟨hm, hi, hz, hn0, hn1⟩ := hpre
  refine wpAny_call ?_
  w_strict ((k_dflt cell_enter); k_steps; all_goals cb_end hret)
end
end Mine

namespace Mine
section
set_option maxRecDepth 100000

theorem row_len (f : Int) (n : Nat) : (crcRow f n).length = n + 1 := by simp [crcRow]
theorem row_get (f : Int) {n k : Nat} (h : k < n + 1) : (crcRow f n).getD k 0 = it f k := by
  simp [crcRow, List.getD_eq_getElem?_getD, h]
theorem map_get (f : Int) (g : Int → Int) {n k : Nat} (h : k < n + 1) : ((crcRow f n).map g).getD k 0 = g (it f k) := by
  simp [crcRow, List.getD_eq_getElem?_getD, h]
theorem oddL_eq (ns : List Int) (g : Nat → Int) (h : ∀ k, k < 41 → ns.getD k 0 = g k) {n : Int} (h0 : 0 ≤ n) (h1 : n < 9) : oddL ns n = odd g n.toNat := by
  have e : ∀ k : Nat, k ≤ 26 → ns.getD (n + (k : Int)).toNat 0 = g (n.toNat + k) := by
    intro k hk
    have e1 : (n + (k : Int)).toNat = n.toNat + k := by omega
    rw [e1, h _ (by omega)]
  have e0 := e 0 (by decide); have e1 := e 1 (by decide); have e2 := e 2 (by decide); have e4 := e 4 (by decide); have e5 := e 5 (by decide); have e7 := e 7 (by decide); have e8 := e 8 (by decide)
  have e10 := e 10 (by decide); have e11 := e 11 (by decide); have e12 := e 12 (by decide); have e16 := e 16 (by decide); have e22 := e 22 (by decide); have e23 := e 23 (by decide); have e26 := e 26 (by decide)
  clear e
  unfold oddL odd ks
  simp only [List.foldl_cons, List.foldl_nil]
  rw [← e0, ← e1, ← e2, ← e4, ← e5, ← e7, ← e8, ← e10, ← e11, ← e12, ← e16, ← e22, ← e23, ← e26]
  rfl

/-- each item from the thirty-third on is the exclusive or of the fourteen ahead of it -/
def OddOk (ns : List Int) : Prop := ∀ n : Int, 0 ≤ n → n < 9 → ns.getD (n + 32).toNat 0 = oddL ns n
theorem ok_row {f : Int} {row : List Int} (e : row = crcRow f 40) (h0 : 0 ≤ f) (h1 : f < 4294967296) : OddOk row := by
  subst e
  intro n hn0 hn1
  rw [oddL_eq _ (it f) (fun k hk => row_get f hk) hn0 hn1]
  have e1 : (n + 32).toNat = n.toNat + 32 := by omega
  rw [e1, row_get f (by omega)]
  exact row_odd h0 h1 _
theorem ok_mask {f : Int} {row : List Int} (b : Nat) (e : row = crcRow f 40) (h0 : 0 ≤ f) (h1 : f < 4294967296) : OddOk (List.map (fun k' => Builtin.bitAnd k' (b : Int)) row) := by
  subst e
  intro n hn0 hn1
  rw [oddL_eq _ (fun k => Builtin.bitAnd (it f k) (b : Int)) (fun k hk => map_get f (fun k' => Builtin.bitAnd k' (b : Int)) hk) hn0 hn1]
  have e1 : (n + 32).toNat = n.toNat + 32 := by omega
  rw [e1, map_get f (fun k' => Builtin.bitAnd k' (b : Int)) (by omega)]
  exact mask_odd b h0 h1 _
theorem ok_kinds {f : Int} {row : List Int} (e : row = crcRow f 40) (h0 : 0 ≤ f) (h1 : f < 4294967296) : OddOk (List.map (fun k' => Builtin.bitAnd k' 61440) row) := ok_mask 61440 e h0 h1
theorem ok_rights {f : Int} {row : List Int} (e : row = crcRow f 40) (h0 : 0 ≤ f) (h1 : f < 4294967296) : OddOk (List.map (fun k' => Builtin.bitAnd k' 4095) row) := ok_mask 4095 e h0 h1
theorem rr_eq {f : Int} {row : List Int} {n : Nat} (e : row = crcRow f n) (h0 : 0 ≤ f) (h1 : f < 4294967296) : List.map (fun k' => readOf k') row = List.map (fun k' => Builtin.bitAnd k' 4095) row := by
  refine List.map_congr_left fun k hk => read_eq ?_
  exact (row_bnd h0 h1 e hk).1
theorem row_bnd2 {f M : Int} {n : Nat} {row : List Int} (e : row = crcRow f n) (h0 : 0 ≤ f) (h1 : f < 4294967296) (hm : M ∈ row) : 0 ≤ M ∧ M < 4294967296 := row_bnd h0 h1 e hm
theorem row_40 {f : Int} {row : List Int} (e : row = crcRow f (rangeKs 0 ((40 : Int) - 0).toNat).length) : row = crcRow f 40 := by
  rw [e, rangeKs_length]; rfl
theorem row_41 {f : Int} {row : List Int} (e : row = crcRow f 40) : row.length = 41 := by rw [e, row_len]

theorem odd_claim3 (w mean mg mb) (news : List (Addr × Obj)) (l : Addr) (vs : List Value) (ns : List Int) (c : Nat) (n : Int) (t : Tok) :
    Cl 2 16 w mean mg mb 89 news ((l, W.listOf vs.toArray c) ∈ news ∧ IntsAre vs ns ∧ ns.length = 41 ∧ 0 ≤ n ∧ n < 9 ∧ OddOk ns) [.ref l, .int n t] (fun t => .int (ns.getD (n + 32).toNat 0) t) := by
  intro dp un gd cn cs a ccd cl outer A₀ base h₀ L m s Q E hB hF hK hN hT hC ⟨hm, hi, hz, hn0, hn1, ok⟩ hD hU hR
  rw [ok n hn0 hn1] at hR
  exact odd_claim w mean mg mb news l vs ns c n t dp un gd cn cs a ccd cl outer A₀ base h₀ L m s Q E hB hF hK hN hT hC ⟨hm, hi, hz, hn0, hn1⟩ hD hU hR
end
end Mine

namespace Mine
section
set_option maxRecDepth 100000

theorem read_claim2 (w mean mg mb) (news : List (Addr × Obj)) (n : Int) (t : Tok) : Cl 2 16 w mean mg mb 82 news True [.str (fmodeS n) t] (fun t => .int (readOf n) t) := read_claim w mean mg mb news _ _ _ _ _ _ _ _ _ _ t

theorem st_row0 (f : Int) : [f].length = ([] : List Int).length + 1 ∧ [f] = crcRow f ([] : List Int).length := ⟨rfl, rfl⟩
theorem st_rowS {f k : Int} {row pre : List Int} {j : Int} (h1 : row.length = pre.length + 1) (h2 : row = crcRow f pre.length) (hj : j = (row.length : Int)) :
    (row ++ [genI (row.getD (-1 + j).toNat 0)]).length = (pre ++ [k]).length + 1 ∧ row ++ [genI (row.getD (-1 + j).toNat 0)] = crcRow f (pre ++ [k]).length := by
  refine ⟨by simp [h1], ?_⟩
  have e1 : (-1 + j).toNat = pre.length := by rw [hj, h1]; omega
  have e2 : row.getD (-1 + j).toNat 0 = it f pre.length := by
    rw [e1, h2, crcRow]
    simp [List.getD_eq_getElem?_getD]
  rw [e2, h2]
  simp [crcRow, List.range_succ, it]
theorem pow32 : (2 : Int) ^ Int.toNat 32 = 4294967296 := by decide
section
variable {prog : Program} {w : World} {A : Around} {E : Value → Shared → Prop} {s : Shared} {Q : Value → Shared → Prop}
theorem mod_abs {a : Int} {t u : Tok} (h : ∀ v tk, 0 ≤ v → v < 4294967296 → Q (.int v tk) { s with toks := s.toks + 1 }) : wpAny (model prog w) A (binaryOp .Mod (.int a t) (.int (2 ^ Int.toNat 32) u)) Q E s :=
  mod_int' (by decide) (h _ _ (Int.fmod_nonneg_of_pos a (by decide)) (Int.fmod_lt_of_pos a (by decide)))
end
end
end Mine

section
open Mine
set_option maxRecDepth 100000
local macro_rules | `(tactic| walk_at "binaryOp Mod int int") => `(tactic| (k_here; (with_reducible show wpAny _ _ (binaryOp Operator.Mod (Value.int _ _) (Value.int (2 ^ Int.toNat 32) _)) _ _ _); (with_reducible refine mod_abs (fun v9 t9 hlo9 hhi9 => ?_)); (try dsimp only)))
local macro_rules | `(tactic| walk_at "call ref") => `(tactic| (k_here; k_dflt ((first
    | ((with_reducible show wpAny _ _ (call (Value.ref 75) [Value.int _ _]) _ _ _); refine' gen_claim _ _ _ _ _ _ _ _ _ _ _ _ _ _ _ _ _ _ _ _ _ _ _ _ ?cB ?cF ?cK ?cN ?cT ?cC ?cP ?cD ?cU ?_)
    | ((with_reducible show wpAny _ _ (call (Value.ref 28) [Value.int _ _]) _ _ _); refine' ifmt_claim _ _ _ _ _ _ _ _ _ _ _ _ _ _ _ _ _ _ _ _ _ _ _ _ ?cB ?cF ?cK ?cN ?cT ?cC ?cP ?cD ?cU ?_)
    | ((with_reducible show wpAny _ _ (call (Value.ref 21) [Value.int _ _]) _ _ _); refine' imode_claim _ _ _ _ _ _ _ _ _ _ _ _ _ _ _ _ _ _ _ _ _ _ _ _ ?cB ?cF ?cK ?cN ?cT ?cC ?cP ?cD ?cU ?_)
    | ((with_reducible show wpAny _ _ (call (Value.ref 68) [Value.int _ _]) _ _ _); refine' fm_claim _ _ _ _ _ _ _ _ _ _ _ _ _ _ _ _ _ _ _ _ _ _ _ _ ?cB ?cF ?cK ?cN ?cT ?cC ?cP ?cD ?cU ?_)
    | ((with_reducible show wpAny _ _ (call (Value.ref 89) [Value.ref _, Value.int _ _]) _ _ _); refine' odd_claim3 _ _ _ _ _ _ _ _ _ _ _ _ _ _ _ _ _ _ _ _ _ _ _ _ _ _ _ _ ?cB ?cF ?cK ?cN ?cT ?cC ?cP ?cD ?cU ?_)
    | ((with_reducible show wpAny _ _ (call (Value.ref 82) [Value.str _ _]) _ _ _); refine' read_claim2 _ _ _ _ _ _ _ _ _ _ _ _ _ _ _ _ _ _ _ _ _ _ _ _ ?cB ?cF ?cK ?cN ?cT ?cC ?cP ?cD ?cU ?_)); (case cB => k_asm); (case cF => k_asm); (case cK => k_asm); (case cN => k_asm); (case cT => k_asm); (case cC => first | exact rfl | assumption); (case cP => first | trivial | exact ⟨by k_mem, by assumption, by first | assumption | (rw [List.length_map]; assumption), by omega, by omega, by assumption⟩); (case cD => first | ktr_room | omega | decide); (case cU => first | ktr_units | omega | decide)); intro t9 h9 tk9 F9 N9; (try dsimp only); (try k_fold)))
local macro_rules | `(tactic| walk_at "pyIter ref") => `(tactic| ((with_reducible show wpAny _ _ (pyIter (Value.ref _)) (fun it s₂ => LoopAtV _ _ _ _ _ _ _ _ _ it s₂) _ _); k_here; first
  | (k_of "x" => (k_state (fun pre a => 0 ≤ a ∧ a < 4294967296) "first"))
  | (k_of "turn" => (k_state_given ["first"] (fun first pre row => row.length = pre.length + 1 ∧ row = crcRow first pre.length) "row"))))
local macro_rules | `(tactic| walk_at "call builtin:min") => `(tactic| (k_here; (with_reducible show wpAny _ _ (call (Value.builtin _) [Value.ref _]) _ _ _); (with_unfolding_all refine' kso_min ?k1 ?k2 ?k3 ?k4 ?k5 ?k6 ?_; (case k1 => k_asm); (case k2 => k_asm); (case k3 => kso_list); (case k4 => l_ints); (case k5 => (rw [‹List.length _ = List.length _ + 1›]; exact Nat.succ_pos _)); (case k6 => with_unfolding_all rfl); k_whole); intro h' M' t' k' F' N' a' b'; (have hb' := row_bnd2 (by assumption) (by assumption) (by assumption) a'); (obtain ⟨hb1', hb2'⟩ := hb'); clear a' b'; (try k_sweep)))
local macro_rules | `(tactic| walk_at "call builtin:max") => `(tactic| (k_here; (with_reducible show wpAny _ _ (call (Value.builtin _) [Value.ref _]) _ _ _); (with_unfolding_all refine' kso_max ?k1 ?k2 ?k3 ?k4 ?k5 ?k6 ?_; (case k1 => k_asm); (case k2 => k_asm); (case k3 => kso_list); (case k4 => l_ints); (case k5 => (rw [‹List.length _ = List.length _ + 1›]; exact Nat.succ_pos _)); (case k6 => with_unfolding_all rfl); k_whole); intro h' M' t' k' F' N' a' b'; (have hb' := row_bnd2 (by assumption) (by assumption) (by assumption) a'); (obtain ⟨hb1', hb2'⟩ := hb'); clear a' b'; (have hp' := pow32); (try k_sweep)))

local macro_rules | `(tactic| walk_at "exec For Name List cons nil") => `(tactic| (k_here; (fail_if_success (have hz9 := (‹OddOk _›))); (have he9 := row_40 (by assumption)); (have hz9 := row_41 he9); (have hr9 := ok_row he9 (by assumption) (by assumption)); (have hk9 := ok_kinds he9 (by assumption) (by assumption)); (have hs9 := ok_rights he9 (by assumption) (by assumption)); walk_at "exec For Name List cons nil"))
local macro_rules | `(tactic| walk_at "subscriptTail") => `(tactic| (k_here; (with_reducible show wpAny _ _ (subscriptTail _ _ (Value.ref _) (Value.int (_ + 32) _)) _ _ _); k_dflt (refine' item_mem ?iN ?iM ?iI ?iA ?iB ?iZ ?_ ?iS; (case iN => k_asm); (case iM => k_mem); (case iI => assumption); (case iA => omega); (case iB => ((try rw [List.length_map]); omega)); (case iZ => first | assumption | (rw [List.length_map]; assumption)); (case iS => with_unfolding_all rfl)); intro t9; (try dsimp only)))
set_option maxHeartbeats 8000000 in
theorem PySem.Challenge.cw_mq0151_01_holds : PySem.Challenge.rw_mq0151_01.Holds := by
  w_top off
  k_with_none
  k_with "pyIter ref" => (k_of "x" => (k_state (fun pre a => 0 ≤ a ∧ a < 4294967296) "first"))
  k_with "state" => exact st_row0 _
  k_with "state" => exact st_rowS (by assumption) (by assumption) (by first | rfl | (simp; done) | omega | (simp; omega))
  k_with "end" => exact absurd (rr_eq (by assumption) (by assumption) (by assumption)) (by assumption)
  exact Mine.hd (by k_go0; (all_goals try k_fold); k_steps; (all_goals (try k_data)))
end


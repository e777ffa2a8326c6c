import PyProof.Rows.All
import Wide.All
import OpenK.AllK
import Wide.FinOn
import PySem.Challenge.RW_xh0010_01
open PySem PySem.W PyProof.Rows PySem.Calls
set_option Elab.async false
set_option maxRecDepth 100000
set_option maxHeartbeats 8000000
set_option linter.all false
set_option linter.unusedSimpArgs false
set_option linter.unusedVariables false
/-! the top, run once -/
namespace Mine
open_top hd for PySem.Challenge.rw_xh0010_01
end Mine
namespace Mine
open AutoSeq1 (wpAny_loadPart')
section
variable {prog : Program} {w : World} {A : Around} {E : Value → Shared → Prop} {s : Shared}

theorem te_item {it t : Addr} {i : Nat} {items : Array Value} {x : Value} {Q : Value → Shared → Prop} (hit : s.heap.IsTupleIter it t i)
    (ht : s.heap.IsTuple t items) (hx : items[i]? = some x)
    (hQ : ∀ h', h'.IsTupleIter it t (i + 1) → Heap.SameBut it s.heap h' → Q x { s with heap := h' }) :
    wpAny (model prog w) A (Builtin.SmallTypes.nextOf (.ref it)) Q E s := by
  obtain ⟨o, ho, hc, hd⟩ := id hit
  obtain ⟨ol, hol, _, nl, hdl⟩ := ht
  unfold Builtin.SmallTypes.nextOf
  refine wpAny_bind (wpAny_callSpecial?_slot (name := Str.ofString "__next__") hit.typeIs F.slot_tuple_iterator_next
    (wpAny_call_entry F.slot_tuple_iterator_next hit.typeIs F.entry_tuple_iterator_next ?_ (F.args_tuple_iterator_next_1 _)))
  show wpAny _ _ (field (.ref it) 0 >>= _) _ _ s
  refine wpAny_bind (wpAny_field ho hd (x := .ref t) rfl ?_)
  show wpAny _ _ (if (Value.ref t == Value.none) = true then _ else _) _ _ s
  rw [if_neg (show ¬ ((Value.ref t == Value.none) = true) from Bool.false_ne_true)]
  show wpAny _ _ (field (.ref it) 1 >>= _) _ _ s
  refine wpAny_bind (wpAny_field ho hd (x := .int i 0) rfl ?_)
  show wpAny _ _ (seqItems? (.ref t) >>= _) _ _ s
  refine wpAny_bind (wpAny_seqItems hol hdl ?_)
  simp only [Int.toNat_natCast, hx]
  refine wpAny_bind (wpAny_setField ho hd (by simp) (wpAny_pure ⟨x, rfl, wpAny_pure (hQ _ ?_ (Heap.SameBut.update ..))⟩))
  exact ⟨_, Heap.get?_update_self _ ho (Obj.isFreed_of_fields (Obj.data_mapFields hd _)), (Obj.cls_mapFields ..).trans hc, by
    rw [Obj.data_mapFields hd]; simp [rawInt]⟩

theorem te_end {it t : Addr} {i : Nat} {items : Array Value} {Q : Value → Shared → Prop} (hh : A.handled = none)
    (hit : s.heap.IsTupleIter it t i) (ht : s.heap.IsTuple t items) (hx : items[i]? = none)
    (hE : ∀ h' e, Heap.ExtBut it s.heap h' → (∃ o, h'.get? e = some o ∧ o.cls = .type "StopIteration") → E (.ref e) { s with heap := h' }) :
    wpAny (model prog w) A (Builtin.SmallTypes.nextOf (.ref it)) Q E s := by
  obtain ⟨o, ho, hc, hd⟩ := id hit
  obtain ⟨ol, hol, _, nl, hdl⟩ := ht
  unfold Builtin.SmallTypes.nextOf
  refine wpAny_bind (wpAny_callSpecial?_slot (name := Str.ofString "__next__") hit.typeIs F.slot_tuple_iterator_next
    (wpAny_call_entry F.slot_tuple_iterator_next hit.typeIs F.entry_tuple_iterator_next ?_ (F.args_tuple_iterator_next_1 _)))
  show wpAny _ _ (field (.ref it) 0 >>= _) _ _ s
  refine wpAny_bind (wpAny_field ho hd (x := .ref t) rfl ?_)
  show wpAny _ _ (if (Value.ref t == Value.none) = true then _ else _) _ _ s
  rw [if_neg (show ¬ ((Value.ref t == Value.none) = true) from Bool.false_ne_true)]
  show wpAny _ _ (field (.ref it) 1 >>= _) _ _ s
  refine wpAny_bind (wpAny_field ho hd (x := .int i 0) rfl ?_)
  show wpAny _ _ (seqItems? (.ref t) >>= _) _ _ s
  refine wpAny_bind (wpAny_seqItems hol hdl ?_)
  simp only [Int.toNat_natCast, hx]
  refine wpAny_bind (wpAny_rule (wpAny_bind (wpAny_setField ho hd (by simp) ?_)))
  show wpAny _ _ (newExc (.type "StopIteration") [] >>= _) _ _ _
  refine wpAny_bind ?_
  simp only [newExc, newTuple]
  refine wpAny_bind (wpAny_newObj_type ?_ (by size_fits))
  refine wpAny_bind (m := firstArgMember _ _) (wpAny_of_eq (a := Value.none) (by first | rfl | (simp only [firstArgMember]; rfl)) ?_)
  refine wpAny_newObj_type ?_ (by size_fits)
  simp only [raiseNew]
  refine wpAny_bind (wpAny_handled ?_)
  first | rw [show A.in1.handled = none from hh] | rw [hh]
  refine wpAny_bind (wpAny_pure (wpAny_throw ?_))
  exact hE _ _ (((Heap.SameBut.update ..).extBut.push _).push _) ⟨_, Heap.get?_push_size _ rfl, rfl⟩
end

theorem teDraws {prog : Program} {w : World} {A : Around} (hh : A.handled = none) (it l : Addr) (hne : l ≠ it) (items : Array Value) :
    Draws prog w A it [it, l] items.size (fun i v => items[i]? = some v) (fun i h => h.IsTupleIter it l i ∧ h.IsTuple l items) where
  live := fun _ _ st => let ⟨o, ho, _⟩ := st.1; ⟨o, ho⟩
  frame := fun _ _ _ st hk => ⟨st.1.at fun o e => hk it (by simp) o e, st.2.at fun o e => hk l (by simp) o e⟩
  item := fun i s Q E hi st hQ => by
    refine te_item st.1 st.2 (x := items[i]) (by simp [hi]) fun h' hit' hs' => ?_
    exact hQ _ h' s.toks (by simp [hi]) ⟨hit', st.2.extBut hs'.extBut hne⟩ hs'
  done := fun s Q E st hE => te_end hh st.1 st.2 (by simp) hE

theorem te_new (l : Addr) (items : Array Value) (n : Nat) (dct : Option Addr) (sl : Array (Option Value)) :
    Meets (Builtin.«enumerate.__new__» ⟨[.type "enumerate", .ref l], []⟩) (fun _ R s => s.heap.get? l = some { cls := .type "tuple", dict := dct, data := .seq items n, slots := sl } ∧
      R (.ok (.ret (.ref (s.heap.push { cls := .type "tuple_iterator", data := .fields #[.ref l, .int 0 0] }).objs.size)))
        { s with heap := (s.heap.push { cls := .type "tuple_iterator", data := .fields #[.ref l, .int 0 0] }).push { cls := .type "enumerate", data := .fields #[.none, .bool false, .ref s.heap.objs.size, rawInt 0, .none, .none] } }) :=
  .of_wp fun prog w A R s h => by
    obtain ⟨hp, g, d, tk, os⟩ := s; obtain ⟨hl, h⟩ := h
    have hsub := sub_enumerate
    have hL : Heap.IsTuple (Shared.heap ⟨hp, g, d, tk, os⟩) l items := ⟨_, hl, rfl, n, rfl⟩
    wp_walk using wpAny_loadPart' hl
    refine wpAny_stack_any fun st => wpAny_pure ?_
    split
    · rename_i c _ _ _ _ _
      cases (c == Value.type "enumerate")
      · wp_walk using wpAny_loadPart' hl, wpAny_pyIter_tuple hL
        exact ⟨_, rfl, h⟩
      · wp_walk using wpAny_loadPart' hl, wpAny_pyIter_tuple hL
        exact ⟨_, rfl, h⟩
    · wp_walk using wpAny_loadPart' hl, wpAny_pyIter_tuple hL
      exact ⟨_, rfl, h⟩
section
variable {prog : Program} {w : World} {A : Around} {E : Value → Shared → Prop} {s : Shared}
theorem te_call {l : Addr} {items : Array Value} {Q : Value → Shared → Prop} (hL : s.heap.IsTuple l items)
    (h : ∀ h', IsEnum h' (s.heap.objs.size + 1) s.heap.objs.size 0 .none → h'.IsTupleIter s.heap.objs.size l 0 → h'.objs.size = s.heap.objs.size + 2 →
      (∀ b o, s.heap.get? b = some o → h'.get? b = some o) → Q (.ref (s.heap.objs.size + 1)) { s with heap := h' }) :
    wpAny (model prog w) A (call (.type "enumerate") [.ref l]) Q E s := by
  obtain ⟨⟨c, dct, dt, sl⟩, hl, hc, n, hd⟩ := hL
  replace hc : c = .type "tuple" := hc
  replace hd : dt = .seq items n := hd
  subst hc hd
  refine callType_new F.called_enumerate (by decide) (F.typeCall_enumerate_1 _) (F.newCall_enumerate_1 _) (fun obj => F.args_object_init_2 obj _) F.entry_enumerate_new
    (te_new l items n dct sl) ⟨hl, ?_⟩
  have hz : (s.heap.push { cls := .type "tuple_iterator", data := .fields #[.ref l, .int 0 0] }).objs.size = s.heap.objs.size + 1 := Heap.size_push ..
  show _ ∧ _
  rw [hz]
  have he : IsEnum ((s.heap.push { cls := .type "tuple_iterator", data := .fields #[.ref l, .int 0 0] }).push
      { cls := .type "enumerate", data := .fields #[.none, .bool false, .ref s.heap.objs.size, rawInt 0, .none, .none] }) (s.heap.objs.size + 1) s.heap.objs.size 0 .none := by
    have := Heap.get?_push_size (s.heap.push { cls := .type "tuple_iterator", data := .fields #[.ref l, .int 0 0] })
      (o := { cls := .type "enumerate", data := .fields #[.none, .bool false, .ref s.heap.objs.size, rawInt 0, .none, .none] }) rfl
    rw [hz] at this; exact this
  refine ⟨⟨_, he, rfl⟩, h _ he ⟨_, Heap.get?_push_of_some _ (Heap.get?_push_size _ rfl), rfl, rfl⟩ (by rw [Heap.size_push, hz]) fun b o x => Heap.get?_push_of_some _ (Heap.get?_push_of_some _ x)⟩
end
end Mine
namespace Mine
abbrev noE : Value → Shared → Prop := fun _ _ => False
section
variable {prog : Program} {w : World} {A : Around} {s : Shared} {env : Env}

def Turned (I : Nat → Shared → Prop) (n : Nat) (s : Shared) : Prop := ∃ m, m < n ∧ I m s
/-- what a for loop over the iterator `it` asks: a measured state, and one turn -/
def ForAt (prog : Program) (w : World) (A : Around) (env : Env) (target : Expr) (body orelse : List Stmt) (Q : Flow → Shared → Prop) (it : Value) (s₂ : Shared) : Prop :=
  ∃ (I : Nat → Shared → Prop) (n : Nat), I n s₂ ∧ ∀ n s, I n s → wpAny (model prog w) A (pyNext it) (fun r s₁ => match r with
      | none => wpAny (model prog w) A (execs orelse env) Q noE s₁
      | some v => wpAny (model prog w) A (letOwnedTupleGo target it v) (fun _ s₁' =>
          wpAny (model prog w) A (assign target env v) (fun _ s₂ => wpAny (model prog w) A (execs body env) (fun f s₃ => match f with
            | .next | .cont => Turned I n s₃
            | .brk => Q .next s₃
            | .ret v => Q (.ret v) s₃) noE s₂) noE s₁') noE s₁) noE s

theorem forE {target iter : Expr} {body orelse : List Stmt} {pos : Pos} {Q : Flow → Shared → Prop}
    (h : wpAny (model prog w) A (eval iter env) (fun xv s₁ => wpAny (model prog w) A (pyIter xv) (fun it s₂ => ForAt prog w A env target body orelse Q it s₂) noE s₁) noE s)
    (hs : ∀ x, foldedSetIterable iter env x = pure x := by intro _; rfl) :
    wpAny (model prog w) A (exec (.For target iter body orelse pos) env) Q noE s := by
  refine wpAny_For (wpAny_mono h (fun xv s₁ h₁ => wpAny_mono h₁ (fun it s₂ h₂ => ?_) fun _ _ e => e) fun _ _ e => e) hs
  obtain ⟨I, n, h0, turn⟩ := h₂
  refine codeAny_forLoop_any (R := fun r s' => match r with | .ok f => Q f s' | .error e => cameBackBy (model prog w) A env noE e s') I (fun n s hI => ?_) n h0
  have P : PassesOwn (model prog w) A env noE := .never
  refine wpAny_passesOwn P (wpAny_mono (turn n s hI) (fun r s₁ h₁ => ?_) fun _ _ e => e)
  cases r with
  | none => exact wpAny_passesOwn P h₁
  | some v => exact wpAny_passesOwn P (wpAny_mono h₁ (fun _ s₂ h₂ => wpAny_passesOwn P (wpAny_mono h₂ (fun _ s₃ h₃ => wpAny_passesOwn P (wpAny_mono h₃ (fun f s₄ h₄ => by cases f <;> exact h₄) fun _ _ e => e)) fun _ _ e => e)) fun _ _ e => e)

variable {h₀ : Heap} {L : Addr} {m : Str → Option Value} {news : List (Addr × Obj)}

def TupIt (o : Obj) (t : Addr) (i : Nat) : Prop := o.cls = .type "tuple_iterator" ∧ o.data = .fields #[.ref t, .int i 0]

theorem News.tail' {h : Heap} {p : Addr × Obj} (N : News h₀ L h (p :: news)) : News h₀ L h news := fun q hq => N q (.tail _ hq)

theorem next_tup {I t : Addr} {o : Obj} {i : Nat} {items : Array Value} {E : Value → Shared → Prop} {Q : Option Value → Shared → Prop} (hh : A.handled = none)
    (F : Fr h₀ L s.heap m) (N : News h₀ L s.heap ((I, o) :: news)) (off : ∀ p ∈ news, p.1 ≠ I) (ho : TupIt o t i) (ht : h₀.IsTuple t items)
    (h1 : ∀ x h' o', items[i]? = some x → Fr h₀ L h' m → News h₀ L h' ((I, o') :: news) → TupIt o' t (i + 1) → Q (some x) { s with heap := h' })
    (h2 : ∀ h', items[i]? = none → Fr h₀ L h' m → News h₀ L h' news → Q none { s with heap := h' }) :
    wpAny (model prog w) A (pyNext (.ref I)) Q E s := by
  have hI := N (I, o) (.head _)
  have hit : s.heap.IsTupleIter I t i := ⟨o, hI.1, ho⟩
  have ht' : s.heap.IsTuple t items := ht.at fun o e => F.keep t o e
  cases hx : items[i]? with
  | some x =>
    refine wpAny_pyNext_tuple_item hit ht' hx fun h' hit' hs => ?_
    obtain ⟨o', ho', r'⟩ := hit'
    refine h1 x h' o' hx (F.change hs hI.2.1 hI.2.2) (fun p hp => ?_) r'
    rcases List.mem_cons.mp hp with rfl | hp
    · exact ⟨ho', hI.2⟩
    · have z := N p (.tail _ hp)
      exact ⟨(hs.2 _ (off p hp)).trans z.1, z.2⟩
  | none =>
    refine wpAny_pyNext_tuple_end hh hit ht' hx fun h' hs => ?_
    refine h2 h' hx ⟨F.ns.at' fun o e => hs _ o (Ne.symm hI.2.1) e, fun b o e => hs b o (fun q => ?_) (F.keep b o e), F.above⟩ (fun p hp => ?_)
    · subst q; have := hI.2.2; rw [e] at this; cases this
    · have z := N p (.tail _ hp)
      exact ⟨hs _ _ (off p hp) z.1, z.2⟩

theorem iter_tup {t : Addr} {items : Array Value} {E : Value → Shared → Prop} {Q : Value → Shared → Prop} (F : Fr h₀ L s.heap m) (N : News h₀ L s.heap news) (ht : h₀.IsTuple t items)
    (h : ∀ I o h', Fr h₀ L h' m → News h₀ L h' ((I, o) :: news) → (∀ p ∈ news, p.1 ≠ I) → TupIt o t 0 → Q (.ref I) { s with heap := h' }) :
    wpAny (model prog w) A (pyIter (.ref t)) Q E s := by
  refine wpAny_pyIter_tuple (ht.at fun o e => F.keep t o e) ?_
  exact h _ _ _ (F.push _) (N.push F _) (fun p hp => Nat.ne_of_lt (Heap.lt_size (N p hp).1)) ⟨rfl, rfl⟩

/-- for xi, xc in enumerate(a tuple of the top) -/
theorem enum_for {E : Value → Shared → Prop} {l : Addr} {items : Array Value} {xi xc : Str} {body : List Stmt} {Q : Flow → Shared → Prop} (hh : A.handled = none) (hT : h₀.IsTuple l items)
    (F : Fr h₀ env.locals s.heap m) (N : News h₀ env.locals s.heap news)
    (J : Nat → (Str → Option Value) → List (Addr × Obj) → Prop) (h0 : J 0 m news)
    (step : ∀ (i : Nat) t v m₁ news₁ h tk own, items[i]? = some v → J i m₁ news₁ → news₁.map (·.1) = news.map (·.1) → (∀ p ∈ own, ∀ q ∈ news, p.1 ≠ q.1) →
      Fr h₀ env.locals h (fun y => if y = xc then some v else if y = xi then some (.int i t) else m₁ y) → News h₀ env.locals h (own ++ news₁) →
      wpAny (model prog w) A (execs body env) (LoopStep3 h₀ env.locals own news₁ (J (i + 1)) { s with heap := h, toks := tk } (fun v s' => Q (.ret v) s') fun s' => Q .next s') E { s with heap := h, toks := tk })
    (done : ∀ h' tk m' news', Fr h₀ env.locals h' m' → News h₀ env.locals h' news' → news'.map (·.1) = news.map (·.1) → J items.size m' news' → Q .next { s with heap := h', toks := tk }) :
    wpAny (model prog w) A (call (.type "enumerate") [.ref l]) (fun xv s₁ => wpAny (model prog w) A (pyIter xv) (fun it s₂ => PairAt3 prog w A h₀ env xi xc body Q E it s₂) E s₁) E s := by
  have hTs : s.heap.IsTuple l items := hT.at fun o e => F.keep l o e
  obtain ⟨ol, hol, _⟩ := id hT
  have hlt : l < h₀.objs.size := Heap.lt_size hol
  have hLs : env.locals < s.heap.objs.size := F.ns.lt
  have hab : h₀.objs.size ≤ env.locals := F.above
  have hls : l < s.heap.objs.size := Nat.lt_of_lt_of_le hlt (Nat.le_trans hab (Nat.le_of_lt hLs))
  refine te_call hTs fun h' he hit hsz hk => ?_
  have F' : Fr h₀ env.locals h' m := ⟨F.ns.keeps hk, fun b o e => hk b o (F.keep b o e), F.above⟩
  have N' : News h₀ env.locals h' news := fun p hp => ⟨hk _ _ (N p hp).1, (N p hp).2⟩
  let Kd : ItemKind Value := ⟨fun a v => a = v, fun v => some v, fun _ _ e => by rw [e]⟩
  have hlen : items.size = items.toList.length := by simp
  have hLs' : env.locals ≠ s.heap.objs.size := Nat.ne_of_lt hLs
  have hLs1 : env.locals ≠ s.heap.objs.size + 1 := Nat.ne_of_lt (Nat.lt_succ_of_lt hLs)
  have hll : l ≠ env.locals := Nat.ne_of_lt (Nat.lt_of_lt_of_le hlt hab)
  have hl0 : l ≠ s.heap.objs.size := Nat.ne_of_lt hls
  have hl1 : l ≠ s.heap.objs.size + 1 := Nat.ne_of_lt (Nat.lt_succ_of_lt hls)
  have off : ∀ b ∈ [s.heap.objs.size + 1, s.heap.objs.size, l], ∀ q ∈ news, b ≠ q.1 := by
    intro b hb q hq e
    have hq1 : q.1 < s.heap.objs.size := Heap.lt_size (N q hq).1
    rcases List.mem_cons.mp hb with e1 | hb
    · exact Nat.ne_of_gt (Nat.lt_succ_of_lt hq1) (e1.symm.trans e)
    · rcases List.mem_cons.mp hb with e1 | hb
      · exact Nat.ne_of_gt hq1 (e1.symm.trans e)
      · have e2 := List.mem_singleton.mp hb
        have hn := (N q hq).2.2
        rw [← e, e2, hol] at hn
        cases hn
  have e0 : h₀.get? s.heap.objs.size = none := Heap.get?_none_of_le (Nat.le_trans hab (Nat.le_of_lt hLs))
  have e1 : h₀.get? (s.heap.objs.size + 1) = none := Heap.get?_none_of_le (Nat.le_trans hab (Nat.le_of_lt (Nat.lt_succ_of_lt hLs)))
  have S : PairSrc prog w A E h₀ env Kd items.toList (.ref (s.heap.objs.size + 1)) { s with heap := h' } m news :=
    enumSrc (teDraws (A := A.in1) hh s.heap.objs.size l hl0 items) he ⟨hit, hTs.at fun o e => hk l o e⟩ (Nat.succ_ne_self _)
      (by intro hm; rcases List.mem_cons.mp hm with e | hm
          · exact Nat.succ_ne_self _ e
          · exact hl1 (List.mem_singleton.mp hm).symm) (by simp)
      (by intro hm; rcases List.mem_cons.mp hm with e | hm
          · exact hLs1 e
          · rcases List.mem_cons.mp hm with e | hm
            · exact hLs' e
            · exact hll (List.mem_singleton.mp hm).symm)
      e1 e0 off hlen (fun i x hx => ⟨x, by simpa using hx, rfl⟩) F' N'
  refine S xi xc body Q J h0 ?_ ?_
  · rintro i a t v m₁ news₁ s₁ own ⟨hh', tk', rfl⟩ ha hk' hJ hadr hoff F₁ N₁
    have : a = v := hk'
    subst this
    exact step i t a m₁ news₁ hh' tk' own (by simpa using ha) hJ hadr hoff F₁ N₁
  · intro h'' tk m' news' F₁ N₁ hadr hJ
    refine done h'' tk m' news' F₁ N₁ hadr ?_
    rw [hlen]; exact hJ
theorem assign2 {env : Env} {E : Value → Shared → Prop} {x y : Str} {px py pt : Pos} {x1 : Nat} {a : Addr} {v0 v1 : Value} {Q : Unit → Shared → Prop} (hh : A.handled = none) (ht : s.heap.IsTuple a #[v0, v1]) (F : Fr h₀ env.locals s.heap m) (N : News h₀ env.locals s.heap news)
    (hx : env.kindOf x = some .local) (hy : env.kindOf y = some .local) (hp : (env.scope.kind == .class || (env.scope.kind == .module && env.locals != env.globals)) = false)
    (h : ∀ h' tk, Fr h₀ env.locals h' (fun z => if z = y then some v1 else if z = x then some v0 else m z) → News h₀ env.locals h' news → Q () { s with heap := h', toks := tk }) :
    wpAny (model prog w) A (assign (.Tuple [.Name x px, .Name y py] x1 pt) env (.ref a)) Q E s := by
  refine wpAny_assign_Tuple hh ht rfl rfl fun h₃ hx₃ => ?_
  replace hx₃ : Heap.ExtBut s.heap.objs.size s.heap h₃ := hx₃
  have up : ∀ b o, s.heap.get? b = some o → h₃.get? b = some o := fun b o e => hx₃ b o (Nat.ne_of_lt (Heap.lt_size e)) e
  have F₃ : Fr h₀ env.locals h₃ m := ⟨F.ns.at' fun o e => up _ o e, fun b o e => up b o (F.keep b o e), F.above⟩
  have N₃ : News h₀ env.locals h₃ news := fun p hp => ⟨up _ _ (N p hp).1, (N p hp).2⟩
  show wpAny _ A (do holding [v1] (assign (.Name x px) env v0); do holding [] (assign (.Name y py) env v1); pure ()) _ _ _
  refine wpAny_bind (wpAny_holding (wpAny_assign_Name (wpAny_storeName_local hx F₃.ns (fun h₄ hn₄ hs₄ => ?_) hp)))
  replace hs₄ : Heap.SameBut env.locals h₃ h₄ := hs₄
  have F₄ := F₃.set hn₄ hs₄
  refine wpAny_bind (wpAny_holding (wpAny_assign_Name (wpAny_storeName_local hy F₄.ns (fun h₅ hn₅ hs₅ => wpAny_pure ?_) hp)))
  replace hs₅ : Heap.SameBut env.locals h₄ h₅ := hs₅
  exact h h₅ _ (F₄.set hn₅ hs₅) ((N₃.set hs₄).set hs₅)
end
end Mine
namespace Mine
def Gives (w : World) (f : Addr) (vs : List Value) (R : Tok → Value) (dd uu : Nat) : Prop :=
  ∀ (p : Program) (loose : List Str) (mean : ExcName → Option Value) (mg mb : Str → Option Value) (dp un : Nat) (gd : Option (List Code)) (cn : Str) (cs : Scope) (a : Addr) (ccd : Value) (cl : List (Str × Addr)) (outer : List Env) (A₀ : Around) (base h₀ : Heap) (L : Addr) (m : Str → Option Value) (news : List (Addr × Obj)) (s : Shared) (Q E : Value → Shared → Prop),
    Below A₀ base outer h₀ → Fr h₀ L s.heap m → (Mine.hd.heap_39 w.params).In h₀ → News h₀ L s.heap news → Top p loose mean mg mb h₀ → cs.kind = .function → dp + dd < recursionLimit → un + uu < cLine →
    (∀ t h' tk', Fr h₀ L h' m → News h₀ L h' news → Q (R t) { s with heap := h', toks := tk' }) →
    wpAny (model PySem.Challenge.rw_xh0010_01.row.prog w) (ktrTop dp un gd cn cs L a ccd cl outer) (call (.ref f) vs) Q E s

abbrev Tab := List (Int × Str)
def tabs : List Tab := [[(40960, "l"), (49152, "s"), (32768, "-"), (24576, "b"), (16384, "d"), (8192, "c"), (4096, "p")], [(256, "r")], [(128, "w")], [(2112, "s"), (2048, "S"), (64, "x")],
  [(32, "r")], [(16, "w")], [(1032, "s"), (1024, "S"), (8, "x")], [(4, "r")], [(2, "w")], [(513, "t"), (512, "T"), (1, "x")]]
def hit (i : Nat) (mo : Int) (p : Int × Str) : Bool := if i = 0 then Builtin.bitAnd mo 61440 == p.1 else Builtin.bitAnd mo p.1 == p.1
def pick (i : Nat) (mo : Int) (tb : Tab) : Str := match tb.find? (hit i mo) with | some p => p.2 | none => if i = 0 then "?" else "-"
def picks (mo : Int) : List Tab → Nat → List Str
  | [], _ => []
  | tb :: r, i => pick i mo tb :: picks mo r (i + 1)
theorem picks_snoc (mo : Int) (tb : Tab) : ∀ (l : List Tab) (i : Nat), picks mo (l ++ [tb]) i = picks mo l i ++ [pick (i + l.length) mo tb]
  | [], i => rfl
  | x :: r, i => by
    show pick i mo x :: picks mo (r ++ [tb]) (i + 1) = pick i mo x :: (picks mo r (i + 1) ++ _)
    rw [picks_snoc mo tb r (i + 1), show i + 1 + r.length = i + (x :: r).length by simp; omega]
theorem picks_take {mo : Int} {tb : Tab} {l : List Tab} {i : Nat} (h : l[i]? = some tb) : picks mo (l.take (i + 1)) 0 = picks mo (l.take i) 0 ++ [pick i mo tb] := by
  have hi : i < l.length := (List.getElem?_eq_some_iff.mp h).1
  rw [List.take_add_one, h]
  show picks mo (l.take i ++ [tb]) 0 = _
  rw [picks_snoc, List.length_take, Nat.min_eq_left (Nat.le_of_lt hi), Nat.zero_add]

/-- a table of the top, read off the heap -/
def TabAt (h : Heap) (v : Value) (tb : Tab) : Prop :=
  ∃ (T : Addr) (its : Array Value), v = .ref T ∧ h.IsTuple T its ∧ its.size = tb.length ∧ ∀ (j : Nat) (p : Int × Str), tb[j]? = some p → ∃ (a : Addr) (t1 t2 : Tok), its[j]? = some (.ref a) ∧ h.IsTuple a #[.int p.1 t1, .str p.2 t2]
def fmItems : Array Value := #[.ref 36, .ref 38, .ref 40, .ref 44, .ref 46, .ref 48, .ref 52, .ref 54, .ref 56, .ref 60]
theorem tup_of {K : Frag} {h : Heap} (X : K.In h) {a : Addr} {its : Array Value} {d : Option Addr} {n : Nat} {sl : Array (Option Value)} (e : K.lookup a = some { cls := .type "tuple", dict := d, data := .seq its n, slots := sl }) : h.IsTuple a its :=
  ⟨_, X _ _ e, rfl, n, rfl⟩
theorem k61 {w : World} {h : Heap} (X : (Mine.hd.heap_39 w.params).In h) : h.IsTuple 61 fmItems := tup_of X rfl
theorem tab_nil {h : Heap} {T : Addr} {its : Array Value} (hT : h.IsTuple T its) (e : its.size = 0) : TabAt h (.ref T) [] := ⟨T, its, rfl, hT, e, fun j p e => by cases e⟩
theorem tab1 {h : Heap} {T a : Addr} {x : Int} {y : Str} {t1 t2 : Tok} (hT : h.IsTuple T #[.ref a]) (ha : h.IsTuple a #[.int x t1, .str y t2]) : TabAt h (.ref T) [(x, y)] :=
  ⟨T, _, rfl, hT, rfl, fun j p e => by
    match j with
    | 0 => cases e; exact ⟨a, t1, t2, rfl, ha⟩
    | j + 1 => cases e⟩
theorem tab3 {h : Heap} {T a b c : Addr} {x x' x'' : Int} {y y' y'' : Str} {t1 t2 t1' t2' t1'' t2'' : Tok} (hT : h.IsTuple T #[.ref a, .ref b, .ref c]) (ha : h.IsTuple a #[.int x t1, .str y t2])
    (hb : h.IsTuple b #[.int x' t1', .str y' t2']) (hc : h.IsTuple c #[.int x'' t1'', .str y'' t2'']) : TabAt h (.ref T) [(x, y), (x', y'), (x'', y'')] :=
  ⟨T, _, rfl, hT, rfl, fun j p e => by
    match j with
    | 0 => cases e; exact ⟨a, t1, t2, rfl, ha⟩
    | 1 => cases e; exact ⟨b, t1', t2', rfl, hb⟩
    | 2 => cases e; exact ⟨c, t1'', t2'', rfl, hc⟩
    | j + 3 => cases e⟩
theorem tab36 {w : World} {h : Heap} (X : (Mine.hd.heap_39 w.params).In h) : TabAt h (.ref 36) [(40960, "l"), (49152, "s"), (32768, "-"), (24576, "b"), (16384, "d"), (8192, "c"), (4096, "p")] :=
  ⟨36, #[.ref 29, .ref 30, .ref 31, .ref 32, .ref 33, .ref 34, .ref 35], rfl, tup_of X rfl, rfl, fun j p e => by
    match j with
    | 0 => cases e; exact ⟨29, _, _, rfl, tup_of X rfl⟩
    | 1 => cases e; exact ⟨30, _, _, rfl, tup_of X rfl⟩
    | 2 => cases e; exact ⟨31, _, _, rfl, tup_of X rfl⟩
    | 3 => cases e; exact ⟨32, _, _, rfl, tup_of X rfl⟩
    | 4 => cases e; exact ⟨33, _, _, rfl, tup_of X rfl⟩
    | 5 => cases e; exact ⟨34, _, _, rfl, tup_of X rfl⟩
    | 6 => cases e; exact ⟨35, _, _, rfl, tup_of X rfl⟩
    | j + 7 => cases e⟩
theorem tabs_at {w : World} {h : Heap} (X : (Mine.hd.heap_39 w.params).In h) {i : Nat} {v : Value} (e : fmItems[i]? = some v) : ∃ tb, tabs[i]? = some tb ∧ TabAt h v tb := by
  match i with
  | 0 => cases e; exact ⟨_, rfl, tab36 X⟩
  | 1 => cases e; exact ⟨_, rfl, tab1 (tup_of X rfl) (tup_of X rfl)⟩
  | 2 => cases e; exact ⟨_, rfl, tab1 (tup_of X rfl) (tup_of X rfl)⟩
  | 3 => cases e; exact ⟨_, rfl, tab3 (tup_of X rfl) (tup_of X rfl) (tup_of X rfl) (tup_of X rfl)⟩
  | 4 => cases e; exact ⟨_, rfl, tab1 (tup_of X rfl) (tup_of X rfl)⟩
  | 5 => cases e; exact ⟨_, rfl, tab1 (tup_of X rfl) (tup_of X rfl)⟩
  | 6 => cases e; exact ⟨_, rfl, tab3 (tup_of X rfl) (tup_of X rfl) (tup_of X rfl) (tup_of X rfl)⟩
  | 7 => cases e; exact ⟨_, rfl, tab1 (tup_of X rfl) (tup_of X rfl)⟩
  | 8 => cases e; exact ⟨_, rfl, tab1 (tup_of X rfl) (tup_of X rfl)⟩
  | 9 => cases e; exact ⟨_, rfl, tab3 (tup_of X rfl) (tup_of X rfl) (tup_of X rfl) (tup_of X rfl)⟩
  | i + 10 => cases e
theorem pick_len {i : Nat} {mo : Int} {tb : Tab} (h : ∀ p ∈ tb, p.2.length = 1) : (pick i mo tb).length = 1 := by
  unfold pick
  split
  · rename_i p q
    exact h p (List.mem_of_find?_eq_some q)
  · split <;> rfl
theorem picks_len {mo : Int} : ∀ {l : List Tab} {i : Nat}, (∀ tb ∈ l, ∀ p ∈ tb, p.2.length = 1) → ((picks mo l i).map (·.length)).sum = l.length ∧ (picks mo l i).length = l.length
  | [], _, _ => ⟨rfl, rfl⟩
  | tb :: r, i, h => by
    have ih := picks_len (mo := mo) (l := r) (i := i + 1) fun t ht => h t (.tail _ ht)
    have e := pick_len (i := i) (mo := mo) (h tb (.head _))
    constructor
    · simp only [picks, List.map_cons, List.sum_cons, List.length_cons, e, ih.1]; omega
    · simp only [picks, List.length_cons, ih.2]
theorem tabs_len : ∀ tb ∈ tabs, ∀ p ∈ tb, p.2.length = 1 := by decide
end Mine
namespace Mine
local macro_rules | `(tactic| k_ne) => `(tactic| (refine neN ?_; (try dsimp only); first | assumption | (apply Ne.symm; assumption) | (apply Nat.ne_of_lt; assumption) | (apply Nat.ne_of_gt; assumption) | ((repeat ((first | (rename (_ ∧ _) ∧ _ => hcc) | (rename (_ ≠ _) ∧ _ => hcc) | (rename (@LT.lt Nat _ _ _) ∧ _ => hcc)); obtain ⟨_, _⟩ := hcc)); first | assumption | (apply Ne.symm; assumption) | (apply Nat.ne_of_lt; assumption) | (apply Nat.ne_of_gt; assumption))))
theorem Fr.know {h₀ h : Heap} {L : Addr} {m : Str → Option Value} {x : Str} {v : Value} (F : Fr h₀ L h m) (e : m x = some v) : Fr h₀ L h (fun y => if y = x then some v else m y) := by
  have q : (fun y => if y = x then some v else m y) = m := by
    funext y
    by_cases c : y = x
    · rw [if_pos c, c, e]
    · rw [if_neg c]
  rw [q]; exact F
def fmJ (P : Addr) (mo : Int) (tm : Tok) (news : List (Addr × Obj)) (i : Nat) (m₁ : Str → Option Value) (news₁ : List (Addr × Obj)) : Prop :=
  m₁ (Str.ofString "perm") = some (.ref P) ∧ m₁ (Str.ofString "mode") = some (.int mo tm) ∧ ∃ its n, news₁ = (P, W.listOf its n) :: news ∧ StrsAre its.toList (picks mo (tabs.take i) 0)
def fmI (s₂ : Shared) (g : Heap) (L P I T : Addr) (mo : Int) (tm : Tok) (i : Nat) (t : Tok) (tb : Tab) (its : Array Value) (n : Nat) (rest : List (Addr × Obj)) (k : Nat) (s' : Shared) : Prop :=
  ∃ (j : Nat) (h' : Heap) (tk : Nat) (m' : Str → Option Value) (o : Obj), s' = { s₂ with heap := h', toks := tk } ∧ j ≤ tb.length ∧ k = tb.length - j ∧ Fr g L h' m' ∧ News g L h' ((P, W.listOf its n) :: (I, o) :: rest) ∧ TupIt o T j ∧
    m' (Str.ofString "perm") = some (.ref P) ∧ m' (Str.ofString "mode") = some (.int mo tm) ∧ m' (Str.ofString "index") = some (.int i t) ∧ (tb.take j).find? (hit i mo) = none
theorem News.swap {h₀ h : Heap} {L : Addr} {a b : Addr × Obj} {r : List (Addr × Obj)} (N : News h₀ L h (a :: b :: r)) : News h₀ L h (b :: a :: r) := fun p hp => N p (by
  rcases List.mem_cons.mp hp with e | hp
  · exact e ▸ .tail _ (.head _)
  · rcases List.mem_cons.mp hp with e | hp
    · exact e ▸ .head _
    · exact .tail _ (.tail _ hp))
theorem News.mid {h₀ h : Heap} {L : Addr} {a : Addr × Obj} {l r : List (Addr × Obj)} (N : News h₀ L h (l ++ a :: r)) : News h₀ L h (a :: (l ++ r)) := fun p hp => N p (by
  rcases List.mem_cons.mp hp with e | hp
  · exact e ▸ List.mem_append.mpr (.inr (.head _))
  · rcases List.mem_append.mp hp with h | h
    · exact List.mem_append.mpr (.inl h)
    · exact List.mem_append.mpr (.inr (.tail _ h)))
theorem News.back {h₀ h : Heap} {L : Addr} {a : Addr × Obj} {l r own news : List (Addr × Obj)} (N : News h₀ L h (a :: (l ++ r))) (e : own ++ news = r) : News h₀ L h (own ++ a :: news) := fun p hp => N p (by
  subst e
  rcases List.mem_append.mp hp with h | h
  · exact .tail _ (List.mem_append.mpr (.inr (List.mem_append.mpr (.inl h))))
  · rcases List.mem_cons.mp h with e | h
    · exact e ▸ .head _
    · exact .tail _ (List.mem_append.mpr (.inr (List.mem_append.mpr (.inr h)))))
theorem take_find {i j : Nat} {mo : Int} {tb : Tab} {pb : Int × Str} (hf : (tb.take j).find? (hit i mo) = none) (hj : tb[j]? = some pb) (b : hit i mo pb = false) : (tb.take (j + 1)).find? (hit i mo) = none := by
  rw [List.take_add_one, hj, List.find?_append, hf]
  simp [b]
theorem pick_hit {i j : Nat} {mo : Int} {tb : Tab} {pb : Int × Str} (hf : (tb.take j).find? (hit i mo) = none) (hj : tb[j]? = some pb) (b : hit i mo pb = true) : pick i mo tb = pb.2 := by
  have e : tb.find? (hit i mo) = some pb := by
    rw [← List.take_append_drop (j + 1) tb, List.find?_append, List.take_add_one, hj, List.find?_append, hf]
    simp [b]
  unfold pick
  rw [e]
theorem pick_none {i j : Nat} {mo : Int} {tb : Tab} (hf : (tb.take j).find? (hit i mo) = none) (hj : tb.length ≤ j) : pick i mo tb = if i = 0 then Str.ofString "?" else Str.ofString "-" := by
  rw [List.take_of_length_le hj] at hf
  unfold pick
  rw [hf]
theorem hit0 {i : Nat} {mo : Int} {pb : Int × Str} (h0 : (i : Int) = 0) (h : Builtin.bitAnd mo 61440 = pb.1) : hit i mo pb = true := by
  have : i = 0 := by omega
  simp [hit, this, h]
theorem hit0f {i : Nat} {mo : Int} {pb : Int × Str} (h0 : (i : Int) = 0) (h : Builtin.bitAnd mo 61440 ≠ pb.1) : hit i mo pb = false := by
  have : i = 0 := by omega
  simp [hit, this, h]
theorem hit1 {i : Nat} {mo : Int} {pb : Int × Str} (h0 : (i : Int) ≠ 0) (h : Builtin.bitAnd mo pb.1 = pb.1) : hit i mo pb = true := by
  have : i ≠ 0 := by omega
  simp [hit, this, h]
theorem hit1f {i : Nat} {mo : Int} {pb : Int × Str} (h0 : (i : Int) ≠ 0) (h : Builtin.bitAnd mo pb.1 ≠ pb.1) : hit i mo pb = false := by
  have : i ≠ 0 := by omega
  simp [hit, this, h]
theorem strs_append : ∀ {vs us : List Value} {ys zs : List Str}, StrsAre vs ys → StrsAre us zs → StrsAre (vs ++ us) (ys ++ zs)
  | _, _, _, _, .nil, h => h
  | _, _, _, _, .cons _ _ r, h => .cons _ _ (strs_append r h)
theorem fmJ_step {P : Addr} {mo : Int} {tm t : Tok} {news : List (Addr × Obj)} {i n : Nat} {m' : Str → Option Value} {its : Array Value} {tb : Tab} {c : Str} (hst : StrsAre its.toList (picks mo (tabs.take i) 0)) (htb : tabs[i]? = some tb) (e : pick i mo tb = c)
    (h1 : m' (Str.ofString "perm") = some (.ref P)) (h2 : m' (Str.ofString "mode") = some (.int mo tm)) : fmJ P mo tm news (i + 1) m' ((P, W.listOf (its.push (.str c t)) n) :: news) := by
  refine ⟨h1, h2, _, _, rfl, ?_⟩
  rw [picks_take htb, e, Array.toList_push]
  exact strs_append hst (.cons _ _ .nil)
local macro_rules | `(tactic| k_all) => `(tactic| assumption)
local macro_rules | `(tactic| k_room) => `(tactic| ktr_room)
local macro_rules | `(tactic| size_fits) => `(tactic| assumption)
theorem fm_call (w : World) (mo : Int) (tm : Tok) : Gives w 68 [.int mo tm] (fun t => .str (Txt.join "" (picks mo tabs 0)) t) 3 24 := by
  unfold Gives
  k_fill
  w_top off
  intro p loose mean mg mb dp un gd cn cs a ccd cl outer A₀ base h₀ L m news s Q E B F X N T hk hd hu hret
  refine wpAny_call ?_
  k_dflt ktr_enter
  rename_i g L' hx FG F0 N0 BB X1 TT
  refine wpAny_noRaise ?_
  k_steps
  rename Fr _ _ _ _ => F1
  rename News _ _ _ _ => N1
  rename_i P _ l1 _
  refine enum_for (by rfl) (k61 X1) F1 N1 (fmJ P mo tm news) ?h0 ?step ?done
  case h0 => exact ⟨rfl, rfl, #[], 0, rfl, .nil⟩
  case step =>
    rintro i t v m₁ news₁ h tk own hv ⟨hpe, hmo, its, n, rfl, hst⟩ hadr hoff F2 N2
    obtain ⟨tb, htb, T, titems, rfl, hT, hsz, hT2⟩ := tabs_at X1 hv
    clear F1 N1
    have hz : its.size ≤ sizeLine := by
      have e1 := hst.length
      have e2 := (picks_len (mo := mo) (l := tabs.take i) (i := 0) fun tb ht => tabs_len tb (List.mem_of_mem_take ht)).2
      rw [e2, List.length_take, Array.length_toList] at e1
      have e3 : tabs.length = 10 := rfl
      have e4 : (10 : Nat) ≤ sizeLine := by decide
      omega
    have F3 := Fr.know (x := Str.ofString "mode") F2 (by rw [if_neg (by decide), if_neg (by decide)]; exact hmo)
    have F4 := Fr.know (x := Str.ofString "perm") F3 (by rw [if_neg (by decide), if_neg (by decide), if_neg (by decide)]; exact hpe)
    clear F2 F3
    have N3 := News.mid N2
    clear N2
    have offP : ∀ p ∈ own ++ news, p.1 ≠ P := by
      intro p hp
      rcases List.mem_append.mp hp with h | h
      · exact hoff p h (P, W.listOf #[] 0) (.head _)
      · exact Nat.ne_of_lt (l1 p h)
    generalize hrest : own ++ news = rest at N3 offP
    refine wpAny_execs_cons ?_
    refine forE ?_
    k_steps
    refine iter_tup F4 N3 hT fun I o h' F5 N5 offI hI => ?_
    clear F4 N3
    have offI' : ∀ p ∈ rest, p.1 ≠ I := fun p hp => offI p (.tail _ hp)
    have hIP : P ≠ I := offI (P, W.listOf its n) (.head _)
    have offP' : ∀ (o : Obj), ∀ p ∈ (I, o) :: rest, p.1 ≠ P := fun o p hp => by
      rcases List.mem_cons.mp hp with e | hp
      · rw [e]; exact hIP.symm
      · exact offP p hp
    refine ⟨fmI _ g L' P I T mo tm i t tb its n rest, tb.length, ⟨0, _, _, _, o, rfl, Nat.zero_le _, rfl, F5, News.swap N5, hI, rfl, rfl, rfl, rfl⟩, ?_⟩
    rintro k s' ⟨j, h2, tk2, m2, o2, rfl, hj, rfl, F6, N6, hI2, hpe2, hmo2, hin2, hfind⟩
    clear F5 N5
    refine next_tup (by rfl) F6 (News.swap N6) (fun p hp => ?_) hI2 hT (fun x h3 o3 hx F7 N7 hI3 => ?_) (fun h3 hx F7 N7 => ?_)
    · rcases List.mem_cons.mp hp with e | hp
      · rw [e]; exact hIP
      · exact offI' p hp
    · clear F6 N6
      have hjl : j < tb.length := by rw [← hsz]; exact (Array.getElem?_eq_some_iff.mp hx).1
      obtain ⟨a1, t1, t2, hxa, ha⟩ := hT2 j tb[j] (List.getElem?_eq_getElem hjl)
      rw [hx] at hxa
      cases hxa
      refine letGo_tupleiter ⟨o3, (N7 (I, o3) (.head _)).1, hI3⟩ ?_
      have ha' : h3.IsTuple a1 #[.int tb[j].1 t1, .str tb[j].2 t2] := ha.at fun o e => F7.keep _ o e
      refine assign2 (by rfl) ha' F7 N7 (by rfl) (by rfl) (by rfl) fun h4 tk4 F8 N8 => ?_
      clear F7 N7
      have N9 := News.swap N8
      clear N8
      have offP3 := offP' o3
      have F9 := Fr.know (x := Str.ofString "index") F8 (by rw [if_neg (by decide), if_neg (by decide)]; exact hin2)
      have F10 := Fr.know (x := Str.ofString "mode") F9 (by rw [if_neg (by decide), if_neg (by decide), if_neg (by decide)]; exact hmo2)
      have F11 := Fr.know (x := Str.ofString "perm") F10 (by rw [if_neg (by decide), if_neg (by decide), if_neg (by decide), if_neg (by decide)]; exact hpe2)
      clear F8 F9 F10
      have hjb : tb[j]? = some tb[j] := List.getElem?_eq_getElem hjl
      generalize hp : tb[j] = pb at F11 hjb
      k_steps
      · rename Fr _ _ _ _ => Fz
        rename News _ _ _ _ => Nz
        exact LoopStep2.intro Fz (News.back (l := [_]) Nz hrest) rfl (fmJ_step hst htb (pick_hit hfind hjb (hit0 (by assumption) (by assumption))) rfl rfl)
      · rename Fr _ _ _ _ => Fz
        rename News _ _ _ _ => Nz
        exact ⟨tb.length - (j + 1), by omega, j + 1, _, _, _, o3, rfl, by omega, rfl, Fz, Nz, hI3, rfl, rfl, rfl, take_find hfind hjb (hit0f (by assumption) (by assumption))⟩
      · rename Fr _ _ _ _ => Fz
        rename News _ _ _ _ => Nz
        exact LoopStep2.intro Fz (News.back (l := [_]) Nz hrest) rfl (fmJ_step hst htb (pick_hit hfind hjb (hit1 (by assumption) (by assumption))) rfl rfl)
      · rename Fr _ _ _ _ => Fz
        rename News _ _ _ _ => Nz
        exact ⟨tb.length - (j + 1), by omega, j + 1, _, _, _, o3, rfl, by omega, rfl, Fz, Nz, hI3, rfl, rfl, rfl, take_find hfind hjb (hit1f (by assumption) (by assumption))⟩
    · clear F6 N6
      have hjl : tb.length ≤ j := by rw [← hsz]; exact Array.getElem?_eq_none_iff.mp hx
      have F8 := Fr.know (x := Str.ofString "index") F7 hin2
      have F9 := Fr.know (x := Str.ofString "mode") F8 (by rw [if_neg (by decide)]; exact hmo2)
      have F10 := Fr.know (x := Str.ofString "perm") F9 (by rw [if_neg (by decide), if_neg (by decide)]; exact hpe2)
      clear F7 F8 F9
      k_steps
      · rename Fr _ _ _ _ => Fz
        rename News _ _ _ _ => Nz
        exact LoopStep2.intro Fz (News.back (l := []) Nz hrest) rfl (fmJ_step hst htb ((pick_none hfind hjl).trans (if_pos (by omega))) rfl rfl)
      · rename Fr _ _ _ _ => Fz
        rename News _ _ _ _ => Nz
        exact LoopStep2.intro Fz (News.back (l := []) Nz hrest) rfl (fmJ_step hst htb ((pick_none hfind hjl).trans (if_neg (by omega))) rfl rfl)
  case done =>
    rintro h' tk m' news' F2 N2 hadr ⟨hpe, hmo, its, n, rfl, hst⟩
    clear F1 N1
    have F3 := Fr.know (x := Str.ofString "perm") F2 hpe
    clear F2
    k_steps
    have eT : tabs.take fmItems.size = tabs := rfl
    rw [eT] at hst
    have e10 := picks_len (mo := mo) (l := tabs) (i := 0) tabs_len
    refine join_listW (News.isList N2 (.head _)) hst (by decide) (by rw [e10.1, e10.2]; decide) fun t5 k5 => ?_
    k_steps
    exact hret _ _ _ (by assumption) (News.tail' (by assumption))
end Mine
namespace Mine
local macro_rules | `(tactic| k_ne) => `(tactic| (refine neN ?_; (try dsimp only); first | assumption | (apply Ne.symm; assumption) | (apply Nat.ne_of_lt; assumption) | (apply Nat.ne_of_gt; assumption) | ((repeat ((first | (rename (_ ∧ _) ∧ _ => hcc) | (rename (_ ≠ _) ∧ _ => hcc) | (rename (@LT.lt Nat _ _ _) ∧ _ => hcc)); obtain ⟨_, _⟩ := hcc)); first | assumption | (apply Ne.symm; assumption) | (apply Nat.ne_of_lt; assumption) | (apply Nat.ne_of_gt; assumption))))
theorem Gives.use {w : World} {f : Addr} {vs : List Value} {R : Tok → Value} {dd uu : Nat} (G : Gives w f vs R dd uu) {p : Program} {loose : List Str} {mean : ExcName → Option Value} {mg mb : Str → Option Value} {dp un : Nat} {gd : Option (List Code)} {cn : Str} {cs : Scope} {a : Addr} {ccd : Value} {cl : List (Str × Addr)} {outer : List Env} {A₀ : Around} {base h₀ : Heap} {L : Addr} {m : Str → Option Value} {news : List (Addr × Obj)} {s : Shared} {Q E : Value → Shared → Prop}
    (B : Below A₀ base outer h₀) (F : Fr h₀ L s.heap m) (X : (Mine.hd.heap_39 w.params).In h₀) (N : News h₀ L s.heap news) (T : Top p loose mean mg mb h₀) (hk : cs.kind = .function) (hd : dp + dd < recursionLimit) (hu : un + uu < cLine)
    (h : ∀ t h' tk', Fr h₀ L h' m → News h₀ L h' news → Q (R t) { s with heap := h', toks := tk' }) :
    wpAny (model PySem.Challenge.rw_xh0010_01.row.prog w) (ktrTop dp un gd cn cs L a ccd cl outer) (call (.ref f) vs) Q E s := G _ _ _ _ _ _ _ _ _ _ _ _ _ _ _ _ _ _ _ _ _ _ _ B F X N T hk hd hu h
def letters (m : Int) : Str := Txt.join "" (picks (Builtin.bitOr 32768 m) tabs 0)
local macro_rules | `(tactic| k_all) => `(tactic| assumption)
local macro_rules | `(tactic| k_room) => `(tactic| ktr_room)
local macro_rules | `(tactic| walk_at "call ref") => `(tactic| (k_here; (with_reducible show wpAny _ _ (call (Value.ref 68) _) _ _ _); k_dflt (refine' Gives.use (fm_call _ _ _) ?k1 ?k2 ?k3 ?k4 ?k5 ?kK ?kd ?ku ?_; (case k1 => k_asm); (case k2 => k_asm); (case k3 => k_asm); (case k4 => k_asm); (case k5 => k_asm); (case kK => first | exact rfl | assumption); (case kd => ktr_room); (case ku => ktr_units); k_whole); intro t9 h9 tk9 F9 N9; (try dsimp only); (try k_fold)))
theorem ll_call (w : World) (mo : Int) (tm : Tok) : Gives w 119 [.int mo tm] (fun t => .str (letters mo) t) 6 60 := by

  unfold Gives
  k_fill
  w_top off
  intro p loose mean mg mb dp un gd cn cs a ccd cl outer A₀ base h₀ L m news s Q E B F X N T hk hd hu hret
  refine wpAny_call ?_
  k_dflt ktr_enter
  rename_i g L' hx FG F0 N0 BB X1 TT
  refine wpAny_noRaise ?_
  k_steps
  exact hret _ _ _ (by assumption) (by assumption)
end Mine
namespace Mine
local macro_rules | `(tactic| k_ne) => `(tactic| (refine neN ?_; (try dsimp only); first | assumption | (apply Ne.symm; assumption) | (apply Nat.ne_of_lt; assumption) | (apply Nat.ne_of_gt; assumption) | ((repeat ((first | (rename (_ ∧ _) ∧ _ => hcc) | (rename (_ ≠ _) ∧ _ => hcc) | (rename (@LT.lt Nat _ _ _) ∧ _ => hcc)); obtain ⟨_, _⟩ := hcc)); first | assumption | (apply Ne.symm; assumption) | (apply Nat.ne_of_lt; assumption) | (apply Nat.ne_of_gt; assumption))))
theorem stmt_seq {M : Model} {A : Around} {env : Env} {st : Stmt} {rest : List Stmt} {Q : Flow → Shared → Prop} {s : Shared} (P : Shared → Prop)
    (h1 : wpAny M A (exec st env) (fun f s' => f = .next ∧ P s') noE s) (h2 : ∀ s', P s' → wpAny M A (execs rest env) Q noE s') : wpAny M A (execs (st :: rest) env) Q noE s :=
  wpAny_execs_cons (wpAny_mono h1 (fun f s' h => by obtain ⟨rfl, hp⟩ := h; exact h2 s' hp) fun _ _ e => e)
def KnL (m : Str → Option Value) : List (Str × Value) → Prop
  | [] => True
  | p :: r => m p.1 = some p.2 ∧ KnL m r
theorem KnL.mem {m : Str → Option Value} : ∀ {l : List (Str × Value)}, KnL m l → ∀ p ∈ l, m p.1 = some p.2
  | [], _, _, h => nomatch h
  | _ :: _, x, p, h => by
    rcases List.mem_cons.mp h with rfl | h
    · exact x.1
    · exact KnL.mem x.2 p h
/-- a state of the law's own frame -/
def LawSt (h₀ : Heap) (L : Addr) (s : Shared) (kn : List (Str × Value)) (news : List (Addr × Obj)) (s' : Shared) : Prop :=
  ∃ h tk m, s' = { s with heap := h, toks := tk } ∧ Fr h₀ L h m ∧ News h₀ L h news ∧ KnL m kn
def CEl (news : List (Addr × Obj)) (G : List Value → Prop) (ys : List Value) (y : Value) (news' : List (Addr × Obj)) : Prop := news' = news ∧ G (ys ++ [y])
def CEn (news : List (Addr × Obj)) (G : List Value → Prop) (ys : List Value) (_y : Value) (news' : List (Addr × Obj)) : Prop := news' = news ∧ G ys
section
open LCg
variable {prog : Program} {w : World} {A : Around} {h₀ : Heap} {L : Addr} {m : Str → Option Value} {env : Env} {ct elt : Expr} {x : Str} {scope : Scope} {cl : List (Str × Addr)} {s : Shared} {S : List (Addr × Obj) → Prop} {P : Nat → Value → Prop} {Fin : List Value → List (Addr × Obj) → Prop} {news : List (Addr × Obj)}
/-- a comprehension by what holds of the list that it has made -/
theorem rest_ind {n : Nat} (G : Nat → List Value → Prop) (h0 : G 0 [])
    (turn : ∀ i v I oI C oC D m₂ ys h tk, i < n → P i v → G i ys → NsObj oC m₂ → m₂ x = some v → Fr h₀ L h m → News h₀ L h ((I, oI) :: (C, oC) :: (D, lst ys) :: news) → Off3 I C D news → ((@Ne Nat I C) ∧ (@Ne Nat I D) ∧ (@Ne Nat C D)) →
      wpAny (model prog w) A (eval elt (compEnvC scope cl C env)) (CompEnd h₀ L m { s with heap := h, toks := tk } I oI C oC D (lst ys) S (CEl news (G (i + 1)) ys)) noE { s with heap := h, toks := tk })
    (fin : ∀ ys, G n ys → Fin ys news) : CompRest prog w A h₀ L m env elt x scope cl s S P Fin n 0 [] news := by
  have key : ∀ (j i : Nat) (ys : List Value), i + j = n → G i ys → CompRest prog w A h₀ L m env elt x scope cl s S P Fin j i ys news := by
    intro j
    induction j with
    | zero =>
      intro i ys hi hy
      have e : i = n := by omega
      subst e
      exact CompRest.zero (fin ys hy)
    | succ j ih =>
      intro i ys hi hy
      refine CompRest.succ ?_
      intro v I oI C oC D m₂ h tk E' hv hC hx F N off ne
      refine wpAny_noRaise (wpAny_mono (turn i v I oI C oC D m₂ ys h tk (by omega) hv hy hC hx F N off ne) (fun y s₂ hq => ?_) fun _ _ e => e)
      obtain ⟨h', tk', nw, e, F', N', off', hS, hn, hg⟩ := hq
      subst hn
      exact ⟨h', tk', nw, e, F', N', off', hS, ih (i + 1) _ (by omega) hg⟩
  exact key n 0 [] (by omega) h0
theorem rest_indT {n : Nat} (G : Nat → List Value → Prop) (h0 : G 0 [])
    (turn : ∀ i v I oI C oC D m₂ ys h tk, i < n → P i v → G i ys → NsObj oC m₂ → m₂ x = some v → Fr h₀ L h m → News h₀ L h ((I, oI) :: (C, oC) :: (D, lst ys) :: news) → Off3 I C D news → ((@Ne Nat I C) ∧ (@Ne Nat I D) ∧ (@Ne Nat C D)) →
      wpAny (model prog w) A (isTrue ct (compEnvC scope cl C env) (eval ct (compEnvC scope cl C env))) (fun ok s' => if ok = true then
        wpAny (model prog w) A (eval elt (compEnvC scope cl C env)) (CompEnd h₀ L m { s with heap := h, toks := tk } I oI C oC D (lst ys) S (CEl news (G (i + 1)) ys)) noE s'
        else CompEnd h₀ L m { s with heap := h, toks := tk } I oI C oC D (lst ys) S (CEn news (G (i + 1)) ys) Value.none s') noE { s with heap := h, toks := tk })
    (fin : ∀ ys, G n ys → Fin ys news) : LCt.CompRestT prog w A h₀ L m env ct elt x scope cl s S P Fin n 0 [] news := by
  have key : ∀ (j i : Nat) (ys : List Value), i + j = n → G i ys → LCt.CompRestT prog w A h₀ L m env ct elt x scope cl s S P Fin j i ys news := by
    intro j
    induction j with
    | zero =>
      intro i ys hi hy
      have e : i = n := by omega
      subst e
      exact LCt.CompRestT.zero (fin ys hy)
    | succ j ih =>
      intro i ys hi hy
      refine LCt.CompRestT.succ ?_
      intro v I oI C oC D m₂ h tk E' hv hC hx F N off ne
      refine wpAny_noRaise (wpAny_mono (turn i v I oI C oC D m₂ ys h tk (by omega) hv hy hC hx F N off ne) (fun ok s₂ hq => ?_) fun _ _ e => e)
      cases ok with
      | true =>
        simp only [if_true] at hq ⊢
        refine wpAny_mono hq (fun y s₃ hq => ?_) fun _ _ e => e.elim
        obtain ⟨h', tk', nw, e, F', N', off', hS, hn, hg⟩ := hq
        subst hn
        exact ⟨h', tk', nw, e, F', N', off', hS, ih (i + 1) _ (by omega) hg⟩
      | false =>
        simp only [Bool.false_eq_true, if_false] at hq ⊢
        obtain ⟨h', tk', nw, e, F', N', off', hS, hn, hg⟩ := hq
        subst hn
        exact ⟨h', tk', nw, e, F', N', off', hS, ih (i + 1) _ (by omega) hg⟩
  exact key n 0 [] (by omega) h0
end
theorem strs_of_append {vs : List Value} {ys : List Str} {y : Str} {t : Tok} (h : StrsAre vs ys) : StrsAre (vs ++ [.str y t]) (ys ++ [y]) := strs_append h (.cons _ _ .nil)

def Offs (s1 : Shared) (M : Nat) : Prop := (@Ne Nat (s1.heap.objs.size + 1 + 1 + 1) M) ∧ (@Ne Nat (s1.heap.objs.size + 1 + 1) M) ∧ (@Ne Nat (s1.heap.objs.size + 1) M)
/-- after «modes = ..» -/
def LP1 (s1 : Shared) (sl : Addr) (oP oR oM : Obj) (ms : List Int) (s' : Shared) : Prop :=
  ∃ (M : Nat) (ys : List Value), IntsAre ys ms ∧ Offs s1 M ∧
    LawSt s1.heap s1.heap.objs.size s1 [(Str.ofString "script", .ref sl), (Str.ofString "modes", .ref M)] [(M, LCg.lst ys), (s1.heap.objs.size + 1 + 1 + 1, oP), (s1.heap.objs.size + 1 + 1, oR), (s1.heap.objs.size + 1, oM)] s'
/-- after «rows = ..» -/
def LP2 (s1 : Shared) (sl : Addr) (ms : List Int) (s' : Shared) : Prop :=
  ∃ (M R : Nat) (ys rs : List Value) (oP oR oM : Obj) (vP vR vM : Option Value), IntsAre ys ms ∧ StrsAre rs (ms.map letters) ∧ oP.data = .cell vP ∧ oR.data = .cell vR ∧ oM.data = .cell vM ∧ Offs s1 M ∧ Offs s1 R ∧ M ≠ R ∧
    LawSt s1.heap s1.heap.objs.size s1 [(Str.ofString "script", .ref sl), (Str.ofString "modes", .ref M), (Str.ofString "rows", .ref R)] [(R, LCg.lst rs), (M, LCg.lst ys), (s1.heap.objs.size + 1 + 1 + 1, oP), (s1.heap.objs.size + 1 + 1, oR), (s1.heap.objs.size + 1, oM)] s'
end Mine
namespace Mine
local macro_rules | `(tactic| k_ne) => `(tactic| (refine neN ?_; (try dsimp only); first | assumption | (apply Ne.symm; assumption) | (apply Nat.ne_of_lt; assumption) | (apply Nat.ne_of_gt; assumption) | ((repeat ((first | (rename (_ ∧ _) ∧ _ => hcc) | (rename (_ ≠ _) ∧ _ => hcc) | (rename (@LT.lt Nat _ _ _) ∧ _ => hcc)); obtain ⟨_, _⟩ := hcc)); first | assumption | (apply Ne.symm; assumption) | (apply Nat.ne_of_lt; assumption) | (apply Nat.ne_of_gt; assumption))))
section
variable {prog : Program} {w : World} {A : Around} {s : Shared} {h₀ : Heap} {L : Addr} {m : Str → Option Value} {news : List (Addr × Obj)}
theorem next_rng {I : Addr} {a : Int} {i n : Nat} {E : Value → Shared → Prop} {Q : Option Value → Shared → Prop} (hh : A.handled = none)
    (F : Fr h₀ L s.heap m) (N : News h₀ L s.heap ((I, itR (a + (i : Int)) ((n : Int) - (i : Int))) :: news)) (off : ∀ p ∈ news, p.1 ≠ I) (hi : i ≤ n)
    (h1 : ∀ t h' tk, i < n → Fr h₀ L h' m → News h₀ L h' ((I, itR (a + ((i + 1 : Nat) : Int)) ((n : Int) - ((i + 1 : Nat) : Int))) :: news) → Q (some (.int (a + (i : Int)) t)) { s with heap := h', toks := tk })
    (h2 : ∀ h' tk, i = n → Fr h₀ L h' m → News h₀ L h' news → Q none { s with heap := h', toks := tk }) :
    wpAny (model prog w) A (pyNext (.ref I)) Q E s := by
  have hI := N _ (.head _)
  have W := LCg.range_walks (prog := prog) (w := w) (A := A) (I := I) hh a n
  have hst : IsRangeIter s.heap I (a + (i : Nat) * 1) ((n : Int) - (i : Nat)) 1 := by rw [Int.mul_one]; exact hI.1
  have next : ∀ h₁ : Heap, (∀ b o, b ∉ [I] → s.heap.get? b = some o → h₁.get? b = some o) → Fr h₀ L h₁ m ∧ News h₀ L h₁ news := fun h₁ k => ⟨LCg.fr_but F k hI.2.1.symm hI.2.2, LCg.news_but N.tail' k off⟩
  by_cases hlt : i < n
  · refine W.item i s _ _ hlt hst fun v h' tk hP hst' hk => ?_
    obtain ⟨t, rfl⟩ := hP
    obtain ⟨F', N'⟩ := next h' hk
    refine h1 t h' tk hlt F' fun p hp => ?_
    rcases List.mem_cons.mp hp with rfl | hp
    · refine ⟨?_, hI.2⟩
      have : IsRangeIter h' I (a + ((i + 1 : Nat) : Int) * 1) ((n : Int) - ((i + 1 : Nat) : Int)) 1 := hst'
      rw [Int.mul_one] at this
      exact this
    · exact N' p hp
  · have e : i = n := by omega
    subst e
    refine W.done s _ _ hst fun h' tk hk => ?_
    obtain ⟨F', N'⟩ := next h' hk
    exact h2 h' tk rfl F' N'
theorem iter_rng {r : Addr} {a b : Int} {t u v : Tok} {n : Nat} {E : Value → Shared → Prop} {Q : Value → Shared → Prop} (hr : IsRange s.heap r a b 1 t u v) (hs : Builtin.Range.small a b 1 = true) (hn : Builtin.Range.rangeSize a b 1 = (n : Int))
    (F : Fr h₀ L s.heap m) (N : News h₀ L s.heap news)
    (h : ∀ I h', Fr h₀ L h' m → News h₀ L h' ((I, itR (a + ((0 : Nat) : Int)) ((n : Int) - ((0 : Nat) : Int))) :: news) → (∀ p ∈ news, p.1 ≠ I) → Q (.ref I) { s with heap := h' }) :
    wpAny (model prog w) A (pyIter (.ref r)) Q E s := by
  refine wpAny_pyIter_range hr hs ?_
  rw [hn]
  have e : ({ cls := .type "range_iterator", data := .fields #[rawInt a, rawInt (n : Int), rawInt 1] } : Obj) = itR (a + ((0 : Nat) : Int)) ((n : Int) - ((0 : Nat) : Int)) := by simp [itR]
  rw [e]
  exact h _ _ (F.push _) (N.push F _) fun p hp => Nat.ne_of_lt (Heap.lt_size (N p hp).1)
theorem turn1 {env : Env} {E : Value → Shared → Prop} {x : Str} {px : Pos} {it v : Value} {Q : Unit → Shared → Prop} (F : Fr h₀ env.locals s.heap m) (N : News h₀ env.locals s.heap news)
    (hx : env.kindOf x = some .local) (hp : (env.scope.kind == .class || (env.scope.kind == .module && env.locals != env.globals)) = false)
    (h : ∀ h' tk, Fr h₀ env.locals h' (fun y => if y = x then some v else m y) → News h₀ env.locals h' news → Q () { s with heap := h', toks := tk }) :
    wpAny (model prog w) A (letOwnedTupleGo (.Name x px) it v) (fun _ s' => wpAny (model prog w) A (assign (.Name x px) env v) Q E s') E s := by
  refine wpAny_pure (wpAny_assign_Name (wpAny_storeName_local hx F.ns (fun h₄ hn₄ hs₄ => ?_) hp))
  exact h h₄ _ (F.set hn₄ hs₄) (N.set hs₄)
def LstIt (o : Obj) (t : Addr) (i : Nat) : Prop := o.cls = .type "list_iterator" ∧ o.data = .fields #[.ref t, .int i 0]
theorem next_lst {I l : Addr} {o : Obj} {i : Nat} {ys : List Value} {E : Value → Shared → Prop} {Q : Option Value → Shared → Prop} (hh : A.handled = none)
    (F : Fr h₀ L s.heap m) (N : News h₀ L s.heap ((I, o) :: news)) (off : ∀ p ∈ news, p.1 ≠ I) (ho : LstIt o l i) (hl : (l, LCg.lst ys) ∈ news)
    (h1 : ∀ x h' o', ys[i]? = some x → Fr h₀ L h' m → News h₀ L h' ((I, o') :: news) → LstIt o' l (i + 1) → Q (some x) { s with heap := h' })
    (h2 : ∀ h', ys[i]? = none → Fr h₀ L h' m → News h₀ L h' news → Q none { s with heap := h' }) :
    wpAny (model prog w) A (pyNext (.ref I)) Q E s := by
  have hI := N (I, o) (.head _)
  have hit : s.heap.IsListIter I l i := ⟨o, hI.1, ho⟩
  have ht' : s.heap.IsList l ys.toArray := ⟨_, (N _ (.tail _ hl)).1, rfl, _, rfl⟩
  cases hx : ys[i]? with
  | some x =>
    refine wpAny_pyNext_list_item hit ht' (by simpa using hx) fun h' hit' hs => ?_
    obtain ⟨o', ho', r'⟩ := hit'
    refine h1 x h' o' hx (F.change hs hI.2.1 hI.2.2) (fun p hp => ?_) r'
    rcases List.mem_cons.mp hp with rfl | hp
    · exact ⟨ho', hI.2⟩
    · have z := N p (.tail _ hp)
      exact ⟨(hs.2 _ (off p hp)).trans z.1, z.2⟩
  | none =>
    refine wpAny_pyNext_list_end hh hit ht' (by simpa using hx) fun h' hs => ?_
    refine h2 h' hx ⟨F.ns.at' fun o e => hs _ o (Ne.symm hI.2.1) e, fun b o e => hs b o (fun q => ?_) (F.keep b o e), F.above⟩ (fun p hp => ?_)
    · subst q; have := hI.2.2; rw [e] at this; cases this
    · have z := N p (.tail _ hp)
      exact ⟨hs _ _ (off p hp) z.1, z.2⟩
theorem iter_lst {l : Addr} {ys : List Value} {E : Value → Shared → Prop} {Q : Value → Shared → Prop} (F : Fr h₀ L s.heap m) (N : News h₀ L s.heap news) (hl : (l, LCg.lst ys) ∈ news)
    (h : ∀ I o h', Fr h₀ L h' m → News h₀ L h' ((I, o) :: news) → (∀ p ∈ news, p.1 ≠ I) → LstIt o l 0 → Q (.ref I) { s with heap := h' }) :
    wpAny (model prog w) A (pyIter (.ref l)) Q E s := by
  refine wpAny_pyIter_list ⟨_, (N _ hl).1, rfl, _, rfl⟩ ?_
  exact h _ _ _ (F.push _) (N.push F _) (fun p hp => Nat.ne_of_lt (Heap.lt_size (N p hp).1)) ⟨rfl, rfl⟩
theorem iter_lstit {I l : Addr} {o : Obj} {i : Nat} {E : Value → Shared → Prop} {Q : Value → Shared → Prop} (N : News h₀ L s.heap ((I, o) :: news)) (ho : LstIt o l i) (h : Q (.ref I) s) :
    wpAny (model prog w) A (pyIter (.ref I)) Q E s := wpAny_pyIter_listiter ⟨o, (N _ (.head _)).1, ho⟩ h
end
end Mine
namespace Mine
local macro_rules | `(tactic| k_ne) => `(tactic| (refine neN ?_; (try dsimp only); first | assumption | (apply Ne.symm; assumption) | (apply Nat.ne_of_lt; assumption) | (apply Nat.ne_of_gt; assumption) | ((repeat ((first | (rename (_ ∧ _) ∧ _ => hcc) | (rename (_ ≠ _) ∧ _ => hcc) | (rename (@LT.lt Nat _ _ _) ∧ _ => hcc)); obtain ⟨_, _⟩ := hcc)); first | assumption | (apply Ne.symm; assumption) | (apply Nat.ne_of_lt; assumption) | (apply Nat.ne_of_gt; assumption))))
local macro_rules | `(tactic| k_all) => `(tactic| assumption)
local macro_rules | `(tactic| k_room) => `(tactic| ktr_room)
def ltr (k : Int) : Str := Txt.item (Str.ofString "xrw") (k.fmod 3)
def marks (a b : Str) (k : Int) : Int := Spec.countIn (PyData.str (ltr k)) (List.map PyData.str [Txt.item a k, Txt.item b k])
def metc (a b : Str) (e : Bool) (k : Int) : Str := if marks a b k = 2 ∨ (marks a b k = 1 ∧ e = true) then ltr k else Str.ofString "-"
def met (a b : Str) (e : Bool) : Nat → Str
  | 0 => Str.ofString "-"
  | i + 1 => met a b e i ++ metc a b e (1 + (i : Int))
theorem len_append (x y : Str) : (x ++ y).length = x.length + y.length := by
  show (x.cps ++ y.cps).size = x.cps.size + y.cps.size
  simp
theorem metc_len (a b : Str) (e : Bool) (k : Int) : (metc a b e k).length = 1 := by
  unfold metc
  split <;> rfl
theorem met_len (a b : Str) (e : Bool) : ∀ i, (met a b e i).length = i + 1
  | 0 => rfl
  | i + 1 => by
    show (met a b e i ++ metc a b e (1 + (i : Int))).length = _
    rw [len_append, met_len a b e i, metc_len]
def LMp (g : Heap) (L : Addr) (s : Shared) (a b : Str) (e : Bool) (ta tb : Tok) (i : Nat) (news : List (Addr × Obj)) (s' : Shared) : Prop :=
  ∃ h tk m t, s' = { s with heap := h, toks := tk } ∧ Fr g L h m ∧ News g L h news ∧ m (Str.ofString "found") = some (.str (met a b e i) t) ∧ m (Str.ofString "one") = some (.str a ta) ∧ m (Str.ofString "other") = some (.str b tb) ∧ m (Str.ofString "either") = some (.bool e)
theorem metc1 {a b : Str} {e : Bool} {k : Int} (h : marks a b k = 2) : metc a b e k = ltr k := if_pos (.inl h)
theorem metc2 {a b : Str} {e : Bool} {k : Int} (h : marks a b k = 1) (he : e = true) : metc a b e k = ltr k := if_pos (.inr ⟨h, he⟩)
theorem metc3 {a b : Str} {e : Bool} {k : Int} (h : marks a b k ≠ 2) (he : e = false) : metc a b e k = Str.ofString "-" := if_neg (fun q => q.elim h fun q => by rw [he] at q; exact Bool.false_ne_true q.2)
theorem metc4 {a b : Str} {e : Bool} {k : Int} (h : marks a b k ≠ 2) (h1 : marks a b k ≠ 1) : metc a b e k = Str.ofString "-" := if_neg (fun q => q.elim h fun q => h1 q.1)
theorem lm_turn {g h : Heap} {L I : Addr} {s : Shared} {a b c : Str} {e : Bool} {ta tb t : Tok} {news : List (Addr × Obj)} {m : Str → Option Value} {i tk : Nat} {p : Addr × Obj}
    (F : Fr g L h m) (N : News g L h (p :: (I, itR (1 + ((i + 1 : Nat) : Int)) (((9 : Nat) : Int) - ((i + 1 : Nat) : Int))) :: news)) (hi : i < 9) (hc : metc a b e (1 + (i : Int)) = c)
    (h1 : m (Str.ofString "found") = some (.str (met a b e i ++ c) t)) (h2 : m (Str.ofString "one") = some (.str a ta)) (h3 : m (Str.ofString "other") = some (.str b tb)) (h4 : m (Str.ofString "either") = some (.bool e)) :
    Turned (fun k s' => ∃ i : Nat, i ≤ 9 ∧ k = 9 - i ∧ LMp g L s a b e ta tb i ((I, itR (1 + (i : Int)) (((9 : Nat) : Int) - (i : Int))) :: news) s') (9 - i) { s with heap := h, toks := tk } :=
  ⟨9 - (i + 1), by omega, i + 1, by omega, rfl, h, tk, m, t, rfl, F, News.tail' N, by rw [h1, ← hc]; rfl, h2, h3, h4⟩
theorem lm_call (w : World) (a b : Str) (ta tb : Tok) (e : Bool) (ha : a.length = 10) (hb : b.length = 10) : Gives w 126 [.str a ta, .str b tb, .bool e] (fun t => .str (met a b e 9) t) 3 24 := by
  unfold Gives
  k_fill
  w_top off
  intro p loose mean mg mb dp un gd cn cs a0 ccd cl outer A₀ base h₀ L m news s Q E B F X N T hk hd hu hret
  refine wpAny_call ?_
  k_dflt ktr_enter
  rename_i g L' hx FG F0 N0 BB X1 TT
  refine wpAny_noRaise ?_
  refine stmt_seq (LMp g L' s a b e ta tb 0 news) ?_ ?_
  · k_steps
    rename Fr _ _ _ _ => Fz
    rename News _ _ _ _ => Nz
    exact ⟨_, _, _, _, rfl, Fz, Nz, rfl, rfl, rfl, rfl⟩
  rintro s' ⟨h1, tk1, m1, t1, rfl, F1, N1, k1, k2, k3, k4⟩
  clear F0 N0
  refine stmt_seq (LMp g L' s a b e ta tb 9 news) ?_ ?_
  · refine wpAny_noRaise (forE ?_)
    k_steps
    rename IsRange _ _ _ _ _ _ _ _ => hR
    rename Fr _ _ _ _ => F2
    rename News _ _ _ _ => N2
    refine iter_rng (n := 9) hR (by decide) (by decide) F2 N2 fun I h3 F3 N3 off => ?_
    clear F2 N2
    refine ⟨fun k s' => ∃ i, i ≤ 9 ∧ k = 9 - i ∧ LMp g L' s a b e ta tb i ((I, itR (1 + (i : Int)) (((9 : Nat) : Int) - (i : Int))) :: news) s', 9, ⟨0, by decide, rfl, _, _, _, _, rfl, F3, N3, k1, k2, k3, k4⟩, ?_⟩
    rintro k s' ⟨i, hi, rfl, h4, tk4, m4, t4, rfl, F4, N4, c1, c2, c3, c4⟩
    clear F3 N3
    refine next_rng (by rfl) F4 N4 off hi (fun tk' h5 tk5 hlt F5 N5 => ?_) (fun h5 tk5 hie F5 N5 => ?_)
    · clear F4 N4
      refine turn1 F5 N5 (by rfl) (by rfl) fun h6 tk6 F6 N6 => ?_
      clear F5 N5
      have F7 := Fr.know (x := Str.ofString "either") F6 (by rw [if_neg (by decide)]; exact c4)
      have F8 := Fr.know (x := Str.ofString "other") F7 (by rw [if_neg (by decide), if_neg (by decide)]; exact c3)
      have F9 := Fr.know (x := Str.ofString "one") F8 (by rw [if_neg (by decide), if_neg (by decide), if_neg (by decide)]; exact c2)
      have F10 := Fr.know (x := Str.ofString "found") F9 (by rw [if_neg (by decide), if_neg (by decide), if_neg (by decide), if_neg (by decide)]; exact c1)
      clear F6 F7 F8 F9
      have hfit : ∀ z : Str, z.length = 1 → (met a b e i).length + z.length ≤ sizeLine := fun z hz => by
        rw [hz, met_len]
        have : (10 : Nat) + 1 ≤ sizeLine := by decide
        omega
      k_steps
      all_goals (refine add_str (fun t' tk' => ?_) (hfit _ rfl))
      all_goals k_steps
      all_goals (rename Fr _ _ _ _ => Fz; rename News _ _ _ _ => Nz)
      · exact lm_turn Fz Nz hlt (metc1 (by assumption)) rfl rfl rfl rfl
      · exact lm_turn Fz Nz hlt (metc2 (by assumption) (by assumption)) rfl rfl rfl rfl
      · exact lm_turn Fz Nz hlt (metc3 (by assumption) (by assumption)) rfl rfl rfl rfl
      · exact lm_turn Fz Nz hlt (metc4 (by assumption) (by assumption)) rfl rfl rfl rfl
    · subst hie
      exact wpAny_execs_nil ⟨rfl, h5, tk5, m4, t4, rfl, F5, N5, c1, c2, c3, c4⟩
  rintro s' ⟨h2, tk2, m2, t2, rfl, F2, N2, c1, c2, c3, c4⟩
  have F3 := Fr.know (x := Str.ofString "found") F2 c1
  clear F2
  refine wpAny_mono (E := noE) ?_ (fun _ _ h => h) (fun _ _ h => h)
  k_steps
  exact hret _ _ _ (by assumption) (by assumption)
end Mine
namespace Mine
local macro_rules | `(tactic| k_ne) => `(tactic| (refine neN ?_; (try dsimp only); first | assumption | (apply Ne.symm; assumption) | (apply Nat.ne_of_lt; assumption) | (apply Nat.ne_of_gt; assumption) | ((repeat ((first | (rename (_ ∧ _) ∧ _ => hcc) | (rename (_ ≠ _) ∧ _ => hcc) | (rename (@LT.lt Nat _ _ _) ∧ _ => hcc)); obtain ⟨_, _⟩ := hcc)); first | assumption | (apply Ne.symm; assumption) | (apply Nat.ne_of_lt; assumption) | (apply Nat.ne_of_gt; assumption))))
local macro_rules | `(tactic| k_all) => `(tactic| assumption)
local macro_rules | `(tactic| k_room) => `(tactic| ktr_room)
def GivesN (w : World) (H : List (Addr × Obj) → Prop) (f : Addr) (vs : List Value) (R : Tok → Value) (dd uu : Nat) : Prop :=
  ∀ (p : Program) (loose : List Str) (mean : ExcName → Option Value) (mg mb : Str → Option Value) (dp un : Nat) (gd : Option (List Code)) (cn : Str) (cs : Scope) (a : Addr) (ccd : Value) (cl : List (Str × Addr)) (outer : List Env) (A₀ : Around) (base h₀ : Heap) (L : Addr) (m : Str → Option Value) (news : List (Addr × Obj)) (s : Shared) (Q E : Value → Shared → Prop),
    Below A₀ base outer h₀ → Fr h₀ L s.heap m → (Mine.hd.heap_39 w.params).In h₀ → News h₀ L s.heap news → Top p loose mean mg mb h₀ → cs.kind = .function → dp + dd < recursionLimit → un + uu < cLine → H news →
    (∀ t h' tk', Fr h₀ L h' m → News h₀ L h' news → Q (R t) { s with heap := h', toks := tk' }) →
    wpAny (model PySem.Challenge.rw_xh0010_01.row.prog w) (ktrTop dp un gd cn cs L a ccd cl outer) (call (.ref f) vs) Q E s
theorem call_iter_lst {prog : Program} {w : World} {A : Around} {s : Shared} {h₀ : Heap} {L : Addr} {m : Str → Option Value} {news : List (Addr × Obj)} {l : Addr} {ys : List Value} {E : Value → Shared → Prop} {Q : Value → Shared → Prop}
    (F : Fr h₀ L s.heap m) (N : News h₀ L s.heap news) (hl : (l, LCg.lst ys) ∈ news)
    (h : ∀ I o h', Fr h₀ L h' m → News h₀ L h' ((I, o) :: news) → (∀ p ∈ news, p.1 ≠ I) → LstIt o l 0 → Q (.ref I) { s with heap := h' }) :
    wpAny (model prog w) A (call (.builtin "iter") [.ref l]) Q E s := by
  refine call_function_entry (by decide +kernel) (by decide +kernel) kdk_entry_iter (kdk_args_iter _) ?_
  unfold Builtin.«iter»
  refine wpAny_bind (m := someArgs "iter" 1 2 _) (wpAny_of_eq (a := [Value.ref l]) (by first | rfl | kernel_rfl!) ?_)
  show wpAny _ _ (pyIter (.ref l) >>= _) _ _ _
  exact wpAny_bind (iter_lst F N hl fun I o h' F' N' off ho => wpAny_pure ⟨_, rfl, h I o h' F' N' off ho⟩)
/-- inside reduce -/
def RDp (g : Heap) (L I M : Addr) (s : Shared) (f : Addr) (v : Int) (i : Nat) (news : List (Addr × Obj)) (s' : Shared) : Prop :=
  ∃ h tk m o t, s' = { s with heap := h, toks := tk } ∧ Fr g L h m ∧ News g L h ((I, o) :: news) ∧ LstIt o M i ∧ m (Str.ofString "value") = some (.int v t) ∧ m (Str.ofString "it") = some (.ref I) ∧ m (Str.ofString "function") = some (.ref f)
def RDe (g : Heap) (L : Addr) (s : Shared) (v : Int) (news : List (Addr × Obj)) (s' : Shared) : Prop :=
  ∃ h tk m t, s' = { s with heap := h, toks := tk } ∧ Fr g L h m ∧ News g L h news ∧ m (Str.ofString "value") = some (.int v t)
theorem fold_step (f : Int → Int → Int) (z : Int) {ms : List Int} {i : Nat} {q : Int} (hq : ms[i]? = some q) : (ms.take (i + 1)).foldl f z = f ((ms.take i).foldl f z) q := by
  rw [List.take_add_one, hq, List.foldl_append]
  rfl
def RD0 (g : Heap) (L M : Addr) (s : Shared) (f : Addr) (z : Int) (tz : Tok) (news : List (Addr × Obj)) (s' : Shared) : Prop :=
  ∃ I, (∀ p ∈ news, p.1 ≠ I) ∧ ∃ h tk m o, s' = { s with heap := h, toks := tk } ∧ Fr g L h m ∧ News g L h ((I, o) :: news) ∧ LstIt o M 0 ∧ m (Str.ofString "initial") = some (.int z tz) ∧ m (Str.ofString "it") = some (.ref I) ∧ m (Str.ofString "function") = some (.ref f)
theorem rd_and (w : World) (M : Addr) (ys : List Value) (ms : List Int) (hys : IntsAre ys ms) (z : Int) (tz : Tok) : GivesN w (fun news => (M, LCg.lst ys) ∈ news) 77 [.ref 84, .ref M, .int z tz] (fun t => .int (ms.foldl Builtin.bitAnd z) t) 3 24 := by
  unfold GivesN
  k_fill
  w_top off
  intro p loose mean mg mb dp un gd cn cs a0 ccd cl outer A₀ base h₀ L m news s Q E B F X N T hk hd hu hM hret
  refine wpAny_call ?_
  k_dflt (refine' code_def ?k1 ?k2 ?k3 ?k4 ?k5 ?kA ?kF ?kK ?k6 ?k7 ?k8 ?k9 ?kB ?_ ?c2 ?c3 ?c4 ?c5; (case kA => exact rfl); (case kF => exact rfl); (case kK => assumption); (case k1 => k_asm); (case k2 => k_asm); (case k3 => k_asm); (case k4 => k_asm); (case k5 => k_asm); (case k6 => k_is); (case k7 => k_is); (case k8 => ktr_room); (case k9 => exact binds_K (by k_in) rfl (by k_is) rfl rfl rfl); (case c5 => decide); (case kB => exact locs rfl); (case c2 => exact rfl); (case c3 => exact rfl); (case c4 => exact rfl); k_whole; intro g' L' h' FG' F' N' B' X' T'; (try dsimp only); (try k_fold))
  refine wpAny_noRaise ?_
  refine stmt_seq (RD0 g' L' M s 84 z tz news) ?_ ?_
  · k_steps
    refine call_iter_lst F' N' hM fun I o h2 F2 N2 off ho => ?_
    k_steps
    · trivial
    rename Fr _ _ _ _ => Fz
    rename News _ _ _ _ => Nz
    exact ⟨I, off, _, _, _, o, rfl, Fz, Nz, ho, rfl, rfl, rfl⟩
  rintro s' ⟨I, off, h2, tk2, m2, o2, rfl, F2, N2, ho2, c1, c2, c3⟩
  clear F' N'
  have F3 := Fr.know F2 c1
  have F4 := Fr.know (x := Str.ofString "function") F3 (by rw [if_neg (by decide)]; exact c3)
  have F5 := Fr.know (x := Str.ofString "it") F4 (by rw [if_neg (by decide), if_neg (by decide)]; exact c2)
  clear F2 F3 F4
  refine stmt_seq (RDp g' L' I M s 84 z 0 news) ?_ ?_
  · k_steps
    refine wpAny_is_other (by rfl) (by intro x; cases x) ?_
    k_steps
    rename Fr _ _ _ _ => Fz
    rename News _ _ _ _ => Nz
    exact ⟨_, _, _, o2, _, rfl, Fz, Nz, ho2, rfl, rfl, rfl⟩
  rintro s' ⟨h3, tk3, m3, o3, t3, rfl, F6, N6, ho3, d1, d2, d3⟩
  clear F5 N2
  have F7 := Fr.know F6 d1
  have F8 := Fr.know (x := Str.ofString "function") F7 (by rw [if_neg (by decide)]; exact d3)
  have F9 := Fr.know (x := Str.ofString "it") F8 (by rw [if_neg (by decide), if_neg (by decide)]; exact d2)
  clear F6 F7 F8
  refine stmt_seq (RDe g' L' s (ms.foldl Builtin.bitAnd z) news) ?_ ?_
  · refine forE ?_
    k_steps
    refine iter_lstit N6 ho3 ?_
    refine ⟨fun k s' => ∃ i, i ≤ ms.length ∧ k = ms.length - i ∧ RDp g' L' I M s 84 ((ms.take i).foldl Builtin.bitAnd z) i news s', ms.length, ⟨0, Nat.zero_le _, rfl, _, _, _, _, _, rfl, F9, N6, ho3, rfl, rfl, rfl⟩, ?_⟩
    rintro k s' ⟨i, hi, rfl, h4, tk4, m4, o4, t4, rfl, G1, N7, ho4, e1, e2, e3⟩
    clear F9 N6
    refine next_lst (by rfl) G1 N7 off ho4 hM (fun x h5 o5 hx G2 N8 ho5 => ?_) (fun h5 hx G2 N8 => ?_)
    · obtain ⟨q, tq, rfl, hq⟩ := IntsAre.at hys i x hx
      have hlt : i < ms.length := (List.getElem?_eq_some_iff.mp hq).1
      clear G1 N7
      refine turn1 G2 N8 (by rfl) (by rfl) fun h6 tk6 G3 N9 => ?_
      clear G2 N8
      have G4 := Fr.know (x := Str.ofString "it") G3 (by rw [if_neg (by decide)]; exact e2)
      have G5 := Fr.know (x := Str.ofString "function") G4 (by rw [if_neg (by decide), if_neg (by decide)]; exact e3)
      have G6 := Fr.know (x := Str.ofString "value") G5 (by rw [if_neg (by decide), if_neg (by decide), if_neg (by decide)]; exact e1)
      clear G3 G4 G5
      k_steps
      rename Fr _ _ _ _ => Fz
      rename News _ _ _ _ => Nz
      rw [← fold_step Builtin.bitAnd z hq] at Fz
      exact ⟨ms.length - (i + 1), by omega, i + 1, by omega, rfl, _, _, _, o5, _, rfl, Fz, Nz, ho5, rfl, rfl, rfl⟩
    · have hge : ms.length ≤ i := by rw [← hys.length]; simpa using hx
      rw [List.take_of_length_le hge] at e1
      exact wpAny_execs_nil ⟨rfl, h5, tk4, m4, t4, rfl, G2, N8, e1⟩
  rintro s' ⟨h2, tk2, m2, t2, rfl, F2, N2, c1⟩
  have F3 := Fr.know F2 c1
  clear F2
  refine wpAny_mono (E := noE) ?_ (fun _ _ h => h) (fun _ _ h => h)
  k_steps
  exact hret _ _ _ (by assumption) (by assumption)
theorem rd_or (w : World) (M : Addr) (ys : List Value) (ms : List Int) (hys : IntsAre ys ms) (z : Int) (tz : Tok) : GivesN w (fun news => (M, LCg.lst ys) ∈ news) 77 [.ref 112, .ref M, .int z tz] (fun t => .int (ms.foldl Builtin.bitOr z) t) 3 24 := by
  unfold GivesN
  k_fill
  w_top off
  intro p loose mean mg mb dp un gd cn cs a0 ccd cl outer A₀ base h₀ L m news s Q E B F X N T hk hd hu hM hret
  refine wpAny_call ?_
  k_dflt (refine' code_def ?k1 ?k2 ?k3 ?k4 ?k5 ?kA ?kF ?kK ?k6 ?k7 ?k8 ?k9 ?kB ?_ ?c2 ?c3 ?c4 ?c5; (case kA => exact rfl); (case kF => exact rfl); (case kK => assumption); (case k1 => k_asm); (case k2 => k_asm); (case k3 => k_asm); (case k4 => k_asm); (case k5 => k_asm); (case k6 => k_is); (case k7 => k_is); (case k8 => ktr_room); (case k9 => exact binds_K (by k_in) rfl (by k_is) rfl rfl rfl); (case c5 => decide); (case kB => exact locs rfl); (case c2 => exact rfl); (case c3 => exact rfl); (case c4 => exact rfl); k_whole; intro g' L' h' FG' F' N' B' X' T'; (try dsimp only); (try k_fold))
  refine wpAny_noRaise ?_
  refine stmt_seq (RD0 g' L' M s 112 z tz news) ?_ ?_
  · k_steps
    refine call_iter_lst F' N' hM fun I o h2 F2 N2 off ho => ?_
    k_steps
    · trivial
    rename Fr _ _ _ _ => Fz
    rename News _ _ _ _ => Nz
    exact ⟨I, off, _, _, _, o, rfl, Fz, Nz, ho, rfl, rfl, rfl⟩
  rintro s' ⟨I, off, h2, tk2, m2, o2, rfl, F2, N2, ho2, c1, c2, c3⟩
  clear F' N'
  have F3 := Fr.know F2 c1
  have F4 := Fr.know (x := Str.ofString "function") F3 (by rw [if_neg (by decide)]; exact c3)
  have F5 := Fr.know (x := Str.ofString "it") F4 (by rw [if_neg (by decide), if_neg (by decide)]; exact c2)
  clear F2 F3 F4
  refine stmt_seq (RDp g' L' I M s 112 z 0 news) ?_ ?_
  · k_steps
    refine wpAny_is_other (by rfl) (by intro x; cases x) ?_
    k_steps
    rename Fr _ _ _ _ => Fz
    rename News _ _ _ _ => Nz
    exact ⟨_, _, _, o2, _, rfl, Fz, Nz, ho2, rfl, rfl, rfl⟩
  rintro s' ⟨h3, tk3, m3, o3, t3, rfl, F6, N6, ho3, d1, d2, d3⟩
  clear F5 N2
  have F7 := Fr.know F6 d1
  have F8 := Fr.know (x := Str.ofString "function") F7 (by rw [if_neg (by decide)]; exact d3)
  have F9 := Fr.know (x := Str.ofString "it") F8 (by rw [if_neg (by decide), if_neg (by decide)]; exact d2)
  clear F6 F7 F8
  refine stmt_seq (RDe g' L' s (ms.foldl Builtin.bitOr z) news) ?_ ?_
  · refine forE ?_
    k_steps
    refine iter_lstit N6 ho3 ?_
    refine ⟨fun k s' => ∃ i, i ≤ ms.length ∧ k = ms.length - i ∧ RDp g' L' I M s 112 ((ms.take i).foldl Builtin.bitOr z) i news s', ms.length, ⟨0, Nat.zero_le _, rfl, _, _, _, _, _, rfl, F9, N6, ho3, rfl, rfl, rfl⟩, ?_⟩
    rintro k s' ⟨i, hi, rfl, h4, tk4, m4, o4, t4, rfl, G1, N7, ho4, e1, e2, e3⟩
    clear F9 N6
    refine next_lst (by rfl) G1 N7 off ho4 hM (fun x h5 o5 hx G2 N8 ho5 => ?_) (fun h5 hx G2 N8 => ?_)
    · obtain ⟨q, tq, rfl, hq⟩ := IntsAre.at hys i x hx
      have hlt : i < ms.length := (List.getElem?_eq_some_iff.mp hq).1
      clear G1 N7
      refine turn1 G2 N8 (by rfl) (by rfl) fun h6 tk6 G3 N9 => ?_
      clear G2 N8
      have G4 := Fr.know (x := Str.ofString "it") G3 (by rw [if_neg (by decide)]; exact e2)
      have G5 := Fr.know (x := Str.ofString "function") G4 (by rw [if_neg (by decide), if_neg (by decide)]; exact e3)
      have G6 := Fr.know (x := Str.ofString "value") G5 (by rw [if_neg (by decide), if_neg (by decide), if_neg (by decide)]; exact e1)
      clear G3 G4 G5
      k_steps
      rename Fr _ _ _ _ => Fz
      rename News _ _ _ _ => Nz
      rw [← fold_step Builtin.bitOr z hq] at Fz
      exact ⟨ms.length - (i + 1), by omega, i + 1, by omega, rfl, _, _, _, o5, _, rfl, Fz, Nz, ho5, rfl, rfl, rfl⟩
    · have hge : ms.length ≤ i := by rw [← hys.length]; simpa using hx
      rw [List.take_of_length_le hge] at e1
      exact wpAny_execs_nil ⟨rfl, h5, tk4, m4, t4, rfl, G2, N8, e1⟩
  rintro s' ⟨h2, tk2, m2, t2, rfl, F2, N2, c1⟩
  have F3 := Fr.know F2 c1
  clear F2
  refine wpAny_mono (E := noE) ?_ (fun _ _ h => h) (fun _ _ h => h)
  k_steps
  exact hret _ _ _ (by assumption) (by assumption)
end Mine
namespace Mine
def pidx (n : Nat) (k : Int) : Nat := if k < 0 then (k + n).toNat else k.toNat
section
variable {prog : Program} {w : World} {A : Around} {E : Value → Shared → Prop} {s : Shared} {h₀ : Heap} {L : Addr} {news : List (Addr × Obj)}
/-- an item of a made list, the place counted from either end -/
theorem item_any {value slice : PySem.Expr} {l : Addr} {ys : List Value} {k : Int} {u : Tok} {v : Value} {Q : Value → Shared → Prop} (N : News h₀ L s.heap news) (hm : (l, LCg.lst ys) ∈ news)
    (h0 : -(ys.length : Int) ≤ k) (h1 : k < (ys.length : Int)) (hsz : ys.length ≤ 1000) (hx : ys[pidx ys.length k]? = some v) (h : Q v s)
    (hs : subscripted slice false (.ref l) (.int k u) = operate [.ref l, .int k u] (getItem (.ref l) (.int k u)) := by with_unfolding_all rfl) :
    wpAny (model prog w) A (subscriptTail value slice (.ref l) (.int k u)) Q E s := by
  have hl : s.heap.IsList l ys.toArray := ⟨_, (N _ hm).1, rfl, _, rfl⟩
  refine tail_any hl.typeIs slot_list_getitem.lookup ?_ hs
  unfold pidx at hx
  by_cases hk : k < 0
  · rw [if_pos hk] at hx
    exact wpAny_getItem_list_neg hl hk (by simpa using h0) (by omega) (by simpa using hx) h
  · rw [if_neg hk] at hx
    exact wpAny_getItem_list hl (by omega) (by omega) (by simpa using hx) h
end
/-- the law's state after «rows = ..», with names and objects more -/
def LPk (s1 : Shared) (sl : Addr) (M R : Nat) (ys rs : List Value) (vR vM : Option Value → Prop) (kn : List (Str × Value)) (extra : List (Addr × Obj)) (s' : Shared) : Prop :=
  ∃ (oP oR oM : Obj) (uP uR uM : Option Value), oP.data = .cell uP ∧ oR.data = .cell uR ∧ oM.data = .cell uM ∧ vR uR ∧ vM uM ∧
    LawSt s1.heap s1.heap.objs.size s1 ((Str.ofString "script", .ref sl) :: (Str.ofString "modes", .ref M) :: (Str.ofString "rows", .ref R) :: kn)
      (extra ++ [(R, LCg.lst rs), (M, LCg.lst ys), (s1.heap.objs.size + 1 + 1 + 1, oP), (s1.heap.objs.size + 1 + 1, oR), (s1.heap.objs.size + 1, oM)]) s'
def over : List (Str × Value) → (Str → Option Value) → Str → Option Value
  | [], m => m
  | p :: r, m => fun y => if y = p.1 then some p.2 else over r m y
theorem over_eq : ∀ {kn : List (Str × Value)} {m : Str → Option Value}, (∀ p ∈ kn, m p.1 = some p.2) → over kn m = m
  | [], _, _ => rfl
  | p :: r, m, hk => by
    funext y
    show (if y = p.1 then some p.2 else over r m y) = m y
    rw [over_eq fun q hq => hk q (.tail _ hq)]
    by_cases c : y = p.1
    · rw [if_pos c, c]; exact (hk p (.head _)).symm
    · rw [if_neg c]
theorem Fr.all {h₀ h : Heap} {L : Addr} {kn : List (Str × Value)} {m : Str → Option Value} (F : Fr h₀ L h m) (hk : KnL m kn) : Fr h₀ L h (over kn m) := by
  rw [over_eq hk.mem]; exact F
theorem knows_set {m : Str → Option Value} {x : Str} {v : Value} : ∀ {kn : List (Str × Value)}, KnL m kn → (kn.all fun p => decide (p.1 ≠ x)) = true → KnL (fun y => if y = x then some v else m y) kn
  | [], _, _ => trivial
  | p :: r, hk, hx => by
    rw [List.all_cons, Bool.and_eq_true] at hx
    exact ⟨by show (if p.1 = x then some v else m p.1) = _; rw [if_neg (of_decide_eq_true hx.1)]; exact hk.1, knows_set hk.2 hx.2⟩
theorem off5 {I a b c d e : Nat} {oa ob oc od oe : Obj} (h1 : (@Ne Nat a I)) (h2 : (@Ne Nat b I)) (h3 : (@Ne Nat c I)) (h4 : (@Ne Nat d I)) (h5 : (@Ne Nat e I)) : ∀ p ∈ [((a : Addr), oa), (b, ob), (c, oc), (d, od), (e, oe)], p.1 ≠ I := by
  intro p hp
  simp only [List.mem_cons, List.not_mem_nil, or_false] at hp
  rcases hp with rfl | rfl | rfl | rfl | rfl
  · exact h1
  · exact h2
  · exact h3
  · exact h4
  · exact h5
end Mine
namespace Mine
theorem GivesN.use {w : World} {H : List (Addr × Obj) → Prop} {f : Addr} {vs : List Value} {R : Tok → Value} {dd uu : Nat} (G : GivesN w H f vs R dd uu) {p : Program} {loose : List Str} {mean : ExcName → Option Value} {mg mb : Str → Option Value} {dp un : Nat} {gd : Option (List Code)} {cn : Str} {cs : Scope} {a : Addr} {ccd : Value} {cl : List (Str × Addr)} {outer : List Env} {A₀ : Around} {base h₀ : Heap} {L : Addr} {m : Str → Option Value} {news : List (Addr × Obj)} {s : Shared} {Q E : Value → Shared → Prop}
    (B : Below A₀ base outer h₀) (F : Fr h₀ L s.heap m) (X : (Mine.hd.heap_39 w.params).In h₀) (N : News h₀ L s.heap news) (T : Top p loose mean mg mb h₀) (hk : cs.kind = .function) (hd : dp + dd < recursionLimit) (hu : un + uu < cLine) (hn : H news)
    (h : ∀ t h' tk', Fr h₀ L h' m → News h₀ L h' news → Q (R t) { s with heap := h', toks := tk' }) :
    wpAny (model PySem.Challenge.rw_xh0010_01.row.prog w) (ktrTop dp un gd cn cs L a ccd cl outer) (call (.ref f) vs) Q E s := G _ _ _ _ _ _ _ _ _ _ _ _ _ _ _ _ _ _ _ _ _ _ _ B F X N T hk hd hu hn h
theorem can_strs : ∀ us : List Str, (∀ u ∈ us, PyData.strOk u = true) → PyData.canLayAll0 (us.map PyData.str) = true
  | [], _ => rfl
  | u :: r, h => by simp [PyData.canLayAll0, PyData.canLay0, can_strs r fun v hv => h v (.tail _ hv), h u (.head _)]
theorem depth_strs : ∀ us : List Str, PyData.depthAll (us.map PyData.str) = 0
  | [] => rfl
  | _ :: r => by simp [PyData.depthAll, PyData.depth, depth_strs r]
theorem shaped_strs (us : List Str) (h : ∀ u ∈ us, PyData.strOk u = true) : SeqAt.shaped (.list (us.map PyData.str)) = true := by
  simp [SeqAt.shaped, PyData.canLay0, PyData.depth, can_strs us h, depth_strs]
theorem same_strs0 (us : List Str) : PySem.Spec.same (.list (us.map PyData.str)) (.list (([] : List Str).map PyData.str)) = us.isEmpty := by
  cases us <;> simp [PySem.Spec.same, PySem.Spec.sameAll]
section
variable {prog : Program} {w : World} {A : Around} {E : Value → Shared → Prop} {s : Shared} {h₀ : Heap} {L : Addr} {news : List (Addr × Obj)}
/-- a made list of texts against a new empty one -/
theorem ne_empty {a b : Addr} {xs : List Value} {us : List Str} {n : Nat} {Q : Value → Shared → Prop} (N : News h₀ L s.heap news) (ha : (a, LCg.lst xs) ∈ news) (hb : (b, W.listOf #[] n) ∈ news) (hi : StrsAre xs us) (hu : A.units + 64 < cLine) (hok : ∀ u ∈ us, PyData.strOk u = true)
    (h : Q (.bool (!us.isEmpty)) s) : wpAny (model prog w) A (compareOp .NotEq (.ref a) (.ref b)) Q E s := by
  have la : s.heap.IsList a xs.toArray := ⟨_, (N _ ha).1, rfl, _, rfl⟩
  have lb : s.heap.IsList b ([] : List Value).toArray := ⟨_, (N _ hb).1, rfl, _, rfl⟩
  have hc := hi.carried
  exact ne_dataH_same (reads_newData la hc) (reads_newData lb (StrsAre.nil).carried) (shaped_strs _ hok) (shaped_strs _ (fun _ h => nomatch h)) hu (SeqAt.noMix_of_shape (.list .str) rfl _ _ (list_map_has fun _ => rfl) (list_map_has fun _ => rfl)) (by rw [same_strs0]; exact h)
end
/-- the law's state, the cell of «place» told -/
def LPc (s1 : Shared) (sl : Addr) (M R : Nat) (ys rs : List Value) (vP : Option Value → Prop) (kn : List (Str × Value)) (extra : List (Addr × Obj)) (s' : Shared) : Prop :=
  ∃ (oP oR oM : Obj) (uP uR uM : Option Value), oP.data = .cell uP ∧ oR.data = .cell uR ∧ oM.data = .cell uM ∧ vP uP ∧
    LawSt s1.heap s1.heap.objs.size s1 ((Str.ofString "script", .ref sl) :: (Str.ofString "modes", .ref M) :: (Str.ofString "rows", .ref R) :: kn)
      (extra ++ [(R, LCg.lst rs), (M, LCg.lst ys), (s1.heap.objs.size + 1 + 1 + 1, oP), (s1.heap.objs.size + 1 + 1, oR), (s1.heap.objs.size + 1, oM)]) s'
/-- after «every, some = ..» -/
def LP4 (s1 : Shared) (sl : Addr) (M R : Nat) (ys rs : List Value) (e o : Int) (s' : Shared) : Prop :=
  ∃ te to, LPc s1 sl M R ys rs (fun _ => True) [(Str.ofString "every", .int e te), (Str.ofString "some", .int o to)] [] s'
/-- after «all_have, any_has = ..» -/
def LP5 (s1 : Shared) (sl : Addr) (M R : Nat) (ys rs : List Value) (e o : Int) (s' : Shared) : Prop :=
  ∃ to ta tn, LPc s1 sl M R ys rs (fun _ => True) [(Str.ofString "some", .int o to), (Str.ofString "all_have", .str (letters e) ta), (Str.ofString "any_has", .str (letters o) tn)] [] s'
end Mine
namespace Mine
theorem bitAnd_nat (a b : Nat) : Builtin.bitAnd (a : Int) (b : Int) = ((a &&& b : Nat) : Int) := by
  unfold Builtin.bitAnd
  have ha : decide ((0 : Int) ≤ (a : Int)) = true := decide_eq_true (Int.natCast_nonneg a)
  have hb : decide ((0 : Int) ≤ (b : Int)) = true := decide_eq_true (Int.natCast_nonneg b)
  rw [ha, hb]
  rfl
theorem bitNot_not (a : Int) : Builtin.bitNot (Builtin.bitNot a) = a := by unfold Builtin.bitNot; omega
theorem bitOr_nat (a b : Nat) : Builtin.bitOr (a : Int) (b : Int) = ((a ||| b : Nat) : Int) := by
  unfold Builtin.bitOr
  have h : Builtin.bitAnd (Builtin.bitNot (a : Int)) (Builtin.bitNot (b : Int)) = Builtin.bitNot ((a ||| b : Nat) : Int) := by
    unfold Builtin.bitAnd
    have ha : decide ((0 : Int) ≤ Builtin.bitNot (a : Int)) = false := decide_eq_false (by unfold Builtin.bitNot; omega)
    have hb : decide ((0 : Int) ≤ Builtin.bitNot (b : Int)) = false := decide_eq_false (by unfold Builtin.bitNot; omega)
    rw [ha, hb, bitNot_not, bitNot_not]
    rfl
  rw [h, bitNot_not]
theorem bitAndNot_nat (a b : Nat) : Builtin.bitAnd (Builtin.bitNot (a : Int)) (b : Int) = (b : Int) - ((b &&& a : Nat) : Int) := by
  unfold Builtin.bitAnd
  have ha : decide ((0 : Int) ≤ Builtin.bitNot (a : Int)) = false := decide_eq_false (by unfold Builtin.bitNot; omega)
  have hb : decide ((0 : Int) ≤ (b : Int)) = true := decide_eq_true (Int.natCast_nonneg b)
  rw [ha, hb, bitNot_not]
  rfl
theorem and_pow (n k : Nat) : n &&& 2 ^ k = if n.testBit k = true then 2 ^ k else 0 := by
  apply Nat.eq_of_testBit_eq
  intro j
  rw [Nat.testBit_and, Nat.testBit_two_pow]
  by_cases h : k = j
  · subst h
    by_cases q : n.testBit k = true
    · rw [if_pos q, Nat.testBit_two_pow]; simp [q]
    · rw [if_neg q]; simp at q; simp [q]
  · by_cases q : n.testBit k = true
    · rw [if_pos q, Nat.testBit_two_pow]; simp [h]
    · rw [if_neg q]; simp [h]
theorem hit_pow (n k M : Nat) (hM : M = 2 ^ k) : (Builtin.bitAnd (n : Int) (M : Int) == (M : Int)) = n.testBit k := by
  subst hM
  rw [bitAnd_nat, and_pow]
  have h0 : 0 < 2 ^ k := Nat.two_pow_pos k
  cases q : n.testBit k
  · rw [if_neg (by decide)]
    refine beq_eq_false_iff_ne.mpr fun e => ?_
    have : (0 : Nat) = 2 ^ k := by exact_mod_cast e
    omega
  · rw [if_pos rfl]; exact beq_self_eq_true _
theorem hit_off (n j M : Nat) (hM : M.testBit j = true) (hj : n.testBit j = false) : (Builtin.bitAnd (n : Int) (M : Int) == (M : Int)) = false := by
  refine beq_eq_false_iff_ne.mpr fun e => ?_
  rw [bitAnd_nat] at e
  have e' : n &&& M = M := by exact_mod_cast e
  have := congrArg (fun x => x.testBit j) e'
  simp only [Nat.testBit_and, hj, hM] at this
  cases this
theorem pick1 (i n k M : Nat) (c : Str) (hi : i ≠ 0) (hM : M = 2 ^ k) : pick i (n : Int) [((M : Int), c)] = if n.testBit k = true then c else Str.ofString "-" := by
  have h : hit i (n : Int) ((M : Int), c) = n.testBit k := by unfold hit; rw [if_neg hi]; exact hit_pow n k M hM
  unfold pick
  rw [List.find?_cons, h]
  cases n.testBit k
  · simp [hi]
  · simp
theorem pick3 (i n j k M1 M2 M3 : Nat) (c1 c2 c3 : Str) (hi : i ≠ 0) (h1 : M1.testBit j = true) (h2 : M2.testBit j = true) (h3 : M3 = 2 ^ k) (hj : n.testBit j = false) :
    pick i (n : Int) [((M1 : Int), c1), ((M2 : Int), c2), ((M3 : Int), c3)] = if n.testBit k = true then c3 else Str.ofString "-" := by
  have e1 : hit i (n : Int) ((M1 : Int), c1) = false := by unfold hit; rw [if_neg hi]; exact hit_off n j M1 h1 hj
  have e2 : hit i (n : Int) ((M2 : Int), c2) = false := by unfold hit; rw [if_neg hi]; exact hit_off n j M2 h2 hj
  have e3 : hit i (n : Int) ((M3 : Int), c3) = n.testBit k := by unfold hit; rw [if_neg hi]; exact hit_pow n k M3 h3
  unfold pick
  rw [List.find?_cons, e1, List.find?_cons, e2, List.find?_cons, e3]
  cases n.testBit k
  · simp [hi]
  · simp
/-- the sign at place k -/
def ch (b : Bool) (c : Nat) : Nat := if b then c else 45
def sg (c : Nat) : Str := ⟨#[c]⟩
theorem ch_str (b : Bool) (c : Nat) (x : Str) (hx : x = sg c) : (if b = true then x else Str.ofString "-") = sg (ch b c) := by
  subst hx
  cases b <;> rfl
theorem picks_spec (n : Nat) (h9 : n.testBit 9 = false) (h10 : n.testBit 10 = false) (h11 : n.testBit 11 = false) : picks (n : Int) tabs 0 =
    [pick 0 (n : Int) [(40960, "l"), (49152, "s"), (32768, "-"), (24576, "b"), (16384, "d"), (8192, "c"), (4096, "p")],
     sg (ch (n.testBit 8) 114), sg (ch (n.testBit 7) 119), sg (ch (n.testBit 6) 120), sg (ch (n.testBit 5) 114), sg (ch (n.testBit 4) 119), sg (ch (n.testBit 3) 120), sg (ch (n.testBit 2) 114), sg (ch (n.testBit 1) 119), sg (ch (n.testBit 0) 120)] := by
  have e1 := (pick1 1 n 8 256 "r" (by decide) rfl).trans (ch_str _ 114 _ rfl)
  have e2 := (pick1 2 n 7 128 "w" (by decide) rfl).trans (ch_str _ 119 _ rfl)
  have e3 := (pick3 3 n 11 6 2112 2048 64 "s" "S" "x" (by decide) (by decide) (by decide) rfl h11).trans (ch_str _ 120 _ rfl)
  have e4 := (pick1 4 n 5 32 "r" (by decide) rfl).trans (ch_str _ 114 _ rfl)
  have e5 := (pick1 5 n 4 16 "w" (by decide) rfl).trans (ch_str _ 119 _ rfl)
  have e6 := (pick3 6 n 10 3 1032 1024 8 "s" "S" "x" (by decide) (by decide) (by decide) rfl h10).trans (ch_str _ 120 _ rfl)
  have e7 := (pick1 7 n 2 4 "r" (by decide) rfl).trans (ch_str _ 114 _ rfl)
  have e8 := (pick1 8 n 1 2 "w" (by decide) rfl).trans (ch_str _ 119 _ rfl)
  have e9 := (pick3 9 n 9 0 513 512 1 "t" "T" "x" (by decide) (by decide) (by decide) rfl h9).trans (ch_str _ 120 _ rfl)
  rw [← e1, ← e2, ← e3, ← e4, ← e5, ← e6, ← e7, ← e8, ← e9]
  rfl
end Mine
namespace Mine
theorem mode_low (q m j : Nat) (hj : j < 12) : (4096 * q ||| m).testBit j = m.testBit j := by
  have h : (4096 * q).testBit j = false := by
    rw [show 4096 * q = 2 ^ 12 * q from rfl, Nat.testBit_two_pow_mul]
    simp; omega
  rw [Nat.testBit_or, h, Bool.false_or]
theorem small_bit (m j : Nat) (hm : m < 512) (hj : 9 ≤ j) : m.testBit j = false := by
  apply Nat.testBit_lt_two_pow
  exact Nat.lt_of_lt_of_le hm (by have := Nat.pow_le_pow_right (n := 2) (by decide) hj; exact this)
theorem mode_fmt (q m : Nat) (hq : q < 16) (hm : m < 512) : (4096 * q ||| m) &&& 61440 = 4096 * q := by
  apply Nat.eq_of_testBit_eq
  intro j
  rw [Nat.testBit_and, Nat.testBit_or, show 4096 * q = 2 ^ 12 * q from rfl, show 61440 = 2 ^ 12 * 15 from rfl, Nat.testBit_two_pow_mul, Nat.testBit_two_pow_mul]
  by_cases h : 12 ≤ j
  · rw [small_bit m j hm (by omega)]
    have h15 : (15 : Nat).testBit (j - 12) = decide (j - 12 < 4) := Nat.testBit_two_pow_sub_one 4 (j - 12)
    rw [h15]
    by_cases h4 : j - 12 < 4
    · simp [h, h4]
    · have : q.testBit (j - 12) = false := Nat.testBit_lt_two_pow (Nat.lt_of_lt_of_le hq (by have := Nat.pow_le_pow_right (n := 2) (by decide) (Nat.le_of_not_lt h4); exact this))
      simp [this]
  · simp [h]
theorem mode_imode (q m : Nat) (hm : m < 512) : (4096 * q ||| m) &&& 4095 = m := by
  apply Nat.eq_of_testBit_eq
  intro j
  have h12 : (4095 : Nat).testBit j = decide (j < 12) := Nat.testBit_two_pow_sub_one 12 j
  rw [Nat.testBit_and, h12]
  by_cases h : j < 12
  · rw [mode_low q m j h]; simp [h]
  · rw [small_bit m j hm (by omega)]; simp [h]
/-- the ten signs -/
def ten (c : Nat) (m : Nat) : Str := ⟨#[c, ch (m.testBit 8) 114, ch (m.testBit 7) 119, ch (m.testBit 6) 120, ch (m.testBit 5) 114, ch (m.testBit 4) 119, ch (m.testBit 3) 120, ch (m.testBit 2) 114, ch (m.testBit 1) 119, ch (m.testBit 0) 120]⟩
theorem join_ten (c c1 c2 c3 c4 c5 c6 c7 c8 c9 : Nat) : Txt.join (Str.ofString "") [sg c, sg c1, sg c2, sg c3, sg c4, sg c5, sg c6, sg c7, sg c8, sg c9] = ⟨#[c, c1, c2, c3, c4, c5, c6, c7, c8, c9]⟩ := by rfl
theorem kind_pick (n : Nat) (k : Nat) (hn : n &&& 61440 = k) (tb : Tab) : pick 0 (n : Int) tb = match tb.find? (fun p => (k : Int) == p.1) with | some p => p.2 | none => Str.ofString "?" := by
  have h : hit 0 (n : Int) = fun p => (k : Int) == p.1 := by
    funext p
    have e : Builtin.bitAnd (n : Int) 61440 = (k : Int) := by
      have := bitAnd_nat n 61440
      rw [hn] at this
      exact this
    unfold hit
    rw [if_pos rfl, e]
  unfold pick
  rw [h]
  cases tb.find? (fun p => (k : Int) == p.1) <;> rfl
theorem mode_ten (q m c : Nat) (hq : q < 16) (hm : m < 512) (hc : (match (tabs.headD []).find? (fun p => ((4096 * q : Nat) : Int) == p.1) with | some p => p.2 | none => Str.ofString "?") = sg c) :
    Txt.join (Str.ofString "") (picks ((4096 * q ||| m : Nat) : Int) tabs 0) = ten c m := by
  rw [picks_spec _ (by rw [mode_low _ _ _ (by decide), small_bit _ _ hm (by decide)]) (by rw [mode_low _ _ _ (by decide), small_bit _ _ hm (by decide)]) (by rw [mode_low _ _ _ (by decide), small_bit _ _ hm (by decide)])]
  rw [mode_low _ _ 8 (by decide), mode_low _ _ 7 (by decide), mode_low _ _ 6 (by decide), mode_low _ _ 5 (by decide), mode_low _ _ 4 (by decide), mode_low _ _ 3 (by decide), mode_low _ _ 2 (by decide), mode_low _ _ 1 (by decide), mode_low _ _ 0 (by decide)]
  have hk := (kind_pick _ _ (mode_fmt q m hq hm) (tabs.headD [])).trans hc
  have hk' : pick 0 ((4096 * q ||| m : Nat) : Int) [(40960, "l"), (49152, "s"), (32768, "-"), (24576, "b"), (16384, "d"), (8192, "c"), (4096, "p")] = sg c := hk
  rw [hk']
  exact join_ten ..
theorem letters_nat (m : Nat) (hm : m < 512) : letters (m : Int) = ten 45 m := by
  unfold letters
  have e : Builtin.bitOr 32768 (m : Int) = ((4096 * 8 ||| m : Nat) : Int) := bitOr_nat 32768 m
  rw [e]
  exact mode_ten 8 m 45 (by decide) hm (by decide)
end Mine
namespace Mine
def code (k : Nat) : Nat := if k % 3 = 0 then 114 else if k % 3 = 1 then 119 else 120
theorem item_ten (c m k : Nat) (hk : k < 9) : Txt.item (ten c m) (1 + (k : Int)) = sg (ch (m.testBit (8 - k)) (code k)) := by
  match k, hk with
  | 0, _ => rfl
  | 1, _ => rfl
  | 2, _ => rfl
  | 3, _ => rfl
  | 4, _ => rfl
  | 5, _ => rfl
  | 6, _ => rfl
  | 7, _ => rfl
  | 8, _ => rfl
  | k + 9, h => omega
theorem ltr_code (k : Nat) (hk : k < 9) : ltr (1 + (k : Int)) = sg (code k) := by
  match k, hk with
  | 0, _ => rfl
  | 1, _ => rfl
  | 2, _ => rfl
  | 3, _ => rfl
  | 4, _ => rfl
  | 5, _ => rfl
  | 6, _ => rfl
  | 7, _ => rfl
  | 8, _ => rfl
  | k + 9, h => omega
theorem code_in (k : Nat) : code k = 114 ∨ code k = 119 ∨ code k = 120 := by
  unfold code
  split
  · exact .inl rfl
  · split
    · exact .inr (.inl rfl)
    · exact .inr (.inr rfl)
theorem sg_inj {a b : Nat} (h : sg a = sg b) : a = b := by
  unfold sg at h
  injection h with h
  have := congrArg Array.toList h
  simpa using this
theorem metc_ten (c d a b k : Nat) (e : Bool) (hk : k < 9) : metc (ten c a) (ten d b) e (1 + (k : Int)) = sg (ch ((a.testBit (8 - k) && b.testBit (8 - k)) || ((a.testBit (8 - k) || b.testBit (8 - k)) && e)) (code k)) := by
  unfold metc marks
  rw [item_ten c a k hk, item_ten d b k hk, ltr_code k hk]
  rcases code_in k with h | h | h <;> rw [h] <;> cases a.testBit (8 - k) <;> cases b.testBit (8 - k) <;> cases e <;> decide
theorem met_ten (c d a b : Nat) (e : Bool) (x : Nat) (hx : ∀ k, k < 9 → x.testBit (8 - k) = ((a.testBit (8 - k) && b.testBit (8 - k)) || ((a.testBit (8 - k) || b.testBit (8 - k)) && e))) : met (ten c a) (ten d b) e 9 = ten 45 x := by
  have s : ∀ k : Nat, k < 9 → metc (ten c a) (ten d b) e (1 + (k : Int)) = sg (ch (x.testBit (8 - k)) (code k)) := fun k hk => by rw [metc_ten _ _ _ _ _ _ hk, hx k hk]
  show met (ten c a) (ten d b) e 8 ++ metc _ _ _ (1 + ((8 : Nat) : Int)) = _
  rw [s 8 (by decide)]
  show met (ten c a) (ten d b) e 7 ++ metc _ _ _ (1 + ((7 : Nat) : Int)) ++ _ = _
  rw [s 7 (by decide)]
  show met (ten c a) (ten d b) e 6 ++ metc _ _ _ (1 + ((6 : Nat) : Int)) ++ _ ++ _ = _
  rw [s 6 (by decide)]
  show met (ten c a) (ten d b) e 5 ++ metc _ _ _ (1 + ((5 : Nat) : Int)) ++ _ ++ _ ++ _ = _
  rw [s 5 (by decide)]
  show met (ten c a) (ten d b) e 4 ++ metc _ _ _ (1 + ((4 : Nat) : Int)) ++ _ ++ _ ++ _ ++ _ = _
  rw [s 4 (by decide)]
  show met (ten c a) (ten d b) e 3 ++ metc _ _ _ (1 + ((3 : Nat) : Int)) ++ _ ++ _ ++ _ ++ _ ++ _ = _
  rw [s 3 (by decide)]
  show met (ten c a) (ten d b) e 2 ++ metc _ _ _ (1 + ((2 : Nat) : Int)) ++ _ ++ _ ++ _ ++ _ ++ _ ++ _ = _
  rw [s 2 (by decide)]
  show met (ten c a) (ten d b) e 1 ++ metc _ _ _ (1 + ((1 : Nat) : Int)) ++ _ ++ _ ++ _ ++ _ ++ _ ++ _ ++ _ = _
  rw [s 1 (by decide)]
  show Str.ofString "-" ++ metc _ _ _ (1 + ((0 : Nat) : Int)) ++ _ ++ _ ++ _ ++ _ ++ _ ++ _ ++ _ ++ _ = _
  rw [s 0 (by decide)]
  rfl
theorem nat_of {a : Int} (ha : 0 ≤ a ∧ a < 512) : ∃ n : Nat, a = (n : Int) ∧ n < 512 := ⟨a.toNat, by omega, by omega⟩
theorem and_small {a b : Nat} (ha : a < 512) : a &&& b < 512 := Nat.lt_of_le_of_lt Nat.and_le_left ha
theorem or_small {a b : Nat} (ha : a < 512) (hb : b < 512) : a ||| b < 512 := Nat.or_lt_two_pow (n := 9) ha hb
theorem law_and {a b : Int} (ha : 0 ≤ a ∧ a < 512) (hb : 0 ≤ b ∧ b < 512) : letters (Builtin.bitAnd a b) = met (letters a) (letters b) false 9 := by
  obtain ⟨x, rfl, hx⟩ := nat_of ha
  obtain ⟨y, rfl, hy⟩ := nat_of hb
  rw [bitAnd_nat, letters_nat _ (and_small hx), letters_nat _ hx, letters_nat _ hy]
  exact (met_ten _ _ _ _ _ _ fun k _ => by rw [Nat.testBit_and]; simp).symm
theorem law_or {a b : Int} (ha : 0 ≤ a ∧ a < 512) (hb : 0 ≤ b ∧ b < 512) : letters (Builtin.bitOr a b) = met (letters a) (letters b) true 9 := by
  obtain ⟨x, rfl, hx⟩ := nat_of ha
  obtain ⟨y, rfl, hy⟩ := nat_of hb
  rw [bitOr_nat, letters_nat _ (or_small hx hy), letters_nat _ hx, letters_nat _ hy]
  exact (met_ten _ _ _ _ _ _ fun k _ => by rw [Nat.testBit_or]; cases x.testBit (8 - k) <;> cases y.testBit (8 - k) <;> rfl).symm
theorem dash_ten (c m k : Nat) (hk : k < 9) : (Txt.item (ten c m) (1 + (k : Int)) == Str.ofString "-") = !m.testBit (8 - k) := by
  rw [item_ten c m k hk]
  rcases code_in k with h | h | h <;> rw [h] <;> cases m.testBit (8 - k) <;> decide
theorem inv_bad {a : Int} {j : Nat} (ha : 0 ≤ a ∧ a < 512) (hj : j < 9) (h : ((Txt.item (letters a) (1 + (j : Int)) == Str.ofString "-") == (Txt.item (letters (Builtin.bitAnd (Builtin.bitNot a) 511)) (1 + (j : Int)) == Str.ofString "-")) = true) : False := by
  obtain ⟨x, rfl, hx⟩ := nat_of ha
  have e : Builtin.bitAnd (Builtin.bitNot (x : Int)) 511 = ((2 ^ 9 - (x + 1) : Nat) : Int) := by
    have := bitAndNot_nat x 511
    have hm : 511 &&& x = x := by
      rw [Nat.and_comm, show 511 = 2 ^ 9 - 1 from rfl, Nat.and_two_pow_sub_one_eq_mod]
      exact Nat.mod_eq_of_lt hx
    rw [hm] at this
    have h2 : ((511 : Nat) : Int) = 511 := rfl
    rw [h2] at this
    rw [this]
    omega
  rw [e, letters_nat _ hx, letters_nat _ (by omega), dash_ten _ _ _ hj, dash_ten _ _ _ hj, Nat.testBit_two_pow_sub_succ (n := 9) hx] at h
  have h8 : decide (8 - j < 9) = true := decide_eq_true (by omega)
  rw [h8] at h
  cases q : x.testBit (8 - j) <;> rw [q] at h <;> cases h
end Mine
namespace Mine
theorem sg_of {x : Str} (h : x.length = 1) : ∃ c, x = sg c := by
  obtain ⟨a⟩ := x
  have h' : a.size = 1 := h
  refine ⟨a[0], ?_⟩
  unfold sg
  congr 1
  apply Array.ext
  · exact h'
  · intro i h1 h2
    have : i = 0 := by omega
    subst this
    rfl
theorem pick_sg (i : Nat) (mo : Int) (tb : Tab) (h : tb ∈ tabs) : ∃ c, pick i mo tb = sg c := sg_of (pick_len (tabs_len tb h))
theorem letters_len (a : Int) : (letters a).length = 10 := by
  unfold letters
  generalize Builtin.bitOr 32768 a = n
  have h : ∀ tb ∈ tabs, ∀ i, ∃ c, pick i n tb = sg c := fun tb ht i => pick_sg i n tb ht
  unfold tabs at h ⊢
  simp only [List.forall_mem_cons] at h
  obtain ⟨h0, h1, h2, h3, h4, h5, h6, h7, h8, h9, -⟩ := h
  obtain ⟨c0, e0⟩ := h0 0
  obtain ⟨c1, e1⟩ := h1 1
  obtain ⟨c2, e2⟩ := h2 2
  obtain ⟨c3, e3⟩ := h3 3
  obtain ⟨c4, e4⟩ := h4 4
  obtain ⟨c5, e5⟩ := h5 5
  obtain ⟨c6, e6⟩ := h6 6
  obtain ⟨c7, e7⟩ := h7 7
  obtain ⟨c8, e8⟩ := h8 8
  obtain ⟨c9, e9⟩ := h9 9
  simp only [picks, Nat.zero_add, Nat.reduceAdd]
  rw [e0, e1, e2, e3, e4, e5, e6, e7, e8, e9]
  exact congrArg Str.length (join_ten c0 c1 c2 c3 c4 c5 c6 c7 c8 c9)
def rwx (t : Int) : Str := Txt.item (Str.ofString "-r") (t.fdiv 4) ++ Txt.item (Str.ofString "-w") ((t.fdiv 2).fmod 2) ++ Txt.item (Str.ofString "-x") (t.fmod 2)
theorem rwx_nat (t : Nat) (ht : t < 8) : rwx (t : Int) = ⟨#[ch (t.testBit 2) 114, ch (t.testBit 1) 119, ch (t.testBit 0) 120]⟩ := by
  match t, ht with
  | 0, _ => rfl
  | 1, _ => rfl
  | 2, _ => rfl
  | 3, _ => rfl
  | 4, _ => rfl
  | 5, _ => rfl
  | 6, _ => rfl
  | 7, _ => rfl
  | t + 8, h => omega
theorem law_threes {a : Int} (ha : 0 ≤ a ∧ a < 512) : letters a = Str.ofString "-" ++ Txt.join (Str.ofString "") [rwx (a.fdiv 64), rwx ((a.fdiv 8).fmod 8), rwx (a.fmod 8)] := by
  obtain ⟨x, rfl, hx⟩ := nat_of ha
  have e1 : (x : Int).fdiv 64 = ((x / 64 : Nat) : Int) := by rw [Int.fdiv_eq_ediv_of_nonneg _ (by decide)]; rfl
  have e2 : ((x : Int).fdiv 8).fmod 8 = ((x / 8 % 8 : Nat) : Int) := by rw [Int.fdiv_eq_ediv_of_nonneg _ (by decide), Int.fmod_eq_emod_of_nonneg _ (by decide)]; rfl
  have e3 : (x : Int).fmod 8 = ((x % 8 : Nat) : Int) := by rw [Int.fmod_eq_emod_of_nonneg _ (by decide)]; rfl
  rw [e1, e2, e3, rwx_nat _ (by omega), rwx_nat _ (by omega), rwx_nat _ (by omega), letters_nat _ hx]
  have d : ∀ j, (x / 64).testBit j = x.testBit (6 + j) := fun j => by rw [show x / 64 = x / 2 ^ 6 from rfl, Nat.testBit_div_two_pow, Nat.add_comm]
  have f : ∀ j, j < 3 → (x / 8 % 8).testBit j = x.testBit (3 + j) := fun j hj => by
    rw [show x / 8 % 8 = x / 2 ^ 3 % 2 ^ 3 from rfl, Nat.testBit_mod_two_pow, Nat.testBit_div_two_pow, Nat.add_comm]
    simp [hj]
  have g : ∀ j, j < 3 → (x % 8).testBit j = x.testBit j := fun j hj => by
    rw [show x % 8 = x % 2 ^ 3 from rfl, Nat.testBit_mod_two_pow]
    simp [hj]
  rw [d 2, d 1, d 0, f 2 (by decide), f 1 (by decide), f 0 (by decide), g 2 (by decide), g 1 (by decide), g 0 (by decide)]
  rfl
def col (ms : List Int) (p : Int) : List Str := ms.map fun x => Txt.item (letters x) (1 + p)
theorem place_of {p : Int} (hp : 0 ≤ p ∧ p < 9) : ∃ k : Nat, p = (k : Int) ∧ k < 9 := ⟨p.toNat, by omega, by omega⟩
theorem col_ok {ms : List Int} {p : Int} (hb : ∀ x ∈ ms, 0 ≤ x ∧ x < 512) (hp : 0 ≤ p ∧ p < 9) : ∀ u ∈ (col ms p).filter (fun z => z != Str.ofString "-"), PyData.strOk u = true := by
  intro u hu
  obtain ⟨hu, -⟩ := List.mem_filter.mp hu
  obtain ⟨x, hx, rfl⟩ := List.mem_map.mp hu
  obtain ⟨n, rfl, hn⟩ := nat_of (hb x hx)
  obtain ⟨k, rfl, hk⟩ := place_of hp
  rw [letters_nat _ hn, item_ten _ _ _ hk]
  rcases code_in k with h | h | h <;> rw [h] <;> cases n.testBit (8 - k) <;> decide +kernel
/-- the list of a list of modes, folded -/
theorem fold_and : ∀ {ms : List Int} {z : Nat}, (∀ x ∈ ms, 0 ≤ x ∧ x < 512) → z < 512 → ∃ e : Nat, ms.foldl Builtin.bitAnd (z : Int) = (e : Int) ∧ e < 512 ∧ ∀ j, e.testBit j = (z.testBit j && ms.all fun x => x.toNat.testBit j)
  | [], z, _, hz => ⟨z, rfl, hz, fun j => by simp⟩
  | x :: r, z, hb, hz => by
    obtain ⟨n, rfl, hn⟩ := nat_of (hb x (.head _))
    obtain ⟨e, h1, h2, h3⟩ := fold_and (ms := r) (z := z &&& n) (fun y hy => hb y (.tail _ hy)) (and_small hz)
    refine ⟨e, ?_, h2, fun j => ?_⟩
    · rw [List.foldl_cons, bitAnd_nat]; exact h1
    · rw [h3 j, Nat.testBit_and, List.all_cons, Int.toNat_natCast, Bool.and_assoc]
theorem fold_or : ∀ {ms : List Int} {z : Nat}, (∀ x ∈ ms, 0 ≤ x ∧ x < 512) → z < 512 → ∃ e : Nat, ms.foldl Builtin.bitOr (z : Int) = (e : Int) ∧ e < 512 ∧ ∀ j, e.testBit j = (z.testBit j || ms.any fun x => x.toNat.testBit j)
  | [], z, _, hz => ⟨z, rfl, hz, fun j => by simp⟩
  | x :: r, z, hb, hz => by
    obtain ⟨n, rfl, hn⟩ := nat_of (hb x (.head _))
    obtain ⟨e, h1, h2, h3⟩ := fold_or (ms := r) (z := z ||| n) (fun y hy => hb y (.tail _ hy)) (or_small hz hn)
    refine ⟨e, ?_, h2, fun j => ?_⟩
    · rw [List.foldl_cons, bitOr_nat]; exact h1
    · rw [h3 j, Nat.testBit_or, List.any_cons, Int.toNat_natCast, Bool.or_assoc]
theorem so_in {ms : List Int} {so : Int} (hb : ∀ x ∈ ms, 0 ≤ x ∧ x < 512) (he : ms.foldl Builtin.bitOr 0 = so) : 0 ≤ so ∧ so < 512 := by
  obtain ⟨e, h1, h2, -⟩ := fold_or (z := 0) hb (by decide)
  have h1' : ms.foldl Builtin.bitOr 0 = (e : Int) := h1
  rw [h1'] at he
  omega
theorem dash_col {k : Nat} (hk : k < 9) : ∀ {ms : List Int}, (∀ x ∈ ms, 0 ≤ x ∧ x < 512) → (col ms (k : Int)).any (fun x => x == Str.ofString "-") = ms.any fun x => !x.toNat.testBit (8 - k)
  | [], _ => rfl
  | x :: r, hb => by
    have ih := dash_col hk (ms := r) fun y hy => hb y (.tail _ hy)
    obtain ⟨n, rfl, hn⟩ := nat_of (hb x (.head _))
    unfold col at ih ⊢
    rw [List.map_cons, List.any_cons, List.any_cons, ih, letters_nat _ hn, dash_ten _ _ _ hk, Int.toNat_natCast]
theorem not_any_not {α : Type} (f : α → Bool) : ∀ l : List α, (!l.any fun x => !f x) = l.all f
  | [] => rfl
  | x :: r => by
    rw [List.any_cons, List.all_cons, ← not_any_not f r, Bool.not_or, Bool.not_not]
theorem law_every {ms : List Int} {ev p : Int} (hb : ∀ x ∈ ms, 0 ≤ x ∧ x < 512) (he : ms.foldl Builtin.bitAnd 511 = ev) (hp : 0 ≤ p ∧ p < 9) : (Txt.item (letters ev) (1 + p) != Str.ofString "-") = !(col ms p).any fun x => x == Str.ofString "-" := by
  obtain ⟨k, rfl, hk⟩ := place_of hp
  obtain ⟨e, h1, h2, h3⟩ := fold_and (z := 511) hb (by decide)
  have h1' : ms.foldl Builtin.bitAnd 511 = (e : Int) := h1
  rw [h1'] at he
  subst he
  rw [letters_nat _ h2, dash_col hk hb, not_any_not]
  show (!(Txt.item (ten 45 e) (1 + (k : Int)) == Str.ofString "-")) = _
  rw [dash_ten _ _ _ hk, Bool.not_not, h3]
  have : (511 : Nat).testBit (8 - k) = true := by
    rw [show 511 = 2 ^ 9 - 1 from rfl, Nat.testBit_two_pow_sub_one]
    exact decide_eq_true (by omega)
  rw [this, Bool.true_and]
theorem flt_any {α : Type} (f : α → Bool) : ∀ l : List α, (!(l.filter f).isEmpty) = l.any f
  | [] => rfl
  | x :: r => by
    rw [List.filter_cons, List.any_cons, ← flt_any f r]
    cases f x <;> simp
theorem some_col {k : Nat} (hk : k < 9) : ∀ {ms : List Int}, (∀ x ∈ ms, 0 ≤ x ∧ x < 512) → (col ms (k : Int)).any (fun z => z != Str.ofString "-") = ms.any fun x => x.toNat.testBit (8 - k)
  | [], _ => rfl
  | x :: r, hb => by
    have ih := some_col hk (ms := r) fun y hy => hb y (.tail _ hy)
    obtain ⟨n, rfl, hn⟩ := nat_of (hb x (.head _))
    unfold col at ih ⊢
    have e : (Txt.item (ten 45 n) (1 + (k : Int)) != Str.ofString "-") = n.testBit (8 - k) := by
      show (!(Txt.item (ten 45 n) (1 + (k : Int)) == Str.ofString "-")) = _
      rw [dash_ten _ _ _ hk, Bool.not_not]
    rw [List.map_cons, List.any_cons, List.any_cons, ih, letters_nat _ hn, e, Int.toNat_natCast]
theorem law_some {ms : List Int} {so p : Int} (hb : ∀ x ∈ ms, 0 ≤ x ∧ x < 512) (he : ms.foldl Builtin.bitOr 0 = so) (hp : 0 ≤ p ∧ p < 9) : (Txt.item (letters so) (1 + p) != Str.ofString "-") = !((col ms p).filter fun z => z != Str.ofString "-").isEmpty := by
  obtain ⟨k, rfl, hk⟩ := place_of hp
  obtain ⟨e, h1, h2, h3⟩ := fold_or (z := 0) hb (by decide)
  have h1' : ms.foldl Builtin.bitOr 0 = (e : Int) := h1
  rw [h1'] at he
  subst he
  rw [letters_nat _ h2, flt_any, some_col hk hb]
  show (!(Txt.item (ten 45 e) (1 + (k : Int)) == Str.ofString "-")) = _
  rw [dash_ten _ _ _ hk, Bool.not_not, h3, Nat.zero_testBit, Bool.false_or]
def kk (r : Int) : Int := [1, 2, 4, 6, 8, 10, 12].getD r.toNat 0
theorem r_in {r : Int} (h0 : 0 ≤ r) (h7 : r < 7) : r = 0 ∨ r = 1 ∨ r = 2 ∨ r = 3 ∨ r = 4 ∨ r = 5 ∨ r = 6 := by omega
theorem kk_in {r q : Int} (h : kk r = q) (h0 : 0 ≤ r) (h7 : r < 7) : q = 1 ∨ q = 2 ∨ q = 4 ∨ q = 6 ∨ q = 8 ∨ q = 10 ∨ q = 12 := by
  subst h
  rcases r_in h0 h7 with rfl | rfl | rfl | rfl | rfl | rfl | rfl <;> decide
theorem q_nat {q : Int} (hq : 0 ≤ q ∧ q ≤ 12) : ∃ n : Nat, q = (n : Int) ∧ n < 16 := ⟨q.toNat, by omega, by omega⟩
theorem mode_nat (n m : Nat) : Builtin.bitOr (4096 * (n : Int)) (m : Int) = ((4096 * n ||| m : Nat) : Int) := by
  have := bitOr_nat (4096 * n) m
  rw [← this]
  rfl
theorem law_imode {q so : Int} (hq : 0 ≤ q ∧ q ≤ 12) (hs : 0 ≤ so ∧ so < 512) : Builtin.bitAnd (Builtin.bitOr (4096 * q) so) 4095 = so := by
  obtain ⟨n, rfl, hn⟩ := q_nat hq
  obtain ⟨m, rfl, hm⟩ := nat_of hs
  rw [mode_nat]
  have := bitAnd_nat (4096 * n ||| m) 4095
  rw [mode_imode n m hm] at this
  exact this
theorem law_ifmt {q so : Int} (hq : 0 ≤ q ∧ q ≤ 12) (hs : 0 ≤ so ∧ so < 512) : Builtin.bitAnd (Builtin.bitOr (4096 * q) so) 61440 = 4096 * q := by
  obtain ⟨n, rfl, hn⟩ := q_nat hq
  obtain ⟨m, rfl, hm⟩ := nat_of hs
  rw [mode_nat]
  have := bitAnd_nat (4096 * n ||| m) 61440
  rw [mode_fmt n m hn hm] at this
  exact this
theorem slice_ten (c m : Nat) : Txt.slice (ten c m) (some 1) none = ⟨#[ch (m.testBit 8) 114, ch (m.testBit 7) 119, ch (m.testBit 6) 120, ch (m.testBit 5) 114, ch (m.testBit 4) 119, ch (m.testBit 3) 120, ch (m.testBit 2) 114, ch (m.testBit 1) 119, ch (m.testBit 0) 120]⟩ := by
  rw [slice_from_eq (x := ten c m) (i := 1) (b := 10) (by decide) (by show (1 : Int) ≤ ((10 : Nat) : Int); decide) rfl]
  rfl
theorem final_ten (n m c : Nat) (hn : n < 16) (hm : m < 512) (x : Str) (hx : x = sg c) (hc : (match (tabs.headD []).find? (fun p => ((4096 * n : Nat) : Int) == p.1) with | some p => p.2 | none => Str.ofString "?") = sg c) :
    (Txt.join (Str.ofString "") (picks (Builtin.bitOr (4096 * (n : Int)) (m : Int)) tabs 0) == x ++ Txt.slice (letters (m : Int)) (some 1) none) = true := by
  rw [mode_nat, mode_ten n m c hn hm hc, letters_nat m hm, slice_ten, hx]
  exact beq_self_eq_true _
theorem law_final {q so r : Int} (hk : kk r = q) (h0 : 0 ≤ r) (h7 : r < 7) (hs : 0 ≤ so ∧ so < 512) : (Txt.join (Str.ofString "") (picks (Builtin.bitOr (4096 * q) so) tabs 0) == Txt.item (Str.ofString "pcdb-ls") r ++ Txt.slice (letters so) (some 1) none) = true := by
  obtain ⟨m, rfl, hm⟩ := nat_of hs
  subst hk
  rcases r_in h0 h7 with rfl | rfl | rfl | rfl | rfl | rfl | rfl
  · exact final_ten 1 m 112 (by decide) hm _ rfl (by decide)
  · exact final_ten 2 m 99 (by decide) hm _ rfl (by decide)
  · exact final_ten 4 m 100 (by decide) hm _ rfl (by decide)
  · exact final_ten 6 m 98 (by decide) hm _ rfl (by decide)
  · exact final_ten 8 m 45 (by decide) hm _ rfl (by decide)
  · exact final_ten 10 m 108 (by decide) hm _ rfl (by decide)
  · exact final_ten 12 m 115 (by decide) hm _ rfl (by decide)
end Mine
namespace Mine
def recOf {q : Program} {loose : List Str} {XP : (Str → Option Value) → Heap → Prop} {YP : World → Heap → Prop} {r : RowW} {d : DefRec} {kwd : List (Str × Expr)} {run : Value → List Value → Sem Value} {P : Prop} (_ : WalkO q loose XP YP r d kwd run → P) : DefRec := d
def lawRec : DefRec := recOf Mine.hd
def scOf {n : Str} {p : Arguments} {b : List Stmt} {sc : Scope} {ps : Pos} (_ : lawRec = { name := n, params := p, body := b, scope := sc, pos := ps }) : Scope := sc
def lawScope : Scope := scOf rfl
def st3 {a0 a1 a2 a3 a4 a5 a6 a7 a8 a9 : Stmt} (_ : lawRec.body = [a0, a1, a2, a3, a4, a5, a6, a7, a8, a9]) : Stmt := a2
def st6 {a0 a1 a2 a3 a4 a5 a6 a7 a8 a9 : Stmt} (_ : lawRec.body = [a0, a1, a2, a3, a4, a5, a6, a7, a8, a9]) : Stmt := a5
def law3 : Stmt := st3 rfl
def law6 : Stmt := st6 rfl
def lawEnv (s1 : Shared) (fa cda : Addr) : Env := envOfC (Str.ofString "law") lawScope s1.heap.objs.size fa (.ref cda)
end Mine
namespace Mine
def Stop (P : Prop) : Prop := P
theorem Stop.mk {P : Prop} (h : Stop P) : P := h
theorem ne_bad {x y : Str} (h : x = y) (n : (x != y) = true) : False := by
  subst h
  simp at n
theorem ints_at : ∀ {vs : List Value} {ns : List Int} {i : Nat} {a : Int}, IntsAre vs ns → ns[i]? = some a → ∃ t, vs[i]? = some (.int a t)
  | _, _, 0, _, .cons n t h, e => by cases e; exact ⟨t, rfl⟩
  | _, _, i + 1, _, .cons n t h, e => ints_at (i := i) h e
theorem strs_at : ∀ {vs : List Value} {ns : List Str} {i : Nat} {y : Str}, StrsAre vs ns → ns[i]? = some y → ∃ t, vs[i]? = some (.str y t)
  | _, _, 0, _, .cons n t h, e => by cases e; exact ⟨t, rfl⟩
  | _, _, i + 1, _, .cons n t h, e => strs_at (i := i) h e
def LP6 (s1 : Shared) (sl : Addr) (M R : Nat) (ys rs : List Value) (ev so : Int) (to ta tn : Tok) (vP : Option Value → Prop) (extra : List (Addr × Obj)) (s' : Shared) : Prop :=
  LPc s1 sl M R ys rs vP [(Str.ofString "some", .int so to), (Str.ofString "all_have", .str (letters ev) ta), (Str.ofString "any_has", .str (letters so) tn)] extra s'
theorem col_snoc {ms : List Int} {j : Nat} {q : Int} (p : Int) (hq : ms[j]? = some q) : col (ms.take (j + 1)) p = col (ms.take j) p ++ [Txt.item (letters q) (1 + p)] := by
  unfold col
  rw [List.take_add_one, hq, List.map_append]
  rfl
theorem bb_bad {b c : Bool} (h : b = c) (n : (b != c) = true) : False := by
  subst h
  simp at n
theorem strs_get : ∀ {vs : List Value} {ns : List Str} {i : Nat} {v : Value}, StrsAre vs ns → vs[i]? = some v → ∃ y t, v = .str y t ∧ ns[i]? = some y
  | _, _, 0, _, .cons n t h, e => by cases e; exact ⟨n, t, rfl, rfl⟩
  | _, _, i + 1, _, .cons n t h, e => strs_get (i := i) h e
theorem filter_snoc {α : Type} (f : α → Bool) {l : List α} {j : Nat} {z : α} (hz : l[j]? = some z) : (l.take (j + 1)).filter f = (l.take j).filter f ++ (if f z then [z] else []) := by
  rw [List.take_add_one, hz, List.filter_append]
  cases h : f z <;> simp [h]
theorem flt_yes {l : List Str} {j : Nat} {z : Str} {tz : Tok} {ws : List Value} (e : (l.take (j + 1)).filter (fun z => z != Str.ofString "-") = (l.take j).filter (fun z => z != Str.ofString "-") ++ (if (z != Str.ofString "-") = true then [z] else [])) (h : (z != Str.ofString "-") = true)
    (hG : StrsAre ws ((l.take j).filter fun z => z != Str.ofString "-")) : StrsAre (ws ++ [.str z tz]) ((l.take (j + 1)).filter fun z => z != Str.ofString "-") := by
  rw [e, if_pos h]
  exact strs_of_append hG
theorem flt_no {l : List Str} {j : Nat} {z : Str} {ws : List Value} (e : (l.take (j + 1)).filter (fun z => z != Str.ofString "-") = (l.take j).filter (fun z => z != Str.ofString "-") ++ (if (z != Str.ofString "-") = true then [z] else [])) (h : (z != Str.ofString "-") = false)
    (hG : StrsAre ws ((l.take j).filter fun z => z != Str.ofString "-")) : StrsAre ws ((l.take (j + 1)).filter fun z => z != Str.ofString "-") := by
  rw [e, if_neg (by rw [h]; exact Bool.false_ne_true), List.append_nil]
  exact hG
def LP7 (s1 : Shared) (sl : Addr) (M R : Nat) (ys rs : List Value) (ms : List Int) (ev so : Int) (to ta tn : Tok) (p : Int) (extra : List (Addr × Obj)) (s' : Shared) : Prop :=
  ∃ (D : Nat) (zs : List Value) (oP oR oM : Obj) (uR uM : Option Value) (tp : Tok), StrsAre zs (col ms p) ∧ (@Ne Nat R D) ∧ (@Ne Nat M D) ∧ Offs s1 D ∧ oP.data = .cell (some (.int p tp)) ∧ oR.data = .cell uR ∧ oM.data = .cell uM ∧
    LawSt s1.heap s1.heap.objs.size s1 [(Str.ofString "script", .ref sl), (Str.ofString "modes", .ref M), (Str.ofString "rows", .ref R), (Str.ofString "some", .int so to), (Str.ofString "all_have", .str (letters ev) ta), (Str.ofString "any_has", .str (letters so) tn), (Str.ofString "letters", .ref D)]
      ((D, LCg.lst zs) :: (extra ++ [(R, LCg.lst rs), (M, LCg.lst ys), (s1.heap.objs.size + 1 + 1 + 1, oP), (s1.heap.objs.size + 1 + 1, oR), (s1.heap.objs.size + 1, oM)])) s'
def LP8 (s1 : Shared) (sl : Addr) (M R : Nat) (ys rs : List Value) (so r : Int) (s' : Shared) : Prop :=
  ∃ q t to, LPc s1 sl M R ys rs (fun _ => True) [(Str.ofString "some", .int so to), (Str.ofString "kind", .int q t)] [] s' ∧ kk r = q
def LP9 (s1 : Shared) (sl : Addr) (M R : Nat) (ys rs : List Value) (so q : Int) (s' : Shared) : Prop :=
  ∃ t to tw, LPc s1 sl M R ys rs (fun _ => True) [(Str.ofString "some", .int so to), (Str.ofString "kind", .int q t), (Str.ofString "whole", .int (Builtin.bitOr (4096 * q) so) tw)] [] s'
theorem ret_true {b : Bool} (h : b = true) : Flow.ret (Value.bool b) = Flow.ret (Value.bool true) := by rw [h]
end Mine
namespace Mine
local macro_rules | `(tactic| k_ne) => `(tactic| (refine neN ?_; (try dsimp only); first | assumption | (apply Ne.symm; assumption) | (apply Nat.ne_of_lt; assumption) | (apply Nat.ne_of_gt; assumption) | ((repeat ((first | (rename (_ ∧ _) ∧ _ => hcc) | (rename (_ ≠ _) ∧ _ => hcc) | (rename (@LT.lt Nat _ _ _) ∧ _ => hcc)); obtain ⟨_, _⟩ := hcc)); first | assumption | (apply Ne.symm; assumption) | (apply Nat.ne_of_lt; assumption) | (apply Nat.ne_of_gt; assumption))))
local macro_rules | `(tactic| walk_at "call ref") => `(tactic| (k_here; (with_reducible show wpAny _ _ (call (Value.ref 68) _) _ _ _); k_dflt (refine' Gives.use (fm_call _ _ _) ?k1 ?k2 ?k3 ?k4 ?k5 ?kK ?kd ?ku ?_; (case k1 => k_asm); (case k2 => k_asm); (case k3 => k_asm); (case k4 => k_asm); (case k5 => k_asm); (case kK => first | exact rfl | assumption); (case kd => ktr_room); (case ku => ktr_units); k_whole); intro t9 h9 tk9 F9 N9; (try dsimp only); (try k_fold)))
local macro_rules | `(tactic| walk_at "call ref") => `(tactic| (k_here; (with_reducible show wpAny _ _ (call (Value.ref 119) _) _ _ _); k_dflt (refine' Gives.use (ll_call _ _ _) ?k1 ?k2 ?k3 ?k4 ?k5 ?kK ?kd ?ku ?_; (case k1 => k_asm); (case k2 => k_asm); (case k3 => k_asm); (case k4 => k_asm); (case k5 => k_asm); (case kK => first | exact rfl | assumption); (case kd => ktr_room); (case ku => ktr_units); k_whole); intro t9 h9 tk9 F9 N9; (try dsimp only); (try k_fold)))
local macro_rules | `(tactic| walk_at "call ref") => `(tactic| (k_here; (with_reducible show wpAny _ _ (call (Value.ref 126) _) _ _ _); k_dflt (refine' Gives.use (lm_call _ _ _ _ _ _ (by assumption) (by assumption)) ?k1 ?k2 ?k3 ?k4 ?k5 ?kK ?kd ?ku ?_; (case k1 => k_asm); (case k2 => k_asm); (case k3 => k_asm); (case k4 => k_asm); (case k5 => k_asm); (case kK => first | exact rfl | assumption); (case kd => ktr_room); (case ku => ktr_units); k_whole); intro t9 h9 tk9 F9 N9; (try dsimp only); (try k_fold)))
local macro_rules | `(tactic| walk_at "subscriptTail") => `(tactic| (k_here; (with_reducible show wpAny _ _ (subscriptTail _ _ (Value.ref _) (Value.int _ _)) _ _ _); (with_unfolding_all refine' item_any ?k0 ?k1 ?k2 ?k3 ?k4 ?k5 ?_ ?k6; (case k0 => k_asm); (case k1 => k_mem); (case k5 => assumption); (case k2 => omega); (case k3 => omega); (case k4 => omega); (case k6 => with_unfolding_all rfl); k_whole)))
local macro_rules | `(tactic| walk_at "subscriptTail Name Name ref int") => `(tactic| (k_here; (with_reducible show wpAny _ _ (subscriptTail _ _ (Value.ref _) (Value.int _ _)) _ _ _); (with_unfolding_all refine' item_any ?k0 ?k1 ?k2 ?k3 ?k4 ?k5 ?_ ?k6; (case k0 => k_asm); (case k1 => k_mem); (case k5 => assumption); (case k2 => omega); (case k3 => omega); (case k4 => omega); (case k6 => with_unfolding_all rfl); k_whole)))
local macro_rules | `(tactic| walk_at "subscriptTail Name BinOp ref int") => `(tactic| (k_here; (with_reducible show wpAny _ _ (subscriptTail _ _ (Value.ref _) (Value.int _ _)) _ _ _); (with_unfolding_all refine' item_any ?k0 ?k1 ?k2 ?k3 ?k4 ?k5 ?_ ?k6; (case k0 => k_asm); (case k1 => k_mem); (case k5 => assumption); (case k2 => omega); (case k3 => omega); (case k4 => omega); (case k6 => with_unfolding_all rfl); k_whole)))
local macro_rules | `(tactic| walk_at "eval ListComp") => `(tactic| (k_here; (with_reducible show wpAny _ _ (eval (PySem.Expr.ListComp _ [⟨PySem.Expr.Name (PySem.Str.ofString "k") _, _, _, _⟩] _ _) _) _ _ _); k_dflt (refine LCt.ListComp_T (F₀ := by k_asm) (by with_unfolding_all rfl) (by decide) (by rfl) (by decide) (by rfl) ?_)))
local macro_rules | `(tactic| walk_at "CompSrcT") => `(tactic| (refine Stop.mk ?_))
theorem seg3 : ∀ (w : World) (s1 : Shared) (p : Program) (loose : List Str) (mean : ExcName → Option Value) (mg mb : Str → Option Value) (fa cda sl : Addr) (ms : List Int) (M R : Nat) (ys rs : List Value) (oP oR oM : Obj) (vP vR vM : Option Value) (h : Heap) (tk : Nat) (m : Str → Option Value),
    (Mine.hd.heap_39 w.params).In s1.heap → Top p loose mean mg mb s1.heap → Below callerA s1.heap [] s1.heap → IntsAre ys ms → StrsAre rs (ms.map letters) → ms.length ≤ 24 → (∀ x ∈ ms, 0 ≤ x ∧ x < 512) → Offs s1 M → Offs s1 R → M ≠ R →
    oP.data = .cell vP → oR.data = .cell vR → oM.data = .cell vM → Fr s1.heap s1.heap.objs.size h m →
    News s1.heap s1.heap.objs.size h [(R, LCg.lst rs), (M, LCg.lst ys), (s1.heap.objs.size + 1 + 1 + 1, oP), (s1.heap.objs.size + 1 + 1, oR), (s1.heap.objs.size + 1, oM)] →
    KnL m [(Str.ofString "script", .ref sl), (Str.ofString "modes", .ref M), (Str.ofString "rows", .ref R)] →
    wpAny (model PySem.Challenge.rw_xh0010_01.row.prog w) (callerA.deeper (lawEnv s1 fa cda)) (exec law3 (lawEnv s1 fa cda)) (fun f s' => f = .next ∧ LPk s1 sl M R ys rs (fun _ => True) (fun _ => True) [] [] s') noE { s1 with heap := h, toks := tk } := by
  k_fill
  intro w s1 p loose mean mg mb fa cda sl ms M R ys rs oP oR oM vP vR vM h tk m KX TT BB hys hrs hml hbd offM offR hMR eP eR eM F1 N1 hkn
  w_top on
  delta lawEnv law3 st3 lawScope scOf
  have hyl : ys.length = ms.length := hys.length
  have hrl : rs.length = ms.length := by rw [hrs.length, List.length_map]
  obtain ⟨m3, m2, m1⟩ := offM
  obtain ⟨r3, r2, r1⟩ := offR
  refine forE ?_
  have F2 := Fr.all F1 hkn
  dsimp only [over] at F2
  clear F1
  k_steps
  rename IsRange _ _ _ _ _ _ _ _ => hR
  rename Fr _ _ _ _ => F3
  rename News _ _ _ _ => N3
  refine iter_rng (n := ms.length) hR (small_one (by omega) (by omega) (by omega) (by omega)) (by rw [rangeSize_nat]; simp) F3 N3 fun I h3 F4 N4 off => ?_
  clear F3 N3
  have i1 : (@Ne Nat R I) := off (R, LCg.lst rs) (.head _)
  have i2 : (@Ne Nat M I) := off (M, LCg.lst ys) (.tail _ (.head _))
  have i3 : (@Ne Nat (s1.heap.objs.size + 1 + 1 + 1) I) := off (_, oP) (.tail _ (.tail _ (.head _)))
  have i4 : (@Ne Nat (s1.heap.objs.size + 1 + 1) I) := off (_, oR) (.tail _ (.tail _ (.tail _ (.head _))))
  have i5 : (@Ne Nat (s1.heap.objs.size + 1) I) := off (_, oM) (.tail _ (.tail _ (.tail _ (.tail _ (.head _)))))
  refine ⟨fun k s' => ∃ i, i ≤ ms.length ∧ k = ms.length - i ∧ LPk s1 sl M R ys rs (fun _ => True) (fun _ => True) [] [(I, itR (0 + (i : Int)) ((ms.length : Int) - (i : Int)))] s', ms.length,
    ⟨0, Nat.zero_le _, rfl, oP, oR, oM, _, _, _, eP, eR, eM, trivial, trivial, _, _, _, rfl, F4, N4, rfl, rfl, rfl, trivial⟩, ?_⟩
  rintro k s' ⟨i, hi, rfl, oP, oR, oM, uP, uR, uM, eP, eR, eM, -, -, h4, tk4, m4, rfl, F5, N5, hkn4⟩
  clear F4 N4 off
  refine next_rng (by rfl) F5 N5 (off5 i1 i2 i3 i4 i5) hi (fun tk' h5 tk5 hlt F6 N6 => ?_) (fun h5 tk5 hie F6 N6 => ?_)
  · clear F5 N5
    obtain ⟨a, ha⟩ : ∃ a, ms[i]? = some a := ⟨ms[i], List.getElem?_eq_getElem hlt⟩
    obtain ⟨b, hb⟩ : ∃ b, ms[pidx ms.length (0 + (i : Int) - 1)]? = some b := ⟨_, List.getElem?_eq_getElem (by unfold pidx; split <;> omega)⟩
    have e0 : pidx ms.length (0 + (i : Int)) = i := by unfold pidx; split <;> omega
    obtain ⟨ta, hya⟩ := ints_at hys ha
    obtain ⟨tb, hyb⟩ := ints_at hys hb
    obtain ⟨ua, hra⟩ := strs_at hrs (y := letters a) (by rw [List.getElem?_map, ha]; rfl)
    obtain ⟨ub, hrb⟩ := strs_at hrs (y := letters b) (by rw [List.getElem?_map, hb]; rfl)
    rw [← e0, ← hyl] at hya
    rw [← hyl] at hyb
    rw [← e0, ← hrl] at hra
    rw [← hrl] at hrb
    have hab := hbd a (List.mem_of_getElem? ha)
    have hbb := hbd b (List.mem_of_getElem? hb)
    clear ha hb e0
    refine turn1 F6 N6 (by rfl) (by rfl) fun h6 tk6 F7 N7 => ?_
    have F8 := Fr.all F7 (knows_set hkn4 (by with_unfolding_all rfl))
    dsimp only [over] at F8
    clear F6 F7 N6
    (try simp only [List.cons_append, List.nil_append, List.append_eq] at N7)
    refine stmt_seq (LPk s1 sl M R ys rs (fun _ => True) (fun _ => True) [(Str.ofString "k", .int (0 + (i : Int)) tk'), (Str.ofString "one", .int a ta), (Str.ofString "other", .int b tb)] [(I, itR (0 + ((i + 1 : Nat) : Int)) ((ms.length : Int) - ((i + 1 : Nat) : Int)))]) ?_ ?_
    · k_steps
      all_goals first | exact trivial | (rename Fr _ _ _ _ => Fz; rename News _ _ _ _ => Nz; exact ⟨oP, oR, oM, _, _, _, eP, eR, eM, trivial, trivial, _, _, _, rfl, Fz, fun p hp => Nz p (SubL.mem (by k_subL) p hp), rfl, rfl, rfl, rfl, rfl, rfl, trivial⟩)
    rintro s' ⟨oP, oR, oM, uP, uR, uM, eP, eR, eM, -, -, h8, tk8, m8, rfl, F9, N9, hkn⟩
    have F10 := Fr.all F9 hkn
    dsimp only [over] at F10
    (try simp only [List.cons_append, List.nil_append, List.append_eq] at N9)
    clear F8 N7 F9
    refine stmt_seq (LPk s1 sl M R ys rs (fun _ => True) (fun v => v = some (.str (letters a) ua)) [(Str.ofString "one", .int a ta), (Str.ofString "other", .int b tb), (Str.ofString "theirs", .str (letters b) ub)] [(I, itR (0 + ((i + 1 : Nat) : Int)) ((ms.length : Int) - ((i + 1 : Nat) : Int)))]) ?_ ?_
    · k_steps
      all_goals first | exact trivial | skip
      rename Fr _ _ _ _ => Fz
      rename News _ _ _ _ => Nz
      rename_i oN dN hz
      exact ⟨oP, oR, oN, _, _, _, eP, eR, dN, trivial, rfl, _, _, _, rfl, Fz, fun p hp => Nz p (SubL.mem (by k_subL) p hp), rfl, rfl, rfl, rfl, rfl, rfl, trivial⟩
    rintro s' ⟨oP, oR, oM, uP, uR, uM, eP, eR, eM, -, rfl, h8, tk8, m8, rfl, F9, N9, hkn⟩
    have F11 := Fr.all F9 hkn
    dsimp only [over] at F11
    (try simp only [List.cons_append, List.nil_append, List.append_eq] at N9)
    clear F10 F9
    have la : (letters a).length = 10 := letters_len a
    have lb : (letters b).length = 10 := letters_len b
    have q1 := law_and hab hbb
    have q2 := law_or hab hbb
    refine stmt_seq (LPk s1 sl M R ys rs (fun _ => True) (fun v => v = some (.str (letters a) ua)) [(Str.ofString "one", .int a ta)] [(I, itR (0 + ((i + 1 : Nat) : Int)) ((ms.length : Int) - ((i + 1 : Nat) : Int)))]) ?_ ?_
    · k_steps
      all_goals first | exact trivial | exact (ne_bad q1 (by assumption)).elim | exact (ne_bad q2 (by assumption)).elim | (rename Fr _ _ _ _ => Fz; rename News _ _ _ _ => Nz; exact ⟨oP, oR, oM, _, _, _, eP, eR, eM, trivial, rfl, _, _, _, rfl, Fz, fun p hp => Nz p (SubL.mem (by k_subL) p hp), rfl, rfl, rfl, rfl, trivial⟩)
    rintro s' ⟨oP, oR, oM, uP, uR, uM, eP, eR, eM, -, rfl, h8, tk8, m8, rfl, F9, N9, hkn⟩
    have F12 := Fr.all F9 hkn
    dsimp only [over] at F12
    (try simp only [List.cons_append, List.nil_append, List.append_eq] at N9)
    clear F11 F9 q1 q2
    refine stmt_seq (LPk s1 sl M R ys rs (fun v => ∃ t, v = some (.str (letters (Builtin.bitAnd (Builtin.bitNot a) 511)) t)) (fun v => v = some (.str (letters a) ua)) [(Str.ofString "one", .int a ta)] [(I, itR (0 + ((i + 1 : Nat) : Int)) ((ms.length : Int) - ((i + 1 : Nat) : Int)))]) ?_ ?_
    · k_steps
      all_goals first | exact trivial | skip
      rename Fr _ _ _ _ => Fz
      rename News _ _ _ _ => Nz
      rename_i oN dN
      exact ⟨oP, oN, oM, _, _, _, eP, dN, eM, ⟨_, rfl⟩, rfl, _, _, _, rfl, Fz, fun p hp => Nz p (SubL.mem (by k_subL) p hp), rfl, rfl, rfl, rfl, trivial⟩
    rintro s' ⟨oP, oR, oM, uP, uR, uM, eP, eR, eM, ⟨tr9, rfl⟩, rfl, h8, tk8, m8, rfl, F9, N9, hkn⟩
    have F13 := Fr.all F9 hkn
    dsimp only [over] at F13
    (try simp only [List.cons_append, List.nil_append, List.append_eq] at N9)
    clear F12 F9
    refine stmt_seq (LPk s1 sl M R ys rs (fun _ => True) (fun v => v = some (.str (letters a) ua)) [(Str.ofString "one", .int a ta)] [(I, itR (0 + ((i + 1 : Nat) : Int)) ((ms.length : Int) - ((i + 1 : Nat) : Int)))]) ?_ ?_
    · k_steps
      unfold Stop
      rename IsRange _ _ _ _ _ _ _ _ => hR9
      rename Fr _ _ _ _ => Fr9
      rename News _ _ _ _ => Nr9
      have lr : (letters (Builtin.bitAnd (Builtin.bitNot a) 511)).length = 10 := letters_len _
      refine LCt.CompSrcT.range (n := 9) (by rfl) Fr9 Nr9 hR9 (by decide) (by decide) (by decide) ?_
      intro g9
      clear hR9
      refine rest_indT (fun _ rs => rs = []) rfl (fun j v I' oI' C' oC' D' m' zs h9 tk9 hj hv hG hC' hx' F' N' off' ne' => ?_) (fun zs hG => ?_)
      · subst hG
        obtain ⟨tj, rfl⟩ := hv
        clear Fr9 Nr9
        simp only [LCg.Off3, and_true] at off'
        (repeat ((first | (rename (_ ∧ _) ∧ _ => hcc) | (rename (_ ≠ _) ∧ _ => hcc) | (rename (@LT.lt Nat _ _ _) ∧ _ => hcc)); obtain ⟨_, _⟩ := hcc))
        k_steps
        · exact (inv_bad hab hj (by assumption)).elim
        · exact ⟨rfl, rfl⟩
      · subst hG
        intro D' h9 tk9 F' N' off'
        clear Fr9 Nr9
        simp only [LCg.Off1, and_true] at off'
        (repeat ((first | (rename (_ ∧ _) ∧ _ => hcc) | (rename (_ ≠ _) ∧ _ => hcc) | (rename (@LT.lt Nat _ _ _) ∧ _ => hcc)); obtain ⟨_, _⟩ := hcc))
        k_steps
        all_goals first | exact trivial | (rename Fr _ _ _ _ => Fz; rename News _ _ _ _ => Nz; exact ⟨oP, oR, oM, _, _, _, eP, eR, eM, trivial, rfl, _, _, _, rfl, Fz, fun p hp => Nz p (SubL.mem (by k_subL) p hp), rfl, rfl, rfl, rfl, trivial⟩)
    rintro s' ⟨oP, oR, oM, uP, uR, uM, eP, eR, eM, -, rfl, h8, tk8, m8, rfl, F9, N9, hkn⟩
    have F14 := Fr.all F9 hkn
    dsimp only [over] at F14
    (try simp only [List.cons_append, List.nil_append, List.append_eq] at N9)
    clear F13 F9
    refine wpAny_mono (Q := fun f s' => f = .next ∧ LPk s1 sl M R ys rs (fun _ => True) (fun _ => True) [] [(I, itR (0 + ((i + 1 : Nat) : Int)) ((ms.length : Int) - ((i + 1 : Nat) : Int)))] s') ?_ ?_ (fun _ _ e => e)
    · k_steps
      all_goals first | exact trivial | exact (ne_bad (law_threes hab) (by assumption)).elim | (rename Fr _ _ _ _ => Fz; rename News _ _ _ _ => Nz; exact ⟨oP, oR, oM, _, _, _, eP, eR, eM, trivial, trivial, _, _, _, rfl, Fz, fun p hp => Nz p (SubL.mem (by k_subL) p hp), rfl, rfl, rfl, trivial⟩)
    rintro f s' ⟨rfl, h⟩
    exact ⟨ms.length - (i + 1), by omega, i + 1, by omega, rfl, h⟩
  · subst hie
    exact wpAny_execs_nil ⟨rfl, oP, oR, oM, _, _, _, eP, eR, eM, trivial, trivial, _, _, _, rfl, F6, N6, hkn4⟩
end Mine
namespace Mine
local macro_rules | `(tactic| k_ne) => `(tactic| (refine neN ?_; (try dsimp only); first | assumption | (apply Ne.symm; assumption) | (apply Nat.ne_of_lt; assumption) | (apply Nat.ne_of_gt; assumption) | ((repeat ((first | (rename (_ ∧ _) ∧ _ => hcc) | (rename (_ ≠ _) ∧ _ => hcc) | (rename (@LT.lt Nat _ _ _) ∧ _ => hcc)); obtain ⟨_, _⟩ := hcc)); first | assumption | (apply Ne.symm; assumption) | (apply Nat.ne_of_lt; assumption) | (apply Nat.ne_of_gt; assumption))))
local macro_rules | `(tactic| walk_at "call ref") => `(tactic| (k_here; (with_reducible show wpAny _ _ (call (Value.ref 68) _) _ _ _); k_dflt (refine' Gives.use (fm_call _ _ _) ?k1 ?k2 ?k3 ?k4 ?k5 ?kK ?kd ?ku ?_; (case k1 => k_asm); (case k2 => k_asm); (case k3 => k_asm); (case k4 => k_asm); (case k5 => k_asm); (case kK => first | exact rfl | assumption); (case kd => ktr_room); (case ku => ktr_units); k_whole); intro t9 h9 tk9 F9 N9; (try dsimp only); (try k_fold)))
local macro_rules | `(tactic| walk_at "call ref") => `(tactic| (k_here; (with_reducible show wpAny _ _ (call (Value.ref 119) _) _ _ _); k_dflt (refine' Gives.use (ll_call _ _ _) ?k1 ?k2 ?k3 ?k4 ?k5 ?kK ?kd ?ku ?_; (case k1 => k_asm); (case k2 => k_asm); (case k3 => k_asm); (case k4 => k_asm); (case k5 => k_asm); (case kK => first | exact rfl | assumption); (case kd => ktr_room); (case ku => ktr_units); k_whole); intro t9 h9 tk9 F9 N9; (try dsimp only); (try k_fold)))
local macro_rules | `(tactic| walk_at "call ref") => `(tactic| (k_here; (with_reducible show wpAny _ _ (call (Value.ref 126) _) _ _ _); k_dflt (refine' Gives.use (lm_call _ _ _ _ _ _ (by assumption) (by assumption)) ?k1 ?k2 ?k3 ?k4 ?k5 ?kK ?kd ?ku ?_; (case k1 => k_asm); (case k2 => k_asm); (case k3 => k_asm); (case k4 => k_asm); (case k5 => k_asm); (case kK => first | exact rfl | assumption); (case kd => ktr_room); (case ku => ktr_units); k_whole); intro t9 h9 tk9 F9 N9; (try dsimp only); (try k_fold)))
local macro_rules | `(tactic| walk_at "subscriptTail") => `(tactic| (k_here; (with_reducible show wpAny _ _ (subscriptTail _ _ (Value.ref _) (Value.int _ _)) _ _ _); (with_unfolding_all refine' item_any ?k0 ?k1 ?k2 ?k3 ?k4 ?k5 ?_ ?k6; (case k0 => k_asm); (case k1 => k_mem); (case k5 => assumption); (case k2 => omega); (case k3 => omega); (case k4 => omega); (case k6 => with_unfolding_all rfl); k_whole)))
local macro_rules | `(tactic| walk_at "subscriptTail Name Name ref int") => `(tactic| (k_here; (with_reducible show wpAny _ _ (subscriptTail _ _ (Value.ref _) (Value.int _ _)) _ _ _); (with_unfolding_all refine' item_any ?k0 ?k1 ?k2 ?k3 ?k4 ?k5 ?_ ?k6; (case k0 => k_asm); (case k1 => k_mem); (case k5 => assumption); (case k2 => omega); (case k3 => omega); (case k4 => omega); (case k6 => with_unfolding_all rfl); k_whole)))
local macro_rules | `(tactic| walk_at "subscriptTail Name BinOp ref int") => `(tactic| (k_here; (with_reducible show wpAny _ _ (subscriptTail _ _ (Value.ref _) (Value.int _ _)) _ _ _); (with_unfolding_all refine' item_any ?k0 ?k1 ?k2 ?k3 ?k4 ?k5 ?_ ?k6; (case k0 => k_asm); (case k1 => k_mem); (case k5 => assumption); (case k2 => omega); (case k3 => omega); (case k4 => omega); (case k6 => with_unfolding_all rfl); k_whole)))
local macro_rules | `(tactic| walk_at "eval ListComp") => `(tactic| (k_here; (with_reducible show wpAny _ _ (eval (PySem.Expr.ListComp _ [⟨PySem.Expr.Name (PySem.Str.ofString "k") _, _, _, _⟩] _ _) _) _ _ _); k_dflt (refine LCt.ListComp_T (F₀ := by k_asm) (by with_unfolding_all rfl) (by decide) (by rfl) (by decide) (by rfl) ?_)))
local macro_rules | `(tactic| walk_at "CompSrcT") => `(tactic| (refine Stop.mk ?_))
local macro_rules | `(tactic| walk_at "call ref") => `(tactic| (k_here; (with_reducible show wpAny _ _ (call (Value.ref 77) _) _ _ _); k_dflt (refine' GivesN.use (rd_and _ _ _ _ (by assumption) _ _) ?k1 ?k2 ?k3 ?k4 ?k5 ?kK ?kd ?ku ?kH ?_; (case k1 => k_asm); (case k2 => k_asm); (case k3 => k_asm); (case k4 => k_asm); (case k5 => k_asm); (case kK => first | exact rfl | assumption); (case kd => ktr_room); (case ku => ktr_units); (case kH => k_mem); k_whole); intro t9 h9 tk9 F9 N9; (try dsimp only); (try k_fold)))
local macro_rules | `(tactic| walk_at "call ref") => `(tactic| (k_here; (with_reducible show wpAny _ _ (call (Value.ref 77) _) _ _ _); k_dflt (refine' GivesN.use (rd_or _ _ _ _ (by assumption) _ _) ?k1 ?k2 ?k3 ?k4 ?k5 ?kK ?kd ?ku ?kH ?_; (case k1 => k_asm); (case k2 => k_asm); (case k3 => k_asm); (case k4 => k_asm); (case k5 => k_asm); (case kK => first | exact rfl | assumption); (case kd => ktr_room); (case ku => ktr_units); (case kH => k_mem); k_whole); intro t9 h9 tk9 F9 N9; (try dsimp only); (try k_fold)))
local macro_rules | `(tactic| walk_at "compareOp NotIn str ref") => `(tactic| (k_here; (with_reducible show wpAny _ _ (compareOp CmpOp.NotIn (Value.str _ _) (Value.ref _)) _ _ _); k_dflt (refine' notin_list_strs (News.isList (by k_asm) (by k_mem)) ?ks ?_; (case ks => assumption); k_whole)))
local macro_rules | `(tactic| walk_at "eval ListComp") => `(tactic| (k_here; (with_reducible show wpAny _ _ (eval (PySem.Expr.ListComp _ [⟨PySem.Expr.Name (PySem.Str.ofString "letter") _, _, _, _⟩] _ _) _) _ _ _); k_dflt (refine LCt.ListComp_T (F₀ := by k_asm) (by with_unfolding_all rfl) (by decide) (by rfl) (by decide) (by rfl) ?_)))
local macro_rules | `(tactic| walk_at "compareOp NotEq ref ref") => `(tactic| (k_here; (with_reducible show wpAny _ _ (compareOp CmpOp.NotEq (Value.ref _) (Value.ref _)) _ _ _); k_dflt (refine' ne_empty ?kn ?ka ?kb ?ki ?ku ?ko ?_; (case kn => k_asm); (case ka => k_mem); (case kb => k_mem); (case ki => assumption); (case ko => assumption); (case ku => k_units); k_whole)))
theorem seg6 : ∀ (w : World) (s1 : Shared) (p : Program) (loose : List Str) (mean : ExcName → Option Value) (mg mb : Str → Option Value) (fa cda sl : Addr) (ms : List Int) (M R : Nat) (ys rs : List Value) (oP oR oM : Obj) (vP vR vM : Option Value) (h : Heap) (tk : Nat) (m : Str → Option Value) (ev so : Int) (to ta tn : Tok),
    (Mine.hd.heap_39 w.params).In s1.heap → Top p loose mean mg mb s1.heap → Below callerA s1.heap [] s1.heap → IntsAre ys ms → StrsAre rs (ms.map letters) → ms.length ≤ 24 → (∀ x ∈ ms, 0 ≤ x ∧ x < 512) → Offs s1 M → Offs s1 R → M ≠ R →
    ms.foldl Builtin.bitAnd 511 = ev → ms.foldl Builtin.bitOr 0 = so →
    oP.data = .cell vP → oR.data = .cell vR → oM.data = .cell vM → Fr s1.heap s1.heap.objs.size h m →
    News s1.heap s1.heap.objs.size h [(R, LCg.lst rs), (M, LCg.lst ys), (s1.heap.objs.size + 1 + 1 + 1, oP), (s1.heap.objs.size + 1 + 1, oR), (s1.heap.objs.size + 1, oM)] →
    KnL m [(Str.ofString "script", .ref sl), (Str.ofString "modes", .ref M), (Str.ofString "rows", .ref R), (Str.ofString "some", .int so to), (Str.ofString "all_have", .str (letters ev) ta), (Str.ofString "any_has", .str (letters so) tn)] →
    wpAny (model PySem.Challenge.rw_xh0010_01.row.prog w) (callerA.deeper (lawEnv s1 fa cda)) (exec law6 (lawEnv s1 fa cda)) (fun f s' => f = .next ∧ LP6 s1 sl M R ys rs ev so to ta tn (fun _ => True) [] s') noE { s1 with heap := h, toks := tk } := by
  k_fill
  intro w s1 p loose mean mg mb fa cda sl ms M R ys rs oP oR oM vP vR vM h8 tk8 m8 ev so to ta tn KX TT BB hys hrs hml hbd offM offR hMR hev hso eP eR eM F9 N9 hkn
  w_top on
  delta lawEnv law6 st6 lawScope scOf
  have hyl : ys.length = ms.length := hys.length
  have hrl : rs.length = ms.length := by rw [hrs.length, List.length_map]
  obtain ⟨m3, m2, m1⟩ := offM
  obtain ⟨r3, r2, r1⟩ := offR
  have F12 := Fr.all F9 hkn
  dsimp only [over] at F12
  clear F9
  have lev : (letters ev).length = 10 := letters_len ev
  have lso : (letters so).length = 10 := letters_len so
  refine forE ?_
  k_steps
  rename IsRange _ _ _ _ _ _ _ _ => hR
  rename Fr _ _ _ _ => F3
  rename News _ _ _ _ => N3
  refine iter_rng (n := 9) hR (by decide) (by decide) F3 N3 fun I h3 F4 N4 off => ?_
  clear F3 N3 hR
  have i1 : (@Ne Nat R I) := off (R, LCg.lst rs) (.head _)
  have i2 : (@Ne Nat M I) := off (M, LCg.lst ys) (.tail _ (.head _))
  have i3 : (@Ne Nat (s1.heap.objs.size + 1 + 1 + 1) I) := off (_, oP) (.tail _ (.tail _ (.head _)))
  have i4 : (@Ne Nat (s1.heap.objs.size + 1 + 1) I) := off (_, oR) (.tail _ (.tail _ (.tail _ (.head _))))
  have i5 : (@Ne Nat (s1.heap.objs.size + 1) I) := off (_, oM) (.tail _ (.tail _ (.tail _ (.tail _ (.head _)))))
  refine ⟨fun k s' => ∃ i, i ≤ 9 ∧ k = 9 - i ∧ LP6 s1 sl M R ys rs ev so to ta tn (fun _ => True) [(I, itR (0 + (i : Int)) (((9 : Nat) : Int) - (i : Int)))] s', 9,
    ⟨0, Nat.zero_le _, rfl, oP, oR, oM, _, _, _, eP, eR, eM, trivial, _, _, _, rfl, F4, N4, rfl, rfl, rfl, rfl, rfl, rfl, trivial⟩, ?_⟩
  rintro k s' ⟨i, hi, rfl, oP, oR, oM, uP, uR, uM, eP, eR, eM, -, h4, tk4, m4, rfl, F5, N5, hkn4⟩
  clear F4 N4 off
  refine next_rng (by rfl) F5 N5 (off5 i1 i2 i3 i4 i5) hi (fun tk' h5 tk5 hlt F6 N6 => ?_) (fun h5 tk5 hie F6 N6 => ?_)
  · clear F5 N5
    have F7 := Fr.all F6 hkn4
    dsimp only [over] at F7
    (try simp only [List.cons_append, List.nil_append, List.append_eq] at N6)
    clear F6
    generalize hp : (0 : Int) + (i : Int) = p
    have hp9 : 0 ≤ p ∧ p < 9 := by omega
    refine wpAny_pure ?_
    refine wpAny_mono (Q := fun _ s' => LP6 s1 sl M R ys rs ev so to ta tn (fun v => v = some (.int p tk')) [(I, itR (0 + ((i + 1 : Nat) : Int)) (((9 : Nat) : Int) - ((i + 1 : Nat) : Int)))] s') ?_ ?_ (fun _ _ e => e)
    · k_steps
      rename Fr _ _ _ _ => Fz
      rename News _ _ _ _ => Nz
      rename_i oN dN
      exact ⟨oN, oR, oM, _, _, _, dN, eR, eM, rfl, _, _, _, rfl, Fz, fun p hp => Nz p (SubL.mem (by k_subL) p hp), rfl, rfl, rfl, rfl, rfl, rfl, trivial⟩
    clear F7 N6
    rintro - s' ⟨oP, oR, oM, uP, uR, uM, eP, eR, eM, rfl, h8, tk8, m8, rfl, F9, N9, hkn⟩
    have F10 := Fr.all F9 hkn
    dsimp only [over] at F10
    (try simp only [List.cons_append, List.nil_append, List.append_eq] at N9)
    clear F9
    refine stmt_seq (LP7 s1 sl M R ys rs ms ev so to ta tn p [(I, itR (0 + ((i + 1 : Nat) : Int)) (((9 : Nat) : Int) - ((i + 1 : Nat) : Int)))]) ?_ ?_
    · k_dflt (refine LCg.Assign_ListComp_U (F₀ := by k_asm) (by rfl) (by with_unfolding_all rfl) (by with_unfolding_all rfl) (by decide) (by rfl) (by decide) (by rfl) (by rfl) (by rfl) ?_)
      walk1
      have hsz : rs.toArray.size ≤ sizeLine := by rw [List.size_toArray, hrl]; exact Nat.le_trans hml (by decide)
      refine LCg.CompSrc.ledger (by rfl) F10 N9 (.tail _ (.head _)) hsz ?_
      intro g
      refine rest_ind (fun j zs => StrsAre zs (col (ms.take j) p)) .nil (fun j v I' oI' C' oC' D' m' zs h9 tk9 hj hv hy hC hx F' N' off' ne' => ?_) ?fin
      · clear F10 N9
        obtain ⟨q, hq⟩ : ∃ q, ms[j]? = some q := ⟨_, List.getElem?_eq_getElem (by rw [List.size_toArray, hrl] at hj; exact hj)⟩
        obtain ⟨tq, hrq⟩ := strs_at hrs (y := letters q) (by rw [List.getElem?_map, hq]; rfl)
        have hv' : rs[j]? = some v := by simpa using hv
        rw [hrq] at hv'
        cases hv'
        have lq : (letters q).length = 10 := letters_len q
        simp only [LCg.Off3, and_true] at off'
        (repeat ((first | (rename (_ ∧ _) ∧ _ => hcc) | (rename (_ ≠ _) ∧ _ => hcc) | (rename (@LT.lt Nat _ _ _) ∧ _ => hcc)); obtain ⟨_, _⟩ := hcc))
        k_steps
        refine ⟨rfl, ?_⟩
        rw [col_snoc p hq]
        exact strs_of_append hy
      · intro zs hzs D' h9 tk9 F' N' o1
        simp only [LCg.Off1, and_true] at o1
        have e : ms.take rs.toArray.size = ms := List.take_of_length_le (by rw [List.size_toArray, hrl]; exact Nat.le_refl _)
        rw [e] at hzs
        exact ⟨rfl, D', zs, oP, oR, oM, _, _, tk', hzs, o1.2.1, o1.2.2.1, o1.2.2.2, eP, eR, eM, _, _, _, rfl, F', N', rfl, rfl, rfl, rfl, rfl, rfl, rfl, trivial⟩
    rintro s' ⟨D, zs, oP, oR, oM, uR, uM, tp, hzs, d1, d2, ⟨d3, d4, d5⟩, eP, eR, eM, h8, tk8, m8, rfl, F9, N9, hkn⟩
    have F11 := Fr.all F9 hkn
    dsimp only [over] at F11
    (try simp only [List.cons_append, List.nil_append, List.append_eq] at N9)
    clear F9 F10
    refine stmt_seq (LP7 s1 sl M R ys rs ms ev so to ta tn p [(I, itR (0 + ((i + 1 : Nat) : Int)) (((9 : Nat) : Int) - ((i + 1 : Nat) : Int)))]) ?_ ?_
    · k_steps
      all_goals first | exact trivial | exact (bb_bad (law_every hbd hev hp9) (by assumption)).elim | (rename Fr _ _ _ _ => Fz; rename News _ _ _ _ => Nz; exact ⟨D, zs, oP, oR, oM, _, _, tp, hzs, d1, d2, ⟨d3, d4, d5⟩, eP, eR, eM, _, _, _, rfl, Fz, fun p hp => Nz p (SubL.mem (by k_subL) p hp), rfl, rfl, rfl, rfl, rfl, rfl, rfl, trivial⟩)
    rintro s' ⟨D, zs, oP, oR, oM, uR, uM, tp, hzs, d1, d2, ⟨d3, d4, d5⟩, eP, eR, eM, h8, tk8, m8, rfl, F9, N9, hkn⟩
    have F12 := Fr.all F9 hkn
    dsimp only [over] at F12
    (try simp only [List.cons_append, List.nil_append, List.append_eq] at N9)
    clear F9 F11
    refine wpAny_mono (Q := fun f s' => f = .next ∧ LP6 s1 sl M R ys rs ev so to ta tn (fun _ => True) [(I, itR (0 + ((i + 1 : Nat) : Int)) (((9 : Nat) : Int) - ((i + 1 : Nat) : Int)))] s') ?_ ?_ (fun _ _ e => e)
    · k_steps
      unfold Stop
      rename Fr _ _ _ _ => Fr9
      rename News _ _ _ _ => Nr9
      have hzl : zs.length = ms.length := by rw [hzs.length, col, List.length_map]
      have hsz : zs.toArray.size ≤ sizeLine := by rw [List.size_toArray, hzl]; exact Nat.le_trans hml (by decide)
      refine LCt.CompSrcT.ledger (by rfl) Fr9 Nr9 (.head _) hsz ?_
      intro g9
      refine rest_indT (fun j ws => StrsAre ws (((col ms p).take j).filter fun z => z != Str.ofString "-")) .nil (fun j v I' oI' C' oC' D' m' ws h9 tk9 hj hv hG hC' hx' F' N' off' ne' => ?_) (fun ws hG => ?_)
      · clear Fr9 Nr9
        obtain ⟨z, tz, rfl, hz⟩ := strs_get hzs (i := j) (v := v) (by simpa using hv)
        have hst := filter_snoc (fun z => z != Str.ofString "-") hz
        simp only [LCg.Off3, and_true] at off'
        (repeat ((first | (rename (_ ∧ _) ∧ _ => hcc) | (rename (_ ≠ _) ∧ _ => hcc) | (rename (@LT.lt Nat _ _ _) ∧ _ => hcc)); obtain ⟨_, _⟩ := hcc))
        k_steps
        · exact ⟨rfl, flt_yes hst (by assumption) hG⟩
        · exact ⟨rfl, flt_no hst (by assumption) hG⟩
      · intro D' h9 tk9 F' N' off'
        clear Fr9 Nr9
        have e : (col ms p).take zs.toArray.size = col ms p := List.take_of_length_le (by rw [List.size_toArray, hzs.length]; exact Nat.le_refl _)
        rw [e] at hG
        have hok := col_ok hbd hp9
        simp only [LCg.Off1, and_true] at off'
        (repeat ((first | (rename (_ ∧ _) ∧ _ => hcc) | (rename (_ ≠ _) ∧ _ => hcc) | (rename (@LT.lt Nat _ _ _) ∧ _ => hcc)); obtain ⟨_, _⟩ := hcc))
        k_steps
        all_goals first | exact trivial | exact (bb_bad (law_some hbd hso hp9) (by assumption)).elim | (rename Fr _ _ _ _ => Fz; rename News _ _ _ _ => Nz; exact ⟨oP, oR, oM, _, _, _, eP, eR, eM, trivial, _, _, _, rfl, Fz, fun p hp => Nz p (SubL.mem (by k_subL) p hp), rfl, rfl, rfl, rfl, rfl, rfl, trivial⟩)
    rintro f s' ⟨rfl, h⟩
    exact ⟨9 - (i + 1), by omega, i + 1, by omega, rfl, h⟩
  · subst hie
    exact wpAny_execs_nil ⟨rfl, oP, oR, oM, _, _, _, eP, eR, eM, trivial, _, _, _, rfl, F6, N6, hkn4⟩
end Mine
namespace Mine
local macro_rules | `(tactic| k_ne) => `(tactic| (refine neN ?_; (try dsimp only); first | assumption | (apply Ne.symm; assumption) | (apply Nat.ne_of_lt; assumption) | (apply Nat.ne_of_gt; assumption) | ((repeat ((first | (rename (_ ∧ _) ∧ _ => hcc) | (rename (_ ≠ _) ∧ _ => hcc) | (rename (@LT.lt Nat _ _ _) ∧ _ => hcc)); obtain ⟨_, _⟩ := hcc)); first | assumption | (apply Ne.symm; assumption) | (apply Nat.ne_of_lt; assumption) | (apply Nat.ne_of_gt; assumption))))
local macro_rules | `(tactic| walk_at "call ref") => `(tactic| (k_here; (with_reducible show wpAny _ _ (call (Value.ref 68) _) _ _ _); k_dflt (refine' Gives.use (fm_call _ _ _) ?k1 ?k2 ?k3 ?k4 ?k5 ?kK ?kd ?ku ?_; (case k1 => k_asm); (case k2 => k_asm); (case k3 => k_asm); (case k4 => k_asm); (case k5 => k_asm); (case kK => first | exact rfl | assumption); (case kd => ktr_room); (case ku => ktr_units); k_whole); intro t9 h9 tk9 F9 N9; (try dsimp only); (try k_fold)))
local macro_rules | `(tactic| walk_at "call ref") => `(tactic| (k_here; (with_reducible show wpAny _ _ (call (Value.ref 119) _) _ _ _); k_dflt (refine' Gives.use (ll_call _ _ _) ?k1 ?k2 ?k3 ?k4 ?k5 ?kK ?kd ?ku ?_; (case k1 => k_asm); (case k2 => k_asm); (case k3 => k_asm); (case k4 => k_asm); (case k5 => k_asm); (case kK => first | exact rfl | assumption); (case kd => ktr_room); (case ku => ktr_units); k_whole); intro t9 h9 tk9 F9 N9; (try dsimp only); (try k_fold)))
local macro_rules | `(tactic| walk_at "call ref") => `(tactic| (k_here; (with_reducible show wpAny _ _ (call (Value.ref 126) _) _ _ _); k_dflt (refine' Gives.use (lm_call _ _ _ _ _ _ (by assumption) (by assumption)) ?k1 ?k2 ?k3 ?k4 ?k5 ?kK ?kd ?ku ?_; (case k1 => k_asm); (case k2 => k_asm); (case k3 => k_asm); (case k4 => k_asm); (case k5 => k_asm); (case kK => first | exact rfl | assumption); (case kd => ktr_room); (case ku => ktr_units); k_whole); intro t9 h9 tk9 F9 N9; (try dsimp only); (try k_fold)))
local macro_rules | `(tactic| walk_at "subscriptTail") => `(tactic| (k_here; (with_reducible show wpAny _ _ (subscriptTail _ _ (Value.ref _) (Value.int _ _)) _ _ _); (with_unfolding_all refine' item_any ?k0 ?k1 ?k2 ?k3 ?k4 ?k5 ?_ ?k6; (case k0 => k_asm); (case k1 => k_mem); (case k5 => assumption); (case k2 => omega); (case k3 => omega); (case k4 => omega); (case k6 => with_unfolding_all rfl); k_whole)))
local macro_rules | `(tactic| walk_at "subscriptTail Name Name ref int") => `(tactic| (k_here; (with_reducible show wpAny _ _ (subscriptTail _ _ (Value.ref _) (Value.int _ _)) _ _ _); (with_unfolding_all refine' item_any ?k0 ?k1 ?k2 ?k3 ?k4 ?k5 ?_ ?k6; (case k0 => k_asm); (case k1 => k_mem); (case k5 => assumption); (case k2 => omega); (case k3 => omega); (case k4 => omega); (case k6 => with_unfolding_all rfl); k_whole)))
local macro_rules | `(tactic| walk_at "subscriptTail Name BinOp ref int") => `(tactic| (k_here; (with_reducible show wpAny _ _ (subscriptTail _ _ (Value.ref _) (Value.int _ _)) _ _ _); (with_unfolding_all refine' item_any ?k0 ?k1 ?k2 ?k3 ?k4 ?k5 ?_ ?k6; (case k0 => k_asm); (case k1 => k_mem); (case k5 => assumption); (case k2 => omega); (case k3 => omega); (case k4 => omega); (case k6 => with_unfolding_all rfl); k_whole)))
local macro_rules | `(tactic| walk_at "eval ListComp") => `(tactic| (k_here; (with_reducible show wpAny _ _ (eval (PySem.Expr.ListComp _ [⟨PySem.Expr.Name (PySem.Str.ofString "k") _, _, _, _⟩] _ _) _) _ _ _); k_dflt (refine LCt.ListComp_T (F₀ := by k_asm) (by with_unfolding_all rfl) (by decide) (by rfl) (by decide) (by rfl) ?_)))
local macro_rules | `(tactic| walk_at "CompSrcT") => `(tactic| (refine Stop.mk ?_))
local macro_rules | `(tactic| walk_at "call ref") => `(tactic| (k_here; (with_reducible show wpAny _ _ (call (Value.ref 77) _) _ _ _); k_dflt (refine' GivesN.use (rd_and _ _ _ _ (by assumption) _ _) ?k1 ?k2 ?k3 ?k4 ?k5 ?kK ?kd ?ku ?kH ?_; (case k1 => k_asm); (case k2 => k_asm); (case k3 => k_asm); (case k4 => k_asm); (case k5 => k_asm); (case kK => first | exact rfl | assumption); (case kd => ktr_room); (case ku => ktr_units); (case kH => k_mem); k_whole); intro t9 h9 tk9 F9 N9; (try dsimp only); (try k_fold)))
local macro_rules | `(tactic| walk_at "call ref") => `(tactic| (k_here; (with_reducible show wpAny _ _ (call (Value.ref 77) _) _ _ _); k_dflt (refine' GivesN.use (rd_or _ _ _ _ (by assumption) _ _) ?k1 ?k2 ?k3 ?k4 ?k5 ?kK ?kd ?ku ?kH ?_; (case k1 => k_asm); (case k2 => k_asm); (case k3 => k_asm); (case k4 => k_asm); (case k5 => k_asm); (case kK => first | exact rfl | assumption); (case kd => ktr_room); (case ku => ktr_units); (case kH => k_mem); k_whole); intro t9 h9 tk9 F9 N9; (try dsimp only); (try k_fold)))
local macro_rules | `(tactic| walk_at "compareOp NotIn str ref") => `(tactic| (k_here; (with_reducible show wpAny _ _ (compareOp CmpOp.NotIn (Value.str _ _) (Value.ref _)) _ _ _); k_dflt (refine' notin_list_strs (News.isList (by k_asm) (by k_mem)) ?ks ?_; (case ks => assumption); k_whole)))
local macro_rules | `(tactic| walk_at "eval ListComp") => `(tactic| (k_here; (with_reducible show wpAny _ _ (eval (PySem.Expr.ListComp _ [⟨PySem.Expr.Name (PySem.Str.ofString "letter") _, _, _, _⟩] _ _) _) _ _ _); k_dflt (refine LCt.ListComp_T (F₀ := by k_asm) (by with_unfolding_all rfl) (by decide) (by rfl) (by decide) (by rfl) ?_)))
local macro_rules | `(tactic| walk_at "compareOp NotEq ref ref") => `(tactic| (k_here; (with_reducible show wpAny _ _ (compareOp CmpOp.NotEq (Value.ref _) (Value.ref _)) _ _ _); k_dflt (refine' ne_empty ?kn ?ka ?kb ?ki ?ku ?ko ?_; (case kn => k_asm); (case ka => k_mem); (case kb => k_mem); (case ki => assumption); (case ko => assumption); (case ku => k_units); k_whole)))
theorem main : PySem.Challenge.rw_xh0010_01.Holds := Mine.hd (by
  k_go0
  all_goals try k_fold
  rename_i w s0 s1 mg mb G Y fa o pm doc ho hg KX X V GL TT BT TE TW bm ob MM cda cdb hcd ns hs hlay0 hLay hrr hl2 la1 la2 sl vs la3 hL ra w1 r0 hI hr2 hc1 hc2 BB hD h1 tk1 F0 oP oR oM dP dR dM N0 X0
  clear V GL BT TE TW G Y MM hs hlay0 hrr hl2 hr2 hD
  refine wpAny_noRaise ?_
  generalize hms : (ns.take 24).map (fun k => k.fmod 512) = ms
  refine stmt_seq (LP1 s1 sl oP oR oM ms) ?_ ?_
  · k_steps
    subst hms
    rename Fr _ _ _ _ => Fz
    rename News _ _ _ _ => Nz
    rename_i Md hd tkd o1
    exact ⟨Md, ys, by assumption, o1.2, _, _, _, rfl, Fz, fun p hp => Nz p (SubL.mem (by k_subL) p hp), rfl, rfl, trivial⟩
  rintro s' ⟨M, ys, hys, hlt, h, tk, m, rfl, F1, N1, hkn⟩
  clear F0 N0
  have F3 := Fr.all F1 hkn
  dsimp only [over] at F3
  clear F1
  have hml : ms.length ≤ 24 := by rw [← hms, List.length_map, List.length_take]; omega
  refine stmt_seq (LP2 s1 sl ms) ?_ ?_
  · k_dflt (refine LCg.Assign_ListComp_U (F₀ := by k_asm) (by rfl) (by with_unfolding_all rfl) (by with_unfolding_all rfl) (by decide) (by rfl) (by decide) (by rfl) (by rfl) (by rfl) ?_)
    walk1
    have hsz : ys.toArray.size ≤ sizeLine := by rw [List.size_toArray, hys.length]; exact Nat.le_trans hml (by decide)
    refine LCg.CompSrc.ledger (by rfl) F3 N1 (.head _) hsz ?_
    intro g
    refine rest_ind (fun i rs => StrsAre rs ((ms.take i).map letters)) .nil (fun i v I oI C oC D m₂ rs h tk hi hv hy hC hx F' N' off' ne' => ?_) ?fin
    · clear F3 N1
      obtain ⟨k, t, rfl, hk⟩ := IntsAre.at hys i v (by simpa using hv)
      k_steps
      all_goals first | (refine ⟨rfl, ?_⟩; rw [List.take_add_one, hk]; simpa using strs_of_append hy) | (rename Fr _ _ _ _ => Fz; rename News _ _ _ _ => Nz; refine LCg.CompEnd.intro Fz Nz _ (fun p hp => hp) off' (.inr ⟨_, .head _, rfl, _, rfl⟩) ⟨rfl, ?_⟩; rw [List.take_add_one, hk]; simpa using strs_of_append hy)
    · intro rs hrs D h tk F N o1
      simp only [LCg.Off1, and_true] at o1
      have e : ms.take ys.toArray.size = ms := List.take_of_length_le (by rw [List.size_toArray, hys.length]; exact Nat.le_refl _)
      rw [e] at hrs
      exact ⟨rfl, M, D, ys, rs, oP, oR, oM, _, _, _, hys, hrs, dP, dR, dM, hlt, o1.2, o1.1, _, _, _, rfl, F, N, rfl, rfl, rfl, trivial⟩
  clear hys N1 hkn F3 M ys hlt
  rintro s' ⟨M, R, ys, rs, oP, oR, oM, vP, vR, vM, hys, hrs, eP, eR, eM, offM, offR, hMR, h, tk, m, rfl, F1, N1, hkn⟩
  clear X0 dP dR dM
  have hyl : ys.length = ms.length := hys.length
  have hrl : rs.length = ms.length := by rw [hrs.length, List.length_map]
  have hbd : ∀ x ∈ ms, 0 ≤ x ∧ x < 512 := by
    intro x hx
    rw [← hms] at hx
    obtain ⟨z, _, rfl⟩ := List.mem_map.mp hx
    exact ⟨fmod_lo z (by decide), fmod_hi z (by decide)⟩
  refine stmt_seq (LPk s1 sl M R ys rs (fun _ => True) (fun _ => True) [] []) ?_ ?_
  · exact seg3 w s1 _ _ _ _ _ fa cda sl ms M R ys rs oP oR oM _ _ _ _ _ _ KX TT BB hys hrs hml hbd offM offR hMR eP eR eM F1 N1 hkn
  clear hkn F1 N1 eP eR eM oP oR oM
  rintro s' ⟨oP, oR, oM, uP, uR, uM, eP, eR, eM, -, -, h8, tk8, m8, rfl, F9, N9, hkn⟩
  have F10 := Fr.all F9 hkn
  dsimp only [over] at F10
  (try simp only [List.cons_append, List.nil_append, List.append_eq] at N9)
  clear F9
  generalize hev : ms.foldl Builtin.bitAnd 511 = ev
  generalize hso : ms.foldl Builtin.bitOr 0 = so
  refine stmt_seq (LP4 s1 sl M R ys rs ev so) ?_ ?_
  · subst hev hso
    k_steps
    all_goals first | exact trivial | (rename Fr _ _ _ _ => Fz; rename News _ _ _ _ => Nz; exact ⟨_, _, oP, oR, oM, _, _, _, eP, eR, eM, trivial, _, _, _, rfl, Fz, fun p hp => Nz p (SubL.mem (by k_subL) p hp), rfl, rfl, rfl, rfl, rfl, trivial⟩)
  rintro s' ⟨te, to, oP, oR, oM, uP, uR, uM, eP, eR, eM, -, h8, tk8, m8, rfl, F9, N9, hkn⟩
  have F11 := Fr.all F9 hkn
  dsimp only [over] at F11
  (try simp only [List.cons_append, List.nil_append, List.append_eq] at N9)
  clear F10 F9
  refine stmt_seq (LP5 s1 sl M R ys rs ev so) ?_ ?_
  · k_steps
    all_goals first | exact trivial | (rename Fr _ _ _ _ => Fz; rename News _ _ _ _ => Nz; exact ⟨_, _, _, oP, oR, oM, _, _, _, eP, eR, eM, trivial, _, _, _, rfl, Fz, fun p hp => Nz p (SubL.mem (by k_subL) p hp), rfl, rfl, rfl, rfl, rfl, rfl, trivial⟩)
  rintro s' ⟨to, ta, tn, oP, oR, oM, uP, uR, uM, eP, eR, eM, -, h8, tk8, m8, rfl, F9, N9, hkn⟩
  clear F11
  have lso : (letters so).length = 10 := letters_len so
  refine stmt_seq (LP6 s1 sl M R ys rs ev so to ta tn (fun _ => True) []) ?_ ?_
  · exact seg6 w s1 _ _ _ _ _ fa cda sl ms M R ys rs oP oR oM _ _ _ _ _ _ ev so to ta tn KX TT BB hys hrs hml hbd offM offR hMR hev hso eP eR eM F9 N9 hkn
  clear hkn F9 N9 eP eR eM oP oR oM
  rintro s' ⟨oP, oR, oM, uP, uR, uM, eP, eR, eM, -, h8, tk8, m8, rfl, F9, N9, hkn⟩
  have F13 := Fr.all F9 hkn
  dsimp only [over] at F13
  (try simp only [List.cons_append, List.nil_append, List.append_eq] at N9)
  clear F9
  have hsb := so_in hbd hso
  refine stmt_seq (LP8 s1 sl M R ys rs so ((ns.take 1).sum.fmod 7)) ?_ ?_
  · k_steps
    all_goals first | exact trivial | (rename Fr _ _ _ _ => Fz; rename News _ _ _ _ => Nz; refine ⟨_, _, _, ⟨oP, oR, oM, _, _, _, eP, eR, eM, trivial, _, _, _, rfl, Fz, fun p hp => Nz p (SubL.mem (by k_subL) p hp), rfl, rfl, rfl, rfl, rfl, trivial⟩, ?_⟩; rfl)
  rintro s' ⟨q, tq, to, ⟨oP, oR, oM, uP, uR, uM, eP, eR, eM, -, h8, tk8, m8, rfl, F9, N9, hkn⟩, hkq⟩
  have F14 := Fr.all F9 hkn
  dsimp only [over] at F14
  (try simp only [List.cons_append, List.nil_append, List.append_eq] at N9)
  clear F9 F13
  have hr0 : 0 ≤ (ns.take 1).sum.fmod 7 := fmod_lo _ (by decide)
  have hr7 : (ns.take 1).sum.fmod 7 < 7 := fmod_hi _ (by decide)
  have hq7 := kk_in hkq hr0 hr7
  have hqb : 0 ≤ q ∧ q ≤ 12 := by omega
  refine stmt_seq (LP9 s1 sl M R ys rs so q) ?_ ?_
  · k_steps
    all_goals first | exact trivial | (rename Fr _ _ _ _ => Fz; rename News _ _ _ _ => Nz; exact ⟨_, _, _, oP, oR, oM, _, _, _, eP, eR, eM, trivial, _, _, _, rfl, Fz, fun p hp => Nz p (SubL.mem (by k_subL) p hp), rfl, rfl, rfl, rfl, rfl, rfl, trivial⟩)
  rintro s' ⟨tq, to, tw, oP, oR, oM, uP, uR, uM, eP, eR, eM, -, h8, tk8, m8, rfl, F9, N9, hkn⟩
  have F15 := Fr.all F9 hkn
  dsimp only [over] at F15
  (try simp only [List.cons_append, List.nil_append, List.append_eq] at N9)
  clear F9 F14
  have hm1 := law_imode hqb hsb
  have hm2 := law_ifmt hqb hsb
  refine stmt_seq (LP9 s1 sl M R ys rs so q) ?_ ?_
  · k_steps
    all_goals first | exact trivial | exact absurd hm1 (by assumption) | exact absurd hm2 (by assumption) | (rename Fr _ _ _ _ => Fz; rename News _ _ _ _ => Nz; exact ⟨_, _, _, oP, oR, oM, _, _, _, eP, eR, eM, trivial, _, _, _, rfl, Fz, fun p hp => Nz p (SubL.mem (by k_subL) p hp), rfl, rfl, rfl, rfl, rfl, rfl, trivial⟩)
  rintro s' ⟨tq, to, tw, oP, oR, oM, uP, uR, uM, eP, eR, eM, -, h8, tk8, m8, rfl, F9, N9, hkn⟩
  have F16 := Fr.all F9 hkn
  dsimp only [over] at F16
  (try simp only [List.cons_append, List.nil_append, List.append_eq] at N9)
  clear F9 F15 hm1 hm2 hyl hrl hml hys hrs hbd
  refine wpAny_mono (Q := fun f s' => f = .ret (.bool true) ∧ LP9 s1 sl M R ys rs so q s') ?_ ?_ (fun _ _ e => e)
  · k_steps
    all_goals first | exact ret_true (law_final hkq hr0 hr7 hsb) | (rename Fr _ _ _ _ => Fz; rename News _ _ _ _ => Nz; exact ⟨_, _, _, oP, oR, oM, _, _, _, eP, eR, eM, trivial, _, _, _, rfl, Fz, fun p hp => Nz p (SubL.mem (by k_subL) p hp), rfl, rfl, rfl, rfl, rfl, rfl, trivial⟩)
  rintro f s' ⟨rfl, tq, to, tw, oP, oR, oM, uP, uR, uM, eP, eR, eM, -, h8, tk8, m8, rfl, F9, N9, hkn⟩
  (try simp only [List.cons_append, List.nil_append, List.append_eq] at N9)
  clear F16 
  k_steps)
end Mine
theorem PySem.Challenge.cw_xh0010_01_holds : PySem.Challenge.rw_xh0010_01.Holds :=
  Mine.main

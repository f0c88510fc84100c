import PyProof.Rows.All
import Wide.All
import OpenK.AllK
import Wide.FinOn
import PySem.Challenge.RW_co0036_01
open PySem PySem.W PyProof.Rows
set_option Elab.async false
set_option maxRecDepth 100000
namespace Mine
open PySem PySem.Spec PySem.Calls PyProof.Rows PySem.W

theorem ints3 {ws : List Value} {ns : List Int} (hi : IntsAre ws ns) (h3 : ns.length = 3) :
    ∃ a b c ta tb tc, ws = [Value.int a ta, Value.int b tb, Value.int c tc] := by
  match ns, h3 with
  | [a, b, c], _ =>
    cases hi with
    | cons _ ta r =>
      cases r with
      | cons _ tb r =>
        cases r with
        | cons _ tc r =>
          cases r with
          | nil => exact ⟨a, b, c, ta, tb, tc, rfl⟩

theorem unpack3 {prog : Program} {w : World} {A : Around} {E : Value → Shared → Prop} {s : Shared} {env : Env} {h₀ : Heap} {L l : Addr} {m : Str → Option Value} {news : List (Addr × Obj)} {elts : List PySem.Expr} {k : Nat} {pos : Pos}
    {ws : List Value} {ns : List Int} {n : Nat} {Q : Unit → Shared → Prop} (F : Fr h₀ L s.heap m) (N : News h₀ L s.heap news) (hm : (l, listOf ws.toArray n) ∈ news) (hh : A.handled = none)
    (hi : IntsAre ws ns) (h3 : ns.length = 3) (hn : (assignEach elts env).length = 3) (hstar : (assignEach elts env).findIdx? (·.1) = none)
    (h : ∀ (a b c : Int) (ta tb tc : Tok) (h' : Heap) (tk' : Nat), Fr h₀ L h' m → News h₀ L h' news →
      wpAny (model prog w) A (assignInOrder ((assignEach elts env).map (·.2)) [.int a ta, .int b tb, .int c tc]) Q E { s with heap := h', toks := tk' }) :
    wpAny (model prog w) A (assign (.Tuple elts k pos) env (.ref l)) Q E s := by
  obtain ⟨a, b, c, ta, tb, tc, rfl⟩ := ints3 hi h3
  exact kun_list F N (News.isList N hm) hh hn hstar fun h' F' N' => h a b c ta tb tc h' s.toks F' N'

theorem pos_of_ne {ns : List Int} (h : decide (ns = []) = false) : 0 < ns.length := by
  cases ns with
  | nil => simp at h
  | cons _ _ => simp

theorem take3 {xs : List Int} : (List.take 3 (xs ++ [3, 5, 4])).length = 3 := by
  simp only [List.length_take, List.length_append, List.length_cons, List.length_nil]; omega

/-- what a run of min keeps: all but its iterator and its note of the best so far -/
def Apart (I S : Addr) (h h' : Heap) : Prop := ∀ b o, b ≠ I → b ≠ S → h.get? b = some o → h'.get? b = some o

theorem Apart.trans {I S : Addr} {h h' h'' : Heap} (x : Apart I S h h') (y : Apart I S h' h'') : Apart I S h h'' :=
  fun b o n1 n2 e => y b o n1 n2 (x b o n1 n2 e)

/-- one is less than the other, as tuples of three ints -/
def lex3 (x x' : Int × Int × Int) : Bool :=
  if x.1 = x'.1 then (if x.2.1 = x'.2.1 then (if x.2.2 = x'.2.2 then false else decide (x.2.2 < x'.2.2)) else decide (x.2.1 < x'.2.1)) else decide (x.1 < x'.1)

section
variable {prog : Program} {w : World} {A : Around} {E : Value → Shared → Prop} {s : Shared}

def Tup3 (h : Heap) (t : Addr) (p : Int × Int × Int) : Prop := ∃ u v x n o, h.get? t = some o ∧ o.cls = .type "tuple" ∧ o.data = .seq #[.int p.1 u, .int p.2.1 v, .int p.2.2 x] n

theorem lt3 {a b : Addr} {p q : Int × Int × Int} {Q : Value → Shared → Prop} (hu : A.units < cLine) (ha : Tup3 s.heap a p) (hb : Tup3 s.heap b q)
    (h : Q (.bool (lex3 p q)) s) : wpAny (model prog w) A (richCompare .Lt (.ref a) (.ref b)) Q E s := by
  obtain ⟨u, v, x, n, o, ho, hc, hd⟩ := ha
  obtain ⟨u', v', x', n', o', ho', hc', hd'⟩ := hb
  have tA : s.TypeIs (.ref a) "tuple" := ⟨o, ho, hc⟩
  have tB : s.TypeIs (.ref b) "tuple" := ⟨o', ho', hc'⟩
  refine wpAny_richCompare_same_room tA tB PySem.F.slot_tuple_lt ?_ hu
  refine wpAny_call_entry PySem.F.slot_tuple_lt tA PySem.F.entry_tuple_lt ?_ (PySem.F.args_tuple_lt_2 _ _)
  show wpAny _ _ (isInstance (.ref b) (.type "tuple") >>= _) _ _ s
  refine wpAny_bind (wpAny_isInstance tB isSubtype_tuple_tuple ?_)
  simp only [Bool.not_true, Bool.false_eq_true, if_false]
  refine wpAny_bind (wpAny_tupleItemsOf ho hd ?_)
  refine wpAny_bind (wpAny_tupleItemsOf ho' hd' ?_)
  show wpAny _ _ (forIn [(Value.int p.1 u, Value.int q.1 u'), (Value.int p.2.1 v, Value.int q.2.1 v'), (Value.int p.2.2 x, Value.int q.2.2 x')] _ _ >>= _) _ _ s
  unfold lex3 at h
  rw [List.forIn_cons]
  refine wpAny_bind (wpAny_bind (wpAny_bind (wpAny_eqBool_int ?_)))
  by_cases e1 : p.1 = q.1
  · rw [if_pos e1] at h
    simp only [e1, beq_self_eq_true, Bool.not_true, Bool.false_eq_true, if_false]
    refine wpAny_pure ?_
    dsimp only
    rw [List.forIn_cons]
    refine wpAny_bind (wpAny_bind (wpAny_eqBool_int ?_))
    by_cases e2 : p.2.1 = q.2.1
    · rw [if_pos e2] at h
      simp only [e2, beq_self_eq_true, Bool.not_true, Bool.false_eq_true, if_false]
      refine wpAny_pure ?_
      dsimp only
      rw [List.forIn_cons]
      refine wpAny_bind (wpAny_bind (wpAny_eqBool_int ?_))
      by_cases e3 : p.2.2 = q.2.2
      · rw [if_pos e3] at h
        simp only [e3, beq_self_eq_true, Bool.not_true, Bool.false_eq_true, if_false]
        refine wpAny_pure ?_
        dsimp only
        rw [List.forIn_nil]
        exact wpAny_pure (wpAny_pure ⟨Value.bool false, rfl, And.intro (fun e => by cases e) h⟩)
      · rw [if_neg e3] at h
        simp only [beq_eq_false_iff_ne.mpr e3, Bool.not_false, if_true]
        refine wpAny_bind (wpAny_rule (wpAny_bind (wpAny_lt_int ?_)))
        exact wpAny_bind (wpAny_pure (wpAny_pure (wpAny_pure (wpAny_pure ⟨_, rfl, And.intro (fun e => by cases e) h⟩))))
    · rw [if_neg e2] at h
      simp only [beq_eq_false_iff_ne.mpr e2, Bool.not_false, if_true]
      refine wpAny_bind (wpAny_rule (wpAny_bind (wpAny_lt_int ?_)))
      exact wpAny_bind (wpAny_pure (wpAny_pure (wpAny_pure (wpAny_pure ⟨_, rfl, And.intro (fun e => by cases e) h⟩))))
  · rw [if_neg e1] at h
    simp only [beq_eq_false_iff_ne.mpr e1, Bool.not_false, if_true]
    refine wpAny_bind (wpAny_rule (wpAny_bind (wpAny_lt_int ?_)))
    exact wpAny_bind (wpAny_pure (wpAny_pure (wpAny_pure (wpAny_pure ⟨_, rfl, And.intro (fun e => by cases e) h⟩))))

/-- min's loop, from the place i on; best is the best so far -/
theorem min_go {R : Result → Shared → Prop} {I l S : Addr} {vs : List Value} {lt : Value → Value → Bool} {Inv : Heap → Prop} (hh : A.handled = none) (hlI : l ≠ I) (hSI : S ≠ I) (hlS : l ≠ S)
    (hInv : ∀ h h', Inv h → Apart I S h h' → Inv h')
    (hcmp : ∀ (u v : Value) (s : Shared) (Q E : Value → Shared → Prop), u ∈ vs → v ∈ vs → Inv s.heap → Q (.bool (lt u v)) s → wpAny (model prog w) A.in1 (richCompare .Lt u v) Q E s) :
    ∀ (rest : List Value) (best : Value) (i : Nat) (s : Shared) (c : Nat), vs.drop i = rest → i ≤ vs.length → best ∈ vs → Inv s.heap → s.heap.IsListIter I l i → s.heap.IsList l vs.toArray →
      s.heap.get? S = some { cls := .type "list", dict := none, data := .seq #[best, best] c, slots := #[] } →
      (∀ h' tk, Apart I S s.heap h' → R (.ok (.ret (rest.foldl (fun b v => if lt v b = true then v else b) best))) { s with heap := h', toks := tk }) →
      codeAny (model prog w) A (.builtin "min.loop" ⟨[.ref I, .none, .ref S], []⟩) R s := by
  have hname : (toString "min" ++ toString ".loop" : String) = "min.loop" := by decide
  have W := Walks.list (prog := prog) (w := w) (A := A.in1) hh I l hlI vs.toArray
  have hsz : vs.toArray.size = vs.length := List.size_toArray ..
  intro rest
  induction rest with
  | nil =>
    intro best i s c hd hi hb hv hit hl hS hR
    have hend : i = vs.length := by
      have := congrArg List.length hd
      simp only [List.length_drop, List.length_nil] at this
      omega
    refine codeAny_builtin PySem.F.entry_min_loop ?_
    rw [Around.under_plainId PySem.F.plain_min_loop _]
    show wpAny _ A.in1 (seqItems? (.ref S) >>= _) _ _ s
    refine wpAny_bind (wpAny_seqItems hS rfl ?_)
    show wpAny _ A.in1 (tryCatch (pyNext (.ref I)) _ >>= _) _ _ s
    refine wpAny_bind (wpAny_tryCatch (W.done s _ _ (by rw [hsz, ← hend]; exact ⟨hit, hl⟩) fun h' tk hk => ?_))
    have hS' := hk S _ (by simpa using hSI) hS
    show wpAny _ A.in1 (updateSeq S (fun _ => #[]) >>= _) _ _ _
    refine wpAny_bind (wpAny_updateSeq hS' rfl (wpAny_bind (wpAny_letGo (wpAny_pure ?_))))
    exact hR _ tk fun b o nI nS e => (Heap.get?_update_other _ _ (Ne.symm nS)).trans (hk b o (by simpa using nI) e)
  | cons x rest ih =>
    intro best i s c hd hi hb hv hit hl hS hR
    have hlt : i < vs.length := by
      have := congrArg List.length hd
      simp only [List.length_drop, List.length_cons] at this
      omega
    have hx : vs[i]? = some x := by
      have := congrArg (fun l => l[0]?) hd
      simpa using this
    have hd' : vs.drop (i + 1) = rest := by
      rw [← List.drop_drop, hd]
      rfl
    have hxm : x ∈ vs := List.mem_of_getElem? hx
    refine codeAny_builtin PySem.F.entry_min_loop ?_
    rw [Around.under_plainId PySem.F.plain_min_loop _]
    show wpAny _ A.in1 (seqItems? (.ref S) >>= _) _ _ s
    refine wpAny_bind (wpAny_seqItems hS rfl ?_)
    show wpAny _ A.in1 (tryCatch (pyNext (.ref I)) _ >>= _) _ _ s
    refine wpAny_bind (wpAny_tryCatch (W.item i s _ _ (by rw [hsz]; exact hlt) ⟨hit, hl⟩ fun v h' tk hP st hk => ?_))
    have hvx : v = x := by
      have : vs[i]? = some v := by simpa using hP
      rw [hx] at this
      exact (Option.some.inj this).symm
    subst hvx
    have hA : Apart I S s.heap h' := fun b o nI _ e => hk b o (by simpa using nI) e
    have hS' := hk S _ (by simpa using hSI) hS
    show wpAny _ A.in1 (tryCatch (holding [v, v] (richCompare .Lt v best >>= _)) _ >>= _) _ _ _
    refine wpAny_bind (wpAny_tryCatch (wpAny_holding (wpAny_bind (hcmp v best _ _ _ hxm hb (hInv _ _ hv hA) ?_))))
    refine wpAny_bind (wpAny_holding (wpAny_truthy_bool ?_))
    refine wpAny_bind (wpAny_letGo (wpAny_pure ?_))
    rw [List.foldl_cons] at hR
    cases hb' : lt v best with
    | true =>
      rw [if_pos hb'] at hR
      have hA2 : Apart I S h' (h'.update S (Obj.mapSeq fun _ => #[v, v])) := fun b o _ nS e => (Heap.get?_update_other _ _ (Ne.symm nS)).trans e
      simp only [if_true]
      refine wpAny_bind (wpAny_updateSeq hS' rfl (wpAny_bind (wpAny_letGo ?_)))
      rw [hname]
      refine wpAny_pure ⟨plainId_quiet PySem.F.plain_min_loop _, ih v (i + 1) _ _ hd' hlt hxm (hInv _ _ (hInv _ _ hv hA) hA2) ?_ ?_ (Heap.get?_update_self _ hS' rfl) fun h'' tk'' hA3 => hR _ _ (hA.trans (hA2.trans hA3))⟩
      · exact st.1.at fun o e => (Heap.get?_update_other _ _ hSI).trans e
      · exact st.2.at fun o e => (Heap.get?_update_other _ _ (Ne.symm hlS)).trans e
    | false =>
      rw [if_neg (by rw [hb']; exact Bool.false_ne_true)] at hR
      simp only [Bool.false_eq_true, if_false]
      refine wpAny_bind (wpAny_letGo ?_)
      rw [hname]
      exact wpAny_pure ⟨plainId_quiet PySem.F.plain_min_loop _, ih best (i + 1) _ c hd' hlt hb (hInv _ _ hv hA) st.1 st.2 hS' fun h'' tk'' hA3 => hR _ _ (hA.trans hA3)⟩

/-- min of a list that is not empty -/
theorem min_all {l : Addr} {v : Value} {rest : List Value} {lt : Value → Value → Bool} {Inv : Heap → Prop} {Q : Value → Shared → Prop} (hh : A.handled = none) (hl : s.heap.IsList l (v :: rest).toArray)
    (h0 : Inv s.heap) (hInv : ∀ h h', Inv h → (∀ b o, b < s.heap.objs.size → h.get? b = some o → h'.get? b = some o) → Inv h')
    (hcmp : ∀ (u x : Value) (s : Shared) (Q E : Value → Shared → Prop), u ∈ v :: rest → x ∈ v :: rest → Inv s.heap → Q (.bool (lt u x)) s → wpAny (model prog w) A.in1 (richCompare .Lt u x) Q E s)
    (hQ : ∀ h' tk, (∀ b o, s.heap.get? b = some o → h'.get? b = some o) → Q (rest.foldl (fun b x => if lt x b = true then x else b) v) { s with heap := h', toks := tk }) :
    wpAny (model prog w) A (call (.builtin "min") [.ref l]) Q E s := by
  have hname : (toString "min" ++ toString ".loop" : String) = "min.loop" := by decide
  have hll : l < s.heap.objs.size := by obtain ⟨o, ho, _⟩ := hl; exact Heap.lt_size ho
  refine call_function_tree PySem.F.kind_min PySem.F.plain_min PySem.F.entry_min (PySem.F.args_min1 _) ?_
  show wpAny _ A.in1 (Builtin.Builtins.bindParams "min" ["key", "default"] 0 ⟨[], []⟩ >>= _) _ _ s
  refine wpAny_bind (wpAny_of_eq (show Builtin.Builtins.bindParams "min" ["key", "default"] 0 ⟨[], []⟩ = pure [none, none] from rfl) ?_)
  refine wpAny_bind (wpAny_pure ?_)
  refine wpAny_bind (wpAny_pyIter_list hl ?_)
  refine wpAny_bind (wpAny_newObj_type ?_)
  rw [hname]
  have hsz : (s.heap.push { cls := .type "list_iterator", data := .fields #[.ref l, .int 0 0] }).objs.size = s.heap.objs.size + 1 := Heap.size_push ..
  have lift : ∀ h h', Inv h → Apart s.heap.objs.size (s.heap.push { cls := .type "list_iterator", data := .fields #[.ref l, .int 0 0] }).objs.size h h' → Inv h' := fun h h' hi ha =>
    hInv h h' hi fun b o hb e => ha b o (Nat.ne_of_lt hb) (by rw [hsz]; exact Nat.ne_of_lt (Nat.lt_succ_of_lt hb)) e
  have hlI : l ≠ s.heap.objs.size := Nat.ne_of_lt hll
  have hlS : l ≠ (s.heap.push { cls := .type "list_iterator", data := .fields #[.ref l, .int 0 0] }).objs.size := by rw [hsz]; exact Nat.ne_of_lt (Nat.lt_succ_of_lt hll)
  have hSI : (s.heap.push { cls := .type "list_iterator", data := .fields #[.ref l, .int 0 0] }).objs.size ≠ s.heap.objs.size := by rw [hsz]; exact Nat.ne_of_gt (Nat.lt_succ_self _)
  have old : ∀ b o, s.heap.get? b = some o → b ≠ s.heap.objs.size ∧ b ≠ (s.heap.push { cls := .type "list_iterator", data := .fields #[.ref l, .int 0 0] }).objs.size := fun b o e =>
    ⟨Nat.ne_of_lt (Heap.lt_size e), by rw [hsz]; exact Nat.ne_of_lt (Nat.lt_succ_of_lt (Heap.lt_size e))⟩
  refine wpAny_pure ⟨plainId_quiet PySem.F.plain_min_loop _, ?_⟩
  have W := Walks.list (prog := prog) (w := w) (A := A.in1) hh s.heap.objs.size l hlI (v :: rest).toArray
  refine codeAny_builtin PySem.F.entry_min_loop ?_
  rw [Around.under_plainId PySem.F.plain_min_loop _]
  show wpAny _ A.in1 (seqItems? (.ref _) >>= _) _ _ _
  have gS := Heap.get?_push_size (h := s.heap.push { cls := .type "list_iterator", data := .fields #[.ref l, .int 0 0] }) (o := { cls := .type "list", data := .seq #[] }) rfl
  refine wpAny_bind (wpAny_seqItems gS rfl ?_)
  show wpAny _ A.in1 (tryCatch (pyNext (.ref s.heap.objs.size)) _ >>= _) _ _ _
  refine wpAny_bind (wpAny_tryCatch (W.item 0 _ _ _ (by simp) ⟨⟨_, Heap.get?_push_of_some _ (Heap.get?_push_size _ rfl), rfl, rfl⟩, (hl.push _).push _⟩ fun x h' tk hP st hk => ?_))
  have hx : x = v := by
    have : (v :: rest)[0]? = some x := by simpa using hP
    simpa using this.symm
  subst hx
  have hS' := hk _ _ (by simpa using hSI) gS
  show wpAny _ A.in1 (updateSeq _ (fun _ => #[x, x]) >>= _) _ _ _
  refine wpAny_bind (wpAny_updateSeq hS' rfl ?_)
  rw [hname]
  have grown : ∀ b o, s.heap.get? b = some o → (h'.update (s.heap.push { cls := .type "list_iterator", data := .fields #[.ref l, .int 0 0] }).objs.size (Obj.mapSeq fun _ => #[x, x])).get? b = some o := fun b o e =>
    (Heap.get?_update_other _ _ (Ne.symm (old b o e).2)).trans (hk b o (by simpa using (old b o e).1) (Heap.get?_push_of_some _ (Heap.get?_push_of_some _ e)))
  have hv : Inv (h'.update (s.heap.push { cls := .type "list_iterator", data := .fields #[.ref l, .int 0 0] }).objs.size (Obj.mapSeq fun _ => #[x, x])) := hInv _ _ h0 fun b o _ e => grown b o e
  refine wpAny_pure ⟨plainId_quiet PySem.F.plain_min_loop _, min_go (vs := x :: rest) hh hlI hSI hlS lift hcmp rest x 1 _ _ rfl (by simp) (List.mem_cons_self ..) hv ?_ ?_ (Heap.get?_update_self _ hS' rfl) fun h'' tk'' hA => ?_⟩
  · exact st.1.at fun o e => (Heap.get?_update_other _ _ hSI).trans e
  · exact st.2.at fun o e => (Heap.get?_update_other _ _ (Ne.symm hlS)).trans e
  · exact hQ h'' tk'' fun b o e => hA b o (old b o e).1 (old b o e).2 (grown b o e)
end

def absI (x : Int) : Int := if x < 0 then -x else x
def paeth (l a c : Int) : Int :=
  if absI (l + a - c - l) ≤ absI (l + a - c - a) ∧ absI (l + a - c - l) ≤ absI (l + a - c - c) then l
  else if absI (l + a - c - a) ≤ absI (l + a - c - c) then a else c

theorem absI_eq (x : Int) : absI x = x.natAbs := by
  unfold absI
  split <;> omega

theorem paeth_first {l a c : Int} (h1 : absI (a - c) ≤ absI (l - c)) (h2 : absI (a - c) ≤ absI (l - c + (a - c))) : paeth l a c = l := by
  unfold paeth
  simp only [absI_eq] at *
  rw [if_pos (by omega)]
theorem paeth_second {l a c : Int} (h1 : absI (l - c) < absI (a - c)) (h2 : absI (l - c) ≤ absI (l - c + (a - c))) : paeth l a c = a := by
  unfold paeth
  simp only [absI_eq] at *
  rw [if_neg (by omega), if_pos (by omega)]
theorem paeth_third {l a c : Int} (h1 : absI (l - c + (a - c)) < absI (a - c)) (h2 : absI (l - c + (a - c)) < absI (l - c)) : paeth l a c = c := by
  unfold paeth
  simp only [absI_eq] at *
  rw [if_neg (by omega), if_neg (by omega)]

theorem paeth_ways (l a c : Int) : (absI (a - c) ≤ absI (l - c) ∧ absI (a - c) ≤ absI (l - c + (a - c)) ∧ paeth l a c = l) ∨
    (absI (l - c) < absI (a - c) ∧ absI (l - c) ≤ absI (l - c + (a - c)) ∧ paeth l a c = a) ∨
    (absI (l - c + (a - c)) < absI (a - c) ∧ absI (l - c + (a - c)) < absI (l - c) ∧ paeth l a c = c) := by
  by_cases h1 : absI (a - c) ≤ absI (l - c)
  · by_cases h2 : absI (a - c) ≤ absI (l - c + (a - c))
    · exact .inl ⟨h1, h2, paeth_first h1 h2⟩
    · exact .inr (.inr ⟨by omega, by omega, paeth_third (by omega) (by omega)⟩)
  · by_cases h2 : absI (l - c) ≤ absI (l - c + (a - c))
    · exact .inr (.inl ⟨by omega, h2, paeth_second (by omega) h2⟩)
    · exact .inr (.inr ⟨by omega, by omega, paeth_third (by omega) (by omega)⟩)

theorem paeth_move (l a c m : Int) : paeth (l + m) (a + m) (c + m) = paeth l a c + m := by
  have e1 : a + m - (c + m) = a - c := by omega
  have e2 : l + m - (c + m) = l - c := by omega
  have h := paeth_ways (l + m) (a + m) (c + m)
  have h' := paeth_ways l a c
  rw [e1, e2] at h
  omega
theorem paeth_neg (l a c : Int) : paeth (-l) (-a) (-c) = -paeth l a c := by
  have h := paeth_ways (-l) (-a) (-c)
  have h' := paeth_ways l a c
  simp only [absI_eq] at h h'
  omega
theorem paeth_swap (l a c : Int) : paeth a l c = paeth l a c := by
  have h := paeth_ways a l c
  have h' := paeth_ways l a c
  simp only [absI_eq] at h h'
  omega

theorem ne_of_mid {h : Heap} {t t' : Addr} {p q : Int × Int × Int} (hp : Tup3 h t p) (hq : Tup3 h t' q) (ne : p.2.1 ≠ q.2.1) : t ≠ t' := by
  rintro rfl
  obtain ⟨u, v, x, n, o, ho, _, hd⟩ := hp
  obtain ⟨u', v', x', n', o', ho', _, hd'⟩ := hq
  rw [ho] at ho'
  cases ho'
  rw [hd] at hd'
  injection hd' with e _
  injection e with e
  injection e with _ e
  injection e with e _
  injection e with e _
  exact ne e

theorem Tup3.keeps {h h' : Heap} {t : Addr} {p : Int × Int × Int} (x : Tup3 h t p) (hk : ∀ o, h.get? t = some o → h'.get? t = some o) : Tup3 h' t p := by
  obtain ⟨u, v, x, n, o, ho, hc, hd⟩ := x
  exact ⟨u, v, x, n, o, hk o ho, hc, hd⟩
theorem Tup3.lt {h : Heap} {t : Addr} {p : Int × Int × Int} (x : Tup3 h t p) : t < h.objs.size := by
  obtain ⟨_, _, _, _, o, ho, _⟩ := x
  exact Heap.lt_size ho

/-- the table of the three tuples -/
def rowAt (t0 t1 : Addr) (p q r : Int × Int × Int) (t : Addr) : Int × Int × Int := if t = t0 then p else if t = t1 then q else r
def ltAt (f : Addr → Int × Int × Int) (u v : Value) : Bool :=
  match u, v with
  | .ref a, .ref b => lex3 (f a) (f b)
  | _, _ => false

section
variable {prog : Program} {w : World} {A : Around} {E : Value → Shared → Prop} {s : Shared} {h₀ : Heap} {L : Addr} {m : Str → Option Value} {news : List (Addr × Obj)} {Q : Value → Shared → Prop}

theorem min_three_rows {l t0 t1 t2 : Addr} {x y z a b c : Int} (hu : A.units + 8 < cLine) (hh : A.handled = none) (F : Fr h₀ L s.heap m) (N : News h₀ L s.heap news)
    (hl : s.heap.IsList l [Value.ref t0, .ref t1, .ref t2].toArray) (h0 : Tup3 s.heap t0 (x, 0, a)) (h1 : Tup3 s.heap t1 (y, 1, b)) (h2 : Tup3 s.heap t2 (z, 2, c))
    (q0 : x ≤ y → x ≤ z → ∀ h' tk, Fr h₀ L h' m → News h₀ L h' news → Q (.ref t0) { s with heap := h', toks := tk })
    (q1 : y < x → y ≤ z → ∀ h' tk, Fr h₀ L h' m → News h₀ L h' news → Q (.ref t1) { s with heap := h', toks := tk })
    (q2 : z < x → z < y → ∀ h' tk, Fr h₀ L h' m → News h₀ L h' news → Q (.ref t2) { s with heap := h', toks := tk }) :
    wpAny (model prog w) A (call (.builtin "min") [.ref l]) Q E s := by
  have n01 : t0 ≠ t1 := ne_of_mid h0 h1 (show (0 : Int) ≠ 1 by decide)
  have n02 : t0 ≠ t2 := ne_of_mid h0 h2 (show (0 : Int) ≠ 2 by decide)
  have n12 : t1 ≠ t2 := ne_of_mid h1 h2 (show (1 : Int) ≠ 2 by decide)
  have f0 : rowAt t0 t1 (x, 0, a) (y, 1, b) (z, 2, c) t0 = (x, 0, a) := if_pos rfl
  have f1 : rowAt t0 t1 (x, 0, a) (y, 1, b) (z, 2, c) t1 = (y, 1, b) := (if_neg n01.symm).trans (if_pos rfl)
  have f2 : rowAt t0 t1 (x, 0, a) (y, 1, b) (z, 2, c) t2 = (z, 2, c) := (if_neg n02.symm).trans (if_neg n12.symm)
  refine min_all (lt := ltAt (rowAt t0 t1 (x, 0, a) (y, 1, b) (z, 2, c))) (Inv := fun h => Tup3 h t0 (x, 0, a) ∧ Tup3 h t1 (y, 1, b) ∧ Tup3 h t2 (z, 2, c)) hh hl ⟨h0, h1, h2⟩ ?_ ?_ ?_
  · rintro h h' ⟨k0, k1, k2⟩ hk
    exact ⟨k0.keeps fun o e => hk _ o h0.lt e, k1.keeps fun o e => hk _ o h1.lt e, k2.keeps fun o e => hk _ o h2.lt e⟩
  · have hu' : A.in1.units < cLine := by rw [units_in1]; omega
    have at' : ∀ (t : Addr) (h : Heap), Value.ref t ∈ [Value.ref t0, .ref t1, .ref t2] → (Tup3 h t0 (x, 0, a) ∧ Tup3 h t1 (y, 1, b) ∧ Tup3 h t2 (z, 2, c)) → Tup3 h t (rowAt t0 t1 (x, 0, a) (y, 1, b) (z, 2, c) t) := by
      intro t h ht ⟨k0, k1, k2⟩
      simp only [List.mem_cons, List.not_mem_nil, or_false, Value.ref.injEq] at ht
      rcases ht with rfl | rfl | rfl
      · rw [f0]; exact k0
      · rw [f1]; exact k1
      · rw [f2]; exact k2
    intro u v s' Q' E' hu1 hv1 hI hq
    have isRef : ∀ u, u ∈ [Value.ref t0, .ref t1, .ref t2] → ∃ t, u = .ref t := by
      intro u hu
      simp only [List.mem_cons, List.not_mem_nil, or_false] at hu
      rcases hu with rfl | rfl | rfl <;> exact ⟨_, rfl⟩
    obtain ⟨t, rfl⟩ := isRef u hu1
    obtain ⟨t', rfl⟩ := isRef v hv1
    exact lt3 hu' (at' t _ hu1 hI) (at' t' _ hv1 hI) hq
  · intro h' tk hk
    have F' : Fr h₀ L h' m := F.extBut (b := s.heap.objs.size) (fun b o _ e => hk b o e) (Nat.le_refl _)
    have N' : News h₀ L h' news := N.extBut (b := s.heap.objs.size) (fun b o _ e => hk b o e) (Nat.le_refl _)
    have e10 : ltAt (rowAt t0 t1 (x, 0, a) (y, 1, b) (z, 2, c)) (.ref t1) (.ref t0) = decide (y < x) := by
      simp only [ltAt, f0, f1, lex3]
      by_cases e : y = x <;> simp [e]
    have e20 : ltAt (rowAt t0 t1 (x, 0, a) (y, 1, b) (z, 2, c)) (.ref t2) (.ref t0) = decide (z < x) := by
      simp only [ltAt, f0, f2, lex3]
      by_cases e : z = x <;> simp [e]
    have e21 : ltAt (rowAt t0 t1 (x, 0, a) (y, 1, b) (z, 2, c)) (.ref t2) (.ref t1) = decide (z < y) := by
      simp only [ltAt, f1, f2, lex3]
      by_cases e : z = y <;> simp [e]
    rw [List.foldl_cons, List.foldl_cons, List.foldl_nil, e10]
    by_cases hyx : y < x
    · rw [if_pos (decide_eq_true hyx), e21]
      by_cases hzy : z < y
      · rw [if_pos (decide_eq_true hzy)]
        exact q2 (by omega) hzy h' tk F' N'
      · rw [if_neg (show ¬ decide (z < y) = true by simpa using hzy)]
        exact q1 hyx (by omega) h' tk F' N'
    · rw [if_neg (show ¬ decide (y < x) = true by simpa using hyx), e20]
      by_cases hzx : z < x
      · rw [if_pos (decide_eq_true hzx)]
        exact q2 hzx (by omega) h' tk F' N'
      · rw [if_neg (show ¬ decide (z < x) = true by simpa using hzx)]
        exact q0 (by omega) (by omega) h' tk F' N'

/-- the law's own table: what its min tells of paeth -/
theorem min_paeth {l t0 t1 t2 : Addr} {x y z a b c : Int} (hu : A.units + 8 < cLine) (hh : A.handled = none) (F : Fr h₀ L s.heap m) (N : News h₀ L s.heap news)
    (hl : s.heap.IsList l [Value.ref t0, .ref t1, .ref t2].toArray) (h0 : Tup3 s.heap t0 (x, 0, a)) (h1 : Tup3 s.heap t1 (y, 1, b)) (h2 : Tup3 s.heap t2 (z, 2, c))
    (ex : x = absI (b - c)) (ey : y = absI (a - c)) (ez : z = absI (a - c + (b - c)))
    (q0 : paeth a b c = a → ∀ h' tk, Fr h₀ L h' m → News h₀ L h' news → Q (.ref t0) { s with heap := h', toks := tk })
    (q1 : paeth a b c = b → ∀ h' tk, Fr h₀ L h' m → News h₀ L h' news → Q (.ref t1) { s with heap := h', toks := tk })
    (q2 : paeth a b c = c → ∀ h' tk, Fr h₀ L h' m → News h₀ L h' news → Q (.ref t2) { s with heap := h', toks := tk }) :
    wpAny (model prog w) A (call (.builtin "min") [.ref l]) Q E s := by
  subst ex ey ez
  exact min_three_rows hu hh F N hl h0 h1 h2 (fun p q => q0 (paeth_first p q)) (fun p q => q1 (paeth_second p q)) (fun p q => q2 (paeth_third p q))

theorem tup3_of {t : Addr} {x y z : Int} {u v k : Tok} (h : IsTup s.heap t #[.int x u, .int y v, .int z k]) : Tup3 s.heap t (x, y, z) := by
  obtain ⟨o, ho, hc, n, hd⟩ := h
  exact ⟨u, v, k, n, o, ho, hc, hd⟩

/-- what paeth says of three ints comes back -/
def GivesPaeth (l a c : Int) (h₀ : Heap) (L : Addr) (m : Str → Option Value) (news : List (Addr × Obj)) (s : Shared) (v : Value) (s' : Shared) : Prop :=
  ∃ (t : Tok) (h : Heap) (tk : Nat), v = .int (paeth l a c) t ∧ s' = { s with heap := h, toks := tk } ∧ Fr h₀ L h m ∧ News h₀ L h news
theorem gives_paeth {x y z : Str} {l a c : Int} {tl ta tc : Tok} {M : Model} {comp : Sem Value} (phl : m x = some (.int l tl)) (pha : m y = some (.int a ta)) (phc : m z = some (.int c tc)) (pF : Fr h₀ L s.heap m) (pN : News h₀ L s.heap news)
    (hc : ∀ tk₀ : Nat, wpAny M A comp (GivesPaeth l a c h₀ L m news s) E { s with toks := tk₀ })
    (hk : ∀ (t : Tok) (h : Heap) (tk : Nat), Fr h₀ L h m → News h₀ L h news → Q (.int (paeth l a c) t) { s with heap := h, toks := tk }) : wpAny M A comp Q E s := by
  refine wpAny_mono (hc s.toks) (fun v s₂ hq => ?_) fun _ _ e => e
  obtain ⟨t, h, tk, rfl, rfl, F, N⟩ := hq
  exact hk t h tk F N
theorem gives_paeth_end {l a c x : Int} {t : Tok} {tk : Nat} {h : Heap} {s' : Shared} {news' : List (Addr × Obj)} (e : paeth l a c = x) (hs : s' = { s with heap := h, toks := tk }) (F : Fr h₀ L h m) (N : News h₀ L h news') (hn : ∀ p ∈ news, p ∈ news') :
    GivesPaeth l a c h₀ L m news s (.int x t) s' := by
  subst e
  exact ⟨t, h, tk, rfl, hs, F, fun p hp => N p (hn p hp)⟩
theorem ne_false {x y : Int} {t u : Tok} (e : x = y) (h : Q (.bool false) s) : wpAny (model prog w) A (compareOp .NotEq (.int x t) (.int y u)) Q E s := by
  subst e
  exact PyProof.Rows.ne_int (by simpa using h)
end

/-- an int comes back, of which nothing is kept; the frame is as it was, the ledger holds what it held -/
def GivesInt (h₀ : Heap) (L : Addr) (m : Str → Option Value) (news : List (Addr × Obj)) (s : Shared) (v : Value) (s' : Shared) : Prop :=
  ∃ (a : Int) (t : Tok) (h : Heap) (tk : Nat), v = .int a t ∧ s' = { s with heap := h, toks := tk } ∧ Fr h₀ L h m ∧ News h₀ L h news
/-- three names hold ints, of which nothing is kept -/
def Three (x y z : Str) (m : Str → Option Value) (a b c : Value) : Str → Option Value :=
  fun n => if n = x then some a else if n = y then some b else if n = z then some c else m n
def GivesThree (x y z : Str) (h₀ : Heap) (L : Addr) (m : Str → Option Value) (news : List (Addr × Obj)) (s : Shared) (f : Flow) (s' : Shared) : Prop :=
  ∃ (a b c : Int) (ta tb tc : Tok) (h : Heap) (tk : Nat), f = .next ∧ s' = { s with heap := h, toks := tk } ∧ Fr h₀ L h (Three x y z m (.int a ta) (.int b tb) (.int c tc)) ∧ News h₀ L h news

section
variable {M : Model} {A : Around} {E : Value → Shared → Prop} {s s' : Shared} {h₀ h : Heap} {L : Addr} {m m' : Str → Option Value} {news news' : List (Addr × Obj)}

theorem gives_int {Q : Value → Shared → Prop} {c : Sem Value} (pF : Fr h₀ L s.heap m) (pN : News h₀ L s.heap news) (hc : ∀ tk₀ : Nat, wpAny M A c (GivesInt h₀ L m news s) E { s with toks := tk₀ })
    (hk : ∀ (a : Int) (t : Tok) (h : Heap) (tk : Nat), Fr h₀ L h m → News h₀ L h news → Q (.int a t) { s with heap := h, toks := tk }) : wpAny M A c Q E s := by
  refine wpAny_mono (hc s.toks) (fun v s₂ hq => ?_) fun _ _ e => e
  obtain ⟨a, t, h, tk, rfl, rfl, F, N⟩ := hq
  exact hk a t h tk F N
theorem gives_int_end {a : Int} {t : Tok} {tk : Nat} (hs : s' = { s with heap := h, toks := tk }) (F : Fr h₀ L h m) (N : News h₀ L h news') (hn : ∀ p ∈ news, p ∈ news') : GivesInt h₀ L m news s (.int a t) s' :=
  ⟨a, t, h, tk, rfl, hs, F, fun p hp => N p (hn p hp)⟩

theorem gives_three (x y z : Str) {Q : Flow → Shared → Prop} {c : Sem Flow} (pF : Fr h₀ L s.heap m) (pN : News h₀ L s.heap news) (hc : ∀ tk₀ : Nat, wpAny M A c (GivesThree x y z h₀ L m news s) E { s with toks := tk₀ })
    (hk : ∀ (a b c : Int) (ta tb tc : Tok) (h : Heap) (tk : Nat), Fr h₀ L h (fun n => if n = x then some (.int a ta) else if n = y then some (.int b tb) else if n = z then some (.int c tc) else m n) → News h₀ L h news → Q .next { s with heap := h, toks := tk }) : wpAny M A c Q E s := by
  refine wpAny_mono (hc s.toks) (fun f s₂ hq => ?_) fun _ _ e => e
  obtain ⟨a, b, c, ta, tb, tc, h, tk, rfl, rfl, F, N⟩ := hq
  exact hk a b c ta tb tc h tk F N
theorem gives_three_end {x y z : Str} {a b c : Int} {ta tb tc : Tok} {tk : Nat} (hs : s' = { s with heap := h, toks := tk }) (F : Fr h₀ L h m') (N : News h₀ L h news') (hn : ∀ p ∈ news, p ∈ news')
    (hx : m' x = some (.int a ta)) (hy : m' y = some (.int b tb)) (hz : m' z = some (.int c tc)) (ho : ∀ n, n ≠ x → n ≠ y → n ≠ z → m' n = m n) : GivesThree x y z h₀ L m news s .next s' := by
  have e : m' = Three x y z m (.int a ta) (.int b tb) (.int c tc) := by
    funext n
    unfold Three
    split
    · next h => rw [h, hx]
    · split
      · next h => rw [h, hy]
      · split
        · next h => rw [h, hz]
        · next h1 h2 h3 => exact ho n h1 h2 h3
  exact ⟨a, b, c, ta, tb, tc, h, tk, rfl, hs, e ▸ F, fun p hp => N p (hn p hp)⟩
end

end Mine

local macro_rules | `(tactic| walk_at "assign Tuple") => `(tactic| (k_here; (with_reducible show wpAny _ _ (assign (Expr.Tuple _ _ _) _ (Value.ref _)) _ _ _); k_dflt (refine' Mine.unpack3 ?k1 ?k2 ?k3 ?k4 ?k5 ?k6 ?k7 ?k8 ?_; (case k1 => k_asm); (case k2 => k_asm); (case k3 => k_mem); (case k4 => exact rfl); (case k5 => assumption); (case k6 => exact Mine.take3); (case k7 => exact rfl); (case k8 => exact rfl); k_whole); intro a b c ta tb tc h' tk' F' N'; (try k_sweep)))
local macro_rules | `(tactic| walk_at "call builtin:min") => `(tactic| (k_here; (with_reducible show wpAny _ _ (call (Value.builtin _) [Value.ref _]) _ _ _); k_dflt (refine' Mine.min_paeth ?k1 ?k2 ?k3 ?k4 ?k5 ?k6 ?k7 ?k8 ?k9 ?j1 ?j2 ?_ ?_ ?_; (case k1 => ke_room); (case k2 => exact rfl); (case k3 => k_asm); (case k4 => k_asm); (case k5 => is_list); (case k6 => exact Mine.tup3_of (News.isTup (by k_asm) (by k_mem))); (case k7 => exact Mine.tup3_of (News.isTup (by k_asm) (by k_mem))); (case k8 => exact Mine.tup3_of (News.isTup (by k_asm) (by k_mem))); (case k9 => exact rfl); (case j1 => exact rfl); (case j2 => exact rfl); k_whole); all_goals (intro hw h' tk' F' N'; (try k_sweep))))
set_option maxRecDepth 100000 in
set_option maxHeartbeats 8000000 in
theorem PySem.Challenge.cw_co0036_01_holds : PySem.Challenge.rw_co0036_01.Holds := by
  (k_with "subscriptTail" => ((rename decide (_ = ([] : List Int)) = false => hne); (have hpos := Mine.pos_of_ne hne); clear hne))
  (k_with "pyIter ref" => k_search (fun _ => True))
  (k_with "tree" => simp only [Mine.paeth, Mine.absI])
  (k_with "call ref" => k_call_by "paeth_predictor" Mine.paeth)
  (k_with "compareOp NotEq int int" => (refine Mine.ne_false ?myNe ?_; (case myNe => first | exact rfl | exact Mine.paeth_move _ _ _ _ | exact Mine.paeth_neg _ _ _ | exact Mine.paeth_swap _ _ _)))
  (k_with "execs cons If cons" => (k_here; first | ((with_reducible show wpAny _ _ (execs (Stmt.If (Expr.Compare (Expr.BinOp _ _ _ _) _ _ _) _ _ _ :: _) _) _ _ _); (with_reducible refine wpAny_execs_cons ?_); (try dsimp only)) | k_gentoks | ((with_reducible refine wpAny_execs_cons ?_); (try dsimp only))))
  (k_with "eval Call Name" => (k_here; (with_reducible show wpAny _ _ (eval (Expr.Call (Expr.Name (PySem.Str.ofString "paeth_predictor") _) _ [] _) _) _ _ _); refine Call_ ?_))
  (k_with "eval IfExp" => (k_here; (with_reducible show wpAny _ _ (eval (Expr.IfExp _ _ _ _) _) _ _ _); (fail_if_success (with_reducible show wpAny _ _ _ (Mine.GivesInt _ _ _ _ _) _ _)); (rename Fr _ _ _ _ => gF'); (rename News _ _ _ _ => gN'); ((refine' Mine.gives_int gF' gN' ?myI1 ?myI2); (case' myI1 => intro tk0); (case' myI2 => (intro a t h' tk' F' N'; (try k_sweep))))))
  (k_with "GivesInt" => (refine Mine.gives_int_end (by with_unfolding_all rfl) (by assumption) (by assumption) (by kcj_all)))
  (k_with "exec If Compare" => (k_here; (with_reducible show wpAny _ _ (exec (Stmt.If (Expr.Compare (Expr.BinOp _ _ _ _) _ _ _) _ _ _) _) _ _ _); (fail_if_success (with_reducible show wpAny _ _ _ (Mine.GivesThree _ _ _ _ _ _ _ _) _ _)); (rename Fr _ _ _ _ => gF'); (rename News _ _ _ _ => gN'); ((refine' Mine.gives_three (PySem.Str.ofString "left") (PySem.Str.ofString "above") (PySem.Str.ofString "corner") gF' gN' ?myT1 ?myT2); (case' myT1 => intro tk0); (case' myT2 => (intro a b c ta tb tc h' tk' F' N'; (try k_sweep))))))
  (k_with "GivesThree" => (k_dflt (refine' Mine.gives_three_end ?myU1 ?myU2 ?myU3 ?myU4 ?myU5 ?myU6 ?myU7 ?myU8; (case myU1 => with_unfolding_all rfl); (case myU2 => assumption); (case myU3 => assumption); (case myU4 => kcj_all); (case myU5 => exact rfl); (case myU6 => exact rfl); (case myU7 => exact rfl); (case myU8 => (intro n h1 h2 h3; simp only [h1, h2, h3, if_false])))))
  (k_with "eval Subscript" => (k_here; (with_reducible show wpAny _ _ (eval (Expr.Subscript (Expr.Call _ _ _ _) _ _) _) _ _ _); (fail_if_success (with_reducible show wpAny _ _ _ (Mine.GivesPaeth _ _ _ _ _ _ _ _) _ _)); (rename Fr _ _ _ _ => gF'); (rename News _ _ _ _ => gN'); ((k_dflt (refine' Mine.gives_paeth (x := PySem.Str.ofString "left") (y := PySem.Str.ofString "above") (z := PySem.Str.ofString "corner") ?myP1 ?myP2 ?myP3 gF' gN' ?myP4 ?myP5; (case myP1 => exact rfl); (case myP2 => exact rfl); (case myP3 => exact rfl))); (case' myP4 => intro tk0); (case' myP5 => (intro t h' tk' F' N'; (try k_sweep))))))
  (k_with "GivesPaeth" => (refine Mine.gives_paeth_end (by assumption) (by with_unfolding_all rfl) (by assumption) (by assumption) (by kcj_all)))
  open_k

import PyProof.Rows.All
import Wide.All
import OpenK.AllK
import Wide.FinOn
import PySem.Challenge.RW_fe0236_01
open PySem PySem.W PyProof.Rows PySem.Calls
set_option Elab.async false
set_option maxRecDepth 100000
namespace Mine
set_option maxHeartbeats 8000000 in
open_top hd for PySem.Challenge.rw_fe0236_01
end Mine
namespace Mine
section
variable {prog : Program} {w : World} {A : Around} {E : Value → Shared → Prop} {s : Shared} {h₀ : Heap} {L l : Addr} {m : Str → Option Value} {rest : List (Addr × Obj)} {c : Nat} {Q : Value → Shared → Prop}
theorem r_get {vs : List Value} (N : News h₀ L s.heap ((l, W.listOf vs.toArray c) :: rest)) : s.heap.IsList l vs.toArray :=
  ⟨_, (N _ (.head _)).1, rfl, c, rfl⟩
/-- stack[-j], the item is there -/
theorem r_item {value slice : PySem.Expr} {vs : List Value} {k : Int} {u : Tok} {x : Value} (N : News h₀ L s.heap ((l, W.listOf vs.toArray c) :: rest))
    (h0 : k < 0) (h1 : -(vs.length : Int) ≤ k) (h2 : -(2 ^ 63) ≤ k) (hx : vs[(k + vs.length).toNat]? = some x) (h : Q x s)
    (hs : subscripted slice false (.ref l) (.int k u) = operate [.ref l, .int k u] (getItem (.ref l) (.int k u)) := by with_unfolding_all rfl) :
    wpAny (model prog w) A (subscriptTail value slice (.ref l) (.int k u)) Q E s :=
  tail_any (r_get N).typeIs slot_list_getitem.lookup (wpAny_getItem_list_neg (r_get N) h0 (by simpa using h1) h2 (by simpa using hx) h) hs
theorem r_item_pre {value slice : PySem.Expr} {pre xs : List Value} {k : Int} {u : Tok} {x : Value} (N : News h₀ L s.heap ((l, W.listOf (pre ++ xs).toArray c) :: rest))
    (h0 : k < 0) (h1 : -(xs.length : Int) ≤ k) (h2 : -(2 ^ 63) ≤ k) (hx : xs[(k + xs.length).toNat]? = some x) (h : Q x s)
    (hs : subscripted slice false (.ref l) (.int k u) = operate [.ref l, .int k u] (getItem (.ref l) (.int k u)) := by with_unfolding_all rfl) :
    wpAny (model prog w) A (subscriptTail value slice (.ref l) (.int k u)) Q E s := by
  refine r_item N h0 ?_ h2 ?_ h hs
  · rw [List.length_append]; omega
  · rw [List.length_append, List.getElem?_append_right (by omega), ← hx]
    congr 1
    omega
/-- stack[-j], too short: IndexError -/
theorem r_item_out {value slice : PySem.Expr} {vs : List Value} {k : Int} {u : Tok} (hA : A.handled = none) (N : News h₀ L s.heap ((l, W.listOf vs.toArray c) :: rest))
    (hout : k < -(vs.length : Int)) (h2 : -(2 ^ 63) ≤ k) (h3 : k < 0)
    (hE : ∀ h' tk e, Heap.NewExc s.heap h' e "IndexError" → E (.ref e) { s with heap := h', toks := tk })
    (hs : subscripted slice false (.ref l) (.int k u) = operate [.ref l, .int k u] (getItem (.ref l) (.int k u)) := by with_unfolding_all rfl) :
    wpAny (model prog w) A (subscriptTail value slice (.ref l) (.int k u)) Q E s :=
  item_outK hA (r_get N) (.inl (by simpa using hout)) h2 (by omega) hE hs
theorem r_typeIs {vs : List Value} (N : News h₀ L s.heap ((l, W.listOf vs.toArray c) :: rest)) : s.TypeIs (.ref l) "list" := (r_get N).typeIs
theorem r_append {pre xs : List Value} {x : Value} (F : Fr h₀ L s.heap m) (N : News h₀ L s.heap ((l, W.listOf (pre ++ xs).toArray c) :: rest)) (hr : ∀ p ∈ rest, p.1 ≠ l) (hz : (pre ++ xs).length ≤ 1000)
    (h : ∀ h', Fr h₀ L h' m → News h₀ L h' ((l, W.listOf (pre ++ (xs ++ [x])).toArray (c + 1)) :: rest) → Q .none { s with heap := h' }) :
    wpAny (model prog w) A (call (.builtin "list.append") [.ref l, x]) Q E s := by
  refine append_K F N (Upd.head hr) (fun h' F' N' => h h' F' ?_) ?_
  · have e : (pre ++ xs).toArray.push x = (pre ++ (xs ++ [x])).toArray := by simp
    rw [e] at N'; exact N'
  · rw [List.size_toArray, sizeLine_eq]; omega
theorem r_pop_last {pre zs xs : List Value} {x : Value} (F : Fr h₀ L s.heap m) (N : News h₀ L s.heap ((l, W.listOf (pre ++ zs).toArray c) :: rest)) (hr : ∀ p ∈ rest, p.1 ≠ l) (hz : (pre ++ zs).length ≤ 1000) (e : kl_last zs = some (xs, x))
    (h : ∀ h', Fr h₀ L h' m → News h₀ L h' ((l, W.listOf (pre ++ xs).toArray (c + 1)) :: rest) → Q x { s with heap := h' }) :
    wpAny (model prog w) A (call (.builtin "list.pop") [.ref l]) Q E s := by
  have e1 := kl_last_spec e
  subst e1
  refine kl_pop (p := pre ++ xs) (y := x) F N ?_ (Upd.head hr) (by rw [sizeLine_eq]; simp only [] ; omega) h
  have := kpa_last x (pre ++ xs)
  rw [List.append_assoc] at this
  exact this
theorem r_pop_at {pre zs xs ys : List Value} {x : Value} {k : Int} {u : Tok} (F : Fr h₀ L s.heap m) (N : News h₀ L s.heap ((l, W.listOf (pre ++ zs).toArray c) :: rest)) (hr : ∀ p ∈ rest, p.1 ≠ l) (hz : (pre ++ zs).length ≤ 1000)
    (h0 : k < 0) (h1 : -(zs.length : Int) ≤ k) (e : kl_cut zs (k + zs.length).toNat = some (xs, x, ys)) (h : ∀ h', Fr h₀ L h' m → News h₀ L h' ((l, W.listOf (pre ++ (xs ++ ys)).toArray (c + 1)) :: rest) → Q x { s with heap := h' }) :
    wpAny (model prog w) A (call (.builtin "list.pop") [.ref l, .int k u]) Q E s := by
  obtain ⟨e1, e2⟩ := kl_cut_spec e
  subst e1
  have hl : (pre ++ (xs ++ x :: ys)).length = pre.length + (xs.length + (ys.length + 1)) := by simp
  have hl' : (xs ++ x :: ys).length = xs.length + (ys.length + 1) := by simp
  rw [hl'] at e2 h1
  refine kl_popAt (k := (pre ++ xs).length) (p := pre ++ xs) (q := ys) (y := x) F N ?_ ?_ ?_ (Upd.head hr) (by rw [sizeLine_eq]; simp only []; omega) (fun h' F' N' => h h' F' (by rw [List.append_assoc] at N'; exact N'))
  · unfold Builtin.List.listFitsIndex; simp only [Bool.and_eq_true, decide_eq_true_eq]; omega
  · rw [List.size_toArray, PySem.seqIndex_neg (by omega) (by omega), hl, List.length_append]
    congr 1
    omega
  · have : ∀ (p : List Value), kl_cut (p ++ x :: ys) p.length = some (p, x, ys) := by
      intro p
      induction p with
      | nil => rfl
      | cons a p ih =>
        show kl_cut (a :: (p ++ x :: ys)) (p.length + 1) = _
        unfold kl_cut
        rw [ih]
    have q := this (pre ++ xs)
    rw [List.append_assoc] at q
    exact q
theorem r_pop_empty (hA : A.handled = none) (N : News h₀ L s.heap ((l, W.listOf ([] : List Value).toArray c) :: rest))
    (hE : ∀ h' tk e, Heap.NewExc s.heap h' e "IndexError" → E (.ref e) { s with heap := h', toks := tk }) :
    wpAny (model prog w) A (call (.builtin "list.pop") [.ref l]) Q E s :=
  call_meets PySem.F.slot_list_pop (r_typeIs N) PySem.F.entry_list_pop (PySem.F.args_list_pop_1 _) (PySem.AutoSeq1.list_pop_list_0 l _ c rfl) ⟨(N _ (.head _)).1, hA, hE⟩
theorem r_pop_out {vs : List Value} {k : Int} {u : Tok} (hA : A.handled = none) (N : News h₀ L s.heap ((l, W.listOf vs.toArray c) :: rest)) (h0 : k < 0) (hout : k < -(vs.length : Int)) (h2 : -(2 ^ 63) ≤ k)
    (hE : ∀ h' tk e, Heap.NewExc s.heap h' e "IndexError" → E (.ref e) { s with heap := h', toks := tk }) :
    wpAny (model prog w) A (call (.builtin "list.pop") [.ref l, .int k u]) Q E s := by
  have hf : Builtin.List.listFitsIndex k = true := by
    unfold Builtin.List.listFitsIndex; simp only [Bool.and_eq_true, decide_eq_true_eq]; omega
  cases vs with
  | nil => exact call_meets PySem.F.slot_list_pop (r_typeIs N) PySem.F.entry_list_pop (PySem.F.args_list_pop_2 _ _) (PySem.AutoSeq1.list_pop_list_int_1 l _ c k u (by simp [hf]) rfl) ⟨(N _ (.head _)).1, hA, hE⟩
  | cons a r =>
    refine call_meets PySem.F.slot_list_pop (r_typeIs N) PySem.F.entry_list_pop (PySem.F.args_list_pop_2 _ _) (PySem.MeetsSeq.list_pop_out l _ c k u hf (by simp) ?_) ⟨(N _ (.head _)).1, hA, hE⟩
    rw [List.size_toArray]
    exact PySem.seqIndex_below hout
end
end Mine
namespace Mine
/-- a tree without calls, each of whose updates keeps P -/
def Soft (P : Obj → Prop) {α : Type} : Sem α → Prop
  | .pure _ => True
  | .raise _ => True
  | .unsupported _ => True
  | .finish _ => True
  | .rule _ k => Soft P (k ())
  | .at _ k => Soft P (k ())
  | .load _ _ k => ∀ o, Soft P (k o)
  | .update _ _ f k => (∀ o, P o → P (f o)) ∧ Soft P (k ())
  | .alloc _ k => ∀ a, Soft P (k a)
  | .loadIfAlive _ k => ∀ o, Soft P (k o)
  | .point _ k => Soft P (k ())
  | .fresh k => ∀ t, Soft P (k t)
  | .ask k => ∀ t, Soft P (k t)
  | .handled _ k => ∀ t, Soft P (k t)
  | .stack k => ∀ t, Soft P (k t)
  | _ => False
def AtP (P : Obj → Prop) (e : Addr) (h : Heap) : Prop := ∃ o, h.get? e = some o ∧ P o
theorem wp_soft {P : Obj → Prop} (hP : ∀ o, P o → o.isFreed = false) {M : Model} {Γ : Ctx} {e : Addr} {α : Type} (t : Sem α) : ∀ {Q : α → Pos → Shared → Prop} {E : Value → Pos → Shared → Prop} {p : Pos} {s : Shared},
    Soft P t → Sem.wp M Γ t Q E p s → AtP P e s.heap → Sem.wp M Γ t (fun a p s' => Q a p s' ∧ AtP P e s'.heap) (fun x p s' => E x p s' ∧ AtP P e s'.heap) p s := by
  induction t with
  | pure a => intro Q E p s _ h he; exact ⟨h, he⟩
  | raise a => intro Q E p s _ h he; exact ⟨h, he⟩
  | unsupported _ => intro Q E p s _ h _; exact h
  | finish _ => intro Q E p s _ h _; exact h
  | rule _ k ih => intro Q E p s hs h he; exact ih () hs h he
  | «at» _ k ih => intro Q E p s hs h he; exact ih () hs h he
  | load a q k ih => intro Q E p s hs h he; obtain ⟨o, ho, h⟩ := h; exact ⟨o, ho, ih o (hs o) h he⟩
  | update a q f k ih =>
    intro Q E p s hs h he
    refine ⟨h.1, ih () hs.2 h.2 ?_⟩
    obtain ⟨o, ho, hp⟩ := he
    by_cases q : a = e
    · subst q
      exact ⟨f o, Heap.get?_update_self f ho (hP _ (hs.1 o hp)), hs.1 o hp⟩
    · exact ⟨o, (Heap.get?_update_other _ _ q).trans ho, hp⟩
  | alloc o k ih =>
    intro Q E p s hs h he
    refine ih _ (hs _) h ?_
    obtain ⟨o', ho, hp⟩ := he
    exact ⟨o', Heap.get?_push_of_some _ ho, hp⟩
  | loadIfAlive a k ih => intro Q E p s hs h he; exact ih _ (hs _) h he
  | point _ k ih => intro Q E p s hs h he; exact ih () hs h he
  | register _ k _ => intro Q E p s hs; exact hs.elim
  | fresh k ih => intro Q E p s hs h he; exact ih _ (hs _) h he
  | ask k ih => intro Q E p s hs h he; exact ih _ (hs _) h he
  | choose _ _ k _ => intro Q E p s hs; exact hs.elim
  | os _ _ k _ => intro Q E p s hs; exact hs.elim
  | call _ _ _ _ k _ => intro Q E p s hs; exact hs.elim
  | handled _ k ih => intro Q E p s hs h he; exact ih _ (hs _) h he
  | newGen _ k _ => intro Q E p s hs; exact hs.elim
  | genState _ k _ => intro Q E p s hs; exact hs.elim
  | resume _ _ _ k _ => intro Q E p s hs; exact hs.elim
  | yield _ _ _ k _ => intro Q E p s hs; exact hs.elim
  | stack k ih => intro Q E p s hs h he; exact ih _ (hs _) h he
  | fork _ k _ => intro Q E p s hs; exact hs.elim
  | thread k _ => intro Q E p s hs; exact hs.elim
  | await _ _ _ _ k _ => intro Q E p s hs; exact hs.elim
theorem wpAny_soft {P : Obj → Prop} (hP : ∀ o, P o → o.isFreed = false) {M : Model} {A : Around} {e : Addr} {α : Type} {t : Sem α} {Q : α → Shared → Prop} {E : Value → Shared → Prop} {s : Shared}
    (hs : Soft P t) (he : AtP P e s.heap) (h : wpAny M A t Q E s) : wpAny M A t (fun a s' => Q a s' ∧ AtP P e s'.heap) (fun x s' => E x s' ∧ AtP P e s'.heap) s :=
  fun Γ p hΓ => wp_soft hP t hs (h Γ p hΓ) he
theorem soft_bind {P : Obj → Prop} {α β : Type} {f : α → Sem β} (hf : ∀ a, Soft P (f a)) (m : Sem α) : Soft P m → Soft P (m >>= f) := by
  show Soft P m → Soft P (Sem.bind m f)
  induction m with
  | pure a => intro _; exact hf a
  | raise a => intro _; exact trivial
  | unsupported _ => intro _; exact trivial
  | finish _ => intro _; exact trivial
  | rule _ k ih => intro h; exact ih () h
  | «at» _ k ih => intro h; exact ih () h
  | load a q k ih => intro h o; exact ih o (h o)
  | update a q g k ih => intro h; exact ⟨h.1, ih () h.2⟩
  | alloc o k ih => intro h a; exact ih a (h a)
  | loadIfAlive a k ih => intro h o; exact ih o (h o)
  | point _ k ih => intro h; exact ih () h
  | register _ k _ => intro h; exact h.elim
  | fresh k ih => intro h o; exact ih o (h o)
  | ask k ih => intro h o; exact ih o (h o)
  | choose _ _ k _ => intro h; exact h.elim
  | os _ _ k _ => intro h; exact h.elim
  | call _ _ _ _ k _ => intro h; exact h.elim
  | handled _ k ih => intro h o; exact ih o (h o)
  | newGen _ k _ => intro h; exact h.elim
  | genState _ k _ => intro h; exact h.elim
  | resume _ _ _ k _ => intro h; exact h.elim
  | yield _ _ _ k _ => intro h; exact h.elim
  | stack k ih => intro h o; exact ih o (h o)
  | fork _ k _ => intro h; exact h.elim
  | thread k _ => intro h; exact h.elim
  | await _ _ _ _ k _ => intro h; exact h.elim
/-- field 2 (the context) is None -/
def F2 (o : Obj) : Prop := ∃ vs, o.data = .fields vs ∧ vs[2]? = some .none
theorem F2.free (o : Obj) (h : F2 o) : o.isFreed = false := by obtain ⟨vs, h, _⟩ := h; exact Obj.isFreed_of_fields h
theorem soft_unsupported {P : Obj → Prop} {α : Type} (w : String) : Soft P (unsupported w : Sem α) := trivial
theorem soft_pure {P : Obj → Prop} {α : Type} (a : α) : Soft P (pure a : Sem α) := trivial
theorem soft_load {P : Obj → Prop} (a : Addr) : Soft P (load a) := fun _ => trivial
theorem soft_alloc {P : Obj → Prop} (o : Obj) : Soft P (alloc o) := fun _ => trivial
theorem soft_stack {P : Obj → Prop} : Soft P stack := fun _ => trivial
theorem soft_update {P : Obj → Prop} (a : Addr) (f : Obj → Obj) (h : ∀ o, P o → P (f o)) : Soft P (update a f) := ⟨h, trivial⟩
theorem soft_updateField (a : Addr) (i : Nat) (v : Value) (hi : i ≠ 2) : Soft F2 (updateField a i v) := by
  unfold updateField
  refine soft_bind (fun o => ?_) _ (soft_load a)
  split
  · split
    · refine soft_update a _ fun o ho => ?_
      obtain ⟨vs, hd, h2⟩ := ho
      exact ⟨_, Obj.data_mapFields hd _, by rw [Array.getElem?_setIfInBounds_ne hi]; exact h2⟩
    · trivial
  · trivial
theorem soft_setField (x : Value) (i : Nat) (v : Value) (hi : i ≠ 2) : Soft F2 (setField x i v) := by
  unfold setField
  split
  · exact soft_updateField _ i v hi
  · trivial
theorem soft_fieldsOf {P : Obj → Prop} (x : Value) : Soft P (fieldsOf x) := by
  unfold fieldsOf
  split
  · refine soft_bind (fun o => ?_) _ (soft_load _)
    split <;> trivial
  · trivial
theorem soft_field {P : Obj → Prop} (x : Value) (i : Nat) : Soft P (field x i) := by
  unfold field
  refine soft_bind (fun o => ?_) _ (soft_fieldsOf x)
  split <;> trivial
theorem soft_newFields {P : Obj → Prop} (ty : String) (vs : List Value) : Soft P (newFields ty vs) := by
  unfold newFields newObj
  dsimp only
  split
  · exact trivial
  · exact fun _ => trivial
theorem soft_readyFrames : ∀ l : List Env, Soft F2 (readyFrames l)
  | [] => trivial
  | env :: outer => by
    unfold readyFrames
    split
    · refine soft_bind (fun o => ?_) _ (soft_load _)
      split
      · trivial
      · refine soft_bind (fun b => ?_) _ ?_
        · refine soft_bind (fun v => ?_) _ ?_
          · exact soft_bind (fun _ => soft_readyFrames outer) _ (soft_update _ _ fun o ho => ho)
          · unfold keptBack
            split
            · split
              · trivial
              · unfold underTheClaimsCaller
                refine soft_bind (fun _ => ?_) _ (soft_bind (fun _ => ?_) _ soft_stack)
                · exact soft_pure _
                · exact soft_pure _
            · trivial
        · unfold behindIsImport
          repeat' (first | trivial | (refine soft_bind (fun _ => ?_) _ (soft_field _ _)) | split)
    · trivial
theorem soft_frameOf (env : Env) : Soft F2 (PySem.frameOf env) := by
  unfold PySem.frameOf
  refine soft_bind (fun l => ?_) _ ?_
  · refine soft_bind (fun r => ?_) _ ?_
    · split <;> trivial
    · unfold frameObject
      split
      · trivial
      · exact soft_bind (fun _ => soft_pure _) _ (soft_readyFrames _)
  · unfold frameEnvs
    exact soft_bind (fun _ => soft_pure _) _ soft_stack
theorem soft_entryPlaceOf {P : Obj → Prop} (f : Addr) (b : Bool) : Soft P (entryPlaceOf f b) := by
  unfold entryPlaceOf
  refine soft_bind (fun l => ?_) _ soft_stack
  split <;> trivial
theorem soft_setFlight (x : Value) (f : Option Addr) : Soft F2 (setFlight x f) := by
  unfold setFlight
  refine soft_bind (fun l => ?_) _ (soft_field _ _)
  split
  · exact soft_setField _ 3 _ (by decide)
  · trivial
theorem soft_noteFrame (x : Value) (env : Env) : Soft F2 (noteFrame x env) := by
  unfold noteFrame
  have fin : ∀ f head, Soft F2 (do setField x 1 (← EntryCells.newEntry head (← PySem.frameOf env) .none (rawInt f) .none (← entryPlaceOf f (head != .none)))) := fun f head => by
    refine soft_bind (fun v => ?_) _ (soft_frameOf env)
    refine soft_bind (fun pl => ?_) _ (soft_entryPlaceOf _ _)
    refine soft_bind (fun t => ?_) _ ?_
    · exact soft_setField _ 1 _ (by decide)
    · unfold EntryCells.newEntry; exact soft_newFields _ _
  split
  · refine soft_bind (fun head => ?_) _ (soft_field _ _)
    split
    · refine soft_bind (fun v => ?_) _ (soft_field _ _)
      split
      · trivial
      · exact soft_bind (fun _ => fin _ _) _ (soft_setField _ 3 _ (by decide))
    · exact fin _ _
  · trivial
theorem soft_leaving (env : Env) (x : Value) : Soft F2 (leaving env x) := by
  unfold leaving
  exact soft_bind (fun _ => soft_setFlight _ _) _ (soft_noteFrame _ _)
end Mine
namespace Mine
/-- a raised exception whose context is None -/
def RaisedX (base : Heap) (l : List Env) (e : Addr) (cls : Value) (news : List (Addr × Obj)) (h : Heap) : Prop := RaisedN base l e cls news h ∧ AtP F2 e h
theorem RaisedX.sub {base : Heap} {l : List Env} {e : Addr} {cls : Value} {news news' : List (Addr × Obj)} {h : Heap} (R : RaisedX base l e cls news h) (hs : ∀ p ∈ news', p ∈ news) : RaisedX base l e cls news' h := by
  obtain ⟨⟨B, a0, h1, h2, h3⟩, h4⟩ := R
  exact ⟨⟨B, a0, h1, fun q hq => h2 q (hs q hq), h3⟩, h4⟩
section
variable {M : Model} {A : Around} {E : Value → Shared → Prop} {s' : Shared} {base g g₂ h : Heap} {outer : List Env} {L a e : Addr} {m : Str → Option Value} {name : Str} {scope : Scope} {cd : Value} {Q : Unit → Shared → Prop} {news : List (Addr × Obj)}
theorem leave_newX {cls : String} (K : Below A base outer g) (hx : Heap.NewExc h s'.heap e cls) (F : Fr g L h m) (N : News g L h news)
    (hQ : ∀ h', RaisedX base outer e (.type cls) news h' → g.UpToSlots h' → Q () { s' with heap := h' }) (hk : scope.kind = .function := by rfl) :
    wpAny M (A.deeper (envOf name scope L a cd)) (leaving (envOf name scope L a cd) (.ref e)) Q E s' := by
  obtain ⟨ob, tp, he, hcls, hd⟩ := hx.there
  have h1 := leave_newK (M := M) (E := E) (name := name) (scope := scope) (a := a) (cd := cd) (Q := fun _ s'' => ∃ h', s'' = { s' with heap := h' } ∧ RaisedN base outer e (.type cls) news h' ∧ g.UpToSlots h') K hx F N (fun h' R U => ⟨h', rfl, R, U⟩) hk
  refine wpAny_mono (wpAny_soft F2.free (soft_leaving _ _) ⟨ob, he, _, hd, rfl⟩ h1) ?_ (fun _ _ x => x.1)
  rintro _ s'' ⟨⟨h', rfl, R, U⟩, hp⟩
  exact hQ h' ⟨R, hp⟩ U
theorem leave_onX {cls : Value} (K : Below A base outer g) (F : Fr g L g₂ m) (R : RaisedX base (envOf name scope L a cd :: outer) e cls news s'.heap) (hsm : g₂.UpToSlots s'.heap)
    (hQ : ∀ h', RaisedX base outer e cls news h' → g.UpToSlots h' → Q () { s' with heap := h' }) :
    wpAny M (A.deeper (envOf name scope L a cd)) (leaving (envOf name scope L a cd) (.ref e)) Q E s' := by
  have h1 := leave_onN (M := M) (E := E) (Q := fun _ s'' => ∃ h', s'' = { s' with heap := h' } ∧ RaisedN base outer e cls news h' ∧ g.UpToSlots h') K F R.1 hsm (fun h' R U => ⟨h', rfl, R, U⟩)
  refine wpAny_mono (wpAny_soft F2.free (soft_leaving _ _) R.2 h1) ?_ (fun _ _ x => x.1)
  rintro _ s'' ⟨⟨h', rfl, R', U⟩, hp⟩
  exact hQ h' ⟨R', hp⟩ U
end
section
variable {prog : Program} {w : World} {A₀ : Around} {s' : Shared} {h₀ h : Heap} {outer : List Env} {L a e : Addr} {m : Str → Option Value} {name : Str} {scope : Scope} {cd : Value}
  {b₀ : Stmt} {suite : List Stmt} {pos np : Pos} {rest : List ExceptHandler} {Q : Flow → Shared → Prop} {news : List (Addr × Obj)}
  {p : Program} {loose : List Str} {mg mb : Str → Option Value}
/-- «except IndexError:» takes it; the suite knows the exception's object -/
theorem caught_X (K : Below A₀ h₀ outer h₀) (F : Fr h₀ L h m) (hsm : h.UpToSlots s'.heap) (R : RaisedX h₀ (envOf name scope L a cd :: outer) e (.type "IndexError") news s'.heap)
    (T : TopRead p loose mg mb h₀)
    (k : ∀ h' oe, Fr h₀ L h' m → News h₀ L h' ((e, oe) :: news) → F2 oe →
      wpAny (model prog w) ((A₀.deeper (envOf name scope L a cd)).mark (some (.ref e))) (execs (b₀ :: suite) (envOf name scope L a cd)) Q (fun _ _ => False) { s' with heap := h' })
    (h1 : (Str.ofString "IndexError") ∉ startupNames := by decide +kernel) (h2 : (Str.ofString "IndexError") ∉ loose := by decide +kernel) (h3 : (Str.ofString "IndexError") ∉ (recsOf p).map (·.name) := by decide +kernel) (h4 : (Str.ofString "IndexError") ∉ (litsOf p).map (·.1) := by decide +kernel) (h4c : (Str.ofString "IndexError") ∉ (clssOf p loose).map (·.name) := by decide +kernel)
    (hk : scope.kind = .function := by rfl) (hx : (envOf name scope L a cd).kindOf (Str.ofString "IndexError") = some .globalImplicit := by rfl) :
    wpAny (model prog w) (A₀.deeper (envOf name scope L a cd)) (noteFrame (.ref e) (envOf name scope L a cd))
      (fun _ s₂ => wpAny (model prog w) (A₀.deeper (envOf name scope L a cd)) (setFlight (.ref e) none) (fun _ s₃ =>
        wpAny (model prog w) (A₀.deeper (envOf name scope L a cd)) (handleBy (.ref e) (envOf name scope L a cd) (.ExceptHandler (some (.Name (Str.ofString "IndexError") np)) none (b₀ :: suite) pos :: rest)) Q (fun _ _ => False) s₃) (fun _ _ => False) s₂) (fun _ _ => False) s' := by
  obtain ⟨⟨B, a0, hB, hl, hfl⟩, hp⟩ := R
  have hL : B.get? L = none := by
    obtain ⟨_, ⟨L', _, hf, hn', _⟩, _⟩ := hfl.2.2.1
    obtain rfl : L = L' := Option.some.inj hf
    exact hn'
  -- the look
  have s1 := wpAny_looks_onW (M := model prog w) (E := fun _ _ => False) (Q := fun _ s₂ => ∃ h₄, s₂ = { s' with heap := h₄ } ∧ Heap.HeldW B (envOf name scope L a cd :: outer) e (.type "IndexError") a0 L h₄ ∧ s'.heap.UpToSlots h₄) (Around.frames_deeper (env := envOf name scope L a cd) K.stack) rfl hfl fun h₄ x y => ⟨h₄, rfl, x, y⟩
  refine wpAny_mono (wpAny_soft F2.free (soft_noteFrame _ _) hp s1) ?_ (fun _ _ x => x.1)
  rintro _ s₂ ⟨⟨h₄, rfl, hheld₄, hsm₄⟩, hp₄⟩
  have s2 := wpAny_landsW (M := model prog w) (A := A₀.deeper (envOf name scope L a cd)) (s := { s' with heap := h₄ }) (E := fun _ _ => False) (Q := fun _ s₃ => ∃ h₅, s₃ = { s' with heap := h₅ } ∧ Heap.FlyingW B (envOf name scope L a cd :: outer) e (.type "IndexError") a0 h₅ ∧ h₄.UpToSlots h₅) hheld₄ fun h₅ x y => ⟨h₅, rfl, x, y⟩
  refine wpAny_mono (wpAny_soft F2.free (soft_setFlight _ _) hp₄ s2) ?_ (fun _ _ x => x.1)
  rintro _ s₃ ⟨⟨h₅, rfl, hheld, hsm₅'⟩, hp₅⟩
  have hsm₅ := hsm₄.trans hsm₅'
  have hheld' := flyingW_base hB hheld
  have F₅ := F.of_stays hheld'.1 (hsm.trans hsm₅)
  obtain ⟨ob, hob, hobc⟩ := hheld'.there
  refine wpAny_handleBy_builtin (X := "IndexError") (T := "IndexError") (b := true) PySem.F.isExc_IndexError PySem.F.notTuple_IndexError (by rw [isSubtype_type]; kernel_rfl) (ld_builtin_at F₅ T.g (T.free _ h1 h2 h3 h4 h4c) T.b ((T.builtins _ (by decide +kernel)).trans PyProof.Rows.Boot.«IndexError») ⟨rfl, ⟨ob, hob, hobc⟩, ?_⟩ hk hx (by decide))
  have s3 := lands_againW (M := model prog w) (A := (A₀.deeper (envOf name scope L a cd)).mark (some (.ref e))) (s := { s' with heap := h₅ }) (E := fun _ _ => False) (Q := fun _ s₃ => ∃ h₆, s₃ = { s' with heap := h₆ } ∧ Heap.FlyingW B (envOf name scope L a cd :: outer) e (.type "IndexError") a0 h₆ ∧ h₅.UpToSlots h₆) hheld fun h₆ x y => ⟨h₆, rfl, x, y⟩
  refine wpAny_mono (wpAny_soft F2.free (soft_setFlight _ _) hp₅ s3) ?_ (fun _ _ x => x.1.elim)
  rintro _ s₄ ⟨⟨h₆, rfl, hfl₆, hsm₆⟩, oe, hoe, hp₆⟩
  have hfl₆' := flyingW_base hB hfl₆
  have F₆ := F.of_stays hfl₆'.1 ((hsm.trans hsm₅).trans hsm₆)
  have Nl : News h₀ L h₆ news := fun q hq => ⟨hfl₆.1 _ _ (hl q hq).1, (fun z => by have := (hl q hq).1; rw [z, hL] at this; cases this), (hl q hq).2⟩
  obtain ⟨vs, hd, h22⟩ := hp₆
  have N₆ := News.more F₆ Nl hoe (fun es n q => by rw [hd] at q; cases q) hfl₆'.2.1
  exact wpAny_mono (k h₆ oe F₆ N₆ ⟨vs, hd, h22⟩) (fun _ _ x => x) (fun _ _ x => x.elim)
end
end Mine
namespace Mine
local macro_rules | `(tactic| walk_at "leaving ref") => `(tactic| (k_here; (refine' leave_newX ?k1 ?k0 ?k2 ?k3 ?_; (case k0 => assumption); (case k1 => assumption); (case k2 => assumption); (case k3 => k_asm); k_whole); intro h' R' U'; (try dsimp only at R' U' ⊢)))
local macro_rules | `(tactic| walk_at "op_len") => `(tactic| (simp only [List.length_append, List.length_cons, List.length_nil]; omega))
local macro_rules | `(tactic| walk_at "subscriptTail") => `(tactic| (k_here; (with_reducible show wpAny _ _ (subscriptTail _ _ (Value.ref _) (Value.int _ _)) _ _ _); (with_unfolding_all refine' r_item_pre ?N ?a ?b ?c ?d ?_ ?e; (case N => with_reducible assumption); (case a => decide); (case b => simp only [List.length_cons, List.length_nil]; decide); (case c => decide); (case d => exact rfl); (case e => with_unfolding_all rfl); k_whole)))
local macro_rules | `(tactic| walk_at "subscriptTail") => `(tactic| (k_here; (with_reducible show wpAny _ _ (subscriptTail _ _ (Value.ref _) (Value.int _ _)) _ _ _); (with_unfolding_all refine' r_item_out ?A ?N ?b ?c ?d ?_ ?e; (case N => with_reducible assumption); (case A => assumption); (case b => omega); (case c => decide); (case d => decide); (case e => with_unfolding_all rfl); k_whole); intro h' tk' e' x'))
local macro_rules | `(tactic| walk_at "call builtin:list.append") => `(tactic| (k_here; (with_unfolding_all refine' r_append ?F ?N ?r ?z ?_; (case N => with_reducible assumption); (case F => assumption); (case r => assumption); (case z => walk_at "op_len"); k_whole); intro h' F' N'; (try dsimp only [List.cons_append, List.nil_append] at N'); (try k_sweep)))
local macro_rules | `(tactic| walk_at "call builtin:list.pop") => `(tactic| (k_here; first
  | ((with_unfolding_all refine' r_pop_last ?F ?N ?r ?z ?e ?_; (case N => with_reducible assumption); (case F => assumption); (case r => assumption); (case e => exact rfl); (case z => walk_at "op_len"); k_whole); intro h' F' N'; (try dsimp only [List.cons_append, List.nil_append] at N'); (try k_sweep))
  | ((with_unfolding_all refine' r_pop_at ?F ?N ?r ?z ?a ?b ?e ?_; (case N => with_reducible assumption); (case F => assumption); (case r => assumption); (case a => decide); (case b => simp only [List.length_cons, List.length_nil]; decide); (case e => exact rfl); (case z => walk_at "op_len"); k_whole); intro h' F' N'; (try dsimp only [List.cons_append, List.nil_append] at N'); (try k_sweep))
  | ((with_unfolding_all refine' r_pop_empty ?A ?N ?_; (case N => with_reducible assumption); (case A => assumption); k_whole); intro h' tk' e' x')
  | ((with_unfolding_all refine' r_pop_out ?A ?N ?a ?b ?c ?_; (case N => with_reducible assumption); (case A => assumption); (case a => decide); (case b => omega); (case c => decide); k_whole); intro h' tk' e' x')
  | fail "op pop"))
section
variable {w : World} {mg mb : Str → Option Value} {mean : ExcName → Option Value} {A₀ A : Around} {E : Value → Shared → Prop} {s : Shared} {base h₀ : Heap} {outer : List Env} {L l : Addr} {m : Str → Option Value} {rest : List (Addr × Obj)} {env : Env} {c : Nat} {Q : Value → Shared → Prop}
set_option maxHeartbeats 8000000 in
theorem op_2DROP {pre : List Value} {xa xb : Value} (B : Below A₀ base outer h₀) (F : Fr h₀ L s.heap m) (X : (hd.heap_39 w.params).In h₀) (hr : ∀ p ∈ rest, p.1 ≠ l)
    (T : Top hd.view_39 (looseW hd.view_39 []) mean mg mb h₀) (hA : A.frames = some (env :: outer)) (hf : env.frame = some L) (hk : env.scope.kind = .function) (hroom : A.depth < 600) (hh : A.handled = none)
    (N : News h₀ L s.heap ((l, W.listOf (pre ++ [xa, xb]).toArray c) :: rest)) (hz : pre.length ≤ 100)
    (hQ : ∀ h' tk c', Fr h₀ L h' m → News h₀ L h' ((l, W.listOf (pre ++ []).toArray c') :: rest) → Q .none { s with heap := h', toks := tk }) :
    wpAny (model Challenge.rw_fe0236_01.row.prog w) A (call (.ref 76) [.ref l]) Q E s := by
  revert X
  k_fill
  intro X
  refine wpAny_call ?_
  refine code_def B F X N T hA hf hk (by k_is) (by k_is) (Nat.lt_trans hroom (by decide)) (BindsTo.of_eq (binds := [(Str.ofString "stack", .ref l)]) rfl) (locs rfl) ?_ rfl rfl rfl (by decide)
  intro g L' h₁ FG F' N' B' X' T'
  clear F N B X T
  dsimp only
  k_fold
  k_steps
  refine leaveK_ (by with_reducible assumption) (by with_reducible assumption) ?_
  intro hF hN
  exact hQ _ _ _ hF hN
set_option maxHeartbeats 8000000 in
theorem op_2DROP_s0 (B : Below A₀ base outer h₀) (F : Fr h₀ L s.heap m) (X : (hd.heap_39 w.params).In h₀) (hr : ∀ p ∈ rest, p.1 ≠ l)
    (T : Top hd.view_39 (looseW hd.view_39 []) mean mg mb h₀) (hA : A.frames = some (env :: outer)) (hf : env.frame = some L) (hk : env.scope.kind = .function) (hroom : A.depth < 600) (hh : A.handled = none)
    (N : News h₀ L s.heap ((l, W.listOf ([] : List Value).toArray c) :: rest))
    (hE : ∀ h' tk e g, Fr h₀ L g m → RaisedX base (env :: outer) e (.type "IndexError") rest h' → g.UpToSlots h' → E (.ref e) { s with heap := h', toks := tk }) :
    wpAny (model Challenge.rw_fe0236_01.row.prog w) A (call (.ref 76) [.ref l]) Q E s := by
  revert X
  k_fill
  intro X
  refine wpAny_call ?_
  refine code_def B F X N T hA hf hk (by k_is) (by k_is) (Nat.lt_trans hroom (by decide)) (BindsTo.of_eq (binds := [(Str.ofString "stack", .ref l)]) rfl) (locs rfl) ?_ rfl rfl rfl (by decide)
  intro g L' h₁ FG F' N' B' X' T'
  clear F N B X T
  dsimp only
  k_fold
  k_steps
  exact hE _ _ _ _ FG (RaisedX.sub (by with_reducible assumption) (fun _ hp => List.mem_cons_of_mem _ hp)) (by with_reducible assumption)
set_option maxHeartbeats 8000000 in
theorem op_2DROP_s1 {xa : Value} (B : Below A₀ base outer h₀) (F : Fr h₀ L s.heap m) (X : (hd.heap_39 w.params).In h₀) (hr : ∀ p ∈ rest, p.1 ≠ l)
    (T : Top hd.view_39 (looseW hd.view_39 []) mean mg mb h₀) (hA : A.frames = some (env :: outer)) (hf : env.frame = some L) (hk : env.scope.kind = .function) (hroom : A.depth < 600) (hh : A.handled = none)
    (N : News h₀ L s.heap ((l, W.listOf (([] : List Value) ++ [xa]).toArray c) :: rest))
    (hE : ∀ h' tk e g, Fr h₀ L g m → RaisedX base (env :: outer) e (.type "IndexError") rest h' → g.UpToSlots h' → E (.ref e) { s with heap := h', toks := tk }) :
    wpAny (model Challenge.rw_fe0236_01.row.prog w) A (call (.ref 76) [.ref l]) Q E s := by
  revert X
  k_fill
  intro X
  refine wpAny_call ?_
  refine code_def B F X N T hA hf hk (by k_is) (by k_is) (Nat.lt_trans hroom (by decide)) (BindsTo.of_eq (binds := [(Str.ofString "stack", .ref l)]) rfl) (locs rfl) ?_ rfl rfl rfl (by decide)
  intro g L' h₁ FG F' N' B' X' T'
  clear F N B X T
  dsimp only
  k_fold
  k_steps
  exact hE _ _ _ _ FG (RaisedX.sub (by with_reducible assumption) (fun _ hp => List.mem_cons_of_mem _ hp)) (by with_reducible assumption)
set_option maxHeartbeats 8000000 in
theorem op_2DUP {pre : List Value} {xa xb : Value} (B : Below A₀ base outer h₀) (F : Fr h₀ L s.heap m) (X : (hd.heap_39 w.params).In h₀) (hr : ∀ p ∈ rest, p.1 ≠ l)
    (T : Top hd.view_39 (looseW hd.view_39 []) mean mg mb h₀) (hA : A.frames = some (env :: outer)) (hf : env.frame = some L) (hk : env.scope.kind = .function) (hroom : A.depth < 600) (hh : A.handled = none)
    (N : News h₀ L s.heap ((l, W.listOf (pre ++ [xa, xb]).toArray c) :: rest)) (hz : pre.length ≤ 100)
    (hQ : ∀ h' tk c', Fr h₀ L h' m → News h₀ L h' ((l, W.listOf (pre ++ [xa, xb, xa, xb]).toArray c') :: rest) → Q .none { s with heap := h', toks := tk }) :
    wpAny (model Challenge.rw_fe0236_01.row.prog w) A (call (.ref 83) [.ref l]) Q E s := by
  revert X
  k_fill
  intro X
  refine wpAny_call ?_
  refine code_def B F X N T hA hf hk (by k_is) (by k_is) (Nat.lt_trans hroom (by decide)) (BindsTo.of_eq (binds := [(Str.ofString "stack", .ref l)]) rfl) (locs rfl) ?_ rfl rfl rfl (by decide)
  intro g L' h₁ FG F' N' B' X' T'
  clear F N B X T
  dsimp only
  k_fold
  k_steps
  refine leaveK_ (by with_reducible assumption) (by with_reducible assumption) ?_
  intro hF hN
  exact hQ _ _ _ hF hN
set_option maxHeartbeats 8000000 in
theorem op_2DUP_s {vs : List Value} (hlt : vs.length < 2) (B : Below A₀ base outer h₀) (F : Fr h₀ L s.heap m) (X : (hd.heap_39 w.params).In h₀) (hr : ∀ p ∈ rest, p.1 ≠ l)
    (T : Top hd.view_39 (looseW hd.view_39 []) mean mg mb h₀) (hA : A.frames = some (env :: outer)) (hf : env.frame = some L) (hk : env.scope.kind = .function) (hroom : A.depth < 600) (hh : A.handled = none)
    (N : News h₀ L s.heap ((l, W.listOf vs.toArray c) :: rest))
    (hE : ∀ h' tk e g, Fr h₀ L g m → RaisedX base (env :: outer) e (.type "IndexError") rest h' → g.UpToSlots h' → E (.ref e) { s with heap := h', toks := tk }) :
    wpAny (model Challenge.rw_fe0236_01.row.prog w) A (call (.ref 83) [.ref l]) Q E s := by
  revert X
  k_fill
  intro X
  refine wpAny_call ?_
  refine code_def B F X N T hA hf hk (by k_is) (by k_is) (Nat.lt_trans hroom (by decide)) (BindsTo.of_eq (binds := [(Str.ofString "stack", .ref l)]) rfl) (locs rfl) ?_ rfl rfl rfl (by decide)
  intro g L' h₁ FG F' N' B' X' T'
  clear F N B X T
  dsimp only
  k_fold
  k_steps
  exact hE _ _ _ _ FG (RaisedX.sub (by with_reducible assumption) (fun _ hp => List.mem_cons_of_mem _ hp)) (by with_reducible assumption)
set_option maxHeartbeats 8000000 in
theorem op_3DUP {pre : List Value} {xa xb xd : Value} (B : Below A₀ base outer h₀) (F : Fr h₀ L s.heap m) (X : (hd.heap_39 w.params).In h₀) (hr : ∀ p ∈ rest, p.1 ≠ l)
    (T : Top hd.view_39 (looseW hd.view_39 []) mean mg mb h₀) (hA : A.frames = some (env :: outer)) (hf : env.frame = some L) (hk : env.scope.kind = .function) (hroom : A.depth < 600) (hh : A.handled = none)
    (N : News h₀ L s.heap ((l, W.listOf (pre ++ [xa, xb, xd]).toArray c) :: rest)) (hz : pre.length ≤ 100)
    (hQ : ∀ h' tk c', Fr h₀ L h' m → News h₀ L h' ((l, W.listOf (pre ++ [xa, xb, xd, xa, xb, xd]).toArray c') :: rest) → Q .none { s with heap := h', toks := tk }) :
    wpAny (model Challenge.rw_fe0236_01.row.prog w) A (call (.ref 90) [.ref l]) Q E s := by
  revert X
  k_fill
  intro X
  refine wpAny_call ?_
  refine code_def B F X N T hA hf hk (by k_is) (by k_is) (Nat.lt_trans hroom (by decide)) (BindsTo.of_eq (binds := [(Str.ofString "stack", .ref l)]) rfl) (locs rfl) ?_ rfl rfl rfl (by decide)
  intro g L' h₁ FG F' N' B' X' T'
  clear F N B X T
  dsimp only
  k_fold
  k_steps
  refine leaveK_ (by with_reducible assumption) (by with_reducible assumption) ?_
  intro hF hN
  exact hQ _ _ _ hF hN
set_option maxHeartbeats 8000000 in
theorem op_3DUP_s {vs : List Value} (hlt : vs.length < 3) (B : Below A₀ base outer h₀) (F : Fr h₀ L s.heap m) (X : (hd.heap_39 w.params).In h₀) (hr : ∀ p ∈ rest, p.1 ≠ l)
    (T : Top hd.view_39 (looseW hd.view_39 []) mean mg mb h₀) (hA : A.frames = some (env :: outer)) (hf : env.frame = some L) (hk : env.scope.kind = .function) (hroom : A.depth < 600) (hh : A.handled = none)
    (N : News h₀ L s.heap ((l, W.listOf vs.toArray c) :: rest))
    (hE : ∀ h' tk e g, Fr h₀ L g m → RaisedX base (env :: outer) e (.type "IndexError") rest h' → g.UpToSlots h' → E (.ref e) { s with heap := h', toks := tk }) :
    wpAny (model Challenge.rw_fe0236_01.row.prog w) A (call (.ref 90) [.ref l]) Q E s := by
  revert X
  k_fill
  intro X
  refine wpAny_call ?_
  refine code_def B F X N T hA hf hk (by k_is) (by k_is) (Nat.lt_trans hroom (by decide)) (BindsTo.of_eq (binds := [(Str.ofString "stack", .ref l)]) rfl) (locs rfl) ?_ rfl rfl rfl (by decide)
  intro g L' h₁ FG F' N' B' X' T'
  clear F N B X T
  dsimp only
  k_fold
  k_steps
  exact hE _ _ _ _ FG (RaisedX.sub (by with_reducible assumption) (fun _ hp => List.mem_cons_of_mem _ hp)) (by with_reducible assumption)
set_option maxHeartbeats 8000000 in
theorem op_2OVER {pre : List Value} {xa xb xd xe : Value} (B : Below A₀ base outer h₀) (F : Fr h₀ L s.heap m) (X : (hd.heap_39 w.params).In h₀) (hr : ∀ p ∈ rest, p.1 ≠ l)
    (T : Top hd.view_39 (looseW hd.view_39 []) mean mg mb h₀) (hA : A.frames = some (env :: outer)) (hf : env.frame = some L) (hk : env.scope.kind = .function) (hroom : A.depth < 600) (hh : A.handled = none)
    (N : News h₀ L s.heap ((l, W.listOf (pre ++ [xa, xb, xd, xe]).toArray c) :: rest)) (hz : pre.length ≤ 100)
    (hQ : ∀ h' tk c', Fr h₀ L h' m → News h₀ L h' ((l, W.listOf (pre ++ [xa, xb, xd, xe, xa, xb]).toArray c') :: rest) → Q .none { s with heap := h', toks := tk }) :
    wpAny (model Challenge.rw_fe0236_01.row.prog w) A (call (.ref 97) [.ref l]) Q E s := by
  revert X
  k_fill
  intro X
  refine wpAny_call ?_
  refine code_def B F X N T hA hf hk (by k_is) (by k_is) (Nat.lt_trans hroom (by decide)) (BindsTo.of_eq (binds := [(Str.ofString "stack", .ref l)]) rfl) (locs rfl) ?_ rfl rfl rfl (by decide)
  intro g L' h₁ FG F' N' B' X' T'
  clear F N B X T
  dsimp only
  k_fold
  k_steps
  refine leaveK_ (by with_reducible assumption) (by with_reducible assumption) ?_
  intro hF hN
  exact hQ _ _ _ hF hN
set_option maxHeartbeats 8000000 in
theorem op_2OVER_s {vs : List Value} (hlt : vs.length < 4) (B : Below A₀ base outer h₀) (F : Fr h₀ L s.heap m) (X : (hd.heap_39 w.params).In h₀) (hr : ∀ p ∈ rest, p.1 ≠ l)
    (T : Top hd.view_39 (looseW hd.view_39 []) mean mg mb h₀) (hA : A.frames = some (env :: outer)) (hf : env.frame = some L) (hk : env.scope.kind = .function) (hroom : A.depth < 600) (hh : A.handled = none)
    (N : News h₀ L s.heap ((l, W.listOf vs.toArray c) :: rest))
    (hE : ∀ h' tk e g, Fr h₀ L g m → RaisedX base (env :: outer) e (.type "IndexError") rest h' → g.UpToSlots h' → E (.ref e) { s with heap := h', toks := tk }) :
    wpAny (model Challenge.rw_fe0236_01.row.prog w) A (call (.ref 97) [.ref l]) Q E s := by
  revert X
  k_fill
  intro X
  refine wpAny_call ?_
  refine code_def B F X N T hA hf hk (by k_is) (by k_is) (Nat.lt_trans hroom (by decide)) (BindsTo.of_eq (binds := [(Str.ofString "stack", .ref l)]) rfl) (locs rfl) ?_ rfl rfl rfl (by decide)
  intro g L' h₁ FG F' N' B' X' T'
  clear F N B X T
  dsimp only
  k_fold
  k_steps
  exact hE _ _ _ _ FG (RaisedX.sub (by with_reducible assumption) (fun _ hp => List.mem_cons_of_mem _ hp)) (by with_reducible assumption)
set_option maxHeartbeats 8000000 in
theorem op_2ROT {pre : List Value} {xa xb xd xe xf xg : Value} (B : Below A₀ base outer h₀) (F : Fr h₀ L s.heap m) (X : (hd.heap_39 w.params).In h₀) (hr : ∀ p ∈ rest, p.1 ≠ l)
    (T : Top hd.view_39 (looseW hd.view_39 []) mean mg mb h₀) (hA : A.frames = some (env :: outer)) (hf : env.frame = some L) (hk : env.scope.kind = .function) (hroom : A.depth < 600) (hh : A.handled = none)
    (N : News h₀ L s.heap ((l, W.listOf (pre ++ [xa, xb, xd, xe, xf, xg]).toArray c) :: rest)) (hz : pre.length ≤ 100)
    (hQ : ∀ h' tk c', Fr h₀ L h' m → News h₀ L h' ((l, W.listOf (pre ++ [xd, xe, xf, xg, xa, xb]).toArray c') :: rest) → Q .none { s with heap := h', toks := tk }) :
    wpAny (model Challenge.rw_fe0236_01.row.prog w) A (call (.ref 104) [.ref l]) Q E s := by
  revert X
  k_fill
  intro X
  refine wpAny_call ?_
  refine code_def B F X N T hA hf hk (by k_is) (by k_is) (Nat.lt_trans hroom (by decide)) (BindsTo.of_eq (binds := [(Str.ofString "stack", .ref l)]) rfl) (locs rfl) ?_ rfl rfl rfl (by decide)
  intro g L' h₁ FG F' N' B' X' T'
  clear F N B X T
  dsimp only
  k_fold
  k_steps
  refine leaveK_ (by with_reducible assumption) (by with_reducible assumption) ?_
  intro hF hN
  exact hQ _ _ _ hF hN
set_option maxHeartbeats 8000000 in
theorem op_2ROT_s {vs : List Value} (hlt : vs.length < 6) (B : Below A₀ base outer h₀) (F : Fr h₀ L s.heap m) (X : (hd.heap_39 w.params).In h₀) (hr : ∀ p ∈ rest, p.1 ≠ l)
    (T : Top hd.view_39 (looseW hd.view_39 []) mean mg mb h₀) (hA : A.frames = some (env :: outer)) (hf : env.frame = some L) (hk : env.scope.kind = .function) (hroom : A.depth < 600) (hh : A.handled = none)
    (N : News h₀ L s.heap ((l, W.listOf vs.toArray c) :: rest))
    (hE : ∀ h' tk e g, Fr h₀ L g m → RaisedX base (env :: outer) e (.type "IndexError") rest h' → g.UpToSlots h' → E (.ref e) { s with heap := h', toks := tk }) :
    wpAny (model Challenge.rw_fe0236_01.row.prog w) A (call (.ref 104) [.ref l]) Q E s := by
  revert X
  k_fill
  intro X
  refine wpAny_call ?_
  refine code_def B F X N T hA hf hk (by k_is) (by k_is) (Nat.lt_trans hroom (by decide)) (BindsTo.of_eq (binds := [(Str.ofString "stack", .ref l)]) rfl) (locs rfl) ?_ rfl rfl rfl (by decide)
  intro g L' h₁ FG F' N' B' X' T'
  clear F N B X T
  dsimp only
  k_fold
  k_steps
  exact hE _ _ _ _ FG (RaisedX.sub (by with_reducible assumption) (fun _ hp => List.mem_cons_of_mem _ hp)) (by with_reducible assumption)
set_option maxHeartbeats 8000000 in
theorem op_2SWAP {pre : List Value} {xa xb xd xe : Value} (B : Below A₀ base outer h₀) (F : Fr h₀ L s.heap m) (X : (hd.heap_39 w.params).In h₀) (hr : ∀ p ∈ rest, p.1 ≠ l)
    (T : Top hd.view_39 (looseW hd.view_39 []) mean mg mb h₀) (hA : A.frames = some (env :: outer)) (hf : env.frame = some L) (hk : env.scope.kind = .function) (hroom : A.depth < 600) (hh : A.handled = none)
    (N : News h₀ L s.heap ((l, W.listOf (pre ++ [xa, xb, xd, xe]).toArray c) :: rest)) (hz : pre.length ≤ 100)
    (hQ : ∀ h' tk c', Fr h₀ L h' m → News h₀ L h' ((l, W.listOf (pre ++ [xd, xe, xa, xb]).toArray c') :: rest) → Q .none { s with heap := h', toks := tk }) :
    wpAny (model Challenge.rw_fe0236_01.row.prog w) A (call (.ref 111) [.ref l]) Q E s := by
  revert X
  k_fill
  intro X
  refine wpAny_call ?_
  refine code_def B F X N T hA hf hk (by k_is) (by k_is) (Nat.lt_trans hroom (by decide)) (BindsTo.of_eq (binds := [(Str.ofString "stack", .ref l)]) rfl) (locs rfl) ?_ rfl rfl rfl (by decide)
  intro g L' h₁ FG F' N' B' X' T'
  clear F N B X T
  dsimp only
  k_fold
  k_steps
  refine leaveK_ (by with_reducible assumption) (by with_reducible assumption) ?_
  intro hF hN
  exact hQ _ _ _ hF hN
set_option maxHeartbeats 8000000 in
theorem op_2SWAP_s {vs : List Value} (hlt : vs.length < 4) (B : Below A₀ base outer h₀) (F : Fr h₀ L s.heap m) (X : (hd.heap_39 w.params).In h₀) (hr : ∀ p ∈ rest, p.1 ≠ l)
    (T : Top hd.view_39 (looseW hd.view_39 []) mean mg mb h₀) (hA : A.frames = some (env :: outer)) (hf : env.frame = some L) (hk : env.scope.kind = .function) (hroom : A.depth < 600) (hh : A.handled = none)
    (N : News h₀ L s.heap ((l, W.listOf vs.toArray c) :: rest))
    (hE : ∀ h' tk e g, Fr h₀ L g m → RaisedX base (env :: outer) e (.type "IndexError") rest h' → g.UpToSlots h' → E (.ref e) { s with heap := h', toks := tk }) :
    wpAny (model Challenge.rw_fe0236_01.row.prog w) A (call (.ref 111) [.ref l]) Q E s := by
  revert X
  k_fill
  intro X
  refine wpAny_call ?_
  refine code_def B F X N T hA hf hk (by k_is) (by k_is) (Nat.lt_trans hroom (by decide)) (BindsTo.of_eq (binds := [(Str.ofString "stack", .ref l)]) rfl) (locs rfl) ?_ rfl rfl rfl (by decide)
  intro g L' h₁ FG F' N' B' X' T'
  clear F N B X T
  dsimp only
  k_fold
  k_steps
  exact hE _ _ _ _ FG (RaisedX.sub (by with_reducible assumption) (fun _ hp => List.mem_cons_of_mem _ hp)) (by with_reducible assumption)
set_option maxHeartbeats 8000000 in
theorem op_DROP {pre : List Value} {xa : Value} (B : Below A₀ base outer h₀) (F : Fr h₀ L s.heap m) (X : (hd.heap_39 w.params).In h₀) (hr : ∀ p ∈ rest, p.1 ≠ l)
    (T : Top hd.view_39 (looseW hd.view_39 []) mean mg mb h₀) (hA : A.frames = some (env :: outer)) (hf : env.frame = some L) (hk : env.scope.kind = .function) (hroom : A.depth < 600) (hh : A.handled = none)
    (N : News h₀ L s.heap ((l, W.listOf (pre ++ [xa]).toArray c) :: rest)) (hz : pre.length ≤ 100)
    (hQ : ∀ h' tk c', Fr h₀ L h' m → News h₀ L h' ((l, W.listOf (pre ++ []).toArray c') :: rest) → Q .none { s with heap := h', toks := tk }) :
    wpAny (model Challenge.rw_fe0236_01.row.prog w) A (call (.ref 125) [.ref l]) Q E s := by
  revert X
  k_fill
  intro X
  refine wpAny_call ?_
  refine code_def B F X N T hA hf hk (by k_is) (by k_is) (Nat.lt_trans hroom (by decide)) (BindsTo.of_eq (binds := [(Str.ofString "stack", .ref l)]) rfl) (locs rfl) ?_ rfl rfl rfl (by decide)
  intro g L' h₁ FG F' N' B' X' T'
  clear F N B X T
  dsimp only
  k_fold
  k_steps
  refine leaveK_ (by with_reducible assumption) (by with_reducible assumption) ?_
  intro hF hN
  exact hQ _ _ _ hF hN
set_option maxHeartbeats 8000000 in
theorem op_DROP_s0 (B : Below A₀ base outer h₀) (F : Fr h₀ L s.heap m) (X : (hd.heap_39 w.params).In h₀) (hr : ∀ p ∈ rest, p.1 ≠ l)
    (T : Top hd.view_39 (looseW hd.view_39 []) mean mg mb h₀) (hA : A.frames = some (env :: outer)) (hf : env.frame = some L) (hk : env.scope.kind = .function) (hroom : A.depth < 600) (hh : A.handled = none)
    (N : News h₀ L s.heap ((l, W.listOf ([] : List Value).toArray c) :: rest))
    (hE : ∀ h' tk e g, Fr h₀ L g m → RaisedX base (env :: outer) e (.type "IndexError") rest h' → g.UpToSlots h' → E (.ref e) { s with heap := h', toks := tk }) :
    wpAny (model Challenge.rw_fe0236_01.row.prog w) A (call (.ref 125) [.ref l]) Q E s := by
  revert X
  k_fill
  intro X
  refine wpAny_call ?_
  refine code_def B F X N T hA hf hk (by k_is) (by k_is) (Nat.lt_trans hroom (by decide)) (BindsTo.of_eq (binds := [(Str.ofString "stack", .ref l)]) rfl) (locs rfl) ?_ rfl rfl rfl (by decide)
  intro g L' h₁ FG F' N' B' X' T'
  clear F N B X T
  dsimp only
  k_fold
  k_steps
  exact hE _ _ _ _ FG (RaisedX.sub (by with_reducible assumption) (fun _ hp => List.mem_cons_of_mem _ hp)) (by with_reducible assumption)
set_option maxHeartbeats 8000000 in
theorem op_DUP {pre : List Value} {xa : Value} (B : Below A₀ base outer h₀) (F : Fr h₀ L s.heap m) (X : (hd.heap_39 w.params).In h₀) (hr : ∀ p ∈ rest, p.1 ≠ l)
    (T : Top hd.view_39 (looseW hd.view_39 []) mean mg mb h₀) (hA : A.frames = some (env :: outer)) (hf : env.frame = some L) (hk : env.scope.kind = .function) (hroom : A.depth < 600) (hh : A.handled = none)
    (N : News h₀ L s.heap ((l, W.listOf (pre ++ [xa]).toArray c) :: rest)) (hz : pre.length ≤ 100)
    (hQ : ∀ h' tk c', Fr h₀ L h' m → News h₀ L h' ((l, W.listOf (pre ++ [xa, xa]).toArray c') :: rest) → Q .none { s with heap := h', toks := tk }) :
    wpAny (model Challenge.rw_fe0236_01.row.prog w) A (call (.ref 132) [.ref l]) Q E s := by
  revert X
  k_fill
  intro X
  refine wpAny_call ?_
  refine code_def B F X N T hA hf hk (by k_is) (by k_is) (Nat.lt_trans hroom (by decide)) (BindsTo.of_eq (binds := [(Str.ofString "stack", .ref l)]) rfl) (locs rfl) ?_ rfl rfl rfl (by decide)
  intro g L' h₁ FG F' N' B' X' T'
  clear F N B X T
  dsimp only
  k_fold
  k_steps
  refine leaveK_ (by with_reducible assumption) (by with_reducible assumption) ?_
  intro hF hN
  exact hQ _ _ _ hF hN
set_option maxHeartbeats 8000000 in
theorem op_DUP_s {vs : List Value} (hlt : vs.length < 1) (B : Below A₀ base outer h₀) (F : Fr h₀ L s.heap m) (X : (hd.heap_39 w.params).In h₀) (hr : ∀ p ∈ rest, p.1 ≠ l)
    (T : Top hd.view_39 (looseW hd.view_39 []) mean mg mb h₀) (hA : A.frames = some (env :: outer)) (hf : env.frame = some L) (hk : env.scope.kind = .function) (hroom : A.depth < 600) (hh : A.handled = none)
    (N : News h₀ L s.heap ((l, W.listOf vs.toArray c) :: rest))
    (hE : ∀ h' tk e g, Fr h₀ L g m → RaisedX base (env :: outer) e (.type "IndexError") rest h' → g.UpToSlots h' → E (.ref e) { s with heap := h', toks := tk }) :
    wpAny (model Challenge.rw_fe0236_01.row.prog w) A (call (.ref 132) [.ref l]) Q E s := by
  revert X
  k_fill
  intro X
  refine wpAny_call ?_
  refine code_def B F X N T hA hf hk (by k_is) (by k_is) (Nat.lt_trans hroom (by decide)) (BindsTo.of_eq (binds := [(Str.ofString "stack", .ref l)]) rfl) (locs rfl) ?_ rfl rfl rfl (by decide)
  intro g L' h₁ FG F' N' B' X' T'
  clear F N B X T
  dsimp only
  k_fold
  k_steps
  exact hE _ _ _ _ FG (RaisedX.sub (by with_reducible assumption) (fun _ hp => List.mem_cons_of_mem _ hp)) (by with_reducible assumption)
set_option maxHeartbeats 8000000 in
theorem op_NIP {pre : List Value} {xa xb : Value} (B : Below A₀ base outer h₀) (F : Fr h₀ L s.heap m) (X : (hd.heap_39 w.params).In h₀) (hr : ∀ p ∈ rest, p.1 ≠ l)
    (T : Top hd.view_39 (looseW hd.view_39 []) mean mg mb h₀) (hA : A.frames = some (env :: outer)) (hf : env.frame = some L) (hk : env.scope.kind = .function) (hroom : A.depth < 600) (hh : A.handled = none)
    (N : News h₀ L s.heap ((l, W.listOf (pre ++ [xa, xb]).toArray c) :: rest)) (hz : pre.length ≤ 100)
    (hQ : ∀ h' tk c', Fr h₀ L h' m → News h₀ L h' ((l, W.listOf (pre ++ [xb]).toArray c') :: rest) → Q .none { s with heap := h', toks := tk }) :
    wpAny (model Challenge.rw_fe0236_01.row.prog w) A (call (.ref 139) [.ref l]) Q E s := by
  revert X
  k_fill
  intro X
  refine wpAny_call ?_
  refine code_def B F X N T hA hf hk (by k_is) (by k_is) (Nat.lt_trans hroom (by decide)) (BindsTo.of_eq (binds := [(Str.ofString "stack", .ref l)]) rfl) (locs rfl) ?_ rfl rfl rfl (by decide)
  intro g L' h₁ FG F' N' B' X' T'
  clear F N B X T
  dsimp only
  k_fold
  k_steps
  refine leaveK_ (by with_reducible assumption) (by with_reducible assumption) ?_
  intro hF hN
  exact hQ _ _ _ hF hN
set_option maxHeartbeats 8000000 in
theorem op_NIP_s0 (B : Below A₀ base outer h₀) (F : Fr h₀ L s.heap m) (X : (hd.heap_39 w.params).In h₀) (hr : ∀ p ∈ rest, p.1 ≠ l)
    (T : Top hd.view_39 (looseW hd.view_39 []) mean mg mb h₀) (hA : A.frames = some (env :: outer)) (hf : env.frame = some L) (hk : env.scope.kind = .function) (hroom : A.depth < 600) (hh : A.handled = none)
    (N : News h₀ L s.heap ((l, W.listOf ([] : List Value).toArray c) :: rest))
    (hE : ∀ h' tk e g, Fr h₀ L g m → RaisedX base (env :: outer) e (.type "IndexError") rest h' → g.UpToSlots h' → E (.ref e) { s with heap := h', toks := tk }) :
    wpAny (model Challenge.rw_fe0236_01.row.prog w) A (call (.ref 139) [.ref l]) Q E s := by
  revert X
  k_fill
  intro X
  refine wpAny_call ?_
  refine code_def B F X N T hA hf hk (by k_is) (by k_is) (Nat.lt_trans hroom (by decide)) (BindsTo.of_eq (binds := [(Str.ofString "stack", .ref l)]) rfl) (locs rfl) ?_ rfl rfl rfl (by decide)
  intro g L' h₁ FG F' N' B' X' T'
  clear F N B X T
  dsimp only
  k_fold
  k_steps
  exact hE _ _ _ _ FG (RaisedX.sub (by with_reducible assumption) (fun _ hp => List.mem_cons_of_mem _ hp)) (by with_reducible assumption)
set_option maxHeartbeats 8000000 in
theorem op_NIP_s1 {xa : Value} (B : Below A₀ base outer h₀) (F : Fr h₀ L s.heap m) (X : (hd.heap_39 w.params).In h₀) (hr : ∀ p ∈ rest, p.1 ≠ l)
    (T : Top hd.view_39 (looseW hd.view_39 []) mean mg mb h₀) (hA : A.frames = some (env :: outer)) (hf : env.frame = some L) (hk : env.scope.kind = .function) (hroom : A.depth < 600) (hh : A.handled = none)
    (N : News h₀ L s.heap ((l, W.listOf (([] : List Value) ++ [xa]).toArray c) :: rest))
    (hE : ∀ h' tk e g, Fr h₀ L g m → RaisedX base (env :: outer) e (.type "IndexError") rest h' → g.UpToSlots h' → E (.ref e) { s with heap := h', toks := tk }) :
    wpAny (model Challenge.rw_fe0236_01.row.prog w) A (call (.ref 139) [.ref l]) Q E s := by
  revert X
  k_fill
  intro X
  refine wpAny_call ?_
  refine code_def B F X N T hA hf hk (by k_is) (by k_is) (Nat.lt_trans hroom (by decide)) (BindsTo.of_eq (binds := [(Str.ofString "stack", .ref l)]) rfl) (locs rfl) ?_ rfl rfl rfl (by decide)
  intro g L' h₁ FG F' N' B' X' T'
  clear F N B X T
  dsimp only
  k_fold
  k_steps
  exact hE _ _ _ _ FG (RaisedX.sub (by with_reducible assumption) (fun _ hp => List.mem_cons_of_mem _ hp)) (by with_reducible assumption)
set_option maxHeartbeats 8000000 in
theorem op_OVER {pre : List Value} {xa xb : Value} (B : Below A₀ base outer h₀) (F : Fr h₀ L s.heap m) (X : (hd.heap_39 w.params).In h₀) (hr : ∀ p ∈ rest, p.1 ≠ l)
    (T : Top hd.view_39 (looseW hd.view_39 []) mean mg mb h₀) (hA : A.frames = some (env :: outer)) (hf : env.frame = some L) (hk : env.scope.kind = .function) (hroom : A.depth < 600) (hh : A.handled = none)
    (N : News h₀ L s.heap ((l, W.listOf (pre ++ [xa, xb]).toArray c) :: rest)) (hz : pre.length ≤ 100)
    (hQ : ∀ h' tk c', Fr h₀ L h' m → News h₀ L h' ((l, W.listOf (pre ++ [xa, xb, xa]).toArray c') :: rest) → Q .none { s with heap := h', toks := tk }) :
    wpAny (model Challenge.rw_fe0236_01.row.prog w) A (call (.ref 146) [.ref l]) Q E s := by
  revert X
  k_fill
  intro X
  refine wpAny_call ?_
  refine code_def B F X N T hA hf hk (by k_is) (by k_is) (Nat.lt_trans hroom (by decide)) (BindsTo.of_eq (binds := [(Str.ofString "stack", .ref l)]) rfl) (locs rfl) ?_ rfl rfl rfl (by decide)
  intro g L' h₁ FG F' N' B' X' T'
  clear F N B X T
  dsimp only
  k_fold
  k_steps
  refine leaveK_ (by with_reducible assumption) (by with_reducible assumption) ?_
  intro hF hN
  exact hQ _ _ _ hF hN
set_option maxHeartbeats 8000000 in
theorem op_OVER_s {vs : List Value} (hlt : vs.length < 2) (B : Below A₀ base outer h₀) (F : Fr h₀ L s.heap m) (X : (hd.heap_39 w.params).In h₀) (hr : ∀ p ∈ rest, p.1 ≠ l)
    (T : Top hd.view_39 (looseW hd.view_39 []) mean mg mb h₀) (hA : A.frames = some (env :: outer)) (hf : env.frame = some L) (hk : env.scope.kind = .function) (hroom : A.depth < 600) (hh : A.handled = none)
    (N : News h₀ L s.heap ((l, W.listOf vs.toArray c) :: rest))
    (hE : ∀ h' tk e g, Fr h₀ L g m → RaisedX base (env :: outer) e (.type "IndexError") rest h' → g.UpToSlots h' → E (.ref e) { s with heap := h', toks := tk }) :
    wpAny (model Challenge.rw_fe0236_01.row.prog w) A (call (.ref 146) [.ref l]) Q E s := by
  revert X
  k_fill
  intro X
  refine wpAny_call ?_
  refine code_def B F X N T hA hf hk (by k_is) (by k_is) (Nat.lt_trans hroom (by decide)) (BindsTo.of_eq (binds := [(Str.ofString "stack", .ref l)]) rfl) (locs rfl) ?_ rfl rfl rfl (by decide)
  intro g L' h₁ FG F' N' B' X' T'
  clear F N B X T
  dsimp only
  k_fold
  k_steps
  exact hE _ _ _ _ FG (RaisedX.sub (by with_reducible assumption) (fun _ hp => List.mem_cons_of_mem _ hp)) (by with_reducible assumption)
set_option maxHeartbeats 8000000 in
theorem op_ROT {pre : List Value} {xa xb xd : Value} (B : Below A₀ base outer h₀) (F : Fr h₀ L s.heap m) (X : (hd.heap_39 w.params).In h₀) (hr : ∀ p ∈ rest, p.1 ≠ l)
    (T : Top hd.view_39 (looseW hd.view_39 []) mean mg mb h₀) (hA : A.frames = some (env :: outer)) (hf : env.frame = some L) (hk : env.scope.kind = .function) (hroom : A.depth < 600) (hh : A.handled = none)
    (N : News h₀ L s.heap ((l, W.listOf (pre ++ [xa, xb, xd]).toArray c) :: rest)) (hz : pre.length ≤ 100)
    (hQ : ∀ h' tk c', Fr h₀ L h' m → News h₀ L h' ((l, W.listOf (pre ++ [xb, xd, xa]).toArray c') :: rest) → Q .none { s with heap := h', toks := tk }) :
    wpAny (model Challenge.rw_fe0236_01.row.prog w) A (call (.ref 153) [.ref l]) Q E s := by
  revert X
  k_fill
  intro X
  refine wpAny_call ?_
  refine code_def B F X N T hA hf hk (by k_is) (by k_is) (Nat.lt_trans hroom (by decide)) (BindsTo.of_eq (binds := [(Str.ofString "stack", .ref l)]) rfl) (locs rfl) ?_ rfl rfl rfl (by decide)
  intro g L' h₁ FG F' N' B' X' T'
  clear F N B X T
  dsimp only
  k_fold
  k_steps
  refine leaveK_ (by with_reducible assumption) (by with_reducible assumption) ?_
  intro hF hN
  exact hQ _ _ _ hF hN
set_option maxHeartbeats 8000000 in
theorem op_ROT_s {vs : List Value} (hlt : vs.length < 3) (B : Below A₀ base outer h₀) (F : Fr h₀ L s.heap m) (X : (hd.heap_39 w.params).In h₀) (hr : ∀ p ∈ rest, p.1 ≠ l)
    (T : Top hd.view_39 (looseW hd.view_39 []) mean mg mb h₀) (hA : A.frames = some (env :: outer)) (hf : env.frame = some L) (hk : env.scope.kind = .function) (hroom : A.depth < 600) (hh : A.handled = none)
    (N : News h₀ L s.heap ((l, W.listOf vs.toArray c) :: rest))
    (hE : ∀ h' tk e g, Fr h₀ L g m → RaisedX base (env :: outer) e (.type "IndexError") rest h' → g.UpToSlots h' → E (.ref e) { s with heap := h', toks := tk }) :
    wpAny (model Challenge.rw_fe0236_01.row.prog w) A (call (.ref 153) [.ref l]) Q E s := by
  revert X
  k_fill
  intro X
  refine wpAny_call ?_
  refine code_def B F X N T hA hf hk (by k_is) (by k_is) (Nat.lt_trans hroom (by decide)) (BindsTo.of_eq (binds := [(Str.ofString "stack", .ref l)]) rfl) (locs rfl) ?_ rfl rfl rfl (by decide)
  intro g L' h₁ FG F' N' B' X' T'
  clear F N B X T
  dsimp only
  k_fold
  k_steps
  exact hE _ _ _ _ FG (RaisedX.sub (by with_reducible assumption) (fun _ hp => List.mem_cons_of_mem _ hp)) (by with_reducible assumption)
set_option maxHeartbeats 8000000 in
theorem op_SWAP {pre : List Value} {xa xb : Value} (B : Below A₀ base outer h₀) (F : Fr h₀ L s.heap m) (X : (hd.heap_39 w.params).In h₀) (hr : ∀ p ∈ rest, p.1 ≠ l)
    (T : Top hd.view_39 (looseW hd.view_39 []) mean mg mb h₀) (hA : A.frames = some (env :: outer)) (hf : env.frame = some L) (hk : env.scope.kind = .function) (hroom : A.depth < 600) (hh : A.handled = none)
    (N : News h₀ L s.heap ((l, W.listOf (pre ++ [xa, xb]).toArray c) :: rest)) (hz : pre.length ≤ 100)
    (hQ : ∀ h' tk c', Fr h₀ L h' m → News h₀ L h' ((l, W.listOf (pre ++ [xb, xa]).toArray c') :: rest) → Q .none { s with heap := h', toks := tk }) :
    wpAny (model Challenge.rw_fe0236_01.row.prog w) A (call (.ref 160) [.ref l]) Q E s := by
  revert X
  k_fill
  intro X
  refine wpAny_call ?_
  refine code_def B F X N T hA hf hk (by k_is) (by k_is) (Nat.lt_trans hroom (by decide)) (BindsTo.of_eq (binds := [(Str.ofString "stack", .ref l)]) rfl) (locs rfl) ?_ rfl rfl rfl (by decide)
  intro g L' h₁ FG F' N' B' X' T'
  clear F N B X T
  dsimp only
  k_fold
  k_steps
  refine leaveK_ (by with_reducible assumption) (by with_reducible assumption) ?_
  intro hF hN
  exact hQ _ _ _ hF hN
set_option maxHeartbeats 8000000 in
theorem op_SWAP_s {vs : List Value} (hlt : vs.length < 2) (B : Below A₀ base outer h₀) (F : Fr h₀ L s.heap m) (X : (hd.heap_39 w.params).In h₀) (hr : ∀ p ∈ rest, p.1 ≠ l)
    (T : Top hd.view_39 (looseW hd.view_39 []) mean mg mb h₀) (hA : A.frames = some (env :: outer)) (hf : env.frame = some L) (hk : env.scope.kind = .function) (hroom : A.depth < 600) (hh : A.handled = none)
    (N : News h₀ L s.heap ((l, W.listOf vs.toArray c) :: rest))
    (hE : ∀ h' tk e g, Fr h₀ L g m → RaisedX base (env :: outer) e (.type "IndexError") rest h' → g.UpToSlots h' → E (.ref e) { s with heap := h', toks := tk }) :
    wpAny (model Challenge.rw_fe0236_01.row.prog w) A (call (.ref 160) [.ref l]) Q E s := by
  revert X
  k_fill
  intro X
  refine wpAny_call ?_
  refine code_def B F X N T hA hf hk (by k_is) (by k_is) (Nat.lt_trans hroom (by decide)) (BindsTo.of_eq (binds := [(Str.ofString "stack", .ref l)]) rfl) (locs rfl) ?_ rfl rfl rfl (by decide)
  intro g L' h₁ FG F' N' B' X' T'
  clear F N B X T
  dsimp only
  k_fold
  k_steps
  exact hE _ _ _ _ FG (RaisedX.sub (by with_reducible assumption) (fun _ hp => List.mem_cons_of_mem _ hp)) (by with_reducible assumption)
set_option maxHeartbeats 8000000 in
theorem op_TUCK {pre : List Value} {xa xb : Value} (B : Below A₀ base outer h₀) (F : Fr h₀ L s.heap m) (X : (hd.heap_39 w.params).In h₀) (hr : ∀ p ∈ rest, p.1 ≠ l)
    (T : Top hd.view_39 (looseW hd.view_39 []) mean mg mb h₀) (hA : A.frames = some (env :: outer)) (hf : env.frame = some L) (hk : env.scope.kind = .function) (hroom : A.depth < 600) (hh : A.handled = none)
    (N : News h₀ L s.heap ((l, W.listOf (pre ++ [xa, xb]).toArray c) :: rest)) (hz : pre.length ≤ 100)
    (hQ : ∀ h' tk c', Fr h₀ L h' m → News h₀ L h' ((l, W.listOf (pre ++ [xb, xa, xb]).toArray c') :: rest) → Q .none { s with heap := h', toks := tk }) :
    wpAny (model Challenge.rw_fe0236_01.row.prog w) A (call (.ref 167) [.ref l]) Q E s := by
  revert X
  k_fill
  intro X
  refine wpAny_call ?_
  refine code_def B F X N T hA hf hk (by k_is) (by k_is) (Nat.lt_trans hroom (by decide)) (BindsTo.of_eq (binds := [(Str.ofString "stack", .ref l)]) rfl) (locs rfl) ?_ rfl rfl rfl (by decide)
  intro g L' h₁ FG F' N' B' X' T'
  clear F N B X T
  dsimp only
  k_fold
  k_steps
  refine leaveK_ (by with_reducible assumption) (by with_reducible assumption) ?_
  intro hF hN
  exact hQ _ _ _ hF hN
set_option maxHeartbeats 8000000 in
theorem op_TUCK_s0 (B : Below A₀ base outer h₀) (F : Fr h₀ L s.heap m) (X : (hd.heap_39 w.params).In h₀) (hr : ∀ p ∈ rest, p.1 ≠ l)
    (T : Top hd.view_39 (looseW hd.view_39 []) mean mg mb h₀) (hA : A.frames = some (env :: outer)) (hf : env.frame = some L) (hk : env.scope.kind = .function) (hroom : A.depth < 600) (hh : A.handled = none)
    (N : News h₀ L s.heap ((l, W.listOf ([] : List Value).toArray c) :: rest))
    (hE : ∀ h' tk e g, Fr h₀ L g m → RaisedX base (env :: outer) e (.type "IndexError") rest h' → g.UpToSlots h' → E (.ref e) { s with heap := h', toks := tk }) :
    wpAny (model Challenge.rw_fe0236_01.row.prog w) A (call (.ref 167) [.ref l]) Q E s := by
  revert X
  k_fill
  intro X
  refine wpAny_call ?_
  refine code_def B F X N T hA hf hk (by k_is) (by k_is) (Nat.lt_trans hroom (by decide)) (BindsTo.of_eq (binds := [(Str.ofString "stack", .ref l)]) rfl) (locs rfl) ?_ rfl rfl rfl (by decide)
  intro g L' h₁ FG F' N' B' X' T'
  clear F N B X T
  dsimp only
  k_fold
  k_steps
  exact hE _ _ _ _ FG (RaisedX.sub (by with_reducible assumption) (fun _ hp => List.mem_cons_of_mem _ hp)) (by with_reducible assumption)
set_option maxHeartbeats 8000000 in
theorem op_TUCK_s1 {xa : Value} (B : Below A₀ base outer h₀) (F : Fr h₀ L s.heap m) (X : (hd.heap_39 w.params).In h₀) (hr : ∀ p ∈ rest, p.1 ≠ l)
    (T : Top hd.view_39 (looseW hd.view_39 []) mean mg mb h₀) (hA : A.frames = some (env :: outer)) (hf : env.frame = some L) (hk : env.scope.kind = .function) (hroom : A.depth < 600) (hh : A.handled = none)
    (N : News h₀ L s.heap ((l, W.listOf (([] : List Value) ++ [xa]).toArray c) :: rest))
    (hE : ∀ h' tk e g, Fr h₀ L g m → RaisedX base (env :: outer) e (.type "IndexError") rest h' → g.UpToSlots h' → E (.ref e) { s with heap := h', toks := tk }) :
    wpAny (model Challenge.rw_fe0236_01.row.prog w) A (call (.ref 167) [.ref l]) Q E s := by
  revert X
  k_fill
  intro X
  refine wpAny_call ?_
  refine code_def B F X N T hA hf hk (by k_is) (by k_is) (Nat.lt_trans hroom (by decide)) (BindsTo.of_eq (binds := [(Str.ofString "stack", .ref l)]) rfl) (locs rfl) ?_ rfl rfl rfl (by decide)
  intro g L' h₁ FG F' N' B' X' T'
  clear F N B X T
  dsimp only
  k_fold
  k_steps
  exact hE _ _ _ _ FG (RaisedX.sub (by with_reducible assumption) (fun _ hp => List.mem_cons_of_mem _ hp)) (by with_reducible assumption)
set_option maxHeartbeats 8000000 in
theorem op_IFDUP {pre : List Value} {b : Array UInt8} {t : Tok} (hbs : b.size ≤ 100) (B : Below A₀ base outer h₀) (F : Fr h₀ L s.heap m) (X : (hd.heap_39 w.params).In h₀) (hr : ∀ p ∈ rest, p.1 ≠ l)
    (T : Top hd.view_39 (looseW hd.view_39 []) mean mg mb h₀) (hA : A.frames = some (env :: outer)) (hf : env.frame = some L) (hk : env.scope.kind = .function) (hroom : A.depth < 600) (hh : A.handled = none)
    (N : News h₀ L s.heap ((l, W.listOf (pre ++ [Value.bytes b t]).toArray c) :: rest)) (hz : pre.length ≤ 100)
    (hQe : b.size = 0 → ∀ h' tk c', Fr h₀ L h' m → News h₀ L h' ((l, W.listOf (pre ++ [Value.bytes b t]).toArray c') :: rest) → Q .none { s with heap := h', toks := tk })
    (hQn : b.size ≠ 0 → ∀ h' tk c', Fr h₀ L h' m → News h₀ L h' ((l, W.listOf (pre ++ [Value.bytes b t, Value.bytes b t]).toArray c') :: rest) → Q .none { s with heap := h', toks := tk }) :
    wpAny (model Challenge.rw_fe0236_01.row.prog w) A (call (.ref 118) [.ref l]) Q E s := by
  revert X
  k_fill
  intro X
  refine wpAny_call ?_
  refine code_def B F X N T hA hf hk (by k_is) (by k_is) (Nat.lt_trans hroom (by decide)) (BindsTo.of_eq (binds := [(Str.ofString "stack", .ref l)]) rfl) (locs rfl) ?_ rfl rfl rfl (by decide)
  intro g L' h₁ FG F' N' B' X' T'
  clear F N B X T
  dsimp only
  k_fold
  k_steps
  all_goals refine leaveK_ (by with_reducible assumption) (by with_reducible assumption) ?_
  all_goals intro hF hN
  all_goals first | exact hQe (by omega) _ _ _ hF hN | exact hQn (by omega) _ _ _ hF hN
set_option maxHeartbeats 8000000 in
theorem op_IFDUP_s {vs : List Value} (hlt : vs.length < 1) (B : Below A₀ base outer h₀) (F : Fr h₀ L s.heap m) (X : (hd.heap_39 w.params).In h₀) (hr : ∀ p ∈ rest, p.1 ≠ l)
    (T : Top hd.view_39 (looseW hd.view_39 []) mean mg mb h₀) (hA : A.frames = some (env :: outer)) (hf : env.frame = some L) (hk : env.scope.kind = .function) (hroom : A.depth < 600) (hh : A.handled = none)
    (N : News h₀ L s.heap ((l, W.listOf vs.toArray c) :: rest))
    (hE : ∀ h' tk e g, Fr h₀ L g m → RaisedX base (env :: outer) e (.type "IndexError") rest h' → g.UpToSlots h' → E (.ref e) { s with heap := h', toks := tk }) :
    wpAny (model Challenge.rw_fe0236_01.row.prog w) A (call (.ref 118) [.ref l]) Q E s := by
  revert X
  k_fill
  intro X
  refine wpAny_call ?_
  refine code_def B F X N T hA hf hk (by k_is) (by k_is) (Nat.lt_trans hroom (by decide)) (BindsTo.of_eq (binds := [(Str.ofString "stack", .ref l)]) rfl) (locs rfl) ?_ rfl rfl rfl (by decide)
  intro g L' h₁ FG F' N' B' X' T'
  clear F N B X T
  dsimp only
  k_fold
  k_steps
  exact hE _ _ _ _ FG (RaisedX.sub (by with_reducible assumption) (fun _ hp => List.mem_cons_of_mem _ hp)) (by with_reducible assumption)
set_option maxHeartbeats 8000000 in
theorem op_NOP {vs : List Value} (B : Below A₀ base outer h₀) (F : Fr h₀ L s.heap m) (X : (hd.heap_39 w.params).In h₀) (hr : ∀ p ∈ rest, p.1 ≠ l)
    (T : Top hd.view_39 (looseW hd.view_39 []) mean mg mb h₀) (hA : A.frames = some (env :: outer)) (hf : env.frame = some L) (hk : env.scope.kind = .function) (hroom : A.depth < 600) (hh : A.handled = none)
    (N : News h₀ L s.heap ((l, W.listOf vs.toArray c) :: rest))
    (hQ : ∀ h' tk c', Fr h₀ L h' m → News h₀ L h' ((l, W.listOf vs.toArray c') :: rest) → Q .none { s with heap := h', toks := tk }) :
    wpAny (model Challenge.rw_fe0236_01.row.prog w) A (call (.ref 41) [.ref l]) Q E s := by
  revert X
  k_fill
  intro X
  refine wpAny_call ?_
  refine code_def B F X N T hA hf hk (by k_is) (by k_is) (Nat.lt_trans hroom (by decide)) (BindsTo.of_eq (binds := [(Str.ofString "s", .ref l)]) rfl) (locs rfl) ?_ rfl rfl rfl (by decide)
  intro g L' h₁ FG F' N' B' X' T'
  clear F N B X T
  dsimp only
  k_fold
  k_steps
  refine leaveK_ (by with_reducible assumption) (by with_reducible assumption) ?_
  intro hF hN
  exact hQ _ _ _ hF hN
end
end Mine
namespace Mine
/-- how many items word k needs -/
def need (k : Nat) : Nat := [2, 2, 3, 4, 6, 4, 1, 1, 1, 2, 2, 3, 2, 2, 0].getD k 0
/-- where the def of word k lies -/
def fnAddr (k : Nat) : Nat := [76, 83, 90, 97, 104, 111, 118, 125, 132, 139, 146, 153, 160, 167, 41].getD k 0
def lastEmpty (vs : List Value) : Bool := match vs.getLast? with
  | some (.bytes b _) => b.size == 0
  | _ => false
/-- the part from i up to j, counted from the end -/
def part (vs : List Value) (i j : Nat) : List Value := (vs.drop (vs.length - i)).take (i - j)
def upTo (vs : List Value) (i : Nat) : List Value := vs.take (vs.length - i)
def fromEnd (vs : List Value) (i : Nat) : List Value := vs.drop (vs.length - i)
/-- what word k leaves -/
def opf (k : Nat) (vs : List Value) : List Value := match k with
  | 0 => upTo vs 2
  | 1 => vs ++ fromEnd vs 2
  | 2 => vs ++ fromEnd vs 3
  | 3 => vs ++ part vs 4 2
  | 4 => upTo vs 6 ++ fromEnd vs 4 ++ part vs 6 4
  | 5 => upTo vs 4 ++ fromEnd vs 2 ++ part vs 4 2
  | 6 => if lastEmpty vs then vs else vs ++ fromEnd vs 1
  | 7 => upTo vs 1
  | 8 => vs ++ fromEnd vs 1
  | 9 => upTo vs 2 ++ fromEnd vs 1
  | 10 => vs ++ part vs 2 1
  | 11 => upTo vs 3 ++ fromEnd vs 2 ++ part vs 3 2
  | 12 => upTo vs 2 ++ fromEnd vs 1 ++ part vs 2 1
  | 13 => upTo vs 2 ++ fromEnd vs 1 ++ fromEnd vs 2
  | _ => vs
theorem upTo_pre (pre xs : List Value) (n : Nat) (h : n ≤ xs.length) : upTo (pre ++ xs) n = pre ++ xs.take (xs.length - n) := by
  unfold upTo
  rw [List.length_append, show pre.length + xs.length - n = pre.length + (xs.length - n) from by omega, List.take_length_add_append]
theorem fromEnd_pre (pre xs : List Value) (n : Nat) (h : n ≤ xs.length) : fromEnd (pre ++ xs) n = xs.drop (xs.length - n) := by
  unfold fromEnd
  rw [List.length_append, show pre.length + xs.length - n = pre.length + (xs.length - n) from by omega, List.drop_length_add_append]
theorem part_pre (pre xs : List Value) (n k : Nat) (h : n ≤ xs.length) : part (pre ++ xs) n k = (xs.drop (xs.length - n)).take (n - k) := by
  unfold part
  rw [List.length_append, show pre.length + xs.length - n = pre.length + (xs.length - n) from by omega, List.drop_length_add_append]
theorem split_end (vs : List Value) (n : Nat) (h : n ≤ vs.length) : ∃ pre xs, vs = pre ++ xs ∧ xs.length = n ∧ pre.length ≤ vs.length :=
  ⟨vs.take (vs.length - n), vs.drop (vs.length - n), (List.take_append_drop _ _).symm, by rw [List.length_drop]; omega, by rw [List.length_take]; omega⟩
theorem len1 {xs : List Value} (h : xs.length = 1) : ∃ a, xs = [a] := by
  match xs, h with
  | [a], _ => exact ⟨a, rfl⟩
theorem len2 {xs : List Value} (h : xs.length = 2) : ∃ a b, xs = [a, b] := by
  match xs, h with
  | [a, b], _ => exact ⟨a, b, rfl⟩
theorem len3 {xs : List Value} (h : xs.length = 3) : ∃ a b c, xs = [a, b, c] := by
  match xs, h with
  | [a, b, c], _ => exact ⟨a, b, c, rfl⟩
theorem len4 {xs : List Value} (h : xs.length = 4) : ∃ a b c d, xs = [a, b, c, d] := by
  match xs, h with
  | [a, b, c, d], _ => exact ⟨a, b, c, d, rfl⟩
theorem len6 {xs : List Value} (h : xs.length = 6) : ∃ a b c d e f, xs = [a, b, c, d, e, f] := by
  match xs, h with
  | [a, b, c, d, e, f], _ => exact ⟨a, b, c, d, e, f, rfl⟩
/-- a list of bytes, each short -/
def BY (vs : List Value) : Prop := ∀ v ∈ vs, ∃ b t, v = Value.bytes b t ∧ b.size ≤ 6
section
variable {w : World} {mg mb : Str → Option Value} {mean : ExcName → Option Value} {A₀ A : Around} {E : Value → Shared → Prop} {s : Shared} {base h₀ : Heap} {outer : List Env} {L l : Addr} {m : Str → Option Value} {rest : List (Addr × Obj)} {env : Env} {c : Nat} {Q : Value → Shared → Prop}
theorem op_any (k : Nat) (hk15 : k < 15) {vs : List Value} (B : Below A₀ base outer h₀) (F : Fr h₀ L s.heap m) (X : (hd.heap_39 w.params).In h₀) (hr : ∀ p ∈ rest, p.1 ≠ l)
    (T : Top hd.view_39 (looseW hd.view_39 []) mean mg mb h₀) (hA : A.frames = some (env :: outer)) (hf : env.frame = some L) (hk : env.scope.kind = .function) (hroom : A.depth < 600) (hh : A.handled = none)
    (N : News h₀ L s.heap ((l, W.listOf vs.toArray c) :: rest)) (hz : vs.length ≤ 100) (hb : BY vs)
    (hQ : need k ≤ vs.length → ∀ h' tk c', Fr h₀ L h' m → News h₀ L h' ((l, W.listOf (opf k vs).toArray c') :: rest) → Q .none { s with heap := h', toks := tk })
    (hE : vs.length < need k → ∀ h' tk e g, Fr h₀ L g m → RaisedX base (env :: outer) e (.type "IndexError") rest h' → g.UpToSlots h' → E (.ref e) { s with heap := h', toks := tk }) :
    wpAny (model Challenge.rw_fe0236_01.row.prog w) A (call (.ref (fnAddr k)) [.ref l]) Q E s := by
  have hcase : k = 0 ∨ k = 1 ∨ k = 2 ∨ k = 3 ∨ k = 4 ∨ k = 5 ∨ k = 6 ∨ k = 7 ∨ k = 8 ∨ k = 9 ∨ k = 10 ∨ k = 11 ∨ k = 12 ∨ k = 13 ∨ k = 14 := by omega
  rcases hcase with rfl | rfl | rfl | rfl | rfl | rfl | rfl | rfl | rfl | rfl | rfl | rfl | rfl | rfl | rfl
  · by_cases hlen : 2 ≤ vs.length
    · obtain ⟨pre, xs, rfl, hx, hp⟩ := split_end vs 2 hlen
      obtain ⟨a, b, rfl⟩ := len2 hx
      refine op_2DROP B F X hr T hA hf hk hroom hh N (Nat.le_trans hp hz) (fun h' tk c' F' N' => hQ hlen h' tk c' F' ?_)
      have e : opf 0 (pre ++ [a, b]) = pre ++ [] := by simp only [opf, upTo_pre, fromEnd_pre, part_pre, List.length_cons, List.length_nil, List.append_assoc, Nat.reduceAdd, Nat.reduceSub, Nat.reduceLeDiff, Nat.le_refl, List.take, List.drop, List.cons_append, List.nil_append]
      rw [e]; exact N'
    · rcases vs with _ | ⟨a, _ | ⟨b, r⟩⟩
      · exact op_2DROP_s0 B F X hr T hA hf hk hroom hh N (hE (by decide))
      · exact op_2DROP_s1 (xa := a) B F X hr T hA hf hk hroom hh N (hE (show 1 < need 0 by decide))
      · exact absurd (by simp) hlen
  · by_cases hlen : 2 ≤ vs.length
    · obtain ⟨pre, xs, rfl, hx, hp⟩ := split_end vs 2 hlen
      obtain ⟨a, b, rfl⟩ := len2 hx
      refine op_2DUP B F X hr T hA hf hk hroom hh N (Nat.le_trans hp hz) (fun h' tk c' F' N' => hQ hlen h' tk c' F' ?_)
      have e : opf 1 (pre ++ [a, b]) = pre ++ [a, b, a, b] := by simp only [opf, upTo_pre, fromEnd_pre, part_pre, List.length_cons, List.length_nil, List.append_assoc, Nat.reduceAdd, Nat.reduceSub, Nat.reduceLeDiff, Nat.le_refl, List.take, List.drop, List.cons_append, List.nil_append]
      rw [e]; exact N'
    · exact op_2DUP_s (Nat.lt_of_not_le hlen) B F X hr T hA hf hk hroom hh N (hE (Nat.lt_of_not_le hlen))
  · by_cases hlen : 3 ≤ vs.length
    · obtain ⟨pre, xs, rfl, hx, hp⟩ := split_end vs 3 hlen
      obtain ⟨a, b, c, rfl⟩ := len3 hx
      refine op_3DUP B F X hr T hA hf hk hroom hh N (Nat.le_trans hp hz) (fun h' tk c' F' N' => hQ hlen h' tk c' F' ?_)
      have e : opf 2 (pre ++ [a, b, c]) = pre ++ [a, b, c, a, b, c] := by simp only [opf, upTo_pre, fromEnd_pre, part_pre, List.length_cons, List.length_nil, List.append_assoc, Nat.reduceAdd, Nat.reduceSub, Nat.reduceLeDiff, Nat.le_refl, List.take, List.drop, List.cons_append, List.nil_append]
      rw [e]; exact N'
    · exact op_3DUP_s (Nat.lt_of_not_le hlen) B F X hr T hA hf hk hroom hh N (hE (Nat.lt_of_not_le hlen))
  · by_cases hlen : 4 ≤ vs.length
    · obtain ⟨pre, xs, rfl, hx, hp⟩ := split_end vs 4 hlen
      obtain ⟨a, b, c, d, rfl⟩ := len4 hx
      refine op_2OVER B F X hr T hA hf hk hroom hh N (Nat.le_trans hp hz) (fun h' tk c' F' N' => hQ hlen h' tk c' F' ?_)
      have e : opf 3 (pre ++ [a, b, c, d]) = pre ++ [a, b, c, d, a, b] := by simp only [opf, upTo_pre, fromEnd_pre, part_pre, List.length_cons, List.length_nil, List.append_assoc, Nat.reduceAdd, Nat.reduceSub, Nat.reduceLeDiff, Nat.le_refl, List.take, List.drop, List.cons_append, List.nil_append]
      rw [e]; exact N'
    · exact op_2OVER_s (Nat.lt_of_not_le hlen) B F X hr T hA hf hk hroom hh N (hE (Nat.lt_of_not_le hlen))
  · by_cases hlen : 6 ≤ vs.length
    · obtain ⟨pre, xs, rfl, hx, hp⟩ := split_end vs 6 hlen
      obtain ⟨a, b, c, d, e, f, rfl⟩ := len6 hx
      refine op_2ROT B F X hr T hA hf hk hroom hh N (Nat.le_trans hp hz) (fun h' tk c' F' N' => hQ hlen h' tk c' F' ?_)
      have e : opf 4 (pre ++ [a, b, c, d, e, f]) = pre ++ [c, d, e, f, a, b] := by simp only [opf, upTo_pre, fromEnd_pre, part_pre, List.length_cons, List.length_nil, List.append_assoc, Nat.reduceAdd, Nat.reduceSub, Nat.reduceLeDiff, Nat.le_refl, List.take, List.drop, List.cons_append, List.nil_append]
      rw [e]; exact N'
    · exact op_2ROT_s (Nat.lt_of_not_le hlen) B F X hr T hA hf hk hroom hh N (hE (Nat.lt_of_not_le hlen))
  · by_cases hlen : 4 ≤ vs.length
    · obtain ⟨pre, xs, rfl, hx, hp⟩ := split_end vs 4 hlen
      obtain ⟨a, b, c, d, rfl⟩ := len4 hx
      refine op_2SWAP B F X hr T hA hf hk hroom hh N (Nat.le_trans hp hz) (fun h' tk c' F' N' => hQ hlen h' tk c' F' ?_)
      have e : opf 5 (pre ++ [a, b, c, d]) = pre ++ [c, d, a, b] := by simp only [opf, upTo_pre, fromEnd_pre, part_pre, List.length_cons, List.length_nil, List.append_assoc, Nat.reduceAdd, Nat.reduceSub, Nat.reduceLeDiff, Nat.le_refl, List.take, List.drop, List.cons_append, List.nil_append]
      rw [e]; exact N'
    · exact op_2SWAP_s (Nat.lt_of_not_le hlen) B F X hr T hA hf hk hroom hh N (hE (Nat.lt_of_not_le hlen))
  · by_cases hlen : 1 ≤ vs.length
    · obtain ⟨pre, xs, rfl, hx, hp⟩ := split_end vs 1 hlen
      obtain ⟨a, rfl⟩ := len1 hx
      obtain ⟨b, t, rfl, hbs⟩ := hb a (by simp)
      refine op_IFDUP (Nat.le_trans hbs (by decide)) B F X hr T hA hf hk hroom hh N (Nat.le_trans hp hz) (fun he h' tk c' F' N' => hQ hlen h' tk c' F' ?_) (fun he h' tk c' F' N' => hQ hlen h' tk c' F' ?_)
      · have e : opf 6 (pre ++ [Value.bytes b t]) = pre ++ [Value.bytes b t] := by simp [opf, lastEmpty, he]
        rw [e]; exact N'
      · have e : opf 6 (pre ++ [Value.bytes b t]) = pre ++ [Value.bytes b t, Value.bytes b t] := by simp [opf, lastEmpty, he, fromEnd_pre]
        rw [e]; exact N'
    · exact op_IFDUP_s (Nat.lt_of_not_le hlen) B F X hr T hA hf hk hroom hh N (hE (Nat.lt_of_not_le hlen))
  · by_cases hlen : 1 ≤ vs.length
    · obtain ⟨pre, xs, rfl, hx, hp⟩ := split_end vs 1 hlen
      obtain ⟨a, rfl⟩ := len1 hx
      refine op_DROP B F X hr T hA hf hk hroom hh N (Nat.le_trans hp hz) (fun h' tk c' F' N' => hQ hlen h' tk c' F' ?_)
      have e : opf 7 (pre ++ [a]) = pre ++ [] := by simp only [opf, upTo_pre, fromEnd_pre, part_pre, List.length_cons, List.length_nil, List.append_assoc, Nat.reduceAdd, Nat.reduceSub, Nat.reduceLeDiff, Nat.le_refl, List.take, List.drop, List.cons_append, List.nil_append]
      rw [e]; exact N'
    · have hv : vs = [] := by cases vs with | nil => rfl | cons _ _ => simp at hlen
      subst hv
      exact op_DROP_s0 B F X hr T hA hf hk hroom hh N (hE (by decide))
  · by_cases hlen : 1 ≤ vs.length
    · obtain ⟨pre, xs, rfl, hx, hp⟩ := split_end vs 1 hlen
      obtain ⟨a, rfl⟩ := len1 hx
      refine op_DUP B F X hr T hA hf hk hroom hh N (Nat.le_trans hp hz) (fun h' tk c' F' N' => hQ hlen h' tk c' F' ?_)
      have e : opf 8 (pre ++ [a]) = pre ++ [a, a] := by simp only [opf, upTo_pre, fromEnd_pre, part_pre, List.length_cons, List.length_nil, List.append_assoc, Nat.reduceAdd, Nat.reduceSub, Nat.reduceLeDiff, Nat.le_refl, List.take, List.drop, List.cons_append, List.nil_append]
      rw [e]; exact N'
    · exact op_DUP_s (Nat.lt_of_not_le hlen) B F X hr T hA hf hk hroom hh N (hE (Nat.lt_of_not_le hlen))
  · by_cases hlen : 2 ≤ vs.length
    · obtain ⟨pre, xs, rfl, hx, hp⟩ := split_end vs 2 hlen
      obtain ⟨a, b, rfl⟩ := len2 hx
      refine op_NIP B F X hr T hA hf hk hroom hh N (Nat.le_trans hp hz) (fun h' tk c' F' N' => hQ hlen h' tk c' F' ?_)
      have e : opf 9 (pre ++ [a, b]) = pre ++ [b] := by simp only [opf, upTo_pre, fromEnd_pre, part_pre, List.length_cons, List.length_nil, List.append_assoc, Nat.reduceAdd, Nat.reduceSub, Nat.reduceLeDiff, Nat.le_refl, List.take, List.drop, List.cons_append, List.nil_append]
      rw [e]; exact N'
    · rcases vs with _ | ⟨a, _ | ⟨b, r⟩⟩
      · exact op_NIP_s0 B F X hr T hA hf hk hroom hh N (hE (by decide))
      · exact op_NIP_s1 (xa := a) B F X hr T hA hf hk hroom hh N (hE (show 1 < need 9 by decide))
      · exact absurd (by simp) hlen
  · by_cases hlen : 2 ≤ vs.length
    · obtain ⟨pre, xs, rfl, hx, hp⟩ := split_end vs 2 hlen
      obtain ⟨a, b, rfl⟩ := len2 hx
      refine op_OVER B F X hr T hA hf hk hroom hh N (Nat.le_trans hp hz) (fun h' tk c' F' N' => hQ hlen h' tk c' F' ?_)
      have e : opf 10 (pre ++ [a, b]) = pre ++ [a, b, a] := by simp only [opf, upTo_pre, fromEnd_pre, part_pre, List.length_cons, List.length_nil, List.append_assoc, Nat.reduceAdd, Nat.reduceSub, Nat.reduceLeDiff, Nat.le_refl, List.take, List.drop, List.cons_append, List.nil_append]
      rw [e]; exact N'
    · exact op_OVER_s (Nat.lt_of_not_le hlen) B F X hr T hA hf hk hroom hh N (hE (Nat.lt_of_not_le hlen))
  · by_cases hlen : 3 ≤ vs.length
    · obtain ⟨pre, xs, rfl, hx, hp⟩ := split_end vs 3 hlen
      obtain ⟨a, b, c, rfl⟩ := len3 hx
      refine op_ROT B F X hr T hA hf hk hroom hh N (Nat.le_trans hp hz) (fun h' tk c' F' N' => hQ hlen h' tk c' F' ?_)
      have e : opf 11 (pre ++ [a, b, c]) = pre ++ [b, c, a] := by simp only [opf, upTo_pre, fromEnd_pre, part_pre, List.length_cons, List.length_nil, List.append_assoc, Nat.reduceAdd, Nat.reduceSub, Nat.reduceLeDiff, Nat.le_refl, List.take, List.drop, List.cons_append, List.nil_append]
      rw [e]; exact N'
    · exact op_ROT_s (Nat.lt_of_not_le hlen) B F X hr T hA hf hk hroom hh N (hE (Nat.lt_of_not_le hlen))
  · by_cases hlen : 2 ≤ vs.length
    · obtain ⟨pre, xs, rfl, hx, hp⟩ := split_end vs 2 hlen
      obtain ⟨a, b, rfl⟩ := len2 hx
      refine op_SWAP B F X hr T hA hf hk hroom hh N (Nat.le_trans hp hz) (fun h' tk c' F' N' => hQ hlen h' tk c' F' ?_)
      have e : opf 12 (pre ++ [a, b]) = pre ++ [b, a] := by simp only [opf, upTo_pre, fromEnd_pre, part_pre, List.length_cons, List.length_nil, List.append_assoc, Nat.reduceAdd, Nat.reduceSub, Nat.reduceLeDiff, Nat.le_refl, List.take, List.drop, List.cons_append, List.nil_append]
      rw [e]; exact N'
    · exact op_SWAP_s (Nat.lt_of_not_le hlen) B F X hr T hA hf hk hroom hh N (hE (Nat.lt_of_not_le hlen))
  · by_cases hlen : 2 ≤ vs.length
    · obtain ⟨pre, xs, rfl, hx, hp⟩ := split_end vs 2 hlen
      obtain ⟨a, b, rfl⟩ := len2 hx
      refine op_TUCK B F X hr T hA hf hk hroom hh N (Nat.le_trans hp hz) (fun h' tk c' F' N' => hQ hlen h' tk c' F' ?_)
      have e : opf 13 (pre ++ [a, b]) = pre ++ [b, a, b] := by simp only [opf, upTo_pre, fromEnd_pre, part_pre, List.length_cons, List.length_nil, List.append_assoc, Nat.reduceAdd, Nat.reduceSub, Nat.reduceLeDiff, Nat.le_refl, List.take, List.drop, List.cons_append, List.nil_append]
      rw [e]; exact N'
    · rcases vs with _ | ⟨a, _ | ⟨b, r⟩⟩
      · exact op_TUCK_s0 B F X hr T hA hf hk hroom hh N (hE (by decide))
      · exact op_TUCK_s1 (xa := a) B F X hr T hA hf hk hroom hh N (hE (show 1 < need 13 by decide))
      · exact absurd (by simp) hlen
  · exact op_NOP B F X hr T hA hf hk hroom hh N (hQ (Nat.zero_le _))
end
end Mine
namespace Mine
def WORDS : List Str := [Str.ofString "2DROP", Str.ofString "2DUP", Str.ofString "3DUP", Str.ofString "2OVER", Str.ofString "2ROT", Str.ofString "2SWAP", Str.ofString "IFDUP", Str.ofString "DROP", Str.ofString "DUP", Str.ofString "NIP", Str.ofString "OVER", Str.ofString "ROT", Str.ofString "SWAP", Str.ofString "TUCK", Str.ofString "NOP"]
def wordAt (k : Nat) : Str := WORDS.getD k Str.empty
theorem words_are {t0 t1 t2 t3 t4 t5 t6 t7 t8 t9 t10 t11 t12 t13 t14 : Tok} : StrsAre [Value.str (Str.ofString "2DROP") t0, Value.str (Str.ofString "2DUP") t1, Value.str (Str.ofString "3DUP") t2, Value.str (Str.ofString "2OVER") t3, Value.str (Str.ofString "2ROT") t4, Value.str (Str.ofString "2SWAP") t5, Value.str (Str.ofString "IFDUP") t6, Value.str (Str.ofString "DROP") t7, Value.str (Str.ofString "DUP") t8, Value.str (Str.ofString "NIP") t9, Value.str (Str.ofString "OVER") t10, Value.str (Str.ofString "ROT") t11, Value.str (Str.ofString "SWAP") t12, Value.str (Str.ofString "TUCK") t13, Value.str (Str.ofString "NOP") t14] WORDS :=
  .cons _ _ (.cons _ _ (.cons _ _ (.cons _ _ (.cons _ _ (.cons _ _ (.cons _ _ (.cons _ _ (.cons _ _ (.cons _ _ (.cons _ _ (.cons _ _ (.cons _ _ (.cons _ _ (.cons _ _ (.nil)))))))))))))))
theorem words_at {k : Nat} (h : k < 15) : WORDS[k]? = some (wordAt k) := by
  unfold wordAt
  rw [List.getD_eq_getElem?_getD]
  have : k < WORDS.length := h
  rw [List.getElem?_eq_getElem this]
  rfl
theorem words_apart : ∀ k : Nat, k < 15 → ∀ i : Nat, i < k → WORDS[i]? ≠ WORDS[k]? := by decide +kernel
theorem fifteen {P : Nat → Prop} (h0 : P 0) (h1 : P 1) (h2 : P 2) (h3 : P 3) (h4 : P 4) (h5 : P 5) (h6 : P 6) (h7 : P 7) (h8 : P 8) (h9 : P 9) (h10 : P 10) (h11 : P 11) (h12 : P 12) (h13 : P 13) (h14 : P 14) (k : Nat) (hk : k < 15) : P k := by
  have hcase : k = 0 ∨ k = 1 ∨ k = 2 ∨ k = 3 ∨ k = 4 ∨ k = 5 ∨ k = 6 ∨ k = 7 ∨ k = 8 ∨ k = 9 ∨ k = 10 ∨ k = 11 ∨ k = 12 ∨ k = 13 ∨ k = 14 := by omega
  rcases hcase with rfl | rfl | rfl | rfl | rfl | rfl | rfl | rfl | rfl | rfl | rfl | rfl | rfl | rfl | rfl <;> assumption
section
variable {prog : Program} {w : World} {A : Around} {E : Value → Shared → Prop} {s : Shared} {h₀ : Heap} {L D : Addr} {m : Str → Option Value} {news : List (Addr × Obj)} {n : Nat} {Q : Value → Shared → Prop}
theorem strs_get {vs : List Value} {ys : List Str} (hi : StrsAre vs ys) : ∀ i : Nat, ∀ y, ys[i]? = some y → ∃ t, vs[i]? = some (.str y t) := by
  induction hi with
  | nil => intro i y h; simp at h
  | cons z t r ih =>
    intro i y h
    cases i with
    | zero => exact ⟨t, by simp at h; subst h; rfl⟩
    | succ i => simpa using ih i y (by simpa using h)
theorem strs_len {vs : List Value} {ys : List Str} (hi : StrsAre vs ys) : vs.length = ys.length := by
  induction hi with
  | nil => rfl
  | cons z t r ih => simp [ih]
theorem r_index {vs : List Value} {ys : List Str} {x : Str} {t : Tok} {j : Nat} (N : News h₀ L s.heap news) (hm : (D, W.listOf vs.toArray n) ∈ news) (hi : StrsAre vs ys) (hx : ys[j]? = some x) (hno : ∀ i : Nat, i < j → ys[i]? ≠ some x) (hz : ys.length ≤ 1000)
    (h : Q (.int (j : Int) s.toks) { s with toks := s.toks + 1 }) : wpAny (model prog w) A (call (.builtin "list.index") [.ref D, .str x t]) Q E s := by
  have hl := strs_len hi
  have hj : j < ys.length := (List.getElem?_eq_some_iff.mp hx).1
  refine call_meets PySem.F.slot_list_index ⟨_, (N _ hm).1, rfl⟩ PySem.F.entry_list_index (PySem.F.args_list_index_2 _ _)
    (MeetsSeq.list_index D vs.toArray n (.str x t) (isStrOf x) (fun y hy => eq_isStrOf x t hi y (by simpa using hy)) j (by simp; omega) (by omega) ?_ ?_) ⟨(N _ hm).1, h⟩
  · obtain ⟨u, hu⟩ := strs_get hi j x hx
    have : vs.toArray[j]? = some (Value.str x u) := by simpa using hu
    obtain ⟨_, e⟩ := Array.getElem?_eq_some_iff.mp this
    rw [e]; simp [isStrOf]
  · intro i hi' hlt
    have hi'' : i < ys.length := by simp at hi'; omega
    obtain ⟨u, hu⟩ := strs_get hi i (ys[i]) (List.getElem?_eq_getElem hi'')
    have : vs.toArray[i]? = some (Value.str ys[i] u) := by simpa using hu
    obtain ⟨_, e⟩ := Array.getElem?_eq_some_iff.mp this
    rw [e]
    have hne := hno i hlt
    rw [List.getElem?_eq_getElem hi''] at hne
    show (ys[i] == x) = false
    exact beq_eq_false_iff_ne.mpr fun q => hne (by rw [q])
theorem r_at {value slice : PySem.Expr} {vs : List Value} {k : Nat} {u : Tok} {x : Value} (N : News h₀ L s.heap news) (hm : (D, W.listOf vs.toArray n) ∈ news) (hx : vs[k]? = some x) (hk : k < 1000) (h : Q x s)
    (hs : subscripted slice false (.ref D) (.int (k : Int) u) = operate [.ref D, .int (k : Int) u] (getItem (.ref D) (.int (k : Int) u)) := by with_unfolding_all rfl) :
    wpAny (model prog w) A (subscriptTail value slice (.ref D) (.int (k : Int) u)) Q E s :=
  have hl : s.heap.IsList D vs.toArray := ⟨_, (N _ hm).1, rfl, n, rfl⟩
  tail_any hl.typeIs slot_list_getitem.lookup (wpAny_getItem_list hl (by omega) (by omega) (by simpa using hx) h) hs
end
theorem keep_fn (w : World) : ∀ k, k < 15 → keepIn (hd.heap_39 w.params) (.ref (fnAddr k)) = true := by
  have hp : Challenge.rw_fe0236_01.row.prog = Challenge.rw_fe0236_01.row.prog := rfl
  revert hp
  k_fill
  intro _
  refine fifteen ?_ ?_ ?_ ?_ ?_ ?_ ?_ ?_ ?_ ?_ ?_ ?_ ?_ ?_ ?_ <;> (simp only [fnAddr, List.getD_cons_zero, List.getD_cons_succ]; k_is)
theorem words_apart_at {k : Nat} (h : k < 15) : ∀ i : Nat, i < k → WORDS[i]? ≠ some (wordAt k) := fun i hi => by
  rw [← words_at h]; exact words_apart k h i hi
theorem fns_at {k : Nat} (h : k < 15) : ([.ref 76, .ref 83, .ref 90, .ref 97, .ref 104, .ref 111, .ref 118, .ref 125, .ref 132, .ref 139, .ref 146, .ref 153, .ref 160, .ref 167, .ref 41] : List Value)[k]? = some (.ref (fnAddr k)) := by
  revert k
  refine @fifteen _ ?_ ?_ ?_ ?_ ?_ ?_ ?_ ?_ ?_ ?_ ?_ ?_ ?_ ?_ ?_ <;> rfl
local macro_rules | `(tactic| walk_at "leaving ref") => `(tactic| (k_here; (refine' leave_onX ?k1 ?k2 ?k3 ?k4 ?_; (case k3 => assumption); (case k1 => assumption); (case k4 => assumption); (case k2 => assumption); k_whole); intro h' R' U'; (try dsimp only at R' U' ⊢)))
local macro_rules | `(tactic| k_room) => `(tactic| ((simp only [depth_mark, depth_under_make, depth_under_kw, depth_in1, depth_deeper, depth_caller, recursionLimit]); omega))
local macro_rules | `(tactic| k_enter) => `(tactic| (refine' code_def ?k1 ?k2 ?k3 ?k4 ?k5 ?kA ?kF ?kK ?k6 ?k7 ?k8 ?k9 ?kB ?_ ?c2 ?c3 ?c4 ?c5; (case k2 => k_asm); (case k1 => k_asm); (case kA => first | exact rfl | exact Around.frames_deeper (by assumption)); (case kF => exact rfl); (case kK => exact rfl); (case k3 => k_asm); (case k4 => k_asm); (case k5 => k_asm); (case k6 => k_is); (case k7 => k_is); (case k8 => k_room); (case k9 => exact BindsTo.of_eq rfl); (case c5 => decide); (case kB => exact locs rfl); (case c2 => exact rfl); (case c3 => exact rfl); (case c4 => exact rfl); k_whole; intro g' L' h' FG' F' N' B' X' T'; (try dsimp only); (try k_fold)))
local macro_rules | `(tactic| walk_at "call builtin:list.index") => `(tactic| (k_here; (with_unfolding_all refine' r_index ?N ?m ?i ?x ?o ?z ?_; (case N => k_asm); (case m => k_mem); (case i => exact words_are); (case x => exact words_at (by assumption)); (case o => exact words_apart_at (by assumption)); (case z => exact Nat.le_of_ble_eq_true rfl); k_whole)))
local macro_rules | `(tactic| walk_at "subscriptTail") => `(tactic| (k_here; (with_reducible show wpAny _ _ (subscriptTail _ _ (Value.ref _) (Value.int _ _)) _ _ _); (with_unfolding_all refine' r_at ?N ?m ?x ?k ?_ ?s; (case N => k_asm); (case m => k_mem); (case x => exact fns_at (by assumption)); (case k => omega); (case s => with_unfolding_all rfl); k_whole)))
local macro_rules | `(tactic| walk_at "callWith ref") => `(tactic| (k_here; (refine' callWith_K ?k1 ?k2 ?_; (case k1 => k_asm); (case k2 => exact keep_fn _ _ (by assumption)); k_whole)))
section
variable {w : World} {mg mb : Str → Option Value} {mean : ExcName → Option Value} {A₀ A : Around} {E : Value → Shared → Prop} {s : Shared} {base h₀ : Heap} {outer : List Env} {L l : Addr} {m : Str → Option Value} {rest : List (Addr × Obj)} {env : Env} {c : Nat} {Q : Value → Shared → Prop}
set_option maxHeartbeats 8000000 in
theorem law_call (k : Nat) (hk15 : k < 15) {vs : List Value} {tw : Tok} (B : Below A₀ base outer h₀) (F : Fr h₀ L s.heap m) (X : (hd.heap_39 w.params).In h₀) (hr : ∀ p ∈ rest, p.1 ≠ l)
    (T : Top hd.view_39 (looseW hd.view_39 []) mean mg mb h₀) (hA : A.frames = some (env :: outer)) (hf : env.frame = some L) (hk : env.scope.kind = .function) (hroom : A.depth < 500) (hh : A.handled = none)
    (N : News h₀ L s.heap ((l, W.listOf vs.toArray c) :: rest)) (hz : vs.length ≤ 100) (hb : BY vs)
    (hQ : need k ≤ vs.length → ∀ h' tk c', Fr h₀ L h' m → News h₀ L h' ((l, W.listOf (opf k vs).toArray c') :: rest) → Q .none { s with heap := h', toks := tk })
    (hE : vs.length < need k → ∀ h' tk e g, Fr h₀ L g m → RaisedX base (env :: outer) e (.type "IndexError") rest h' → g.UpToSlots h' → E (.ref e) { s with heap := h', toks := tk }) :
    wpAny (model Challenge.rw_fe0236_01.row.prog w) A (call (.ref 195) [.str (wordAt k) tw, .ref l]) Q E s := by
  revert X
  k_fill
  intro X
  refine wpAny_call ?_
  refine code_def B F X N T hA hf hk (by k_is) (by k_is) (Nat.lt_trans hroom (by decide)) (BindsTo.of_eq (binds := [(Str.ofString "word", .str (wordAt k) tw), (Str.ofString "stack", .ref l)]) rfl) (locs rfl) ?_ rfl rfl rfl (by decide)
  intro g L' h₁ FG F' N' B' X' T'
  clear F N B X T
  dsimp only
  k_fold
  k_steps
  refine' op_any (rest := rest) (vs := vs) (c := c) k hk15 ?B ?F ?X hr ?T ?hA ?hf ?hk ?hroom ?hh ?N hz hb ?hQ ?hE
  case F => k_asm
  case B => k_asm
  case X => k_asm
  case T => k_asm
  case hA => exact Around.frames_deeper (by assumption)
  case hf => exact rfl
  case hk => exact rfl
  case hroom => k_room
  case hh => assumption
  case N => exact cb_drop (by k_asm) (by k_sub)
  · intro hn h' tk' c' F' N'
    k_steps
    refine leaveK_ F' N' ?_
    intro hF hN
    exact hQ hn _ _ _ hF hN
  · intro hn h' tk' e' g' F' R' U'
    k_steps
    exact hE hn _ _ _ _ FG (by with_reducible assumption) (by with_reducible assumption)
end
end Mine
namespace Mine
theorem ne_gt {D d : Addr} {o : Obj} {news : List (Addr × Obj)} (l : ∀ p ∈ news, p.1 < D) (h : (d, o) ∈ news) : D ≠ d := Nat.ne_of_gt (l _ h)
theorem ne_lt {D d : Addr} {o : Obj} {news : List (Addr × Obj)} (l : ∀ p ∈ news, p.1 < d) (h : (D, o) ∈ news) : D ≠ d := Nat.ne_of_lt (l _ h)
theorem all_ne {d : Addr} {news rest : List (Addr × Obj)} (l : ∀ p ∈ news, p.1 < d) (h : ∀ p ∈ rest, p ∈ news) : ∀ p ∈ rest, p.1 ≠ d := fun p hp => Nat.ne_of_lt (l p (h p hp))
/-- vs[lo:hi] -/
def cut (vs : List Value) (lo hi : Option Int) : List Value := (vs.drop (kms_lo lo vs.length)).take (kms_hi hi vs.length - kms_lo lo vs.length)
theorem cut_len (vs : List Value) (lo hi : Option Int) : (cut vs lo hi).length ≤ vs.length := by
  unfold cut; rw [List.length_take, List.length_drop]; omega
theorem cut_pick (vs : List Value) (lo hi : Option Int) : slicePick vs.toArray lo hi none = (cut vs lo hi).toArray := by
  rw [kmk_pick_nat _ (kms_bounds lo hi vs.toArray.size)]
  simp only [List.size_toArray]; rfl
section
variable {prog : Program} {w : World} {A : Around} {E : Value → Shared → Prop} {s : Shared} {h₀ : Heap} {L D l : Addr} {m : Str → Option Value} {news : List (Addr × Obj)} {n : Nat} {Q : Value → Shared → Prop} {vs ws : List Value} {lo hi : Option Int} {vl vu : Value} {value slice : PySem.Expr}
theorem r_slice (F : Fr h₀ L s.heap m) (N : News h₀ L s.heap news) (hm : (l, W.listOf vs.toArray n) ∈ news) (pl : IsPart vl lo) (pu : IsPart vu hi) (hz : vs.length ≤ 1000)
    (h : ∀ D h', Fr h₀ L h' m → News h₀ L h' ((D, W.listOf (cut vs lo hi).toArray 0) :: news) → (∀ p ∈ news, p.1 < D) → Q (.ref D) { s with heap := h' })
    (hs : subscripted slice false (.ref l) (.ref s.heap.objs.size) = operate [.ref s.heap.objs.size, .ref l] (getItem (.ref l) (.ref s.heap.objs.size))) (ht : ∀ r, letTemporaryGo value (.ref l) r = pure ()) :
    wpAny (model prog w) A (subscriptTail value slice (.ref l) (.ref s.heap.objs.size)) Q E { s with heap := s.heap.push { cls := .type "slice", data := .fields #[vl, vu, .none] } } := by
  refine kmk_slice F N ⟨_, (N _ hm).1, rfl, n, rfl⟩ pl pu (fun D h' F' N' l1 => h D h' F' ?_ l1) hs ht (by rw [List.size_toArray, sizeLine_eq]; omega)
  rw [cut_pick] at N'
  exact N'
theorem r_add {l b : Addr} {n₁ n₂ : Nat} (F : Fr h₀ L s.heap m) (N : News h₀ L s.heap news) (hm : (l, W.listOf vs.toArray n₁) ∈ news) (hm2 : (b, W.listOf ws.toArray n₂) ∈ news) (hz : vs.length + ws.length ≤ 1000)
    (h : ∀ D h', Fr h₀ L h' m → News h₀ L h' ((D, W.listOf (vs ++ ws).toArray 0) :: news) → (∀ p ∈ news, p.1 < D) → Q (.ref D) { s with heap := h' }) :
    wpAny (model prog w) A (binaryOp .Add (.ref l) (.ref b)) Q E s :=
  add_arrays F N ⟨_, (N _ hm).1, rfl, n₁, rfl⟩ ⟨_, (N _ hm2).1, rfl, n₂, rfl⟩ (fun h' F' N' => h _ h' F' N' fun p hp => Heap.lt_size (N p hp).1) (by rw [List.size_toArray, List.size_toArray, sizeLine_eq]; omega)
theorem r_addL {l b : Addr} {n₁ n₂ : Nat} (F : Fr h₀ L s.heap m) (N : News h₀ L s.heap ((b, W.listOf ws.toArray n₂) :: news)) (hm : (l, W.listOf vs.toArray n₁) ∈ news) (hz : vs.length + ws.length ≤ 1000)
    (h : ∀ D h', Fr h₀ L h' m → News h₀ L h' ((D, W.listOf (vs ++ ws).toArray 0) :: news) → (∀ p ∈ news, p.1 < D) → Q (.ref D) { s with heap := h' }) :
    wpAny (model prog w) A (binaryOp .Add (.ref l) (.ref b)) Q E s :=
  r_add F N (List.mem_cons_of_mem _ hm) (.head _) hz fun D h' F' N' l1 => h D h' F' (cb_drop N' fun p hp => by rcases List.mem_cons.mp hp with rfl | hp; exact .head _; exact .tail _ (.tail _ hp)) fun p hp => l1 p (.tail _ hp)
theorem r_addT {a b : Addr} {n₁ n₂ : Nat} (F : Fr h₀ L s.heap m) (N : News h₀ L s.heap ((b, W.listOf ws.toArray n₂) :: (a, W.listOf vs.toArray n₁) :: news)) (hz : vs.length + ws.length ≤ 1000)
    (h : ∀ D h', Fr h₀ L h' m → News h₀ L h' ((D, W.listOf (vs ++ ws).toArray 0) :: news) → (∀ p ∈ news, p.1 < D) → Q (.ref D) { s with heap := h' }) :
    wpAny (model prog w) A (binaryOp .Add (.ref a) (.ref b)) Q E s :=
  r_add F N (.tail _ (.head _)) (.head _) hz fun D h' F' N' l1 => h D h' F' (cb_drop N' fun p hp => by rcases List.mem_cons.mp hp with rfl | hp; exact .head _; exact .tail _ (.tail _ (.tail _ hp))) fun p hp => l1 p (.tail _ (.tail _ hp))
theorem r_dupdate {d o₂ : Addr} {o oM : Obj} {g : Obj → List (Addr × Obj)} {kvs more : List (Str × Value)} (F : Fr h₀ L s.heap m) (N : News h₀ L s.heap news) (U : UpdF d o news g) (hd : o.IsDictOf (PySem.strKind prog w) kvs)
    (h2 : (o₂, oM) ∈ news) (hd2 : oM.IsDictOf (PySem.strKind prog w) more) (lo : (o₂ == sysModules) = false) (hne : d ≠ o₂) (hz : kvs.length + more.length ≤ sizeLine)
    (h : ∀ h' o', Fr h₀ L h' m → News h₀ L h' (g o') → o'.IsDictOf (PySem.strKind prog w) (merged kvs more) → Q .none { s with heap := h' }) :
    wpAny (model prog w) A (call (.builtin "dict.update") [.ref d, .ref o₂]) Q E s := by
  obtain ⟨pre, post, rfl, hg, a, b⟩ := U.split
  have hm := N (d, o) (List.mem_append_right _ (.head _))
  have hD : s.heap.DictOf (PySem.strKind prog w) d kvs := Heap.dictOf_iff.mpr ⟨o, hm.1, hd⟩
  have hD2 : s.heap.DictOf (PySem.strKind prog w) o₂ more := Heap.dictOf_iff.mpr ⟨oM, (N _ h2).1, hd2⟩
  refine call_meetsIn PySem.F.slot_dict_update hD.typeIs PySem.F.entry_dict_update (PySem.F.args_dict_update_2 _ _) (meets_dict_update (PySem.strKind prog w) d o₂ hne lo) ⟨kvs, more, hD, hD2, hz, fun h' hmm _ hs => ?_⟩
  obtain ⟨o', ho', hd'⟩ := Heap.dictOf_iff.mp hmm
  exact h h' o' (F.change hs hm.2.1 hm.2.2) (hg o' ▸ N.setIn a b hs ho') hd'
theorem merged_app : ∀ (more kvs : List (Str × Value)), ((kvs ++ more).map (·.1)).Nodup → merged kvs more = kvs ++ more := by
  intro more
  induction more with
  | nil => intro kvs _; simp [merged]
  | cons x r ih =>
    intro kvs hn
    have hx : x.1 ∉ kvs.map (·.1) := by
      intro hm
      rw [List.map_append, List.nodup_append] at hn
      exact hn.2.2 x.1 hm x.1 (by simp) rfl
    have hs : stored kvs x.1 x.2 = kvs ++ [x] := by
      unfold stored
      rw [if_neg]
      intro ha
      obtain ⟨p, hp, e⟩ := List.any_eq_true.mp ha
      exact hx (List.mem_map.mpr ⟨p, hp, of_decide_eq_true e⟩)
    show merged (stored kvs x.1 x.2) r = _
    rw [hs, ih (kvs ++ [x]) (by simpa using hn)]
    simp
theorem r_made {d : Addr} {o : Obj} {g : Obj → List (Addr × Obj)} {vs : List (Value × Value)} {kvs : List (Str × Value)} (F : Fr h₀ L s.heap m) (N : News h₀ L s.heap news) (U : UpdF d o news g) (hd : o.IsDictOf (PySem.strKind prog w) []) (hk : allStrKeys vs = true) (e : strPairs vs = kvs) (hn : (kvs.map (·.1)).Nodup)
    (h : ∀ h' tk o', Fr h₀ L h' m → News h₀ L h' (g o') → o'.IsDictOf (PySem.strKind prog w) kvs → Q (.ref d) { s with heap := h', toks := tk }) : KdnMade prog w (PySem.strKind prog w) d Q vs s := by
  subst e
  exact kdn_made_str F N U hd hk hn fun h' o' F' N' hd' => h h' _ o' F' N' hd'
theorem r_dupd {d o₂ : Addr} {o oM : Obj} {g : Obj → List (Addr × Obj)} {kvs more : List (Str × Value)} (F : Fr h₀ L s.heap m) (N : News h₀ L s.heap news) (U : UpdF d o news g) (hd : o.IsDictOf (PySem.strKind prog w) kvs)
    (h2 : (o₂, oM) ∈ news) (hd2 : oM.IsDictOf (PySem.strKind prog w) more) (lo : (o₂ == sysModules) = false) (hne : d ≠ o₂) (hz : kvs.length + more.length ≤ sizeLine) (hn : ((kvs ++ more).map (·.1)).Nodup)
    (h : ∀ h' o', Fr h₀ L h' m → News h₀ L h' (g o') → o'.IsDictOf (PySem.strKind prog w) (kvs ++ more) → Q .none { s with heap := h' }) :
    wpAny (model prog w) A (call (.builtin "dict.update") [.ref d, .ref o₂]) Q E s :=
  r_dupdate F N U hd h2 hd2 lo hne hz fun h' o' F' N' hd' => h h' o' F' N' (by rw [merged_app _ _ hn] at hd'; exact hd')
theorem cw_dict {M : Model} {A : Around} {E : Value → Shared → Prop} {s : Shared} {Q : Value → Shared → Prop} {env : Env} {pos p : Pos} {id : String} {self : Value} {ks : List (Option PySem.Expr)} {es : List PySem.Expr} (h : wpAny M A (eval (PySem.Expr.Dict ks es p) env) (fun v s₁ => wpAny M A (call (.builtin id) [self, v]) Q E s₁) E s) :
    wpAny M A (callWith pos (.builtin id) [self] (backTo pos (starEach [PySem.Expr.Dict ks es p] env)) []) Q E s := by
  have he : backTo pos (starEach [PySem.Expr.Dict ks es p] env) = [(false, eval (PySem.Expr.Dict ks es p) env)] := rfl
  rw [he]
  exact Calls.callWith_builtin rfl (Calls.evalArgs_plain (Calls.spliced_cons (wpAny_mono h (fun _ _ h₁ => Calls.spliced_nil h₁) fun _ _ e => e)))
end
end Mine
namespace Mine
theorem r_len {prog : Program} {w : World} {A : Around} {E : Value → Shared → Prop} {s : Shared} {h₀ : Heap} {L l : Addr} {news : List (Addr × Obj)} {n : Nat} {vs : List Value} {Q : Value → Shared → Prop} (N : News h₀ L s.heap news) (hm : (l, W.listOf vs.toArray n) ∈ news) (hz : vs.length ≤ 1000) (h : Q (.int (vs.length : Int) (s.toks + 1)) { s with toks := s.toks + 1 + 1 }) :
    wpAny (model prog w) A (call (.builtin "len") [.ref l]) Q E s :=
  kun_lenL (items := vs.toArray) ⟨_, (N _ hm).1, rfl, n, rfl⟩ (by simp) (by omega) h
/-- the law's own statements, out of the row -/
def stmtAt : List Stmt → Nat → Option Stmt
  | [], _ => none
  | x :: _, 0 => some x
  | _ :: r, n + 1 => stmtAt r n
def bodyOf : Option Stmt → List Stmt
  | some (.FunctionDef _ _ b _ _ _ _ _ _ _) => b
  | some (.For _ _ b _ _) => b
  | _ => []
def scopeOf : Option Stmt → Scope
  | some (.FunctionDef _ _ _ _ _ _ s _ _ _) => s
  | _ => { kind := ScopeKind.function, names := [], isGenerator := false, isCoroutine := false }
/-- the scope of _law_done, out of the row -/
def scD : Scope := scopeOf (stmtAt Challenge.pw_fe0236_01.main.body 27)
local macro_rules | `(tactic| walk_at "eval Name") => `(tactic| (k_here; k_dflt (refine' ld ?k1 ?k2 ?_; (case k1 => k_asm); (case k2 => assumption); k_whole)))
local macro_rules | `(tactic| walk_at "subscriptTail Name Slice ref ref") => `(tactic| (k_here; (with_reducible show wpAny _ _ (subscriptTail _ (PySem.Expr.Slice _ _ none _) (Value.ref _) (Value.ref _)) _ _ _); (with_unfolding_all refine' r_slice ?F ?N ?l ?p ?q ?z ?_ ?s ?t; (case F => k_asm); (case N => k_asm); (case l => assumption); (case p => kmk_part); (case q => kmk_part); (case z => assumption); (case s => with_unfolding_all rfl); (case t => kmk_pure)); intro D' h' F' N' l1))
section
variable {w : World} {A : Around} {E : Value → Shared → Prop} {s : Shared} {g : Heap} {L l fa : Addr} {cd : Value} {m : Str → Option Value} {news : List (Addr × Obj)} {c : Nat} {vs : List Value} {t : Tok} {Q : Value → Shared → Prop} {p1 p2 p3 p4 p5 p6 p7 p8 p9 : Pos} {a b : Int}
set_option maxHeartbeats 4000000 in
theorem ev_upto (F : Fr g L s.heap m) (X : (hd.heap_39 w.params).In g) (N : News g L s.heap news) (hm : (l, W.listOf vs.toArray c) ∈ news) (hs : m (Str.ofString "s") = some (.ref l)) (hn : m (Str.ofString "n") = some (.int (vs.length : Int) t)) (hz : vs.length ≤ 1000)
    (h : ∀ D h' tk, Fr g L h' m → News g L h' ((D, W.listOf (cut vs none (some ((vs.length : Int) - a))).toArray 0) :: news) → (∀ p ∈ news, p.1 < D) → Q (.ref D) { s with heap := h', toks := tk }) :
    wpAny (model Challenge.rw_fe0236_01.row.prog w) A (eval (Expr.Subscript (Expr.Name (Str.ofString "s") p1) (Expr.Slice none (some (Expr.BinOp (Expr.Name (Str.ofString "n") p2) Operator.Sub (Expr.Constant (Const.int a) 0 p3) p4)) none p5) p6) (envOf (Str.ofString "_law_done") scD L fa cd)) Q E s := by
  revert X
  k_fill
  intro X
  dsimp only [scD, scopeOf, stmtAt, Challenge.pw_fe0236_01]
  k_steps
  exact h _ _ _ (by with_reducible assumption) (by with_reducible assumption) (by with_reducible assumption)
set_option maxHeartbeats 4000000 in
theorem ev_from (F : Fr g L s.heap m) (X : (hd.heap_39 w.params).In g) (N : News g L s.heap news) (hm : (l, W.listOf vs.toArray c) ∈ news) (hs : m (Str.ofString "s") = some (.ref l)) (hn : m (Str.ofString "n") = some (.int (vs.length : Int) t)) (hz : vs.length ≤ 1000)
    (h : ∀ D h' tk, Fr g L h' m → News g L h' ((D, W.listOf (cut vs (some ((vs.length : Int) - a)) none).toArray 0) :: news) → (∀ p ∈ news, p.1 < D) → Q (.ref D) { s with heap := h', toks := tk }) :
    wpAny (model Challenge.rw_fe0236_01.row.prog w) A (eval (Expr.Subscript (Expr.Name (Str.ofString "s") p1) (Expr.Slice (some (Expr.BinOp (Expr.Name (Str.ofString "n") p2) Operator.Sub (Expr.Constant (Const.int a) 0 p3) p4)) none none p5) p6) (envOf (Str.ofString "_law_done") scD L fa cd)) Q E s := by
  revert X
  k_fill
  intro X
  dsimp only [scD, scopeOf, stmtAt, Challenge.pw_fe0236_01]
  k_steps
  exact h _ _ _ (by with_reducible assumption) (by with_reducible assumption) (by with_reducible assumption)
set_option maxHeartbeats 4000000 in
theorem ev_mid (F : Fr g L s.heap m) (X : (hd.heap_39 w.params).In g) (N : News g L s.heap news) (hm : (l, W.listOf vs.toArray c) ∈ news) (hs : m (Str.ofString "s") = some (.ref l)) (hn : m (Str.ofString "n") = some (.int (vs.length : Int) t)) (hz : vs.length ≤ 1000)
    (h : ∀ D h' tk, Fr g L h' m → News g L h' ((D, W.listOf (cut vs (some ((vs.length : Int) - a)) (some ((vs.length : Int) - b))).toArray 0) :: news) → (∀ p ∈ news, p.1 < D) → Q (.ref D) { s with heap := h', toks := tk }) :
    wpAny (model Challenge.rw_fe0236_01.row.prog w) A (eval (Expr.Subscript (Expr.Name (Str.ofString "s") p1) (Expr.Slice (some (Expr.BinOp (Expr.Name (Str.ofString "n") p2) Operator.Sub (Expr.Constant (Const.int a) 0 p3) p4)) (some (Expr.BinOp (Expr.Name (Str.ofString "n") p7) Operator.Sub (Expr.Constant (Const.int b) 0 p8) p9)) none p5) p6) (envOf (Str.ofString "_law_done") scD L fa cd)) Q E s := by
  revert X
  k_fill
  intro X
  dsimp only [scD, scopeOf, stmtAt, Challenge.pw_fe0236_01]
  k_steps
  exact h _ _ _ (by with_reducible assumption) (by with_reducible assumption) (by with_reducible assumption)
end
end Mine
namespace Mine
local macro_rules | `(tactic| k_room) => `(tactic| ((simp only [depth_mark, depth_under_make, depth_under_kw, depth_in1, depth_deeper, depth_caller, recursionLimit]); omega))
local macro_rules | `(tactic| k_enter) => `(tactic| (refine' code_def ?k1 ?k2 ?k3 ?k4 ?k5 ?kA ?kF ?kK ?k6 ?k7 ?k8 ?k9 ?kB ?_ ?c2 ?c3 ?c4 ?c5; (case k2 => k_asm); (case k1 => k_asm); (case kA => first | exact rfl | exact Around.frames_deeper (by assumption)); (case kF => exact rfl); (case kK => exact rfl); (case k3 => k_asm); (case k4 => k_asm); (case k5 => k_asm); (case k6 => k_is); (case k7 => k_is); (case k8 => k_room); (case k9 => exact BindsTo.of_eq rfl); (case c5 => decide); (case kB => exact locs rfl); (case c2 => exact rfl); (case c3 => exact rfl); (case c4 => exact rfl); k_whole; intro g' L' h' FG' F' N' B' X' T'; (try dsimp only); (try k_fold)))
local macro_rules | `(tactic| k_ne) => `(tactic| (refine neN ?_; (try dsimp only); first | exact ne_gt (by with_reducible assumption) (by k_mem) | exact ne_lt (by with_reducible assumption) (by k_mem)))
local macro_rules | `(tactic| k_all) => `(tactic| exact all_ne (by with_reducible assumption) (by first | exact fun _ hp => hp | k_sub))
local macro_rules | `(tactic| walk_at "eval Dict") => `(tactic| (k_here; k_dflt (refine' kdn_str ?q ?F ?N ?b ?a ?l ?e ?n ?_; (case q => rfl); (case F => with_reducible assumption); (case N => with_reducible assumption); (case b => exact Top.nolimit (by with_reducible assumption)); (case a => rfl); (case l => rfl); (case e => exact List.cons_ne_nil _ _); (case n => exact Nat.le_of_ble_eq_true rfl)); intro d' h' o' F' N' l1 lo' hd'))
local macro_rules | `(tactic| walk_at "d_len") => `(tactic| ((try simp only [cut, List.length_append, List.length_take, List.length_drop, List.length_cons, List.length_nil]); omega))
local macro_rules | `(tactic| walk_at "call builtin:len") => `(tactic| (k_here; (with_reducible show wpAny _ _ (call (Value.builtin _) [Value.ref _]) _ _ _); (with_unfolding_all refine' r_len ?N ?m ?z ?_; (case N => k_asm); (case m => k_mem); (case z => walk_at "d_len"); k_whole)))
local macro_rules | `(tactic| walk_at "d_ev") => `(tactic| ((case F => with_reducible assumption); (case s => exact rfl); (case n => exact rfl); (case N => with_reducible assumption); (case X => with_reducible assumption); (case m => k_mem); (case z => walk_at "d_len")))
local macro_rules | `(tactic| walk_at "eval Subscript") => `(tactic| (k_here; (with_reducible show wpAny _ _ (eval (Expr.Subscript (Expr.Name _ _) (Expr.Slice none (some _) none _) _) _) _ _ _); k_dflt (refine' ev_upto ?F ?X ?N ?m ?s ?n ?z ?_; walk_at "d_ev"); intro D' h' tk' F' N' l1; (try k_sweep)))
local macro_rules | `(tactic| walk_at "eval Subscript") => `(tactic| (k_here; (with_reducible show wpAny _ _ (eval (Expr.Subscript (Expr.Name _ _) (Expr.Slice (some _) none none _) _) _) _ _ _); k_dflt (refine' ev_from ?F ?X ?N ?m ?s ?n ?z ?_; walk_at "d_ev"); intro D' h' tk' F' N' l1; (try k_sweep)))
local macro_rules | `(tactic| walk_at "eval Subscript") => `(tactic| (k_here; (with_reducible show wpAny _ _ (eval (Expr.Subscript (Expr.Name _ _) (Expr.Slice (some _) (some _) none _) _) _) _ _ _); k_dflt (refine' ev_mid ?F ?X ?N ?m ?s ?n ?z ?_; walk_at "d_ev"); intro D' h' tk' F' N' l1; (try k_sweep)))
local macro_rules | `(tactic| walk_at "binaryOp Add ref ref") => `(tactic| (k_here; k_dflt (first | (refine' r_addT ?F ?N ?z ?_; (case N => with_reducible assumption); (case F => with_reducible assumption); (case z => walk_at "d_len")) | (refine' r_addL ?F ?N ?m ?z ?_; (case N => with_reducible assumption); (case F => with_reducible assumption); (case m => k_mem); (case z => walk_at "d_len"))); intro D' h' F' N' l1; (try k_sweep)))
local macro_rules | `(tactic| walk_at "callWith") => `(tactic| (k_here; with_reducible refine cw_dict ?_))
local macro_rules | `(tactic| walk_at "getMethod ref") => `(tactic| (k_here; (with_reducible show wpAny _ _ (getMethod (Value.ref _) (PySem.Str.ofString "update") _) _ _ _); k_dflt (refine' kob_method (knd := PySem.strKind _ _) PySem.F.slot_dict_update PySem.F.type_dict_update ?N ?p ?d ?_; (case N => k_asm); (case p => k_mem); (case d => k_asm))))
local macro_rules | `(tactic| walk_at "KdnMade") => `(tactic| (k_here; k_dflt (refine' r_made ?F ?N ?U ?d ?k ?e ?n ?_; (case F => with_reducible assumption); (case N => with_reducible assumption); (case U => k_updF); (case d => with_reducible assumption); (case k => rfl); (case e => (simp only [strPairs]; exact rfl)); (case n => exact of_decide_eq_true (by first | rfl | kernel_rfl!))); intro h' tk' o' F' N' hd'; (try dsimp only at N'); (try k_sweep)))
local macro_rules | `(tactic| walk_at "call builtin:dict.update") => `(tactic| (k_here; k_dflt (refine' r_dupd ?F ?N ?U ?d ?m ?e ?lo ?n ?z ?q ?_; (case F => with_reducible assumption); (case N => with_reducible assumption); (case U => k_updF); (case d => with_reducible assumption); (case m => k_mem); (case e => with_reducible assumption); (case lo => with_reducible assumption); (case n => k_ne); (case z => exact Nat.le_of_ble_eq_true rfl); (case q => exact of_decide_eq_true (by first | rfl | kernel_rfl!))); intro h' o' F' N' hd'; (try dsimp only at N'); (try simp only [List.cons_append, List.nil_append] at hd'); (try k_sweep)))
theorem app_eq {a b c d : List Value} (h1 : a = b) (h2 : c = d) : a ++ c = b ++ d := by rw [h1, h2]
theorem cut_upTo (vs : List Value) (a : Nat) (h : a ≤ vs.length) : cut vs none (some ((vs.length : Int) - (a : Int))) = upTo vs a := by
  have e2 : kms_hi (some ((vs.length : Int) - (a : Int))) vs.length = vs.length - a := by
    show (if (vs.length : Int) - (a : Int) < 0 then _ else min ((vs.length : Int) - (a : Int)).toNat vs.length) = _
    rw [if_neg (by omega)]; omega
  unfold cut upTo
  rw [e2]
  show (vs.drop 0).take (vs.length - a - 0) = _
  rw [List.drop_zero, Nat.sub_zero]
theorem cut_from (vs : List Value) (a : Nat) (h : a ≤ vs.length) : cut vs (some ((vs.length : Int) - (a : Int))) none = fromEnd vs a := by
  have e1 : kms_lo (some ((vs.length : Int) - (a : Int))) vs.length = vs.length - a := by
    show (if (vs.length : Int) - (a : Int) < 0 then _ else min ((vs.length : Int) - (a : Int)).toNat vs.length) = _
    rw [if_neg (by omega)]; omega
  unfold cut fromEnd
  rw [e1]
  show (vs.drop (vs.length - a)).take (vs.length - (vs.length - a)) = _
  rw [List.take_of_length_le (by rw [List.length_drop]; omega)]
theorem cut_mid (vs : List Value) (a b : Nat) (hb : b ≤ a) (h : a ≤ vs.length) : cut vs (some ((vs.length : Int) - (a : Int))) (some ((vs.length : Int) - (b : Int))) = part vs a b := by
  have e1 : kms_lo (some ((vs.length : Int) - (a : Int))) vs.length = vs.length - a := by
    show (if (vs.length : Int) - (a : Int) < 0 then _ else min ((vs.length : Int) - (a : Int)).toNat vs.length) = _
    rw [if_neg (by omega)]; omega
  have e2 : kms_hi (some ((vs.length : Int) - (b : Int))) vs.length = vs.length - b := by
    show (if (vs.length : Int) - (b : Int) < 0 then _ else min ((vs.length : Int) - (b : Int)).toNat vs.length) = _
    rw [if_neg (by omega)]; omega
  unfold cut part
  rw [e1, e2, show vs.length - b - (vs.length - a) = a - b from by omega]
theorem value_at {kvs : List (Str × Value)} {x : Str} {v : Value} (hn : (kvs.map (·.1)).Nodup) (i : Nat) (h : kvs[i]? = some (x, v)) : valueAt kvs x = some v := by
  induction kvs generalizing i with
  | nil => simp at h
  | cons p r ih =>
    rw [List.map_cons, List.nodup_cons] at hn
    cases i with
    | zero =>
      simp at h; subst h
      simp [valueAt]
    | succ i =>
      have h' : r[i]? = some (x, v) := by simpa using h
      have hne : p.1 ≠ x := fun e => hn.1 (e ▸ List.mem_map.mpr ⟨_, List.mem_of_getElem? h', rfl⟩)
      have := ih hn.2 i h'
      unfold valueAt at this ⊢
      rw [List.find?_cons_of_neg (by simpa using hne)]
      exact this
theorem done_end {prog : Program} {w : World} {A : Around} {E : Value → Shared → Prop} {s : Shared} {h₀ : Heap} {L d : Addr} {news : List (Addr × Obj)} {o : Obj} {kvs : List (Str × Value)} {x : Str} {t : Tok} {Q : Value → Shared → Prop} {value slice : PySem.Expr} {R : List Value}
    (N : News h₀ L s.heap news) (hd : o.IsDictOf (PySem.strKind prog w) kvs) (hp : (d, o) ∈ news) (hex : ∃ r ws c', valueAt kvs x = some (.ref r) ∧ (r, W.listOf (List.toArray ws) c') ∈ news ∧ ws = R)
    (h : ∀ r c', (r, W.listOf R.toArray c') ∈ news → Q (.ref r) { s with toks := s.toks + 1 })
    (hs : subscripted slice false (.ref d) (.str x t) = operate [.ref d, .str x t] (getItem (.ref d) (.str x t)) := by with_unfolding_all rfl) (hg : ∀ r, letTemporaryGo value (.ref d) r = pure () := by intro _; with_unfolding_all rfl) :
    wpAny (model prog w) A (subscriptTail value slice (.ref d) (.str x t)) Q E s := by
  obtain ⟨r, ws, c', h1, h2, rfl⟩ := hex
  exact kda_item (knd := PySem.strKind prog w) (k := x) N hp hd (strKind_is _ _ _ _) h1 (h r c' h2) hs hg
section
variable {w : World} {mg mb : Str → Option Value} {mean : ExcName → Option Value} {A₀ A : Around} {E : Value → Shared → Prop} {s : Shared} {base h₀ : Heap} {outer : List Env} {L l : Addr} {m : Str → Option Value} {rest : List (Addr × Obj)} {env : Env} {c : Nat} {Q : Value → Shared → Prop}
set_option maxHeartbeats 8000000 in
theorem law_doneN (k : Nat) (hk15 : k < 15) (hne6 : k ≠ 6) (hk6 : (wordAt k == Str.ofString "IFDUP") = false) {vs : List Value} {tw : Tok} (B : Below A₀ base outer h₀) (F : Fr h₀ L s.heap m) (X : (hd.heap_39 w.params).In h₀) (hr : ∀ p ∈ rest, p.1 ≠ l)
    (T : Top hd.view_39 (looseW hd.view_39 []) mean mg mb h₀) (hA : A.frames = some (env :: outer)) (hf : env.frame = some L) (hk : env.scope.kind = .function) (hroom : A.depth < 500) (hh : A.handled = none)
    (N : News h₀ L s.heap ((l, W.listOf vs.toArray c) :: rest)) (hz : vs.length ≤ 100) (hb : BY vs) (hn : need k ≤ vs.length)
    (hQ : ∀ h' tk r, Fr h₀ L h' m → News h₀ L h' ((l, W.listOf vs.toArray c) :: rest) → h'.IsList r (opf k vs).toArray → Q (.ref r) { s with heap := h', toks := tk }) :
    wpAny (model Challenge.rw_fe0236_01.row.prog w) A (call (.ref 188) [.str (wordAt k) tw, .ref l]) Q E s := by
  revert X
  k_fill
  intro X
  refine wpAny_call ?_
  refine code_def B F X N T hA hf hk (by k_is) (by k_is) (Nat.lt_trans hroom (by decide)) (BindsTo.of_eq (binds := [(Str.ofString "word", .str (wordAt k) tw), (Str.ofString "s", .ref l)]) rfl) (locs rfl) ?_ rfl rfl rfl (by decide)
  intro g L' h₁ FG F' N' B' X' T'
  clear F N B X T
  dsimp only
  k_fold
  repeat' (first | (k_unfold; (try dsimp only)) | (k_end; wrow_close) | ((fail_if_success (with_reducible show wpAny _ _ (subscriptTail _ _ _ (Value.str _ _)) _ _ _)); walk1))
  refine' done_end (R := opf k vs) ?N ?hd ?hp ?hex ?h
  case N => with_reducible assumption
  case hd => with_reducible assumption
  case hp => k_mem
  case' h =>
    intro r c' hm
    dsimp only
    k_unfold
    refine leaveK_ (by with_reducible assumption) (by with_reducible assumption) ?_
    intro hF hN
    exact hQ _ _ r hF (cb_drop hN (by intro p hp; repeat (first | with_reducible exact hp | refine List.mem_cons_of_mem _ ?_))) ⟨_, (hN _ hm).1, rfl, _, rfl⟩
  rcases (show k = 0 ∨ k = 1 ∨ k = 2 ∨ k = 3 ∨ k = 4 ∨ k = 5 ∨ k = 6 ∨ k = 7 ∨ k = 8 ∨ k = 9 ∨ k = 10 ∨ k = 11 ∨ k = 12 ∨ k = 13 ∨ k = 14 by omega) with rfl | rfl | rfl | rfl | rfl | rfl | rfl | rfl | rfl | rfl | rfl | rfl | rfl | rfl | rfl
  · have hn' : 2 ≤ vs.length := hn
    exact ⟨_, _, _, value_at (of_decide_eq_true (by first | rfl | kernel_rfl!)) 0 rfl, by k_mem, cut_upTo vs 2 (by omega)⟩
  · have hn' : 2 ≤ vs.length := hn
    exact ⟨_, _, _, value_at (of_decide_eq_true (by first | rfl | kernel_rfl!)) 1 rfl, by k_mem, app_eq (rfl) (cut_from vs 2 (by omega))⟩
  · have hn' : 3 ≤ vs.length := hn
    exact ⟨_, _, _, value_at (of_decide_eq_true (by first | rfl | kernel_rfl!)) 2 rfl, by k_mem, app_eq (rfl) (cut_from vs 3 (by omega))⟩
  · have hn' : 4 ≤ vs.length := hn
    exact ⟨_, _, _, value_at (of_decide_eq_true (by first | rfl | kernel_rfl!)) 3 rfl, by k_mem, app_eq (rfl) (cut_mid vs 4 2 (by omega) (by omega))⟩
  · have hn' : 6 ≤ vs.length := hn
    exact ⟨_, _, _, value_at (of_decide_eq_true (by first | rfl | kernel_rfl!)) 4 rfl, by k_mem, app_eq (app_eq (cut_upTo vs 6 (by omega)) (cut_from vs 4 (by omega))) (cut_mid vs 6 4 (by omega) (by omega))⟩
  · have hn' : 4 ≤ vs.length := hn
    exact ⟨_, _, _, value_at (of_decide_eq_true (by first | rfl | kernel_rfl!)) 5 rfl, by k_mem, app_eq (app_eq (cut_upTo vs 4 (by omega)) (cut_from vs 2 (by omega))) (cut_mid vs 4 2 (by omega) (by omega))⟩
  · exact absurd rfl hne6
  · have hn' : 1 ≤ vs.length := hn
    exact ⟨_, _, _, value_at (of_decide_eq_true (by first | rfl | kernel_rfl!)) 6 rfl, by k_mem, cut_upTo vs 1 (by omega)⟩
  · have hn' : 1 ≤ vs.length := hn
    exact ⟨_, _, _, value_at (of_decide_eq_true (by first | rfl | kernel_rfl!)) 7 rfl, by k_mem, app_eq (rfl) (cut_from vs 1 (by omega))⟩
  · have hn' : 2 ≤ vs.length := hn
    exact ⟨_, _, _, value_at (of_decide_eq_true (by first | rfl | kernel_rfl!)) 8 rfl, by k_mem, app_eq (cut_upTo vs 2 (by omega)) (cut_from vs 1 (by omega))⟩
  · have hn' : 2 ≤ vs.length := hn
    exact ⟨_, _, _, value_at (of_decide_eq_true (by first | rfl | kernel_rfl!)) 9 rfl, by k_mem, app_eq (rfl) (cut_mid vs 2 1 (by omega) (by omega))⟩
  · have hn' : 3 ≤ vs.length := hn
    exact ⟨_, _, _, value_at (of_decide_eq_true (by first | rfl | kernel_rfl!)) 10 rfl, by k_mem, app_eq (app_eq (cut_upTo vs 3 (by omega)) (cut_from vs 2 (by omega))) (cut_mid vs 3 2 (by omega) (by omega))⟩
  · have hn' : 2 ≤ vs.length := hn
    exact ⟨_, _, _, value_at (of_decide_eq_true (by first | rfl | kernel_rfl!)) 11 rfl, by k_mem, app_eq (app_eq (cut_upTo vs 2 (by omega)) (cut_from vs 1 (by omega))) (cut_mid vs 2 1 (by omega) (by omega))⟩
  · have hn' : 2 ≤ vs.length := hn
    exact ⟨_, _, _, value_at (of_decide_eq_true (by first | rfl | kernel_rfl!)) 12 rfl, by k_mem, app_eq (app_eq (cut_upTo vs 2 (by omega)) (cut_from vs 1 (by omega))) (cut_from vs 2 (by omega))⟩
  · have hn' : 0 ≤ vs.length := hn
    exact ⟨_, _, _, value_at (of_decide_eq_true (by first | rfl | kernel_rfl!)) 13 rfl, by k_mem, rfl⟩
end
end Mine
namespace Mine
local macro_rules | `(tactic| k_room) => `(tactic| ((simp only [depth_mark, depth_under_make, depth_under_kw, depth_in1, depth_deeper, depth_caller, recursionLimit]); omega))
local macro_rules | `(tactic| k_enter) => `(tactic| (refine' code_def ?k1 ?k2 ?k3 ?k4 ?k5 ?kA ?kF ?kK ?k6 ?k7 ?k8 ?k9 ?kB ?_ ?c2 ?c3 ?c4 ?c5; (case k2 => k_asm); (case k1 => k_asm); (case kA => first | exact rfl | exact Around.frames_deeper (by assumption)); (case kF => exact rfl); (case kK => exact rfl); (case k3 => k_asm); (case k4 => k_asm); (case k5 => k_asm); (case k6 => k_is); (case k7 => k_is); (case k8 => k_room); (case k9 => exact BindsTo.of_eq rfl); (case c5 => decide); (case kB => exact locs rfl); (case c2 => exact rfl); (case c3 => exact rfl); (case c4 => exact rfl); k_whole; intro g' L' h' FG' F' N' B' X' T'; (try dsimp only); (try k_fold)))
local macro_rules | `(tactic| k_ne) => `(tactic| (refine neN ?_; (try dsimp only); first | exact ne_gt (by with_reducible assumption) (by k_mem) | exact ne_lt (by with_reducible assumption) (by k_mem)))
local macro_rules | `(tactic| k_all) => `(tactic| exact all_ne (by with_reducible assumption) (by first | exact fun _ hp => hp | k_sub))
local macro_rules | `(tactic| walk_at "eval Dict") => `(tactic| (k_here; k_dflt (refine' kdn_str ?q ?F ?N ?b ?a ?l ?e ?n ?_; (case q => rfl); (case F => with_reducible assumption); (case N => with_reducible assumption); (case b => exact Top.nolimit (by with_reducible assumption)); (case a => rfl); (case l => rfl); (case e => exact List.cons_ne_nil _ _); (case n => exact Nat.le_of_ble_eq_true rfl)); intro d' h' o' F' N' l1 lo' hd'))
local macro_rules | `(tactic| walk_at "d_len") => `(tactic| ((try simp only [cut, List.length_append, List.length_take, List.length_drop, List.length_cons, List.length_nil]); omega))
local macro_rules | `(tactic| walk_at "call builtin:len") => `(tactic| (k_here; (with_reducible show wpAny _ _ (call (Value.builtin _) [Value.ref _]) _ _ _); (with_unfolding_all refine' r_len ?N ?m ?z ?_; (case N => k_asm); (case m => k_mem); (case z => walk_at "d_len"); k_whole)))
local macro_rules | `(tactic| walk_at "d_ev") => `(tactic| ((case F => with_reducible assumption); (case s => exact rfl); (case n => exact rfl); (case N => with_reducible assumption); (case X => with_reducible assumption); (case m => k_mem); (case z => walk_at "d_len")))
local macro_rules | `(tactic| walk_at "eval Subscript") => `(tactic| (k_here; (with_reducible show wpAny _ _ (eval (Expr.Subscript (Expr.Name _ _) (Expr.Slice none (some _) none _) _) _) _ _ _); k_dflt (refine' ev_upto ?F ?X ?N ?m ?s ?n ?z ?_; walk_at "d_ev"); intro D' h' tk' F' N' l1; (try k_sweep)))
local macro_rules | `(tactic| walk_at "eval Subscript") => `(tactic| (k_here; (with_reducible show wpAny _ _ (eval (Expr.Subscript (Expr.Name _ _) (Expr.Slice (some _) none none _) _) _) _ _ _); k_dflt (refine' ev_from ?F ?X ?N ?m ?s ?n ?z ?_; walk_at "d_ev"); intro D' h' tk' F' N' l1; (try k_sweep)))
local macro_rules | `(tactic| walk_at "eval Subscript") => `(tactic| (k_here; (with_reducible show wpAny _ _ (eval (Expr.Subscript (Expr.Name _ _) (Expr.Slice (some _) (some _) none _) _) _) _ _ _); k_dflt (refine' ev_mid ?F ?X ?N ?m ?s ?n ?z ?_; walk_at "d_ev"); intro D' h' tk' F' N' l1; (try k_sweep)))
local macro_rules | `(tactic| walk_at "binaryOp Add ref ref") => `(tactic| (k_here; k_dflt (first | (refine' r_addL ?F ?N ?m ?z ?_; (case N => with_reducible assumption); (case F => with_reducible assumption); (case m => k_mem); (case z => walk_at "d_len"))); intro D' h' F' N' l1; (try k_sweep)))
local macro_rules | `(tactic| walk_at "callWith") => `(tactic| (k_here; with_reducible refine cw_dict ?_))
local macro_rules | `(tactic| walk_at "getMethod ref") => `(tactic| (k_here; (with_reducible show wpAny _ _ (getMethod (Value.ref _) (PySem.Str.ofString "update") _) _ _ _); k_dflt (refine' kob_method (knd := PySem.strKind _ _) PySem.F.slot_dict_update PySem.F.type_dict_update ?N ?p ?d ?_; (case N => k_asm); (case p => k_mem); (case d => k_asm))))
local macro_rules | `(tactic| walk_at "KdnMade") => `(tactic| (k_here; k_dflt (refine' r_made ?F ?N ?U ?d ?k ?e ?n ?_; (case F => with_reducible assumption); (case N => with_reducible assumption); (case U => k_updF); (case d => with_reducible assumption); (case k => rfl); (case e => (simp only [strPairs]; exact rfl)); (case n => exact of_decide_eq_true (by first | rfl | kernel_rfl!))); intro h' tk' o' F' N' hd'; (try dsimp only at N'); (try k_sweep)))
local macro_rules | `(tactic| walk_at "call builtin:dict.update") => `(tactic| (k_here; k_dflt (refine' r_dupd ?F ?N ?U ?d ?m ?e ?lo ?n ?z ?q ?_; (case F => with_reducible assumption); (case N => with_reducible assumption); (case U => k_updF); (case d => with_reducible assumption); (case m => k_mem); (case e => with_reducible assumption); (case lo => with_reducible assumption); (case n => k_ne); (case z => exact Nat.le_of_ble_eq_true rfl); (case q => exact of_decide_eq_true (by first | rfl | kernel_rfl!))); intro h' o' F' N' hd'; (try dsimp only at N'); (try simp only [List.cons_append, List.nil_append] at hd'); (try k_sweep)))
theorem r_nth {prog : Program} {w : World} {A : Around} {E : Value → Shared → Prop} {s : Shared} {h₀ : Heap} {L D : Addr} {news : List (Addr × Obj)} {n : Nat} {Q : Value → Shared → Prop} {value slice : PySem.Expr} {pre : List Value} {x : Value} {k : Int} {u : Tok} (N : News h₀ L s.heap news) (hm : (D, W.listOf (pre ++ [x]).toArray n) ∈ news) (hk : k = (pre.length : Int)) (hz : pre.length ≤ 1000) (h : Q x s)
    (hs : subscripted slice false (.ref D) (.int k u) = operate [.ref D, .int k u] (getItem (.ref D) (.int k u)) := by with_unfolding_all rfl) :
    wpAny (model prog w) A (subscriptTail value slice (.ref D) (.int k u)) Q E s := by
  have hl : s.heap.IsList D (pre ++ [x]).toArray := ⟨_, (N _ hm).1, rfl, n, rfl⟩
  refine tail_any hl.typeIs slot_list_getitem.lookup (wpAny_getItem_list hl (by omega) (by omega) ?_ h) hs
  subst hk
  simp
local macro_rules | `(tactic| walk_at "subscriptTail") => `(tactic| (k_here; (with_reducible show wpAny _ _ (subscriptTail _ _ (Value.ref _) (Value.int _ _)) _ _ _); (with_unfolding_all refine' r_nth ?N ?m ?k ?z ?_ ?s; (case N => with_reducible assumption); (case m => k_mem); (case k => (simp only [List.length_append, List.length_cons, List.length_nil]; omega)); (case z => omega); (case s => with_unfolding_all rfl))))
section
variable {w : World} {mg mb : Str → Option Value} {mean : ExcName → Option Value} {A₀ A : Around} {E : Value → Shared → Prop} {s : Shared} {base h₀ : Heap} {outer : List Env} {L l : Addr} {m : Str → Option Value} {rest : List (Addr × Obj)} {env : Env} {c : Nat} {Q : Value → Shared → Prop}
set_option maxHeartbeats 8000000 in
theorem law_done6 {pre : List Value} {b : Array UInt8} {t : Tok} {tw : Tok} (hbs : b.size ≤ 6) (B : Below A₀ base outer h₀) (F : Fr h₀ L s.heap m) (X : (hd.heap_39 w.params).In h₀)
    (T : Top hd.view_39 (looseW hd.view_39 []) mean mg mb h₀) (hA : A.frames = some (env :: outer)) (hf : env.frame = some L) (hk : env.scope.kind = .function) (hroom : A.depth < 500)
    (N : News h₀ L s.heap ((l, W.listOf (pre ++ [Value.bytes b t]).toArray c) :: rest)) (hz : pre.length ≤ 100)
    (hQ : ∀ h' tk r, Fr h₀ L h' m → News h₀ L h' ((l, W.listOf (pre ++ [Value.bytes b t]).toArray c) :: rest) → h'.IsList r (opf 6 (pre ++ [Value.bytes b t])).toArray → Q (.ref r) { s with heap := h', toks := tk }) :
    wpAny (model Challenge.rw_fe0236_01.row.prog w) A (call (.ref 188) [.str (Str.ofString "IFDUP") tw, .ref l]) Q E s := by
  revert X
  k_fill
  intro X
  refine wpAny_call ?_
  refine code_def B F X N T hA hf hk (by k_is) (by k_is) (Nat.lt_trans hroom (by decide)) (BindsTo.of_eq (binds := [(Str.ofString "word", .str (Str.ofString "IFDUP") tw), (Str.ofString "s", .ref l)]) rfl) (locs rfl) ?_ rfl rfl rfl (by decide)
  intro g L' h₁ FG F' N' B' X' T'
  clear F N B X T
  dsimp only
  k_fold
  k_steps
  all_goals dsimp only
  all_goals k_unfold
  all_goals refine leaveK_ (by with_reducible assumption) (by with_reducible assumption) ?_
  all_goals intro hF hN
  · have e : opf 6 (pre ++ [Value.bytes b t]) = (pre ++ [Value.bytes b t]) ++ cut (pre ++ [Value.bytes b t]) (some (((pre ++ [Value.bytes b t]).length : Int) - ((1 : Nat) : Int))) none := by
      rw [cut_from _ 1 (by simp)]
      simp only [opf, lastEmpty, List.getLast?_append, List.getLast?_singleton, Option.some_or]
      rw [if_neg]
      simp_all
    exact hQ _ _ _ hF (cb_drop hN (by intro p hp; repeat (first | with_reducible exact hp | refine List.mem_cons_of_mem _ ?_))) (by rw [e]; exact ⟨_, (hN _ (.head _)).1, rfl, _, rfl⟩)
  · have e : opf 6 (pre ++ [Value.bytes b t]) = pre ++ [Value.bytes b t] := by
      simp only [opf, lastEmpty, List.getLast?_append, List.getLast?_singleton, Option.some_or]
      rw [if_pos]
      simp_all
    exact hQ _ _ _ hF hN (by rw [e]; exact ⟨_, (hN _ (.head _)).1, rfl, _, rfl⟩)
end
end Mine
namespace Mine
theorem not_ifdup : ∀ k, k < 15 → k ≠ 6 → (wordAt k == Str.ofString "IFDUP") = false := by decide +kernel
section
variable {w : World} {mg mb : Str → Option Value} {mean : ExcName → Option Value} {A₀ A : Around} {E : Value → Shared → Prop} {s : Shared} {base h₀ : Heap} {outer : List Env} {L l : Addr} {m : Str → Option Value} {rest : List (Addr × Obj)} {env : Env} {c : Nat} {Q : Value → Shared → Prop}
theorem law_done (k : Nat) (hk15 : k < 15) {vs : List Value} {tw : Tok} (B : Below A₀ base outer h₀) (F : Fr h₀ L s.heap m) (X : (hd.heap_39 w.params).In h₀) (hr : ∀ p ∈ rest, p.1 ≠ l)
    (T : Top hd.view_39 (looseW hd.view_39 []) mean mg mb h₀) (hA : A.frames = some (env :: outer)) (hf : env.frame = some L) (hk : env.scope.kind = .function) (hroom : A.depth < 500) (hh : A.handled = none)
    (N : News h₀ L s.heap ((l, W.listOf vs.toArray c) :: rest)) (hz : vs.length ≤ 100) (hb : BY vs) (hn : need k ≤ vs.length)
    (hQ : ∀ h' tk r, Fr h₀ L h' m → News h₀ L h' ((l, W.listOf vs.toArray c) :: rest) → h'.IsList r (opf k vs).toArray → Q (.ref r) { s with heap := h', toks := tk }) :
    wpAny (model Challenge.rw_fe0236_01.row.prog w) A (call (.ref 188) [.str (wordAt k) tw, .ref l]) Q E s := by
  by_cases h6 : k = 6
  · subst h6
    obtain ⟨pre, xs, rfl, hx, hp⟩ := split_end vs 1 hn
    obtain ⟨a, rfl⟩ := len1 hx
    obtain ⟨b, t, rfl, hbs⟩ := hb a (by simp)
    exact law_done6 hbs B F X T hA hf hk hroom N (Nat.le_trans hp hz) hQ
  · exact law_doneN k hk15 h6 (not_ifdup k hk15 h6) B F X hr T hA hf hk hroom hh N hz hb hn hQ
end
def lawStmts : List Stmt := bodyOf (stmtAt Challenge.pw_fe0236_01.main.body 29)
def loopBody : List Stmt := bodyOf (stmtAt lawStmts 2)
end Mine
namespace Mine
/-- the law's scope, its statements, the loop's -/
def scL : Scope := scopeOf (stmtAt Challenge.pw_fe0236_01.main.body 29)
def lawSt (i : Nat) : Stmt := (stmtAt lawStmts i).getD (.Pass ⟨0, 0, 0, 0⟩)
def loopSt (i : Nat) : Stmt := (stmtAt loopBody i).getD (.Pass ⟨0, 0, 0, 0⟩)
theorem loop_is : loopBody = [loopSt 0, loopSt 1, loopSt 2, loopSt 3, loopSt 4] := rfl
theorem law_is : lawStmts = [lawSt 0, lawSt 1, lawSt 2, lawSt 3, lawSt 4, lawSt 5, lawSt 6] := rfl
abbrev envL (L fa : Addr) (cd : Value) : Env := envOf (Str.ofString "law") scL L fa cd
def kOf (n : Int) : Nat := ((n.fdiv 3).fmod 15).toNat
theorem kOf_lt (n : Int) : kOf n < 15 := by
  unfold kOf
  have h1 := fmod_lo (n.fdiv 3) (n := 15) (by decide)
  have h2 := fmod_hi (n.fdiv 3) (n := 15) (by decide)
  omega
theorem kOf_eq (n : Int) : (n.fdiv 3).fmod 15 = (kOf n : Int) := by
  unfold kOf
  have h1 := fmod_lo (n.fdiv 3) (n := 15) (by decide)
  omega
end Mine
namespace Mine
local macro_rules | `(tactic| walk_at "eval Name") => `(tactic| (k_here; k_dflt (refine' ld ?k1 ?k2 ?_; (case k1 => with_reducible assumption); (case k2 => assumption); k_whole)))
local macro_rules | `(tactic| walk_at "call type:list") => `(tactic| (k_here; (with_reducible show wpAny _ _ (call (Value.type _) [Value.ref _]) _ _ _); (with_unfolding_all (refine' list_copyK ?k1 ?k2 ?k3 ?_ ?z; (case k1 => k_asm); (case k2 => k_asm); (case k3 => exact News.isList (by k_asm) (by k_mem)); (case z => (rw [List.size_toArray, sizeLine_eq]; omega)))); intro D' c' h' F' N' l1))
section
variable {w : World} {mg mb : Str → Option Value} {mean : ExcName → Option Value} {A : Around} {E : Value → Shared → Prop} {s : Shared} {h₀ : Heap} {L D fa : Addr} {cd : Value} {m : Str → Option Value} {news rest : List (Addr × Obj)} {c : Nat} {Q : Flow → Shared → Prop} {vs : List Value} {n : Int} {t : Tok}
set_option maxHeartbeats 4000000 in
theorem s_k (X : (hd.heap_39 w.params).In h₀) (T : Top hd.view_39 (looseW hd.view_39 []) mean mg mb h₀) (F : Fr h₀ L s.heap m) (N : News h₀ L s.heap news) (hnum : m (Str.ofString "number") = some (.int n t))
    (h : ∀ h' tk t', Fr h₀ L h' (fun y => if y = Str.ofString "k" then some (.int (kOf n : Int) t') else m y) → News h₀ L h' news → Q .next { s with heap := h', toks := tk }) :
    wpAny (model Challenge.rw_fe0236_01.row.prog w) A (exec (loopSt 0) (envL L fa cd)) Q E s := by
  revert X
  k_fill
  intro X
  dsimp only [loopSt, loopBody, lawStmts, envL, scL, Challenge.pw_fe0236_01, stmtAt, bodyOf, scopeOf, Option.getD]
  k_steps
  rename_i h' F' N'
  rw [kOf_eq] at F'
  exact h _ _ _ F' N'
set_option maxHeartbeats 4000000 in
theorem s_before (X : (hd.heap_39 w.params).In h₀) (T : Top hd.view_39 (looseW hd.view_39 []) mean mg mb h₀) (F : Fr h₀ L s.heap m) (N : News h₀ L s.heap ((D, W.listOf vs.toArray c) :: rest)) (hst : m (Str.ofString "stack") = some (.ref D)) (hz : vs.length ≤ 100)
    (h : ∀ h' tk B c', Fr h₀ L h' (fun y => if y = Str.ofString "before" then some (.ref B) else m y) → News h₀ L h' ((B, W.listOf vs.toArray c') :: (D, W.listOf vs.toArray c) :: rest) → (∀ p ∈ (D, W.listOf vs.toArray c) :: rest, p.1 < B) → Q .next { s with heap := h', toks := tk }) :
    wpAny (model Challenge.rw_fe0236_01.row.prog w) A (exec (loopSt 1) (envL L fa cd)) Q E s := by
  revert X
  k_fill
  intro X
  dsimp only [loopSt, loopBody, lawStmts, envL, scL, Challenge.pw_fe0236_01, stmtAt, bodyOf, scopeOf, Option.getD]
  k_steps
  exact h _ _ _ _ (by with_reducible assumption) (by with_reducible assumption) (by with_reducible assumption)
end
end Mine
namespace Mine
theorem entry_unchain : entryFor table "proto.unchain" = some Builtin.«proto.unchain» := by first | exact entryFor_of_fast (by kernel_rfl) | exact entryFor_of_tree (by kernel_rfl)
theorem plain_unchain : plainId "proto.unchain" = true := by decide +kernel
section
variable {prog : Program} {w : World} {A : Around} {E : Value → Shared → Prop} {s : Shared}
theorem unchain_none {e' e : Addr} {oe : Obj} {Q : Value → Shared → Prop} (he : s.heap.get? e = some oe) (hf : F2 oe) (h : Q .none s) :
    wpAny (model prog w) A (runValue (.builtin "proto.unchain" ⟨[.ref e', .ref e, .ref e, .bool false], []⟩)) Q E s := by
  obtain ⟨vs, hd, h2⟩ := hf
  refine wpAny_runValue (codeAny_builtin entry_unchain ?_)
  rw [Around.under_plainId plain_unchain _]
  show wpAny _ _ (field (.ref e) 2 >>= _) _ _ s
  refine wpAny_bind (wpAny_field he hd h2 ?_)
  rw [if_pos (by decide)]
  exact wpAny_pure h
theorem raiseNew_held {α : Type} {e' e : Addr} {oe o' : Obj} {vs : Array Value} {Q : α → Shared → Prop} (hh : A.handled = some (.ref e)) (hne : e ≠ e') (he : s.heap.get? e = some oe) (hf : F2 oe) (ho : s.heap.get? e' = some o') (hd : o'.data = .fields vs) (hz : 2 < vs.size)
    (h : E (.ref e') { s with heap := s.heap.update e' (Obj.mapFields (·.setIfInBounds 2 (.ref e))) }) : wpAny (model prog w) A (raiseNew (.ref e') : Sem α) Q E s := by
  unfold raiseNew
  refine wpAny_bind (wpAny_handled ?_)
  rw [hh]
  dsimp only
  rw [if_pos (show (Value.ref e != Value.ref e') = true from by simpa using hne)]
  refine wpAny_bind (wpAny_holding (unchain_none he hf ?_))
  unfold updateField
  refine wpAny_bind (wpAny_bind (wpAny_load ho ?_))
  rw [hd]
  dsimp only
  rw [if_pos hz]
  exact wpAny_update ho (wpAny_throw h)
theorem stop_held {α : Type} {e : Addr} {oe X : Obj} {T : Heap} {vs : Array Value} {Q : α → Shared → Prop} {Q₂ : Option Value → Shared → Prop} {A₂ : Around} (hh : A.handled = some (.ref e)) (he : T.get? e = some oe) (hf : F2 oe) (hX : X.cls = .type "StopIteration") (hd : X.data = .fields vs) (hz : 2 < vs.size)
    (h : ∀ h', (∀ b o, T.get? b = some o → h'.get? b = some o) → Q₂ none { s with heap := h' }) :
    wpAny (model prog w) A (raiseNew (.ref T.objs.size) : Sem α) Q (fun x s' => wpAny (model prog w) A₂ (isInstance x (.type "StopIteration") >>= fun b => if b = true then (pure none : Sem (Option Value)) else throw x) Q₂ E s') { s with heap := T.push X } := by
  have hfree : X.isFreed = false := Obj.isFreed_of_fields hd
  have hn : T.objs.size ≠ e := Nat.ne_of_gt (Heap.lt_size he)
  have ho := Heap.get?_push_size T hfree
  refine raiseNew_held (s := { s with heap := T.push X }) hh (Ne.symm hn) (Heap.get?_push_of_some _ he) hf ho hd hz ?_
  have hd' := Obj.data_mapFields hd (·.setIfInBounds 2 (Value.ref e))
  refine wpAny_bind (wpAny_isInstance (T := "StopIteration") (b := true) ⟨_, Heap.get?_update_self _ ho (Obj.isFreed_of_fields hd'), (Obj.cls_mapFields _ _).trans hX⟩ isSubtype_stop ?_)
  rw [if_pos rfl]
  refine wpAny_pure (h _ fun b o hb => ?_)
  rw [Heap.get?_update_other _ _ (Nat.ne_of_gt (Heap.lt_size hb))]
  exact Heap.get?_push_of_some _ hb
theorem next_end_held {it l e : Addr} {i : Nat} {items : Array Value} {oe : Obj} {Q : Option Value → Shared → Prop} (hh : A.handled = some (.ref e)) (he : s.heap.get? e = some oe) (hf : F2 oe) (hne : e ≠ it)
    (hit : s.heap.IsListIter it l i) (hl : s.heap.IsList l items) (hx : items[i]? = none)
    (hQ : ∀ h', Heap.ExtBut it s.heap h' → Q none { s with heap := h' }) : wpAny (model prog w) A (pyNext (.ref it)) Q E s := by
  obtain ⟨o, ho, hc, hd⟩ := id hit
  obtain ⟨ol, hol, _, nl, hdl⟩ := hl
  unfold pyNext
  refine wpAny_bind (wpAny_attempt (wpAny_callSpecial?_slot (name := Str.ofString "__next__") hit.typeIs slot_listiter_next
    (wpAny_call_entry slot_listiter_next hit.typeIs entry_listiter_next ?_ (args_listiter_next _))))
  show wpAny _ _ (field (.ref it) 0 >>= _) _ _ s
  refine wpAny_bind (wpAny_field ho hd (x := .ref l) rfl ?_)
  show wpAny _ _ (if (Value.ref l == Value.none) = true then _ else _) _ _ s
  rw [if_neg (show ¬ ((Value.ref l == Value.none) = true) from Bool.false_ne_true)]
  show wpAny _ _ (field (.ref it) 1 >>= _) _ _ s
  refine wpAny_bind (wpAny_field ho hd (x := .int i 0) rfl ?_)
  show wpAny _ _ (seqItems? (.ref l) >>= _) _ _ s
  refine wpAny_bind (wpAny_seqItems hol hdl ?_)
  simp only [Int.toNat_natCast, hx]
  refine wpAny_bind (wpAny_rule (wpAny_bind (wpAny_setField ho hd (by simp) ?_)))
  show wpAny _ _ (newExc (.type "StopIteration") [] >>= _) _ _ _
  refine wpAny_bind ?_
  simp only [newExc, newTuple]
  refine wpAny_bind (wpAny_newObj_type ?_ (by size_fits))
  refine wpAny_bind (m := firstArgMember _ _) (wpAny_of_eq (a := Value.none) (by first | rfl | (simp only [firstArgMember]; rfl)) ?_)
  refine wpAny_newObj_type ?_ (by size_fits)
  refine stop_held (A := A.in1) (T := (s.heap.update it (Obj.mapFields (·.setIfInBounds 0 .none))).push { cls := .type "tuple", data := .seq #[] }) hh (Heap.get?_push_of_some _ ((Heap.get?_update_other _ _ (Ne.symm hne)).trans he)) hf rfl rfl (by simp; omega) fun h' hk => hQ h' fun b o' hb eb => hk b o' (Heap.get?_push_of_some _ ((Heap.get?_update_other _ _ (Ne.symm hb)).trans eb))
/-- the loop of bytes(list), at the list's end, while e is handled -/
theorem bytes_end {R : Result → Shared → Prop} {l I S e : Addr} {oe : Obj} {i : Nat} {items : Array Value} {arr : Array UInt8} (hh : A.handled = some (.ref e)) (he : s.heap.get? e = some oe) (hf : F2 oe) (hne : e ≠ I) (hIS : I ≠ S) (hz : arr.size ≤ 1000)
    (hl : s.heap.IsList l items) (hit : s.heap.IsListIter I l i) (hx : items[i]? = none) (hS : s.heap.get? S = some { cls := .type "bytearray", data := .bytearray arr })
    (hR : ∀ h' t k', (∀ b o, b ≠ I → s.heap.get? b = some o → h'.get? b = some o) → R (.ok (.ret (.bytes arr t))) { s with heap := h', toks := k' }) :
    codeAny (model prog w) A (.builtin "bytes.__new__.loop" ⟨[.type "bytes", .ref I, .ref S], []⟩) R s := by
  refine codeAny_builtin F.bm_entry_loop ?_
  rw [Around.under_plainId F.bm_plain_loop _]
  show wpAny _ A.in1 (pyNext (.ref I) >>= _) _ _ s
  refine wpAny_bind (next_end_held (A := A.in1) hh he hf hne hit hl hx fun h' hk => ?_)
  have hS' := hk S _ (Ne.symm hIS) hS
  refine wpAny_bind ?_
  unfold Builtin.Bytes.payload Builtin.Bytes.payload?
  refine wpAny_bind (wpAny_bind (wpAny_load hS' ?_))
  refine wpAny_pure (wpAny_pure ?_)
  refine wpAny_bind (wpAny_mkBytes ?_ (by rw [sizeLine_eq]; omega))
  show wpAny _ _ (if (Value.type "bytes" == Value.type "bytes") = true then _ else _) _ _ _
  rw [if_pos (by decide)]
  exact wpAny_pure (hR h' _ _ fun b o hb e => hk b o hb e)
/-- its turn on the only item -/
theorem bytes_turn {R : Result → Shared → Prop} {l I S e : Addr} {oe : Obj} {x : Int} {t : Tok} (hh : A.handled = some (.ref e)) (he : s.heap.get? e = some oe) (hf : F2 oe) (hne : e ≠ I) (hnS : e ≠ S) (hIS : I ≠ S) (hlI : l ≠ I) (hlS : l ≠ S) (h0 : 0 ≤ x) (h1 : x < 256)
    (hl : s.heap.IsList l #[.int x t]) (hit : s.heap.IsListIter I l 0) (hS : s.heap.get? S = some { cls := .type "bytearray", data := .bytearray #[] })
    (hR : ∀ h' t k', (∀ b o, b ≠ I → b ≠ S → s.heap.get? b = some o → h'.get? b = some o) → R (.ok (.ret (.bytes #[x.toNat.toUInt8] t))) { s with heap := h', toks := k' }) :
    codeAny (model prog w) A (.builtin "bytes.__new__.loop" ⟨[.type "bytes", .ref I, .ref S], []⟩) R s := by
  refine codeAny_builtin F.bm_entry_loop ?_
  rw [Around.under_plainId F.bm_plain_loop _]
  show wpAny _ A.in1 (pyNext (.ref I) >>= _) _ _ s
  refine wpAny_bind (wpAny_pyNext_list_item (x := .int x t) hit hl rfl fun h' hit' hs => ?_)
  have hS' := (hs.2 S (Ne.symm hIS)).trans hS
  refine wpAny_bind (wpAny_holding (wpAny_of_eq (rfl : asIndex (.int x t) = pure x) ?_))
  refine wpAny_bind (wpAny_letGo ?_)
  refine bm_if_false (by simp only [Bool.or_eq_false_iff, decide_eq_false_iff_not]; omega) ?_
  refine wpAny_bind ?_
  show wpAny _ _ (updateBytearray S (·.push x.toNat.toUInt8)) _ _ _
  unfold updateBytearray
  refine wpAny_bind (wpAny_load hS' ?_)
  show wpAny _ _ (update S (Obj.mapBytearray (·.push x.toNat.toUInt8)) >>= fun _ => lookBehind S) _ _ _
  refine wpAny_bind (wpAny_update hS' ?_)
  have hS₂ : (h'.update S (Obj.mapBytearray (·.push x.toNat.toUInt8))).get? S = some { cls := .type "bytearray", data := .bytearray #[x.toNat.toUInt8] } := Heap.get?_update_self (Obj.mapBytearray (·.push x.toNat.toUInt8)) hS' rfl
  refine wpAny_lookBehind hS₂ rfl ?_
  refine wpAny_pure ⟨plainId_quiet F.bm_plain_loop _, bytes_end (l := l) (i := 1) (items := #[.int x t]) (s := { s with heap := h'.update S (Obj.mapBytearray (·.push x.toNat.toUInt8)) }) hh ?_ hf hne hIS (Nat.le_of_ble_eq_true rfl) ?_ ?_ rfl hS₂ fun h3 t' k' hk3 => ?_⟩
  · exact (Heap.get?_update_other _ _ (Ne.symm hnS)).trans ((hs.2 e hne).trans he)
  · exact (hl.extBut hs.extBut hlI).extBut (Heap.SameBut.update ..).extBut hlS
  · exact hit'.extBut (Heap.SameBut.update ..).extBut hIS
  · exact hR h3 t' k' fun b o hbI hbS eb => hk3 b o hbI ((Heap.get?_update_other _ _ (Ne.symm hbS)).trans (hs.extBut b o hbI eb))
theorem bytes_new_held {l e : Addr} {oe : Obj} {x : Int} {t : Tok} {Q : Value → Shared → Prop} (hh : A.handled = some (.ref e)) (he : s.heap.get? e = some oe) (hf : F2 oe) (hl : s.heap.IsList l #[.int x t]) (h0 : 0 ≤ x) (h1 : x < 256)
    (hQ : ∀ h' t k, (∀ b o, s.heap.get? b = some o → h'.get? b = some o) → Q (.bytes #[x.toNat.toUInt8] t) { s with heap := h', toks := k }) :
    codeAny (model prog w) A (.call (.builtin "bytes.__new__") ⟨[.type "bytes", .ref l], []⟩) (wants Q E) s := by
  refine codeAny_of_tree ?_
  show wpAny _ A.in1 (do checkBuiltinCall "bytes.__new__" ⟨[.type "bytes", .ref l], []⟩; again (.builtin "bytes.__new__" ⟨[.type "bytes", .ref l], []⟩)) _ _ s
  refine wpAny_bind (wpAny_of_eq (F.bm_newCall _) (wpAny_pure ⟨plainId_quiet F.bm_plain _, codeAny_builtin F.bm_entry ?_⟩))
  rw [Around.under_plainId F.bm_plain _]
  have hT : s.TypeIs (.ref l) "list" := hl.typeIs
  obtain ⟨ol, hol, hoc, nl, hod⟩ := id hl
  unfold Builtin.«bytes.__new__»
  refine wpAny_bind (wpAny_of_eq (a := true) rfl (bm_if_false rfl ?_))
  refine wpAny_bind (wpAny_of_eq F.bm_sub (bm_if_false rfl ?_))
  refine wpAny_bind (wpAny_of_eq (F.bm_bind _) ?_)
  refine wpAny_bind (wpAny_of_eq (a := ()) rfl (wpAny_bind (wpAny_of_eq (a := ()) rfl (bm_if_false rfl ?_))))
  refine wpAny_bind (wpAny_specialOf hT F.bm_no_bytes ?_)
  refine wpAny_bind (wpAny_bind ?_)
  show wpAny _ _ (load l >>= _) _ _ _
  refine wpAny_bind (wpAny_load hol ?_)
  rw [hod]
  refine wpAny_pure (wpAny_pure (bm_if_false rfl ?_))
  refine wpAny_bind (wpAny_specialOf hT F.bm_no_index (bm_if_true rfl ?_))
  first
    | show wpAny _ _ (Builtin.Bytes.buffer? "bytes.__new__" (.ref l) true >>= _) _ _ _
    | (refine wpAny_bind ?_; show wpAny _ _ (Builtin.Bytes.buffer? "bytes.__new__" (.ref l) true >>= _) _ _ _)
  refine wpAny_bind ?_
  unfold Builtin.Bytes.buffer?
  refine wpAny_bind (wpAny_specialOf hT F.bm_no_buffer (wpAny_bind (wpAny_specialOf hT F.bm_no_buffer (wpAny_pure ?_))))
  refine wpAny_bind (wpAny_tryCatch (wpAny_pyIter_list hl ?_))
  have hl₁ : (s.heap.push { cls := .type "list_iterator", data := .fields #[.ref l, .int 0 0] }).IsList l #[.int x t] := hl.push _
  have hT₁ := Heap.IsList.typeIs (s := { s with heap := s.heap.push { cls := .type "list_iterator", data := .fields #[.ref l, .int 0 0] } }) hl₁
  refine wpAny_bind (wpAny_holding ?_)
  unfold Builtin.Bytes.lengthHint
  refine wpAny_bind (wpAny_specialOf hT₁ slot_list_len.lookup ?_)
  dsimp only
  rw [F.bm_split]
  dsimp only
  refine wpAny_bind (wpAny_isInstance hT₁ F.bm_sub_list (bm_if_false rfl (bm_if_true (by decide +kernel) (wpAny_pure ?_))))
  refine wpAny_bind ?_
  unfold Builtin.Bytes.newBytearray
  refine wpAny_newObj_type ?_ (Nat.zero_le _)
  have hlt : l < s.heap.objs.size := Heap.lt_size hol
  have hlte : e < s.heap.objs.size := Heap.lt_size he
  have hsz : (s.heap.push { cls := .type "list_iterator", data := .fields #[.ref l, .int 0 0] }).objs.size = s.heap.objs.size + 1 := Heap.size_push _ _
  have main := bytes_turn (prog := prog) (w := w) (A := A) (R := wants Q E) (l := l) (I := s.heap.objs.size) (S := (s.heap.push { cls := .type "list_iterator", data := .fields #[.ref l, .int 0 0] }).objs.size) (s := { s with heap := (s.heap.push { cls := .type "list_iterator", data := .fields #[.ref l, .int 0 0] }).push { cls := .type "bytearray", data := .bytearray #[] } })
    hh (Heap.get?_push_of_some _ (Heap.get?_push_of_some _ he)) hf (Nat.ne_of_lt hlte) (by rw [hsz]; exact Nat.ne_of_lt (Nat.lt_succ_of_lt hlte)) (by rw [hsz]; exact Nat.ne_of_lt (Nat.lt_succ_self _)) (Nat.ne_of_lt hlt) (by rw [hsz]; exact Nat.ne_of_lt (Nat.lt_succ_of_lt hlt)) h0 h1
    (hl₁.push _) ⟨_, Heap.get?_push_of_some _ (Heap.get?_push_size _ rfl), rfl, rfl⟩ (Heap.get?_push_size _ rfl)
    fun h' t k hk => hQ h' t k fun b o eb => hk b o (Nat.ne_of_lt (Heap.lt_size eb)) (by rw [hsz]; exact Nat.ne_of_lt (Nat.lt_succ_of_lt (Heap.lt_size eb))) (Heap.get?_push_of_some _ (Heap.get?_push_of_some _ eb))
  first
    | exact wpAny_pure ⟨plainId_quiet F.bm_plain_loop _, main⟩
    | exact wpAny_pure (wpAny_pure ⟨plainId_quiet F.bm_plain_loop _, main⟩)
/-- bytes([x]) while an exception is handled whose context is None -/
theorem bytes_held {l e : Addr} {oe : Obj} {x : Int} {t : Tok} {Q : Value → Shared → Prop} (hh : A.handled = some (.ref e)) (he : s.heap.get? e = some oe) (hf : F2 oe) (hl : s.heap.IsList l #[.int x t]) (h0 : 0 ≤ x) (h1 : x < 256)
    (hQ : ∀ h' t k, (∀ b o, s.heap.get? b = some o → h'.get? b = some o) → Q (.bytes #[x.toNat.toUInt8] t) { s with heap := h', toks := k }) : wpAny (model prog w) A (call (.type "bytes") [.ref l]) Q E s := by
  refine callType_codes (Q₁ := fun obj s₁ => s₁.TypeIs obj "bytes" ∧ Q obj s₁) F.bm_called (F.bm_typeCall _) F.entry_object_init
    (bytes_new_held hh he hf hl h0 h1 fun h' t k hk => ⟨PySem.W.typeIs_bytes _ _ _, hQ h' t k hk⟩) fun obj s₁ h₁ => ?_
  exact ⟨h₁.1, F.args_object_init_2 obj _, object_init_meets F.bm_called.init.lookup F.bm_called.made (by decide) prog w A.in1 _ s₁ ⟨h₁.1, rfl, h₁.2⟩⟩
end
end Mine
namespace Mine
def handOf : Stmt → List Stmt
  | .Try _ [.ExceptHandler _ _ b _] _ _ _ => b
  | _ => []
def handBody : List Stmt := handOf (loopSt 2)
theorem needs_get {t0 t1 t2 t3 t4 t5 t6 t7 t8 t9 t10 t11 t12 t13 t14 : Tok} {k : Nat} (h : k < 15) : ∃ t, ([Value.int 2 t0, Value.int 2 t1, Value.int 3 t2, Value.int 4 t3, Value.int 6 t4, Value.int 4 t5, Value.int 1 t6, Value.int 1 t7, Value.int 1 t8, Value.int 2 t9, Value.int 2 t10, Value.int 3 t11, Value.int 2 t12, Value.int 2 t13, Value.int 0 t14] : List Value)[k]? = some (.int (need k : Int) t) := by
  revert k
  refine @fifteen _ ?_ ?_ ?_ ?_ ?_ ?_ ?_ ?_ ?_ ?_ ?_ ?_ ?_ ?_ ?_ <;> exact ⟨_, rfl⟩
section
variable {prog : Program} {w : World} {A : Around} {E : Value → Shared → Prop} {s : Shared} {h₀ : Heap} {L D : Addr} {news : List (Addr × Obj)} {n : Nat} {m : Str → Option Value} {Q : Value → Shared → Prop}
theorem r_needs {value slice : PySem.Expr} {ws : List Value} {x : Int} {k : Nat} {u : Tok} (N : News h₀ L s.heap news) (hm : (D, W.listOf ws.toArray n) ∈ news) (hx : ∃ t, ws[k]? = some (.int x t)) (hk : k < 15) (h : ∀ t, Q (.int x t) s)
    (hs : subscripted slice false (.ref D) (.int (k : Int) u) = operate [.ref D, .int (k : Int) u] (getItem (.ref D) (.int (k : Int) u)) := by with_unfolding_all rfl) :
    wpAny (model prog w) A (subscriptTail value slice (.ref D) (.int (k : Int) u)) Q E s := by
  obtain ⟨t, ht⟩ := hx
  exact r_at N hm ht (by omega) (h t) hs
theorem r_word {value slice : PySem.Expr} {ws : List Value} {k : Nat} {u : Tok} (N : News h₀ L s.heap news) (hm : (D, W.listOf ws.toArray n) ∈ news) (hi : StrsAre ws WORDS) (hk : k < 15) (h : ∀ t, Q (.str (wordAt k) t) s)
    (hs : subscripted slice false (.ref D) (.int (k : Int) u) = operate [.ref D, .int (k : Int) u] (getItem (.ref D) (.int (k : Int) u)) := by with_unfolding_all rfl) :
    wpAny (model prog w) A (subscriptTail value slice (.ref D) (.int (k : Int) u)) Q E s := by
  obtain ⟨t, ht⟩ := strs_get hi k _ (words_at hk)
  exact r_at N hm ht (by omega) (h t) hs
theorem r_bytes {l e : Addr} {oe : Obj} {x : Int} {t : Tok} (F : Fr h₀ L s.heap m) (N : News h₀ L s.heap news) (hh : A.handled = some (.ref e)) (he : (e, oe) ∈ news) (hf : F2 oe) (hl : (l, W.listOf #[.int x t] n) ∈ news) (h0 : 0 ≤ x) (h1 : x < 256)
    (hQ : ∀ h' t k, Fr h₀ L h' m → News h₀ L h' news → Q (.bytes #[x.toNat.toUInt8] t) { s with heap := h', toks := k }) : wpAny (model prog w) A (call (.type "bytes") [.ref l]) Q E s :=
  bytes_held hh (N _ he).1 hf (N.isList hl) h0 h1 fun h' t k hk => hQ h' t k (F.keptAll hk) (N.grown hk)
end
theorem five_lo (n : Int) : 0 ≤ n.fmod 5 + 97 := by have := fmod_lo n (n := 5) (by decide); omega
theorem five_hi (n : Int) : n.fmod 5 + 97 < 256 := by have := fmod_hi n (n := 5) (by decide); omega
local macro_rules | `(tactic| walk_at "eval Name") => `(tactic| (k_here; k_dflt (refine' ld ?k1 ?k2 ?_; (case k1 => with_reducible assumption); (case k2 => assumption); k_whole)))
local macro_rules | `(tactic| k_room) => `(tactic| ((simp only [depth_mark, depth_under_make, depth_under_kw, depth_in1, depth_deeper, depth_caller, recursionLimit]); omega))
local macro_rules | `(tactic| k_enter) => `(tactic| (refine' code_def ?k1 ?k2 ?k3 ?k4 ?k5 ?kA ?kF ?kK ?k6 ?k7 ?k8 ?k9 ?kB ?_ ?c2 ?c3 ?c4 ?c5; (case k2 => k_asm); (case k1 => k_asm); (case kA => first | exact rfl | exact Around.frames_deeper (by assumption) | exact Around.frames_deeper (Below.stack (by assumption))); (case kF => exact rfl); (case kK => exact rfl); (case k3 => k_asm); (case k4 => k_asm); (case k5 => k_asm); (case k6 => k_is); (case k7 => k_is); (case k8 => k_room); (case k9 => exact BindsTo.of_eq rfl); (case c5 => decide); (case kB => exact locs rfl); (case c2 => exact rfl); (case c3 => exact rfl); (case c4 => exact rfl); k_whole; intro g' L' h' FG' F' N' B' X' T'; (try dsimp only); (try k_fold)))
local macro_rules | `(tactic| walk_at "subscriptTail") => `(tactic| (k_here; (with_reducible show wpAny _ _ (subscriptTail _ _ (Value.ref _) (Value.int _ _)) _ _ _); (with_unfolding_all refine' r_needs ?N ?m ?x ?k ?_ ?s; (case N => with_reducible assumption); (case m => k_mem); (case k => assumption); (case x => exact needs_get (by assumption)); (case s => with_unfolding_all rfl)); intro t'))
local macro_rules | `(tactic| walk_at "call builtin:len") => `(tactic| (k_here; (with_reducible show wpAny _ _ (call (Value.builtin _) [Value.ref _]) _ _ _); (with_unfolding_all refine' r_len ?N ?m ?z ?_; (case N => with_reducible assumption); (case m => k_mem); (case z => omega); k_whole)))
local macro_rules | `(tactic| walk_at "call type:list") => `(tactic| (k_here; (with_reducible show wpAny _ _ (call (Value.type _) [Value.ref _]) _ _ _); (with_unfolding_all (refine' list_copyK ?k1 ?k2 ?k3 ?_ ?z; (case k1 => k_asm); (case k2 => k_asm); (case k3 => exact News.isList (by k_asm) (by k_mem)); (case z => (rw [List.size_toArray, sizeLine_eq]; omega)))); intro D' c' h' F' N' l1))
local macro_rules | `(tactic| walk_at "call type:bytes") => `(tactic| (k_here; k_dflt (refine' r_bytes ?F ?N ?hh ?he ?hf ?hl ?h0 ?h1 ?_; (case hh => exact rfl); (case F => with_reducible assumption); (case N => with_reducible assumption); (case hf => assumption); (case he => k_mem); (case hl => k_mem); (case h0 => exact five_lo _); (case h1 => exact five_hi _)); intro h' tb' tk' F' N'))
local macro_rules | `(tactic| walk_at "binaryOp Add ref ref") => `(tactic| (k_here; k_dflt (refine' r_addL ?F ?N ?m ?z ?_; (case N => with_reducible assumption); (case F => with_reducible assumption); (case m => k_mem); (case z => ((try simp only [List.length_cons, List.length_nil]); omega))); intro D' h' F' N' l1; (try k_sweep)))
section
variable {w : World} {mg mb : Str → Option Value} {mean : ExcName → Option Value} {A₀ : Around} {E : Value → Shared → Prop} {s : Shared} {h₀ : Heap} {outer : List Env} {L Bf fa e : Addr} {oe : Obj} {cd : Value} {m : Str → Option Value} {rest : List (Addr × Obj)} {cb : Nat} {Q : Flow → Shared → Prop} {vs : List Value} {n : Int} {t tk0 : Tok} {kk : Nat}
set_option maxHeartbeats 8000000 in
theorem s_hand (K0 : Below A₀ h₀ outer h₀) (X : (hd.heap_39 w.params).In h₀) (T : Top hd.view_39 (looseW hd.view_39 []) mean mg mb h₀) (F : Fr h₀ L s.heap m)
    (N : News h₀ L s.heap ((e, oe) :: (Bf, W.listOf vs.toArray cb) :: rest)) (hf : F2 oe)
    (hroom : A₀.depth < 400) (hu : A₀.units < 20) (hbf : m (Str.ofString "before") = some (.ref Bf)) (hnum : m (Str.ofString "number") = some (.int n t)) (hkk : m (Str.ofString "k") = some (.int (kk : Int) tk0)) (hk15 : kk < 15) (hz : vs.length ≤ 100) (hlt : vs.length < need kk)
    (hC : ∀ h' tk D' b tb, Fr h₀ L h' (fun y => if y = Str.ofString "stack" then some (.ref D') else m y) → News h₀ L h' ((D', W.listOf (vs ++ [Value.bytes b tb]).toArray 0) :: (Bf, W.listOf vs.toArray cb) :: rest) → (∀ p ∈ (Bf, W.listOf vs.toArray cb) :: rest, p.1 < D') → b.size = 1 → Q .cont { s with heap := h', toks := tk }) :
    wpAny (model Challenge.rw_fe0236_01.row.prog w) ((A₀.deeper (envL L fa cd)).mark (some (.ref e))) (execs handBody (envL L fa cd)) Q E s := by
  revert X
  k_fill
  intro X
  dsimp only [handBody, handOf, loopSt, loopBody, lawStmts, envL, scL, Challenge.pw_fe0236_01, stmtAt, bodyOf, scopeOf, Option.getD]
  k_steps
  rename_i D' _ l1 h2 F2x N2
  refine hC _ _ _ #[(n.fmod 5 + 97).toNat.toUInt8] _ F2x (cb_drop N2 (List.forall_mem_cons.mpr ⟨.head _, ?_⟩)) ?_ rfl
  · k_sub
  · exact fun p hp => l1 p (.tail _ (.tail _ (.tail _ (.tail _ hp))))
end
end Mine
namespace Mine
local macro_rules | `(tactic| walk_at "eval Name") => `(tactic| (k_here; k_dflt (refine' ld ?k1 ?k2 ?_; (case k1 => with_reducible assumption); (case k2 => assumption); k_whole)))
local macro_rules | `(tactic| k_room) => `(tactic| ((simp only [depth_mark, depth_under_make, depth_under_kw, depth_in1, depth_deeper, depth_caller, recursionLimit]); omega))
local macro_rules | `(tactic| k_enter) => `(tactic| (refine' code_def ?k1 ?k2 ?k3 ?k4 ?k5 ?kA ?kF ?kK ?k6 ?k7 ?k8 ?k9 ?kB ?_ ?c2 ?c3 ?c4 ?c5; (case k2 => k_asm); (case k1 => k_asm); (case kA => first | exact rfl | exact Around.frames_deeper (by assumption) | exact Around.frames_deeper (Below.stack (by assumption))); (case kF => exact rfl); (case kK => exact rfl); (case k3 => k_asm); (case k4 => k_asm); (case k5 => k_asm); (case k6 => k_is); (case k7 => k_is); (case k8 => k_room); (case k9 => exact BindsTo.of_eq rfl); (case c5 => decide); (case kB => exact locs rfl); (case c2 => exact rfl); (case c3 => exact rfl); (case c4 => exact rfl); k_whole; intro g' L' h' FG' F' N' B' X' T'; (try dsimp only); (try k_fold)))
local macro_rules | `(tactic| walk_at "subscriptTail") => `(tactic| (k_here; (with_reducible show wpAny _ _ (subscriptTail _ _ (Value.ref _) (Value.int _ _)) _ _ _); (with_unfolding_all refine' r_word ?N ?m ?i ?k ?_ ?s; (case N => with_reducible assumption); (case m => k_mem); (case i => exact words_are); (case k => assumption); (case s => with_unfolding_all rfl)); intro t'))
section
variable {w : World} {mg mb : Str → Option Value} {mean : ExcName → Option Value} {A₀ : Around} {s : Shared} {h₀ : Heap} {outer : List Env} {L D Bf fa : Addr} {cd : Value} {m : Str → Option Value} {rest : List (Addr × Obj)} {c cb : Nat} {Q : Flow → Shared → Prop} {vs : List Value} {n : Int} {t tk0 : Tok} {kk : Nat}
set_option maxHeartbeats 8000000 in
theorem s_try (K0 : Below A₀ h₀ outer h₀) (X : (hd.heap_39 w.params).In h₀) (T : Top hd.view_39 (looseW hd.view_39 []) mean mg mb h₀) (F : Fr h₀ L s.heap m)
    (N : News h₀ L s.heap ((D, W.listOf vs.toArray c) :: (Bf, W.listOf vs.toArray cb) :: rest)) (hr : ∀ p ∈ (Bf, W.listOf vs.toArray cb) :: rest, p.1 ≠ D)
    (hroom : A₀.depth < 400) (hu : A₀.units < 20) (hh : A₀.handled = none) (hst : m (Str.ofString "stack") = some (.ref D)) (hbf : m (Str.ofString "before") = some (.ref Bf)) (hnum : m (Str.ofString "number") = some (.int n t)) (hkk : m (Str.ofString "k") = some (.int (kk : Int) tk0)) (hk15 : kk < 15) (hz : vs.length ≤ 100) (hb : BY vs)
    (hQ : need kk ≤ vs.length → ∀ h' tk c', Fr h₀ L h' m → News h₀ L h' ((D, W.listOf (opf kk vs).toArray c') :: (Bf, W.listOf vs.toArray cb) :: rest) → Q .next { s with heap := h', toks := tk })
    (hC : vs.length < need kk → ∀ h' tk D' b tb, Fr h₀ L h' (fun y => if y = Str.ofString "stack" then some (.ref D') else m y) → News h₀ L h' ((D', W.listOf (vs ++ [Value.bytes b tb]).toArray 0) :: (Bf, W.listOf vs.toArray cb) :: rest) → (∀ p ∈ (Bf, W.listOf vs.toArray cb) :: rest, p.1 < D') → b.size = 1 → Q .cont { s with heap := h', toks := tk }) :
    wpAny (model Challenge.rw_fe0236_01.row.prog w) (A₀.deeper (envL L fa cd)) (exec (loopSt 2) (envL L fa cd)) Q (fun _ _ => False) s := by
  revert X
  k_fill
  intro X
  dsimp only [loopSt, loopBody, lawStmts, envL, scL, Challenge.pw_fe0236_01, stmtAt, bodyOf, scopeOf, Option.getD]
  repeat' (first | (k_unfold; (try dsimp only)) | (k_end; wrow_close) | ((fail_if_success (with_reducible show wpAny _ _ (call (Value.ref 195) _) _ _ _)); walk1))
  refine' law_call (base := h₀) (outer := outer) (rest := (Bf, W.listOf vs.toArray cb) :: rest) (vs := vs) (c := c) kk hk15 K0 ?F ?X hr ?T ?hA ?hf ?hk ?hroom ?hh ?N hz hb ?hQ ?hE
  case F => with_reducible assumption
  case X => with_reducible assumption
  case T => with_reducible assumption
  case hA => exact Around.frames_deeper K0.stack
  case hf => exact rfl
  case hk => exact rfl
  case hroom => k_room
  case hh => exact hh
  case N => exact cb_drop (by with_reducible assumption) (by k_sub)
  · intro hn h' tk' c' F' N'
    k_steps
    exact hQ hn _ _ _ F' N'
  · intro hn h' tk' e g F' R' U'
    dsimp only
    refine caught_X K0 F' U' R' (topRead_of T) ?_
    intro h6 oe F6 N6 hf
    exact s_hand K0 (by with_reducible assumption) (by with_reducible assumption) F6 N6 hf hroom hu hbf hnum hkk hk15 hz hn (fun h7 tk7 D7 b7 tb7 F7 N7 l7 z7 => hC hn _ _ _ _ _ F7 N7 l7 z7)
end
end Mine
namespace Mine
section
variable {prog : Program} {w : World} {A : Around} {E : Value → Shared → Prop} {s : Shared} {h₀ : Heap} {L D r : Addr} {news : List (Addr × Obj)} {n : Nat} {m : Str → Option Value} {Q : Value → Shared → Prop}
theorem eqAt_self (v : Value) : SeqAt.EqAt A s v v true := fun prog w E Q h => by
  unfold eqBool
  refine wpAny_holding ?_
  rw [if_pos (show (v == v) = true from by simp)]
  exact wpAny_bind (wpAny_rule (wpAny_pure h))
theorem r_ne {xs : List Value} (N : News h₀ L s.heap news) (hD : (D, W.listOf xs.toArray n) ∈ news) (hr : s.heap.IsList r xs.toArray) (hu : A.units < cLine) (h : Q (.bool false) s) :
    wpAny (model prog w) A (compareOp .NotEq (.ref D) (.ref r)) Q E s :=
  SeqAt.RcNeAt.lists (N.isList hD) hr rfl hu (e := fun _ => true) (fun _ _ _ => eqAt_self _) prog w E Q (by rw [show (List.range xs.toArray.size).all (fun _ => true) = true from List.all_eq_true.mpr (fun _ _ => rfl)]; exact h)
end
local macro_rules | `(tactic| walk_at "eval Name") => `(tactic| (k_here; k_dflt (refine' ld ?k1 ?k2 ?_; (case k1 => with_reducible assumption); (case k2 => assumption); k_whole)))
local macro_rules | `(tactic| k_room) => `(tactic| ((simp only [depth_mark, depth_under_make, depth_under_kw, depth_in1, depth_deeper, depth_caller, recursionLimit]); omega))
local macro_rules | `(tactic| k_enter) => `(tactic| (refine' code_def ?k1 ?k2 ?k3 ?k4 ?k5 ?kA ?kF ?kK ?k6 ?k7 ?k8 ?k9 ?kB ?_ ?c2 ?c3 ?c4 ?c5; (case k2 => k_asm); (case k1 => k_asm); (case kA => first | exact rfl | exact Around.frames_deeper (by assumption) | exact Around.frames_deeper (Below.stack (by assumption))); (case kF => exact rfl); (case kK => exact rfl); (case k3 => k_asm); (case k4 => k_asm); (case k5 => k_asm); (case k6 => k_is); (case k7 => k_is); (case k8 => k_room); (case k9 => exact BindsTo.of_eq rfl); (case c5 => decide); (case kB => exact locs rfl); (case c2 => exact rfl); (case c3 => exact rfl); (case c4 => exact rfl); k_whole; intro g' L' h' FG' F' N' B' X' T'; (try dsimp only); (try k_fold)))
local macro_rules | `(tactic| walk_at "subscriptTail") => `(tactic| (k_here; (with_reducible show wpAny _ _ (subscriptTail _ _ (Value.ref _) (Value.int _ _)) _ _ _); (with_unfolding_all refine' r_needs ?N ?m ?x ?k ?_ ?s; (case N => with_reducible assumption); (case m => k_mem); (case k => assumption); (case x => exact needs_get (by assumption)); (case s => with_unfolding_all rfl)); intro t'))
local macro_rules | `(tactic| walk_at "subscriptTail") => `(tactic| (k_here; (with_reducible show wpAny _ _ (subscriptTail _ _ (Value.ref _) (Value.int _ _)) _ _ _); (with_unfolding_all refine' r_word ?N ?m ?i ?k ?_ ?s; (case N => with_reducible assumption); (case m => k_mem); (case i => exact words_are); (case k => assumption); (case s => with_unfolding_all rfl)); intro t'))
local macro_rules | `(tactic| walk_at "call builtin:len") => `(tactic| (k_here; (with_reducible show wpAny _ _ (call (Value.builtin _) [Value.ref _]) _ _ _); (with_unfolding_all refine' r_len ?N ?m ?z ?_; (case N => with_reducible assumption); (case m => k_mem); (case z => omega); k_whole)))
local macro_rules | `(tactic| walk_at "compareOp NotEq ref ref") => `(tactic| (k_here; k_dflt (refine' r_ne ?N ?m ?r ?u ?_; (case N => with_reducible assumption); (case r => with_reducible assumption); (case m => k_mem); (case u => ke_room); k_whole)))
section
variable {w : World} {mg mb : Str → Option Value} {mean : ExcName → Option Value} {A₀ : Around} {E : Value → Shared → Prop} {s : Shared} {h₀ : Heap} {outer : List Env} {L D Bf fa : Addr} {cd : Value} {m : Str → Option Value} {rest : List (Addr × Obj)} {c cb : Nat} {Q : Flow → Shared → Prop} {vs : List Value} {n : Int} {t tk0 : Tok} {kk : Nat}
set_option maxHeartbeats 8000000 in
theorem s_check (K0 : Below A₀ h₀ outer h₀) (X : (hd.heap_39 w.params).In h₀) (T : Top hd.view_39 (looseW hd.view_39 []) mean mg mb h₀) (F : Fr h₀ L s.heap m)
    (N : News h₀ L s.heap ((D, W.listOf (opf kk vs).toArray c) :: (Bf, W.listOf vs.toArray cb) :: rest)) (hr : ∀ p ∈ (D, W.listOf (opf kk vs).toArray c) :: rest, p.1 ≠ Bf)
    (hroom : A₀.depth < 400) (hu : A₀.units < 20) (hh : A₀.handled = none) (hst : m (Str.ofString "stack") = some (.ref D)) (hbf : m (Str.ofString "before") = some (.ref Bf)) (hkk : m (Str.ofString "k") = some (.int (kk : Int) tk0)) (hk15 : kk < 15) (hz : vs.length ≤ 100) (hb : BY vs) (hn : need kk ≤ vs.length)
    (hQ : ∀ h' tk, Fr h₀ L h' m → News h₀ L h' ((D, W.listOf (opf kk vs).toArray c) :: (Bf, W.listOf vs.toArray cb) :: rest) → Q .next { s with heap := h', toks := tk }) :
    wpAny (model Challenge.rw_fe0236_01.row.prog w) (A₀.deeper (envL L fa cd)) (exec (loopSt 3) (envL L fa cd)) Q E s := by
  revert X
  k_fill
  intro X
  dsimp only [loopSt, loopBody, lawStmts, envL, scL, Challenge.pw_fe0236_01, stmtAt, bodyOf, scopeOf, Option.getD]
  repeat' (first | (k_unfold; (try dsimp only)) | (k_end; wrow_close) | ((fail_if_success (with_reducible show wpAny _ _ (call (Value.ref 188) _) _ _ _)); walk1))
  refine' law_done (base := h₀) (outer := outer) (rest := (D, W.listOf (opf kk vs).toArray c) :: rest) (vs := vs) (c := cb) kk hk15 K0 ?F ?X hr ?T ?hA ?hf ?hk ?hroom ?hh ?N hz hb hn ?hQ
  case F => with_reducible assumption
  case X => with_reducible assumption
  case T => with_reducible assumption
  case hA => exact Around.frames_deeper K0.stack
  case hf => exact rfl
  case hk => exact rfl
  case hroom => k_room
  case hh => exact hh
  case N => exact cb_drop (by with_reducible assumption) (by kcf_all)
  intro h' tk' r F' N' hr'
  k_steps
  exact hQ _ _ F' (cb_drop N' (by kcf_all))
end
end Mine
namespace Mine
theorem upTo_mem {vs : List Value} {i : Nat} {v : Value} (h : v ∈ upTo vs i) : v ∈ vs := List.mem_of_mem_take h
theorem fromEnd_mem {vs : List Value} {i : Nat} {v : Value} (h : v ∈ fromEnd vs i) : v ∈ vs := List.mem_of_mem_drop h
theorem part_mem {vs : List Value} {i j : Nat} {v : Value} (h : v ∈ part vs i j) : v ∈ vs := List.mem_of_mem_drop (List.mem_of_mem_take h)
theorem opf_mem (k : Nat) {vs : List Value} {v : Value} (h : v ∈ opf k vs) : v ∈ vs := by
  unfold opf at h
  split at h
  all_goals (try split at h)
  all_goals (try simp only [List.mem_append] at h)
  all_goals first
    | exact h
    | exact upTo_mem h
    | (rcases h with h | h <;> first | exact h | exact upTo_mem h | exact fromEnd_mem h | exact part_mem h)
    | (rcases h with (h | h) | h <;> first | exact h | exact upTo_mem h | exact fromEnd_mem h | exact part_mem h)
theorem opf_len (k : Nat) (vs : List Value) : (opf k vs).length ≤ vs.length + 6 := by
  unfold opf
  split
  all_goals (try split)
  all_goals ((try simp only [upTo, fromEnd, part, List.length_append, List.length_take, List.length_drop]); omega)
theorem BY.sub {vs ws : List Value} (h : BY vs) (hs : ∀ v ∈ ws, v ∈ vs) : BY ws := fun v hv => h v (hs v hv)
theorem cut_mem {vs : List Value} {lo hi : Option Int} {v : Value} (h : v ∈ cut vs lo hi) : v ∈ vs := List.mem_of_mem_drop (List.mem_of_mem_take h)
theorem cut_ten (vs : List Value) : (cut vs (some (-10)) none).length ≤ 10 := by
  simp only [cut, kms_lo, kms_hi, List.length_take, List.length_drop]
  rw [if_pos (by decide), show (-(-10 : Int)).toNat = 10 from rfl]
  omega
theorem off1_mem {D : Addr} : ∀ {l : List (Addr × Obj)}, LCg.Off1 D l → ∀ p ∈ l, p.1 ≠ D
  | [], _, _, h => nomatch h
  | _ :: _, x, p, h => by
    rcases List.mem_cons.mp h with rfl | h
    · exact x.1
    · exact off1_mem x.2 p h
def BYv (news : List (Addr × Obj)) (y : Value) (news' : List (Addr × Obj)) : Prop := news' = news ∧ ∃ b t, y = Value.bytes b t ∧ b.size ≤ 6
section
variable {prog : Program} {w : World} {A : Around} {h₀ : Heap} {L : Addr} {m : Str → Option Value} {env : Env} {elt : PySem.Expr} {x : Str} {scope : Scope} {cl : List (Str × Addr)} {s : Shared} {S : List (Addr × Obj) → Prop} {P : Nat → Value → Prop} {Fin : List Value → List (Addr × Obj) → Prop} {news : List (Addr × Obj)}
theorem comp_by {n : Nat}
    (turn : ∀ i v I oI C oC D m₂ ys h tk (E' : Value → Shared → Prop), P i v → LCg.NsObj oC m₂ → m₂ x = some v → Fr h₀ L h m → News h₀ L h ((I, oI) :: (C, oC) :: (D, LCg.lst ys) :: news) → LCg.Off3 I C D news →
      wpAny (model prog w) A (eval elt (compEnvC scope cl C env)) (LCg.CompEnd h₀ L m { s with heap := h, toks := tk } I oI C oC D (LCg.lst ys) S (fun y news' => BYv news y news')) E' { s with heap := h, toks := tk })
    (fin : ∀ ys, BY ys → ys.length = n → Fin ys news) : LCg.CompRest prog w A h₀ L m env elt x scope cl s S P Fin n 0 [] news := by
  have key : ∀ (j i : Nat) (ys : List Value), i + j = n → BY ys → ys.length = i → LCg.CompRest prog w A h₀ L m env elt x scope cl s S P Fin j i ys news := by
    intro j
    induction j with
    | zero => intro i ys hi hy hl; exact LCg.CompRest.zero (fin ys hy (by omega))
    | succ j ih =>
      intro i ys hi hy hl
      refine LCg.CompRest.succ ?_
      intro v I oI C oC D m₂ h tk E' hv hC hx F N off ne
      refine wpAny_mono (turn i v I oI C oC D m₂ ys h tk E' hv hC hx F N off) (fun y s₂ hq => ?_) fun _ _ e => e
      obtain ⟨h', tk', nw, e, F', N', off', hS, hn, hy'⟩ := hq
      rw [hn] at N' off' hS
      refine ⟨h', tk', news, e, F', N', off', hS, ih (i + 1) _ (by omega) ?_ (by simp [hl])⟩
      intro v hv
      rcases List.mem_append.mp hv with hv | hv
      · exact hy v hv
      · rw [List.mem_singleton.mp hv]; exact hy'
  exact key n 0 [] (by omega) (fun v hv => nomatch hv) rfl
end
theorem six {b : Array UInt8} (h : KBw.bInts (KBy.picked b none (some 6)) = ((KBw.bInts b).drop ((none : Option Int).elim 0 (clipAt (KBw.bInts b).length))).take ((some (6 : Int)).elim (KBw.bInts b).length (clipAt (KBw.bInts b).length) - (none : Option Int).elim 0 (clipAt (KBw.bInts b).length))) : (KBy.picked b none (some 6)).size ≤ 6 := by
  rw [← KBw.ints_length, h]
  simp only [Option.elim, List.length_take, Nat.sub_zero]
  rw [show clipAt (KBw.bInts b).length 6 = min 6 (KBw.bInts b).length from clipAt_nat _ 6]
  omega
local macro_rules | `(tactic| walk_at "eval Name") => `(tactic| (k_here; k_dflt (refine' ld ?k1 ?k2 ?_; (case k1 => with_reducible assumption); (case k2 => assumption); k_whole)))
local macro_rules | `(tactic| walk_at "subscriptTail Name Slice ref ref") => `(tactic| (k_here; (with_reducible show wpAny _ _ (subscriptTail _ (PySem.Expr.Slice _ _ none _) (Value.ref _) (Value.ref _)) _ _ _); (with_unfolding_all refine' r_slice ?F ?N ?l ?p ?q ?z ?_ ?s ?t; (case F => with_reducible assumption); (case N => with_reducible assumption); (case l => k_mem); (case p => kmk_part); (case q => kmk_part); (case z => omega); (case s => with_unfolding_all rfl); (case t => kmk_pure)); intro D' h' F' N' l1))
local macro_rules | `(tactic| walk_at "exec Assign cons ListComp") => `(tactic| (k_here; k_dflt (refine LCg.Assign_ListComp_U (F₀ := by with_reducible assumption) (by rfl) (by with_unfolding_all rfl) (by with_unfolding_all rfl) (by decide) (by rfl) (by decide) (by rfl) (by rfl) (by rfl) ?_)))
section
variable {w : World} {A : Around} {E : Value → Shared → Prop} {s : Shared} {h₀ : Heap} {L D fa : Addr} {cd : Value} {m : Str → Option Value} {rest : List (Addr × Obj)} {c : Nat} {Q : Flow → Shared → Prop} {ws : List Value}
set_option maxHeartbeats 8000000 in
theorem s_cut (X : (hd.heap_39 w.params).In h₀) (F : Fr h₀ L s.heap m) (N : News h₀ L s.heap ((D, W.listOf ws.toArray c) :: rest)) (hh : A.handled = none)
    (hst : m (Str.ofString "stack") = some (.ref D)) (hz : ws.length ≤ 200) (hb : BY ws)
    (h : ∀ h' tk D' ys, Fr h₀ L h' (fun y => if y = Str.ofString "stack" then some (.ref D') else m y) → News h₀ L h' ((D', W.listOf ys.toArray ys.length) :: rest) → (∀ p ∈ rest, p.1 ≠ D') → ys.length ≤ 10 → BY ys → Q .next { s with heap := h', toks := tk }) :
    wpAny (model Challenge.rw_fe0236_01.row.prog w) A (exec (loopSt 4) (envL L fa cd)) Q E s := by
  revert X
  k_fill
  intro X
  dsimp only [loopSt, loopBody, lawStmts, envL, scL, Challenge.pw_fe0236_01, stmtAt, bodyOf, scopeOf, Option.getD]
  k_steps
  refine LCg.CompSrc.ledger (k := 0) hh (by with_reducible assumption) (by with_reducible assumption) (.head _) (by rw [List.size_toArray, sizeLine_eq]; have := cut_ten ws; omega) ?_
  intro g1
  refine comp_by (fun i v I oI C oC D1 m₂ ys h1 tk1 E1 hv hC hx F1 N1 off1 => ?_) ?_
  · have hv' : v ∈ cut ws (some (-10)) none := List.mem_of_getElem? (by simpa using hv)
    obtain ⟨b, tb, rfl, hbs⟩ := hb v (cut_mem hv')
    dsimp only at F1 N1 ⊢
    k_steps
    refine KBc.slice_K (s := ⟨_, _, _, _, _⟩) F1 N1 rfl (by kmk_part) (by kmk_part) (by rw [KBw.ints_length]; omega) ?_
    intro h2 t2 k2 F2 N2 hk
    exact LCg.CompEnd.intro F2 N2 _ (fun _ h => h) off1 (.inr ⟨_, .head _, rfl, _, rfl⟩) ⟨rfl, _, _, rfl, six hk⟩
  · intro ys hy hl D1 h1 tk1 F1 N1 o1
    refine h _ _ _ _ F1 (cb_drop N1 (by kcf_all)) ?_ ?_ hy
    · exact off1_mem o1.2.2
    · have := cut_ten ws
      rw [List.size_toArray] at hl
      omega
end
end Mine
namespace Mine
section
variable {w : World} {mg mb : Str → Option Value} {mean : ExcName → Option Value} {A₀ : Around} {s : Shared} {h₀ : Heap} {outer : List Env} {L D fa : Addr} {cd : Value} {m : Str → Option Value} {rest : List (Addr × Obj)} {c : Nat} {Q : Flow → Shared → Prop} {vs : List Value} {n : Int} {t : Tok}
set_option maxHeartbeats 8000000 in
theorem s_turn (K0 : Below A₀ h₀ outer h₀) (X : (hd.heap_39 w.params).In h₀) (T : Top hd.view_39 (looseW hd.view_39 []) mean mg mb h₀) (F : Fr h₀ L s.heap m)
    (N : News h₀ L s.heap ((D, W.listOf vs.toArray c) :: rest)) (hr : ∀ p ∈ rest, p.1 ≠ D)
    (hroom : A₀.depth < 400) (hu : A₀.units < 20) (hh : A₀.handled = none) (hst : m (Str.ofString "stack") = some (.ref D)) (hnum : m (Str.ofString "number") = some (.int n t)) (hz : vs.length ≤ 10) (hb : BY vs)
    (hQ : ∀ f, f = .next ∨ f = .cont → ∀ h' tk m' D' ws c', Fr h₀ L h' m' → m' (Str.ofString "stack") = some (.ref D') → m' (Str.ofString "numbers") = m (Str.ofString "numbers") → News h₀ L h' ((D', W.listOf ws.toArray c') :: rest) → (∀ p ∈ rest, p.1 ≠ D') → ws.length ≤ 10 → BY ws → Q f { s with heap := h', toks := tk }) :
    wpAny (model Challenge.rw_fe0236_01.row.prog w) (A₀.deeper (envL L fa cd)) (execs loopBody (envL L fa cd)) Q (fun _ _ => False) s := by
  rw [loop_is]
  have hk15 := kOf_lt n
  refine wpAny_execs_cons (s_k X T F N hnum ?_)
  intro h1 tk1 t1 F1 N1
  refine wpAny_execs_cons (s_before X T F1 N1 ((if_neg (by decide +kernel)).trans hst) (by omega) ?_)
  intro h2 tk2 B c2 F2 N2 l2
  have hBD : B ≠ D := fun e => Nat.lt_irrefl _ (by have := l2 _ (.head _); rw [e] at this; exact this)
  have hrB : ∀ p ∈ rest, p.1 ≠ B := fun p hp => Nat.ne_of_lt (l2 p (.tail _ hp))
  refine wpAny_execs_cons (s_try (rest := rest) (kk := kOf n) (c := c) (cb := c2) K0 X T F2 (cb_drop N2 (by kcf_all)) ?_ hroom hu hh ((if_neg (by decide +kernel)).trans ((if_neg (by decide +kernel)).trans hst)) (if_pos rfl) ((if_neg (by decide +kernel)).trans ((if_neg (by decide +kernel)).trans hnum)) ((if_neg (by decide +kernel)).trans (if_pos rfl)) hk15 (by omega) hb ?_ ?_)
  · exact List.forall_mem_cons.mpr ⟨hBD, hr⟩
  · intro hn h3 tk3 c3 F3 N3
    have hl := opf_len (kOf n) vs
    have hb' : BY (opf (kOf n) vs) := hb.sub fun v hv => opf_mem _ hv
    refine wpAny_execs_cons (s_check (rest := rest) (kk := kOf n) K0 X T F3 N3 ?_ hroom hu hh ((if_neg (by decide +kernel)).trans ((if_neg (by decide +kernel)).trans hst)) (if_pos rfl) ((if_neg (by decide +kernel)).trans (if_pos rfl)) hk15 (by omega) hb hn ?_)
    · exact List.forall_mem_cons.mpr ⟨Ne.symm hBD, hrB⟩
    intro h4 tk4 F4 N4
    refine wpAny_execs_cons (s_cut X F4 N4 hh ((if_neg (by decide +kernel)).trans ((if_neg (by decide +kernel)).trans hst)) (by omega) hb' ?_)
    intro h5 tk5 D5 ys F5 N5 n5 z5 b5
    exact wpAny_execs_nil (hQ _ (.inl rfl) _ _ _ _ _ _ F5 (if_pos rfl) ((if_neg (by decide +kernel)).trans ((if_neg (by decide +kernel)).trans (if_neg (by decide +kernel)))) (cb_drop N5 (by kcf_all)) (fun p hp => n5 p (.tail _ hp)) z5 b5)
  · intro hn h3 tk3 D3 b tb F3 N3 l3 hb1
    have hneed : need (kOf n) ≤ 6 := by
      revert hk15
      generalize kOf n = k
      revert k
      decide
    refine hQ _ (.inr rfl) _ _ _ _ _ _ F3 (if_pos rfl) ((if_neg (by decide +kernel)).trans ((if_neg (by decide +kernel)).trans (if_neg (by decide +kernel)))) (cb_drop N3 (by kcf_all)) (fun p hp => Nat.ne_of_lt (l3 p (.tail _ hp))) (by simp; omega) ?_
    intro v hv
    rcases List.mem_append.mp hv with hv | hv
    · exact hb v hv
    · exact ⟨b, tb, List.mem_singleton.mp hv, by omega⟩
end
end Mine
namespace Mine
section
variable {w : World} {mg mb : Str → Option Value} {mean : ExcName → Option Value} {A₀ : Around} {s : Shared} {h₀ : Heap} {outer : List Env} {L D fa l : Addr} {cd : Value} {m : Str → Option Value} {rest : List (Addr × Obj)} {c nn : Nat} {Q : Flow → Shared → Prop} {vs xs : List Value} {ns : List Int}
theorem iter_stack (K0 : Below A₀ h₀ outer h₀) (X : (hd.heap_39 w.params).In h₀) (T : Top hd.view_39 (looseW hd.view_39 []) mean mg mb h₀) (F : Fr h₀ L s.heap m)
    (N : News h₀ L s.heap ((D, W.listOf vs.toArray c) :: rest)) (hr : ∀ p ∈ rest, p.1 ≠ D)
    (hroom : A₀.depth < 400) (hu : A₀.units < 20) (hh : A₀.handled = none) (hst : m (Str.ofString "stack") = some (.ref D)) (hz : vs.length ≤ 10) (hb : BY vs)
    (hl : (l, W.listOf xs.toArray nn) ∈ rest) (hi : IntsAre xs ns)
    (done : ∀ h' tk m' D' ws c', Fr h₀ L h' m' → m' (Str.ofString "stack") = some (.ref D') → m' (Str.ofString "numbers") = m (Str.ofString "numbers") → News h₀ L h' ((D', W.listOf ws.toArray c') :: rest) → (∀ p ∈ rest, p.1 ≠ D') → ws.length ≤ 10 → BY ws → Q .next { s with heap := h', toks := tk }) :
    wpAny (model Challenge.rw_fe0236_01.row.prog w) (A₀.deeper (envL L fa cd)) (pyIter (.ref l)) (fun it s₂ => LoopAtV Challenge.rw_fe0236_01.row.prog w (A₀.deeper (envL L fa cd)) h₀ (envL L fa cd) (Str.ofString "number") loopBody Q (fun _ _ => False) it s₂) (fun _ _ => False) s := by
  have hol : s.heap.get? l = some (W.listOf xs.toArray nn) := (N _ (.tail _ hl)).1
  have hls : s.heap.IsList l xs.toArray := ⟨_, hol, rfl, nn, rfl⟩
  have hne : l ≠ s.heap.objs.size := Nat.ne_of_lt (Heap.lt_size hol)
  refine wpAny_pyIter_list hls ?_
  have WK := Walks.list (prog := Challenge.rw_fe0236_01.row.prog) (w := w) (A := A₀.deeper (envL L fa cd)) hh s.heap.objs.size l hne xs.toArray
  refine ⟨_, _, _, _, _, _, m, (D, W.listOf vs.toArray c) :: rest, (fun _ m₁ nx => ∃ D' ws c', nx = (D', W.listOf ws.toArray c') :: rest ∧ m₁ (Str.ofString "stack") = some (.ref D') ∧ m₁ (Str.ofString "numbers") = m (Str.ofString "numbers") ∧ (∀ p ∈ rest, p.1 ≠ D') ∧ ws.length ≤ 10 ∧ BY ws), rfl, WK, ?_, ?_, ?_, ⟨⟨_, Heap.get?_push_size _ rfl, rfl, rfl⟩, hls.at fun o e => Heap.get?_push_of_some _ e⟩, F.push _, (fun p hp => ⟨Heap.get?_push_of_some _ (N p hp).1, (N p hp).2⟩), ⟨D, vs, c, rfl, hst, rfl, hr, hz, hb⟩, ?_, ?_⟩
  · intro hm
    rcases List.mem_cons.mp hm with e | hm
    · exact absurd F.ns.lt (e ▸ Nat.lt_irrefl _)
    · exact (N _ (.tail _ hl)).2.1 ((List.mem_singleton.mp hm).symm)
  · intro b hb
    rw [List.mem_singleton.mp hb]
    exact next_is_new F
  · intro p hp hI
    exact absurd (Heap.lt_size (N p hp).1) ((List.mem_singleton.mp hI) ▸ Nat.lt_irrefl _)
  · rintro i v m₁ news₁ s₁ own ⟨hh', tk', rfl⟩ hin hP ⟨D₁, ws, c₁, rfl, hst₁, hnm₁, hr₁, hz₁, hb₁⟩ hoff hown hget hfp hst2 F₁ N₁
    have hP' : xs[i]? = some v := by simpa using hP
    obtain ⟨k, t, rfl, _⟩ := IntsAre.at hi i v hP'
    obtain ⟨⟨oI, hoI, _⟩, _⟩ := hst2
    have hIown : (s.heap.objs.size, oI) ∈ own := hfp _ (.head _) (next_is_new F) _ hoI
    have hDI : D₁ ≠ s.heap.objs.size := fun e => hoff _ (.head _) (List.mem_singleton.mpr e)
    have hDl : l ≠ D₁ := hr₁ _ hl
    have hr' : ∀ p ∈ rest ++ own, p.1 ≠ D₁ := by
      intro p hp
      rcases List.mem_append.mp hp with hp | hp
      · exact hr₁ p hp
      · rcases List.mem_cons.mp (hown p hp) with e | e
        · rw [e]; exact Ne.symm hDI
        · rw [List.mem_singleton.mp e]; exact hDl
    refine wpAny_mono (s_turn (rest := rest ++ own) (vs := ws) (c := c₁) K0 X T F₁ (fun p hp => N₁ p ?_) hr' hroom hu hh ((if_neg (by decide +kernel)).trans hst₁) (if_pos rfl) hz₁ hb₁ ?_ (Q := LoopStepV h₀ L [s.heap.objs.size] own _ { s with heap := hh', toks := tk' } (fun v s' => Q (.ret v) s') fun s' => Q .next s')) (fun _ _ x => x) fun _ _ x => x
    · rcases List.mem_cons.mp hp with rfl | hp
      · exact List.mem_append_right _ (.head _)
      · rcases List.mem_append.mp hp with hp | hp
        · exact List.mem_append_right _ (.tail _ hp)
        · exact List.mem_append_left _ hp
    · intro f hf h' tk m' D' ws' c' F' hst' hnm' N' hr2 hz' hb'
      have step : LoopStepU h₀ L [s.heap.objs.size] own (fun m₁ nx => ∃ D' ws c', nx = (D', W.listOf ws.toArray c') :: rest ∧ m₁ (Str.ofString "stack") = some (.ref D') ∧ m₁ (Str.ofString "numbers") = m (Str.ofString "numbers") ∧ (∀ p ∈ rest, p.1 ≠ D') ∧ ws.length ≤ 10 ∧ BY ws) { s with heap := hh', toks := tk' } .next { s with heap := h', toks := tk } := by
        refine ⟨rfl, h', tk, m', (D', W.listOf ws'.toArray c') :: rest, rfl, F', fun p hp => ?_, fun p hp => ?_, D', ws', c', rfl, hst', ?_, fun p hp => hr2 p (List.mem_append_left _ hp), hz', hb'⟩
        · rcases List.mem_append.mp hp with hp | hp
          · exact N' p (.tail _ (List.mem_append_right _ hp))
          · rcases List.mem_cons.mp hp with rfl | hp
            · exact N' _ (.head _)
            · exact N' p (.tail _ (List.mem_append_left _ hp))
        · rcases List.mem_cons.mp hp with rfl | hp
          · exact fun e => hr2 _ (List.mem_append_right _ hIown) (List.mem_singleton.mp e).symm
          · intro hI
            exact absurd (Heap.lt_size (N p (.tail _ hp)).1) ((List.mem_singleton.mp hI) ▸ Nat.lt_irrefl _)
        · rw [hnm']; exact (if_neg (by decide +kernel)).trans hnm₁
      rcases hf with rfl | rfl
      · exact .next step
      · exact .cont step
  · rintro h' tk m' news' F' N' _ ⟨D', ws, c', rfl, hst', hnm', hr', hz', hb'⟩
    exact done h' tk m' D' ws c' F' hst' hnm' N' hr' hz' hb'
end
end Mine
namespace Mine
section
variable {prog : Program} {w : World} {A : Around} {E : Value → Shared → Prop} {s : Shared} {h₀ : Heap} {L l : Addr} {m : Str → Option Value} {news : List (Addr × Obj)} {n : Nat} {Q : Value → Shared → Prop} {vs : List Value} {ns : List Int}
theorem r_bytes0 (F : Fr h₀ L s.heap m) (N : News h₀ L s.heap news) (hm : (l, W.listOf vs.toArray n) ∈ news) (hi : IntsAre vs ns) (hr : ∀ n ∈ ns, 0 ≤ n ∧ n < 256) (hz : ns.length ≤ 1000) (hh : A.handled = none)
    (h : ∀ h' t k, Fr h₀ L h' m → News h₀ L h' news → Q (.bytes (byteArr ns) t) { s with heap := h', toks := k }) : wpAny (model prog w) A (call (.type "bytes") [.ref l]) Q E s :=
  call_bytes_ints (N.isList hm) hi hr (by rw [hi.length, sizeLine_eq]; omega) hh fun h' t' k hk => h h' t' k (F.keptAll hk) (N.grown hk)
end
theorem byteArr_size (ns : List Int) : (byteArr ns).size = ns.length := by simp [byteArr]
theorem rep_in (k : Int) : ∀ n ∈ (List.replicate (k.fmod 3).toNat [k.fmod 7 + 65]).flatten, 0 ≤ n ∧ n < 256 := by
  intro n hn
  have h1 := fmod_lo k (n := 7) (by decide)
  have h2 := fmod_hi k (n := 7) (by decide)
  obtain ⟨l, hl, hn⟩ := List.mem_flatten.mp hn
  rw [(List.mem_replicate.mp hl).2, List.mem_singleton] at hn
  omega
theorem rep_len (k : Int) : (List.replicate (k.fmod 3).toNat [k.fmod 7 + 65]).flatten.length ≤ 2 := by
  have h1 := fmod_lo k (n := 3) (by decide)
  have h2 := fmod_hi k (n := 3) (by decide)
  rw [List.length_flatten, List.map_replicate, List.sum_replicate_nat]
  simp only [List.length_singleton]
  omega
local macro_rules | `(tactic| walk_at "eval Name") => `(tactic| (k_here; k_dflt (refine' ld ?k1 ?k2 ?_; (case k1 => with_reducible assumption); (case k2 => assumption); k_whole)))
local macro_rules | `(tactic| walk_at "subscriptTail Name Slice ref ref") => `(tactic| (k_here; (with_reducible show wpAny _ _ (subscriptTail _ (PySem.Expr.Slice _ _ none _) (Value.ref _) (Value.ref _)) _ _ _); (with_unfolding_all refine' r_slice ?F ?N ?l ?p ?q ?z ?_ ?s ?t; (case F => with_reducible assumption); (case N => with_reducible assumption); (case l => k_mem); (case p => kmk_part); (case q => kmk_part); (case z => omega); (case s => with_unfolding_all rfl); (case t => kmk_pure)); intro D' h' F' N' l1))
local macro_rules | `(tactic| walk_at "exec Assign cons ListComp") => `(tactic| (k_here; k_dflt (refine LCg.Assign_ListComp_U (F₀ := by with_reducible assumption) (by rfl) (by with_unfolding_all rfl) (by with_unfolding_all rfl) (by decide) (by rfl) (by decide) (by rfl) (by rfl) (by rfl) ?_)))
local macro_rules | `(tactic| walk_at "call type:bytes") => `(tactic| (k_here; k_dflt (refine' r_bytes0 ?F ?N ?hl ?hi ?hr ?hz ?hh ?_; (case hh => assumption); (case F => with_reducible assumption); (case N => with_reducible assumption); (case hl => k_mem); (case hi => with_reducible assumption); (case hr => exact rep_in _); (case hz => exact Nat.le_trans (rep_len _) (by decide))); intro h' tb' tk' F' N'))
theorem cut_ints {vs : List Value} {ns : List Int} (hi : IntsAre vs ns) {lo hi' : Option Int} {v : Value} (hv : v ∈ cut vs lo hi') : ∃ k t, v = .int k t := by
  obtain ⟨i, hv⟩ := List.mem_iff_getElem?.mp (cut_mem hv)
  obtain ⟨k, t, e, _⟩ := IntsAre.at hi i v hv
  exact ⟨k, t, e⟩
theorem cut_eight (vs : List Value) : (cut vs none (some 8)).length ≤ 8 := by
  simp only [cut, kms_lo, kms_hi, List.length_take, List.length_drop]
  rw [if_neg (by decide), show (8 : Int).toNat = 8 from rfl]
  omega
section
variable {w : World} {A : Around} {E : Value → Shared → Prop} {s : Shared} {h₀ : Heap} {L U fa : Addr} {cd : Value} {m : Str → Option Value} {rest : List (Addr × Obj)} {c : Nat} {Q : Flow → Shared → Prop} {xs : List Value} {ns : List Int}
set_option maxHeartbeats 8000000 in
theorem s_init (X : (hd.heap_39 w.params).In h₀) (T : Top hd.view_39 (looseW hd.view_39 []) mean mg mb h₀) (F : Fr h₀ L s.heap m) (N : News h₀ L s.heap ((U, W.listOf xs.toArray c) :: rest)) (hi : IntsAre xs ns) (hh : A.handled = none)
    (hnm : m (Str.ofString "numbers") = some (.ref U)) (hz : xs.length ≤ 200)
    (h : ∀ h' tk D ys, Fr h₀ L h' (fun y => if y = Str.ofString "stack" then some (.ref D) else m y) → News h₀ L h' ((D, W.listOf ys.toArray ys.length) :: (U, W.listOf xs.toArray c) :: rest) → (∀ p ∈ (U, W.listOf xs.toArray c) :: rest, p.1 ≠ D) → ys.length ≤ 8 → BY ys → Q .next { s with heap := h', toks := tk }) :
    wpAny (model Challenge.rw_fe0236_01.row.prog w) A (exec (lawSt 1) (envL L fa cd)) Q E s := by
  revert X
  k_fill
  intro X
  dsimp only [lawSt, lawStmts, envL, scL, Challenge.pw_fe0236_01, stmtAt, bodyOf, scopeOf, Option.getD]
  k_steps
  refine LCg.CompSrc.ledger (k := 0) hh (by with_reducible assumption) (by with_reducible assumption) (.head _) (by rw [List.size_toArray, sizeLine_eq]; have := cut_eight xs; omega) ?_
  intro g1
  refine comp_by (fun i v I oI C oC D1 m₂ ys h1 tk1 E1 hv hC hx F1 N1 off1 => ?_) ?_
  · have hv' : v ∈ cut xs none (some 8) := List.mem_of_getElem? (by simpa using hv)
    obtain ⟨k, t, rfl⟩ := cut_ints hi hv'
    dsimp only at F1 N1 ⊢
    k_steps
    exact LCg.CompEnd.intro (by with_reducible assumption) (by with_reducible assumption) _ (by kcf_all) off1 (.inr ⟨_, .head _, rfl, _, rfl⟩) ⟨rfl, _, _, rfl, by rw [byteArr_size]; exact Nat.le_trans (rep_len k) (by decide)⟩
  · intro ys hy hl D1 h1 tk1 F1 N1 o1
    refine h _ _ _ _ F1 (cb_drop N1 (by kcf_all)) ?_ ?_ hy
    · exact off1_mem o1.2
    · have := cut_eight xs
      rw [List.size_toArray] at hl
      omega
end
end Mine
namespace Mine
theorem dict_mapF (o : Obj) (f) : (o.mapFields f).dict = o.dict := by
  unfold Obj.mapFields
  split <;> rfl
/-- no dictionary of its own; its data are fields -/
def D0 (o : Obj) : Prop := o.dict = none ∧ ∃ vs, o.data = .fields vs
theorem D0.free (o : Obj) (h : D0 o) : o.isFreed = false := by obtain ⟨_, vs, h⟩ := h; exact Obj.isFreed_of_fields h
theorem soft_updateFieldD (a : Addr) (i : Nat) (v : Value) (hi : i ≠ 2) : Soft D0 (updateField a i v) := by
  unfold updateField
  refine soft_bind (fun o => ?_) _ (soft_load a)
  split
  · split
    · refine soft_update a _ fun o ho => ?_
      obtain ⟨hn, vs, hd⟩ := ho
      exact ⟨(dict_mapF _ _).trans hn, _, Obj.data_mapFields hd _⟩
    · trivial
  · trivial
theorem soft_setFieldD (x : Value) (i : Nat) (v : Value) (hi : i ≠ 2) : Soft D0 (setField x i v) := by
  unfold setField
  split
  · exact soft_updateFieldD _ i v hi
  · trivial
theorem soft_readyFramesD : ∀ l : List Env, Soft D0 (readyFrames l)
  | [] => trivial
  | env :: outer => by
    unfold readyFrames
    split
    · refine soft_bind (fun o => ?_) _ (soft_load _)
      split
      · trivial
      · refine soft_bind (fun b => ?_) _ ?_
        · refine soft_bind (fun v => ?_) _ ?_
          · exact soft_bind (fun _ => soft_readyFramesD outer) _ (soft_update _ _ fun o ho => ho)
          · unfold keptBack
            split
            · split
              · trivial
              · unfold underTheClaimsCaller
                refine soft_bind (fun _ => ?_) _ (soft_bind (fun _ => ?_) _ soft_stack)
                · exact soft_pure _
                · exact soft_pure _
            · trivial
        · unfold behindIsImport
          repeat' (first | trivial | (refine soft_bind (fun _ => ?_) _ (soft_field _ _)) | split)
    · trivial
theorem soft_frameOfD (env : Env) : Soft D0 (PySem.frameOf env) := by
  unfold PySem.frameOf
  refine soft_bind (fun l => ?_) _ ?_
  · refine soft_bind (fun r => ?_) _ ?_
    · split <;> trivial
    · unfold frameObject
      split
      · trivial
      · exact soft_bind (fun _ => soft_pure _) _ (soft_readyFramesD _)
  · unfold frameEnvs
    exact soft_bind (fun _ => soft_pure _) _ soft_stack
theorem soft_setFlightD (x : Value) (f : Option Addr) : Soft D0 (setFlight x f) := by
  unfold setFlight
  refine soft_bind (fun l => ?_) _ (soft_field _ _)
  split
  · exact soft_setFieldD _ 3 _ (by decide)
  · trivial
theorem soft_noteFrameD (x : Value) (env : Env) : Soft D0 (noteFrame x env) := by
  unfold noteFrame
  have fin : ∀ f head, Soft D0 (do setField x 1 (← EntryCells.newEntry head (← PySem.frameOf env) .none (rawInt f) .none (← entryPlaceOf f (head != .none)))) := fun f head => by
    refine soft_bind (fun v => ?_) _ (soft_frameOfD env)
    refine soft_bind (fun pl => ?_) _ (soft_entryPlaceOf _ _)
    refine soft_bind (fun t => ?_) _ ?_
    · exact soft_setFieldD _ 1 _ (by decide)
    · unfold EntryCells.newEntry; exact soft_newFields _ _
  split
  · refine soft_bind (fun head => ?_) _ (soft_field _ _)
    split
    · refine soft_bind (fun v => ?_) _ (soft_field _ _)
      split
      · trivial
      · exact soft_bind (fun _ => fin _ _) _ (soft_setFieldD _ 3 _ (by decide))
    · exact fin _ _
  · trivial
theorem soft_leavingD (env : Env) (x : Value) : Soft D0 (leaving env x) := by
  unfold leaving
  exact soft_bind (fun _ => soft_setFlightD _ _) _ (soft_noteFrameD _ _)
end Mine
namespace Mine
/-- a raised own exception without a dictionary -/
def RaisedD (base : Heap) (l : List Env) (e : Addr) (cls : Value) (t : Addr) (vs : List Value) (news : List (Addr × Obj)) (h : Heap) : Prop := RaisedK base l e cls t vs news h ∧ AtP D0 e h
section
variable {M : Model} {A : Around} {E : Value → Shared → Prop} {s' : Shared} {base g h : Heap} {outer : List Env} {L a e : Addr} {m : Str → Option Value} {name : Str} {scope : Scope} {cd : Value} {Q : Unit → Shared → Prop} {news : List (Addr × Obj)}
theorem leave_raiseD {cls : Value} {vs : List Value} (K : Below A base outer g) (hx : Heap.MadeExcOf h s'.heap e cls vs) (F : Fr g L h m) (N : News g L h news)
    (hQ : ∀ h' t, RaisedD base outer e cls t vs news h' → g.UpToSlots h' → Q () { s' with heap := h' }) (hk : scope.kind = .function := by rfl) :
    wpAny M (A.deeper (envOf name scope L a cd)) (leaving (envOf name scope L a cd) (.ref e)) Q E s' := by
  obtain ⟨t0, he, _⟩ := hx.there
  have h1 := leave_raiseK (M := M) (E := E) (name := name) (scope := scope) (a := a) (cd := cd) (Q := fun _ s'' => ∃ h' t, s'' = { s' with heap := h' } ∧ RaisedK base outer e cls t vs news h' ∧ g.UpToSlots h') K hx F N (fun h' t R U => ⟨h', t, rfl, R, U⟩) hk
  refine wpAny_mono (wpAny_soft D0.free (soft_leavingD _ _) ⟨_, he, rfl, _, rfl⟩ h1) ?_ (fun _ _ x => x.1)
  rintro _ s'' ⟨⟨h', t, rfl, R, U⟩, hp⟩
  exact hQ h' t ⟨R, hp⟩ U
end
section
variable {prog : Program} {w : World} {A₀ : Around} {E : Value → Shared → Prop} {s' : Shared} {h₀ h : Heap} {outer : List Env} {L a e t C : Addr} {m : Str → Option Value} {name : Str} {scope : Scope} {cd : Value}
  {x n : Str} {b₀ : Stmt} {suite : List Stmt} {pos np : Pos} {rest : List ExceptHandler} {Q : Flow → Shared → Prop} {news : List (Addr × Obj)} {vs : List Value} {KF : Frag} {bmB : List Value} {newId : String}
  {p : Program} {loose : List Str} {mg mb : Str → Option Value}
theorem caught_D (K : Below A₀ h₀ outer h₀) (F : Fr h₀ L h m) (hsm : h.UpToSlots s'.heap) (R : RaisedD h₀ (envOf name scope L a cd :: outer) e (.ref C) t vs news s'.heap)
    (X : KF.In h₀) (T : TopRead p loose mg mb h₀) (ex : nsIn KF mainGlobals x = some (some (.ref C))) (q : excIn KF C bmB newId = true) (hbase : bmB.contains (.type "BaseException") = true)
    (k : ∀ h' tk oe dt nt sl, Fr h₀ L h' (fun y => if y = n then some (.ref e) else m y) → News h₀ L h' ((e, oe) :: (t, ({ cls := .type "tuple", dict := dt, data := .seq vs.toArray nt, slots := sl } : Obj)) :: news) → oe.cls = .ref C → D0 oe → (∃ ws, oe.data = .fields ws ∧ ws[0]? = some (.ref t)) →
      wpAny (model prog w) ((A₀.deeper (envOf name scope L a cd)).mark (some (.ref e))) (execs (b₀ :: suite) (envOf name scope L a cd))
        (fun f s₄ => wpAny (model prog w) (A₀.deeper (envOf name scope L a cd)) (do bindName (envOf name scope L a cd) n .none; unbindBehindTheSuite (envOf name scope L a cd) n pos) (fun _ s₅ => Q f s₅) E s₄)
        (AsSuiteRaised (model prog w) ((A₀.deeper (envOf name scope L a cd)).mark (some (.ref e))) (envOf name scope L a cd) n pos (notedBy (model prog w) ((A₀.deeper (envOf name scope L a cd)).mark (some (.ref e))) (envOf name scope L a cd) (cameBackBy (model prog w) (A₀.deeper (envOf name scope L a cd)) (envOf name scope L a cd) E)))
        { s' with heap := h', toks := tk })
    (hk : scope.kind = .function := by rfl) (hlo : (envOf name scope L a cd).kindOf n = some .local := by rfl) (hx : (envOf name scope L a cd).kindOf x = some .globalImplicit := by rfl) (hd : (x == ("__debug__" : Str)) = false := by decide) :
    wpAny (model prog w) (A₀.deeper (envOf name scope L a cd)) (noteFrame (.ref e) (envOf name scope L a cd))
      (fun _ s₂ => wpAny (model prog w) (A₀.deeper (envOf name scope L a cd)) (setFlight (.ref e) none) (fun _ s₃ =>
        wpAny (model prog w) (A₀.deeper (envOf name scope L a cd)) (handleBy (.ref e) (envOf name scope L a cd) (.ExceptHandler (some (.Name x np)) (some n) (b₀ :: suite) pos :: rest)) Q E s₃) E s₂) E s' := by
  obtain ⟨⟨⟨B, hB, hl, hfl, hnew⟩, htup⟩, hp⟩ := R
  have hL : B.get? L = none := by
    obtain ⟨_, ⟨L', _, hf, hn', _⟩, _⟩ := hfl.2.2.1
    obtain rfl : L = L' := Option.some.inj hf
    exact hn'
  have s1 := wpAny_looks_onW (M := model prog w) (E := E) (Q := fun _ s₂ => ∃ h₄, s₂ = { s' with heap := h₄ } ∧ Heap.HeldW B (envOf name scope L a cd :: outer) e (.ref C) (.ref t) L h₄ ∧ s'.heap.UpToSlots h₄) (Around.frames_deeper (env := envOf name scope L a cd) K.stack) rfl hfl fun h₄ x y => ⟨h₄, rfl, x, y⟩
  refine wpAny_mono (wpAny_soft D0.free (soft_noteFrameD _ _) hp s1) ?_ (fun _ _ x => x.1)
  rintro _ s₂ ⟨⟨h₄, rfl, hheld₄, hsm₄⟩, hp₄⟩
  have s2 := wpAny_landsW (M := model prog w) (A := A₀.deeper (envOf name scope L a cd)) (s := { s' with heap := h₄ }) (E := E) (Q := fun _ s₃ => ∃ h₅, s₃ = { s' with heap := h₅ } ∧ Heap.FlyingW B (envOf name scope L a cd :: outer) e (.ref C) (.ref t) h₅ ∧ h₄.UpToSlots h₅) hheld₄ fun h₅ x y => ⟨h₅, rfl, x, y⟩
  refine wpAny_mono (wpAny_soft D0.free (soft_setFlightD _ _) hp₄ s2) ?_ (fun _ _ x => x.1)
  rintro _ s₃ ⟨⟨h₅, rfl, hheld, hsm₅'⟩, hp₅⟩
  have hsm₅ := hsm₄.trans hsm₅'
  have hheld' := flyingW_base hB hheld
  have F₅ := F.of_stays hheld'.1 (hsm.trans hsm₅)
  obtain ⟨ob, hob, hobc⟩ := hheld'.there
  refine wpAny_handleBy_cons (codeAny_handlers_test (name_K F₅ X T ex ?_ hk hx hd)) (by intro q; cases q)
  obtain ⟨bm, N, nm, qn, bs, hdct, sn, sub, ab, col, dd, k0, k1, k2, k3, k5, mN, hC, hN, hni, TL⟩ := ((own_of_in X T ex q).keeps F₅.keep).obj
  refine wpAny_excMatches_sub_self hC hob hobc (TL.hasType hbase) (codeAny_handlers_suite_as ?_)
  have s3 := lands_againW (M := model prog w) (A := (A₀.deeper (envOf name scope L a cd)).mark (some (.ref e))) (s := { s' with heap := h₅ }) (E := fun _ _ => False) (Q := fun _ s₃ => ∃ h₆, s₃ = { s' with heap := h₆ } ∧ Heap.FlyingW B (envOf name scope L a cd :: outer) e (.ref C) (.ref t) h₆ ∧ h₅.UpToSlots h₆) hheld fun h₆ x y => ⟨h₆, rfl, x, y⟩
  refine wpAny_mono (wpAny_soft D0.free (soft_setFlightD _ _) hp₅ s3) ?_ (fun _ _ x => x.1.elim)
  rintro _ s₄ ⟨⟨h₆, rfl, hfl₆, hsm₆⟩, oe, hoe, hp₆⟩
  have hfl₆' := flyingW_base hB hfl₆
  have F₆ := F.of_stays hfl₆'.1 ((hsm.trans hsm₅).trans hsm₆)
  obtain ⟨oe', ws, hoe', hoec, hoed, hoe0⟩ := hfl₆'.first
  have : oe' = oe := Option.some.inj (hoe'.symm.trans hoe)
  subst this
  obtain ⟨ot, nt, hot, hotc, hotd⟩ := (htup.of_slots hsm₅).of_slots hsm₆
  have N₆ := News.more F₆ (News.more F₆ News.nil hot (fun es n q => by rw [hotd] at q; cases q) (fresh_of_stays hB hnew)) hoe (fun es n q => by rw [hoed] at q; cases q) hfl₆'.2.1
  have Nl : News h₀ L h₆ news := fun q hq => ⟨hfl₆.1 _ _ (hl q hq).1, (fun z => by have := (hl q hq).1; rw [z, hL] at this; cases this), (hl q hq).2⟩
  refine stN F₆ (news := _ ++ news) (fun q hq => (List.mem_append.mp hq).elim (N₆ q) (Nl q)) (fun h₇ F₇ N₇ => ?_) hk hlo
  obtain ⟨oc, od, odt, osl⟩ := ot
  dsimp only at hotc hotd
  subst hotc hotd
  exact k h₇ _ _ _ _ _ F₇ (fun q hq => N₇ q hq) hoec hp₆ ⟨ws, hoed, hoe0⟩
end
/-- the quiet names of an own exception's class -/
def quietIn (K : Frag) (C : Addr) (bmB : List Value) (newId : String) : Bool := match K.lookup C with
  | some ⟨.type "type", _, .cls cd, sl⟩ => (match cd.mro, sl.toList with
    | .ref C' :: bm, [_, _, _, _, some (.builtin n), _] => C' == C && n == newId && !cd.hasDel && bm == bmB && nsOkIn K cd.ns && quietNames.all fun y => nsIn K cd.ns y == some none
    | _, _ => false)
  | _ => false
section
variable {prog : Program} {w : World} {A : Around} {E : Value → Shared → Prop} {s : Shared} {h₀ : Heap} {L a C f : Addr} {m : Str → Option Value} {K : Frag} {o : Obj} {newId : String} {name : Str} {pl : Sem Bool}
theorem exc_args {vs : Array Value} {t0 : Addr} {expr : Bool} {Q : Value → Shared → Prop} (X : K.In s.heap) (q : quietIn K C [.type "Exception", .type "BaseException", .type "object"] newId = true)
    (hx : s.heap.get? a = some o) (hc : o.cls = .ref C) (hd : o.data = .fields vs) (h0 : vs[0]? = some (.ref t0)) (h : Q (.ref t0) { s with toks := s.toks + 1 }) : wpAny (model prog w) A (getAttr (.ref a) "args" expr) Q E s := by
  obtain ⟨hh, g, d, tk, os⟩ := s
  unfold quietIn at q
  split at q
  · rename_i dd cd sl ho
    split at q
    · rename_i C' bm k0 k1 k2 k3 n k5 hm hs
      simp only [Bool.and_eq_true, beq_iff_eq, Bool.not_eq_true', List.all_eq_true] at q
      obtain ⟨⟨⟨⟨⟨rfl, rfl⟩, hdel⟩, rfl⟩, hok⟩, hq⟩ := q
      obtain ⟨nm, bs, mro, ns, qn, hdc, sn, sub, ab, col, del⟩ := cd
      dsimp only at hm hdel hok hq
      subst hm hdel
      have hsl : sl = #[k0, k1, k2, k3, some (.builtin n), k5] := by
        obtain ⟨l⟩ := sl
        simp only at hs
        rw [hs]
      subst hsl
      exact args_attr_own PySem.F.attrBase_Exception (X _ _ ho) (.of_isNs (isNs_of_in X hok)) (fun y hy => nsMap_none_of_in X hok (hq y hy)) .base hx hc hd h0 h
    · cases q
  · cases q
theorem canon_exc_ga : (Manifest.canonical "BaseException.__getattribute__" != "object.__getattribute__") = false := by decide +kernel
theorem exc_argsK {h₀ : Heap} {L t0 : Addr} {news : List (Addr × Obj)} {expr : Bool} {Q : Value → Shared → Prop} (F : Fr h₀ L s.heap m) (X : K.In h₀) (N : News h₀ L s.heap news) (hm : (a, o) ∈ news) (hc : o.cls = .ref C) (hd : ∃ ws, o.data = .fields ws ∧ ws[0]? = some (.ref t0))
    (q : quietIn K C [.type "Exception", .type "BaseException", .type "object"] newId = true) (h : Q (.ref t0) { s with toks := s.toks + 1 }) : wpAny (model prog w) A (getAttr (.ref a) "args" expr) Q E s := by
  obtain ⟨ws, hd, h0⟩ := hd
  exact exc_args (X.keeps F.keep) q (N _ hm).1 hc hd h0 h
theorem exc_method {Q : Value × List Value → Shared → Prop} (X : K.In s.heap) (hx : s.heap.get? a = some o) (hc : o.cls = .ref C) (hd : D0 o)
    (hga : findIn K (.ref C) "__getattribute__" = some (some (.builtin "BaseException.__getattribute__"))) (hk : findIn K (.ref C) "__getattr__" = some none)
    (hf : findIn K (.ref C) name = some (some (.ref f))) (ht : typeIn K (.ref f) = some (.type "function")) (h : Q (.ref f, [.ref a]) s) : wpAny (model prog w) A (getMethod (.ref a) name pl) Q E s := by
  obtain ⟨hn, vs, hdat⟩ := hd
  have I : PySem.W.InstAt s.heap a o C none := ⟨hx, hc, by simp [notCls, hdat], by rw [hn]; trivial⟩
  unfold getMethod specialOf
  refine wpAny_bind (wpAny_bind (I.type.here ((looks_findIn X hga).here ?_)))
  dsimp only
  rw [canon_exc_ga, if_neg (by decide)]
  refine wpAny_bind (wpAny_bind (I.type.here ((looks_findIn X hk).here ?_)))
  refine wpAny_bind (wpAny_bind (I.type.here ((looks_findIn X hf).here (wpAny_bind ((looks_typeIn X ht).here ?_)))))
  rw [if_neg (by decide +kernel)]
  refine wpAny_bind (wpAny_loadPart I.at_ ?_)
  rw [hn]
  exact wpAny_bind (wpAny_rule (wpAny_pure h))
theorem exc_methodK {news : List (Addr × Obj)} {Q : Value × List Value → Shared → Prop} (F : Fr h₀ L s.heap m) (X : K.In h₀) (N : News h₀ L s.heap news) (hm : (a, o) ∈ news) (hc : o.cls = .ref C) (hd : D0 o)
    (hga : findIn K (.ref C) "__getattribute__" = some (some (.builtin "BaseException.__getattribute__"))) (hk : findIn K (.ref C) "__getattr__" = some none)
    (hf : findIn K (.ref C) name = some (some (.ref f))) (ht : typeIn K (.ref f) = some (.type "function")) (h : Q (.ref f, [.ref a]) s) : wpAny (model prog w) A (getMethod (.ref a) name pl) Q E s :=
  exc_method (X.keeps F.keep) (N _ hm).1 hc hd hga hk hf ht h
end
end Mine
namespace Mine
theorem keep_28 (w : World) : keepIn (hd.heap_39 w.params) (.ref 28) = true := by
  have hp : Challenge.rw_fe0236_01.row.prog = Challenge.rw_fe0236_01.row.prog := rfl
  revert hp
  k_fill
  intro _
  first
    | k_is
    | (show keepIn (hd.heap_39 w.params) (.ref 28) = true; k_is)
    | kernel_rfl
    | rfl
theorem callWith_e {M : Model} {A : Around} {E : Value → Shared → Prop} {Q : Value → Shared → Prop} {s : Shared} {w : World} {h₀ : Heap} {L : Addr} {m : Str → Option Value} {pos : Pos} {first : List Value} {env : Env} (F : Fr h₀ L s.heap m) (X : (hd.heap_39 w.params).In h₀) (h : wpAny M A (call (.ref 28) first) Q E s) :
    wpAny M A (callWith pos (.ref 28) first (backTo pos (starEach [] env)) []) Q E s :=
  callWith_K0 (X.keeps F.keep) (keep_28 w) (by rw [List.append_nil]; exact h)
end Mine
namespace Mine
theorem four (k : Int) : k.fmod 4 = 0 ∨ k.fmod 4 = 1 ∨ k.fmod 4 = 2 ∨ k.fmod 4 = 3 := by
  have h1 := fmod_lo k (n := 4) (by decide)
  have h2 := fmod_hi k (n := 4) (by decide)
  omega
theorem r_first {prog : Program} {w : World} {A : Around} {E : Value → Shared → Prop} {s : Shared} {h₀ : Heap} {L l : Addr} {news : List (Addr × Obj)} {n : Nat} {Q : Value → Shared → Prop} {value slice : PySem.Expr} {vs : List Value} {u : Tok} {k : Int} (N : News h₀ L s.heap news) (hm : (l, W.listOf vs.toArray n) ∈ news) (hx : ∃ t, vs[0]? = some (.int k t)) (h : ∀ t, Q (.int k t) s)
    (hs : subscripted slice false (.ref l) (.int 0 u) = operate [.ref l, .int 0 u] (getItem (.ref l) (.int 0 u)) := by with_unfolding_all rfl) :
    wpAny (model prog w) A (subscriptTail value slice (.ref l) (.int 0 u)) Q E s := by
  obtain ⟨t, ht⟩ := hx
  exact r_at (k := 0) N hm ht (by decide) (h t) hs
local macro_rules | `(tactic| walk_at "eval Name") => `(tactic| (k_here; k_dflt (refine' ld ?k1 ?k2 ?_; (case k1 => with_reducible assumption); (case k2 => assumption); k_whole)))
local macro_rules | `(tactic| k_room) => `(tactic| ((simp only [depth_mark, depth_under_make, depth_under_kw, depth_in1, depth_deeper, depth_caller, recursionLimit]); omega))
local macro_rules | `(tactic| k_enter) => `(tactic| (refine' code_def ?k1 ?k2 ?k3 ?k4 ?k5 ?kA ?kF ?kK ?k6 ?k7 ?k8 ?k9 ?kB ?_ ?c2 ?c3 ?c4 ?c5; (case k2 => k_asm); (case k1 => k_asm); (case kA => first | exact rfl | exact Around.frames_deeper (by assumption) | exact Around.frames_deeper (Below.stack (by assumption))); (case kF => exact rfl); (case kK => exact rfl); (case k3 => k_asm); (case k4 => k_asm); (case k5 => k_asm); (case k6 => k_is); (case k7 => k_is); (case k8 => k_room); (case k9 => exact BindsTo.of_eq rfl); (case c5 => decide); (case kB => exact locs rfl); (case c2 => exact rfl); (case c3 => exact rfl); (case c4 => exact rfl); k_whole; intro g' L' h' FG' F' N' B' X' T'; (try dsimp only); (try k_fold)))
local macro_rules | `(tactic| walk_at "subscriptTail") => `(tactic| (k_here; (with_reducible show wpAny _ _ (subscriptTail (PySem.Expr.Name _ _) _ (Value.ref _) (Value.int _ _)) _ _ _); (with_unfolding_all refine' r_first ?N ?m ?x ?_ ?s; (case N => with_reducible assumption); (case x => assumption); (case m => k_mem); (case s => with_unfolding_all rfl)); intro t'))
local macro_rules | `(tactic| walk_at "assign Tuple") => `(tactic| (k_here; (with_reducible show wpAny _ _ (assign (PySem.Expr.Tuple _ _ _) _ (Value.ref _)) _ _ _); k_dflt (refine' unpackN_ ?F ?N ?T ?k1 ?k2 ?k3 ?_; (case F => with_reducible assumption); (case N => with_reducible assumption); (case T => exact News.isTup (by with_reducible assumption) (by k_mem)); (case k1 => first | with_reducible assumption | (dsimp only [Around.deeper]; with_reducible assumption)); (case k2 => exact rfl); (case k3 => exact rfl)); intro h' F' N'; (try k_sweep)))
local macro_rules | `(tactic| walk_at "leaving ref") => `(tactic| (k_here; (refine' leave_raiseD ?k1 ?k0 ?k2 ?k3 ?_; (case k0 => assumption); (case k1 => assumption); (case k2 => assumption); (case k3 => k_asm); k_whole; intro h' t' R' U'; (try dsimp only at R' U' ⊢))))
local macro_rules | `(tactic| walk_at "noteFrame ref") => `(tactic| (k_here; (rename RaisedD _ _ _ _ _ _ _ _ => rkX); k_dflt (refine' caught_D (bmB := [.type "Exception", .type "BaseException", .type "object"]) (newId := "Exception.__new__") ?K ?F ?U ?R ?X ?T ?ex ?q ?hb ?_; (case K => assumption); (case F => assumption); (case U => assumption); (case R => exact rkX); (case X => k_asm); (case T => k_asm); (case ex => k_is); (case q => k_exc); (case hb => rfl); k_whole); intro h' tk' oe' dt' nt' sl' F' N' co' do' fo'; (try k_sweep)))
local macro_rules | `(tactic| walk_at "getMethod ref") => `(tactic| (k_here; k_dflt (refine' exc_methodK ?F ?X ?N ?m ?c ?d ?ga ?gk ?f ?t ?_; (case F => with_reducible assumption); (case N => with_reducible assumption); (case d => with_reducible assumption); (case c => with_reducible assumption); (case X => with_reducible assumption); (case m => k_mem); (case ga => k_is); (case gk => k_is); (case f => k_is); (case t => k_is); k_whole); (try dsimp only)))
local macro_rules | `(tactic| walk_at "getAttr ref") => `(tactic| (k_here; (with_reducible show wpAny _ _ (getAttr (Value.ref _) ("args" : Str) _) _ _ _); k_dflt (refine' exc_argsK (newId := "Exception.__new__") ?F ?X ?N ?m ?c ?d ?q ?_; (case F => with_reducible assumption); (case N => with_reducible assumption); (case d => with_reducible assumption); (case c => with_reducible assumption); (case X => with_reducible assumption); (case m => k_mem); (case q => first | kernel_rfl | k_exc); k_whole)))
local macro_rules | `(tactic| walk_at "callWith ref") => `(tactic| (k_here; (with_reducible show wpAny _ _ (callWith _ (Value.ref 28) _ _ _) _ _ _); k_dflt (refine' callWith_e ?k1 ?k2 ?_; (case k1 => with_reducible assumption); (case k2 => with_reducible assumption); k_whole)))
section
variable {w : World} {mg mb : Str → Option Value} {mean : ExcName → Option Value} {A₀ : Around} {E : Value → Shared → Prop} {s : Shared} {h₀ : Heap} {outer : List Env} {L D U fa : Addr} {cd : Value} {m : Str → Option Value} {rest : List (Addr × Obj)} {c cx : Nat} {Q : Flow → Shared → Prop} {vs xs : List Value} {k : Int}
set_option maxHeartbeats 8000000 in
theorem s_end (K0 : Below A₀ h₀ outer h₀) (X : (hd.heap_39 w.params).In h₀) (T : Top hd.view_39 (looseW hd.view_39 []) mean mg mb h₀) (F : Fr h₀ L s.heap m)
    (N : News h₀ L s.heap ((D, W.listOf vs.toArray c) :: (U, W.listOf xs.toArray cx) :: rest)) (hroom : A₀.depth < 400) (hu : A₀.units < 20) (hh : A₀.handled = none)
    (hst : m (Str.ofString "stack") = some (.ref D)) (hnm : m (Str.ofString "numbers") = some (.ref U)) (hx : ∃ t, xs[0]? = some (.int k t))
    (hQ : ∀ h' tk m', Fr h₀ L h' m' → Q (.ret (.bool true)) { s with heap := h', toks := tk }) :
    wpAny (model Challenge.rw_fe0236_01.row.prog w) (A₀.deeper (envL L fa cd)) (execs [lawSt 3, lawSt 4, lawSt 5, lawSt 6] (envL L fa cd)) Q E s := by
  revert X
  k_fill
  intro X
  dsimp only [lawSt, lawStmts, envL, scL, Challenge.pw_fe0236_01, stmtAt, bodyOf, scopeOf, Option.getD]
  repeat' (first | (k_unfold; (try dsimp only)) | (k_end; wrow_close) | ((fail_if_success (with_reducible show wpAny _ _ (subscriptTail (PySem.Expr.BinOp _ _ _ _) _ (Value.ref _) (Value.int _ _)) _ _ _)); walk1))
  rcases four k with h | h | h | h <;> rw [h]
  · k_steps
    exact hQ _ _ _ (by with_reducible assumption)
  · k_steps
    exact hQ _ _ _ (by with_reducible assumption)
  · k_steps
    exact hQ _ _ _ (by with_reducible assumption)
  · k_steps
    exact hQ _ _ _ (by with_reducible assumption)
end
end Mine
namespace Mine
theorem cut_ints_all {vs : List Value} {ns : List Int} (hi : IntsAre vs ns) (lo hi' : Option Int) : ∃ ks, IntsAre (cut vs lo hi') ks := by
  have key : ∀ ws : List Value, (∀ v ∈ ws, ∃ k t, v = Value.int k t) → ∃ ks, IntsAre ws ks := by
    intro ws
    induction ws with
    | nil => intro _; exact ⟨[], .nil⟩
    | cons v r ih =>
      intro h
      obtain ⟨ks, hk⟩ := ih fun v hv => h v (.tail _ hv)
      obtain ⟨k, t, rfl⟩ := h v (.head _)
      exact ⟨k :: ks, .cons k t hk⟩
  exact key _ fun v hv => cut_ints hi hv
local macro_rules | `(tactic| walk_at "eval Name") => `(tactic| (k_here; k_dflt (refine' ld ?k1 ?k2 ?_; (case k1 => with_reducible assumption); (case k2 => assumption); k_whole)))
local macro_rules | `(tactic| walk_at "subscriptTail Name Slice ref ref") => `(tactic| (k_here; (with_reducible show wpAny _ _ (subscriptTail _ (PySem.Expr.Slice _ _ none _) (Value.ref _) (Value.ref _)) _ _ _); (with_unfolding_all refine' r_slice ?F ?N ?l ?p ?q ?z ?_ ?s ?t; (case F => with_reducible assumption); (case N => with_reducible assumption); (case l => k_mem); (case p => kmk_part); (case q => kmk_part); (case z => omega); (case s => with_unfolding_all rfl); (case t => kmk_pure)); intro D' h' F' N' l1))
section
variable {w : World} {mg mb : Str → Option Value} {mean : ExcName → Option Value} {A₀ : Around} {s : Shared} {h₀ : Heap} {outer : List Env} {L D U fa : Addr} {cd : Value} {m : Str → Option Value} {rest : List (Addr × Obj)} {c cx : Nat} {Q : Flow → Shared → Prop} {vs xs : List Value} {ns : List Int}
set_option maxHeartbeats 8000000 in
theorem s_for (K0 : Below A₀ h₀ outer h₀) (X : (hd.heap_39 w.params).In h₀) (T : Top hd.view_39 (looseW hd.view_39 []) mean mg mb h₀) (F : Fr h₀ L s.heap m)
    (N : News h₀ L s.heap ((D, W.listOf vs.toArray c) :: (U, W.listOf xs.toArray cx) :: rest)) (hr : ∀ p ∈ (U, W.listOf xs.toArray cx) :: rest, p.1 ≠ D)
    (hroom : A₀.depth < 400) (hu : A₀.units < 20) (hh : A₀.handled = none) (hst : m (Str.ofString "stack") = some (.ref D)) (hnm : m (Str.ofString "numbers") = some (.ref U)) (hz : vs.length ≤ 10) (hb : BY vs)
    (hi : IntsAre xs ns) (hzx : xs.length ≤ 200)
    (done : ∀ h' tk m' D' (ws : List Value) c' rest', Fr h₀ L h' m' → m' (Str.ofString "stack") = some (.ref D') → m' (Str.ofString "numbers") = some (.ref U) → News h₀ L h' ((D', W.listOf ws.toArray c') :: (U, W.listOf xs.toArray cx) :: rest') → Q .next { s with heap := h', toks := tk }) :
    wpAny (model Challenge.rw_fe0236_01.row.prog w) (A₀.deeper (envL L fa cd)) (exec (lawSt 2) (envL L fa cd)) Q (fun _ _ => False) s := by
  revert X
  k_fill
  intro X
  dsimp only [lawSt, lawStmts, envL, scL, Challenge.pw_fe0236_01, stmtAt, bodyOf, scopeOf, Option.getD]
  refine' For_invV h₀ ?hx ?hp ?_ ?hs ?hE
  case hx => rfl
  case hp => rfl
  case hs => intro _; rfl
  case hE => exact .never
  k_steps
  rename_i D1 h1 F1 N1 l1
  obtain ⟨ks, hk⟩ := cut_ints_all hi none (some 40)
  refine iter_stack (rest := (D1, W.listOf (cut xs none (some 40)).toArray 0) :: (U, W.listOf xs.toArray cx) :: rest) (vs := vs) (c := c) K0 X T F1 (cb_drop N1 (by kcf_all)) ?_ hroom hu hh hst hz hb (.head _) hk ?_
  · refine List.forall_mem_cons.mpr ⟨?_, hr⟩
    exact Nat.ne_of_gt (l1 _ (.head _))
  · intro h' tk m' D' ws c' F' hst' hnm' N' hr' hz' hb'
    exact done h' tk m' D' ws c' rest F' hst' (hnm'.trans hnm) (cb_drop N' (by kcf_all))
end
end Mine
namespace Mine
theorem law_rest : [lawSt 3, lawSt 4, lawSt 5, lawSt 6] = lawStmts.drop 3 := rfl
theorem first_abs {xs : List Value} {ns : List Int} {f : Int → Int} (hi : IntsAre xs ((ns ++ [9, 1, 2, 3]).map f)) : ∃ k t, xs[0]? = some (.int k t) := by
  have hl := hi.length
  match xs, hl with
  | [], hl => simp at hl
  | v :: r, _ =>
    obtain ⟨k, t, e, _⟩ := IntsAre.at hi 0 v rfl
    exact ⟨k, t, by rw [e]; rfl⟩
/-- the law behind its first statement -/
theorem law_tail {w : World} {mg mb : Str → Option Value} {mean : ExcName → Option Value} {s : Shared} {h₀ : Heap} {L U fa : Addr} {cd : Value} {m : Str → Option Value} {rest : List (Addr × Obj)} {cx : Nat} {Q : Flow → Shared → Prop} {E : Value → Shared → Prop} {xs : List Value} {ns : List Int} {k : Int}
    (X : (hd.heap_39 w.params).In h₀) (T : Top hd.view_39 (looseW hd.view_39 []) mean mg mb h₀) (F : Fr h₀ L s.heap m)
    (N : News h₀ L s.heap ((U, W.listOf xs.toArray cx) :: rest)) (hnm : m (Str.ofString "numbers") = some (.ref U)) (hi : IntsAre xs ns) (hz : xs.length ≤ 200) (hx : ∃ t, xs[0]? = some (.int k t))
    (hQ : ∀ h' tk m', Fr h₀ L h' m' → Q (.ret (.bool true)) { s with heap := h', toks := tk }) :
    wpAny (model Challenge.rw_fe0236_01.row.prog w) (callerA.deeper (envL L fa cd)) (exec (lawSt 1) (envL L fa cd)) (fun f s' => match f with
      | .next => wpAny (model Challenge.rw_fe0236_01.row.prog w) (callerA.deeper (envL L fa cd)) (execs [lawSt 2, lawSt 3, lawSt 4, lawSt 5, lawSt 6] (envL L fa cd)) Q E s'
      | f => Q f s') E s := by
  have hroom : callerA.depth < 400 := by decide
  have hu : callerA.units < 20 := by decide
  have hh : callerA.handled = none := rfl
  refine s_init X T F N hi hh hnm hz ?_
  intro h1 tk1 D ys F1 N1 n1 z1 b1
  dsimp only
  refine wpAny_execs_cons ?_
  refine wpAny_mono (s_for (below_caller _) X T F1 N1 n1 hroom hu hh (if_pos rfl) ((if_neg (by decide +kernel)).trans hnm) (by omega) b1 hi hz ?_ (Q := fun f s' => match f with
      | .next => wpAny (model Challenge.rw_fe0236_01.row.prog w) (callerA.deeper (envL L fa cd)) (execs [lawSt 3, lawSt 4, lawSt 5, lawSt 6] (envL L fa cd)) Q E s'
      | f => Q f s')) (fun _ _ x => x) (fun _ _ x => x.elim)
  intro h2 tk2 m2 D2 ws c2 rest2 F2' hst2 hnm2 N2
  dsimp only
  exact s_end (below_caller _) X T F2' N2 hroom hu hh hst2 hnm2 hx (fun h3 tk3 m3 F3 => hQ h3 tk3 m3 F3)
end Mine
open Mine
set_option maxHeartbeats 8000000 in
theorem PySem.Challenge.cw_fe0236_01_holds : PySem.Challenge.rw_fe0236_01.Holds := by
  exact hd (by
    k_go0
    all_goals (try k_fold)
    repeat' (first | (k_unfold; (try dsimp only)) | (k_end; wrow_close) | ((fail_if_success (with_reducible show wpAny _ _ (exec (Stmt.Assign [PySem.Expr.Name (Str.ofString "stack") _] _ _) _) _ _ _)); walk1))
    have hx := first_abs (by with_reducible assumption)
    obtain ⟨k, hx⟩ := hx
    refine' law_tail (k := k) ?X ?T ?F ?N ?m ?i ?z hx ?q
    case F => with_reducible assumption
    case N => with_reducible assumption
    case X => with_reducible assumption
    case T => with_reducible assumption
    case m => exact if_pos rfl
    case i => with_reducible assumption
    case z => (simp only [List.length_map, List.length_append, List.length_cons, List.length_nil] at *; omega)
    case q =>
      intro h' tk m' F'
      dsimp only
      first
        | (k_end; wrow_close)
        | k_steps)

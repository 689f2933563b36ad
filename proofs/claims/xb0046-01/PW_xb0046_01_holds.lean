import PyProof.Rows.All
import Wide.All
import OpenK.AllK
import Wide.FinOn
import PySem.Challenge.RW_xb0046_01
set_option Elab.async false
namespace Mine
open PySem PySem.Spec PySem.Calls PyProof.Rows PyProof.V PySem.W
open AutoSeq1 (wpAny_loadPart')
set_option maxRecDepth 100000

abbrev tupIt (l : Addr) : Obj := { cls := .type "tuple_iterator", data := .fields #[.ref l, .int 0 0] }
abbrev enumAt (it : Addr) : Obj := { cls := .type "enumerate", data := .fields #[.none, .bool false, .ref it, rawInt 0, .none, .none] }

theorem meets_enum_tup (l : Addr) (items : Array Value) (n : Nat) (dct : Option Addr) (sl : Array (Option Value)) :
    Meets (Builtin.«enumerate.__new__» ⟨[.type "enumerate", .ref l], []⟩) (fun _ R s =>
      s.heap.get? l = some { cls := .type "tuple", dict := dct, data := .seq items n, slots := sl } ∧
      R (.ok (.ret (.ref (s.heap.push (tupIt l)).objs.size))) { s with heap := (s.heap.push (tupIt l)).push (enumAt s.heap.objs.size) }) :=
  .of_wp fun prog w A R s h => by
    obtain ⟨hp, g, d, tk, os⟩ := s; obtain ⟨hl, h⟩ := h
    have hsub := sub_enumerate
    have hL : Heap.IsTuple (Shared.heap ⟨hp, g, d, tk, os⟩) l items := ⟨_, hl, rfl, n, rfl⟩
    wp_walk using wpAny_loadPart' hl
    refine wpAny_stack_any fun st => wpAny_pure ?_
    split
    · rename_i c _ _ _ _ _
      cases (c == Value.type "enumerate") <;>
      · wp_walk using wpAny_loadPart' hl, wpAny_pyIter_tuple hL
        exact ⟨_, rfl, h⟩
    · wp_walk using wpAny_loadPart' hl, wpAny_pyIter_tuple hL
      exact ⟨_, rfl, h⟩

section
variable {prog : Program} {w : World} {A : Around} {E : Value → Shared → Prop} {s : Shared}

/-- enumerate of a tuple: an iterator of the tuple, then the enumerate object above it -/
theorem call_enum_tup {l : Addr} {items : Array Value} {Q : Value → Shared → Prop} (hL : s.heap.IsTuple l items)
    (h : ∀ h', IsEnum h' (s.heap.objs.size + 1) s.heap.objs.size 0 .none → h'.IsTupleIter s.heap.objs.size l 0 → h'.objs.size = s.heap.objs.size + 2 →
      (∀ b o, s.heap.get? b = some o → h'.get? b = some o) → Q (.ref (s.heap.objs.size + 1)) { s with heap := h' }) :
    wpAny (model prog w) A (call (.type "enumerate") [.ref l]) Q E s := by
  obtain ⟨⟨c, dct, dt, sl⟩, hl, hc, n, hd⟩ := hL
  cases (show c = .type "tuple" from hc)
  cases (show dt = .seq items n from hd)
  refine callType_new F.called_enumerate (by decide) (F.typeCall_enumerate_1 _) (F.newCall_enumerate_1 _) (fun obj => F.args_object_init_2 obj _) F.entry_enumerate_new
    (meets_enum_tup l items n dct sl) ⟨hl, ?_⟩
  have hz : (s.heap.push (tupIt l)).objs.size = s.heap.objs.size + 1 := Heap.size_push ..
  have he : IsEnum ((s.heap.push (tupIt l)).push (enumAt s.heap.objs.size)) (s.heap.objs.size + 1) s.heap.objs.size 0 .none := by
    have q := Heap.get?_push_size (s.heap.push (tupIt l)) (o := enumAt s.heap.objs.size) rfl
    rwa [hz] at q
  show _ ∧ _
  rw [hz]
  exact ⟨⟨_, he, rfl⟩, h _ he ⟨_, Heap.get?_push_of_some _ (Heap.get?_push_size _ rfl), rfl, rfl⟩ (by rw [Heap.size_push, hz])
    fun b o x => Heap.get?_push_of_some _ (Heap.get?_push_of_some _ x)⟩

theorem nextOf_tup {it l : Addr} {i : Nat} {items : Array Value} {x : Value} {Q : Value → Shared → Prop} (hit : s.heap.IsTupleIter it l i)
    (hl : s.heap.IsTuple l items) (hx : items[i]? = some x)
    (hQ : ∀ h', h'.IsTupleIter it l (i + 1) → Heap.SameBut it s.heap h' → Q x { s with heap := h' }) :
    wpAny (model prog w) A (Builtin.SmallTypes.nextOf (.ref it)) Q E s := by
  obtain ⟨o, ho, hc, hd⟩ := id hit
  obtain ⟨ol, hol, _, nl, hdl⟩ := hl
  unfold Builtin.SmallTypes.nextOf
  refine wpAny_bind (wpAny_callSpecial?_slot (name := Str.ofString "__next__") hit.typeIs F.slot_tuple_iterator_next
    (wpAny_call_entry F.slot_tuple_iterator_next hit.typeIs F.entry_tuple_iterator_next ?_ (F.args_tuple_iterator_next_1 _)))
  show wpAny _ _ (field (.ref it) 0 >>= _) _ _ s
  refine wpAny_bind (wpAny_field ho hd (x := .ref l) rfl ?_)
  show wpAny _ _ (if (Value.ref l == Value.none) = true then _ else _) _ _ s
  rw [if_neg (show ¬ ((Value.ref l == Value.none) = true) from Bool.false_ne_true)]
  show wpAny _ _ (field (.ref it) 1 >>= _) _ _ s
  refine wpAny_bind (wpAny_field ho hd (x := .int i 0) rfl ?_)
  show wpAny _ _ (seqItems? (.ref l) >>= _) _ _ s
  refine wpAny_bind (wpAny_seqItems hol hdl ?_)
  simp only [Int.toNat_natCast, hx]
  refine wpAny_bind (wpAny_setField ho hd (by simp) (wpAny_pure ⟨x, rfl, wpAny_pure (hQ _ ?_ (Heap.SameBut.update ..))⟩))
  exact ⟨_, Heap.get?_update_self _ ho (Obj.isFreed_of_fields (Obj.data_mapFields hd _)), (Obj.cls_mapFields ..).trans hc, by
    rw [Obj.data_mapFields hd]; simp [rawInt]⟩

theorem nextOf_tup_end {it l : Addr} {i : Nat} {items : Array Value} {Q : Value → Shared → Prop} (hh : A.handled = none)
    (hit : s.heap.IsTupleIter it l i) (hl : s.heap.IsTuple l items) (hx : items[i]? = none)
    (hE : ∀ h' e, Heap.ExtBut it s.heap h' → (∃ o, h'.get? e = some o ∧ o.cls = .type "StopIteration") → E (.ref e) { s with heap := h' }) :
    wpAny (model prog w) A (Builtin.SmallTypes.nextOf (.ref it)) Q E s := by
  obtain ⟨o, ho, hc, hd⟩ := id hit
  obtain ⟨ol, hol, _, nl, hdl⟩ := hl
  unfold Builtin.SmallTypes.nextOf
  refine wpAny_bind (wpAny_callSpecial?_slot (name := Str.ofString "__next__") hit.typeIs F.slot_tuple_iterator_next
    (wpAny_call_entry F.slot_tuple_iterator_next hit.typeIs F.entry_tuple_iterator_next ?_ (F.args_tuple_iterator_next_1 _)))
  show wpAny _ _ (field (.ref it) 0 >>= _) _ _ s
  refine wpAny_bind (wpAny_field ho hd (x := .ref l) rfl ?_)
  show wpAny _ _ (if (Value.ref l == Value.none) = true then _ else _) _ _ s
  rw [if_neg (show ¬ ((Value.ref l == Value.none) = true) from Bool.false_ne_true)]
  show wpAny _ _ (field (.ref it) 1 >>= _) _ _ s
  refine wpAny_bind (wpAny_field ho hd (x := .int i 0) rfl ?_)
  show wpAny _ _ (seqItems? (.ref l) >>= _) _ _ s
  refine wpAny_bind (wpAny_seqItems hol hdl ?_)
  simp only [Int.toNat_natCast, hx]
  refine wpAny_bind (wpAny_rule (wpAny_bind (wpAny_setField ho hd (by simp) ?_)))
  show wpAny _ _ (newExc (.type "StopIteration") [] >>= _) _ _ _
  refine wpAny_bind ?_
  simp only [newExc, newTuple]
  refine wpAny_bind (wpAny_newObj_type ?_ (by size_fits))
  refine wpAny_bind (m := firstArgMember _ _) (wpAny_of_eq (a := Value.none) (by first | rfl | (simp only [firstArgMember]; rfl)) ?_)
  refine wpAny_newObj_type ?_ (by size_fits)
  simp only [raiseNew]
  refine wpAny_bind (wpAny_handled ?_)
  first | rw [show A.in1.handled = none from hh] | rw [hh]
  refine wpAny_bind (wpAny_pure (wpAny_throw ?_))
  exact hE _ _ (((Heap.SameBut.update ..).extBut.push _).push _) ⟨_, Heap.get?_push_size _ rfl, rfl⟩
end

theorem draws_tup {prog : Program} {w : World} {A : Around} (hh : A.handled = none) (it l : Addr) (hne : l ≠ it) (items : Array Value) :
    Draws prog w A it [it, l] items.size (fun i v => items[i]? = some v) (fun i h => h.IsTupleIter it l i ∧ h.IsTuple l items) where
  live := fun _ _ st => let ⟨o, ho, _⟩ := st.1; ⟨o, ho⟩
  frame := fun _ _ _ st hk => ⟨st.1.at fun o e => hk it (by simp) o e, st.2.at fun o e => hk l (by simp) o e⟩
  item := fun i s Q E hi st hQ => nextOf_tup st.1 st.2 (x := items[i]) (by simp [hi]) fun h' hit' hs' =>
    hQ _ h' s.toks (by simp [hi]) ⟨hit', st.2.extBut hs'.extBut hne⟩ hs'
  done := fun _ _ _ st hE => nextOf_tup_end hh st.1 st.2 (by simp) hE
end Mine

namespace Mine
open PySem PySem.Spec PySem.Calls PyProof.Rows PyProof.V PySem.W
set_option maxRecDepth 100000

/-- a row of a table: tuples of an int and a text, read off the heap -/
inductive Pairs (h : Heap) : List Value → List (Int × Str) → Prop
  | nil : Pairs h [] []
  | cons {a : Addr} {b : Int} {t : Tok} {c : Str} {u : Tok} {vs : List Value} {cs : List (Int × Str)} :
      IsTup h a #[.int b t, .str c u] → Pairs h vs cs → Pairs h (.ref a :: vs) ((b, c) :: cs)

theorem Pairs.get {h : Heap} {vs : List Value} {cs : List (Int × Str)} (p : Pairs h vs cs) :
    ∀ i, i < vs.length → ∃ a b t c u, vs[i]? = some (.ref a) ∧ cs[i]? = some (b, c) ∧ IsTup h a #[.int b t, .str c u] := by
  induction p with
  | nil => intro i hi; exact absurd hi (Nat.not_lt_zero _)
  | @cons a b t c u vs cs ht _ ih =>
    intro i hi
    cases i with
    | zero => exact ⟨a, b, t, c, u, rfl, rfl, ht⟩
    | succ i =>
      obtain ⟨a', b', t', c', u', e1, e2, h'⟩ := ih i (by simpa using hi)
      exact ⟨a', b', t', c', u', by simpa using e1, by simpa using e2, h'⟩
theorem Pairs.len {h : Heap} {vs : List Value} {cs : List (Int × Str)} (p : Pairs h vs cs) : vs.length = cs.length := by
  induction p with
  | nil => rfl
  | cons _ _ ih => simp [ih]

/-- the first text whose number is met, else d -/
def pick (hit : Int → Bool) (d : Str) : List (Int × Str) → Str
  | [] => d
  | (b, c) :: r => if hit b then c else pick hit d r

theorem pick_hit {hit : Int → Bool} {d : Str} : ∀ {cs : List (Int × Str)} {i : Nat} {b : Int} {c : Str}, cs[i]? = some (b, c) → hit b = true →
    (∀ j, j < i → ∀ b' c', cs[j]? = some (b', c') → hit b' = false) → pick hit d cs = c
  | [], _, _, _, h, _, _ => by simp at h
  | (b0, c0) :: r, 0, b, c, h, hb, _ => by
    obtain ⟨rfl, rfl⟩ : b0 = b ∧ c0 = c := by simpa using h
    simp [pick, hb]
  | (b0, c0) :: r, i + 1, b, c, h, hb, hn => by
    have h0 : hit b0 = false := hn 0 (Nat.succ_pos _) b0 c0 rfl
    have := pick_hit (d := d) (cs := r) (i := i) (by simpa using h) hb fun j hj b' c' e => hn (j + 1) (Nat.succ_lt_succ hj) b' c' (by simpa using e)
    simp [pick, h0, this]
theorem pick_none {hit : Int → Bool} {d : Str} : ∀ {cs : List (Int × Str)}, (∀ j, j < cs.length → ∀ b' c', cs[j]? = some (b', c') → hit b' = false) → pick hit d cs = d
  | [], _ => rfl
  | (b0, c0) :: r, hn => by
    have h0 : hit b0 = false := hn 0 (Nat.succ_pos _) b0 c0 rfl
    have := pick_none (d := d) (cs := r) fun j hj b' c' e => hn (j + 1) (Nat.succ_lt_succ hj) b' c' (by simpa using e)
    simp [pick, h0, this]

/-- what a turn of the search may leave -/
def PickPost (h₀ : Heap) (L : Addr) (m : Str → Option Value) (its : List (Addr × Obj)) (hb : Bool) (After : Heap → Prop) (s₁ : Shared) (f : Flow) (s₂ : Shared) : Prop :=
  match f with
  | .next => hb = false ∧ ∃ h' tk', s₂ = { s₁ with heap := h', toks := tk' } ∧ Fr h₀ L h' m ∧ News h₀ L h' its
  | .brk => hb = true ∧ ∃ h' tk', s₂ = { s₁ with heap := h', toks := tk' } ∧ Fr h₀ L h' m ∧ After h'
  | _ => False
/-- what the else of the search leaves -/
def ElsePost (h₀ : Heap) (L : Addr) (m : Str → Option Value) (After : Heap → Prop) (s₁ : Shared) (f : Flow) (s₂ : Shared) : Prop :=
  match f with
  | .next => ∃ h' tk', s₂ = { s₁ with heap := h', toks := tk' } ∧ Fr h₀ L h' m ∧ After h'
  | _ => False

section
variable {prog : Program} {w : World} {A : Around} {E : Value → Shared → Prop} {s : Shared} {cn : Str} {csc : Scope} {L fa : Addr} {cd : Value} {h₀ : Heap}

/-- for b, c in y: a test of b that breaks with a text put away; else: another text put away -/
theorem for_pick {xb xc y : Str} {pb pc pt py pos : Pos} {kk : Nat} {body els : List Stmt} {Q : Flow → Shared → Prop} {m₀ : Str → Option Value} {news : List (Addr × Obj)} {tb : Addr} {vs : List Value} {cs : List (Int × Str)}
    (hit : Int → Bool) (After : Str → Heap → Prop) (d : Str)
    (hh : A.handled = none) (F : Fr h₀ L s.heap m₀) (N : News h₀ L s.heap news)
    (hk : csc.kind = .function) (hy : m₀ y = some (.ref tb)) (hyk : (envOf cn csc L fa cd).kindOf y = some .local)
    (hxb : (envOf cn csc L fa cd).kindOf xb = some .local) (hxc : (envOf cn csc L fa cd).kindOf xc = some .local) (hyd : (y == ("__debug__" : Str)) = false)
    (ht : IsTup h₀ tb vs.toArray) (hr : Pairs h₀ vs cs)
    (turn : ∀ (b : Int) (t : Tok) (c : Str) (u : Tok) (I : Addr) (o : Obj) (h : Heap) (tk : Nat), (∀ p ∈ news, p.1 < I) →
      Fr h₀ L h (fun z => if z = xc then some (.str c u) else if z = xb then some (.int b t) else m₀ z) → News h₀ L h ((I, o) :: news) →
      wpAny (model prog w) A (execs body (envOf cn csc L fa cd)) (PickPost h₀ L (fun z => if z = xc then some (.str c u) else if z = xb then some (.int b t) else m₀ z) ((I, o) :: news) (hit b) (After c) { s with heap := h, toks := tk }) E { s with heap := h, toks := tk })
    (other : ∀ (g : Str → Option Value) (h : Heap) (tk : Nat), Fr h₀ L h (fun z => if z = xc then g z else if z = xb then g z else m₀ z) → News h₀ L h news →
      wpAny (model prog w) A (execs els (envOf cn csc L fa cd)) (ElsePost h₀ L (fun z => if z = xc then g z else if z = xb then g z else m₀ z) (After d) { s with heap := h, toks := tk }) E { s with heap := h, toks := tk })
    (done : ∀ (g : Str → Option Value) (h : Heap) (tk : Nat), Fr h₀ L h (fun z => if z = xc then g z else if z = xb then g z else m₀ z) → After (pick hit d cs) h → Q .next { s with heap := h, toks := tk })
    (hE : PassesOwn (model prog w) A (envOf cn csc L fa cd) E := by passes_own) :
    wpAny (model prog w) A (exec (.For (.Tuple [.Name xb pb, .Name xc pc] kk pt) (.Name y py) body els pos) (envOf cn csc L fa cd)) Q E s := by
  have hts : s.heap.IsTuple tb vs.toArray := F.tup ht
  have htb : tb < s.heap.objs.size := by obtain ⟨o, ho, _⟩ := hts; exact Heap.lt_size ho
  have hne : tb ≠ s.heap.objs.size := Nat.ne_of_lt htb
  refine wpAny_For (ld F hy (wpAny_pyIter_tuple hts ?_) hk hyk hyd) (by intro _; rfl)
  generalize hI : s.heap.objs.size = I at hne
  have hlt : ∀ p ∈ news, p.1 < I := fun p hp => hI ▸ Heap.lt_size (N p hp).1
  have hI0 : h₀.get? I = none := hI ▸ next_is_new F
  have hIL : I ≠ L := hI ▸ Nat.ne_of_gt F.ns.lt
  let R : Result → Shared → Prop := fun r s' => match r with | .ok f => Q f s' | .error e => cameBackBy (model prog w) A (envOf cn csc L fa cd) E e s'
  show codeAny _ _ _ R _
  let Inv : Nat → Shared → Prop := fun k s' => ∃ (h' : Heap) (tk i : Nat) (g : Str → Option Value), s' = { s with heap := h', toks := tk } ∧ h'.IsTupleIter I tb i ∧
    Fr h₀ L h' (fun z => if z = xc then g z else if z = xb then g z else m₀ z) ∧ News h₀ L h' news ∧ (∀ j, j < i → ∀ b c, cs[j]? = some (b, c) → hit b = false) ∧ i ≤ vs.length ∧ k = vs.length + 1 - i
  have start : Inv (vs.length + 1) { s with heap := s.heap.push { cls := .type "tuple_iterator", data := .fields #[.ref tb, .int 0 0] } } := by
    refine ⟨_, s.toks, 0, m₀, rfl, hI ▸ ⟨_, Heap.get?_push_size _ rfl, rfl, rfl⟩, ?_, (fun p hp => ⟨Heap.get?_push_of_some _ (N p hp).1, (N p hp).2⟩), (fun j hj => absurd hj (Nat.not_lt_zero _)), Nat.zero_le _, rfl⟩
    have e : (fun z => if z = xc then m₀ z else if z = xb then m₀ z else m₀ z) = m₀ := by funext z; split <;> (try split) <;> rfl
    rw [e]
    exact F.push _
  refine codeAny_forLoop_any Inv ?_ (vs.length + 1) start
  rintro k s' ⟨H, tk, i, g, rfl, hit', F', N', hno, hi, rfl⟩
  have htH : Heap.IsTuple ({ s with heap := H, toks := tk } : Shared).heap tb vs.toArray := F'.tup ht
  by_cases hlt' : i < vs.length
  · obtain ⟨a, b, t, c, u, hv, hc, hp⟩ := hr.get i hlt'
    refine wpAny_pyNext_tuple_item hit' htH (x := .ref a) (by simpa using hv) fun h₁ hit₁ hs₁ => ?_
    refine letGo_tupleiter hit₁ ?_
    obtain ⟨o, ho, hoc, hod⟩ := id hit₁
    have F₁ : Fr h₀ L h₁ (fun z => if z = xc then g z else if z = xb then g z else m₀ z) := F'.change hs₁ hIL hI0
    have N₁ : News h₀ L h₁ ((I, o) :: news) := fun p hp => by
      rcases List.mem_cons.mp hp with rfl | hp
      · exact ⟨ho, hIL, hI0⟩
      · exact ⟨(hs₁.2 _ (Nat.ne_of_lt (hlt p hp))).trans (N' p hp).1, (N' p hp).2⟩
    refine unpackN_ (s := { s with heap := h₁, toks := tk }) F₁ N₁ (F₁.tup hp) hh rfl rfl fun h₂ F₂ N₂ => ?_
    refine assignInOrder_cons (wpAny_assign_Name (storeX_L (s := { s with heap := h₂, toks := tk }) F₂ N₂ (fun h₃ F₃ N₃ => ?_) hk hxb))
    refine assignInOrder_cons (wpAny_assign_Name (storeX_L (s := { s with heap := h₃, toks := tk + 1 }) F₃ N₃ (fun h₄ F₄ N₄ => assignInOrder_nil ?_) hk hxc))
    have e : (fun z => if z = xc then some (Value.str c u) else if z = xb then some (Value.int b t) else if z = xc then g z else if z = xb then g z else m₀ z) =
        fun z => if z = xc then some (Value.str c u) else if z = xb then some (Value.int b t) else m₀ z := by
      funext z
      by_cases h1 : z = xc
      · simp [h1]
      · by_cases h2 : z = xb <;> simp [h1, h2]
    rw [e] at F₄
    refine wpAny_mono (wpAny_passesOwn hE (turn b t c u I o h₄ (tk + 1 + 1) hlt F₄ N₄)) (fun f s₃ p => ?_) fun _ _ x => x
    have e2 : (fun z => if z = xc then (fun q => if q = xc then some (Value.str c u) else some (Value.int b t)) z else if z = xb then (fun q => if q = xc then some (Value.str c u) else some (Value.int b t)) z else m₀ z) =
        fun z => if z = xc then some (Value.str c u) else if z = xb then some (Value.int b t) else m₀ z := by
      funext z
      by_cases h1 : z = xc
      · simp [h1]
      · by_cases h2 : z = xb <;> simp [h1, h2]
    cases f with
    | next =>
      obtain ⟨hb, h', tk', rfl, F'', N''⟩ := p
      refine ⟨vs.length + 1 - (i + 1), by omega, h', tk', i + 1, (fun q => if q = xc then some (Value.str c u) else some (Value.int b t)), rfl, ?_, ?_, fun p hp => N'' p (.tail _ hp), ?_, hlt', rfl⟩
      · exact ⟨o, (N'' (I, o) (.head _)).1, hoc, hod⟩
      · rw [e2]; exact F''
      · intro j hj b' c' ej
        rcases Nat.lt_or_eq_of_le (Nat.le_of_lt_succ hj) with hj | rfl
        · exact hno j hj b' c' ej
        · rw [hc] at ej; cases ej; exact hb
    | brk =>
      obtain ⟨hb, h', tk', rfl, F'', ha⟩ := p
      refine done (fun q => if q = xc then some (Value.str c u) else some (Value.int b t)) h' tk' ?_ ?_
      · rw [e2]; exact F''
      · rw [pick_hit hc hb hno]; exact ha
    | cont => exact p.elim
    | ret v => exact p.elim
  · have hin : i = vs.length := by omega
    subst hin
    refine wpAny_pyNext_tuple_end hh hit' htH (by simp) fun h₁ hx₁ => ?_
    have F₁ : Fr h₀ L h₁ (fun z => if z = xc then g z else if z = xb then g z else m₀ z) :=
      ⟨F'.ns.at' fun o e => hx₁ _ o hIL.symm e, fun q o e => hx₁ q o (fun z => by rw [z, hI0] at e; cases e) (F'.keep q o e), F'.above⟩
    have N₁ : News h₀ L h₁ news := fun p hp => ⟨hx₁ _ _ (Nat.ne_of_lt (hlt p hp)) (N' p hp).1, (N' p hp).2⟩
    refine wpAny_mono (wpAny_passesOwn hE (other g h₁ tk F₁ N₁)) (fun f s₃ p => ?_) fun _ _ x => x
    cases f with
    | next =>
      obtain ⟨h', tk', rfl, F'', ha⟩ := p
      refine done g h' tk' F'' ?_
      rw [pick_none fun j hj b' c' e => hno j (by rw [hr.len]; exact hj) b' c' e]
      exact ha
    | brk => exact p.elim
    | cont => exact p.elim
    | ret v => exact p.elim
end
end Mine

namespace Mine
open PySem PySem.Spec PySem.Calls PyProof.Rows PyProof.V PySem.W
set_option maxRecDepth 100000

/-- a table: a tuple of rows -/
inductive Tabs (h : Heap) : List Value → List (List (Int × Str)) → Prop
  | nil : Tabs h [] []
  | cons {a : Addr} {row : List Value} {cs : List (Int × Str)} {vs : List Value} {ts : List (List (Int × Str))} :
      IsTup h a row.toArray → Pairs h row cs → Tabs h vs ts → Tabs h (.ref a :: vs) (cs :: ts)
theorem Tabs.get {h : Heap} {vs : List Value} {ts : List (List (Int × Str))} (p : Tabs h vs ts) :
    ∀ (i : Nat) (v : Value), vs[i]? = some v → ∃ (a : Addr) (row : List Value) (cs : List (Int × Str)), v = .ref a ∧ ts[i]? = some cs ∧ IsTup h a row.toArray ∧ Pairs h row cs := by
  induction p with
  | nil => intro i v h; simp at h
  | @cons a row cs vs ts ht hp _ ih =>
    intro i v hv
    cases i with
    | zero =>
      have e : Value.ref a = v := by simpa using hv
      exact ⟨a, row, cs, e.symm, rfl, ht, hp⟩
    | succ i =>
      obtain ⟨a', row', cs', e1, e2, h1, h2⟩ := ih i v (by simpa using hv)
      exact ⟨a', row', cs', e1, by simpa using e2, h1, h2⟩

/-- what a turn over the table leaves: the list longer by one -/
def EnumPost (h₀ : Heap) (L : Addr) (stored : List Str) (m₀ : Str → Option Value) (its rest : List (Addr × Obj)) (pa : Addr) (P : Nat → List Value → Prop) (i : Nat) (s₁ : Shared) (f : Flow) (s₂ : Shared) : Prop :=
  match f with
  | .next => ∃ h' tk' m' ws', s₂ = { s₁ with heap := h', toks := tk' } ∧ Fr h₀ L h' m' ∧ (∀ z, stored.contains z = false → m' z = m₀ z) ∧ News h₀ L h' (its ++ (pa, listOf (List.toArray ws') (i + 1)) :: rest) ∧ P (i + 1) ws'
  | _ => False

section
variable {prog : Program} {w : World} {A : Around} {E : Value → Shared → Prop} {s : Shared} {env : Env} {h₀ : Heap} {body : List Stmt} {Q : Flow → Shared → Prop}

theorem enum_turns {elts : List Expr} {kk : Nat} {pos : Pos} {l pa : Addr} {rest : List (Addr × Obj)} {vs : List Value} {ts : List (List (Int × Str))} {m₀ : Str → Option Value} (stored : List Str) (P : Nat → List Value → Prop)
    (hh : A.handled = none) (F : Fr h₀ env.locals s.heap m₀) (N : News h₀ env.locals s.heap ((pa, listOf (List.toArray []) 0) :: rest))
    (hg : IsTup h₀ l vs.toArray) (hT : Tabs h₀ vs ts) (h0 : P 0 [])
    (turn : ∀ (i : Nat) (a : Addr) (row : List Value) (cs : List (Int × Str)) (g : Str → Option Value) (T : Addr) (t : Tok) (I : Addr) (oe oi : Obj) (ws : List Value) (h : Heap) (tk : Nat), i < vs.length → ts[i]? = some cs → IsTup h₀ a row.toArray → Pairs h₀ row cs → P i ws → (∀ p ∈ (pa, listOf (List.toArray ws) i) :: rest, p.1 < I) →
      IsTup h T #[.int (i : Int) t, .ref a] → Fr h₀ env.locals h (fun z => if stored.contains z then g z else m₀ z) → News h₀ env.locals h ((I + 1, oe) :: (I, oi) :: (pa, listOf (List.toArray ws) i) :: rest) →
      wpAny (model prog w) A (assign (.Tuple elts kk pos) env (.ref T)) (fun _ s₂ => wpAny (model prog w) A (execs body env) (EnumPost h₀ env.locals stored m₀ [(I + 1, oe), (I, oi)] rest pa P i { s with heap := h, toks := tk }) E s₂) E { s with heap := h, toks := tk })
    (done : ∀ (g : Str → Option Value) (h : Heap) (tk : Nat) (ws : List Value), P vs.length ws → Fr h₀ env.locals h (fun z => if stored.contains z then g z else m₀ z) → News h₀ env.locals h ((pa, listOf (List.toArray ws) vs.length) :: rest) → Q .next { s with heap := h, toks := tk }) :
    wpAny (model prog w) A (call (.type "enumerate") [.ref l]) (fun xv s₁ => wpAny (model prog w) A (pyIter xv) (fun it s₂ => TurnsAt prog w A h₀ env (.Tuple elts kk pos) body Q E it s₂) E s₁) E s := by
  have hls : s.heap.IsTuple l vs.toArray := F.tup hg
  obtain ⟨ol, hol, _⟩ := id hg
  have hl0 : l < h₀.objs.size := Heap.lt_size hol
  have hlt : l < s.heap.objs.size := Heap.lt_size (F.keep _ _ hol)
  have hL : env.locals < s.heap.objs.size := F.ns.lt
  refine call_enum_tup hls fun h' he hi _ hk => ?_
  refine wpAny_pyIter_enum he ?_
  generalize hI : s.heap.objs.size = I at *
  have hIe : I + 1 ≠ I := Nat.succ_ne_self I
  have hpa : pa < I := hI ▸ Heap.lt_size (N _ (.head _)).1
  have hrest : ∀ p ∈ rest, p.1 < I := fun p hp => hI ▸ Heap.lt_size (N _ (.tail _ hp)).1
  have hall' : ∀ (ws : List Value) (i : Nat), ∀ p ∈ (pa, listOf (List.toArray ws) i) :: rest, p.1 < I := fun ws i p hp => by
    rcases List.mem_cons.mp hp with rfl | hp
    · exact hpa
    · exact hrest p hp
  have new : ∀ b, I ≤ b → h₀.get? b = none := fun b hb => by
    cases e : h₀.get? b with
    | none => rfl
    | some o => exact absurd (Heap.lt_size (F.keep _ _ e)) (Nat.not_lt.mpr (hI.symm ▸ hb))
  have D := draws_tup (prog := prog) (w := w) (A := A.in1) hh I l (Nat.ne_of_lt hlt) vs.toArray
  have hef : I + 1 ∉ [I, l] := by
    intro hm
    rcases List.mem_cons.mp hm with e | hm
    · exact hIe e
    · exact Nat.ne_of_gt (Nat.lt_succ_of_lt hlt) (List.mem_singleton.mp hm)
  let J : Nat → (Str → Option Value) → List (Addr × Obj) → Prop := fun i m news => ∃ (g : Str → Option Value) (ws : List Value), m = (fun z => if stored.contains z then g z else m₀ z) ∧ news = (pa, listOf (List.toArray ws) i) :: rest ∧ P i ws
  refine ⟨I + 1, (I + 1) :: [I, l], [I + 1, I], vs.toArray.size, _, _, _, m₀, (pa, listOf (List.toArray []) 0) :: rest, J, rfl, KTurns.ofWalksU (WalksT.enumerateD D (I + 1) hIe hef (List.mem_cons_self ..)).toU, ?_, ?_, ?_, ⟨⟨_, he⟩, hi, hls.at fun o e => hk l o e⟩, F.keeps hk, N.grown hk, ⟨m₀, [], ?_, rfl, h0⟩, ?_, ?_⟩
  · intro hm
    simp only [List.mem_cons, List.not_mem_nil, or_false] at hm
    rcases hm with e | e | e
    · exact Nat.ne_of_lt (Nat.lt_succ_of_lt hL) e
    · exact Nat.ne_of_lt hL e
    · exact Nat.ne_of_gt (Nat.lt_of_lt_of_le hl0 F.above) e
  · intro b hb
    simp only [List.mem_cons, List.not_mem_nil, or_false] at hb
    rcases hb with rfl | rfl
    · exact new _ (Nat.le_succ _)
    · exact new _ (Nat.le_refl _)
  · intro p hp hm
    have hq := hall' _ _ p hp
    simp only [List.mem_cons, List.not_mem_nil, or_false] at hm
    rcases hm with e | e
    · exact Nat.ne_of_lt (Nat.lt_succ_of_lt hq) e
    · exact Nat.ne_of_lt hq e
  · funext z; split <;> rfl
  · rintro i v m₁ news₁ h₁ tk₁ own hin ⟨T, vals, rfl, ⟨t, x, hx, rfl⟩, hTup⟩ ⟨g, ws, rfl, rfl, hP⟩ _ hown hget hall ⟨⟨old, he₁⟩, ⟨oi, hoi, _⟩, _⟩ F₁ N₁
    obtain ⟨a, row, cs, rfl, hcs, hrow, hpairs⟩ := hT.get i x (by simpa using hx)
    have m1 := hall (I + 1) (List.mem_cons_self ..) (new _ (Nat.le_succ _)) _ he₁
    have m2 := hall I (List.mem_cons_of_mem _ (List.mem_cons_self ..)) (new _ (Nat.le_refl _)) _ hoi
    have N₂ : News h₀ env.locals h₁ ((I + 1, { cls := .type "enumerate", dict := none, data := .fields #[.none, .bool false, .ref I, rawInt ((i + 1 : Nat) : Int), .none, old], slots := #[] }) :: (I, oi) :: (pa, listOf (List.toArray ws) i) :: rest) := fun p hp => by
      rcases List.mem_cons.mp hp with rfl | hp
      · exact N₁ _ (List.mem_append_left _ m1)
      · rcases List.mem_cons.mp hp with rfl | hp
        · exact N₁ _ (List.mem_append_left _ m2)
        · exact N₁ _ (List.mem_append_right _ hp)
    refine wpAny_mono (turn i a row cs g T t I _ oi ws h₁ tk₁ (by simpa using hin) hcs hrow hpairs hP (hall' ws i) hTup F₁ N₂) (fun _ s₂ p => wpAny_mono p (fun f s₃ p => ?_) fun _ _ x => x) fun _ _ x => x
    cases f with
    | next =>
      obtain ⟨h', tk', m', ws', rfl, F', hm', N', hP'⟩ := p
      refine LoopStepV.next ⟨rfl, h', tk', m', (pa, listOf (List.toArray ws') (i + 1)) :: rest, rfl, F', ?_, ?_, m', ws', ?_, rfl, hP'⟩
      · intro p hp
        rcases List.mem_append.mp hp with hp | hp
        · have h1 := hown p hp
          have h2 := hget p hp
          simp only [List.mem_cons, List.not_mem_nil, or_false] at h1
          obtain ⟨pa', po⟩ := p
          dsimp only at h1 h2
          rcases h1 with rfl | rfl | rfl
          · rw [he₁] at h2; cases h2
            exact N' _ (.head _)
          · rw [hoi] at h2; cases h2
            exact N' _ (.tail _ (.head _))
          · have h3 := (N₁ _ (List.mem_append_left _ hp)).2.2
            rw [hol] at h3; cases h3
        · exact N' _ (.tail _ (.tail _ hp))
      · intro p hp hm
        have hq := hall' _ _ p hp
        simp only [List.mem_cons, List.not_mem_nil, or_false] at hm
        rcases hm with e | e
        · exact Nat.ne_of_lt (Nat.lt_succ_of_lt hq) e
        · exact Nat.ne_of_lt hq e
      · funext z
        cases hz : stored.contains z with
        | true => simp
        | false => simp [hm' z hz]
    | brk => exact p.elim
    | cont => exact p.elim
    | ret v => exact p.elim
  · rintro h' tk m' news' F' N' _ ⟨g, ws, rfl, rfl, hP⟩
    have e : vs.toArray.size = vs.length := by simp
    rw [e] at N' hP
    exact done g h' tk ws hP F' N'
end
end Mine

namespace Mine
open PySem PySem.Spec PySem.Calls PyProof.Rows PyProof.V PySem.W
set_option maxRecDepth 100000

/-- what a turn leaves: the ledger as it stood, the cell with anything in it -/
def IntsPost (h₀ : Heap) (L : Addr) (x : Str) (stored : List Str) (m₀ : Str → Option Value) (its : List (Addr × Obj)) (ca : Addr) (s₁ : Shared) (Q : Flow → Shared → Prop) (f : Flow) (s₂ : Shared) : Prop :=
  match f with
  | .ret v => Q (.ret v) s₂
  | .next => ∃ h' tk' m' co' v', s₂ = { s₁ with heap := h', toks := tk' } ∧ Fr h₀ L h' m' ∧ (∀ y, y ≠ x → stored.contains y = false → m' y = m₀ y) ∧ News h₀ L h' (its ++ [(ca, co')]) ∧ Obj.data co' = .cell v'
  | _ => False

section
variable {prog : Program} {w : World} {A : Around} {E : Value → Shared → Prop} {s : Shared} {env : Env} {h₀ : Heap} {body : List Stmt} {Q : Flow → Shared → Prop}

theorem ints_turns {x : Str} {l ca : Addr} {vs : List Value} {ns : List Int} {keep : List (Addr × Obj)} {co : Obj} {v0 : Option Value} {m₀ : Str → Option Value} (stored : List Str)
    (hh : A.handled = none) (hl : s.heap.IsList l vs.toArray) (hin : (∃ o, h₀.get? l = some o) ∨ ∃ o, (l, o) ∈ keep) (hi : IntsAre vs ns)
    (F : Fr h₀ env.locals s.heap m₀) (N : News h₀ env.locals s.heap (keep ++ [(ca, co)])) (hco : co.data = .cell v0)
    (turn : ∀ (n : Int) (t : Tok) (g : Str → Option Value) (I : Addr) (oi co : Obj) (v : Option Value) (h : Heap) (tk : Nat), n ∈ ns → (∀ p ∈ keep ++ [(ca, co)], p.1 < I) → co.data = .cell v →
      Fr h₀ env.locals h (fun y => if y = x then some (.int n t) else if stored.contains y then g y else m₀ y) → News h₀ env.locals h ((I, oi) :: (keep ++ [(ca, co)])) →
      wpAny (model prog w) A (execs body env) (IntsPost h₀ env.locals x stored m₀ ((I, oi) :: keep) ca { s with heap := h, toks := tk } Q) E { s with heap := h, toks := tk })
    (done : ∀ (g : Str → Option Value) (co : Obj) (v : Option Value) (h : Heap) (tk : Nat), co.data = .cell v →
      Fr h₀ env.locals h (fun y => if y = x then g y else if stored.contains y then g y else m₀ y) → News h₀ env.locals h (keep ++ [(ca, co)]) → Q .next { s with heap := h, toks := tk }) :
    wpAny (model prog w) A (pyIter (.ref l)) (fun it s₂ => LoopAtV prog w A h₀ env x body Q E it s₂) E s := by
  obtain ⟨ol, hol, hlr⟩ := id hl
  have hlt : l < s.heap.objs.size := Heap.lt_size hol
  have hlL : l ≠ env.locals := by
    rcases hin with ⟨o, h⟩ | ⟨o, h⟩
    · exact Nat.ne_of_lt (Nat.lt_of_lt_of_le (Heap.lt_size h) F.above)
    · exact (N _ (List.mem_append_left _ h)).2.1
  refine wpAny_pyIter_list hl ?_
  generalize hI : s.heap.objs.size = I at hlt
  have hnew : h₀.get? I = none := hI ▸ next_is_new F
  have hIL : I ≠ env.locals := hI ▸ Nat.ne_of_gt F.ns.lt
  have below : ∀ p ∈ keep ++ [(ca, co)], p.1 < I := fun p hp => hI ▸ Heap.lt_size (N p hp).1
  have W := Walks.list (prog := prog) (w := w) hh I l (Nat.ne_of_lt hlt) vs.toArray
  have hlen : vs.toArray.size = ns.length := by simp [hi.length]
  rw [hlen] at W
  let J : Nat → (Str → Option Value) → List (Addr × Obj) → Prop := fun _ m news => ∃ (co' : Obj) (v : Option Value), news = keep ++ [(ca, co')] ∧ co'.data = .cell v ∧ ∀ y, y ≠ x → stored.contains y = false → m y = m₀ y
  refine ⟨I, _, _, ns.length, _, _, m₀, keep ++ [(ca, co)], J, rfl, W, ?_, ?_, ?_, ⟨⟨_, hI ▸ Heap.get?_push_size _ rfl, rfl, rfl⟩, hl.at fun o e => Heap.get?_push_of_some _ e⟩, F.push _, (fun p hp => ⟨Heap.get?_push_of_some _ (N p hp).1, (N p hp).2⟩), ⟨co, v0, rfl, hco, fun _ _ _ => rfl⟩, ?_, ?_⟩
  · intro hm
    simp only [List.mem_cons, List.not_mem_nil, or_false] at hm
    rcases hm with e | e
    · exact hIL e.symm
    · exact hlL e.symm
  · intro b hb
    rw [List.mem_singleton.mp hb]
    exact hnew
  · intro p hp hm
    exact Nat.ne_of_lt (below p hp) (List.mem_singleton.mp hm)
  · rintro i v m₁ news₁ s₁ own ⟨H, tk, rfl⟩ hlti hP ⟨co', v', rfl, hc', hm'⟩ _ hown hget hall hst F₁ N₁
    obtain ⟨oi, hoi, _⟩ := hst.1
    have m1 := hall I (List.mem_cons_self ..) hnew oi hoi
    obtain ⟨t, hx⟩ := hi.get i ns[i] (by simp [hlti])
    have hv : v = .int ns[i] t := by
      have hP' : vs[i]? = some v := by simpa using hP
      rw [hx] at hP'; exact (Option.some.inj hP').symm
    subst hv
    have below' : ∀ p ∈ keep ++ [(ca, co')], p.1 < I := by
      intro p hp
      rcases List.mem_append.mp hp with hp | hp
      · exact below p (List.mem_append_left _ hp)
      · rw [List.mem_singleton.mp hp]
        exact below (ca, co) (List.mem_append_right _ (.head _))
    have N₂ : News h₀ env.locals H ((I, oi) :: (keep ++ [(ca, co')])) := fun p hp => by
      rcases List.mem_cons.mp hp with rfl | hp
      · exact N₁ _ (List.mem_append_left _ m1)
      · exact N₁ _ (List.mem_append_right _ hp)
    have em : (fun y => if y = x then some (Value.int ns[i] t) else m₁ y) = fun y => if y = x then some (Value.int ns[i] t) else if stored.contains y then m₁ y else m₀ y := by
      funext y
      by_cases h1 : y = x
      · simp [h1]
      · cases h2 : stored.contains y with
        | true => simp
        | false => simp only [if_neg h1, Bool.false_eq_true, if_false]; exact hm' y h1 h2
    rw [em] at F₁
    refine wpAny_mono (turn ns[i] t m₁ I oi co' v' H tk (List.getElem_mem _) below' hc' F₁ N₂) (fun f s₂ p => ?_) fun _ _ e => e
    cases f with
    | ret v => exact .ret p
    | brk => exact p.elim
    | cont => exact p.elim
    | next =>
      obtain ⟨h', tk', m', co₂, v₂, rfl, F', hm₂, N', hc₂⟩ := p
      refine .next ⟨rfl, h', tk', m', keep ++ [(ca, co₂)], rfl, F', ?_, ?_, co₂, v₂, rfl, hc₂, hm₂⟩
      · rintro ⟨pa, po⟩ hp
        rcases List.mem_append.mp hp with hp | hp
        · have h1 := hown _ hp
          have h2 : H.get? pa = some po := hget _ hp
          simp only [List.mem_cons, List.not_mem_nil, or_false] at h1
          rcases h1 with rfl | rfl
          · rw [hoi] at h2; cases h2
            exact N' _ (List.mem_append_left _ (.head _))
          · rcases hin with ⟨o, h⟩ | ⟨o, h⟩
            · have h3 := (N₁ _ (List.mem_append_left _ hp)).2.2
              rw [h] at h3; cases h3
            · have h3 := (N₁ _ (List.mem_append_right _ (List.mem_append_left _ h))).1
              rw [h3] at h2; cases h2
              exact N' _ (List.mem_append_left _ (.tail _ h))
        · rcases List.mem_append.mp hp with hp | hp
          · exact N' _ (List.mem_append_left _ (.tail _ hp))
          · exact N' _ (List.mem_append_right _ hp)
      · intro p hp hm
        rcases List.mem_append.mp hp with hp | hp
        · exact Nat.ne_of_lt (below p (List.mem_append_left _ hp)) (List.mem_singleton.mp hm)
        · rw [List.mem_singleton.mp hp] at hm
          exact Nat.ne_of_lt (below (ca, co) (List.mem_append_right _ (.head _))) (List.mem_singleton.mp hm)
  · rintro h' tk m' news' F' N' _ ⟨co', v', rfl, hc', hm'⟩
    refine done m' co' v' h' tk hc' ?_ N'
    have em : (fun y => if y = x then m' y else if stored.contains y then m' y else m₀ y) = m' := by
      funext y
      by_cases h1 : y = x
      · simp [h1]
      · cases h2 : stored.contains y with
        | true => simp
        | false => simp only [if_neg h1, Bool.false_eq_true, if_false]; exact (hm' y h1 h2).symm
    rw [em]; exact F'

theorem ints_base {x : Str} {l ca : Addr} {vs : List Value} {ns : List Int} {co : Obj} {v0 : Option Value} {m₀ : Str → Option Value} (stored : List Str)
    (hh : A.handled = none) (hl : h₀.IsList l vs.toArray) (hi : IntsAre vs ns)
    (F : Fr h₀ env.locals s.heap m₀) (N : News h₀ env.locals s.heap [(ca, co)]) (hco : co.data = .cell v0)
    (turn : ∀ (n : Int) (t : Tok) (g : Str → Option Value) (I : Addr) (oi co : Obj) (v : Option Value) (h : Heap) (tk : Nat), n ∈ ns → (∀ p ∈ [(ca, co)], p.1 < I) → co.data = .cell v →
      Fr h₀ env.locals h (fun y => if y = x then some (.int n t) else if stored.contains y then g y else m₀ y) → News h₀ env.locals h [(I, oi), (ca, co)] →
      wpAny (model prog w) A (execs body env) (IntsPost h₀ env.locals x stored m₀ [(I, oi)] ca { s with heap := h, toks := tk } Q) E { s with heap := h, toks := tk })
    (done : ∀ (g : Str → Option Value) (co : Obj) (v : Option Value) (h : Heap) (tk : Nat), co.data = .cell v →
      Fr h₀ env.locals h (fun y => if y = x then g y else if stored.contains y then g y else m₀ y) → News h₀ env.locals h [(ca, co)] → Q .next { s with heap := h, toks := tk }) :
    wpAny (model prog w) A (pyIter (.ref l)) (fun it s₂ => LoopAtV prog w A h₀ env x body Q E it s₂) E s :=
  ints_turns (keep := []) stored hh (F.lst hl) (.inl (let ⟨o, ho, _⟩ := hl; ⟨o, ho⟩)) hi F N hco turn done

theorem ints_made {x : Str} {l ca J : Addr} {oj : Obj} {vs : List Value} {ns : List Int} {nn : Nat} {co : Obj} {v0 : Option Value} {m₀ : Str → Option Value} (stored : List Str)
    (hh : A.handled = none) (hi : IntsAre vs ns)
    (F : Fr h₀ env.locals s.heap m₀) (N : News h₀ env.locals s.heap [(l, listOf vs.toArray nn), (J, oj), (ca, co)]) (hco : co.data = .cell v0)
    (turn : ∀ (n : Int) (t : Tok) (g : Str → Option Value) (I : Addr) (oi co : Obj) (v : Option Value) (h : Heap) (tk : Nat), n ∈ ns → (∀ p ∈ [(l, listOf vs.toArray nn), (J, oj), (ca, co)], p.1 < I) → co.data = .cell v →
      Fr h₀ env.locals h (fun y => if y = x then some (.int n t) else if stored.contains y then g y else m₀ y) → News h₀ env.locals h [(I, oi), (l, listOf vs.toArray nn), (J, oj), (ca, co)] →
      wpAny (model prog w) A (execs body env) (IntsPost h₀ env.locals x stored m₀ [(I, oi), (l, listOf vs.toArray nn), (J, oj)] ca { s with heap := h, toks := tk } Q) E { s with heap := h, toks := tk })
    (done : ∀ (g : Str → Option Value) (co : Obj) (v : Option Value) (h : Heap) (tk : Nat), co.data = .cell v →
      Fr h₀ env.locals h (fun y => if y = x then g y else if stored.contains y then g y else m₀ y) → News h₀ env.locals h [(l, listOf vs.toArray nn), (J, oj), (ca, co)] → Q .next { s with heap := h, toks := tk }) :
    wpAny (model prog w) A (pyIter (.ref l)) (fun it s₂ => LoopAtV prog w A h₀ env x body Q E it s₂) E s :=
  ints_turns (keep := [(l, listOf vs.toArray nn), (J, oj)]) stored hh ⟨_, (N _ (.head _)).1, rfl, nn, rfl⟩ (.inr ⟨_, .head _⟩) hi F N hco turn done

/-- the end of a turn -/
theorem ints_end {x : Str} {stored : List Str} {m₀ m' : Str → Option Value} {its its' : List (Addr × Obj)} {ca : Addr} {s₁ : Shared} {h' : Heap} {tk' : Nat} {co' : Obj} {v' : Option Value} {L : Addr}
    (F : Fr h₀ L h' m') (N : News h₀ L h' its') (hc : co'.data = .cell v') (hi : ∀ p ∈ its, p ∈ its') (hca : (ca, co') ∈ its') (hm : ∀ y, y ≠ x → stored.contains y = false → m' y = m₀ y) :
    IntsPost h₀ L x stored m₀ its ca s₁ Q .next { s₁ with heap := h', toks := tk' } :=
  ⟨h', tk', m', co', v', rfl, F, hm, fun p hp => by
    rcases List.mem_append.mp hp with hp | hp
    · exact N p (hi p hp)
    · rw [List.mem_singleton.mp hp]; exact N _ hca, hc⟩
end
end Mine

namespace Mine
open PySem PySem.Spec PySem.Calls PyProof.Rows PyProof.V PySem.W
set_option maxRecDepth 100000

/-- the table as the text writes it -/
def tabs : List (List (Int × Str)) :=
  [[(40960, Str.ofString "l"), (49152, Str.ofString "s"), (32768, Str.ofString "-"), (24576, Str.ofString "b"), (16384, Str.ofString "d"), (8192, Str.ofString "c"), (4096, Str.ofString "p")],
   [(256, Str.ofString "r")], [(128, Str.ofString "w")], [(2112, Str.ofString "s"), (2048, Str.ofString "S"), (64, Str.ofString "x")],
   [(32, Str.ofString "r")], [(16, Str.ofString "w")], [(1032, Str.ofString "s"), (1024, Str.ofString "S"), (8, Str.ofString "x")],
   [(4, Str.ofString "r")], [(2, Str.ofString "w")], [(513, Str.ofString "t"), (512, Str.ofString "T"), (1, Str.ofString "x")]]
def hitF (mode : Int) (i : Int) (b : Int) : Bool := if i = 0 then decide (Builtin.bitAnd mode 61440 = b) else decide (Builtin.bitAnd mode b = b)
def dflt (i : Int) : Str := if i = 0 then Str.ofString "?" else Str.ofString "-"
def fmL (mode : Int) : List Str := tabs.zipIdx.map fun p => pick (hitF mode (p.2 : Int)) (dflt (p.2 : Int)) p.1
def fm (mode : Int) : Str := Txt.join (Str.ofString "") (fmL mode)

theorem fmL_get {mode : Int} {i : Nat} {cs : List (Int × Str)} (h : tabs[i]? = some cs) : (fmL mode)[i]? = some (pick (hitF mode (i : Int)) (dflt (i : Int)) cs) := by
  simp [fmL, List.getElem?_zipIdx, h]
theorem fmL_take {mode : Int} {i : Nat} {cs : List (Int × Str)} (h : tabs[i]? = some cs) : (fmL mode).take (i + 1) = (fmL mode).take i ++ [pick (hitF mode (i : Int)) (dflt (i : Int)) cs] := by
  rw [List.take_add_one, fmL_get h]; rfl
theorem fmL_len (mode : Int) : (fmL mode).length = 10 := by simp [fmL, tabs]

theorem strs_snoc {vs : List Value} {ys : List Str} (h : StrsAre vs ys) (c : Str) (u : Tok) : StrsAre (vs ++ [.str c u]) (ys ++ [c]) := by
  induction h with
  | nil => exact .cons c u .nil
  | cons y t _ ih => exact .cons y t ih
theorem strs_len {vs : List Value} {ys : List Str} (h : StrsAre vs ys) : vs.length = ys.length := by
  induction h with
  | nil => rfl
  | cons _ _ _ ih => simp [ih]

theorem pick_len {hit : Int → Bool} {d : Str} (hd : d.length = 1) : ∀ {cs : List (Int × Str)}, (∀ p ∈ cs, p.2.length = 1) → (pick hit d cs).length = 1
  | [], _ => hd
  | (b, c) :: r, h => by
    unfold pick
    split
    · exact h (b, c) (.head _)
    · exact pick_len hd fun p hp => h p (.tail _ hp)
theorem fmL_one (mode : Int) : ∀ x ∈ fmL mode, x.length = 1 := by
  intro x hx
  obtain ⟨⟨cs, i⟩, hp, rfl⟩ := List.mem_map.mp hx
  refine pick_len ?_ ?_
  · unfold dflt; split <;> decide +kernel
  · have hm : cs ∈ tabs := List.fst_mem_of_mem_zipIdx hp
    have hall : tabs.all (fun cs => cs.all fun p => p.2.length == 1) = true := by decide +kernel
    intro p hp'
    have h1 := List.all_eq_true.mp hall cs hm
    have h2 := List.all_eq_true.mp h1 p hp'
    simpa using h2
theorem sum_one : ∀ {xs : List Str}, (∀ x ∈ xs, x.length = 1) → (xs.map (·.length)).sum = xs.length
  | [], _ => rfl
  | x :: r, h => by
    simp only [List.map_cons, List.sum_cons, List.length_cons]
    rw [h x (.head _), sum_one fun y hy => h y (.tail _ hy)]
    omega
theorem fmL_weight (mode : Int) : ((fmL mode).map (·.length)).sum + (fmL mode).length ≤ 1048576 := by
  rw [sum_one (fmL_one mode), fmL_len]; decide

/-- what the list holds after i turns -/
def Told (mode : Int) (i : Nat) (ws : List Value) : Prop := ws.length = i ∧ StrsAre ws ((fmL mode).take i)
theorem told_len {mode : Int} {i : Nat} {ws : List Value} (h : Told mode i ws) : ws.length = i := h.1
theorem told_zero (mode : Int) : Told mode 0 [] := ⟨rfl, by simpa using StrsAre.nil⟩
theorem told_succ {mode : Int} {i : Nat} {cs : List (Int × Str)} {ws : List Value} (h : Told mode i ws) (hc : tabs[i]? = some cs) (u : Tok) : Told mode (i + 1) (ws ++ [.str (pick (hitF mode (i : Int)) (dflt (i : Int)) cs) u]) := by
  refine ⟨by simp [h.1], ?_⟩
  rw [fmL_take hc]
  exact strs_snoc h.2 _ u
theorem told_all {mode : Int} {ws : List Value} (h : Told mode 10 ws) : StrsAre ws (fmL mode) := by
  have := h.2
  rwa [List.take_of_length_le (by rw [fmL_len]; exact Nat.le_refl 10)] at this

/-- the ledger behind one search -/
def Put (h₀ : Heap) (L : Addr) (its rest : List (Addr × Obj)) (pa : Addr) (ws : List Value) (i : Nat) (c : Str) (h : Heap) : Prop :=
  ∃ u : Tok, News h₀ L h (its ++ (pa, listOf (List.toArray (ws ++ [.str c u])) (i + 1)) :: rest)

section
variable {h₀ h' : Heap} {L : Addr} {m m' : Str → Option Value} {its its' rest : List (Addr × Obj)} {hb : Bool} {After : Heap → Prop} {s₁ : Shared} {tk' : Nat}
theorem pick_next (e : hb = false) (F : Fr h₀ L h' m) (N : News h₀ L h' its') (hs : ∀ p ∈ its, p ∈ its') : PickPost h₀ L m its hb After s₁ .next { s₁ with heap := h', toks := tk' } :=
  ⟨e, h', tk', rfl, F, fun p hp => N p (hs p hp)⟩
theorem pick_brk (e : hb = true) (F : Fr h₀ L h' m) (ha : After h') : PickPost h₀ L m its hb After s₁ .brk { s₁ with heap := h', toks := tk' } := ⟨e, h', tk', rfl, F, ha⟩
theorem else_next (F : Fr h₀ L h' m) (ha : After h') : ElsePost h₀ L m After s₁ .next { s₁ with heap := h', toks := tk' } := ⟨h', tk', rfl, F, ha⟩
theorem put_of {pa : Addr} {ws : List Value} {i : Nat} {c : Str} {u : Tok} (N : News h₀ L h' its') (hs : ∀ p ∈ its ++ (pa, listOf ((List.toArray ws).push (.str c u)) (i + 1)) :: rest, p ∈ its') : Put h₀ L its rest pa ws i c h' := by
  refine ⟨u, fun p hp => N p (hs p ?_)⟩
  rwa [List.push_toArray]
theorem enum_next {stored : List Str} {m₀ : Str → Option Value} {pa : Addr} {mode : Int} {i : Nat} {cs : List (Int × Str)} {ws : List Value}
    (F : Fr h₀ L h' m') (hm : ∀ z, stored.contains z = false → m' z = m₀ z) (hP : Told mode i ws) (hc : tabs[i]? = some cs) (ha : Put h₀ L its rest pa ws i (pick (hitF mode (i : Int)) (dflt (i : Int)) cs) h') :
    EnumPost h₀ L stored m₀ its rest pa (Told mode) i s₁ .next { s₁ with heap := h', toks := tk' } := by
  obtain ⟨u, N⟩ := ha
  exact ⟨h', tk', m', _, rfl, F, hm, N, told_succ hP hc u⟩
end
/-- the names that the two loops store -/
abbrev four : List Str := [Str.ofString "index", Str.ofString "table", Str.ofString "bit", Str.ofString "char"]
theorem hit0_t {mode b : Int} {i : Nat} (hi : (i : Int) = 0) (h : Builtin.bitAnd mode 61440 = b) : hitF mode (i : Int) b = true := by unfold hitF; rw [if_pos hi]; exact decide_eq_true h
theorem hit0_f {mode b : Int} {i : Nat} (hi : (i : Int) = 0) (h : ¬ Builtin.bitAnd mode 61440 = b) : hitF mode (i : Int) b = false := by unfold hitF; rw [if_pos hi]; exact decide_eq_false h
theorem hit1_t {mode b : Int} {i : Nat} (hi : ¬ (i : Int) = 0) (h : Builtin.bitAnd mode b = b) : hitF mode (i : Int) b = true := by unfold hitF; rw [if_neg hi]; exact decide_eq_true h
theorem hit1_f {mode b : Int} {i : Nat} (hi : ¬ (i : Int) = 0) (h : ¬ Builtin.bitAnd mode b = b) : hitF mode (i : Int) b = false := by unfold hitF; rw [if_neg hi]; exact decide_eq_false h

section
variable {h₀ h' : Heap} {L : Addr} {m m' : Str → Option Value} {its its' rest : List (Addr × Obj)}
theorem put_sub {pa : Addr} {ws : List Value} {i : Nat} {c : Str} {u : Tok} (N : News h₀ L h' its') (hs : SubL (its ++ (pa, listOf ((List.toArray ws).push (.str c u)) (i + 1)) :: rest) its') : Put h₀ L its rest pa ws i c h' := put_of N hs.mem
theorem put_q {pa : Addr} {ws : List Value} {i : Nat} {u : Tok} (hi : (i : Int) = 0) (N : News h₀ L h' its') (hs : SubL (its ++ (pa, listOf ((List.toArray ws).push (.str (Str.ofString "?") u)) (i + 1)) :: rest) its') : Put h₀ L its rest pa ws i (dflt (i : Int)) h' := by
  unfold dflt; rw [if_pos hi]; exact put_of N hs.mem
theorem put_m {pa : Addr} {ws : List Value} {i : Nat} {u : Tok} (hi : ¬ (i : Int) = 0) (N : News h₀ L h' its') (hs : SubL (its ++ (pa, listOf ((List.toArray ws).push (.str (Str.ofString "-") u)) (i + 1)) :: rest) its') : Put h₀ L its rest pa ws i (dflt (i : Int)) h' := by
  unfold dflt; rw [if_neg hi]; exact put_of N hs.mem
theorem four_off {m₀ g g' : Str → Option Value} {va vi : Option Value} : ∀ z, four.contains z = false →
    (fun z => if z = Str.ofString "char" then g' z else if z = Str.ofString "bit" then g' z else if z = Str.ofString "table" then va else if z = Str.ofString "index" then vi else if four.contains z then g z else m₀ z) z = m₀ z := by
  intro z hz
  have h := hz
  simp only [four, List.contains_cons, List.contains_nil, Bool.or_false, Bool.or_eq_false_iff, beq_eq_false_iff_ne, ne_eq] at h
  obtain ⟨h1, h2, h3, h4⟩ := h
  simp only [if_neg h1, if_neg h2, if_neg h3, if_neg h4, hz, Bool.false_eq_true, if_false]
end
section
variable {prog : Program} {w : World} {A : Around} {E : Value → Shared → Prop} {s : Shared} {h₀ : Heap} {body : List Stmt} {Q : Flow → Shared → Prop}


theorem enum_told {env : Env} {elts : List Expr} {kk : Nat} {pos : Pos} {l pa : Addr} {rest : List (Addr × Obj)} {vs : List Value} {m₀ : Str → Option Value} {mode : Int} {tm : Tok}
    (hm : m₀ (Str.ofString "mode") = some (.int mode tm))
    (hh : A.handled = none) (F : Fr h₀ env.locals s.heap m₀) (N : News h₀ env.locals s.heap ((pa, listOf (List.toArray []) 0) :: rest))
    (hg : IsTup h₀ l vs.toArray) (hT : Tabs h₀ vs tabs)  (hn : vs.length = 10)
    (turn : ∀ (i : Nat) (a : Addr) (row : List Value) (cs : List (Int × Str)) (g : Str → Option Value) (T : Addr) (t : Tok) (I : Addr) (oe oi : Obj) (ws : List Value) (h : Heap) (tk : Nat), i < 10 → tabs[i]? = some cs → IsTup h₀ a row.toArray → Pairs h₀ row cs → Told mode i ws → (∀ p ∈ (pa, listOf (List.toArray ws) i) :: rest, p.1 < I) →
      IsTup h T #[.int (i : Int) t, .ref a] → Fr h₀ env.locals h (fun z => if four.contains z then g z else m₀ z) → News h₀ env.locals h ((I + 1, oe) :: (I, oi) :: (pa, listOf (List.toArray ws) i) :: rest) →
      wpAny (model prog w) A (assign (.Tuple elts kk pos) env (.ref T)) (fun _ s₂ => wpAny (model prog w) A (execs body env) (EnumPost h₀ env.locals four m₀ [(I + 1, oe), (I, oi)] rest pa (Told mode) i { s with heap := h, toks := tk }) E s₂) E { s with heap := h, toks := tk })
    (done : ∀ (g : Str → Option Value) (h : Heap) (tk : Nat) (ws : List Value), StrsAre ws (fmL mode) → Fr h₀ env.locals h (fun z => if four.contains z then g z else m₀ z) → News h₀ env.locals h ((pa, listOf (List.toArray ws) 10) :: rest) → Q .next { s with heap := h, toks := tk }) :
    wpAny (model prog w) A (call (.type "enumerate") [.ref l]) (fun xv s₁ => wpAny (model prog w) A (pyIter xv) (fun it s₂ => TurnsAt prog w A h₀ env (.Tuple elts kk pos) body Q E it s₂) E s₁) E s := by
  let _ := hm
  refine enum_turns (ts := tabs) four (Told mode) hh F N hg hT (told_zero mode) (fun i a row cs g T t I oe oi ws h tk hi => turn i a row cs g T t I oe oi ws h tk (hn ▸ hi)) fun g h tk ws hP F' N' => ?_
  rw [hn] at hP N'
  exact done g h tk ws (told_all hP) F' N'

theorem pick_told {cn : Str} {csc : Scope} {L fa : Addr} {cd : Value} {xb xc y : Str} {pb pc pt py pos : Pos} {kk : Nat} {els : List Stmt} {m₀ : Str → Option Value} {tb : Addr} {row : List Value} {cs : List (Int × Str)}
    {mode : Int} {tm : Tok} {i : Nat} {ti : Tok} {I pa : Addr} {rest : List (Addr × Obj)} {oe oi : Obj} {ws : List Value}
    (hm : m₀ (Str.ofString "mode") = some (.int mode tm)) (hi : m₀ (Str.ofString "index") = some (.int (i : Int) ti))
    (hh : A.handled = none) (F : Fr h₀ L s.heap m₀) (N : News h₀ L s.heap ((I + 1, oe) :: (I, oi) :: (pa, listOf (List.toArray ws) i) :: rest))
    (hk : csc.kind = .function) (hy : m₀ y = some (.ref tb)) (hyk : (envOf cn csc L fa cd).kindOf y = some .local)
    (hxb : (envOf cn csc L fa cd).kindOf xb = some .local) (hxc : (envOf cn csc L fa cd).kindOf xc = some .local) (hyd : (y == ("__debug__" : Str)) = false)
    (ht : IsTup h₀ tb row.toArray) (hr : Pairs h₀ row cs)
    (turn : ∀ (b : Int) (t : Tok) (c : Str) (u : Tok) (I' : Addr) (o : Obj) (h : Heap) (tk : Nat), (∀ p ∈ ((I + 1, oe) :: (I, oi) :: (pa, listOf (List.toArray ws) i) :: rest), p.1 < I') →
      Fr h₀ L h (fun z => if z = xc then some (.str c u) else if z = xb then some (.int b t) else m₀ z) → News h₀ L h ((I', o) :: (I + 1, oe) :: (I, oi) :: (pa, listOf (List.toArray ws) i) :: rest) →
      wpAny (model prog w) A (execs body (envOf cn csc L fa cd)) (PickPost h₀ L (fun z => if z = xc then some (.str c u) else if z = xb then some (.int b t) else m₀ z) ((I', o) :: (I + 1, oe) :: (I, oi) :: (pa, listOf (List.toArray ws) i) :: rest) (hitF mode (i : Int) b) (Put h₀ L [(I + 1, oe), (I, oi)] rest pa ws i c) { s with heap := h, toks := tk }) E { s with heap := h, toks := tk })
    (other : ∀ (g : Str → Option Value) (h : Heap) (tk : Nat), Fr h₀ L h (fun z => if z = xc then g z else if z = xb then g z else m₀ z) → News h₀ L h ((I + 1, oe) :: (I, oi) :: (pa, listOf (List.toArray ws) i) :: rest) →
      wpAny (model prog w) A (execs els (envOf cn csc L fa cd)) (ElsePost h₀ L (fun z => if z = xc then g z else if z = xb then g z else m₀ z) (Put h₀ L [(I + 1, oe), (I, oi)] rest pa ws i (dflt (i : Int))) { s with heap := h, toks := tk }) E { s with heap := h, toks := tk })
    (done : ∀ (g : Str → Option Value) (h : Heap) (tk : Nat), Fr h₀ L h (fun z => if z = xc then g z else if z = xb then g z else m₀ z) → Put h₀ L [(I + 1, oe), (I, oi)] rest pa ws i (pick (hitF mode (i : Int)) (dflt (i : Int)) cs) h → Q .next { s with heap := h, toks := tk })
    (hE : PassesOwn (model prog w) A (envOf cn csc L fa cd) E := by passes_own) :
    wpAny (model prog w) A (exec (.For (.Tuple [.Name xb pb, .Name xc pc] kk pt) (.Name y py) body els pos) (envOf cn csc L fa cd)) Q E s :=
  let _ := hm; let _ := hi
  for_pick (hitF mode (i : Int)) (Put h₀ L [(I + 1, oe), (I, oi)] rest pa ws i) (dflt (i : Int)) hh F N hk hy hyk hxb hxc hyd ht hr turn other done hE
end
end Mine

namespace Mine
open PySem PySem.Spec PySem.Calls PyProof.Rows PyProof.V PySem.W
set_option maxRecDepth 100000

/-! the bits of an int, one and two at a time -/
theorem nat_pow_and (n k : Nat) : n &&& 2 ^ k = 2 ^ k * (n / 2 ^ k % 2) := by
  have hp : 0 < 2 ^ k := Nat.two_pow_pos k
  have h1 : (n &&& 2 ^ k) / 2 ^ k = n / 2 ^ k % 2 := by
    rw [Nat.and_div_two_pow, Nat.div_self hp]
    exact Nat.and_two_pow_sub_one_eq_mod (n / 2 ^ k) 1
  have h2 : (n &&& 2 ^ k) % 2 ^ k = 0 := by
    rw [Nat.and_mod_two_pow, Nat.mod_self, Nat.and_zero]
  have h3 := Nat.div_add_mod (n &&& 2 ^ k) (2 ^ k)
  rw [h1, h2, Nat.add_zero] at h3
  exact h3.symm
theorem nat_two_and (n i j : Nat) (h : i < j) : n &&& (2 ^ j + 2 ^ i) = (n &&& 2 ^ j) + (n &&& 2 ^ i) := by
  have hij : 2 ^ i < 2 ^ j := Nat.pow_lt_pow_right (by decide) h
  have e1 : 2 ^ j + 2 ^ i = 2 ^ j ||| 2 ^ i := by
    have := Nat.two_pow_add_eq_or_of_lt hij 1
    simpa using this
  rw [e1, Nat.and_or_distrib_left, nat_pow_and n j, nat_pow_and n i]
  have hlt : 2 ^ i * (n / 2 ^ i % 2) < 2 ^ j := by
    rcases Nat.mod_two_eq_zero_or_one (n / 2 ^ i) with h | h
    · rw [h, Nat.mul_zero]; exact Nat.two_pow_pos j
    · rw [h, Nat.mul_one]; exact hij
  exact (Nat.two_pow_add_eq_or_of_lt hlt _).symm
theorem and_pos {x : Int} {b : Nat} (hx : 0 ≤ x) : Builtin.bitAnd x (b : Int) = ((x.toNat &&& b : Nat) : Int) := by
  rw [bitAnd_pp hx (Int.natCast_nonneg b), Int.toNat_natCast]
theorem and_neg {x : Int} {b : Nat} (hx : ¬ 0 ≤ x) : Builtin.bitAnd x (b : Int) = (b : Int) - (((-x - 1).toNat &&& b : Nat) : Int) := by
  rw [bitAnd_np hx (Int.natCast_nonneg b), Int.toNat_natCast, Nat.and_comm]; rfl
theorem and_two (x : Int) (i j : Nat) (h : i < j) : Builtin.bitAnd x ((2 ^ j + 2 ^ i : Nat) : Int) = Builtin.bitAnd x ((2 ^ j : Nat) : Int) + Builtin.bitAnd x ((2 ^ i : Nat) : Int) := by
  by_cases hx : 0 ≤ x
  · rw [and_pos hx, and_pos hx, and_pos hx, nat_two_and _ _ _ h]; omega
  · rw [and_neg hx, and_neg hx, and_neg hx, nat_two_and _ _ _ h]; omega
theorem and_one (x : Int) (k : Nat) (P : Int) (hP : ((2 ^ k : Nat) : Int) = P) : Builtin.bitAnd x P = P * (x / P % 2) := by
  subst hP
  by_cases hx : 0 ≤ x
  · rw [and_pos hx, nat_pow_and]
    have e : x = ((x.toNat : Nat) : Int) := (Int.toNat_of_nonneg hx).symm
    generalize x.toNat = y at e ⊢
    subst e
    simp [Int.natCast_ediv, Int.natCast_emod]
  · rw [and_neg hx, nat_pow_and]
    have e : x = -(((-x - 1).toNat : Nat) : Int) - 1 := by omega
    generalize (-x - 1).toNat = y at e ⊢
    subst e
    have hp : 0 < 2 ^ k := Nat.two_pow_pos k
    generalize 2 ^ k = p at hp ⊢
    have e2 : -(y : Int) - 1 = ((p : Int) - 1 - ((y % p : Nat) : Int)) + (p : Int) * (-((y / p : Nat) : Int) - 1) := by
      have h3 : (p : Int) * ((y / p : Nat) : Int) + ((y % p : Nat) : Int) = (y : Int) := by
        have := Nat.div_add_mod y p
        exact_mod_cast this
      rw [Int.mul_sub, Int.mul_neg]
      omega
    have hm : y % p < p := Nat.mod_lt _ hp
    rw [e2, Int.add_mul_ediv_left _ _ (by omega), Int.ediv_eq_zero_of_lt (by omega) (by omega)]
    rcases Nat.mod_two_eq_zero_or_one (y / p) with h | h
    · have h4 : ((0 : Int) + (-((y / p : Nat) : Int) - 1)) % 2 = 1 := by omega
      rw [h4, h]; simp
    · have h4 : ((0 : Int) + (-((y / p : Nat) : Int) - 1)) % 2 = 0 := by omega
      rw [h4, h]; simp

/-- bit k of x is set -/
theorem met_one (x P : Int) (k : Nat) (hP : ((2 ^ k : Nat) : Int) = P) : decide (Builtin.bitAnd x P = P) = decide (x / P % 2 = 1) := by
  have hp : 0 < P := by
    have := Nat.two_pow_pos k
    omega
  rw [and_one x k P hP]
  have h := Int.emod_two_eq (x / P)
  rcases h with h | h
  · rw [h, Int.mul_zero, decide_eq_false (by omega), decide_eq_false (by omega)]
  · rw [h, Int.mul_one, decide_eq_true rfl, decide_eq_true rfl]
theorem met_two (x P R S : Int) (i j : Nat) (h : i < j) (hP : ((2 ^ j : Nat) : Int) = P) (hR : ((2 ^ i : Nat) : Int) = R) (hS : P + R = S) : decide (Builtin.bitAnd x S = S) = (decide (x / P % 2 = 1) && decide (x / R % 2 = 1)) := by
  have hp : 0 < P := by have := Nat.two_pow_pos j; omega
  have hr : 0 < R := by have := Nat.two_pow_pos i; omega
  have e : Builtin.bitAnd x S = P * (x / P % 2) + R * (x / R % 2) := by
    rw [← and_one x j P hP, ← and_one x i R hR, ← hP, ← hR, ← and_two x i j h]
    congr 1
    omega
  rw [e]
  rcases Int.emod_two_eq (x / P) with h1 | h1 <;> rcases Int.emod_two_eq (x / R) with h2 | h2 <;> rw [h1, h2] <;> simp only [Int.mul_zero, Int.mul_one, Int.zero_add, Int.add_zero]
  · rw [decide_eq_false (by omega), decide_eq_false (by omega), Bool.false_and]
  · rw [decide_eq_false (by omega), decide_eq_false (by omega : ¬ (0 : Int) = 1), Bool.false_and]
  · rw [decide_eq_false (by omega), decide_eq_false (by omega : ¬ (0 : Int) = 1), Bool.and_false]
  · rw [decide_eq_true hS]; decide

theorem nat_low (n : Nat) : n &&& 4095 = n % 4096 := Nat.and_two_pow_sub_one_eq_mod n 12
theorem nat_high (n : Nat) : n &&& 61440 = 4096 * (n / 4096 % 16) := by
  have h1 : (n &&& 61440) / 2 ^ 12 = n / 4096 % 16 := by
    rw [Nat.and_div_two_pow]
    exact Nat.and_two_pow_sub_one_eq_mod (n / 4096) 4
  have h2 : (n &&& 61440) % 2 ^ 12 = 0 := by
    rw [Nat.and_mod_two_pow]
    exact Nat.and_zero _
  have h3 := Nat.div_add_mod (n &&& 61440) (2 ^ 12)
  rw [h1, h2] at h3
  omega
theorem and_low (x : Int) : Builtin.bitAnd x 4095 = Int.fmod x 4096 := by
  rw [Int.fmod_eq_emod_of_nonneg _ (by decide)]
  by_cases hx : 0 ≤ x
  · have := and_pos (b := 4095) hx
    rw [nat_low] at this
    simp only [Int.cast_ofNat_Int] at this
    rw [this]; omega
  · have := and_neg (b := 4095) hx
    rw [nat_low] at this
    simp only [Int.cast_ofNat_Int] at this
    rw [this]; omega
theorem and_high (x : Int) : Builtin.bitAnd x 61440 = 4096 * Int.fmod (Int.fdiv x 4096) 16 := by
  rw [Int.fmod_eq_emod_of_nonneg _ (by decide), Int.fdiv_eq_ediv_of_nonneg _ (by decide)]
  by_cases hx : 0 ≤ x
  · have := and_pos (b := 61440) hx
    rw [nat_high] at this
    simp only [Int.cast_ofNat_Int] at this
    rw [this]; omega
  · have := and_neg (b := 61440) hx
    rw [nat_high] at this
    simp only [Int.cast_ofNat_Int] at this
    rw [this]; omega
/-! what the law's own telling is, as a function -/
def kindsL : List Str := [Str.ofString "?", Str.ofString "p", Str.ofString "c", Str.ofString "?", Str.ofString "d", Str.ofString "?", Str.ofString "b", Str.ofString "?", Str.ofString "-", Str.ofString "?", Str.ofString "l", Str.ofString "?", Str.ofString "s", Str.ofString "?", Str.ofString "?", Str.ofString "?"]
def three (bits : Int) (mark : Bool) (letters : Str) : Str :=
  Txt.item (Str.ofString "-r") (Int.fdiv bits 4) ++ Txt.item (Str.ofString "-w") (Int.fmod (Int.fdiv bits 2) 2) ++ (if mark then Txt.item letters (Int.fmod bits 2) else Txt.item (Str.ofString "-x") (Int.fmod bits 2))
def told (mode : Int) : Str :=
  kindsL.getD (Int.fmod (Int.fdiv mode 4096) 16).toNat Str.empty ++ three (Int.fmod (Int.fdiv mode 64) 8) (decide (Int.fdiv (Int.fmod (Int.fdiv mode 512) 8) 4 = 1)) (Str.ofString "Ss") ++
    three (Int.fmod (Int.fdiv mode 8) 8) (decide (Int.fmod (Int.fdiv (Int.fmod (Int.fdiv mode 512) 8) 2) 2 = 1)) (Str.ofString "Ss") ++
    three (Int.fmod mode 8) (decide (Int.fmod (Int.fmod (Int.fdiv mode 512) 8) 2 = 1)) (Str.ofString "Tt")

theorem fm4 (a : Int) : Int.fmod a 16 = a % 16 := Int.fmod_eq_emod_of_nonneg _ (by decide)
theorem fm3 (a : Int) : Int.fmod a 8 = a % 8 := Int.fmod_eq_emod_of_nonneg _ (by decide)
theorem fm1 (a : Int) : Int.fmod a 2 = a % 2 := Int.fmod_eq_emod_of_nonneg _ (by decide)
theorem fd (a b : Int) (h : 0 ≤ b) : Int.fdiv a b = a / b := Int.fdiv_eq_ediv_of_nonneg _ h

/-- one letter: told by a bit, the mark where it is not set -/
theorem letter {hit : Int → Bool} {P v : Int} {c d : Str} (h : hit P = decide (v = 1)) : pick hit d [(P, c)] = if v = 1 then c else d := by
  unfold pick pick
  rw [h]
  by_cases hv : v = 1 <;> simp [hv]
theorem letters {hit : Int → Bool} {S P R v u : Int} {a b c d : Str} (h1 : hit S = (decide (v = 1) && decide (u = 1))) (h2 : hit P = decide (v = 1)) (h3 : hit R = decide (u = 1)) :
    pick hit d [(S, a), (P, b), (R, c)] = if v = 1 then (if u = 1 then a else b) else (if u = 1 then c else d) := by
  unfold pick pick pick pick
  rw [h1, h2, h3]
  by_cases hv : v = 1 <;> by_cases hu : u = 1 <;> simp [hv, hu]

theorem item_two {x a b : Str} {v : Int} (h0 : v = 0 ∨ v = 1) (ha : Txt.item x 0 = a) (hb : Txt.item x 1 = b) : Txt.item x v = if v = 1 then b else a := by
  rcases h0 with rfl | rfl
  · simpa using ha
  · simpa using hb

theorem three_is {bits : Int} {mark : Bool} {x a b : Str} {v r w u : Int} (hr : Int.fdiv bits 4 = r) (hr' : r = 0 ∨ r = 1) (hw : Int.fmod (Int.fdiv bits 2) 2 = w) (hw' : w = 0 ∨ w = 1) (hu : Int.fmod bits 2 = u) (hu' : u = 0 ∨ u = 1)
    (hm : mark = decide (v = 1)) (ha : Txt.item x 0 = a) (hb : Txt.item x 1 = b) :
    three bits mark x = (if r = 1 then Str.ofString "r" else Str.ofString "-") ++ (if w = 1 then Str.ofString "w" else Str.ofString "-") ++ (if v = 1 then (if u = 1 then b else a) else (if u = 1 then Str.ofString "x" else Str.ofString "-")) := by
  unfold three
  rw [hr, hw, hu, item_two (x := Str.ofString "-r") hr' (a := Str.ofString "-") (b := Str.ofString "r") (by decide +kernel) (by decide +kernel),
    item_two (x := Str.ofString "-w") hw' (a := Str.ofString "-") (b := Str.ofString "w") (by decide +kernel) (by decide +kernel),
    item_two (x := Str.ofString "-x") hu' (a := Str.ofString "-") (b := Str.ofString "x") (by decide +kernel) (by decide +kernel), item_two hu' ha hb, hm]
  by_cases hv : v = 1 <;> simp [hv]

def bit (m P : Int) : Int := m / P % 2
theorem bit01 (m P : Int) : bit m P = 0 ∨ bit m P = 1 := Int.emod_two_eq _
theorem hit_bit {m P : Int} {i : Nat} (k : Nat) (hP : ((2 ^ k : Nat) : Int) = P) (hi : ¬ (i : Int) = 0) : hitF m (i : Int) P = decide (bit m P = 1) := by
  unfold hitF bit; rw [if_neg hi]; exact met_one m P k hP
theorem hit_two {m P R S : Int} {i : Nat} (a b : Nat) (hab : a < b) (hP : ((2 ^ b : Nat) : Int) = P) (hR : ((2 ^ a : Nat) : Int) = R) (hS : P + R = S) (hi : ¬ (i : Int) = 0) : hitF m (i : Int) S = (decide (bit m P = 1) && decide (bit m R = 1)) := by
  unfold hitF bit; rw [if_neg hi]; exact met_two m P R S a b hab hP hR hS

theorem kind_is (m : Int) : pick (hitF m ((0 : Nat) : Int)) (dflt ((0 : Nat) : Int)) [(40960, Str.ofString "l"), (49152, Str.ofString "s"), (32768, Str.ofString "-"), (24576, Str.ofString "b"), (16384, Str.ofString "d"), (8192, Str.ofString "c"), (4096, Str.ofString "p")] =
    kindsL.getD (Int.fmod (Int.fdiv m 4096) 16).toNat Str.empty := by
  have hh : ∀ b, hitF m ((0 : Nat) : Int) b = decide (4096 * Int.fmod (Int.fdiv m 4096) 16 = b) := fun b => by
    unfold hitF; rw [if_pos (show ((0 : Nat) : Int) = 0 from rfl), and_high]
  have hd : dflt ((0 : Nat) : Int) = Str.ofString "?" := by unfold dflt; rw [if_pos (show ((0 : Nat) : Int) = 0 from rfl)]
  rw [hd, fm4]
  simp only [pick, hh, fm4]
  generalize hk : Int.fdiv m 4096 % 16 = k
  have h0 : 0 ≤ k := by omega
  have h1 : k < 16 := by omega
  have hc : k = 0 ∨ k = 1 ∨ k = 2 ∨ k = 3 ∨ k = 4 ∨ k = 5 ∨ k = 6 ∨ k = 7 ∨ k = 8 ∨ k = 9 ∨ k = 10 ∨ k = 11 ∨ k = 12 ∨ k = 13 ∨ k = 14 ∨ k = 15 := by omega
  clear hk h0 h1
  rcases hc with rfl | rfl | rfl | rfl | rfl | rfl | rfl | rfl | rfl | rfl | rfl | rfl | rfl | rfl | rfl | rfl <;> decide +kernel
theorem join_ten (a b c d e f g h i j : Str) : Txt.join (Str.ofString "") [a, b, c, d, e, f, g, h, i, j] = a ++ (b ++ c ++ d) ++ (e ++ f ++ g) ++ (h ++ i ++ j) := by
  have e0 : (Str.ofString "").cps = #[] := by decide +kernel
  apply Str.ext'
  simp only [Txt.join, Builtin.Str.glued, List.drop, List.foldl, List.headD, Str.cps_append, e0, Array.append_empty, Array.append_assoc]

theorem dflt_mark {i : Nat} (hi : ¬ (i : Int) = 0) : dflt (i : Int) = Str.ofString "-" := by unfold dflt; rw [if_neg hi]

theorem fm_is (m : Int) : fm m = told m := by
  have e : fmL m = [pick (hitF m ((0 : Nat) : Int)) (dflt ((0 : Nat) : Int)) [(40960, Str.ofString "l"), (49152, Str.ofString "s"), (32768, Str.ofString "-"), (24576, Str.ofString "b"), (16384, Str.ofString "d"), (8192, Str.ofString "c"), (4096, Str.ofString "p")],
      pick (hitF m ((1 : Nat) : Int)) (dflt ((1 : Nat) : Int)) [(256, Str.ofString "r")], pick (hitF m ((2 : Nat) : Int)) (dflt ((2 : Nat) : Int)) [(128, Str.ofString "w")],
      pick (hitF m ((3 : Nat) : Int)) (dflt ((3 : Nat) : Int)) [(2112, Str.ofString "s"), (2048, Str.ofString "S"), (64, Str.ofString "x")],
      pick (hitF m ((4 : Nat) : Int)) (dflt ((4 : Nat) : Int)) [(32, Str.ofString "r")], pick (hitF m ((5 : Nat) : Int)) (dflt ((5 : Nat) : Int)) [(16, Str.ofString "w")],
      pick (hitF m ((6 : Nat) : Int)) (dflt ((6 : Nat) : Int)) [(1032, Str.ofString "s"), (1024, Str.ofString "S"), (8, Str.ofString "x")],
      pick (hitF m ((7 : Nat) : Int)) (dflt ((7 : Nat) : Int)) [(4, Str.ofString "r")], pick (hitF m ((8 : Nat) : Int)) (dflt ((8 : Nat) : Int)) [(2, Str.ofString "w")],
      pick (hitF m ((9 : Nat) : Int)) (dflt ((9 : Nat) : Int)) [(513, Str.ofString "t"), (512, Str.ofString "T"), (1, Str.ofString "x")]] := rfl
  unfold fm told
  rw [e, join_ten, kind_is]
  rw [letter (hit_bit (P := 256) (i := 1) 8 rfl (by decide)), letter (hit_bit (P := 128) (i := 2) 7 rfl (by decide)), letter (hit_bit (P := 32) (i := 4) 5 rfl (by decide)), letter (hit_bit (P := 16) (i := 5) 4 rfl (by decide)), letter (hit_bit (P := 4) (i := 7) 2 rfl (by decide)), letter (hit_bit (P := 2) (i := 8) 1 rfl (by decide))]
  rw [letters (hit_two (S := 2112) (i := 3) (P := 2048) (R := 64) 6 11 (by decide) rfl rfl (by decide) (by decide)) (hit_bit (P := 2048) (i := 3) 11 rfl (by decide)) (hit_bit (P := 64) (i := 3) 6 rfl (by decide)),
    letters (hit_two (S := 1032) (i := 6) (P := 1024) (R := 8) 3 10 (by decide) rfl rfl (by decide) (by decide)) (hit_bit (P := 1024) (i := 6) 10 rfl (by decide)) (hit_bit (P := 8) (i := 6) 3 rfl (by decide)),
    letters (hit_two (S := 513) (i := 9) (P := 512) (R := 1) 0 9 (by decide) rfl rfl (by decide) (by decide)) (hit_bit (P := 512) (i := 9) 9 rfl (by decide)) (hit_bit (P := 1) (i := 9) 0 rfl (by decide))]
  rw [dflt_mark (i := 1) (by decide), dflt_mark (i := 2) (by decide), dflt_mark (i := 3) (by decide), dflt_mark (i := 4) (by decide), dflt_mark (i := 5) (by decide), dflt_mark (i := 6) (by decide), dflt_mark (i := 7) (by decide), dflt_mark (i := 8) (by decide), dflt_mark (i := 9) (by decide)]
  have t1 : three (Int.fmod (Int.fdiv m 64) 8) (decide (Int.fdiv (Int.fmod (Int.fdiv m 512) 8) 4 = 1)) (Str.ofString "Ss") = _ :=
    three_is (v := bit m 2048) (r := bit m 256) (w := bit m 128) (u := bit m 64) (a := Str.ofString "S") (b := Str.ofString "s")
      (by rw [fd _ _ (by decide), fd _ _ (by decide), fm3]; unfold bit; omega) (bit01 m _) (by rw [fd _ _ (by decide), fd _ _ (by decide), fm3, fm1]; unfold bit; omega) (bit01 m _) (by rw [fd _ _ (by decide), fm3, fm1]; unfold bit; omega) (bit01 m _)
      (by rw [fd _ _ (by decide), fd _ _ (by decide), fm3]; unfold bit; congr 2; omega) (by decide +kernel) (by decide +kernel)
  have t2 : three (Int.fmod (Int.fdiv m 8) 8) (decide (Int.fmod (Int.fdiv (Int.fmod (Int.fdiv m 512) 8) 2) 2 = 1)) (Str.ofString "Ss") = _ :=
    three_is (v := bit m 1024) (r := bit m 32) (w := bit m 16) (u := bit m 8) (a := Str.ofString "S") (b := Str.ofString "s")
      (by rw [fd _ _ (by decide), fd _ _ (by decide), fm3]; unfold bit; omega) (bit01 m _) (by rw [fd _ _ (by decide), fd _ _ (by decide), fm3, fm1]; unfold bit; omega) (bit01 m _) (by rw [fd _ _ (by decide), fm3, fm1]; unfold bit; omega) (bit01 m _)
      (by rw [fd _ _ (by decide), fd _ _ (by decide), fm3, fm1]; unfold bit; congr 2; omega) (by decide +kernel) (by decide +kernel)
  have t3 : three (Int.fmod m 8) (decide (Int.fmod (Int.fmod (Int.fdiv m 512) 8) 2 = 1)) (Str.ofString "Tt") = _ :=
    three_is (v := bit m 512) (r := bit m 4) (w := bit m 2) (u := bit m 1) (a := Str.ofString "T") (b := Str.ofString "t")
      (by rw [fd _ _ (by decide), fm3]; unfold bit; omega) (bit01 m _) (by rw [fd _ _ (by decide), fm3, fm1]; unfold bit; omega) (bit01 m _) (by rw [fm3, fm1]; unfold bit; omega) (bit01 m _)
      (by rw [fd _ _ (by decide), fm3, fm1]; unfold bit; congr 2; omega) (by decide +kernel) (by decide +kernel)
  rw [t1, t2, t3]
/-! the small functions -/
def imode (m : Int) : Int := Int.fmod m 4096
def ifmt (m : Int) : Int := 4096 * Int.fmod (Int.fdiv m 4096) 16
def isK (c m : Int) : Bool := Int.fmod (Int.fdiv m 4096) 16 == c
theorem fd4 (a : Int) : Int.fdiv a 4 = a / 4 := fd _ _ (by decide)
theorem fd2 (a : Int) : Int.fdiv a 2 = a / 2 := fd _ _ (by decide)
theorem three_pre (a : Int) {x : Str} (h : x.length = 2) : 0 ≤ Int.fmod a 8 ∧ Int.fmod a 8 < 8 ∧ x.length = 2 := by
  rw [fm3]; exact ⟨by omega, by omega, h⟩
theorem len_i (x : Str) (i : Int) : (Txt.item x i).length ≤ 1 := Nat.le_refl 1
theorem len_a {x y : Str} {a b : Nat} (hx : x.length ≤ a) (hy : y.length ≤ b) : (x ++ y).length ≤ a + b := by
  rw [Str.length_append]; omega
theorem len_t (b : Int) (k : Bool) (x : Str) : (three b k x).length ≤ 3 := by
  unfold three
  refine len_a (a := 2) (b := 1) (len_a (len_i _ _) (len_i _ _)) ?_
  split <;> exact len_i _ _
theorem len_k (k : Nat) : (kindsL.getD k Str.empty).length ≤ 1 := by
  rw [List.getD_eq_getElem?_getD]
  cases h : kindsL[k]? with
  | none => exact Nat.zero_le 1
  | some x =>
    have hall : kindsL.all (fun y => decide (y.length ≤ 1)) = true := by decide +kernel
    have := List.all_eq_true.mp hall x (List.mem_of_getElem? h)
    simpa using this
theorem len_kt (k : Nat) (b : Int) (m : Bool) (x : Str) : (kindsL.getD k Str.empty ++ three b m x).length ≤ 4 := len_a (len_k k) (len_t b m x)
theorem len_ktt (k : Nat) (b b' : Int) (m m' : Bool) (x x' : Str) : (kindsL.getD k Str.empty ++ three b m x ++ three b' m' x').length ≤ 7 := len_a (len_kt k b m x) (len_t b' m' x')
theorem len_ii (x y : Str) (i j : Int) : (Txt.item x i ++ Txt.item y j).length ≤ 2 := len_a (len_i x i) (len_i y j)
theorem hit0_ti {mode b : Int} {i : Nat} (hi : (i : Int) = 0) (h : ifmt mode = b) : hitF mode (i : Int) b = true := hit0_t hi (by rw [and_high]; exact h)
theorem hit0_fi {mode b : Int} {i : Nat} (hi : (i : Int) = 0) (h : ¬ ifmt mode = b) : hitF mode (i : Int) b = false := hit0_f hi (by rw [and_high]; exact h)
theorem is_eq (m c d : Int) (h : d = 4096 * c) : decide (ifmt m = d) = isK c m := by
  subst h
  unfold ifmt isK
  show decide _ = decide _
  rw [decide_eq_decide]
  omega

section
variable {prog : Program} {w : World} {A : Around} {E : Value → Shared → Prop} {s : Shared} {Q : Value → Shared → Prop} {t u : Tok}
theorem ne_fm {m : Int} (h : Q (.bool false) s) : wpAny (model prog w) A (compareOp .NotEq (.str (fm m) t) (.str (told m) u)) Q E s := by
  refine PyProof.Rows.ne_str ?_
  rw [fm_is, bne_self_eq_false]
  exact h
theorem ne_self {a : Int} (h : Q (.bool false) s) : wpAny (model prog w) A (compareOp .NotEq (.int a t) (.int a u)) Q E s := by
  refine PyProof.Rows.ne_int ?_
  simpa using h
end
section
variable {prog : Program} {w : World} {A : Around} {E : Value → Shared → Prop} {s : Shared} {Q : Value → Shared → Prop} {h₀ : Heap} {L a b : Addr} {news : List (Addr × Obj)} {n n' : Nat}
theorem reads_bools {h : Heap} : ∀ bs : List Bool, ReadsAll h (bs.map Value.bool) (bs.map PyData.bool) []
  | [] => .nil
  | b :: r => .cons (as := []) (bs := []) (Reads.bool b) (reads_bools r)
theorem eqv_bools : ∀ bs : List Bool, PyData.eqvAll (bs.map PyData.bool) (bs.map PyData.bool) = true
  | [] => by simp [PyData.eqvAll]
  | b :: r => by simp [PyData.eqvAll, PyData.eqv, eqv_bools r]
theorem ne_seven {c1 c2 c3 c4 c5 c6 c7 : Bool} (N : News h₀ L s.heap news) (ha : (a, listOf (List.toArray [.bool c1, .bool c2, .bool c3, .bool c4, .bool c5, .bool c6, .bool c7]) n) ∈ news)
    (hb : (b, listOf (List.toArray [.bool c1, .bool c2, .bool c3, .bool c4, .bool c5, .bool c6, .bool c7]) n') ∈ news) (hu : A.units + 64 < cLine) (h : Q (.bool false) s) :
    wpAny (model prog w) A (compareOp .NotEq (.ref a) (.ref b)) Q E s := by
  have sh : SeqAt.shaped (.list ([c1, c2, c3, c4, c5, c6, c7].map PyData.bool)) = true := by
    simp [SeqAt.shaped, PyData.canLay0, PyData.canLayAll0, PyData.depth, PyData.depthAll]
  refine ne_dataH (reads_list_at (N _ ha).1 rfl rfl (reads_bools [c1, c2, c3, c4, c5, c6, c7])) (reads_list_at (N _ hb).1 rfl rfl (reads_bools [c1, c2, c3, c4, c5, c6, c7])) sh sh hu ?_
  rw [show PyData.eqv (.list ([c1, c2, c3, c4, c5, c6, c7].map PyData.bool)) (.list ([c1, c2, c3, c4, c5, c6, c7].map PyData.bool)) = true from by
    simp [PyData.eqv, PyData.eqvAll]]
  exact h
end
end Mine

open PySem PySem.W PyProof.Rows
set_option maxRecDepth 100000
local macro_rules | `(tactic| walk_at "pyIter ref") => `(tactic| (k_here; (with_reducible show wpAny _ _ (pyIter (Value.ref _)) (fun it s₂ => PyProof.Rows.LoopAtV _ _ _ _ _ _ _ _ _ it s₂) _ _); (rename Fr _ _ _ _ => lF'); (rename News _ _ _ _ => lN'); first
  | (with_unfolding_all refine' Mine.ints_base [Str.ofString "mode", Str.ofString "asked", Str.ofString "one"] (by rfl) (by assumption) (by assumption) lF' lN' (by assumption) (fun n' t' g' I' oi' co' v' h' tk' hmem' l1 hc' F' N' => ?_) (fun g' co' v' h' tk' hc' F' N' => ?_))
  | (with_unfolding_all refine' Mine.ints_made [Str.ofString "mode", Str.ofString "asked", Str.ofString "one"] (by rfl) (by l_ints) lF' lN' (by assumption) (fun n' t' g' I' oi' co' v' h' tk' hmem' l1 hc' F' N' => ?_) (fun g' co' v' h' tk' hc' F' N' => ?_))) <;> (clear lF' lN'; (try k_lt l1)))
local macro_rules | `(tactic| walk_at "exec For Tuple Call cons nil") => `(tactic| (k_here; (rename Fr _ _ _ _ => lF'); (with_unfolding_all refine' For_turns lF' ?_; k_whole)))
local macro_rules | `(tactic| walk_at "call type:enumerate") => `(tactic| (k_here; (with_reducible show wpAny _ _ (call (Value.type _) [Value.ref _]) (fun xv s₁ => wpAny _ _ (pyIter xv) (fun it s₂ => TurnsAt _ _ _ _ _ _ _ _ _ it s₂) _ s₁) _ _); (rename Fr _ _ _ _ => lF'); (rename News _ _ _ _ => lN'); (with_unfolding_all refine' Mine.enum_told ?hm (by rfl) lF' lN' ?hg ?hT ?hn (fun i' a' row' cs' g' T' t' J' oe' oi' ws' h' tk' hlt' hcs' hrow' hpairs' hP' l1 hT' F' N' => ?_) (fun g' h' tk' ws' hS' F' N' => ?_); (case hm => rfl); (case hg => exact tupK (by k_asm) (by k_is)); (case hT => repeat' (first | exact Mine.Tabs.nil | exact Mine.Pairs.nil | refine Mine.Tabs.cons (tupK (by k_asm) (by k_is)) ?_ ?_ | refine Mine.Pairs.cons (tupK (by k_asm) (by k_is)) ?_)); (case hn => rfl)) <;> (clear lF' lN'; (try have hLen' := Mine.told_len hP'); (try k_lt l1))))
local macro_rules | `(tactic| walk_at "exec For Tuple Name cons cons") => `(tactic| (k_here; (rename Fr _ _ _ _ => lF'); (rename News _ _ _ _ => lN'); (with_unfolding_all refine' Mine.pick_told ?hm ?hi (by rfl) lF' lN' (by rfl) ?hy (by rfl) (by rfl) (by rfl) (by rfl) ?ht (by assumption) (fun b' t' c' u' J' o' h' tk' l1 F' N' => ?_) (fun g' h' tk' F' N' => ?_) (fun g' h' tk' F' hPut' => ?_); (case hm => rfl); (case hi => rfl); (case hy => rfl); (case ht => assumption)) <;> (clear lF' lN'; (try k_lt l1))))
local macro_rules | `(tactic| walk_at "PickPost") => `(tactic| first
  | (refine' Mine.pick_brk ?e ?F ?P; (case F => assumption); (case P => (refine' Mine.put_sub ?N ?S; (case N => assumption); (case S => k_subL))); (case e => first | exact Mine.hit0_t (by assumption) (by assumption) | exact Mine.hit0_ti (by assumption) (by assumption) | exact Mine.hit1_t (by assumption) (by assumption)))
  | (refine' Mine.pick_next ?e ?F ?N ?S; (case F => assumption); (case N => assumption); (case S => exact fun p hp => hp); (case e => first | exact Mine.hit0_f (by assumption) (by assumption) | exact Mine.hit0_fi (by assumption) (by assumption) | exact Mine.hit1_f (by assumption) (by assumption))))
local macro_rules | `(tactic| walk_at "ElsePost") => `(tactic| (refine' Mine.else_next ?F ?P; (case F => assumption); (case P => first | (refine' Mine.put_q (by assumption) ?N ?S; (case N => assumption); (case S => k_subL)) | (refine' Mine.put_m (by assumption) ?N ?S; (case N => assumption); (case S => k_subL)))))
local macro_rules | `(tactic| walk_at "EnumPost") => `(tactic| (refine' Mine.enum_next ?F ?o ?P ?c ?a; (case F => assumption); (case P => assumption); (case c => assumption); (case a => assumption); (case o => exact Mine.four_off)))
local macro_rules | `(tactic| walk_at "call builtin:str.join") => `(tactic| (k_here; (with_reducible show wpAny _ _ (call (Value.builtin "str.join") [Value.str _ _, Value.ref _]) _ _ _); k_dflt (refine' join_listW ?l ?i ?s ?w ?_; (case l => exact News.isList (by assumption) (by k_mem)); (case i => assumption); (case s => decide); (case w => exact Mine.fmL_weight _)); intro t' k'))
local macro_rules | `(tactic| walk_at "compareOp NotEq str str") => `(tactic| with_reducible refine Mine.ne_fm ?_)
local macro_rules | `(tactic| walk_at "compareOp NotEq int int") => `(tactic| k_dflt (refine Mine.ne_self ?_))
local macro_rules | `(tactic| walk_at "IntsPost") => `(tactic| (refine' Mine.ints_end ?F ?N ?c ?i ?a ?m; (case F => assumption); (case N => assumption); (case a => k_mem); (case c => assumption); (case i => exact SubL.mem (by k_subL)); (case m => (intro y h1 h2; (have h3 := h2); simp only [List.contains_cons, List.contains_nil, Bool.or_false, Bool.or_eq_false_iff, beq_eq_false_iff_ne, ne_eq] at h3; (obtain ⟨h4, h5, h6⟩ := h3); simp only [if_neg h1, if_neg h4, if_neg h5, if_neg h6, h2, Bool.false_eq_true, if_false]))))
local macro_rules | `(tactic| l_fact) => `(tactic| (with_reducible exact Mine.three_pre _ (by decide +kernel)))
local macro_rules | `(tactic| kxi_fact) => `(tactic| ((simp only [Mine.fd4, Mine.fd2, Mine.fm1]); omega))
local macro_rules | `(tactic| walk_at "subscriptTail Name BinOp str int") => `(tactic| (k_here; (with_reducible show wpAny _ _ (subscriptTail _ _ (Value.str _ _) (Value.int _ _)) _ _ _); (with_reducible rename (0 ≤ _ ∧ _ < 8 ∧ PySem.Str.length _ = 2) => hp9); (with_reducible refine KXi.item hp9.2.2 (by kxi_fact) (by kxi_fact) (by decide) ?_); intro kxiE))
local macro_rules | `(tactic| walk_at "binaryOp Add str str") => `(tactic| (k_here; (with_reducible show wpAny _ _ (binaryOp Operator.Add (Value.str _ _) (Value.str _ _)) _ _ _); (refine' KXadd.add ?kxaa ?kxab ?kxac ?_; (case kxaa => first | with_reducible exact Mine.len_i _ _ | with_reducible exact Mine.len_t _ _ _ | with_reducible exact Mine.len_ii _ _ _ _ | exact Mine.len_k _ | exact Mine.len_kt _ _ _ _ | exact Mine.len_ktt _ _ _ _ _ _ _); (case kxab => first | with_reducible exact Mine.len_i _ _ | with_reducible exact Mine.len_t _ _ _ | with_reducible exact Mine.len_ii _ _ _ _ | exact Mine.len_k _ | exact Mine.len_kt _ _ _ _ | exact Mine.len_ktt _ _ _ _ _ _ _); (case kxac => exact Nat.le_of_ble_eq_true rfl)); intro _ _ _))
local macro_rules | `(tactic| walk_at "eval ListComp") => `(tactic| (k_here; k_dflt (refine LCg.ListComp_U (F₀ := by k_asm) (by with_unfolding_all rfl) (by decide) (by rfl) (by decide) (by rfl) ?_); k_dflt lcg_toSrc))
local macro_rules | `(tactic| walk_at "CompSrc") => `(tactic| (k_here; k_dflt (refine LCg.CompSrc.ledger (by rfl) (by k_asm) (by k_asm) (by k_mem) (by exact Nat.le_of_ble_eq_true rfl) ?_; intro g'; lcg_lit)))
local macro_rules | `(tactic| walk_at "compareOp NotEq ref ref") => `(tactic| (k_here; (with_reducible show wpAny _ _ (compareOp CmpOp.NotEq (Value.ref _) (Value.ref _)) _ _ _); k_dflt (refine Mine.ne_seven (by k_asm) (by k_mem) (by k_mem) (by ke_room) ?_)))
set_option maxHeartbeats 16000000 in
theorem PySem.Challenge.cw_xb0046_01_holds : PySem.Challenge.rw_xb0046_01.Holds := by
  k_with "call ref" => k_call_rec "filemode" Mine.fm (fun (_ : Int) => True) (fun (_ : Int) => 2)
  k_with "call ref" => k_call_rec "_law_told" Mine.told (fun (_ : Int) => True) (fun (_ : Int) => 2)
  k_with "call ref" => k_call_by "_law_three" Mine.three (fun (b : Int) (_ : Bool) (x : PySem.Str) => 0 ≤ b ∧ b < 8 ∧ x.length = 2)
  k_with "call ref" => k_call_by "S_IMODE" Mine.imode
  k_with "call ref" => k_call_by "S_IFMT" Mine.ifmt
  k_with "call ref" => k_call_rec "S_ISFIFO" (Mine.isK 1) (fun (_ : Int) => True) (fun (_ : Int) => 2)
  k_with "call ref" => k_call_rec "S_ISCHR" (Mine.isK 2) (fun (_ : Int) => True) (fun (_ : Int) => 2)
  k_with "call ref" => k_call_rec "S_ISDIR" (Mine.isK 4) (fun (_ : Int) => True) (fun (_ : Int) => 2)
  k_with "call ref" => k_call_rec "S_ISBLK" (Mine.isK 6) (fun (_ : Int) => True) (fun (_ : Int) => 2)
  k_with "call ref" => k_call_rec "S_ISREG" (Mine.isK 8) (fun (_ : Int) => True) (fun (_ : Int) => 2)
  k_with "call ref" => k_call_rec "S_ISLNK" (Mine.isK 10) (fun (_ : Int) => True) (fun (_ : Int) => 2)
  k_with "call ref" => k_call_rec "S_ISSOCK" (Mine.isK 12) (fun (_ : Int) => True) (fun (_ : Int) => 2)
  k_with "tree" => simp [Mine.three]
  k_with "tree" => exact Mine.and_low _
  k_with "tree" => exact Mine.and_high _
  k_with "tree" => exact Mine.is_eq _ _ _ (by decide)
  open_k

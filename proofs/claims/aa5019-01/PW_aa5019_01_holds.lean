import PyProof.Rows.All
import Wide.All
import OpenK.AllK
import Wide.FinOn
import Lean
import PySem.Challenge.RW_aa5019_01
open PySem PySem.W PySem.W.X PyProof.Rows PySem.Calls
set_option Elab.async false
set_option maxRecDepth 100000
set_option maxHeartbeats 4000000
set_option linter.all false
namespace Mine
set_option maxHeartbeats 0 in
open_top hd for PySem.Challenge.rw_aa5019_01
-- part PA
section
abbrev prg : Program := PySem.Challenge.rw_aa5019_01.prog
def Ext (h h' : Heap) : Prop := ∀ b o, h.get? b = some o → h'.get? b = some o
theorem Ext.refl (h : Heap) : Ext h h := fun _ _ e => e
theorem Ext.trans {a b c : Heap} (x : Ext a b) (y : Ext b c) : Ext a c := fun _ _ e => y _ _ (x _ _ e)

abbrev rangeDict (P : Params) (k u : Nat → Tok) (l t s f : Int) : Obj :=
  dictOf [⟨PyData.keyHash P (Str.ofString "min_col"), .str (Str.ofString "min_col") (k 0), .int l (u 0)⟩,
    ⟨PyData.keyHash P (Str.ofString "min_row"), .str (Str.ofString "min_row") (k 1), .int t (u 1)⟩,
    ⟨PyData.keyHash P (Str.ofString "max_col"), .str (Str.ofString "max_col") (k 2), .int s (u 2)⟩,
    ⟨PyData.keyHash P (Str.ofString "max_row"), .str (Str.ofString "max_row") (k 3), .int f (u 3)⟩,
    ⟨PyData.keyHash P (Str.ofString "title"), .str (Str.ofString "title") (k 4), .none⟩] 5

/-- the object x is a CellRange of these four sides, without a title -/
def RangeAt (P : Params) (h : Heap) (x : Addr) (l t s f : Int) : Prop :=
  ∃ dx k u, h.get? x = some (instObj 349 dx) ∧ h.get? dx = some (rangeDict P k u l t s f)
theorem RangeAt.ext {P : Params} {h h' : Heap} {x : Addr} {l t s f : Int} (r : RangeAt P h x l t s f) (e : Ext h h') : RangeAt P h' x l t s f :=
  let ⟨dx, k, u, h1, h2⟩ := r; ⟨dx, k, u, e _ _ h1, e _ _ h2⟩
theorem RangeAt.fr {P : Params} {h₀ h : Heap} {L x : Addr} {m} {l t s f : Int} (F : Fr h₀ L h m) (r : RangeAt P h₀ x l t s f) : RangeAt P h x l t s f := r.ext F.keep
theorem RangeAt.bl {P : Params} {A : Around} {base h₀ h : Heap} {outer : List Env} {L x : Addr} {m} {l t s f : Int} (B : Below A base outer h₀) (F : Fr h₀ L h m) (r : RangeAt P base x l t s f) : RangeAt P h x l t s f := (r.ext B.stays).ext F.keep
theorem RangeAt.nw {P : Params} {h₀ h : Heap} {L x dx : Addr} {news : List (Addr × Obj)} {k u : Nat → Tok} {l t s f : Int} (N : News h₀ L h news) (h1 : (x, instObj 349 dx) ∈ news) (h2 : (dx, rangeDict P k u l t s f) ∈ news) : RangeAt P h x l t s f :=
  ⟨dx, k, u, (N _ h1).1, (N _ h2).1⟩

theorem instAt_of {P : Params} {h : Heap} {x dx : Addr} {k u : Nat → Tok} {l t s f : Int} (h1 : h.get? x = some (instObj 349 dx)) (h2 : h.get? dx = some (rangeDict P k u l t s f)) :
    InstAt h x ⟨.ref 349, some dx, .plain, #[]⟩ 349 (some (rangeDict P k u l t s f)) := ⟨h1, rfl, rfl, h2⟩
theorem instAt_fr {P : Params} {h₀ h : Heap} {L x dx : Addr} {m} {k u : Nat → Tok} {l t s f : Int} (F : Fr h₀ L h m) (h1 : h₀.get? x = some (instObj 349 dx)) (h2 : h₀.get? dx = some (rangeDict P k u l t s f)) :
    InstAt h x ⟨.ref 349, some dx, .plain, #[]⟩ 349 (some (rangeDict P k u l t s f)) := instAt_of (F.keep _ _ h1) (F.keep _ _ h2)
theorem instAt_bl {P : Params} {A : Around} {base h₀ h : Heap} {outer : List Env} {L x dx : Addr} {m} {k u : Nat → Tok} {l t s f : Int} (B : Below A base outer h₀) (F : Fr h₀ L h m) (h1 : base.get? x = some (instObj 349 dx)) (h2 : base.get? dx = some (rangeDict P k u l t s f)) :
    InstAt h x ⟨.ref 349, some dx, .plain, #[]⟩ 349 (some (rangeDict P k u l t s f)) := instAt_of (F.keep _ _ (B.stays _ _ h1)) (F.keep _ _ (B.stays _ _ h2))

theorem enter_ {w : World} {A : Around} {s : Shared} {p : Program} {loose : List Str} {mg mb : Str → Option Value}
    {R : Result → Shared → Prop} {name qual : Str} {params : Arguments} {body : List Stmt} {scope : Scope} {dV kV doc pm cdv ct oc : Value} {an od : Option Addr} {osl : Array (Option Value)} {f : Addr} {args : Args} {binds : List (Str × Value)}
    (X : (hd.heap_39 w.params).In s.heap) (T : TopRead p loose mg mb s.heap)
    (hroom : A.depth < 1000)
    (ho : (hd.heap_39 w.params).lookup f = some ⟨oc, od, .func (fnOf name qual params body scope dV kV doc pm an cdv ct), osl⟩) (hcd : codeIn (hd.heap_39 w.params) cdv qual = true)
    (hbind : BindsTo s (fnOf name qual params body scope dV kV doc pm an cdv ct) args binds) (hloc : ∀ y ∈ binds, scope.names.lookup y.1 = some .local)
    (h : ∀ L' h₁, Fr s.heap L' h₁ (fun y => binds.reverse.lookup y) → News s.heap L' h₁ [] →
      wpAny (model prg w) (A.deeper (envOf qual scope L' f cdv)) (execs body (envOf qual scope L' f cdv))
        (fun fl s' => R (.ok (.ret (match fl with | .ret v => v | _ => .none))) s')
        (fun e s' => wpAny (model prg w) (A.deeper (envOf qual scope L' f cdv)) (leaving (envOf qual scope L' f cdv) e) (fun _ s'' => R (.error e) s'') (fun e' s'' => R (.error e') s'') s')
        { s with heap := h₁, toks := s.toks + binds.length })
    (hco : scope.isCoroutine = false) (hgen : scope.isGenerator = false) (hk : scope.kind = .function)
    (hcell : ∀ x ∈ scope.names, x.2 ≠ .cell) : codeAny (model prg w) A (.call (.ref f) args) R s := by
  refine codeAny_call_def (fd := fnOf name qual params body scope dV kV doc pm an cdv ct) (body := body) (binds := binds) hroom (X _ _ ho) rfl T.nolimit (codeRec_of X hcd) rfl hbind hcell hloc (fun h₁ hns hk₁ => ?_) hco hgen hk
  exact h _ h₁ ⟨hns, hk₁, Nat.le_refl _⟩ News.nil

theorem ret_bool {R : Result → Shared → Prop} {s : Shared} {h0 : Heap} {b b' : Bool} (H : ∀ h' tk, Ext h0 h' → R (.ok (.ret (.bool b'))) { s with heap := h', toks := tk }) {h' : Heap} {tk : Nat}
    (k : Ext h0 h') (e : b = b') : R (.ok (.ret (.bool b))) { s with heap := h', toks := tk } := e ▸ H h' tk k

def Made (h h' : Heap) (objs : List (Addr × Obj)) : Prop := ∀ q ∈ objs, h'.get? q.1 = some q.2 ∧ h.get? q.1 = none
theorem news_ext {h₀ h h' : Heap} {L : Addr} {m : Str → Option Value} {news objs : List (Addr × Obj)} (F : Fr h₀ L h m) (N : News h₀ L h news) (e : Ext h h') (M : Made h h' objs) : News h₀ L h' (objs ++ news) := by
  intro q hq
  rcases List.mem_append.mp hq with hq | hq
  · refine ⟨(M q hq).1, fun z => ?_, ?_⟩
    · obtain ⟨o, es, ep, ho, _⟩ := F.ns
      rw [← z, (M q hq).2] at ho; cases ho
    · cases hb : h₀.get? q.1 with
      | none => rfl
      | some o => have := F.keep _ _ hb; rw [(M q hq).2] at this; cases this
  · exact ⟨e _ _ (N q hq).1, (N q hq).2⟩
theorem made_of_news {h₀ h : Heap} {L : Addr} {news objs : List (Addr × Obj)} (N : News h₀ L h news) (sub : ∀ q ∈ objs, q ∈ news) : Made h₀ h objs := fun q hq => ⟨(N q (sub q hq)).1, (N q (sub q hq)).2.2⟩
abbrev tupObj (vs : List Value) : Obj := { cls := .type "tuple", data := .seq vs.toArray }
abbrev blockObj (u : Nat → Tok) (l t r f : Int) : Obj := tupObj [.int l (u 0), .int t (u 1), .int r (u 2), .int f (u 3)]
def BlockAt (h : Heap) (a : Addr) (l t r f : Int) : Prop := ∃ u, h.get? a = some (blockObj u l t r f)
theorem BlockAt.ext {h h' : Heap} {x : Addr} {l t s f : Int} (r : BlockAt h x l t s f) (e : Ext h h') : BlockAt h' x l t s f := let ⟨u, h1⟩ := r; ⟨u, e _ _ h1⟩
theorem block_obj (u0 u1 u2 u3 : Tok) (l t r f : Int) : tupObj [.int l u0, .int t u1, .int r u2, .int f u3] = blockObj (fun i => match i with | 0 => u0 | 1 => u1 | 2 => u2 | _ => u3) l t r f := rfl
theorem enter_sub {w : World} {A : Around} {s : Shared} {p : Program} {loose : List Str} {mg mb : Str → Option Value} {g : Heap} {objs : List (Addr × Obj)}
    {R : Result → Shared → Prop} {name qual : Str} {params : Arguments} {body : List Stmt} {scope : Scope} {dV kV doc pm cdv ct oc : Value} {an od : Option Addr} {osl : Array (Option Value)} {f : Addr} {args : Args} {binds : List (Str × Value)}
    (hg : Ext g s.heap) (hM : Made g s.heap objs) (hsz : g.objs.size ≤ s.heap.objs.size)
    (X : (hd.heap_39 w.params).In g) (T : TopRead p loose mg mb g)
    (hroom : A.depth < 1000)
    (ho : (hd.heap_39 w.params).lookup f = some ⟨oc, od, .func (fnOf name qual params body scope dV kV doc pm an cdv ct), osl⟩) (hcd : codeIn (hd.heap_39 w.params) cdv qual = true)
    (hbind : BindsTo s (fnOf name qual params body scope dV kV doc pm an cdv ct) args binds) (hloc : ∀ y ∈ binds, scope.names.lookup y.1 = some .local)
    (h : ∀ L' h₁, Fr g L' h₁ (fun y => binds.reverse.lookup y) → News g L' h₁ objs →
      wpAny (model prg w) (A.deeper (envOf qual scope L' f cdv)) (execs body (envOf qual scope L' f cdv))
        (fun fl s' => R (.ok (.ret (match fl with | .ret v => v | _ => .none))) s')
        (fun e s' => wpAny (model prg w) (A.deeper (envOf qual scope L' f cdv)) (leaving (envOf qual scope L' f cdv) e) (fun _ s'' => R (.error e) s'') (fun e' s'' => R (.error e') s'') s')
        { s with heap := h₁, toks := s.toks + binds.length })
    (hco : scope.isCoroutine = false) (hgen : scope.isGenerator = false) (hk : scope.kind = .function)
    (hcell : ∀ x ∈ scope.names, x.2 ≠ .cell) : codeAny (model prg w) A (.call (.ref f) args) R s := by
  have X' := Frag.In.keeps X hg
  refine codeAny_call_def (fd := fnOf name qual params body scope dV kV doc pm an cdv ct) (body := body) (binds := binds) hroom (X' _ _ ho) rfl (T.nolimit.keeps hg) (codeRec_of X' hcd) rfl hbind hcell hloc (fun h₁ hns hk₁ => ?_) hco hgen hk
  exact h _ h₁ ⟨hns, fun b o e => hk₁ b o (hg b o e), hsz⟩ fun q hq => ⟨hk₁ _ _ (hM q hq).1, Nat.ne_of_lt (Heap.lt_size (hM q hq).1), (hM q hq).2⟩
def tk5 (a b c d e : Tok) : Nat → Tok := fun i => match i with | 0 => a | 1 => b | 2 => c | 3 => d | _ => e
theorem units_under_kw (A : Around) (C : Addr) (vals : List Value) (kw : List (Str × Value)) : (A.under (.builtin "type.__call__" ⟨.ref C :: vals, kw⟩)).units = A.units + 1 := rfl
theorem made_pushes (h : Heap) (o₁ o₂ : Obj) (f₁ : o₁.isFreed = false) (f₂ : o₂.isFreed = false) : Made h ((h.push o₁).push o₂) [(h.objs.size + 1, o₂), (h.objs.size, o₁)] := by
  have none : ∀ k, h.objs.size ≤ k → h.get? k = none := fun k hk => by
    cases e : h.get? k with
    | none => rfl
    | some o => exact absurd (Heap.lt_size e) (Nat.not_lt.mpr hk)
  intro q hq
  simp only [List.mem_cons, List.not_mem_nil, or_false] at hq
  rcases hq with rfl | rfl
  · refine ⟨?_, none _ (Nat.le_succ _)⟩
    have := Heap.get?_push_size (h.push o₁) f₂
    rwa [Heap.size_push] at this
  · exact ⟨Heap.get?_push_of_some _ (Heap.get?_push_size h f₁), none _ (Nat.le_refl _)⟩
theorem mn_if (a b : Int) : min a b = if b < a then b else a := by split <;> omega
theorem mx_if (a b : Int) : max a b = if b > a then b else a := by split <;> omega
abbrev bigA : Around := { depth := 600, units := 6000 }
theorem in_big {Γ : Ctx} {A : Around} (hh : A.handled = none) (hd : A.depth ≤ 600) (hu : A.units ≤ 6000) (h : Γ.In A) : Γ.In bigA :=
  ⟨h.1.trans hh, Nat.le_trans h.2.1 hd, fun _ e => (nomatch e), fun _ e => (nomatch e), Nat.le_trans h.2.2.2.2 hu⟩
theorem wpAny_big {α : Type} {M : Model} {A : Around} {t : Sem α} {Q : α → Shared → Prop} {E : Value → Shared → Prop} {s : Shared} (hh : A.handled = none) (hd : A.depth ≤ 600) (hu : A.units ≤ 6000) (h : wpAny M bigA t Q E s) : wpAny M A t Q E s :=
  fun Γ p hΓ => h Γ p (in_big hh hd hu hΓ)
theorem ite_f_ {A B : Prop} (h : B) : if (false = true) then A else B := h
theorem ite_t_ {A B : Prop} (h : A) : if (true = true) then A else B := h
theorem ite_dp {c : Prop} [d : Decidable c] {A B : Prop} (hc : decide c = true) (h : A) : if c then A else B := by rw [if_pos (of_decide_eq_true hc)]; exact h
theorem ite_dn {c : Prop} [d : Decidable c] {A B : Prop} (hc : decide c = false) (h : B) : if c then A else B := by rw [if_neg (of_decide_eq_false hc)]; exact h

end
-- part PN
section
-- fresh objects lie apart from those on the ledger
theorem made_ne {h₀ h h' : Heap} {L : Addr} {news objs : List (Addr × Obj)} (N : News h₀ L h news) (M : Made h h' objs) : ∀ q ∈ objs, ∀ p ∈ news, @Ne Nat p.1 q.1 := by
  intro q hq p hp e
  have a := (N p hp).1
  have b := (M q hq).2
  rw [show p.1 = q.1 from e, b] at a
  cases a
theorem made_pair {P : Params} {h h' : Heap} {x dx : Addr} {k u : Nat → Tok} {l t r f : Int} (M : Made h h' [(x, instObj 349 dx), (dx, rangeDict P k u l t r f)]) : @Ne Nat x dx := by
  intro e
  have a := (M _ (List.mem_cons_self ..)).1
  have b := (M _ (List.mem_cons_of_mem _ (List.mem_cons_self ..))).1
  rw [show x = dx from e, b] at a
  cases a

end
-- part PH
section
-- objects of the heap moved to the ledger
def Blk (g0 h : Heap) (b : Addr) (l t r f : Int) : Prop := g0.get? b = none ∧ BlockAt h b l t r f
theorem Blk.ext {g0 h h' : Heap} {b : Addr} {l t r f : Int} (B : Blk g0 h b l t r f) (e : Ext h h') : Blk g0 h' b l t r f := ⟨B.1, B.2.ext e⟩
structure Hid (g0 g h : Heap) (objs : List (Addr × Obj)) : Prop where
  ext : Ext g h
  made : Made g h objs
  size : g.objs.size ≤ h.objs.size
  low : Ext g0 g
  back : ∀ h', Ext g h' → (∀ q ∈ objs, h'.get? q.1 = some q.2) → Ext h h'
  none : ∀ a, g.get? a = none → (∀ q ∈ objs, @Ne Nat q.1 a) → h.get? a = none
theorem hide_ex {g0 h : Heap} {objs : List (Addr × Obj)} (G : Ext g0 h) (M : Made g0 h objs) : ∃ g, Hid g0 g h objs := by
  refine ⟨hideAll h (objs.map (·.1)), fun b o e => of_hideAll _ e, fun q hq => ⟨(M q hq).1, hideAll_none _ (List.mem_map.mpr ⟨q, hq, rfl⟩)⟩, Nat.le_of_eq (hideAll_size _ _), fun b o e => hideAll_get _ (G _ _ e) ?_, fun h' e k b o hb => ?_, fun a ha hn => ?_⟩
  · intro hm
    obtain ⟨q, hq, rfl⟩ := List.mem_map.mp hm
    rw [(M q hq).2] at e
    cases e
  · by_cases hm : b ∈ objs.map (·.1)
    · obtain ⟨q, hq, rfl⟩ := List.mem_map.mp hm
      have := (M q hq).1
      rw [hb] at this
      rw [k q hq, ← this]
    · exact e _ _ (hideAll_get _ hb hm)
  · cases e : h.get? a with
    | none => rfl
    | some o =>
      have hm : a ∉ objs.map (·.1) := fun hm => by
        obtain ⟨q, hq, e'⟩ := List.mem_map.mp hm
        exact hn q hq e'
      rw [hideAll_get _ e hm] at ha
      cases ha
theorem Hid.keep {g0 g h h' : Heap} {L : Addr} {m : Str → Option Value} {objs news : List (Addr × Obj)} (H : Hid g0 g h objs) (F : Fr g L h' m) (N : News g L h' news) (sub : ∀ q ∈ objs, q ∈ news) : Ext h h' :=
  H.back h' F.keep fun q hq => (N q (sub q hq)).1
theorem Hid.new {g0 g h h' : Heap} {L : Addr} {objs news mk : List (Addr × Obj)} (H : Hid g0 g h objs) (N : News g L h' news) (sub : ∀ q ∈ mk, q ∈ news) (off : ∀ p ∈ mk, ∀ q ∈ objs, @Ne Nat q.1 p.1) : Made h h' mk :=
  fun q hq => ⟨(N q (sub q hq)).1, H.none _ (N q (sub q hq)).2.2 (off q hq)⟩
theorem Blk.made {g0 h : Heap} {b : Addr} {u : Nat → Tok} {l t r f : Int} (hn : g0.get? b = none) (e : h.get? b = some (blockObj u l t r f)) : Made g0 h [(b, blockObj u l t r f)] := fun q hq => by
  rw [List.mem_singleton.mp hq]; exact ⟨e, hn⟩

end
-- part PL
section
-- block[:2] and block[2:] of a tuple of four
section
variable {w : World} {A : Around} {E : Value → Shared → Prop} {s : Shared}
theorem sliced_to2 {sl : Addr} {u : Tok} {Q : Int × Int × Nat → Shared → Prop} (hs : s.heap.IsSliceOf sl .none (.int 2 u) .none) (h : Q (0, 1, 2) s) :
    wpAny (model prg w) A (Builtin.Slice.sliceApplied (.ref sl) (pure ((4 : Nat) : Int))) Q E s := by
  obtain ⟨os, hos, hcs, hds⟩ := id hs
  unfold Builtin.Slice.sliceApplied Builtin.Slice.sliceFields
  refine wpAny_bind (wpAny_bind (wpAny_field hos hds (x := .none) rfl (wpAny_bind (wpAny_field hos hds (x := .int 2 u) rfl (wpAny_bind (wpAny_field hos hds (x := .none) rfl (wpAny_pure ?_)))))))
  refine wpAny_bind (slicePart_none ?_)
  show wpAny _ _ (if ((1 : Int) == 0) = true then _ else _) _ _ s
  rw [if_neg (by decide)]
  refine wpAny_bind (slicePart_none (wpAny_bind (slicePart_int (wpAny_bind (wpAny_pure ?_)))))
  exact wpAny_pure h
theorem item_to2 {t sl : Addr} {a b c d : Value} {u : Tok} {Q : Value → Shared → Prop} (ht : IsTup s.heap t #[a, b, c, d]) (hs : s.heap.IsSliceOf sl .none (.int 2 u) .none)
    (h : Q (.ref s.heap.objs.size) { s with heap := s.heap.push (tupObj [a, b]) }) : wpAny (model prg w) A (getItem (.ref t) (.ref sl)) Q E s := by
  obtain ⟨os, hos, hcs, hds⟩ := id hs
  have hTs : s.TypeIs (.ref sl) "slice" := ⟨os, hos, hcs⟩
  unfold getItem
  try with_reducible refine wpAny_holding ?_
  first | refine wpAny_bind (wpAny_pure ?_) | skip
  refine wpAny_bind (wpAny_sequenceKey ht.typeIs (by decide) ?_)
  refine wpAny_bind (wpAny_callSpecial?_slot (name := Str.ofString "__getitem__") ht.typeIs slot_tuple_getitem
    (wpAny_call_entry slot_tuple_getitem ht.typeIs entry_tuple_getitem ?_ (args_tuple_getitem _ _)))
  show wpAny _ _ (Builtin.Tuple.tupleItemsOf (.ref t) >>= _) _ _ s
  refine wpAny_bind (tupleItemsOf_ ht ?_)
  refine wpAny_bind (wpAny_typeOf hTs ?_)
  rw [if_pos (by decide)]
  refine wpAny_bind (sliced_to2 hs ?_)
  show wpAny _ _ (if ((0 : Int) == 0 && (1 : Int) == 1 && (2 : Nat) == 4) = true then _ else _) _ _ s
  rw [if_neg (by decide)]
  have e : ((List.range 2).filterMap fun (k : Nat) => (#[a, b, c, d] : Array Value)[((0 : Int) + (k : Int) * 1).toNat]?).toArray = #[a, b] := by simp [List.range, List.range.loop, List.filterMap]
  rw [e]
  have hz : sizeOk (.seq #[a, b]) := by show 2 ≤ sizeLine; decide
  first
    | exact wpAny_bind (m := Builtin.Tuple.tupleExact _) (wpAny_newObj_type (wpAny_pure ⟨_, rfl, wpAny_pure h⟩) hz)
    | exact wpAny_bind (m := Builtin.Tuple.tupleExact _) (wpAny_newObj_type (wpAny_bind (wpAny_pure (wpAny_pure ⟨_, rfl, wpAny_pure h⟩))) hz)
    | exact wpAny_bind (wpAny_bind (m := Builtin.Tuple.tupleExact _) (wpAny_newObj_type (wpAny_pure (wpAny_pure ⟨_, rfl, wpAny_pure h⟩)) hz))
    | exact wpAny_bind (wpAny_bind (m := Builtin.Tuple.tupleExact _) (wpAny_newObj_type (wpAny_pure ⟨_, rfl, wpAny_pure h⟩) hz))
variable {h₀ : Heap} {L : Addr} {m : Str → Option Value} {news : List (Addr × Obj)}
theorem slice_to2 {value slice : Expr} {t : Addr} {a b c d : Value} {u : Tok} {Q : Value → Shared → Prop}
    (F : Fr h₀ L s.heap m) (N : News h₀ L s.heap news) (hm : (t, tupObj [a, b, c, d]) ∈ news)
    (h : ∀ D h', Fr h₀ L h' m → News h₀ L h' ((D, tupObj [a, b]) :: news) → (∀ p ∈ news, p.1 < D) → Q (.ref D) { s with heap := h' })
    (hs : subscripted slice false (.ref t) (.ref s.heap.objs.size) = operate [.ref s.heap.objs.size, .ref t] (getItem (.ref t) (.ref s.heap.objs.size)))
    (hg : ∀ r, letTemporaryGo value (.ref t) r = pure ()) :
    wpAny (model prg w) A (subscriptTail value slice (.ref t) (.ref s.heap.objs.size)) Q E { s with heap := s.heap.push { cls := .type "slice", data := .fields #[.none, .int 2 u, .none] } } := by
  have ht' : IsTup (s.heap.push { cls := .type "slice", data := .fields #[.none, .int 2 u, .none] }) t #[a, b, c, d] := ⟨_, Heap.get?_push_of_some _ (N _ hm).1, rfl, 0, rfl⟩
  refine subscriptTail_ops (s := { s with heap := s.heap.push { cls := .type "slice", data := .fields #[.none, .int 2 u, .none] } }) ht'.typeIs slot_tuple_getitem.lookup
    (item_to2 ht' (Heap.IsSliceOf.new ..) ?_) hs hg
  have N1 := News.push (F.push { cls := .type "slice", data := .fields #[.none, .int 2 u, .none] }) (N.grown fun _ _ e => Heap.get?_push_of_some _ e) (tupObj [a, b])
  exact h _ _ ((F.push _).push _) N1 fun p hp => by rw [Heap.size_push]; exact Nat.lt_succ_of_lt (Heap.lt_size (N p hp).1)
theorem slice_from2 {value slice : Expr} {t : Addr} {a b c d : Value} {u : Tok} {Q : Value → Shared → Prop}
    (F : Fr h₀ L s.heap m) (N : News h₀ L s.heap news) (hm : (t, tupObj [a, b, c, d]) ∈ news)
    (h : ∀ D h', Fr h₀ L h' m → News h₀ L h' ((D, tupObj [c, d]) :: news) → (∀ p ∈ news, p.1 < D) → Q (.ref D) { s with heap := h' })
    (hs : subscripted slice false (.ref t) (.ref s.heap.objs.size) = operate [.ref s.heap.objs.size, .ref t] (getItem (.ref t) (.ref s.heap.objs.size)))
    (hg : ∀ r, letTemporaryGo value (.ref t) r = pure ()) :
    wpAny (model prg w) A (subscriptTail value slice (.ref t) (.ref s.heap.objs.size)) Q E { s with heap := s.heap.push { cls := .type "slice", data := .fields #[.int 2 u, .none, .none] } } := by
  refine slice_tuple_from (a := 2) (items := #[a, b, c, d]) F N ⟨_, (N _ hm).1, rfl, 0, rfl⟩ (by decide) (by simp) (fun h' F' N' => h _ h' F' N' fun p hp => Nat.lt_succ_of_lt (Heap.lt_size (N p hp).1)) hs hg (by show 4 ≤ sizeLine; decide)
end

end
-- part PB
section
/-- tuple's order on ints -/
def lexGt : List (Int × Tok) → List (Int × Tok) → Bool
  | x :: xs, y :: ys => if x.1 = y.1 then lexGt xs ys else decide (y.1 < x.1)
  | xs, ys => decide (ys.length < xs.length)
abbrev intVs (l : List (Int × Tok)) : List Value := l.map fun x => .int x.1 x.2
theorem rc_gt {w : World} {prog : Program} {A : Around} {E : Value → Shared → Prop} {s : Shared} {Q : Value → Shared → Prop} {a b : Int} {t u : Tok} (h : Q (.bool (decide (b < a))) s) : wpAny (model prog w) A (richCompare .Gt (.int a t) (.int b u)) Q E s := PyProof.Rows.gt_int h
open SeqAt MeetsSeq MeetsSeq2 MeetsSeq3 SeqRoads2 in
theorem tuple_gt_meets (l b : Addr) (xs ys : List (Int × Tok)) (n n2 : Nat) (dd dd2 : Option Addr) (sl sl2 : Array (Option Value)) :
    Meets (Builtin.«tuple.__gt__» ⟨[.ref l, .ref b], []⟩)
      (fun A R s => s.heap.get? l = some { cls := .type "tuple", dict := dd, data := .seq (intVs xs).toArray n, slots := sl } ∧ s.heap.get? b = some { cls := .type "tuple", dict := dd2, data := .seq (intVs ys).toArray n2, slots := sl2 } ∧
        R (.ok (.ret (.bool (lexGt xs ys)))) s) :=
  .of_wp fun prog w A R s h => by
    obtain ⟨hp, g, d, tk, os⟩ := s; obtain ⟨hl, hb, h⟩ := h
    have f2 := AutoSeq1.sub_tuple_tuple
    wp_walk using AutoSeq1.wpAny_loadPart' hl, AutoSeq1.wpAny_loadPart' hb, wpAny_forIn_list _ (fun rest b s' => b.1 = none ∧ s' = ⟨hp, g, d, tk, os⟩ ∧ ∃ us vs, rest = (intVs us).zip (intVs vs) ∧
      (xs.length + vs.length = us.length + ys.length) ∧ R (.ok (.ret (.bool (lexGt us vs)))) ⟨hp, g, d, tk, os⟩) _
    case turn =>
      rintro ⟨y, x⟩ rest b s' ⟨hb', rfl, us, vs, hz, hn, hR⟩
      cases us with
      | nil => simp at hz
      | cons u us =>
        cases vs with
        | nil => simp at hz
        | cons v vs =>
          obtain ⟨u, tu⟩ := u
          obtain ⟨v, tv⟩ := v
          simp only [intVs, List.map_cons, List.zip_cons_cons, List.cons.injEq, Prod.mk.injEq] at hz
          obtain ⟨⟨rfl, rfl⟩, rfl⟩ := hz
          refine wpAny_bind (EqGives.int u v tu tv prog w _ _ _ _ ?_)
          by_cases e : u = v
          · subst e
            rw [show (u == u) = true from beq_self_eq_true u]
            wp_walk
            refine ⟨rfl, rfl, us, vs, rfl, by simp only [List.length_cons] at hn; omega, ?_⟩
            simpa [lexGt] using hR
          · rw [show (u == v) = false from beq_eq_false_iff_ne.mpr e]
            wp_walk using rc_gt
            refine ⟨_, rfl, ?_⟩
            simpa [lexGt, e] using hR
    case fin =>
      rintro ⟨b1, b2⟩ s' ⟨hb', rfl, us, vs, hz, hn, hR⟩
      simp only at hb'
      subst hb'
      wp_walk
      refine ⟨_, rfl, ?_⟩
      have : (Builtin.Tuple.tupleCompareSizes .Gt (intVs xs).toArray.size (intVs ys).toArray.size) = .bool (lexGt us vs) := by
        simp only [Builtin.Tuple.tupleCompareSizes]
        cases us with
        | nil => simp [lexGt] at hn ⊢; cases vs <;> simp [lexGt] at hn ⊢ <;> omega
        | cons u us => cases vs with
          | nil => simp [lexGt] at hn ⊢; omega
          | cons v vs => simp at hz
      first | (rw [this]; exact hR) | simpa [this] using hR
    case h =>
      exact ⟨rfl, rfl, xs, ys, by simp, rfl, by simpa using h⟩
theorem gt_tuple {w : World} {prog : Program} {A : Around} {E : Value → Shared → Prop} {s : Shared} {Q : Value → Shared → Prop} {l b : Addr} {xs ys : List (Int × Tok)} (hl : s.heap.IsTuple l (intVs xs).toArray) (hb : s.heap.IsTuple b (intVs ys).toArray) (hu : A.units < cLine)
    (h : Q (.bool (lexGt xs ys)) s) : wpAny (model prog w) A (compareOp .Gt (.ref l) (.ref b)) Q E s := by
  obtain ⟨⟨cls, dd, data, sl⟩, ho, hc, n, hd⟩ := id hl
  obtain ⟨⟨cls2, dd2, data2, sl2⟩, ho2, hc2, n2, hd2⟩ := id hb
  simp only at hc hd hc2 hd2
  subst hc hd hc2 hd2
  exact richCompare_meets_room (op := .Gt) ⟨_, ho, rfl⟩ ⟨_, ho2, rfl⟩ F.slot_tuple_gt F.entry_tuple_gt (F.args_tuple_gt_2 _ _) (tuple_gt_meets l b xs ys n n2 dd dd2 sl sl2)
    ⟨ho, ho2, show Value.bool _ ≠ Value.notImplemented ∧ Q (.bool _) s from ⟨(fun x => nomatch x), h⟩⟩ hu
theorem gt_blocks {w : World} {prog : Program} {A : Around} {E : Value → Shared → Prop} {s : Shared} {h₀ : Heap} {L : Addr} {news : List (Addr × Obj)} {Q : Value → Shared → Prop} {a b : Addr} {u u' : Nat → Tok} {l t r f l' t' r' f' : Int}
    (N : News h₀ L s.heap news) (ha : (a, blockObj u l t r f) ∈ news) (hb : (b, blockObj u' l' t' r' f') ∈ news) (hu : A.units < cLine)
    (h : Q (.bool (decide (l' < l ∨ (l = l' ∧ (t' < t ∨ (t = t' ∧ (r' < r ∨ (r = r' ∧ f' < f)))))))) s) : wpAny (model prog w) A (compareOp .Gt (.ref a) (.ref b)) Q E s := by
  refine gt_tuple (xs := [(l, u 0), (t, u 1), (r, u 2), (f, u 3)]) (ys := [(l', u' 0), (t', u' 1), (r', u' 2), (f', u' 3)]) ⟨_, (N _ ha).1, rfl, _, rfl⟩ ⟨_, (N _ hb).1, rfl, _, rfl⟩ hu ?_
  have e : lexGt [(l, u 0), (t, u 1), (r, u 2), (f, u 3)] [(l', u' 0), (t', u' 1), (r', u' 2), (f', u' 3)] = decide (l' < l ∨ (l = l' ∧ (t' < t ∨ (t = t' ∧ (r' < r ∨ (r = r' ∧ f' < f)))))) := by
    rw [Bool.eq_iff_iff]
    simp only [lexGt, List.length_nil]
    repeat' split
    all_goals simp only [decide_eq_true_eq]
    all_goals omega
  rw [e]; exact h

end
local macro_rules | `(tactic| k_inst) => `(tactic| (refine' instAt_fr ?F ?h1 ?h2; (case F => k_asm); (case h1 => with_reducible assumption); (case h2 => with_reducible assumption)))
local macro_rules | `(tactic| k_room) => `(tactic| ((try simp only [depth_under_make, depth_under_kw, depth_in1, depth_deeper, depth_mark]); (try dsimp only); omega))
local macro_rules | `(tactic| k_units) => `(tactic| ((try simp only [PySem.Around.deeper_units, PySem.Around.in1_units, PySem.Around.mark_units]); (try unfold PySem.cLine); (try dsimp only); omega))
local macro_rules | `(tactic| walk_at "compareChain") => `(tactic| refine chain_link ?_)
local macro_rules | `(tactic| walk_at "my fill") => `(tactic| (have kfill : (PySem.Challenge.rw_aa5019_01, Mine.hd.heap_39) = (PySem.Challenge.rw_aa5019_01, Mine.hd.heap_39) := by { k_fill; rfl }; clear kfill))
local macro_rules | `(tactic| walk_at "my entered") => `(tactic| (
  (case k8 => ((try dsimp only) <;> omega));
  (case k6 => k_dflt k_is);
  (case k7 => k_dflt k_is);
  (case k9 => exact BindsTo.of_eq rfl);
  (case c5 => decide);
  (case kB => exact locs rfl);
  (case c2 => exact rfl);
  (case c3 => exact rfl);
  (case c4 => exact rfl);
  intro L' h' F' N';
  try dsimp only))
local macro_rules | `(tactic| walk_at "my rg") => `(tactic| first
  | with_reducible assumption
  | (refine' RangeAt.fr ?F ?r; (case F => k_asm); (case r => with_reducible assumption))
  | (refine' RangeAt.nw ?N ?h1 ?h2; (case N => k_asm); (case h1 => k_mem); (case h2 => k_mem))
  | (refine' RangeAt.bl ?B ?F ?r; (case B => k_asm); (case F => k_asm); (case r => with_reducible assumption)))
local macro_rules | `(tactic| walk_at "my top") => `(tactic| first
  | with_reducible assumption
  | (refine' TopRead.keeps ?T ?k; (case T => with_reducible assumption); (case k => exact Fr.keep (by k_asm))))
local macro_rules | `(tactic| walk_at "my xin") => `(tactic| first
  | with_reducible assumption
  | (refine' Frag.In.keeps ?T ?k; (case T => with_reducible assumption); (case k => exact Fr.keep (by k_asm))))
local macro_rules | `(tactic| walk_at "my after") => `(tactic| (
  (with_reducible rename Ext _ _ => hE');
  (with_reducible rename Fr _ _ _ _ => kF);
  (with_reducible rename News _ _ _ _ => kN);
  (have F' := Fr.keeps kF hE');
  (have N' := News.grown kN hE');
  (try clear hE');
  k_sweep;
  (try dsimp only [PySem.W.CmpBack])))
local macro_rules | `(tactic| walk_at "my after made") => `(tactic| (
  (with_reducible rename Made _ _ _ => hM');
  (with_reducible rename Ext _ _ => hE');
  (with_reducible rename Fr _ _ _ _ => kF);
  (with_reducible rename News _ _ _ _ => kN);
  (have F' := Fr.keeps kF hE');
  (have N' := news_ext kF kN hE' hM');
  (try have D' := made_ne kN hM');
  (try have D2' := made_pair hM');
  (try simp only [List.mem_cons, forall_eq_or_imp, List.not_mem_nil, false_implies, implies_true, and_true] at D');
  (try simp only [List.cons_append, List.nil_append] at N');
  (try clear hE' hM');
  k_sweep;
  (try dsimp only [PySem.W.CmpBack])))
local macro_rules | `(tactic| walk_at "my bool") => `(tactic| (first | rfl | skip) <;> (rw [Bool.eq_iff_iff]; (try simp only [decide_eq_true_eq, Bool.false_eq_true, Bool.true_eq_false, Bool.not_eq_true', decide_eq_false_iff_not, bne_iff_ne, ne_eq, beq_iff_eq, Bool.not_eq_true, Bool.not_not]); omega))
local macro_rules | `(tactic| walk_at "handedOut") => `(tactic| ((rw [PySem.W.handedOut_of (by k_handed)]); (refine wpAny_pure ?_); (try dsimp only)))
local macro_rules | `(tactic| walk_at "compareOp Gt ref ref") => `(tactic| (k_here; k_dflt (refine' gt_blocks ?N ?a ?b ?u ?_; (case N => k_asm); (case a => k_mem); (case b => k_mem); (case u => k_units); k_whole)))
local macro_rules | `(tactic| walk_at "subscriptTail Name Constant ref int") => `(tactic| (k_here; k_dflt (refine' PyProof.Rows.item_tupleT ?t ?a ?b ?c ?d ?_ ?e; (case t => exact News.isTup (by k_asm) (by k_mem)); (case a => decide); (case b => decide); (case c => rfl); (case d => rfl); (case e => with_unfolding_all rfl); k_whole)))
local macro_rules | `(tactic| walk_at "callWith") => `(tactic| ((with_reducible show wpAny _ _ (callWith _ (Value.builtin _) (_ :: _) (backTo _ (starEach (_ :: _) _)) []) _ _ _); k_dflt (refine' PyProof.Rows.callWith_method1 ?_ ?he ?hp; (case he => rfl); (case hp => rfl))))
local macro_rules | `(tactic| walk_at "callWith ref") => `(tactic| (k_here; (with_reducible show wpAny _ _ (callWith _ (Value.ref _) _ _ (backToKw _ (keywordEach (_ :: _) _))) _ _ _); k_dflt (first | (refine' callWith_KW0 ?k1 ?k2 ?k3 ?_; (case k1 => k_asm); (case k2 => k_is); (case k3 => exact rfl); k_whole) | (refine' callWith_KW ?k1 ?k2 ?k3 ?_; (case k1 => k_asm); (case k2 => k_is); (case k3 => exact rfl); k_whole))))
local macro_rules | `(tactic| walk_at "ite") => `(tactic| (k_closed; (first | ((with_reducible refine' ite_dp ?hc ?_); (case hc => k_dflt rfl)) | ((with_reducible refine' ite_dn ?hc ?_); (case hc => k_dflt rfl)))))
local macro_rules | `(tactic| walk_at "ite") => `(tactic| (with_reducible refine ite_f_ ?_))
local macro_rules | `(tactic| walk_at "ite") => `(tactic| (with_reducible refine ite_t_ ?_))
local macro_rules | `(tactic| walk_at "subscriptTail Name Name ref int") => `(tactic| (k_here; k_dflt (first
  | (refine' topTup_K ?F ?X ?l ?a ?b ?c ?d ?_; (case F => k_asm); (case X => k_asm); (case l => k_is); (case a => decide); (case b => decide); (case c => rfl); (case d => rfl))
  | (refine' topList_K ?F ?X ?l ?a ?b ?d ?_; (case F => k_asm); (case X => k_asm); (case l => k_is); (case a => decide); (case b => decide); (case d => rfl); k_whole))))
local macro_rules | `(tactic| walk_at "subscriptTail Name Name ref str") => `(tactic| (k_here; k_dflt (refine' topItem_K ?F ?X ?l ?k ?e ?_; (case F => k_asm); (case X => k_asm); (case l => k_is); (case k => k_keys); (case e => k_is))))
local macro_rules | `(tactic| walk_at "eval Name") => `(tactic| (k_here; (with_reducible show wpAny _ _ (eval _ (envOf _ _ _ _ _)) _ _ _); k_dflt (first
  | (refine' nameX_L ?F ?v ?_ ?a ?b ?d; (case b => kernel_rfl); (case F => k_asm); (case a => rfl); (case d => kernel_rfl); (case v => rfl); k_whole)
  | (refine' nameX_K ?F ?X ?T ?e ?_ ?a ?b ?d; (case b => kernel_rfl); (case F => k_asm); (case X => k_asm); (case T => k_asm); (case a => rfl); (case d => kernel_rfl); (case e => k_is); k_whole)
  | (refine' nameX_B ?F ?X ?T ?e ?v ?n ?_ ?a ?b ?d; (case b => kernel_rfl); (case F => k_asm); (case X => k_asm); (case T => k_asm); (case a => rfl); (case d => kernel_rfl); (case e => k_is); (case v => boot_fast); (case n => decide); k_whole))))
local macro_rules | `(tactic| walk_at "storeName") => `(tactic| (k_here; (with_reducible show wpAny _ _ (storeName (envOf _ _ _ _ _) _ (Value.ref _)) _ _ _); k_dflt (refine' storeX_L ?F ?N ?_ ?a ?b; (case F => k_asm); (case N => k_asm); (case a => rfl); (case b => kernel_rfl); k_whole; intro h' F' N'; (try k_sweep))))

-- part P1
section

theorem title_c {w : World} {A : Around} {s : Shared} {p : Program} {loose : List Str} {mg mb : Str → Option Value} {R : Result → Shared → Prop} {x y : Addr} {l t r f l' t' r' f' : Int}
    (X : (hd.heap_39 w.params).In s.heap) (T : TopRead p loose mg mb s.heap) (hh : A.handled = none) (hroom : A.depth < 900) (hu : A.units < 9000) (hx : RangeAt w.params s.heap x l t r f) (hy : RangeAt w.params s.heap y l' t' r' f')
    (h : ∀ h' tk, Ext s.heap h' → R (.ok (.ret .none)) { s with heap := h', toks := tk }) :
    codeAny (model prg w) A (.call (.ref 199) ⟨[.ref x, .ref y], []⟩) R s := by
  have hx0 := hx
  obtain ⟨dx, kx, ux, hx1, hx2⟩ := hx0
  have hy0 := hy
  obtain ⟨dy, ky, uy, hy1, hy2⟩ := hy0
  obtain ⟨hd0, dp0, fs0, gs0, un0⟩ := A
  obtain rfl : hd0 = none := hh
  dsimp only at hroom hu
  walk_at "my fill"
  refine' enter_ (binds := [(Str.ofString "self", .ref x), (Str.ofString "other", .ref y)]) X T ?k8 ?k6 ?k7 ?k9 ?kB ?_ ?c2 ?c3 ?c4 ?c5
  walk_at "my entered"
  k_steps
  all_goals exact h _ _ (Fr.keep (by assumption))
local macro_rules | `(tactic| walk_at "call ref") => `(tactic| (k_here; (with_reducible show wpAny _ _ (call (Value.ref 199) [Value.ref _, Value.ref _] []) _ _ _); (refine wpAny_call ?_); k_dflt (refine' title_c ?X ?T ?hh ?hr ?hu ?hx ?hy ?_; (case X => walk_at "my xin"); (case T => walk_at "my top"); (case hh => exact rfl); (case hr => k_room); (case hu => k_units); (case hx => walk_at "my rg"); (case hy => walk_at "my rg"); k_whole; intro h' tk' hE'; walk_at "my after")))
theorem sup_c {w : World} {A : Around} {s : Shared} {p : Program} {loose : List Str} {mg mb : Str → Option Value} {R : Result → Shared → Prop} {x y : Addr} {l t r f l' t' r' f' : Int}
    (X : (hd.heap_39 w.params).In s.heap) (T : TopRead p loose mg mb s.heap) (hh : A.handled = none) (hroom : A.depth < 900) (hu : A.units < 9000) (hx : RangeAt w.params s.heap x l t r f) (hy : RangeAt w.params s.heap y l' t' r' f')
    (h : ∀ h' tk, Ext s.heap h' → R (.ok (.ret (.bool (decide (t ≤ t' ∧ t' ≤ f' ∧ f' ≤ f ∧ l ≤ l' ∧ l' ≤ r' ∧ r' ≤ r))))) { s with heap := h', toks := tk }) :
    codeAny (model prg w) A (.call (.ref 256) ⟨[.ref x, .ref y], []⟩) R s := by
  have hx0 := hx
  obtain ⟨dx, kx, ux, hx1, hx2⟩ := hx0
  have hy0 := hy
  obtain ⟨dy, ky, uy, hy1, hy2⟩ := hy0
  obtain ⟨hd0, dp0, fs0, gs0, un0⟩ := A
  obtain rfl : hd0 = none := hh
  dsimp only at hroom hu
  walk_at "my fill"
  refine' enter_ (binds := [(Str.ofString "self", .ref x), (Str.ofString "other", .ref y)]) X T ?k8 ?k6 ?k7 ?k9 ?kB ?_ ?c2 ?c3 ?c4 ?c5
  walk_at "my entered"
  k_steps
  all_goals (refine ret_bool h (Fr.keep (by assumption)) ?_; walk_at "my bool")
local macro_rules | `(tactic| walk_at "call ref") => `(tactic| (k_here; (with_reducible show wpAny _ _ (call (Value.ref 256) [Value.ref _, Value.ref _] []) _ _ _); (refine wpAny_call ?_); k_dflt (refine' sup_c ?X ?T ?hh ?hr ?hu ?hx ?hy ?_; (case X => walk_at "my xin"); (case T => walk_at "my top"); (case hh => exact rfl); (case hr => k_room); (case hu => k_units); (case hx => walk_at "my rg"); (case hy => walk_at "my rg"); k_whole; intro h' tk' hE'; walk_at "my after")))
theorem ne_c {w : World} {A : Around} {s : Shared} {p : Program} {loose : List Str} {mg mb : Str → Option Value} {R : Result → Shared → Prop} {x y : Addr} {l t r f l' t' r' f' : Int}
    (X : (hd.heap_39 w.params).In s.heap) (T : TopRead p loose mg mb s.heap) (hh : A.handled = none) (hroom : A.depth < 890) (hu : A.units < 8900) (hx : RangeAt w.params s.heap x l t r f) (hy : RangeAt w.params s.heap y l' t' r' f')
    (h : ∀ h' tk, Ext s.heap h' → R (.ok (.ret (.bool (decide (¬ (t' = t ∧ f = f' ∧ l' = l ∧ r = r')))))) { s with heap := h', toks := tk }) :
    codeAny (model prg w) A (.call (.ref 228) ⟨[.ref x, .ref y], []⟩) R s := by
  have hx0 := hx
  obtain ⟨dx, kx, ux, hx1, hx2⟩ := hx0
  have hy0 := hy
  obtain ⟨dy, ky, uy, hy1, hy2⟩ := hy0
  obtain ⟨hd0, dp0, fs0, gs0, un0⟩ := A
  obtain rfl : hd0 = none := hh
  dsimp only at hroom hu
  walk_at "my fill"
  refine' enter_ (binds := [(Str.ofString "self", .ref x), (Str.ofString "other", .ref y)]) X T ?k8 ?k6 ?k7 ?k9 ?kB ?_ ?c2 ?c3 ?c4 ?c5
  walk_at "my entered"
  k_steps
  all_goals (refine ret_bool h (Fr.keep (by assumption)) ?_; walk_at "my bool")
local macro_rules | `(tactic| walk_at "call ref") => `(tactic| (k_here; (with_reducible show wpAny _ _ (call (Value.ref 228) [Value.ref _, Value.ref _] []) _ _ _); (refine wpAny_call ?_); k_dflt (refine' ne_c ?X ?T ?hh ?hr ?hu ?hx ?hy ?_; (case X => walk_at "my xin"); (case T => walk_at "my top"); (case hh => exact rfl); (case hr => k_room); (case hu => k_units); (case hx => walk_at "my rg"); (case hy => walk_at "my rg"); k_whole; intro h' tk' hE'; walk_at "my after")))
theorem eq_c {w : World} {A : Around} {s : Shared} {p : Program} {loose : List Str} {mg mb : Str → Option Value} {R : Result → Shared → Prop} {x y : Addr} {l t r f l' t' r' f' : Int}
    (X : (hd.heap_39 w.params).In s.heap) (T : TopRead p loose mg mb s.heap) (hh : A.handled = none) (hroom : A.depth < 880) (hu : A.units < 8800) (hx : RangeAt w.params s.heap x l t r f) (hy : RangeAt w.params s.heap y l' t' r' f')
    (h : ∀ h' tk, Ext s.heap h' → R (.ok (.ret (.bool (decide (t' = t ∧ f = f' ∧ l' = l ∧ r = r'))))) { s with heap := h', toks := tk }) :
    codeAny (model prg w) A (.call (.ref 235) ⟨[.ref x, .ref y], []⟩) R s := by
  have hx0 := hx
  obtain ⟨dx, kx, ux, hx1, hx2⟩ := hx0
  have hy0 := hy
  obtain ⟨dy, ky, uy, hy1, hy2⟩ := hy0
  obtain ⟨hd0, dp0, fs0, gs0, un0⟩ := A
  obtain rfl : hd0 = none := hh
  dsimp only at hroom hu
  walk_at "my fill"
  refine' enter_ (binds := [(Str.ofString "self", .ref x), (Str.ofString "other", .ref y)]) X T ?k8 ?k6 ?k7 ?k9 ?kB ?_ ?c2 ?c3 ?c4 ?c5
  walk_at "my entered"
  k_steps
  all_goals (refine ret_bool h (Fr.keep (by assumption)) ?_; walk_at "my bool")
local macro_rules | `(tactic| walk_at "call ref") => `(tactic| (k_here; (with_reducible show wpAny _ _ (call (Value.ref 235) [Value.ref _, Value.ref _] []) _ _ _); (refine wpAny_call ?_); k_dflt (refine' eq_c ?X ?T ?hh ?hr ?hu ?hx ?hy ?_; (case X => walk_at "my xin"); (case T => walk_at "my top"); (case hh => exact rfl); (case hr => k_room); (case hu => k_units); (case hx => walk_at "my rg"); (case hy => walk_at "my rg"); k_whole; intro h' tk' hE'; walk_at "my after")))
theorem subset_c {w : World} {A : Around} {s : Shared} {p : Program} {loose : List Str} {mg mb : Str → Option Value} {R : Result → Shared → Prop} {x y : Addr} {l t r f l' t' r' f' : Int}
    (X : (hd.heap_39 w.params).In s.heap) (T : TopRead p loose mg mb s.heap) (hh : A.handled = none) (hroom : A.depth < 880) (hu : A.units < 8800) (hx : RangeAt w.params s.heap x l t r f) (hy : RangeAt w.params s.heap y l' t' r' f')
    (h : ∀ h' tk, Ext s.heap h' → R (.ok (.ret (.bool (decide (t' ≤ t ∧ t ≤ f ∧ f ≤ f' ∧ l' ≤ l ∧ l ≤ r ∧ r ≤ r'))))) { s with heap := h', toks := tk }) :
    codeAny (model prg w) A (.call (.ref 242) ⟨[.ref x, .ref y], []⟩) R s := by
  have hx0 := hx
  obtain ⟨dx, kx, ux, hx1, hx2⟩ := hx0
  have hy0 := hy
  obtain ⟨dy, ky, uy, hy1, hy2⟩ := hy0
  obtain ⟨hd0, dp0, fs0, gs0, un0⟩ := A
  obtain rfl : hd0 = none := hh
  dsimp only at hroom hu
  walk_at "my fill"
  refine' enter_ (binds := [(Str.ofString "self", .ref x), (Str.ofString "other", .ref y)]) X T ?k8 ?k6 ?k7 ?k9 ?kB ?_ ?c2 ?c3 ?c4 ?c5
  walk_at "my entered"
  k_steps
  all_goals (refine ret_bool h (Fr.keep (by assumption)) ?_; walk_at "my bool")
local macro_rules | `(tactic| walk_at "call ref") => `(tactic| (k_here; (with_reducible show wpAny _ _ (call (Value.ref 242) [Value.ref _, Value.ref _] []) _ _ _); (refine wpAny_call ?_); k_dflt (refine' subset_c ?X ?T ?hh ?hr ?hu ?hx ?hy ?_; (case X => walk_at "my xin"); (case T => walk_at "my top"); (case hh => exact rfl); (case hr => k_room); (case hu => k_units); (case hx => walk_at "my rg"); (case hy => walk_at "my rg"); k_whole; intro h' tk' hE'; walk_at "my after")))
theorem superset_c {w : World} {A : Around} {s : Shared} {p : Program} {loose : List Str} {mg mb : Str → Option Value} {R : Result → Shared → Prop} {x y : Addr} {l t r f l' t' r' f' : Int}
    (X : (hd.heap_39 w.params).In s.heap) (T : TopRead p loose mg mb s.heap) (hh : A.handled = none) (hroom : A.depth < 880) (hu : A.units < 8800) (hx : RangeAt w.params s.heap x l t r f) (hy : RangeAt w.params s.heap y l' t' r' f')
    (h : ∀ h' tk, Ext s.heap h' → R (.ok (.ret (.bool (decide (t ≤ t' ∧ t' ≤ f' ∧ f' ≤ f ∧ l ≤ l' ∧ l' ≤ r' ∧ r' ≤ r))))) { s with heap := h', toks := tk }) :
    codeAny (model prg w) A (.call (.ref 263) ⟨[.ref x, .ref y], []⟩) R s := by
  have hx0 := hx
  obtain ⟨dx, kx, ux, hx1, hx2⟩ := hx0
  have hy0 := hy
  obtain ⟨dy, ky, uy, hy1, hy2⟩ := hy0
  obtain ⟨hd0, dp0, fs0, gs0, un0⟩ := A
  obtain rfl : hd0 = none := hh
  dsimp only at hroom hu
  walk_at "my fill"
  refine' enter_ (binds := [(Str.ofString "self", .ref x), (Str.ofString "other", .ref y)]) X T ?k8 ?k6 ?k7 ?k9 ?kB ?_ ?c2 ?c3 ?c4 ?c5
  walk_at "my entered"
  k_steps
  all_goals (refine ret_bool h (Fr.keep (by assumption)) ?_; walk_at "my bool")
local macro_rules | `(tactic| walk_at "call ref") => `(tactic| (k_here; (with_reducible show wpAny _ _ (call (Value.ref 263) [Value.ref _, Value.ref _] []) _ _ _); (refine wpAny_call ?_); k_dflt (refine' superset_c ?X ?T ?hh ?hr ?hu ?hx ?hy ?_; (case X => walk_at "my xin"); (case T => walk_at "my top"); (case hh => exact rfl); (case hr => k_room); (case hu => k_units); (case hx => walk_at "my rg"); (case hy => walk_at "my rg"); k_whole; intro h' tk' hE'; walk_at "my after")))
theorem lt_c {w : World} {A : Around} {s : Shared} {p : Program} {loose : List Str} {mg mb : Str → Option Value} {R : Result → Shared → Prop} {x y : Addr} {l t r f l' t' r' f' : Int}
    (X : (hd.heap_39 w.params).In s.heap) (T : TopRead p loose mg mb s.heap) (hh : A.handled = none) (hroom : A.depth < 870) (hu : A.units < 8700) (hx : RangeAt w.params s.heap x l t r f) (hy : RangeAt w.params s.heap y l' t' r' f')
    (h : ∀ h' tk, Ext s.heap h' → R (.ok (.ret (.bool (decide ((t' ≤ t ∧ t ≤ f ∧ f ≤ f' ∧ l' ≤ l ∧ l ≤ r ∧ r ≤ r') ∧ ¬ (t' = t ∧ f = f' ∧ l' = l ∧ r = r')))))) { s with heap := h', toks := tk }) :
    codeAny (model prg w) A (.call (.ref 249) ⟨[.ref x, .ref y], []⟩) R s := by
  have hx0 := hx
  obtain ⟨dx, kx, ux, hx1, hx2⟩ := hx0
  have hy0 := hy
  obtain ⟨dy, ky, uy, hy1, hy2⟩ := hy0
  obtain ⟨hd0, dp0, fs0, gs0, un0⟩ := A
  obtain rfl : hd0 = none := hh
  dsimp only at hroom hu
  walk_at "my fill"
  refine' enter_ (binds := [(Str.ofString "self", .ref x), (Str.ofString "other", .ref y)]) X T ?k8 ?k6 ?k7 ?k9 ?kB ?_ ?c2 ?c3 ?c4 ?c5
  walk_at "my entered"
  k_steps
  all_goals (refine ret_bool h (Fr.keep (by assumption)) ?_; walk_at "my bool")
local macro_rules | `(tactic| walk_at "call ref") => `(tactic| (k_here; (with_reducible show wpAny _ _ (call (Value.ref 249) [Value.ref _, Value.ref _] []) _ _ _); (refine wpAny_call ?_); k_dflt (refine' lt_c ?X ?T ?hh ?hr ?hu ?hx ?hy ?_; (case X => walk_at "my xin"); (case T => walk_at "my top"); (case hh => exact rfl); (case hr => k_room); (case hu => k_units); (case hx => walk_at "my rg"); (case hy => walk_at "my rg"); k_whole; intro h' tk' hE'; walk_at "my after")))
theorem gt_c {w : World} {A : Around} {s : Shared} {p : Program} {loose : List Str} {mg mb : Str → Option Value} {R : Result → Shared → Prop} {x y : Addr} {l t r f l' t' r' f' : Int}
    (X : (hd.heap_39 w.params).In s.heap) (T : TopRead p loose mg mb s.heap) (hh : A.handled = none) (hroom : A.depth < 870) (hu : A.units < 8700) (hx : RangeAt w.params s.heap x l t r f) (hy : RangeAt w.params s.heap y l' t' r' f')
    (h : ∀ h' tk, Ext s.heap h' → R (.ok (.ret (.bool (decide ((t ≤ t' ∧ t' ≤ f' ∧ f' ≤ f ∧ l ≤ l' ∧ l' ≤ r' ∧ r' ≤ r) ∧ ¬ (t' = t ∧ f = f' ∧ l' = l ∧ r = r')))))) { s with heap := h', toks := tk }) :
    codeAny (model prg w) A (.call (.ref 277) ⟨[.ref x, .ref y], []⟩) R s := by
  have hx0 := hx
  obtain ⟨dx, kx, ux, hx1, hx2⟩ := hx0
  have hy0 := hy
  obtain ⟨dy, ky, uy, hy1, hy2⟩ := hy0
  obtain ⟨hd0, dp0, fs0, gs0, un0⟩ := A
  obtain rfl : hd0 = none := hh
  dsimp only at hroom hu
  walk_at "my fill"
  refine' enter_ (binds := [(Str.ofString "self", .ref x), (Str.ofString "other", .ref y)]) X T ?k8 ?k6 ?k7 ?k9 ?kB ?_ ?c2 ?c3 ?c4 ?c5
  walk_at "my entered"
  k_steps
  all_goals (refine ret_bool h (Fr.keep (by assumption)) ?_; walk_at "my bool")
local macro_rules | `(tactic| walk_at "call ref") => `(tactic| (k_here; (with_reducible show wpAny _ _ (call (Value.ref 277) [Value.ref _, Value.ref _] []) _ _ _); (refine wpAny_call ?_); k_dflt (refine' gt_c ?X ?T ?hh ?hr ?hu ?hx ?hy ?_; (case X => walk_at "my xin"); (case T => walk_at "my top"); (case hh => exact rfl); (case hr => k_room); (case hu => k_units); (case hx => walk_at "my rg"); (case hy => walk_at "my rg"); k_whole; intro h' tk' hE'; walk_at "my after")))

end
-- part P2
section

local macro_rules | `(tactic| walk_at "call ref") => `(tactic| (k_here; (with_reducible show wpAny _ _ (call (Value.ref 199) [Value.ref _, Value.ref _] []) _ _ _); (refine wpAny_call ?_); k_dflt (refine' title_c ?X ?T ?hh ?hr ?hu ?hx ?hy ?_; (case X => walk_at "my xin"); (case T => walk_at "my top"); (case hh => exact rfl); (case hr => k_room); (case hu => k_units); (case hx => walk_at "my rg"); (case hy => walk_at "my rg"); k_whole; intro h' tk' hE'; walk_at "my after")))
local macro_rules | `(tactic| walk_at "call ref") => `(tactic| (k_here; (with_reducible show wpAny _ _ (call (Value.ref 256) [Value.ref _, Value.ref _] []) _ _ _); (refine wpAny_call ?_); k_dflt (refine' sup_c ?X ?T ?hh ?hr ?hu ?hx ?hy ?_; (case X => walk_at "my xin"); (case T => walk_at "my top"); (case hh => exact rfl); (case hr => k_room); (case hu => k_units); (case hx => walk_at "my rg"); (case hy => walk_at "my rg"); k_whole; intro h' tk' hE'; walk_at "my after")))
local macro_rules | `(tactic| walk_at "call ref") => `(tactic| (k_here; (with_reducible show wpAny _ _ (call (Value.ref 228) [Value.ref _, Value.ref _] []) _ _ _); (refine wpAny_call ?_); k_dflt (refine' ne_c ?X ?T ?hh ?hr ?hu ?hx ?hy ?_; (case X => walk_at "my xin"); (case T => walk_at "my top"); (case hh => exact rfl); (case hr => k_room); (case hu => k_units); (case hx => walk_at "my rg"); (case hy => walk_at "my rg"); k_whole; intro h' tk' hE'; walk_at "my after")))
local macro_rules | `(tactic| walk_at "call ref") => `(tactic| (k_here; (with_reducible show wpAny _ _ (call (Value.ref 235) [Value.ref _, Value.ref _] []) _ _ _); (refine wpAny_call ?_); k_dflt (refine' eq_c ?X ?T ?hh ?hr ?hu ?hx ?hy ?_; (case X => walk_at "my xin"); (case T => walk_at "my top"); (case hh => exact rfl); (case hr => k_room); (case hu => k_units); (case hx => walk_at "my rg"); (case hy => walk_at "my rg"); k_whole; intro h' tk' hE'; walk_at "my after")))
local macro_rules | `(tactic| walk_at "call ref") => `(tactic| (k_here; (with_reducible show wpAny _ _ (call (Value.ref 242) [Value.ref _, Value.ref _] []) _ _ _); (refine wpAny_call ?_); k_dflt (refine' subset_c ?X ?T ?hh ?hr ?hu ?hx ?hy ?_; (case X => walk_at "my xin"); (case T => walk_at "my top"); (case hh => exact rfl); (case hr => k_room); (case hu => k_units); (case hx => walk_at "my rg"); (case hy => walk_at "my rg"); k_whole; intro h' tk' hE'; walk_at "my after")))
local macro_rules | `(tactic| walk_at "call ref") => `(tactic| (k_here; (with_reducible show wpAny _ _ (call (Value.ref 263) [Value.ref _, Value.ref _] []) _ _ _); (refine wpAny_call ?_); k_dflt (refine' superset_c ?X ?T ?hh ?hr ?hu ?hx ?hy ?_; (case X => walk_at "my xin"); (case T => walk_at "my top"); (case hh => exact rfl); (case hr => k_room); (case hu => k_units); (case hx => walk_at "my rg"); (case hy => walk_at "my rg"); k_whole; intro h' tk' hE'; walk_at "my after")))
local macro_rules | `(tactic| walk_at "call ref") => `(tactic| (k_here; (with_reducible show wpAny _ _ (call (Value.ref 249) [Value.ref _, Value.ref _] []) _ _ _); (refine wpAny_call ?_); k_dflt (refine' lt_c ?X ?T ?hh ?hr ?hu ?hx ?hy ?_; (case X => walk_at "my xin"); (case T => walk_at "my top"); (case hh => exact rfl); (case hr => k_room); (case hu => k_units); (case hx => walk_at "my rg"); (case hy => walk_at "my rg"); k_whole; intro h' tk' hE'; walk_at "my after")))
local macro_rules | `(tactic| walk_at "call ref") => `(tactic| (k_here; (with_reducible show wpAny _ _ (call (Value.ref 277) [Value.ref _, Value.ref _] []) _ _ _); (refine wpAny_call ?_); k_dflt (refine' gt_c ?X ?T ?hh ?hr ?hu ?hx ?hy ?_; (case X => walk_at "my xin"); (case T => walk_at "my top"); (case hh => exact rfl); (case hr => k_room); (case hu => k_units); (case hx => walk_at "my rg"); (case hy => walk_at "my rg"); k_whole; intro h' tk' hE'; walk_at "my after")))
theorem bounds_c {w : World} {A : Around} {s : Shared} {p : Program} {loose : List Str} {mg mb : Str → Option Value} {R : Result → Shared → Prop} {x : Addr} {l t r f : Int}
    (X : (hd.heap_39 w.params).In s.heap) (T : TopRead p loose mg mb s.heap) (hh : A.handled = none) (hroom : A.depth < 900) (hu : A.units < 9000) (hx : RangeAt w.params s.heap x l t r f)
    (h : ∀ a u h' tk, Ext s.heap h' → Made s.heap h' [(a, blockObj u l t r f)] → R (.ok (.ret (.ref a))) { s with heap := h', toks := tk }) :
    codeAny (model prg w) A (.call (.ref 163) ⟨[.ref x], []⟩) R s := by
  have hx0 := hx
  obtain ⟨dx, kx, ux, hx1, hx2⟩ := hx0
  obtain ⟨hd0, dp0, fs0, gs0, un0⟩ := A
  obtain rfl : hd0 = none := hh
  dsimp only at hroom hu
  walk_at "my fill"
  refine' enter_ (binds := [(Str.ofString "self", .ref x)]) X T ?k8 ?k6 ?k7 ?k9 ?kB ?_ ?c2 ?c3 ?c4 ?c5
  walk_at "my entered"
  k_steps
  all_goals exact h _ ux _ _ (Fr.keep (by assumption)) (made_of_news (by assumption) (fun q hq => hq))
local macro_rules | `(tactic| walk_at "getAttr ref") => `(tactic| (k_here; (with_reducible show wpAny _ _ (getAttr (Value.ref _) (PySem.Str.ofString "bounds") _) _ _ _); k_dflt (refine' get_prop ?k1 ?k2 ?k3 ?k4 ?k5 ?k6 ?k7 ?k8 ?k9 ?_; (case k1 => k_asm); (case k2 => k_asm); (case k3 => k_inst); (case k4 => k_is); (case k5 => k_is); (case k6 => k_is); (case k7 => k_is); (case k8 => k_is); (case k9 => k_is); k_whole); k_dflt (refine' bounds_c ?X ?T ?hh ?hr ?hu ?hx ?_; (case X => walk_at "my xin"); (case T => walk_at "my top"); (case hh => exact rfl); (case hr => k_room); (case hu => k_units); (case hx => walk_at "my rg"); k_whole; intro a' u' h' tk' hE' hM'; walk_at "my after made"); (try dsimp only)))
theorem disjoint_c {w : World} {A : Around} {s : Shared} {p : Program} {loose : List Str} {mg mb : Str → Option Value} {R : Result → Shared → Prop} {x y : Addr} {l t r f l' t' r' f' : Int}
    (X : (hd.heap_39 w.params).In s.heap) (T : TopRead p loose mg mb s.heap) (hh : A.handled = none) (hroom : A.depth < 880) (hu : A.units < 8800) (hx : RangeAt w.params s.heap x l t r f) (hy : RangeAt w.params s.heap y l' t' r' f') (hl : l ≤ r) (ht : t ≤ f) (hl' : l' ≤ r') (ht' : t' ≤ f')
    (h : ∀ h' tk, Ext s.heap h' → R (.ok (.ret (.bool (decide (¬ (l ≤ r' ∧ l' ≤ r ∧ t ≤ f' ∧ t' ≤ f)))))) { s with heap := h', toks := tk }) :
    codeAny (model prg w) A (.call (.ref 284) ⟨[.ref x, .ref y], []⟩) R s := by
  have hx0 := hx
  obtain ⟨dx, kx, ux, hx1, hx2⟩ := hx0
  have hy0 := hy
  obtain ⟨dy, ky, uy, hy1, hy2⟩ := hy0
  obtain ⟨hd0, dp0, fs0, gs0, un0⟩ := A
  obtain rfl : hd0 = none := hh
  dsimp only at hroom hu
  walk_at "my fill"
  refine' enter_ (binds := [(Str.ofString "self", .ref x), (Str.ofString "other", .ref y)]) X T ?k8 ?k6 ?k7 ?k9 ?kB ?_ ?c2 ?c3 ?c4 ?c5
  walk_at "my entered"
  k_steps
  all_goals (refine ret_bool h (Fr.keep (by assumption)) ?_; walk_at "my bool")
local macro_rules | `(tactic| walk_at "call ref") => `(tactic| (k_here; (with_reducible show wpAny _ _ (call (Value.ref 284) [Value.ref _, Value.ref _] []) _ _ _); (refine wpAny_call ?_); k_dflt (refine' disjoint_c ?X ?T ?hh ?hr ?hu ?hx ?hy ?q1 ?q2 ?q3 ?q4 ?_; (case X => walk_at "my xin"); (case T => walk_at "my top"); (case hh => exact rfl); (case hr => k_room); (case hu => k_units); (case hx => walk_at "my rg"); (case hy => walk_at "my rg"); (case q1 => omega); (case q2 => omega); (case q3 => omega); (case q4 => omega); k_whole; intro h' tk' hE'; walk_at "my after")))

end
-- part P3
section

theorem new_kw_c {w : World} {A : Around} {s : Shared} {p : Program} {loose : List Str} {mg mb : Str → Option Value} {R : Result → Shared → Prop} {l t r f : Int} {u0 u1 u2 u3 : Tok}
    (X : (hd.heap_39 w.params).In s.heap) (T : TopRead p loose mg mb s.heap) (hh : A.handled = none) (hroom : A.depth < 880) (hu : A.units < 8800) (hl : l ≤ r) (ht : t ≤ f)
    (h : ∀ x dx k u h' tk, Ext s.heap h' → Made s.heap h' [(x, instObj 349 dx), (dx, rangeDict w.params k u l t r f)] → R (.ok (.ret (.ref x))) { s with heap := h', toks := tk }) :
    codeAny (model prg w) A (.call (.ref 349) ⟨[], [(Str.ofString "min_col", .int l u0), (Str.ofString "min_row", .int t u1), (Str.ofString "max_col", .int r u2), (Str.ofString "max_row", .int f u3)]⟩) R s := by
  obtain ⟨hd0, dp0, fs0, gs0, un0⟩ := A
  obtain rfl : hd0 = none := hh
  obtain ⟨hp, g, d, tk0, os⟩ := s
  dsimp only at hroom hu X T
  walk_at "my fill"
  refine make_core (init := .ref 156) (makes_of X ?m) (looks_findIn X ?i) (fun self => bind_fn X self ?f) (.inl rfl) ?_
  case m => k_dflt k_is
  case i => k_dflt k_is
  case f => k_dflt k_is
  refine' enter_sub (g := hp) (objs := [(hp.objs.size + 1, instObj 349 hp.objs.size), (hp.objs.size, emptyDict)]) (binds := [(Str.ofString "self", .ref (hp.objs.size + 1)), (Str.ofString "range_string", .none), (Str.ofString "min_col", .int l u0), (Str.ofString "min_row", .int t u1), (Str.ofString "max_col", .int r u2), (Str.ofString "max_row", .int f u3), (Str.ofString "title", .none)])
    (fun b o e => Heap.get?_push_of_some _ (Heap.get?_push_of_some _ e)) (made_pushes hp _ _ rfl rfl) (by simp only [Heap.size_push]; omega) X T ?k8 ?k6 ?k7 ?k9 ?kB ?_ ?c2 ?c3 ?c4 ?c5
  case k8 => simp only [depth_under_kw]; omega
  case k6 => k_dflt k_is
  case k7 => k_dflt k_is
  case k9 => exact binds_K (X.keeps fun b o e => Heap.get?_push_of_some _ (Heap.get?_push_of_some _ e)) rfl (by k_dflt k_is) rfl rfl (by kernel_rfl)
  case c5 => decide
  case kB => exact locs rfl
  case c2 => exact rfl
  case c3 => exact rfl
  case c4 => exact rfl
  have hlt := ltN (Nat.lt_succ_self hp.objs.size)
  rw [Nat.succ_eq_add_one] at hlt
  generalize hp.objs.size + 1 = x0 at *
  generalize hp.objs.size = d0 at *
  intro L' h' F' N'
  try dsimp only
  k_steps
  all_goals (refine ⟨rfl, ?_⟩; exact h _ _ (tk5 _ _ _ _ _) (tk5 _ _ _ _ 0) _ _ (Fr.keep (by assumption)) (made_of_news (by assumption) (fun q hq => hq)))
theorem new_kw5_c {w : World} {A : Around} {s : Shared} {p : Program} {loose : List Str} {mg mb : Str → Option Value} {R : Result → Shared → Prop} {l t r f : Int} {u0 u1 u2 u3 : Tok}
    (X : (hd.heap_39 w.params).In s.heap) (T : TopRead p loose mg mb s.heap) (hh : A.handled = none) (hroom : A.depth < 880) (hu : A.units < 8800) (hl : l ≤ r) (ht : t ≤ f)
    (h : ∀ x dx k u h' tk, Ext s.heap h' → Made s.heap h' [(x, instObj 349 dx), (dx, rangeDict w.params k u l t r f)] → R (.ok (.ret (.ref x))) { s with heap := h', toks := tk }) :
    codeAny (model prg w) A (.call (.ref 349) ⟨[], [(Str.ofString "min_col", .int l u0), (Str.ofString "min_row", .int t u1), (Str.ofString "max_col", .int r u2), (Str.ofString "max_row", .int f u3), (Str.ofString "title", .none)]⟩) R s := by
  obtain ⟨hd0, dp0, fs0, gs0, un0⟩ := A
  obtain rfl : hd0 = none := hh
  obtain ⟨hp, g, d, tk0, os⟩ := s
  dsimp only at hroom hu X T
  walk_at "my fill"
  refine make_core (init := .ref 156) (makes_of X ?m) (looks_findIn X ?i) (fun self => bind_fn X self ?f) (.inl rfl) ?_
  case m => k_dflt k_is
  case i => k_dflt k_is
  case f => k_dflt k_is
  refine' enter_sub (g := hp) (objs := [(hp.objs.size + 1, instObj 349 hp.objs.size), (hp.objs.size, emptyDict)]) (binds := [(Str.ofString "self", .ref (hp.objs.size + 1)), (Str.ofString "range_string", .none), (Str.ofString "min_col", .int l u0), (Str.ofString "min_row", .int t u1), (Str.ofString "max_col", .int r u2), (Str.ofString "max_row", .int f u3), (Str.ofString "title", .none)])
    (fun b o e => Heap.get?_push_of_some _ (Heap.get?_push_of_some _ e)) (made_pushes hp _ _ rfl rfl) (by simp only [Heap.size_push]; omega) X T ?k8 ?k6 ?k7 ?k9 ?kB ?_ ?c2 ?c3 ?c4 ?c5
  case k8 => simp only [depth_under_kw]; omega
  case k6 => k_dflt k_is
  case k7 => k_dflt k_is
  case k9 => exact binds_K (X.keeps fun b o e => Heap.get?_push_of_some _ (Heap.get?_push_of_some _ e)) rfl (by k_dflt k_is) rfl rfl (by kernel_rfl)
  case c5 => decide
  case kB => exact locs rfl
  case c2 => exact rfl
  case c3 => exact rfl
  case c4 => exact rfl
  have hlt := ltN (Nat.lt_succ_self hp.objs.size)
  rw [Nat.succ_eq_add_one] at hlt
  generalize hp.objs.size + 1 = x0 at *
  generalize hp.objs.size = d0 at *
  intro L' h' F' N'
  try dsimp only
  k_steps
  all_goals (refine ⟨rfl, ?_⟩; exact h _ _ (tk5 _ _ _ _ _) (tk5 _ _ _ _ 0) _ _ (Fr.keep (by assumption)) (made_of_news (by assumption) (fun q hq => hq)))

end
-- part P4
section

local macro_rules | `(tactic| walk_at "call ref") => `(tactic| (k_here; (with_reducible show wpAny _ _ (call (Value.ref 199) [Value.ref _, Value.ref _] []) _ _ _); (refine wpAny_call ?_); k_dflt (refine' title_c ?X ?T ?hh ?hr ?hu ?hx ?hy ?_; (case X => walk_at "my xin"); (case T => walk_at "my top"); (case hh => exact rfl); (case hr => k_room); (case hu => k_units); (case hx => walk_at "my rg"); (case hy => walk_at "my rg"); k_whole; intro h' tk' hE'; walk_at "my after")))
local macro_rules | `(tactic| walk_at "call ref") => `(tactic| (k_here; (with_reducible show wpAny _ _ (call (Value.ref 256) [Value.ref _, Value.ref _] []) _ _ _); (refine wpAny_call ?_); k_dflt (refine' sup_c ?X ?T ?hh ?hr ?hu ?hx ?hy ?_; (case X => walk_at "my xin"); (case T => walk_at "my top"); (case hh => exact rfl); (case hr => k_room); (case hu => k_units); (case hx => walk_at "my rg"); (case hy => walk_at "my rg"); k_whole; intro h' tk' hE'; walk_at "my after")))
local macro_rules | `(tactic| walk_at "call ref") => `(tactic| (k_here; (with_reducible show wpAny _ _ (call (Value.ref 228) [Value.ref _, Value.ref _] []) _ _ _); (refine wpAny_call ?_); k_dflt (refine' ne_c ?X ?T ?hh ?hr ?hu ?hx ?hy ?_; (case X => walk_at "my xin"); (case T => walk_at "my top"); (case hh => exact rfl); (case hr => k_room); (case hu => k_units); (case hx => walk_at "my rg"); (case hy => walk_at "my rg"); k_whole; intro h' tk' hE'; walk_at "my after")))
local macro_rules | `(tactic| walk_at "call ref") => `(tactic| (k_here; (with_reducible show wpAny _ _ (call (Value.ref 235) [Value.ref _, Value.ref _] []) _ _ _); (refine wpAny_call ?_); k_dflt (refine' eq_c ?X ?T ?hh ?hr ?hu ?hx ?hy ?_; (case X => walk_at "my xin"); (case T => walk_at "my top"); (case hh => exact rfl); (case hr => k_room); (case hu => k_units); (case hx => walk_at "my rg"); (case hy => walk_at "my rg"); k_whole; intro h' tk' hE'; walk_at "my after")))
local macro_rules | `(tactic| walk_at "call ref") => `(tactic| (k_here; (with_reducible show wpAny _ _ (call (Value.ref 242) [Value.ref _, Value.ref _] []) _ _ _); (refine wpAny_call ?_); k_dflt (refine' subset_c ?X ?T ?hh ?hr ?hu ?hx ?hy ?_; (case X => walk_at "my xin"); (case T => walk_at "my top"); (case hh => exact rfl); (case hr => k_room); (case hu => k_units); (case hx => walk_at "my rg"); (case hy => walk_at "my rg"); k_whole; intro h' tk' hE'; walk_at "my after")))
local macro_rules | `(tactic| walk_at "call ref") => `(tactic| (k_here; (with_reducible show wpAny _ _ (call (Value.ref 263) [Value.ref _, Value.ref _] []) _ _ _); (refine wpAny_call ?_); k_dflt (refine' superset_c ?X ?T ?hh ?hr ?hu ?hx ?hy ?_; (case X => walk_at "my xin"); (case T => walk_at "my top"); (case hh => exact rfl); (case hr => k_room); (case hu => k_units); (case hx => walk_at "my rg"); (case hy => walk_at "my rg"); k_whole; intro h' tk' hE'; walk_at "my after")))
local macro_rules | `(tactic| walk_at "call ref") => `(tactic| (k_here; (with_reducible show wpAny _ _ (call (Value.ref 249) [Value.ref _, Value.ref _] []) _ _ _); (refine wpAny_call ?_); k_dflt (refine' lt_c ?X ?T ?hh ?hr ?hu ?hx ?hy ?_; (case X => walk_at "my xin"); (case T => walk_at "my top"); (case hh => exact rfl); (case hr => k_room); (case hu => k_units); (case hx => walk_at "my rg"); (case hy => walk_at "my rg"); k_whole; intro h' tk' hE'; walk_at "my after")))
local macro_rules | `(tactic| walk_at "call ref") => `(tactic| (k_here; (with_reducible show wpAny _ _ (call (Value.ref 277) [Value.ref _, Value.ref _] []) _ _ _); (refine wpAny_call ?_); k_dflt (refine' gt_c ?X ?T ?hh ?hr ?hu ?hx ?hy ?_; (case X => walk_at "my xin"); (case T => walk_at "my top"); (case hh => exact rfl); (case hr => k_room); (case hu => k_units); (case hx => walk_at "my rg"); (case hy => walk_at "my rg"); k_whole; intro h' tk' hE'; walk_at "my after")))
local macro_rules | `(tactic| walk_at "call ref") => `(tactic| (k_here; (with_reducible show wpAny _ _ (call (Value.ref 199) [Value.ref _, Value.ref _] []) _ _ _); (refine wpAny_call ?_); k_dflt (refine' title_c ?X ?T ?hh ?hr ?hu ?hx ?hy ?_; (case X => walk_at "my xin"); (case T => walk_at "my top"); (case hh => exact rfl); (case hr => k_room); (case hu => k_units); (case hx => walk_at "my rg"); (case hy => walk_at "my rg"); k_whole; intro h' tk' hE'; walk_at "my after")))
local macro_rules | `(tactic| walk_at "call ref") => `(tactic| (k_here; (with_reducible show wpAny _ _ (call (Value.ref 256) [Value.ref _, Value.ref _] []) _ _ _); (refine wpAny_call ?_); k_dflt (refine' sup_c ?X ?T ?hh ?hr ?hu ?hx ?hy ?_; (case X => walk_at "my xin"); (case T => walk_at "my top"); (case hh => exact rfl); (case hr => k_room); (case hu => k_units); (case hx => walk_at "my rg"); (case hy => walk_at "my rg"); k_whole; intro h' tk' hE'; walk_at "my after")))
local macro_rules | `(tactic| walk_at "call ref") => `(tactic| (k_here; (with_reducible show wpAny _ _ (call (Value.ref 228) [Value.ref _, Value.ref _] []) _ _ _); (refine wpAny_call ?_); k_dflt (refine' ne_c ?X ?T ?hh ?hr ?hu ?hx ?hy ?_; (case X => walk_at "my xin"); (case T => walk_at "my top"); (case hh => exact rfl); (case hr => k_room); (case hu => k_units); (case hx => walk_at "my rg"); (case hy => walk_at "my rg"); k_whole; intro h' tk' hE'; walk_at "my after")))
local macro_rules | `(tactic| walk_at "call ref") => `(tactic| (k_here; (with_reducible show wpAny _ _ (call (Value.ref 235) [Value.ref _, Value.ref _] []) _ _ _); (refine wpAny_call ?_); k_dflt (refine' eq_c ?X ?T ?hh ?hr ?hu ?hx ?hy ?_; (case X => walk_at "my xin"); (case T => walk_at "my top"); (case hh => exact rfl); (case hr => k_room); (case hu => k_units); (case hx => walk_at "my rg"); (case hy => walk_at "my rg"); k_whole; intro h' tk' hE'; walk_at "my after")))
local macro_rules | `(tactic| walk_at "call ref") => `(tactic| (k_here; (with_reducible show wpAny _ _ (call (Value.ref 242) [Value.ref _, Value.ref _] []) _ _ _); (refine wpAny_call ?_); k_dflt (refine' subset_c ?X ?T ?hh ?hr ?hu ?hx ?hy ?_; (case X => walk_at "my xin"); (case T => walk_at "my top"); (case hh => exact rfl); (case hr => k_room); (case hu => k_units); (case hx => walk_at "my rg"); (case hy => walk_at "my rg"); k_whole; intro h' tk' hE'; walk_at "my after")))
local macro_rules | `(tactic| walk_at "call ref") => `(tactic| (k_here; (with_reducible show wpAny _ _ (call (Value.ref 263) [Value.ref _, Value.ref _] []) _ _ _); (refine wpAny_call ?_); k_dflt (refine' superset_c ?X ?T ?hh ?hr ?hu ?hx ?hy ?_; (case X => walk_at "my xin"); (case T => walk_at "my top"); (case hh => exact rfl); (case hr => k_room); (case hu => k_units); (case hx => walk_at "my rg"); (case hy => walk_at "my rg"); k_whole; intro h' tk' hE'; walk_at "my after")))
local macro_rules | `(tactic| walk_at "call ref") => `(tactic| (k_here; (with_reducible show wpAny _ _ (call (Value.ref 249) [Value.ref _, Value.ref _] []) _ _ _); (refine wpAny_call ?_); k_dflt (refine' lt_c ?X ?T ?hh ?hr ?hu ?hx ?hy ?_; (case X => walk_at "my xin"); (case T => walk_at "my top"); (case hh => exact rfl); (case hr => k_room); (case hu => k_units); (case hx => walk_at "my rg"); (case hy => walk_at "my rg"); k_whole; intro h' tk' hE'; walk_at "my after")))
local macro_rules | `(tactic| walk_at "call ref") => `(tactic| (k_here; (with_reducible show wpAny _ _ (call (Value.ref 277) [Value.ref _, Value.ref _] []) _ _ _); (refine wpAny_call ?_); k_dflt (refine' gt_c ?X ?T ?hh ?hr ?hu ?hx ?hy ?_; (case X => walk_at "my xin"); (case T => walk_at "my top"); (case hh => exact rfl); (case hr => k_room); (case hu => k_units); (case hx => walk_at "my rg"); (case hy => walk_at "my rg"); k_whole; intro h' tk' hE'; walk_at "my after")))
local macro_rules | `(tactic| walk_at "getAttr ref") => `(tactic| (k_here; (with_reducible show wpAny _ _ (getAttr (Value.ref _) (PySem.Str.ofString "bounds") _) _ _ _); k_dflt (refine' get_prop ?k1 ?k2 ?k3 ?k4 ?k5 ?k6 ?k7 ?k8 ?k9 ?_; (case k1 => k_asm); (case k2 => k_asm); (case k3 => k_inst); (case k4 => k_is); (case k5 => k_is); (case k6 => k_is); (case k7 => k_is); (case k8 => k_is); (case k9 => k_is); k_whole); k_dflt (refine' bounds_c ?X ?T ?hh ?hr ?hu ?hx ?_; (case X => walk_at "my xin"); (case T => walk_at "my top"); (case hh => exact rfl); (case hr => k_room); (case hu => k_units); (case hx => walk_at "my rg"); k_whole; intro a' u' h' tk' hE' hM'; walk_at "my after made"); (try dsimp only)))
local macro_rules | `(tactic| walk_at "call ref") => `(tactic| (k_here; (with_reducible show wpAny _ _ (call (Value.ref 284) [Value.ref _, Value.ref _] []) _ _ _); (refine wpAny_call ?_); k_dflt (refine' disjoint_c ?X ?T ?hh ?hr ?hu ?hx ?hy ?q1 ?q2 ?q3 ?q4 ?_; (case X => walk_at "my xin"); (case T => walk_at "my top"); (case hh => exact rfl); (case hr => k_room); (case hu => k_units); (case hx => walk_at "my rg"); (case hy => walk_at "my rg"); (case q1 => omega); (case q2 => omega); (case q3 => omega); (case q4 => omega); k_whole; intro h' tk' hE'; walk_at "my after")))
local macro_rules | `(tactic| walk_at "call ref") => `(tactic| (k_here; (with_reducible show wpAny _ _ (call (Value.ref 349) [] _) _ _ _); (refine wpAny_call ?_); k_dflt (refine' new_kw_c ?X ?T ?hh ?hr ?hu ?q1 ?q2 ?_; (case X => walk_at "my xin"); (case T => walk_at "my top"); (case hh => exact rfl); (case hr => k_room); (case hu => k_units); (case q1 => omega); (case q2 => omega); k_whole; intro x' dx' k' u' h' tk' hE' hM'; walk_at "my after made")))
local macro_rules | `(tactic| walk_at "call ref") => `(tactic| (k_here; (with_reducible show wpAny _ _ (call (Value.ref 349) [] _) _ _ _); (refine wpAny_call ?_); k_dflt (refine' new_kw5_c ?X ?T ?hh ?hr ?hu ?q1 ?q2 ?_; (case X => walk_at "my xin"); (case T => walk_at "my top"); (case hh => exact rfl); (case hr => k_room); (case hu => k_units); (case q1 => omega); (case q2 => omega); k_whole; intro x' dx' k' u' h' tk' hE' hM'; walk_at "my after made")))
theorem union_c {w : World} {A : Around} {s : Shared} {p : Program} {loose : List Str} {mg mb : Str → Option Value} {R : Result → Shared → Prop} {x y : Addr} {l t r f l' t' r' f' : Int}
    (X : (hd.heap_39 w.params).In s.heap) (T : TopRead p loose mg mb s.heap) (hh : A.handled = none) (hroom : A.depth < 860) (hu : A.units < 8600) (hx : RangeAt w.params s.heap x l t r f) (hy : RangeAt w.params s.heap y l' t' r' f') (hl : l ≤ r) (ht : t ≤ f) (hl' : l' ≤ r') (ht' : t' ≤ f')
    (h : ∀ x dx k u h' tk, Ext s.heap h' → Made s.heap h' [(x, instObj 349 dx), (dx, rangeDict w.params k u (min l l') (min t t') (max r r') (max f f'))] → R (.ok (.ret (.ref x))) { s with heap := h', toks := tk }) :
    codeAny (model prg w) A (.call (.ref 298) ⟨[.ref x, .ref y], []⟩) R s := by
  have hx0 := hx
  obtain ⟨dx, kx, ux, hx1, hx2⟩ := hx0
  have hy0 := hy
  obtain ⟨dy, ky, uy, hy1, hy2⟩ := hy0
  obtain ⟨hd0, dp0, fs0, gs0, un0⟩ := A
  obtain rfl : hd0 = none := hh
  dsimp only at hroom hu
  walk_at "my fill"
  refine' enter_ (binds := [(Str.ofString "self", .ref x), (Str.ofString "other", .ref y)]) X T ?k8 ?k6 ?k7 ?k9 ?kB ?_ ?c2 ?c3 ?c4 ?c5
  walk_at "my entered"
  k_steps
  all_goals (simp only [mn_if, mx_if] at h; exact h _ _ _ _ _ _ (Fr.keep (by assumption)) (made_of_news (by assumption) (fun q hq => hq)))
theorem inter_c {w : World} {A : Around} {s : Shared} {p : Program} {loose : List Str} {mg mb : Str → Option Value} {R : Result → Shared → Prop} {x y : Addr} {l t r f l' t' r' f' : Int}
    (X : (hd.heap_39 w.params).In s.heap) (T : TopRead p loose mg mb s.heap) (hh : A.handled = none) (hroom : A.depth < 860) (hu : A.units < 8600) (hx : RangeAt w.params s.heap x l t r f) (hy : RangeAt w.params s.heap y l' t' r' f') (hl : l ≤ r) (ht : t ≤ f) (hl' : l' ≤ r') (ht' : t' ≤ f') (m1 : l ≤ r') (m2 : l' ≤ r) (m3 : t ≤ f') (m4 : t' ≤ f)
    (h : ∀ x dx k u h' tk, Ext s.heap h' → Made s.heap h' [(x, instObj 349 dx), (dx, rangeDict w.params k u (max l l') (max t t') (min r r') (min f f'))] → R (.ok (.ret (.ref x))) { s with heap := h', toks := tk }) :
    codeAny (model prg w) A (.call (.ref 291) ⟨[.ref x, .ref y], []⟩) R s := by
  have hx0 := hx
  obtain ⟨dx, kx, ux, hx1, hx2⟩ := hx0
  have hy0 := hy
  obtain ⟨dy, ky, uy, hy1, hy2⟩ := hy0
  obtain ⟨hd0, dp0, fs0, gs0, un0⟩ := A
  obtain rfl : hd0 = none := hh
  dsimp only at hroom hu
  walk_at "my fill"
  refine' enter_ (binds := [(Str.ofString "self", .ref x), (Str.ofString "other", .ref y)]) X T ?k8 ?k6 ?k7 ?k9 ?kB ?_ ?c2 ?c3 ?c4 ?c5
  walk_at "my entered"
  k_steps
  all_goals (simp only [mn_if, mx_if] at h; exact h _ _ _ _ _ _ (Fr.keep (by assumption)) (made_of_news (by assumption) (fun q hq => hq)))

end
-- part PF
section
open Builtin Builtin.Str in
theorem field_zero {M : Model} {A : Around} {E : Value → Shared → Prop} {s : Shared} {id : String} {a : Array Value} {byName : PySem.Str → Sem Value} {v : Value} {num : Numbering} {Q : Value × Numbering → Shared → Prop} (hn : num = .unset ∨ num = .manual) (ha : a[0]? = some v)
    (h : Q (v, .manual) s) : wpAny M A (fieldObject id (some a) byName [48] num) Q E s := by
  have e : fieldObject id (some a) byName [48] num = pure (v, .manual) := by
    rcases hn with rfl | rfl
    all_goals
      unfold fieldObject
      simp only [show (List.span (fun c => c != 46 && c != 91) [48]) = ([48], []) from rfl, show fieldKey [48] = .index 0 from by kernel_rfl, List.isEmpty_cons, ha, pure_bind, List.length_nil]
      rw [KPc.range_list]
      rfl
  rw [e]; exact wpAny_pure h
local macro_rules | `(tactic| kfm_turns) => `(tactic| ((refine KPc.turn ?_); kpc_if; (kpc_check; (refine wpAny_bind (Mine.field_zero (by first | exact Or.inl rfl | exact Or.inr rfl) (by rfl) ?_)); (refine wpAny_bind (wpAny_holding (wpAny_of_eq (a := _) rfl ?_))); kpc_if; (refine wpAny_bind (wpAny_pure ?_)); kfm_val; (refine wpAny_bind (wpAny_of_eq (a := some _) rfl ?_)); (refine wpAny_pure ?_); (refine KFm.after_field (by kpc_g) (by kpc_text) (by kpc_obj) (by kfm_len) (by kpc_obj) (by kfm_cat2) (by kfm_rest) ?_); (intro _ _); kfm_turns)))
open Builtin Builtin.Str in
theorem fmt_rb (x : PySem.Str) (t u : Tok) (hx : x.length ≤ 1000) : ∃ T, Meets («str.format» ⟨[.str ⟨#[123, 48, 125, 32, 105, 115, 32, 110, 111, 116, 32, 97, 32, 118, 97, 108, 105, 100, 32, 99, 111, 111, 114, 100, 105, 110, 97, 116, 101, 32, 111, 114, 32, 114, 97, 110, 103, 101]⟩ t, .str x u], []⟩) (fun _ R s => ∀ t' k, R (.ok (.ret (.str T t'))) { s with toks := k }) := by
  refine ⟨?_, ?_⟩
  rotate_left
  kfm_run

end
-- part PR
section
theorem plainAttrs_pat : PlainAttrs "re.Pattern" :=
  ⟨⟨"object.__getattribute__", by rw [typeLookup_type, builtinLookup_eq_fast]; kernel_rfl, by decide +kernel⟩, by rw [typeLookup_type, builtinLookup_eq_fast]; kernel_rfl⟩
theorem slot_match : Slot "re.Pattern" "match" "re.Pattern.match" :=
  .of (owner := "re.Pattern") (n := "match") (by rw [typeLookup_type, builtinLookup_eq_fast]; kernel_rfl) (by decide +kernel) (by decide +kernel) (by decide +kernel)
    (by first | exact .inl (by decide +kernel) | exact .inr (by decide +kernel)) (by rw [isSubtype_type]; kernel_rfl)
theorem type_match : typeOf (.builtin "re.Pattern.match") = pure (.type "method_descriptor") := by show builtinType _ = _; rw [builtinType_eq_fast]; kernel_rfl
theorem entry_match : entryFor table "re.Pattern.match" = some Builtin.«re.Pattern.match» := entryFor_of_tree (by kernel_rfl)
theorem args_match (a b : Value) : argsOk "re.Pattern.match" ⟨[a, b], []⟩ := by unfold argsOk; kernel_rfl
theorem plainAttrs_mat : PlainAttrs "re.Match" :=
  ⟨⟨"object.__getattribute__", by rw [typeLookup_type, builtinLookup_eq_fast]; kernel_rfl, by decide +kernel⟩, by rw [typeLookup_type, builtinLookup_eq_fast]; kernel_rfl⟩
theorem slot_groups : Slot "re.Match" "groups" "re.Match.groups" :=
  .of (owner := "re.Match") (n := "groups") (by rw [typeLookup_type, builtinLookup_eq_fast]; kernel_rfl) (by decide +kernel) (by decide +kernel) (by decide +kernel)
    (by first | exact .inl (by decide +kernel) | exact .inr (by decide +kernel)) (by rw [isSubtype_type]; kernel_rfl)
theorem type_groups : typeOf (.builtin "re.Match.groups") = pure (.type "method_descriptor") := by show builtinType _ = _; rw [builtinType_eq_fast]; kernel_rfl
theorem entry_groups : entryFor table "re.Match.groups" = some Builtin.«re.Match.groups» := entryFor_of_tree (by kernel_rfl)
theorem args_groups (a : Value) : argsOk "re.Match.groups" ⟨[a], []⟩ := by unfold argsOk; kernel_rfl

end
-- part PR2
section
open PySem.Builtin.Re in
def turns : Nat → Sre.M → Option Sre.M
  | 0, _ => none
  | k + 1, m => if (m.runFor 4).outcome.isSome then some (m.runFor 4) else turns k (m.runFor 4)
def reCode : Array Nat := #[14, 4, 0, 0, 4294967295, 6, 0, 24, 6, 0, 1, 16, 36, 1, 23, 21, 0, 1, 17, 0, 24, 13, 1, 3, 13, 8, 22, 65, 90, 22, 97, 122, 0, 1, 17, 1, 18, 24, 6, 0, 1, 16, 36, 1, 23, 17, 0, 1, 17, 2, 24, 9, 1, 4294967295, 13, 4, 8, 10, 0, 1, 17, 3, 18, 23, 65, 0, 1, 17, 4, 16, 58, 24, 6, 0, 1, 16, 36, 1, 23, 21, 0, 1, 17, 6, 24, 13, 1, 3, 13, 8, 22, 65, 90, 22, 97, 122, 0, 1, 17, 7, 18, 24, 6, 0, 1, 16, 36, 1, 23, 17, 0, 1, 17, 8, 24, 9, 1, 4294967295, 13, 4, 8, 10, 0, 1, 17, 9, 18, 17, 5, 18, 6, 5, 1]
def reStart (cps : Array Nat) : Sre.M := Sre.forMatch reCode cps 5 0 cps.size false false
def spansOf (m : Sre.M) : List (Option (Nat × Nat)) := (List.range 5).map fun g =>
  match (if ((2 * g + 1 : Nat) : Int) ≤ m.lastmark then (m.marks.getD (2 * g) none, m.marks.getD (2 * g + 1) none) else (none, none)) with
  | (some b, some e) => some (b, e)
  | _ => none
/-- the machine matches the text whole, with these spans -/
def reOk (cps : Array Nat) (sp : List (Option (Nat × Nat))) : Bool := match turns 60 (reStart cps) with
  | some m => (match m.outcome with | some .matched => true | _ => false) && spansOf m == sp && m.start == 0 &&
      !((List.range 5).any (fun g => match m.marks.getD (2 * g) none, m.marks.getD (2 * g + 1) none with | some b, some e => decide (((2 * g + 1 : Nat) : Int) ≤ m.lastmark) && decide (e < b) | _, _ => false))
  | none => false
open PySem.Builtin.Re in
theorem reDrive_of {M : Model} {A : Around} {E : Value → Shared → Prop} {s : Shared} {Q : Sre.M → Shared → Prop} : ∀ (k n : Nat) (m m' : Sre.M), turns k m = some m' → k ≤ n → Q m' s → wpAny M A (reDrive n m) Q E s
  | 0, _, _, _, e, _, _ => by cases e
  | k + 1, 0, _, _, _, h, _ => absurd h (by omega)
  | k + 1, n + 1, m, m', e, h, q => by
    unfold reDrive
    unfold turns at e
    show wpAny M A (if (m.runFor reTurnSteps).outcome.isSome then pure (m.runFor reTurnSteps) else do rule "sre.turn"; reDrive n (m.runFor reTurnSteps)) Q E s
    rw [show reTurnSteps = 4 from rfl]
    by_cases ho : (m.runFor 4).outcome.isSome = true
    · rw [if_pos ho] at e ⊢
      cases e
      exact wpAny_pure q
    · rw [if_neg ho] at e ⊢
      exact wpAny_bind (wpAny_rule (reDrive_of k n _ m' e (by omega) q))
theorem forIn_still {M : Model} {A : Around} {f : Nat → PUnit → Sem (ForInStep PUnit)} (hf : ∀ i (Q' : ForInStep PUnit → Shared → Prop) (E : Value → Shared → Prop) s, Q' (.yield ⟨⟩) s → wpAny M A (f i ⟨⟩) Q' E s) {Q : PUnit → Shared → Prop} {E : Value → Shared → Prop} {s : Shared} (h : Q ⟨⟩ s) :
    ∀ l : List Nat, wpAny M A (forIn l PUnit.unit f) Q E s
  | [] => wpAny_pure h
  | i :: l => KPc.turn (hf i _ _ _ (forIn_still hf h l))
open PySem.Builtin.Re in
theorem reRun_of {M : Model} {A : Around} {E : Value → Shared → Prop} {s : Shared} {Q : Option Sre.M → Shared → Prop} {k : Nat} {m m' : Sre.M} (e : turns k m = some m') (hk : k ≤ 1000) (ho : (match m'.outcome with | some .matched => true | _ => false) = true) (q : Q (some m') s) : wpAny M A (reRunToEnd m) Q E s := by
  unfold reRunToEnd
  refine wpAny_bind (reDrive_of k _ m m' e (Nat.le_trans hk (by decide)) ?_)
  refine wpAny_bind (forIn_still (fun i Q' E s h => ?_) ?_ _)
  · show wpAny M A (if _ then _ else _) Q' E s
    split
    · exact wpAny_bind (wpAny_rule (wpAny_pure h))
    · exact wpAny_pure h
  · cases hm : m'.outcome with
    | none => rw [hm] at ho; cases ho
    | some o =>
      rw [hm] at ho
      cases o with
      | matched => exact wpAny_pure q
      | failed => cases ho
      | stuck => cases ho

end
-- part PS
section
/-! the regex machine does the same on texts that are alike -/
def rePlaces : List Nat := [11, 24, 41, 54, 69, 75, 88, 105, 118]
def withText (m : Sre.M) (T : Array Nat) : Sre.M := { m with text := T }
structure Alike (T T' : Array Nat) : Prop where
  acc : ∀ i ∈ rePlaces, ∀ p seen, Sre.accepts reCode i (T.getD p 0) seen = Sre.accepts reCode i (T'.getD p 0) seen
  nl : ∀ p, (T.getD p 0 == 10) = (T'.getD p 0 == 10)
theorem run_alike {T T' : Array Nat} (a : Alike T T') {i : Nat} (hi : i ∈ rePlaces) : ∀ (n p found : Nat) (seen : Sre.Seen), Sre.run reCode T' i n p found seen = Sre.run reCode T i n p found seen
  | 0, _, _, _ => rfl
  | n + 1, p, found, seen => by
    unfold Sre.run
    rw [a.acc i hi p seen]
    refine congrArg _ (funext fun r => ?_)
    obtain ⟨yes, seen'⟩ := r
    cases yes with
    | true => exact run_alike a hi n _ _ _
    | false => rfl
def waits (w : Sre.Wait) (yes : Bool) : Bool := match w with | .nextStart => yes | .giveBack | .closeLoop | .maxMore | .maxTail | .maxBelow => true | _ => false
def safe (m : Sre.M) : Bool := match m.answer with
  | some yes => (match m.frames with
    | f :: _ => waits f.wait yes
    | [] => true)
  | none => decide (m.pc < m.code.size) && (match Sre.ops[m.word 0]? with
    | some .AT => m.word 1 == 0 || m.word 1 == 5
    | some .MARK | some .SUCCESS | some .JUMP | some .INFO | some .REPEAT | some .MAX_UNTIL => true
    | some .IN | some .LITERAL => rePlaces.contains m.pc
    | some .REPEAT_ONE => rePlaces.contains (m.pc + 4)
    | _ => false)
theorem attempt_wt (m : Sre.M) (T : Array Nat) (f : Sre.Frame) (a b : Nat) (o : Bool) : (withText m T).attempt f a b o = withText (m.attempt f a b o) T := by
  unfold Sre.M.attempt
  show (if m.weight + 1 + f.kept.marks.size > 16777216 then _ else _) = _
  split <;> rfl
theorem alternative_wt (m : Sre.M) (T : Array Nat) (a : Nat) (k : Sre.Kept) : (withText m T).alternative a k = withText (m.alternative a k) T := by
  unfold Sre.M.alternative
  show (if (m.code.getD a 0 == 0) = true then _ else _) = _
  split
  · rfl
  · exact attempt_wt _ _ _ _ _ _
theorem afterRun_wt (m : Sre.M) (T : Array Nat) (w : Sre.Wait) (c : Int) (k : Sre.Kept) : (withText m T).afterRun w c k = withText (m.afterRun w c k) T := attempt_wt _ _ _ _ _ _
theorem afterLoop_wt (m : Sre.M) (T : Array Nat) (w : Sre.Wait) (i : Nat) (c : Int) (k : Option Nat → Bool) : (withText m T).afterLoop w i c k = withText (m.afterLoop w i c k) T := attempt_wt { m with inner := (m.loopAt i).outer } T _ _ _ _
theorem round_wt (m : Sre.M) (T : Array Nat) (w : Sre.Wait) (i : Nat) (c : Int) (g : Bool) (k : Sre.Kept) : (withText m T).round w i c g k = withText (m.round w i c g k) T := attempt_wt (m.setLoop i fun l => { l with count := c, began := if g then some m.pos else l.began }) T _ _ _ _
theorem until_wt (m : Sre.M) (T : Array Nat) (g : Bool) : (withText m T).until_ g = withText (m.until_ g) T := by
  unfold Sre.M.until_
  show (match m.inner with | none => _ | some i => _) = _
  cases m.inner with
  | none => rfl
  | some i =>
    dsimp only
    show (if (m.loopAt i).count + 1 < (m.code.getD ((m.loopAt i).pc + 2) 0 : Nat) then _ else if (!g) = true then _ else if _ then _ else _) = _
    split
    · exact round_wt _ _ _ _ _ _ _
    · split
      · exact afterLoop_wt _ _ _ _ _ _
      · by_cases hq : (((decide ((m.loopAt i).count + 1 < (m.code.getD ((m.loopAt i).pc + 3) 0 : Nat)) || m.code.getD ((m.loopAt i).pc + 3) 0 == Sre.maxRepeat) && (m.loopAt i).began != some m.pos) : Bool) = true
        · rw [if_pos hq]; exact (if_pos hq).trans (round_wt _ _ _ _ _ _ _)
        · rw [if_neg hq]; exact (if_neg hq).trans (afterLoop_wt _ _ _ _ _ _)
theorem exec_wt {m : Sre.M} {T' : Array Nat} (a : Alike m.text T') (hc : m.code = reCode) (hs : safe m = true) (ha : m.answer = none) : (withText m T').exec = withText m.exec T' := by
  unfold safe at hs
  rw [ha] at hs
  dsimp only at hs
  rw [Bool.and_eq_true] at hs
  replace hs := hs.2
  unfold Sre.M.exec
  rw [show (withText m T').word 0 = m.word 0 from rfl]
  cases ho : Sre.ops[m.word 0]? with
  | none => rfl
  | some op =>
    rw [ho] at hs
    cases op <;> first | (exact (Bool.false_ne_true hs).elim) | rfl | skip
    case SUCCESS =>
      show (if (_ : Bool) = true then _ else _) = withText (if (_ : Bool) = true then _ else _) T'
      split <;> rename_i hq
      · exact (congrArg (fun x => withText x T') (if_pos hq)).symm ▸ rfl
      · exact (congrArg (fun x => withText x T') (if_neg hq)).symm ▸ rfl
    case AT =>
      have e : ∀ k, (k == 0 || k == 5) = true → ∀ sn, ({ withText m T' with seen := sn } : Sre.M).isAt k = ({ m with seen := sn } : Sre.M).isAt k := by
        intro k hk sn
        rcases (Bool.or_eq_true _ _).mp hk with q | q
        · obtain rfl := eq_of_beq q; rfl
        · obtain rfl := eq_of_beq q
          show Except.ok (m.pos == m.lim || (m.pos + 1 == m.lim && T'.getD m.pos 0 == 10)) = Except.ok (m.pos == m.lim || (m.pos + 1 == m.lim && m.text.getD m.pos 0 == 10))
          rw [a.nl]
      have e' := e (m.word 1) hs (m.seen.add (m.word 0))
      show (match ({ withText m T' with seen := m.seen.add (m.word 0) } : Sre.M).isAt (m.word 1) with | .error why => ({ withText m T' with seen := m.seen.add (m.word 0) } : Sre.M).stick why | .ok yes => _) =
        withText (match ({ m with seen := m.seen.add (m.word 0) } : Sre.M).isAt (m.word 1) with | .error why => ({ m with seen := m.seen.add (m.word 0) } : Sre.M).stick why | .ok yes => _) T'
      rw [e']
      cases ({ m with seen := m.seen.add (m.word 0) } : Sre.M).isAt (m.word 1) with
      | error why => rfl
      | ok yes => cases yes <;> rfl
    case MAX_UNTIL => exact until_wt ({ m with seen := m.seen.add (m.word 0), pc := m.pc + 1 } : Sre.M) T' true
    case REPEAT => exact attempt_wt ({ m with seen := m.seen.add (m.word 0), loops := m.loops.push { pc := m.pc, outer := m.inner }, inner := some m.loops.size } : Sre.M) T' _ _ _ _
    case IN =>
      have hp : m.pc ∈ rePlaces := by simpa using hs
      show (if m.pos ≥ m.lim then ({ withText m T' with seen := m.seen.add (m.word 0) } : Sre.M).say false else (match Sre.accepts m.code m.pc (T'.getD m.pos 0) (m.seen.add (m.word 0)) with | .error why => ({ withText m T' with seen := m.seen.add (m.word 0) } : Sre.M).stick why | .ok (false, seen) => _ | .ok (true, seen) => _)) =
        withText (if m.pos ≥ m.lim then ({ m with seen := m.seen.add (m.word 0) } : Sre.M).say false else (match Sre.accepts m.code m.pc (m.text.getD m.pos 0) (m.seen.add (m.word 0)) with | .error why => ({ m with seen := m.seen.add (m.word 0) } : Sre.M).stick why | .ok (false, seen) => _ | .ok (true, seen) => _)) T'
      rw [show Sre.accepts m.code m.pc (T'.getD m.pos 0) (m.seen.add (m.word 0)) = Sre.accepts m.code m.pc (m.text.getD m.pos 0) (m.seen.add (m.word 0)) from by rw [hc]; exact (a.acc m.pc hp _ _).symm]
      split
      · rfl
      · cases Sre.accepts m.code m.pc (m.text.getD m.pos 0) (m.seen.add (m.word 0)) with
        | error why => rfl
        | ok r => obtain ⟨b, sn⟩ := r; cases b <;> rfl
    case LITERAL =>
      have hp : m.pc ∈ rePlaces := by simpa using hs
      show (if m.pos ≥ m.lim then ({ withText m T' with seen := m.seen.add (m.word 0) } : Sre.M).say false else (match Sre.accepts m.code m.pc (T'.getD m.pos 0) (m.seen.add (m.word 0)) with | .error why => ({ withText m T' with seen := m.seen.add (m.word 0) } : Sre.M).stick why | .ok (false, seen) => _ | .ok (true, seen) => _)) =
        withText (if m.pos ≥ m.lim then ({ m with seen := m.seen.add (m.word 0) } : Sre.M).say false else (match Sre.accepts m.code m.pc (m.text.getD m.pos 0) (m.seen.add (m.word 0)) with | .error why => ({ m with seen := m.seen.add (m.word 0) } : Sre.M).stick why | .ok (false, seen) => _ | .ok (true, seen) => _)) T'
      rw [show Sre.accepts m.code m.pc (T'.getD m.pos 0) (m.seen.add (m.word 0)) = Sre.accepts m.code m.pc (m.text.getD m.pos 0) (m.seen.add (m.word 0)) from by rw [hc]; exact (a.acc m.pc hp _ _).symm]
      split
      · rfl
      · cases Sre.accepts m.code m.pc (m.text.getD m.pos 0) (m.seen.add (m.word 0)) with
        | error why => rfl
        | ok r => obtain ⟨b, sn⟩ := r; cases b <;> rfl
    case REPEAT_ONE =>
      have hp : m.pc + 4 ∈ rePlaces := by simpa using hs
      have hr : ∀ n p found seen, Sre.run m.code T' (m.pc + 4) n p found seen = Sre.run m.code m.text (m.pc + 4) n p found seen := by rw [hc]; exact run_alike a hp
      show (if (m.word 2 : Int) > (m.lim : Int) - m.pos then ({ withText m T' with seen := m.seen.add (m.word 0) } : Sre.M).say false else
          match Sre.run m.code T' (m.pc + 4) (min (m.word 3) ((m.lim : Int) - m.pos).toNat) m.pos 0 ((m.seen.add (m.word 0)).add (m.word 4)) with
          | .error why => ({ withText m T' with seen := m.seen.add (m.word 0) } : Sre.M).stick why
          | .ok (n, seen) => if n < m.word 2 then ({ withText m T' with seen } : Sre.M).say false else
            ({ withText m T' with seen, pos := m.pos + n } : Sre.M).afterRun .giveBack n (({ withText m T' with seen, pos := m.pos + n } : Sre.M).keep m.inner.isSome)) =
        withText (if (m.word 2 : Int) > (m.lim : Int) - m.pos then ({ m with seen := m.seen.add (m.word 0) } : Sre.M).say false else
          match Sre.run m.code m.text (m.pc + 4) (min (m.word 3) ((m.lim : Int) - m.pos).toNat) m.pos 0 ((m.seen.add (m.word 0)).add (m.word 4)) with
          | .error why => ({ m with seen := m.seen.add (m.word 0) } : Sre.M).stick why
          | .ok (n, seen) => if n < m.word 2 then ({ m with seen } : Sre.M).say false else
            ({ m with seen, pos := m.pos + n } : Sre.M).afterRun .giveBack n (({ m with seen, pos := m.pos + n } : Sre.M).keep m.inner.isSome)) T'
      rw [hr]
      split
      · rfl
      · cases Sre.run m.code m.text (m.pc + 4) (min (m.word 3) ((m.lim : Int) - m.pos).toNat) m.pos 0 ((m.seen.add (m.word 0)).add (m.word 4)) with
        | error why => rfl
        | ok r =>
          obtain ⟨n, sn⟩ := r
          dsimp only
          split
          · rfl
          · exact afterRun_wt ({ m with seen := sn, pos := m.pos + n } : Sre.M) T' _ _ _
theorem resume_wt (m : Sre.M) (T' : Array Nat) (f : Sre.Frame) (yes : Bool) (h : waits f.wait yes = true) : (withText m T').resume f yes = withText (m.resume f yes) T' := by
  unfold Sre.M.resume
  cases hw : f.wait <;> rw [hw] at h <;> first | (exact (Bool.false_ne_true h).elim) | skip
  case nextStart =>
    have hy : yes = true := h
    subst hy
    rfl
  case giveBack =>
    cases yes with
    | true => rfl
    | false =>
      show (if f.count - 1 < (m.word 2 : Int) then ((withText m T').putBack f.kept).say false else ({ (withText m T').putBack f.kept with pos := f.pos - 1 } : Sre.M).afterRun .giveBack (f.count - 1) f.kept) =
        withText (if f.count - 1 < (m.word 2 : Int) then (m.putBack f.kept).say false else ({ m.putBack f.kept with pos := f.pos - 1 } : Sre.M).afterRun .giveBack (f.count - 1) f.kept) T'
      split
      · rfl
      · exact afterRun_wt ({ m.putBack f.kept with pos := f.pos - 1 } : Sre.M) T' _ _ _
  case closeLoop => rfl
  case maxBelow => cases yes <;> rfl
  case maxMore =>
    cases yes with
    | true => rfl
    | false => exact afterLoop_wt (((m.setLoop f.loop fun l => { l with began := f.began }).putBack f.kept).setLoop f.loop fun l => { l with count := f.count - 1 }) T' .maxTail f.loop f.count (fun _ => false)
  case maxTail => rfl
theorem step_wt {m : Sre.M} {T' : Array Nat} (a : Alike m.text T') (hc : m.code = reCode) (hs : safe m = true) : (withText m T').step = withText m.step T' := by
  obtain ⟨code, text, lim, start, lastStart, wholeText, mustAdvance, pc, pos, handed, outermost, marks, lastmark, lastindex, loops, inner, frames, weight, answer, seen, outcome⟩ := m
  cases outcome with
  | some o => rfl
  | none =>
    cases answer with
    | none =>
      have h1 : pc < code.size := by
        unfold safe at hs
        exact of_decide_eq_true (Bool.and_eq_true_iff.mp hs).1
      unfold Sre.M.step
      show (if pc < code.size then _ else _) = withText (if pc < code.size then _ else _) T'
      rw [if_pos h1, if_pos h1]
      exact exec_wt a hc hs rfl
    | some yes =>
      cases frames with
      | nil => cases yes <;> rfl
      | cons f rest =>
        exact resume_wt (⟨code, text, lim, start, lastStart, wholeText, mustAdvance, f.pc, f.pos, handed, f.outermost, marks, lastmark, lastindex, loops, inner, rest, weight - (1 + f.kept.marks.size), none, seen, none⟩ : Sre.M) T' f yes hs
theorem withText_self (m : Sre.M) : withText m m.text = m := rfl
theorem alike_refl (T : Array Nat) : Alike T T := ⟨fun _ _ _ _ => rfl, fun _ => rfl⟩
theorem step_text {m : Sre.M} (hc : m.code = reCode) (hs : safe m = true) : m.step.text = m.text := by
  have := step_wt (alike_refl m.text) hc hs
  rw [withText_self] at this
  rw [this]; rfl
theorem attempt_code (m : Sre.M) (f : Sre.Frame) (a b : Nat) (o : Bool) : (m.attempt f a b o).code = m.code := by
  unfold Sre.M.attempt
  split <;> rfl
theorem until_code (m : Sre.M) (g : Bool) : (m.until_ g).code = m.code := by
  unfold Sre.M.until_
  cases m.inner with
  | none => rfl
  | some i =>
    dsimp only
    split
    · exact attempt_code _ _ _ _ _
    · split
      · exact attempt_code _ _ _ _ _
      · split
        · exact attempt_code _ _ _ _ _
        · exact attempt_code _ _ _ _ _
theorem exec_code {m : Sre.M} (hs : safe m = true) (ha : m.answer = none) : m.exec.code = m.code := by
  unfold safe at hs
  rw [ha] at hs
  dsimp only at hs
  rw [Bool.and_eq_true] at hs
  replace hs := hs.2
  unfold Sre.M.exec
  cases ho : Sre.ops[m.word 0]? with
  | none => rfl
  | some op =>
    rw [ho] at hs
    cases op <;> first | (exact (Bool.false_ne_true hs).elim) | rfl | skip
    all_goals dsimp only
    case MAX_UNTIL => exact until_code _ _
    case REPEAT => exact attempt_code _ _ _ _ _
    case SUCCESS => split <;> rfl
    case AT => split <;> (first | rfl | (split <;> rfl))
    case IN => repeat' split
               all_goals rfl
    case LITERAL => repeat' split
                    all_goals rfl
    case REPEAT_ONE =>
      repeat' split
      all_goals first | rfl | exact attempt_code _ _ _ _ _
theorem resume_code (m : Sre.M) (f : Sre.Frame) (yes : Bool) (h : waits f.wait yes = true) : (m.resume f yes).code = m.code := by
  unfold Sre.M.resume
  cases hw : f.wait <;> rw [hw] at h <;> first | (exact (Bool.false_ne_true h).elim) | skip
  all_goals dsimp only
  case nextStart =>
    have hy : yes = true := h
    subst hy
    rfl
  case giveBack =>
    repeat' split
    all_goals first | rfl | exact attempt_code _ _ _ _ _
  case closeLoop => rfl
  case maxBelow => cases yes <;> rfl
  case maxMore =>
    split
    · rfl
    · exact attempt_code _ _ _ _ _
  case maxTail => rfl
theorem step_code {m : Sre.M} (hs : safe m = true) : m.step.code = m.code := by
  obtain ⟨code, text, lim, start, lastStart, wholeText, mustAdvance, pc, pos, handed, outermost, marks, lastmark, lastindex, loops, inner, frames, weight, answer, seen, outcome⟩ := m
  cases outcome with
  | some o => rfl
  | none =>
    cases answer with
    | none =>
      have h1 : pc < code.size := by
        unfold safe at hs
        exact of_decide_eq_true (Bool.and_eq_true_iff.mp hs).1
      unfold Sre.M.step
      show (if pc < code.size then _ else _ : Sre.M).code = _
      rw [if_pos h1]
      exact exec_code hs rfl
    | some yes =>
      cases frames with
      | nil => cases yes <;> rfl
      | cons f rest => exact resume_code (⟨code, text, lim, start, lastStart, wholeText, mustAdvance, f.pc, f.pos, handed, f.outermost, marks, lastmark, lastindex, loops, inner, rest, weight - (1 + f.kept.marks.size), none, seen, none⟩ : Sre.M) f yes hs
/-- every step of a run of n steps is safe -/
def allSafe : Nat → Sre.M → Bool
  | 0, _ => true
  | n + 1, m => m.outcome.isSome || (safe m && allSafe n m.step)
theorem runFor_wt {T' : Array Nat} : ∀ (n : Nat) (m : Sre.M), Alike m.text T' → m.code = reCode → allSafe n m = true → (withText m T').runFor n = withText (m.runFor n) T' ∧ (m.runFor n).text = m.text ∧ (m.runFor n).code = reCode
  | 0, m, _, hc, _ => ⟨rfl, rfl, hc⟩
  | n + 1, m, a, hc, h => by
    unfold allSafe at h
    unfold Sre.M.runFor
    show (if m.outcome.isSome = true then withText m T' else _) = _ ∧ _
    by_cases ho : m.outcome.isSome = true
    · rw [if_pos ho, if_pos ho]; exact ⟨rfl, rfl, hc⟩
    · rw [if_neg ho, if_neg ho]
      have h' : safe m = true ∧ allSafe n m.step = true := by
        rw [Bool.eq_false_iff.mpr ho, Bool.false_or, Bool.and_eq_true] at h; exact h
      rw [step_wt a hc h'.1]
      have ht := step_text hc h'.1
      have z := runFor_wt n m.step (ht ▸ a) ((step_code h'.1).trans hc) h'.2
      exact ⟨z.1, z.2.1.trans ht, z.2.2⟩

end
-- part PT
section
def runSafe : Nat → Sre.M → Option Sre.M
  | 0, m => some m
  | n + 1, m => if m.outcome.isSome then some m else if safe m then runSafe n m.step else none
def turnsS : Nat → Sre.M → Option Sre.M
  | 0, _ => none
  | k + 1, m => match runSafe 4 m with
    | none => none
    | some m' => if m'.outcome.isSome then some m' else turnsS k m'
theorem runSafe_is : ∀ (n : Nat) (m m' : Sre.M), runSafe n m = some m' → allSafe n m = true ∧ m.runFor n = m'
  | 0, m, m', h => by cases h; exact ⟨rfl, rfl⟩
  | n + 1, m, m', h => by
    unfold runSafe at h
    unfold allSafe Sre.M.runFor
    by_cases ho : m.outcome.isSome = true
    · rw [if_pos ho] at h; cases h; exact ⟨by rw [ho]; rfl, if_pos ho⟩
    · rw [if_neg ho] at h
      by_cases hs : safe m = true
      · rw [if_pos hs] at h
        have z := runSafe_is n _ _ h
        exact ⟨by rw [hs, z.1]; simp, (if_neg ho).trans z.2⟩
      · rw [if_neg hs] at h; cases h
theorem turnsS_wt {T' : Array Nat} : ∀ (k : Nat) (m m' : Sre.M), Alike m.text T' → m.code = reCode → turnsS k m = some m' → turns k (withText m T') = some (withText m' T')
  | 0, _, _, _, _, h => by cases h
  | k + 1, m, m', a, hc, h => by
    unfold turnsS at h
    cases hr : runSafe 4 m with
    | none => rw [hr] at h; cases h
    | some m₁ =>
      rw [hr] at h
      dsimp only at h
      obtain ⟨h1, h2⟩ := runSafe_is _ _ _ hr
      obtain ⟨w1, w2, w3⟩ := runFor_wt 4 m a hc h1
      rw [h2] at w1 w2 w3
      unfold turns
      rw [w1]
      show (if m₁.outcome.isSome = true then _ else _) = _
      by_cases ho : m₁.outcome.isSome = true
      · rw [if_pos ho] at h ⊢; cases h; rfl
      · rw [if_neg ho] at h ⊢; exact turnsS_wt k m₁ m' (w2 ▸ a) w3 h
theorem reStart_wt {T T' : Array Nat} (h : T'.size = T.size) : reStart T' = withText (reStart T) T' := by
  unfold reStart; rw [h]; rfl
/-- what the walk wants of a match -/
structure ReFin (cps : Array Nat) (sp : List (Option (Nat × Nat))) (m : Sre.M) : Prop where
  run : turns 60 (reStart cps) = some m
  won : (match m.outcome with | some .matched => true | _ => false) = true
  spans : spansOf m = sp
  right : (List.range 5).any (fun g => match m.marks.getD (2 * g) none, m.marks.getD (2 * g + 1) none with | some b, some e => decide (((2 * g + 1 : Nat) : Int) ≤ m.lastmark) && decide (e < b) | _, _ => false) = false
def reCheck (cps : Array Nat) (sp : List (Option (Nat × Nat))) : Bool := match turnsS 60 (reStart cps) with
  | some m => (match m.outcome with | some .matched => true | _ => false) && spansOf m == sp &&
      !((List.range 5).any (fun g => match m.marks.getD (2 * g) none, m.marks.getD (2 * g + 1) none with | some b, some e => decide (((2 * g + 1 : Nat) : Int) ≤ m.lastmark) && decide (e < b) | _, _ => false))
  | none => false
theorem reCheck_fin {T T' : Array Nat} {sp : List (Option (Nat × Nat))} (h : reCheck T sp = true) (a : Alike T T') (hz : T'.size = T.size) : ∃ m, ReFin T' sp m := by
  unfold reCheck at h
  cases ht : turnsS 60 (reStart T) with
  | none => rw [ht] at h; cases h
  | some m =>
    rw [ht] at h
    dsimp only at h
    rw [Bool.and_eq_true, Bool.and_eq_true, Bool.not_eq_true'] at h
    have w := turnsS_wt (T' := T') 60 (reStart T) m a rfl ht
    rw [← reStart_wt hz] at w
    exact ⟨_, w, h.1.1, eq_of_beq h.1.2, h.2⟩
theorem check11 : reCheck #[65, 49] [some (0,1), some (1,2), none, none, none] = true := by decide +kernel
theorem check21 : reCheck #[65, 65, 49] [some (0,2), some (2,3), none, none, none] = true := by decide +kernel
theorem check1111 : reCheck #[65, 49, 58, 65, 49] [some (0,1), some (1,2), some (2,5), some (3,4), some (4,5)] = true := by decide +kernel
theorem check1121 : reCheck #[65, 49, 58, 65, 65, 49] [some (0,1), some (1,2), some (2,6), some (3,5), some (5,6)] = true := by decide +kernel
theorem check2121 : reCheck #[65, 65, 49, 58, 65, 65, 49] [some (0,2), some (2,3), some (3,7), some (4,6), some (6,7)] = true := by decide +kernel

end
-- part PU
section
def Same (c c' : Nat) : Prop := (∀ i ∈ rePlaces, ∀ seen, Sre.accepts reCode i c seen = Sre.accepts reCode i c' seen) ∧ (c == 10) = (c' == 10)
theorem Same.refl (c : Nat) : Same c c := ⟨fun _ _ _ => rfl, rfl⟩
inductive SameL : List Nat → List Nat → Prop
  | nil : SameL [] []
  | cons {a b l l'} : Same a b → SameL l l' → SameL (a :: l) (b :: l')
theorem SameL.get : ∀ {l l' : List Nat}, SameL l l' → ∀ p, Same (l.getD p 0) (l'.getD p 0)
  | _, _, .nil, _ => .refl _
  | _, _, .cons h _, 0 => h
  | _, _, .cons _ t, p + 1 => by simpa using t.get p
theorem SameL.length : ∀ {l l' : List Nat}, SameL l l' → l'.length = l.length
  | _, _, .nil => rfl
  | _, _, .cons _ t => congrArg (· + 1) t.length
theorem SameL.alike {l l' : List Nat} (h : SameL l l') : Alike l.toArray l'.toArray :=
  ⟨fun i hi p seen => by have := (h.get p).1 i hi seen; simpa using this, fun p => by have := (h.get p).2; simpa using this⟩
theorem acc_lit (i w : Nat) (c : Nat) (seen : Sre.Seen) (h : reCode.getD i 0 = 16) (hw : reCode.getD (i + 1) 0 = w) : Sre.accepts reCode i c seen = .ok (c == w, seen) := by
  unfold Sre.accepts
  rw [h, hw]
  rfl
theorem acc_in (i : Nat) (c : Nat) (seen : Sre.Seen) (h : reCode.getD i 0 = 13) : Sre.accepts reCode i c seen = Sre.inSet reCode c 133 (i + 2) true seen := by
  unfold Sre.accepts
  rw [h]
  rfl
theorem in_range (n i lo hi c : Nat) (seen : Sre.Seen) (yes : Bool) (h0 : reCode.getD i 0 = 22) (h1 : reCode.getD (i + 1) 0 = lo) (h2 : reCode.getD (i + 2) 0 = hi) :
    Sre.inSet reCode c (n + 1) i yes seen = if lo ≤ c && c ≤ hi then .ok (yes, seen.add 22) else Sre.inSet reCode c n (i + 3) yes (seen.add 22) := by
  conv => lhs; unfold Sre.inSet
  simp only [Nat.add_zero, h0, h1, h2, show Sre.ops[22]? = some Sre.Op.RANGE from rfl]
theorem in_fail (n i c : Nat) (seen : Sre.Seen) (yes : Bool) (h0 : reCode.getD i 0 = 0) : Sre.inSet reCode c (n + 1) i yes seen = .ok (!yes, seen.add 0) := by
  conv => lhs; unfold Sre.inSet
  simp only [Nat.add_zero, h0, show Sre.ops[0]? = some Sre.Op.FAILURE from rfl]
theorem in_cat (n i k c : Nat) (seen : Sre.Seen) (yes : Bool) (h0 : reCode.getD i 0 = 8) (h1 : reCode.getD (i + 1) 0 = k) :
    Sre.inSet reCode c (n + 1) i yes seen = (do if ← Sre.category k c then pure (yes, (seen.add 8).add (55 + k)) else Sre.inSet reCode c n (i + 2) yes ((seen.add 8).add (55 + k))) := by
  conv => lhs; unfold Sre.inSet
  simp only [Nat.add_zero, h0, h1, show Sre.ops[8]? = some Sre.Op.CATEGORY from rfl]
theorem letters_at (i c : Nat) (seen : Sre.Seen) (hi : i = 24 ∨ i = 88) : Sre.accepts reCode i c seen =
    if 65 ≤ c && c ≤ 90 then .ok (true, seen.add 22) else if 97 ≤ c && c ≤ 122 then .ok (true, (seen.add 22).add 22) else .ok (false, ((seen.add 22).add 22).add 0) := by
  rcases hi with rfl | rfl
  · rw [acc_in _ _ _ (by decide +kernel), in_range 132 26 65 90 _ _ _ (by decide +kernel) (by decide +kernel) (by decide +kernel), in_range 131 29 97 122 _ _ _ (by decide +kernel) (by decide +kernel) (by decide +kernel),
      in_fail 130 32 _ _ _ (by decide +kernel)]
    rfl
  · rw [acc_in _ _ _ (by decide +kernel), in_range 132 90 65 90 _ _ _ (by decide +kernel) (by decide +kernel) (by decide +kernel), in_range 131 93 97 122 _ _ _ (by decide +kernel) (by decide +kernel) (by decide +kernel),
      in_fail 130 96 _ _ _ (by decide +kernel)]
    rfl
theorem digits_at (i c : Nat) (seen : Sre.Seen) (hi : i = 54 ∨ i = 118) : Sre.accepts reCode i c seen =
    if Unicode.isDecimal c then .ok (true, (seen.add 8).add 65) else .ok (false, ((seen.add 8).add 65).add 0) := by
  rcases hi with rfl | rfl
  · rw [acc_in _ _ _ (by decide +kernel), in_cat 132 56 10 _ _ _ (by decide +kernel) (by decide +kernel), in_fail 131 58 _ _ _ (by decide +kernel)]
    show (do if ← (Except.ok (Unicode.isDecimal c) : Except String Bool).map (· != false) then _ else _) = _
    cases Unicode.isDecimal c <;> rfl
  · rw [acc_in _ _ _ (by decide +kernel), in_cat 132 120 10 _ _ _ (by decide +kernel) (by decide +kernel), in_fail 131 122 _ _ _ (by decide +kernel)]
    show (do if ← (Except.ok (Unicode.isDecimal c) : Except String Bool).map (· != false) then _ else _) = _
    cases Unicode.isDecimal c <;> rfl
theorem same_of {c c' : Nat} (h1 : (65 ≤ c && c ≤ 90) = (65 ≤ c' && c' ≤ 90)) (h2 : (97 ≤ c && c ≤ 122) = (97 ≤ c' && c' ≤ 122)) (h3 : Unicode.isDecimal c = Unicode.isDecimal c') (h4 : (c == 36) = (c' == 36)) (h5 : (c == 58) = (c' == 58)) (h6 : (c == 10) = (c' == 10)) : Same c c' := by
  refine ⟨fun i hi seen => ?_, h6⟩
  simp only [rePlaces, List.mem_cons, List.not_mem_nil, or_false] at hi
  rcases hi with rfl | rfl | rfl | rfl | rfl | rfl | rfl | rfl | rfl
  · rw [acc_lit 11 36 _ _ (by decide +kernel) (by decide +kernel), acc_lit 11 36 _ _ (by decide +kernel) (by decide +kernel), h4]
  · rw [letters_at 24 _ _ (.inl rfl), letters_at 24 _ _ (.inl rfl), h1, h2]
  · rw [acc_lit 41 36 _ _ (by decide +kernel) (by decide +kernel), acc_lit 41 36 _ _ (by decide +kernel) (by decide +kernel), h4]
  · rw [digits_at 54 _ _ (.inl rfl), digits_at 54 _ _ (.inl rfl), h3]
  · rw [acc_lit 69 58 _ _ (by decide +kernel) (by decide +kernel), acc_lit 69 58 _ _ (by decide +kernel) (by decide +kernel), h5]
  · rw [acc_lit 75 36 _ _ (by decide +kernel) (by decide +kernel), acc_lit 75 36 _ _ (by decide +kernel) (by decide +kernel), h4]
  · rw [letters_at 88 _ _ (.inr rfl), letters_at 88 _ _ (.inr rfl), h1, h2]
  · rw [acc_lit 105 36 _ _ (by decide +kernel) (by decide +kernel), acc_lit 105 36 _ _ (by decide +kernel) (by decide +kernel), h4]
  · rw [digits_at 118 _ _ (.inr rfl), digits_at 118 _ _ (.inr rfl), h3]
theorem same_letter : ∀ c ∈ [65, 66, 67, 68, 86, 87, 88, 89, 90], Same 65 c := by
  intro c hc
  simp only [List.mem_cons, List.not_mem_nil, or_false] at hc
  rcases hc with rfl | rfl | rfl | rfl | rfl | rfl | rfl | rfl | rfl <;> exact same_of (by decide +kernel) (by decide +kernel) (by decide +kernel) (by decide +kernel) (by decide +kernel) (by decide +kernel)
theorem same_digit : ∀ c ∈ [49, 50, 51, 52, 53, 54, 55, 56], Same 49 c := by
  intro c hc
  simp only [List.mem_cons, List.not_mem_nil, or_false] at hc
  rcases hc with rfl | rfl | rfl | rfl | rfl | rfl | rfl | rfl <;> exact same_of (by decide +kernel) (by decide +kernel) (by decide +kernel) (by decide +kernel) (by decide +kernel) (by decide +kernel)

end
-- part PV
section
/-! the two builtins of re, walked -/
/-- the Match object of a match with the machine m -/
abbrev matObj (x : Str) (t : Tok) (li : Value) (b : Addr) (n : Nat) : Obj := { cls := .type "re.Match", data := .fields #[.str x t, .ref 43, rawInt 0, rawInt n, li, .ref b] }
def spanVals : List (Option (Nat × Nat)) → List Value
  | [] => []
  | some (b, e) :: r => rawInt b :: rawInt e :: spanVals r
  | none :: r => rawInt (-1) :: rawInt (-1) :: spanVals r
theorem spans_flat (m : Sre.M) : ∀ l : List Nat, (l.flatMap fun g => match (if ((2 * g + 1 : Nat) : Int) ≤ m.lastmark then (m.marks.getD (2 * g) none, m.marks.getD (2 * g + 1) none) else (none, none)) with | (some b, some e) => [rawInt b, rawInt e] | _ => [rawInt (-1), rawInt (-1)]) =
    spanVals (l.map fun g => match (if ((2 * g + 1 : Nat) : Int) ≤ m.lastmark then (m.marks.getD (2 * g) none, m.marks.getD (2 * g + 1) none) else (none, none)) with | (some b, some e) => some (b, e) | _ => none)
  | [] => rfl
  | g :: l => by
    rw [List.flatMap_cons, List.map_cons, spans_flat m l]
    generalize (if ((2 * g + 1 : Nat) : Int) ≤ m.lastmark then (m.marks.getD (2 * g) none, m.marks.getD (2 * g + 1) none) else (none, none)) = q
    obtain ⟨q1, q2⟩ := q
    cases q1 <;> cases q2 <;> rfl
open PySem.Builtin PySem.Builtin.Re in
theorem match_meets {x : Str} {t : Tok} {c43 : Value} {d43 : Option Addr} {vs : Array Value} {sl43 : Array (Option Value)} {c42 : Value} {d42 : Option Addr} {items : Array Value} {n42 : Nat} {sl42 : Array (Option Value)} {sp : List (Option (Nat × Nat))} {m : Sre.M}
    (v2 : reRawNat (vs.getD 2 .none) = 5) (v6 : reRawNat (vs.getD 6 .none) = 0) (v5 : vs.getD 5 .none = .ref 42) (hi : (items.map reRawOf).map (·.toNat) = reCode) (hx : x.cps.size ≤ 1000) (F : ReFin x.cps sp m) :
    Meets (Builtin.«re.Pattern.match» ⟨[.ref 43, .str x t], []⟩)
      (fun _ R s => s.heap.get? 43 = some ⟨c43, d43, .fields vs, sl43⟩ ∧ s.heap.get? 42 = some ⟨c42, d42, .seq items n42, sl42⟩ ∧
        ∀ li v0 v1, R (.ok (.ret (.ref (s.heap.objs.size + 1)))) { s with heap := (s.heap.push (tupObj (v0 :: v1 :: spanVals sp))).push (matObj x t li s.heap.objs.size x.cps.size) }) := by
  refine .of_wp fun prog w A R s h => ?_
  obtain ⟨h43, h42, h⟩ := h
  unfold Builtin.«re.Pattern.match» reTarget
  refine wpAny_bind ?_
  dsimp only
  refine wpAny_bind (wpAny_of_eq (a := [some (.str x t), none, none]) (by kernel_rfl) ?_)
  refine wpAny_bind (wpAny_pure ?_)
  refine wpAny_bind (wpAny_pure ?_)
  refine wpAny_bind (wpAny_fieldsOf h43 rfl ?_)
  refine wpAny_bind (wpAny_of_eq (a := (x.cps, 0)) rfl ?_)
  dsimp only
  rw [v6, v5, v2]
  rw [if_neg (by decide), if_neg (by decide)]
  refine wpAny_bind (wpAny_of_eq (a := ()) rfl ?_)
  unfold reRawItems
  refine wpAny_bind (wpAny_bind (wpAny_seqItems h42 rfl (wpAny_pure ?_)))
  refine wpAny_pure ?_
  have e1 : min (Int.toNat 0) x.cps.size = 0 := Nat.zero_min _
  have e2 : min (2 ^ 63 - 1 : Int).toNat x.cps.size = x.cps.size := Nat.min_eq_right (Nat.le_trans hx (by decide))
  dsimp only [Option.getD_some]
  rw [hi, e1, e2]
  show wpAny _ _ (reAnswer _ (reStart x.cps)) _ _ _
  unfold reAnswer
  have run := F.run
  generalize reStart x.cps = ms at run ⊢
  refine wpAny_bind ?_
  refine reRun_of (k := 60) (m' := m) run (by decide) F.won ?_
  dsimp only
  unfold reNewMatch
  refine wpAny_bind ?_
  dsimp only
  split
  · rename_i q; exact absurd (F.right.symm.trans q) Bool.false_ne_true
  have hs : (List.range 5).flatMap (fun g => match (if ((2 * g + 1 : Nat) : Int) ≤ m.lastmark then (m.marks.getD (2 * g) none, m.marks.getD (2 * g + 1) none) else (none, none)) with | (some b, some e) => [rawInt b, rawInt e] | _ => [rawInt (-1), rawInt (-1)]) = spanVals sp := (spans_flat m _).trans (congrArg spanVals F.spans)
  have hlen : ∀ l : List Nat, (l.flatMap (fun g => match (if ((2 * g + 1 : Nat) : Int) ≤ m.lastmark then (m.marks.getD (2 * g) none, m.marks.getD (2 * g + 1) none) else (none, none)) with | (some b, some e) => [rawInt b, rawInt e] | _ => [rawInt (-1), rawInt (-1)])).length = 2 * l.length := by
    intro l
    induction l with
    | nil => rfl
    | cons g l ih =>
      rw [List.flatMap_cons, List.length_append, ih, List.length_cons]
      split <;> simp <;> omega
  refine wpAny_bind (wpAny_newTuple ?_ ?_)
  rotate_left
  · show (_ :: _ :: _ : List Value).length ≤ _
    rw [List.length_cons, List.length_cons, sizeLine_eq]
    have := hlen (List.range 5)
    rw [List.length_range] at this
    exact Nat.le_trans (Nat.add_le_add_right (Nat.add_le_add_right (Nat.le_of_eq this) 1) 1) (by decide)
  refine wpAny_newObj_type ?_ (by size_fits)
  refine wpAny_pure ⟨_, rfl, ?_⟩
  have h' := h (rawInt m.lastindex) (rawInt m.start) (rawInt m.handed)
  rw [← hs] at h'
  rw [Heap.size_push]
  exact h'

open PySem.Builtin.Re in
theorem getD_raw (l : List Value) (i : Nat) : (l.toArray.map reRawOf).getD i (-1) = (l.map reRawOf).getD i (-1) := by
  simp [Array.getD_eq_getD_getElem?, List.getD_eq_getElem?_getD]
def spLo : Option (Nat × Nat) → Int | some (b, _) => b | none => -1
def spHi : Option (Nat × Nat) → Int | some (_, e) => e | none => -1
/-- a group's value -/
inductive Gv (x : Str) : Option (Nat × Nat) → Value → Prop
  | no : Gv x none .none
  | yes (b e : Nat) (t : Tok) : Gv x (some (b, e)) (.str ⟨x.cps.extract b e⟩ t)
open PySem.Builtin PySem.Builtin.Re in
theorem group_text {M : Model} {A : Around} {E : Value → Shared → Prop} {s : Shared} {Q : Value → Shared → Prop} {x : Str} {t : Tok} {X : ReFound} {g : Nat} {o : Option (Nat × Nat)} (h0 : X.fields.getD 0 .none = .str x t)
    (h1 : X.spans.getD (2 * g) (-1) = spLo o) (h2 : X.spans.getD (2 * g + 1) (-1) = spHi o) (hx : x.cps.size ≤ 1000)
    (q : ∀ v tk, Gv x o v → Q v { s with toks := tk }) : wpAny M A (reGroupText X g .none) Q E s := by
  unfold reGroupText
  rw [h1, h2]
  cases o with
  | none => exact wpAny_pure (q _ s.toks .no)
  | some p =>
    obtain ⟨b, e⟩ := p
    dsimp only [spLo, spHi]
    rw [if_neg (by simp only [Bool.or_eq_true, decide_eq_true_eq]; omega), h0]
    refine wpAny_bind (wpAny_of_eq (a := (x.cps, 0)) rfl ?_)
    show wpAny _ _ (mkStr ⟨x.cps.extract (b : Int).toNat (e : Int).toNat⟩) _ _ _
    rw [Int.toNat_natCast, Int.toNat_natCast]
    refine wpAny_mkStr (q _ _ (.yes b e _)) ?_
    show (x.cps.extract b e).size ≤ _
    rw [sizeLine_eq, Array.size_extract]
    omega
open PySem.Builtin PySem.Builtin.Re in
theorem groups_meets {x : Str} {t : Tok} {li v0 v1 : Value} {a b n : Nat} {o0 o1 o2 o3 o4 : Option (Nat × Nat)} (hx : x.cps.size ≤ 1000) :
    Meets (Builtin.«re.Match.groups» ⟨[.ref a], []⟩)
      (fun _ R s => s.heap.get? a = some (matObj x t li b n) ∧ s.heap.get? b = some (tupObj (v0 :: v1 :: spanVals [o0, o1, o2, o3, o4])) ∧
        ∀ g0 g1 g2 g3 g4 tk, Gv x o0 g0 → Gv x o1 g1 → Gv x o2 g2 → Gv x o3 g3 → Gv x o4 g4 → R (.ok (.ret (.ref s.heap.objs.size))) { s with heap := s.heap.push (tupObj [g0, g1, g2, g3, g4]), toks := tk }) := by
  refine .of_wp fun prog w A R s h => ?_
  obtain ⟨ha, hb, h⟩ := h
  unfold Builtin.«re.Match.groups» reWithDefault
  refine wpAny_bind ?_
  dsimp only
  refine wpAny_bind (wpAny_of_eq (a := [none]) (by kernel_rfl) ?_)
  unfold reFound
  refine wpAny_bind (wpAny_bind (wpAny_fieldsOf ha rfl ?_))
  refine wpAny_bind ?_
  unfold reRawItems
  refine wpAny_bind (wpAny_seqItems hb rfl (wpAny_pure ?_))
  refine wpAny_pure (wpAny_pure ?_)
  dsimp only [Option.getD_some]
  have hsz : ((v0 :: v1 :: spanVals [o0, o1, o2, o3, o4]).toArray.map reRawOf).size = 12 := by
    simp only [Array.size_map, List.size_toArray]
    cases o0 <;> cases o1 <;> cases o2 <;> cases o3 <;> cases o4 <;> rfl
  have hat : ∀ (k : Nat) (o : Option (Nat × Nat)), [o0, o1, o2, o3, o4][k]? = some o → ((v0 :: v1 :: spanVals [o0, o1, o2, o3, o4]).toArray.map reRawOf).getD (2 * (k + 1)) (-1) = spLo o ∧
      ((v0 :: v1 :: spanVals [o0, o1, o2, o3, o4]).toArray.map reRawOf).getD (2 * (k + 1) + 1) (-1) = spHi o := by
    intro k o hk
    rw [getD_raw, getD_raw]
    match k with
    | 0 => cases hk; cases o0 <;> exact ⟨rfl, rfl⟩
    | 1 => cases hk; cases o0 <;> cases o1 <;> exact ⟨rfl, rfl⟩
    | 2 => cases hk; cases o0 <;> cases o1 <;> cases o2 <;> exact ⟨rfl, rfl⟩
    | 3 => cases hk; cases o0 <;> cases o1 <;> cases o2 <;> cases o3 <;> exact ⟨rfl, rfl⟩
    | 4 => cases hk; cases o0 <;> cases o1 <;> cases o2 <;> cases o3 <;> cases o4 <;> exact ⟨rfl, rfl⟩
    | k + 5 => cases hk
  rw [hsz]
  generalize hsp : (v0 :: v1 :: spanVals [o0, o1, o2, o3, o4]).toArray.map reRawOf = spans at hat ⊢
  rw [show List.range (12 / 2 - 1) = [0, 1, 2, 3, 4] from rfl]
  simp only [List.mapM_cons, List.mapM_nil, bind_assoc, pure_bind]
  refine wpAny_bind (group_text rfl (hat 0 _ rfl).1 (hat 0 _ rfl).2 hx fun g0 k0 q0 => ?_)
  refine wpAny_bind (group_text rfl (hat 1 _ rfl).1 (hat 1 _ rfl).2 hx fun g1 k1 q1 => ?_)
  refine wpAny_bind (group_text rfl (hat 2 _ rfl).1 (hat 2 _ rfl).2 hx fun g2 k2 q2 => ?_)
  refine wpAny_bind (group_text rfl (hat 3 _ rfl).1 (hat 3 _ rfl).2 hx fun g3 k3 q3 => ?_)
  refine wpAny_bind (group_text rfl (hat 4 _ rfl).1 (hat 4 _ rfl).2 hx fun g4 k4 q4 => ?_)
  refine wpAny_bind (wpAny_newTuple ?_ (by rw [sizeLine_eq]; simp))
  exact wpAny_pure ⟨_, rfl, h _ _ _ _ _ _ q0 q1 q2 q3 q4⟩

end
-- part PC
section
-- column_index_from_string: reversed(str), zip of it with a tuple
theorem slot_rev_init : Slot "reversed" "__init__" "object.__init__" :=
  .of (owner := "object") (n := "__init__") (by rw [typeLookup_type, builtinLookup_eq_fast]; kernel_rfl) (by decide +kernel) (by decide +kernel) (by decide +kernel)
    (by first | exact .inl (by decide +kernel) | exact .inr (by decide +kernel)) (by rw [isSubtype_type]; kernel_rfl)
theorem slot_rev_next : Slot "reversed" "__next__" "reversed.__next__" :=
  .of (owner := "reversed") (n := "__next__") (by rw [typeLookup_type, builtinLookup_eq_fast]; kernel_rfl) (by decide +kernel) (by decide +kernel) (by decide +kernel)
    (by first | exact .inl (by decide +kernel) | exact .inr (by decide +kernel)) (by rw [isSubtype_type]; kernel_rfl)
theorem entry_rev_next : entryFor table "reversed.__next__" = some Builtin.«reversed.__next__» := entryFor_of_tree (by kernel_rfl)
theorem args_rev_next (a : Value) : argsOk "reversed.__next__" ⟨[a], []⟩ := by unfold argsOk; kernel_rfl
theorem slot_rev_iter : Slot "reversed" "__iter__" "reversed.__iter__" :=
  .of (owner := "reversed") (n := "__iter__") (by rw [typeLookup_type, builtinLookup_eq_fast]; kernel_rfl) (by decide +kernel) (by decide +kernel) (by decide +kernel)
    (by first | exact .inl (by decide +kernel) | exact .inr (by decide +kernel)) (by rw [isSubtype_type]; kernel_rfl)
theorem args_rev_iter (a : Value) : argsOk "reversed.__iter__" ⟨[a], []⟩ := by unfold argsOk; kernel_rfl
theorem entry_rev_iter : entryFor table "reversed.__iter__" = some Builtin.«dict_keyiterator.__iter__» :=
  entryFor_alias (id' := "dict_keyiterator.__iter__") (by kernel_rfl) (by first | rfl | decide +kernel | (unfold String.splitOn; simp +decide [String.splitOnAux])) (by decide +kernel) (by kernel_rfl)
theorem called_rev : TypeCalled "reversed" "reversed.__new__" "object.__init__" :=
  ⟨by decide +kernel, by decide +kernel, ⟨_, _, F.mro_reversed⟩, F.made_reversed, by decide +kernel, by rw [isSubtype_type]; kernel_rfl, slot_rev_init⟩
theorem no_rev_str : typeLookup (.type "str") "__reversed__" = pure none := by rw [typeLookup_type, builtinLookup_eq_fast]; kernel_rfl
theorem sub_str_dict : isSubtype (.type "str") (.type "dict") = pure false := by rw [isSubtype_type]; kernel_rfl
abbrev revStr (x : Str) (t : Tok) (j : Int) : Obj := { cls := .type "reversed", data := .fields #[.str x t, rawInt j] }
theorem rev_new (x : Str) (t : Tok) (hx : x.length ≤ 1000) :
    Meets (Builtin.«reversed.__new__» ⟨[.type "reversed", .str x t], []⟩) (fun _ R s => R (.ok (.ret (.ref s.heap.objs.size))) { s with heap := s.heap.push (revStr x t ((x.length : Int) - 1)), toks := s.toks + 1 + 1 }) :=
  .of_wp fun prog w A R s h => by
    obtain ⟨hp, g, d, tk, os⟩ := s
    unfold Builtin.«reversed.__new__»
    refine wpAny_bind (wpAny_of_eq (newClass_reversed _) ?_)
    try dsimp only
    refine wpAny_bind (wpAny_of_eq (a := ()) (by first | rfl | kernel_rfl) ?_)
    refine wpAny_bind (wpAny_of_eq (a := ()) (by first | rfl | kernel_rfl) ?_)
    try dsimp only
    refine wpAny_bind (wpAny_specialOf (typeIs_str _ x t) no_rev_str ?_)
    try dsimp only
    refine wpAny_bind ?_
    refine wpAny_bind (m := isInstance _ _) (wpAny_isInstance (b := false) (typeIs_str _ x t) sub_str_dict ?_)
    try dsimp only
    refine wpAny_pure ?_
    refine wpAny_bind (len_str (by omega) ?_)
    refine wpAny_bind (wpAny_of_eq (a := some (x.length : Int)) rfl ?_)
    try dsimp only
    wp_walk
    exact ⟨_, rfl, h⟩
theorem call_rev {w : World} {A : Around} {E : Value → Shared → Prop} {s : Shared} {x : Str} {t : Tok} {Q : Value → Shared → Prop} (hx : x.length ≤ 1000)
    (h : Q (.ref s.heap.objs.size) { s with heap := s.heap.push (revStr x t ((x.length : Int) - 1)), toks := s.toks + 1 + 1 }) : wpAny (model prg w) A (call (.type "reversed") [.str x t]) Q E s :=
  callType_new called_rev (by decide) (F.typeCall_reversed_1 _) (F.newCall_reversed_1 _) (fun obj => F.args_object_init_2 obj _) F.entry_reversed_new (rev_new x t hx) ⟨⟨_, Heap.get?_push_size _ rfl, rfl⟩, h⟩
def IsRev (h : Heap) (a : Addr) (x : Str) (t : Tok) (j : Int) : Prop := h.get? a = some (revStr x t j)
theorem typeIs_rev {s : Shared} {a : Addr} {x : Str} {t : Tok} {j : Int} (x : IsRev s.heap a x t j) : s.TypeIs (.ref a) "reversed" := ⟨_, x, rfl⟩
theorem seqIx (n k : Nat) (h : k < n) : seqIndex? (k : Int) n = some k := by
  unfold seqIndex?
  have : ¬ ((k : Int) < 0) := by omega
  simp [this, h]
theorem next_rev_item {w : World} {A : Around} {E : Value → Shared → Prop} {s : Shared} {it : Addr} {x : Str} {t : Tok} {k c : Nat} {Q : Value → Shared → Prop} (hx : x.length ≤ 1000) (hit : IsRev s.heap it x t (k : Int)) (hc : x.cps[k]? = some c)
    (hQ : ∀ h' tk, IsRev h' it x t ((k : Int) - 1) → Heap.SameBut it s.heap h' → Q (.str ⟨#[c]⟩ (s.toks + 1)) { s with heap := h', toks := tk }) :
    wpAny (model prg w) A (Builtin.SmallTypes.nextOf (.ref it)) Q E s := by
  have hk : k < x.length := (Array.getElem?_eq_some_iff.mp hc).1
  unfold Builtin.SmallTypes.nextOf
  refine wpAny_bind (wpAny_callSpecial?_slot (name := Str.ofString "__next__") (typeIs_rev hit) slot_rev_next
    (wpAny_call_entry slot_rev_next (typeIs_rev hit) entry_rev_next ?_ (args_rev_next _)))
  unfold Builtin.«reversed.__next__»
  refine wpAny_bind (wpAny_of_eq (a := (Value.ref it, [])) rfl ?_)
  try dsimp only
  refine wpAny_bind (wpAny_field hit rfl (x := .str x t) rfl ?_)
  refine wpAny_bind (wpAny_field hit rfl (x := rawInt (k : Int)) rfl ?_)
  show wpAny _ _ (if (k : Int) < 0 then _ else _) _ _ s
  rw [if_neg (by omega)]
  refine wpAny_bind (wpAny_specialOf (typeIs_str _ x t) F.slot_str_getitem.lookup ?_)
  show wpAny _ _ (if false = true then _ else _) _ _ s
  rw [if_neg (by decide)]
  refine wpAny_bind (wpAny_mkInt ?_)
  refine wpAny_bind (wpAny_attempt (getItem_str (c := c) (by simp; omega) (by rw [seqIx _ _ hk]; exact hc) ?_))
  show wpAny _ _ (field (.ref it) 1 >>= _) _ _ _
  refine wpAny_bind (wpAny_field (s := { s with toks := s.toks + 1 + 1 }) hit rfl (x := rawInt (k : Int)) rfl ?_)
  refine wpAny_bind (wpAny_setField_rec hit (by simp) fun h' ho hs => ?_)
  refine wpAny_pure ⟨_, rfl, wpAny_pure (hQ h' _ ho hs)⟩
theorem next_rev_end {w : World} {A : Around} {E : Value → Shared → Prop} {s : Shared} {it : Addr} {x : Str} {t : Tok} {Q : Value → Shared → Prop} (hh : A.handled = none) (hit : IsRev s.heap it x t (-1))
    (hE : ∀ h' e, Heap.ExtBut it s.heap h' → (∃ o, h'.get? e = some o ∧ o.cls = .type "StopIteration") → E (.ref e) { s with heap := h' }) :
    wpAny (model prg w) A (Builtin.SmallTypes.nextOf (.ref it)) Q E s := by
  unfold Builtin.SmallTypes.nextOf
  refine wpAny_bind (wpAny_callSpecial?_slot (name := Str.ofString "__next__") (typeIs_rev hit) slot_rev_next
    (wpAny_call_entry slot_rev_next (typeIs_rev hit) entry_rev_next ?_ (args_rev_next _)))
  unfold Builtin.«reversed.__next__»
  refine wpAny_bind (wpAny_of_eq (a := (Value.ref it, [])) rfl ?_)
  try dsimp only
  refine wpAny_bind (wpAny_field hit rfl (x := .str x t) rfl ?_)
  refine wpAny_bind (wpAny_field hit rfl (x := rawInt (-1)) rfl ?_)
  show wpAny _ _ (if (-1 : Int) < 0 then _ else _) _ _ s
  rw [if_pos (by decide)]
  refine wpAny_bind (wpAny_rule ?_)
  refine wpAny_bind ?_
  refine wpAny_bind (m := setField _ _ _) (wpAny_setField_rec hit (by simp) fun h₁ ho hs => ?_)
  refine wpAny_setField_rec ho (by simp) fun h₂ ho₂ hs₂ => ?_
  refine wpAny_bind ?_
  show wpAny _ _ (newExc (.type "StopIteration") [] >>= _) _ _ _
  refine wpAny_bind ?_
  simp only [newExc, newTuple]
  refine wpAny_bind (wpAny_newObj_type ?_ (by size_fits))
  refine wpAny_bind (m := firstArgMember _ _) (wpAny_of_eq (a := Value.none) (by first | rfl | (simp only [firstArgMember]; rfl)) ?_)
  refine wpAny_newObj_type ?_ (by size_fits)
  simp only [raiseNew]
  refine wpAny_bind (wpAny_handled ?_)
  first | rw [show A.in1.handled = none from hh] | rw [hh]
  refine wpAny_bind (wpAny_pure (wpAny_throw ?_))
  exact hE _ _ (((hs.trans hs₂).extBut.push _).push _) ⟨_, Heap.get?_push_size _ rfl, rfl⟩
theorem draws_rev {w : World} {A : Around} (hh : A.handled = none) (it : Addr) (x : Str) (t : Tok) (hx : x.length ≤ 1000) :
    Draws prg w A it [it] x.cps.size (fun i v => ∃ c u, x.cps[x.cps.size - 1 - i]? = some c ∧ v = .str ⟨#[c]⟩ u) (fun i h => IsRev h it x t ((x.cps.size : Int) - 1 - (i : Int))) where
  live := fun _ _ st => ⟨_, st⟩
  frame := fun _ _ _ st hk => hk it (by simp) _ st
  item := fun i s Q E hi st hQ => by
    have hi' : x.cps.size - 1 - i < x.cps.size := by omega
    have e : (x.cps.size : Int) - 1 - (i : Int) = ((x.cps.size - 1 - i : Nat) : Int) := by omega
    rw [e] at st
    refine next_rev_item hx st (c := x.cps[x.cps.size - 1 - i]) (by simp [hi']) fun h' tk hit' hs' => ?_
    refine hQ _ h' tk ⟨_, _, by simp [hi'], rfl⟩ ?_ hs'
    have e2 : (x.cps.size : Int) - 1 - ((i + 1 : Nat) : Int) = ((x.cps.size - 1 - i : Nat) : Int) - 1 := by omega
    rw [e2]; exact hit'
  done := fun s Q E st hE => by
    have e : (x.cps.size : Int) - 1 - (x.cps.size : Int) = -1 := by omega
    rw [e] at st
    exact next_rev_end hh st hE
theorem next_tup_item {w : World} {A : Around} {E : Value → Shared → Prop} {s : Shared} {it t : Addr} {i : Nat} {items : Array Value} {x : Value} {Q : Value → Shared → Prop} (hit : s.heap.IsTupleIter it t i)
    (ht : s.heap.IsTuple t items) (hx : items[i]? = some x)
    (hQ : ∀ h', h'.IsTupleIter it t (i + 1) → Heap.SameBut it s.heap h' → Q x { s with heap := h' }) :
    wpAny (model prg w) A (Builtin.SmallTypes.nextOf (.ref it)) Q E s := by
  obtain ⟨o, ho, hc, hd⟩ := id hit
  obtain ⟨ol, hol, _, nl, hdl⟩ := ht
  unfold Builtin.SmallTypes.nextOf
  refine wpAny_bind (wpAny_callSpecial?_slot (name := Str.ofString "__next__") hit.typeIs F.slot_tuple_iterator_next
    (wpAny_call_entry F.slot_tuple_iterator_next hit.typeIs F.entry_tuple_iterator_next ?_ (F.args_tuple_iterator_next_1 _)))
  show wpAny _ _ (field (.ref it) 0 >>= _) _ _ s
  refine wpAny_bind (wpAny_field ho hd (x := .ref t) rfl ?_)
  show wpAny _ _ (if (Value.ref t == Value.none) = true then _ else _) _ _ s
  rw [if_neg (show ¬ ((Value.ref t == Value.none) = true) from Bool.false_ne_true)]
  show wpAny _ _ (field (.ref it) 1 >>= _) _ _ s
  refine wpAny_bind (wpAny_field ho hd (x := .int i 0) rfl ?_)
  show wpAny _ _ (seqItems? (.ref t) >>= _) _ _ s
  refine wpAny_bind (wpAny_seqItems hol hdl ?_)
  simp only [Int.toNat_natCast, hx]
  refine wpAny_bind (wpAny_setField ho hd (by simp) (wpAny_pure ⟨x, rfl, wpAny_pure (hQ _ ?_ (Heap.SameBut.update ..))⟩))
  exact ⟨_, Heap.get?_update_self _ ho (Obj.isFreed_of_fields (Obj.data_mapFields hd _)), (Obj.cls_mapFields ..).trans hc, by
    rw [Obj.data_mapFields hd]; simp [rawInt]⟩
structure ZipOff (z TI TO i1 i2 t2 : Addr) : Prop where
  TIz : TI ≠ z
  TOz : TO ≠ z
  i1z : i1 ≠ z
  i2z : i2 ≠ z
  TITO : TI ≠ TO
  TIi1 : TI ≠ i1
  TIi2 : TI ≠ i2
  TOi1 : TO ≠ i1
  TOi2 : TO ≠ i2
  i12 : i1 ≠ i2
  t2z : t2 ≠ z
  t2TO : t2 ≠ TO
  t2i1 : t2 ≠ i1
  t2i2 : t2 ≠ i2
theorem zipD_item {w : World} {A : Around} {E : Value → Shared → Prop} {s : Shared} {z TI TO i1 i2 t2 : Addr} {n k : Nat} {P : Nat → Value → Prop} {St : Nat → Heap → Prop} {ys : Array Value} {y a b : Value} {Q : Value → Shared → Prop}
    (D : Draws prg w A i1 [i1] n P St) (off : ZipOff z TI TO i1 i2 t2) (hk : k < n) (hz : IsZip s.heap z TI TO .none) (hTI : IsPair s.heap TI (.ref i1) (.ref i2)) (hTO : IsPair s.heap TO a b)
    (h1 : St k s.heap) (h2 : s.heap.IsTupleIter i2 t2 k) (hl2 : s.heap.IsTuple t2 ys) (hy : ys[k]? = some y)
    (hQ : ∀ x h' tk, P k x → IsZip h' z TI TO (rawInt s.heap.objs.size) → IsPair h' TO x y → St (k + 1) h' → h'.IsTupleIter i2 t2 (k + 1) → IsPair h' s.heap.objs.size x y →
      (∀ c o, c ≠ z → c ≠ TO → c ≠ i1 → c ≠ i2 → s.heap.get? c = some o → h'.get? c = some o) → Q (.ref s.heap.objs.size) { s with heap := h', toks := tk }) :
    wpAny (model prg w) A (Builtin.«zip.__next__» ⟨[.ref z], []⟩) (fun fin s' => ∃ v, fin = .done (.ret v) ∧ Q v s') E s := by
  have keepSt : ∀ {i h h'} {c : Addr}, St i h → Heap.SameBut c h h' → c ≠ i1 → St i h' := fun st hs hc => D.frame _ _ _ st fun b hb o e => by
    rw [List.mem_singleton.mp hb] at e ⊢; exact hs.extBut _ _ (Ne.symm hc) e
  show wpAny _ _ (field (.ref z) 2 >>= _) _ _ _
  refine wpAny_bind (wpAny_field hz rfl (x := .bool false) rfl ?_)
  show wpAny _ _ (field (.ref z) 3 >>= _) _ _ _
  refine wpAny_bind (wpAny_field hz rfl (x := .ref TI) rfl ?_)
  refine wpAny_bind (wpAny_seqItems hTI rfl ?_)
  show wpAny _ _ (Builtin.SmallTypes.ownedTupleIsFree (.ref z) >>= _) _ _ _
  refine wpAny_bind ?_
  unfold Builtin.SmallTypes.ownedTupleIsFree
  refine wpAny_bind (wpAny_field hz rfl (x := .none) rfl (wpAny_pure ?_))
  simp only [if_true]
  refine wpAny_bind (wpAny_rule ?_)
  refine wpAny_bind (wpAny_field hz rfl (x := .ref TO) rfl ?_)
  refine wpAny_bind (wpAny_setField_rec hz (by simp) fun h₁ hz₁ hs₁ => ?_)
  replace hz₁ : IsZip h₁ z TI TO .ellipsis := hz₁
  refine wpAny_bind ?_
  simp only [List.zipIdx_cons, List.zipIdx_nil, List.forIn_cons, List.forIn_nil]
  refine wpAny_bind (wpAny_bind (wpAny_onRaise ?_))
  show wpAny _ _ (Builtin.SmallTypes.nextOf (.ref i1) >>= _) _ _ _
  refine wpAny_bind (D.item k _ _ _ hk (keepSt h1 hs₁ off.i1z.symm) fun x h₂ tk₂ hP h1₂ hs₂ => wpAny_pure ?_)
  replace hs₂ : Heap.SameBut i1 h₁ h₂ := hs₂
  have hTO₂ : IsPair h₂ TO a b := hs₂.extBut _ _ off.TOi1 (hs₁.extBut _ _ off.TOz hTO)
  refine wpAny_bind (wpAny_seqItems (s := ⟨h₂, s.gens, s.drawn, tk₂, s.os⟩) hTO₂ rfl ?_)
  refine wpAny_bind (wpAny_updateSeq_pair hTO₂ fun h₃ hTO₃ hs₃ => ?_)
  replace hTO₃ : IsPair h₃ TO x b := hTO₃
  replace hs₃ : Heap.SameBut TO h₂ h₃ := hs₃
  refine wpAny_bind (wpAny_letGo (wpAny_pure ?_))
  refine wpAny_bind (wpAny_bind (wpAny_onRaise ?_))
  show wpAny _ _ (Builtin.SmallTypes.nextOf (.ref i2) >>= _) _ _ _
  have h2₃ : h₃.IsTupleIter i2 t2 k := ((h2.extBut hs₁.extBut off.i2z).extBut hs₂.extBut off.i12.symm).extBut hs₃.extBut off.TOi2.symm
  have hl₃ : h₃.IsTuple t2 ys := ((hl2.extBut hs₁.extBut off.t2z).extBut hs₂.extBut off.t2i1).extBut hs₃.extBut off.t2TO
  refine wpAny_bind (next_tup_item h2₃ hl₃ hy fun h₄ h2₄ hs₄ => wpAny_pure ?_)
  replace hs₄ : Heap.SameBut i2 h₃ h₄ := hs₄
  have hTO₄ : IsPair h₄ TO x b := hs₄.extBut _ _ off.TOi2 hTO₃
  refine wpAny_bind (wpAny_seqItems (s := ⟨h₄, s.gens, s.drawn, tk₂, s.os⟩) hTO₄ rfl ?_)
  refine wpAny_bind (wpAny_updateSeq_pair hTO₄ fun h₅ hTO₅ hs₅ => ?_)
  replace hTO₅ : IsPair h₅ TO x y := hTO₅
  replace hs₅ : Heap.SameBut TO h₄ h₅ := hs₅
  refine wpAny_bind (wpAny_letGo (wpAny_pure (wpAny_pure ?_)))
  refine wpAny_bind (wpAny_seqItems (s := ⟨h₅, s.gens, s.drawn, tk₂, s.os⟩) hTO₅ rfl ?_)
  refine wpAny_bind (wpAny_newTuple ?_)
  have hsz : h₅.objs.size = s.heap.objs.size := by rw [hs₅.1, hs₄.1, hs₃.1, hs₂.1, hs₁.1]
  have hz₅ : IsZip h₅ z TI TO .ellipsis := hs₅.extBut _ _ off.TOz.symm (hs₄.extBut _ _ off.i2z.symm (hs₃.extBut _ _ off.TOz.symm (hs₂.extBut _ _ off.i1z.symm hz₁)))
  have hk₅ : ∀ c o, c ≠ z → c ≠ TO → c ≠ i1 → c ≠ i2 → s.heap.get? c = some o → h₅.get? c = some o := fun c o c1 c2 c3 c4 e =>
    hs₅.extBut _ _ c2 (hs₄.extBut _ _ c4 (hs₃.extBut _ _ c2 (hs₂.extBut _ _ c3 (hs₁.extBut _ _ c1 e))))
  have h1₅ : St (k + 1) h₅ := keepSt (keepSt (keepSt h1₂ hs₃ off.TOi1) hs₄ off.i12.symm) hs₅ off.TOi1
  have h2₅ : h₅.IsTupleIter i2 t2 (k + 1) := h2₄.extBut hs₅.extBut off.TOi2.symm
  have hzlt : z < h₅.objs.size := Heap.lt_size hz₅
  show wpAny _ _ (Builtin.SmallTypes.ownedTupleHandOut (.ref z) (.ref h₅.objs.size) >>= _) _ _ _
  refine wpAny_bind ?_
  unfold Builtin.SmallTypes.ownedTupleHandOut
  have hz₆ : IsZip (h₅.push { cls := .type "tuple", data := .seq #[x, y] }) z TI TO .ellipsis := Heap.get?_push_of_some _ hz₅
  refine wpAny_bind (wpAny_setField_rec hz₆ (by simp) fun h₇ hz₇ hs₇ => ?_)
  replace hz₇ : IsZip h₇ z TI TO (rawInt h₅.objs.size) := hz₇
  refine wpAny_setField_rec hz₇ (by simp) fun h₈ hz₈ hs₈ => ?_
  replace hz₈ : IsZip h₈ z TI TO (rawInt h₅.objs.size) := hz₈
  have up : ∀ c o, c ≠ z → h₅.get? c = some o → h₈.get? c = some o := fun c o c1 e => hs₈.extBut _ _ c1 (hs₇.extBut _ _ c1 (Heap.get?_push_of_some _ e))
  have hT₈ : IsPair h₈ h₅.objs.size x y := hs₈.extBut _ _ (Nat.ne_of_gt hzlt) (hs₇.extBut _ _ (Nat.ne_of_gt hzlt) (Heap.get?_push_size _ rfl))
  rw [hsz] at hz₈ hT₈
  refine wpAny_pure ⟨_, rfl, ?_⟩
  show Q (.ref h₅.objs.size) _
  rw [hsz]
  exact hQ x h₈ tk₂ hP hz₈ (up _ _ off.TOz hTO₅) (D.frame _ _ _ h1₅ fun b hb o e => up _ o (by rw [List.mem_singleton.mp hb]; exact off.i1z) e)
    (let ⟨o, ho, r⟩ := h2₅; ⟨o, up _ o off.i2z ho, r⟩) hT₈ fun c o c1 c2 c3 c4 e => up c o c1 (hk₅ c o c1 c2 c3 c4 e)
theorem zipD_end {w : World} {A : Around} {E : Value → Shared → Prop} {s : Shared} {z TI TO i1 i2 t2 : Addr} {n : Nat} {P : Nat → Value → Prop} {St : Nat → Heap → Prop} {a b : Value} {Q : Fin → Shared → Prop}
    (D : Draws prg w A i1 [i1] n P St) (off : ZipOff z TI TO i1 i2 t2) (hz : IsZip s.heap z TI TO .none) (hTI : IsPair s.heap TI (.ref i1) (.ref i2)) (hTO : IsPair s.heap TO a b)
    (h1 : St n s.heap)
    (hE : ∀ h' e, (∀ c o, c ≠ z → c ≠ TO → c ≠ i1 → c ≠ i2 → s.heap.get? c = some o → h'.get? c = some o) → (∃ o, h'.get? e = some o ∧ o.cls = .type "StopIteration") → E (.ref e) { s with heap := h' }) :
    wpAny (model prg w) A (Builtin.«zip.__next__» ⟨[.ref z], []⟩) Q E s := by
  have keepSt : ∀ {i h h'} {c : Addr}, St i h → Heap.SameBut c h h' → c ≠ i1 → St i h' := fun st hs hc => D.frame _ _ _ st fun b hb o e => by
    rw [List.mem_singleton.mp hb] at e ⊢; exact hs.extBut _ _ (Ne.symm hc) e
  show wpAny _ _ (field (.ref z) 2 >>= _) _ _ _
  refine wpAny_bind (wpAny_field hz rfl (x := .bool false) rfl ?_)
  show wpAny _ _ (field (.ref z) 3 >>= _) _ _ _
  refine wpAny_bind (wpAny_field hz rfl (x := .ref TI) rfl ?_)
  refine wpAny_bind (wpAny_seqItems hTI rfl ?_)
  show wpAny _ _ (Builtin.SmallTypes.ownedTupleIsFree (.ref z) >>= _) _ _ _
  refine wpAny_bind ?_
  unfold Builtin.SmallTypes.ownedTupleIsFree
  refine wpAny_bind (wpAny_field hz rfl (x := .none) rfl (wpAny_pure ?_))
  simp only [if_true]
  refine wpAny_bind (wpAny_rule ?_)
  refine wpAny_bind (wpAny_field hz rfl (x := .ref TO) rfl ?_)
  refine wpAny_bind (wpAny_setField_rec hz (by simp) fun h₁ hz₁ hs₁ => ?_)
  replace hz₁ : IsZip h₁ z TI TO .ellipsis := hz₁
  refine wpAny_bind ?_
  simp only [List.zipIdx_cons, List.zipIdx_nil, List.forIn_cons, List.forIn_nil]
  refine wpAny_bind (wpAny_bind (wpAny_onRaise ?_))
  show wpAny _ _ (Builtin.SmallTypes.nextOf (.ref i1) >>= _) _ _ _
  refine wpAny_bind (D.done _ _ _ (keepSt h1 hs₁ off.i1z.symm) fun h₂ e hs₂ he => ?_)
  obtain ⟨oe, hoe, hce⟩ := he
  have hz₂ : IsZip h₂ z TI TO .ellipsis := hs₂ _ _ off.i1z.symm hz₁
  have hez : e ≠ z := fun x => by subst x; rw [hz₂] at hoe; cases hoe; simp at hce
  refine wpAny_setField_rec hz₂ (by simp) fun h₃ _ hs₃ => hE h₃ e (fun c o c1 _ c3 _ x => hs₃.extBut _ _ c1 (hs₂ _ _ c3 (hs₁.extBut _ _ c1 x))) ⟨oe, hs₃.extBut _ _ hez hoe, hce⟩
theorem walks_zipD {w : World} {A : Around} {z TI TO i1 i2 t2 : Addr} {n : Nat} {P : Nat → Value → Prop} {St : Nat → Heap → Prop} {ys : Array Value}
    (D : ∀ A' : Around, A'.handled = none → Draws prg w A' i1 [i1] n P St) (hh : A.handled = none) (off : ZipOff z TI TO i1 i2 t2) (hn : n ≤ ys.size) :
    WalksT prg w A z [z, TI, TO, i1, i2, t2] [z, TO, i1, i2] n (fun i vals => ∃ x y, P i x ∧ ys[i]? = some y ∧ vals = #[x, y])
      (fun i h => IsZip h z TI TO .none ∧ IsPair h TI (.ref i1) (.ref i2) ∧ (∃ a b, IsPair h TO a b) ∧ St i h ∧ h.IsTupleIter i2 t2 i ∧ h.IsTuple t2 ys)
      (fun i T h => IsZip h z TI TO (rawInt T) ∧ IsPair h TI (.ref i1) (.ref i2) ∧ (∃ a b, IsPair h TO a b) ∧ St (i + 1) h ∧ h.IsTupleIter i2 t2 (i + 1) ∧ h.IsTuple t2 ys ∧ T ≠ z ∧ T ≠ TO ∧ T ≠ i1 ∧ T ≠ i2) where
  sub := fun c hc => by simp at hc ⊢; rcases hc with rfl | rfl | rfl | rfl <;> simp
  frame := fun i h h' hst hk => by
    obtain ⟨hz, hTI, ⟨a, b, hTO⟩, h1, ⟨o2, h2, r2⟩, ⟨o3, h3, r3⟩⟩ := hst
    exact ⟨hk z (by simp) _ hz, hk TI (by simp) _ hTI, ⟨a, b, hk TO (by simp) _ hTO⟩, (D A hh).frame _ _ _ h1 fun c hc o e => hk c (by rw [List.mem_singleton.mp hc]; simp) o e,
      ⟨o2, hk i2 (by simp) _ h2, r2⟩, ⟨o3, hk t2 (by simp) _ h3, r3⟩⟩
  item := fun i s Q E hi hst hQ => by
    obtain ⟨hz, hTI, ⟨a, b, hTO⟩, h1, h2, hl2⟩ := hst
    have hiy : i < ys.size := Nat.lt_of_lt_of_le hi hn
    have hT : s.TypeIs (.ref z) "zip" := ⟨_, hz, rfl⟩
    unfold pyNext
    refine wpAny_bind (wpAny_attempt (wpAny_callSpecial?_slot (name := Str.ofString "__next__") hT F.slot_zip_next
      (wpAny_call_entry F.slot_zip_next hT F.entry_zip_next
        (zipD_item (D _ hh) off hi hz hTI hTO h1 h2 hl2 (Array.getElem?_eq_getElem hiy) fun x h' tk hP a1 a2 a3 a4 a5 hk => ?_) (F.args_zip_next_1 _))))
    refine wpAny_pure ?_
    have lt : ∀ {c o}, s.heap.get? c = some o → s.heap.objs.size ≠ c := fun e => Nat.ne_of_gt (Heap.lt_size e)
    exact hQ s.heap.objs.size #[x, ys[i]] h' tk ⟨_, _, hP, Array.getElem?_eq_getElem hiy, rfl⟩ (Nat.le_refl _) ⟨_, a5, rfl, _, rfl⟩
      ⟨a1, hk _ _ off.TIz off.TITO off.TIi1 off.TIi2 hTI, ⟨_, _, a2⟩, a3, a4, (let ⟨o, ho, r⟩ := hl2; ⟨o, hk _ o off.t2z off.t2TO off.t2i1 off.t2i2 ho, r⟩),
        lt hz, lt hTO, (by obtain ⟨_, e⟩ := (D A hh).live _ _ h1; exact lt e), (by obtain ⟨_, e, _⟩ := h2; exact lt e)⟩
      fun c o hc e => hk c o (fun x => hc (by simp [x])) (fun x => hc (by simp [x])) (fun x => hc (by simp [x])) (fun x => hc (by simp [x])) e
  go := fun elts k pos i T s Q E hm hQ => by
    obtain ⟨hz, hTI, ⟨a, b, hTO⟩, h1, h2, hl2, _⟩ := hm
    refine wpAny_letOwnedTupleGo_zip hz fun h' hz' hs' => hQ h' ⟨hz', hs'.extBut _ _ off.TIz hTI, ⟨a, b, hs'.extBut _ _ off.TOz hTO⟩,
      (D A hh).frame _ _ _ h1 fun c hc o e => hs'.extBut _ _ (by rw [List.mem_singleton.mp hc]; exact off.i1z) e, h2.extBut hs'.extBut off.i2z, hl2.extBut hs'.extBut off.t2z⟩ fun c o hc e => hs'.extBut _ _ (fun x => hc (by simp [x])) e
  apart := fun i T h hm hT => by
    obtain ⟨_, _, _, _, _, _, t1, t2, t3, t4⟩ := hm
    simp at hT
    rcases hT with rfl | rfl | rfl | rfl
    · exact t1 rfl
    · exact t2 rfl
    · exact t3 rfl
    · exact t4 rfl
  done := fun s Q E hst hQ => by
    obtain ⟨hz, hTI, ⟨a, b, hTO⟩, h1, h2, hl2⟩ := hst
    have hT : s.TypeIs (.ref z) "zip" := ⟨_, hz, rfl⟩
    unfold pyNext
    refine wpAny_bind (wpAny_attempt (wpAny_callSpecial?_slot (name := Str.ofString "__next__") hT F.slot_zip_next
      (wpAny_call_entry F.slot_zip_next hT F.entry_zip_next (zipD_end (D _ hh) off hz hTI hTO h1 fun h' e hk he => ?_) (F.args_zip_next_1 _))))
    obtain ⟨o, ho, hc⟩ := he
    refine wpAny_bind (wpAny_isInstance (T := "StopIteration") (b := true) ⟨o, ho, hc⟩ isSubtype_stop ?_)
    exact wpAny_pure (hQ h' s.toks fun c o hc e => hk c o (fun x => hc (by simp [x])) (fun x => hc (by simp [x])) (fun x => hc (by simp [x])) (fun x => hc (by simp [x])) e)
  self := fun i s Q E hst hQ => wpAny_pyIter_zip hst.1 hQ
-- zip(reversed, tuple)
abbrev zrH1 (h : Heap) (t2 : Addr) : Heap := h.push { cls := .type "tuple_iterator", data := .fields #[.ref t2, .int 0 0] }
abbrev zrH2 (h : Heap) (r t2 : Addr) : Heap := (zrH1 h t2).push { cls := .type "tuple", data := .seq #[.ref r, .ref h.objs.size] }
abbrev zrH3 (h : Heap) (r t2 : Addr) : Heap := (zrH2 h r t2).push { cls := .type "tuple", data := .seq #[.none, .none] }
abbrev zrH4 (h : Heap) (r t2 : Addr) : Heap := (zrH3 h r t2).push { cls := .type "zip", data := .fields #[.none, .bool false, .bool false, .ref (zrH1 h t2).objs.size, .ref (zrH2 h r t2).objs.size] }
theorem pyIter_rev {prog : Program} {w : World} {A : Around} {E : Value → Shared → Prop} {s : Shared} {it : Addr} {x : Str} {t : Tok} {i : Int} {Q : Value → Shared → Prop} (hit : IsRev s.heap it x t i) (h : Q (.ref it) s) : wpAny (model prog w) A (pyIter (.ref it)) Q E s := by
  refine wpAny_pyIter_slot (typeIs_rev hit) slot_rev_iter (wpAny_call_entry slot_rev_iter (typeIs_rev hit) entry_rev_iter ?_ (args_rev_iter _))
  show wpAny _ _ (ret (.ref it)) _ _ s
  exact wpAny_pure ⟨_, rfl, "reversed", _, typeIs_rev hit, slot_rev_next.lookup, h⟩
theorem zr_new (r t2 : Addr) (x : Str) (t : Tok) (i : Int) (ys : Array Value) :
    Meets (Builtin.«zip.__new__» ⟨[.type "zip", .ref r, .ref t2], []⟩) (fun _ R s => IsRev s.heap r x t i ∧ s.heap.IsTuple t2 ys ∧
      R (.ok (.ret (.ref (zrH3 s.heap r t2).objs.size))) { s with heap := zrH4 s.heap r t2 }) :=
  .of_wp fun prog w A R s h => by
    obtain ⟨hp, g, d, tk, os⟩ := s; obtain ⟨hl1, hl2, h⟩ := h
    have hsub := sub_zip
    have hL1 : IsRev (Shared.heap ⟨hp, g, d, tk, os⟩) r x t i := hl1
    have hL2 : Heap.IsTuple (Shared.heap ⟨hp, g, d, tk, os⟩) t2 ys := hl2
    wp_walk using pyIter_rev hL1, wpAny_pyIter_tuple hL2
    exact ⟨_, rfl, h⟩
theorem call_zr {w : World} {A : Around} {E : Value → Shared → Prop} {s : Shared} {r t2 : Addr} {x : Str} {t : Tok} {i : Int} {ys : Array Value} {Q : Value → Shared → Prop} (hl1 : IsRev s.heap r x t i) (hl2 : s.heap.IsTuple t2 ys)
    (h : ∀ h', IsZip h' (s.heap.objs.size + 3) (s.heap.objs.size + 1) (s.heap.objs.size + 2) .none → IsPair h' (s.heap.objs.size + 1) (.ref r) (.ref s.heap.objs.size) →
      IsPair h' (s.heap.objs.size + 2) .none .none → h'.IsTupleIter s.heap.objs.size t2 0 →
      (∀ c o, s.heap.get? c = some o → h'.get? c = some o) → Q (.ref (s.heap.objs.size + 3)) { s with heap := h' }) :
    wpAny (model prg w) A (call (.type "zip") [.ref r, .ref t2]) Q E s := by
  refine callType_new F.called_zip (by decide) (F.typeCall_zip_2 _ _) (F.newCall_zip_2 _ _) (fun obj => F.args_object_init_3 obj _ _) F.entry_zip_new
    (zr_new r t2 x t i ys) ⟨hl1, hl2, ?_⟩
  have z1 : (zrH1 s.heap t2).objs.size = s.heap.objs.size + 1 := Heap.size_push ..
  have z2 : (zrH2 s.heap r t2).objs.size = s.heap.objs.size + 2 := by rw [Heap.size_push, z1]
  have z3 : (zrH3 s.heap r t2).objs.size = s.heap.objs.size + 3 := by rw [Heap.size_push, z2]
  have g4 : (zrH4 s.heap r t2).get? (zrH3 s.heap r t2).objs.size = some _ := Heap.get?_push_size _ rfl
  have g3 : (zrH4 s.heap r t2).get? (zrH2 s.heap r t2).objs.size = some _ := Heap.get?_push_of_some _ (Heap.get?_push_size _ rfl)
  have g2 : (zrH4 s.heap r t2).get? (zrH1 s.heap t2).objs.size = some _ := Heap.get?_push_of_some _ (Heap.get?_push_of_some _ (Heap.get?_push_size _ rfl))
  have g1 : (zrH4 s.heap r t2).get? s.heap.objs.size = some _ := Heap.get?_push_of_some _ (Heap.get?_push_of_some _ (Heap.get?_push_of_some _ (Heap.get?_push_size _ rfl)))
  show _ ∧ _
  rw [z1, z2, z3] at g4
  rw [z1] at g2
  rw [z2] at g3
  rw [z3]
  exact ⟨⟨_, g4, rfl⟩, h _ g4 g2 g3 ⟨_, g1, rfl, rfl⟩ fun c o x =>
    Heap.get?_push_of_some _ (Heap.get?_push_of_some _ (Heap.get?_push_of_some _ (Heap.get?_push_of_some _ x)))⟩
theorem zr_off (I r t2 : Nat) (h1 : r < I) (h2 : t2 < I) (h3 : t2 ≠ r) : ZipOff (I + 3) (I + 1) (I + 2) r I t2 := by
  constructor <;> first | exact h3 | (refine neN ?_; omega)
theorem zr_turns {w : World} {A : Around} {E : Value → Shared → Prop} {s : Shared} {env : Env} {h₀ : Heap} {body : List Stmt} {Q : Flow → Shared → Prop} {elts : List Expr} {k : Nat} {pos : Pos} {r t2 : Addr} {x : Str} {t : Tok} {lo : Obj} {xs : List Itm} {ys : List Value} {n2 : Nat} {m₀ : Str → Option Value} {news : List (Addr × Obj)}
    (hh : A.handled = none) (F : Fr h₀ env.locals s.heap m₀) (N : News h₀ env.locals s.heap ((r, revStr x t ((x.length : Int) - 1)) :: news)) (off : ∀ p ∈ news, p.1 ≠ r)
    (hl2 : h₀.get? t2 = some lo) (hc : lo.cls = .type "tuple") (hd : lo.data = .seq ys.toArray n2) (hlen : x.length ≤ 1000) (hn : x.cps.size = xs.length) (hys : x.cps.size ≤ ys.length)
    (hxs : ∀ i c u y, x.cps[x.cps.size - 1 - i]? = some c → ys[i]? = some y → i < x.cps.size → ∃ f, xs[i]? = some (.pair f y) ∧ ∃ t, (Value.str ⟨#[c]⟩ u) = f t)
    (rest₀ : ∀ I : Addr, (∀ p ∈ (r, revStr x t ((x.length : Int) - 1)) :: news, p.1 < I) → ItemsRest prg w A E h₀ env (.Tuple elts k pos) body Q s [(I + 3, "zip"), (I + 1, "tuple"), (I + 2, "tuple"), (r, "reversed"), (I, "tuple_iterator")] [] xs m₀ news) :
    wpAny (model prg w) A (call (.type "zip") [.ref r, .ref t2]) (fun xv s₁ => wpAny (model prg w) A (pyIter xv) (fun it s₂ => TurnsAt prg w A h₀ env (.Tuple elts k pos) body Q E it s₂) E s₁) E s := by
  have hr := N (r, revStr x t ((x.length : Int) - 1)) (List.mem_cons_self ..)
  have h2s : s.heap.get? t2 = some lo := F.keep _ _ hl2
  have hT2 : s.heap.IsTuple t2 ys.toArray := ⟨lo, h2s, hc, n2, hd⟩
  have hrl : r < s.heap.objs.size := Heap.lt_size hr.1
  have htl : t2 < s.heap.objs.size := Heap.lt_size h2s
  have hLs : env.locals < s.heap.objs.size := F.ns.lt
  have htr : t2 ≠ r := fun e => by rw [e, hr.2.2] at hl2; cases hl2
  have hLt : env.locals ≠ t2 := fun e => absurd (Heap.lt_size hl2) (Nat.not_lt.mpr (e ▸ F.above))
  have D := zr_off _ _ _ hrl htl htr
  have N' : News h₀ env.locals s.heap news := fun p hp => N p (List.mem_cons_of_mem _ hp)
  refine call_zr hr.1 hT2 fun h' hz hTI hTO hi2 hk => ?_
  refine wpAny_pyIter_zip hz ?_
  refine ktg_core (tk0 := s.toks) (keep := []) (KTurns.ofWalksU (walks_zipD (fun A' hA => draws_rev hA r x t hlen) hh D (ys := ys.toArray) (by simpa using hys)).toU.bound) hn ?_ ?_ ?_ ?_ ?_ ?_ ?_ ?_ (F.keeps hk) (N'.grown hk) trivial (rest₀ _ fun p hp => Heap.lt_size (N p hp).1)
  · rintro i v h ⟨T, vals, rfl, ⟨hi, a, y, ⟨c, u, hcc, rfl⟩, hy, rfl⟩, hT⟩
    obtain ⟨f, hf, tt, he⟩ := hxs i c u y hcc (by simpa using hy) hi
    exact ⟨_, hf, T, tt, rfl, he ▸ hT⟩
  · rintro i h ⟨hz, hTI, ⟨a, b, hTO⟩, hr', ⟨o2, ho2, hc2, _⟩, _⟩
    exact ⟨[(s.heap.objs.size + 3, _), (s.heap.objs.size + 1, _), (s.heap.objs.size + 2, _), (r, _), (s.heap.objs.size, o2)], ⟨⟨rfl, rfl⟩, ⟨rfl, rfl⟩, ⟨rfl, rfl⟩, ⟨rfl, rfl⟩, ⟨rfl, hc2⟩, trivial⟩, fun p hp => by
      rcases List.mem_cons.mp hp with rfl | hp
      · exact hz
      rcases List.mem_cons.mp hp with rfl | hp
      · exact hTI
      rcases List.mem_cons.mp hp with rfl | hp
      · exact hTO
      rcases List.mem_cons.mp hp with rfl | hp
      · exact hr'
      rw [List.mem_singleton.mp hp]
      exact ho2⟩
  · intro b hb
    have hb' : b = s.heap.objs.size + 3 ∨ b = s.heap.objs.size + 1 ∨ b = s.heap.objs.size + 2 ∨ b = r ∨ b = s.heap.objs.size := by simpa using hb
    rcases hb' with rfl | rfl | rfl | rfl | rfl
    · exact ⟨by simp, ktu_new F (Nat.le_add_right _ _)⟩
    · exact ⟨by simp, ktu_new F (Nat.le_add_right _ _)⟩
    · exact ⟨by simp, ktu_new F (Nat.le_add_right _ _)⟩
    · exact ⟨by simp, hr.2.2⟩
    · exact ⟨by simp, ktu_new F (Nat.le_refl _)⟩
  · intro b hb
    have hb' : b = s.heap.objs.size + 3 ∨ b = s.heap.objs.size + 2 ∨ b = r ∨ b = s.heap.objs.size := by simpa using hb
    rcases hb' with rfl | rfl | rfl | rfl <;> simp
  · intro b hb
    have hb' : b = s.heap.objs.size + 3 ∨ b = s.heap.objs.size + 1 ∨ b = s.heap.objs.size + 2 ∨ b = r ∨ b = s.heap.objs.size ∨ b = t2 := by simpa using hb
    rcases hb' with rfl | rfl | rfl | rfl | rfl | rfl
    · exact .inl (by simp)
    · exact .inl (by simp)
    · exact .inl (by simp)
    · exact .inl (by simp)
    · exact .inl (by simp)
    · exact .inr (.inr ⟨lo, hl2⟩)
  · intro hI'
    have hb' : env.locals = s.heap.objs.size + 3 ∨ env.locals = s.heap.objs.size + 1 ∨ env.locals = s.heap.objs.size + 2 ∨ env.locals = r ∨ env.locals = s.heap.objs.size ∨ env.locals = t2 := by simpa using hI'
    rcases hb' with e | e | e | e | e | e
    · exact ktu_ne 3 hLs e
    · exact ktu_ne 1 hLs e
    · exact ktu_ne 2 hLs e
    · exact hr.2.1 e.symm
    · exact Nat.ne_of_lt hLs e
    · exact hLt e
  · intro p hp hI'
    have hb' : p.1 = s.heap.objs.size + 3 ∨ p.1 = s.heap.objs.size + 2 ∨ p.1 = r ∨ p.1 = s.heap.objs.size := by simpa using hI'
    have hlp := Heap.lt_size (N' p hp).1
    rcases hb' with e | e | e | e
    · exact ktu_ne 3 hlp e
    · exact ktu_ne 2 hlp e
    · exact off p hp e
    · exact Nat.ne_of_lt hlp e
  · refine ⟨hz, hTI, ⟨_, _, hTO⟩, ?_, hi2, ⟨lo, hk _ _ h2s, hc, n2, hd⟩⟩
    have := hk _ _ hr.1
    show IsRev h' r x t ((x.cps.size : Int) - 1 - ((0 : Nat) : Int))
    rw [show ((x.cps.size : Int) - 1 - ((0 : Nat) : Int)) = (x.length : Int) - 1 from by simp [Str.length]]
    exact this
theorem rev_push {w : World} {A : Around} {E : Value → Shared → Prop} {s : Shared} {h₀ : Heap} {L : Addr} {x : Str} {t : Tok} {m : Str → Option Value} {news : List (Addr × Obj)} {Q : Value → Shared → Prop}
    (F : Fr h₀ L s.heap m) (N : News h₀ L s.heap news) (hx : x.length ≤ 1000)
    (h : ∀ r h' tk, Fr h₀ L h' m → News h₀ L h' ((r, revStr x t ((x.length : Int) - 1)) :: news) → (∀ p ∈ news, p.1 < r) → Q (.ref r) { s with heap := h', toks := tk }) :
    wpAny (model prg w) A (call (.type "reversed") [.str x t]) Q E s := by
  refine call_rev hx (h _ _ _ (F.push _) (fun p hp => ?_) fun p hp => Heap.lt_size (N p hp).1)
  rcases List.mem_cons.mp hp with rfl | hp
  · exact ⟨Heap.get?_push_size _ rfl, Nat.ne_of_gt F.ns.lt, next_is_new F⟩
  · exact ⟨Heap.get?_push_of_some _ (N p hp).1, (N p hp).2⟩

end
-- part P6
section

def Lett1 (x a : Str) : Prop := ∃ c, x.cps = #[c] ∧ a = ⟨#[c]⟩
def Lett2 (x a b : Str) : Prop := ∃ c d, x.cps = #[c, d] ∧ a = ⟨#[c]⟩ ∧ b = ⟨#[d]⟩
theorem zr1 {w : World} {A : Around} {E : Value → Shared → Prop} {s : Shared} {env : Env} {h₀ : Heap} {body : List Stmt} {Q : Flow → Shared → Prop} {elts : List Expr} {k : Nat} {pos : Pos} {r t2 : Addr} {x a : Str} {t : Tok} {lo : Obj} {y0 : Value} {ys : List Value} {n2 : Nat} {m₀ : Str → Option Value} {news : List (Addr × Obj)} {K : Frag}
    (hh : A.handled = none) (F : Fr h₀ env.locals s.heap m₀) (N : News h₀ env.locals s.heap ((r, revStr x t ((x.length : Int) - 1)) :: news)) (off : ∀ p ∈ news, p.1 < r)
    (X₀ : K.In h₀) (hk : K.lookup t2 = some lo) (hc : lo.cls = .type "tuple") (hd : lo.data = .seq (y0 :: ys).toArray n2) (L : Lett1 x a)
    (rest₀ : ∀ I : Addr, (∀ p ∈ (r, revStr x t ((x.length : Int) - 1)) :: news, p.1 < I) → ItemsRest prg w A E h₀ env (.Tuple elts k pos) body Q s [(I + 3, "zip"), (I + 1, "tuple"), (I + 2, "tuple"), (r, "reversed"), (I, "tuple_iterator")] [] [.pair (fun t => .str a t) y0] m₀ news) :
    wpAny (model prg w) A (call (.type "zip") [.ref r, .ref t2]) (fun xv s₁ => wpAny (model prg w) A (pyIter xv) (fun it s₂ => TurnsAt prg w A h₀ env (.Tuple elts k pos) body Q E it s₂) E s₁) E s := by
  obtain ⟨c, L1, rfl⟩ := L
  have hs : x.cps.size = 1 := by rw [L1]; rfl
  refine zr_turns hh F N (fun p hp => Nat.ne_of_lt (off p hp)) (X₀ _ _ hk) hc hd (by simp [Str.length, hs]) (by simp [hs]) (by simp [hs]) (fun i c' u y hcc hy hi => ?_) rest₀
  obtain rfl : i = 0 := by omega
  rw [L1] at hcc
  obtain rfl : c = c' := by simpa using hcc
  obtain rfl : y0 = y := by simpa using hy
  exact ⟨_, rfl, u, rfl⟩
theorem zr2 {w : World} {A : Around} {E : Value → Shared → Prop} {s : Shared} {env : Env} {h₀ : Heap} {body : List Stmt} {Q : Flow → Shared → Prop} {elts : List Expr} {k : Nat} {pos : Pos} {r t2 : Addr} {x a b : Str} {t : Tok} {lo : Obj} {y0 y1 : Value} {ys : List Value} {n2 : Nat} {m₀ : Str → Option Value} {news : List (Addr × Obj)} {K : Frag}
    (hh : A.handled = none) (F : Fr h₀ env.locals s.heap m₀) (N : News h₀ env.locals s.heap ((r, revStr x t ((x.length : Int) - 1)) :: news)) (off : ∀ p ∈ news, p.1 < r)
    (X₀ : K.In h₀) (hk : K.lookup t2 = some lo) (hc : lo.cls = .type "tuple") (hd : lo.data = .seq (y0 :: y1 :: ys).toArray n2) (L : Lett2 x a b)
    (rest₀ : ∀ I : Addr, (∀ p ∈ (r, revStr x t ((x.length : Int) - 1)) :: news, p.1 < I) → ItemsRest prg w A E h₀ env (.Tuple elts k pos) body Q s [(I + 3, "zip"), (I + 1, "tuple"), (I + 2, "tuple"), (r, "reversed"), (I, "tuple_iterator")] [] [.pair (fun t => .str b t) y0, .pair (fun t => .str a t) y1] m₀ news) :
    wpAny (model prg w) A (call (.type "zip") [.ref r, .ref t2]) (fun xv s₁ => wpAny (model prg w) A (pyIter xv) (fun it s₂ => TurnsAt prg w A h₀ env (.Tuple elts k pos) body Q E it s₂) E s₁) E s := by
  obtain ⟨c, d, L1, rfl, rfl⟩ := L
  have hs : x.cps.size = 2 := by rw [L1]; rfl
  refine zr_turns hh F N (fun p hp => Nat.ne_of_lt (off p hp)) (X₀ _ _ hk) hc hd (by simp [Str.length, hs]) (by simp [hs]) (by simp [hs]) (fun i c' u y hcc hy hi => ?_) rest₀
  rw [L1] at hcc
  rcases (show i = 0 ∨ i = 1 by omega) with rfl | rfl
  · obtain rfl : d = c' := by simpa using hcc
    obtain rfl : y0 = y := by simpa using hy
    exact ⟨_, rfl, u, rfl⟩
  · obtain rfl : c = c' := by simpa using hcc
    obtain rfl : y1 = y := by simpa using hy
    exact ⟨_, rfl, u, rfl⟩
local macro_rules | `(tactic| walk_at "call type:reversed") => `(tactic| (k_here; k_dflt (refine' rev_push ?F ?N ?x ?_; (case F => k_asm); (case N => k_asm); (case x => decide); k_whole); intro r' h' tk' F' N' l1'; (try k_lt l1'); k_sweep))
local macro_rules | `(tactic| walk_at "exec For Tuple Call cons nil") => `(tactic| (k_here; (rename Fr _ _ _ _ => lF'); (with_unfolding_all refine' For_turns lF' ?_; k_whole)))
local macro_rules | `(tactic| walk_at "call type:zip") => `(tactic| (k_here; (first
  | (with_unfolding_all refine' zr1 ?h ?F ?N ?o ?X ?k ?c ?d ?L ?_; (case L => with_reducible assumption))
  | (with_unfolding_all refine' zr2 ?h ?F ?N ?o ?X ?k ?c ?d ?L ?_; (case L => with_reducible assumption))); (case h => with_unfolding_all rfl); (case F => k_asm); (case N => k_asm); (case o => first | assumption | (intro p hp; nomatch hp)); (case X => k_asm); (case k => k_is); (case c => exact rfl); (case d => exact rfl); k_whole; intro i' l1; (try k_lt l1)))
theorem col_V {w : World} {A : Around} {s : Shared} {p : Program} {loose : List Str} {mg mb : Str → Option Value} {R : Result → Shared → Prop} {t : Tok}
    (X : (hd.heap_39 w.params).In s.heap) (T : TopRead p loose mg mb s.heap) (hh : A.handled = none) (hroom : A.depth < 880) (hu : A.units < 8800)
    (L : Lett1 (Str.ofString "V") (Str.ofString "V"))
    (h : ∀ u h' tk, Ext s.heap h' → R (.ok (.ret (.int 22 u))) { s with heap := h', toks := tk }) :
    codeAny (model prg w) A (.call (.ref 66) ⟨[.str (Str.ofString "V") t], []⟩) R s := by
  obtain ⟨hd0, dp0, fs0, gs0, un0⟩ := A
  obtain rfl : hd0 = none := hh
  dsimp only at hroom hu
  walk_at "my fill"
  refine' enter_ (binds := [(Str.ofString "col", .str (Str.ofString "V") t)]) X T ?k8 ?k6 ?k7 ?k9 ?kB ?_ ?c2 ?c3 ?c4 ?c5
  walk_at "my entered"
  k_steps
  all_goals exact h _ _ _ (Fr.keep (by assumption))
theorem col_W {w : World} {A : Around} {s : Shared} {p : Program} {loose : List Str} {mg mb : Str → Option Value} {R : Result → Shared → Prop} {t : Tok}
    (X : (hd.heap_39 w.params).In s.heap) (T : TopRead p loose mg mb s.heap) (hh : A.handled = none) (hroom : A.depth < 880) (hu : A.units < 8800)
    (L : Lett1 (Str.ofString "W") (Str.ofString "W"))
    (h : ∀ u h' tk, Ext s.heap h' → R (.ok (.ret (.int 23 u))) { s with heap := h', toks := tk }) :
    codeAny (model prg w) A (.call (.ref 66) ⟨[.str (Str.ofString "W") t], []⟩) R s := by
  obtain ⟨hd0, dp0, fs0, gs0, un0⟩ := A
  obtain rfl : hd0 = none := hh
  dsimp only at hroom hu
  walk_at "my fill"
  refine' enter_ (binds := [(Str.ofString "col", .str (Str.ofString "W") t)]) X T ?k8 ?k6 ?k7 ?k9 ?kB ?_ ?c2 ?c3 ?c4 ?c5
  walk_at "my entered"
  k_steps
  all_goals exact h _ _ _ (Fr.keep (by assumption))
theorem col_X {w : World} {A : Around} {s : Shared} {p : Program} {loose : List Str} {mg mb : Str → Option Value} {R : Result → Shared → Prop} {t : Tok}
    (X : (hd.heap_39 w.params).In s.heap) (T : TopRead p loose mg mb s.heap) (hh : A.handled = none) (hroom : A.depth < 880) (hu : A.units < 8800)
    (L : Lett1 (Str.ofString "X") (Str.ofString "X"))
    (h : ∀ u h' tk, Ext s.heap h' → R (.ok (.ret (.int 24 u))) { s with heap := h', toks := tk }) :
    codeAny (model prg w) A (.call (.ref 66) ⟨[.str (Str.ofString "X") t], []⟩) R s := by
  obtain ⟨hd0, dp0, fs0, gs0, un0⟩ := A
  obtain rfl : hd0 = none := hh
  dsimp only at hroom hu
  walk_at "my fill"
  refine' enter_ (binds := [(Str.ofString "col", .str (Str.ofString "X") t)]) X T ?k8 ?k6 ?k7 ?k9 ?kB ?_ ?c2 ?c3 ?c4 ?c5
  walk_at "my entered"
  k_steps
  all_goals exact h _ _ _ (Fr.keep (by assumption))
theorem col_Y {w : World} {A : Around} {s : Shared} {p : Program} {loose : List Str} {mg mb : Str → Option Value} {R : Result → Shared → Prop} {t : Tok}
    (X : (hd.heap_39 w.params).In s.heap) (T : TopRead p loose mg mb s.heap) (hh : A.handled = none) (hroom : A.depth < 880) (hu : A.units < 8800)
    (L : Lett1 (Str.ofString "Y") (Str.ofString "Y"))
    (h : ∀ u h' tk, Ext s.heap h' → R (.ok (.ret (.int 25 u))) { s with heap := h', toks := tk }) :
    codeAny (model prg w) A (.call (.ref 66) ⟨[.str (Str.ofString "Y") t], []⟩) R s := by
  obtain ⟨hd0, dp0, fs0, gs0, un0⟩ := A
  obtain rfl : hd0 = none := hh
  dsimp only at hroom hu
  walk_at "my fill"
  refine' enter_ (binds := [(Str.ofString "col", .str (Str.ofString "Y") t)]) X T ?k8 ?k6 ?k7 ?k9 ?kB ?_ ?c2 ?c3 ?c4 ?c5
  walk_at "my entered"
  k_steps
  all_goals exact h _ _ _ (Fr.keep (by assumption))
theorem col_Z {w : World} {A : Around} {s : Shared} {p : Program} {loose : List Str} {mg mb : Str → Option Value} {R : Result → Shared → Prop} {t : Tok}
    (X : (hd.heap_39 w.params).In s.heap) (T : TopRead p loose mg mb s.heap) (hh : A.handled = none) (hroom : A.depth < 880) (hu : A.units < 8800)
    (L : Lett1 (Str.ofString "Z") (Str.ofString "Z"))
    (h : ∀ u h' tk, Ext s.heap h' → R (.ok (.ret (.int 26 u))) { s with heap := h', toks := tk }) :
    codeAny (model prg w) A (.call (.ref 66) ⟨[.str (Str.ofString "Z") t], []⟩) R s := by
  obtain ⟨hd0, dp0, fs0, gs0, un0⟩ := A
  obtain rfl : hd0 = none := hh
  dsimp only at hroom hu
  walk_at "my fill"
  refine' enter_ (binds := [(Str.ofString "col", .str (Str.ofString "Z") t)]) X T ?k8 ?k6 ?k7 ?k9 ?kB ?_ ?c2 ?c3 ?c4 ?c5
  walk_at "my entered"
  k_steps
  all_goals exact h _ _ _ (Fr.keep (by assumption))
theorem col_AA {w : World} {A : Around} {s : Shared} {p : Program} {loose : List Str} {mg mb : Str → Option Value} {R : Result → Shared → Prop} {t : Tok}
    (X : (hd.heap_39 w.params).In s.heap) (T : TopRead p loose mg mb s.heap) (hh : A.handled = none) (hroom : A.depth < 880) (hu : A.units < 8800)
    (L : Lett2 (Str.ofString "AA") (Str.ofString "A") (Str.ofString "A"))
    (h : ∀ u h' tk, Ext s.heap h' → R (.ok (.ret (.int 27 u))) { s with heap := h', toks := tk }) :
    codeAny (model prg w) A (.call (.ref 66) ⟨[.str (Str.ofString "AA") t], []⟩) R s := by
  obtain ⟨hd0, dp0, fs0, gs0, un0⟩ := A
  obtain rfl : hd0 = none := hh
  dsimp only at hroom hu
  walk_at "my fill"
  refine' enter_ (binds := [(Str.ofString "col", .str (Str.ofString "AA") t)]) X T ?k8 ?k6 ?k7 ?k9 ?kB ?_ ?c2 ?c3 ?c4 ?c5
  walk_at "my entered"
  k_steps
  all_goals exact h _ _ _ (Fr.keep (by assumption))
theorem col_AB {w : World} {A : Around} {s : Shared} {p : Program} {loose : List Str} {mg mb : Str → Option Value} {R : Result → Shared → Prop} {t : Tok}
    (X : (hd.heap_39 w.params).In s.heap) (T : TopRead p loose mg mb s.heap) (hh : A.handled = none) (hroom : A.depth < 880) (hu : A.units < 8800)
    (L : Lett2 (Str.ofString "AB") (Str.ofString "A") (Str.ofString "B"))
    (h : ∀ u h' tk, Ext s.heap h' → R (.ok (.ret (.int 28 u))) { s with heap := h', toks := tk }) :
    codeAny (model prg w) A (.call (.ref 66) ⟨[.str (Str.ofString "AB") t], []⟩) R s := by
  obtain ⟨hd0, dp0, fs0, gs0, un0⟩ := A
  obtain rfl : hd0 = none := hh
  dsimp only at hroom hu
  walk_at "my fill"
  refine' enter_ (binds := [(Str.ofString "col", .str (Str.ofString "AB") t)]) X T ?k8 ?k6 ?k7 ?k9 ?kB ?_ ?c2 ?c3 ?c4 ?c5
  walk_at "my entered"
  k_steps
  all_goals exact h _ _ _ (Fr.keep (by assumption))
theorem col_AC {w : World} {A : Around} {s : Shared} {p : Program} {loose : List Str} {mg mb : Str → Option Value} {R : Result → Shared → Prop} {t : Tok}
    (X : (hd.heap_39 w.params).In s.heap) (T : TopRead p loose mg mb s.heap) (hh : A.handled = none) (hroom : A.depth < 880) (hu : A.units < 8800)
    (L : Lett2 (Str.ofString "AC") (Str.ofString "A") (Str.ofString "C"))
    (h : ∀ u h' tk, Ext s.heap h' → R (.ok (.ret (.int 29 u))) { s with heap := h', toks := tk }) :
    codeAny (model prg w) A (.call (.ref 66) ⟨[.str (Str.ofString "AC") t], []⟩) R s := by
  obtain ⟨hd0, dp0, fs0, gs0, un0⟩ := A
  obtain rfl : hd0 = none := hh
  dsimp only at hroom hu
  walk_at "my fill"
  refine' enter_ (binds := [(Str.ofString "col", .str (Str.ofString "AC") t)]) X T ?k8 ?k6 ?k7 ?k9 ?kB ?_ ?c2 ?c3 ?c4 ?c5
  walk_at "my entered"
  k_steps
  all_goals exact h _ _ _ (Fr.keep (by assumption))
theorem col_AD {w : World} {A : Around} {s : Shared} {p : Program} {loose : List Str} {mg mb : Str → Option Value} {R : Result → Shared → Prop} {t : Tok}
    (X : (hd.heap_39 w.params).In s.heap) (T : TopRead p loose mg mb s.heap) (hh : A.handled = none) (hroom : A.depth < 880) (hu : A.units < 8800)
    (L : Lett2 (Str.ofString "AD") (Str.ofString "A") (Str.ofString "D"))
    (h : ∀ u h' tk, Ext s.heap h' → R (.ok (.ret (.int 30 u))) { s with heap := h', toks := tk }) :
    codeAny (model prg w) A (.call (.ref 66) ⟨[.str (Str.ofString "AD") t], []⟩) R s := by
  obtain ⟨hd0, dp0, fs0, gs0, un0⟩ := A
  obtain rfl : hd0 = none := hh
  dsimp only at hroom hu
  walk_at "my fill"
  refine' enter_ (binds := [(Str.ofString "col", .str (Str.ofString "AD") t)]) X T ?k8 ?k6 ?k7 ?k9 ?kB ?_ ?c2 ?c3 ?c4 ?c5
  walk_at "my entered"
  k_steps
  all_goals exact h _ _ _ (Fr.keep (by assumption))
def Col (x : Str) (n : Int) : Prop := (x = Str.ofString "V" ∧ n = 22) ∨ (x = Str.ofString "W" ∧ n = 23) ∨ (x = Str.ofString "X" ∧ n = 24) ∨ (x = Str.ofString "Y" ∧ n = 25) ∨ (x = Str.ofString "Z" ∧ n = 26) ∨ (x = Str.ofString "AA" ∧ n = 27) ∨ (x = Str.ofString "AB" ∧ n = 28) ∨ (x = Str.ofString "AC" ∧ n = 29) ∨ (x = Str.ofString "AD" ∧ n = 30)
theorem col_c {w : World} {A : Around} {s : Shared} {p : Program} {loose : List Str} {mg mb : Str → Option Value} {R : Result → Shared → Prop} {t : Tok} {x : Str} {n : Int}
    (X : (hd.heap_39 w.params).In s.heap) (T : TopRead p loose mg mb s.heap) (hh : A.handled = none) (hroom : A.depth < 880) (hu : A.units < 8800)
    (c : Col x n) (h : ∀ u h' tk, Ext s.heap h' → R (.ok (.ret (.int n u))) { s with heap := h', toks := tk }) :
    codeAny (model prg w) A (.call (.ref 66) ⟨[.str x t], []⟩) R s := by
  rcases c with ⟨rfl, rfl⟩ | ⟨rfl, rfl⟩ | ⟨rfl, rfl⟩ | ⟨rfl, rfl⟩ | ⟨rfl, rfl⟩ | ⟨rfl, rfl⟩ | ⟨rfl, rfl⟩ | ⟨rfl, rfl⟩ | ⟨rfl, rfl⟩
  · exact col_V X T hh hroom hu ⟨_, rfl, rfl⟩ h
  · exact col_W X T hh hroom hu ⟨_, rfl, rfl⟩ h
  · exact col_X X T hh hroom hu ⟨_, rfl, rfl⟩ h
  · exact col_Y X T hh hroom hu ⟨_, rfl, rfl⟩ h
  · exact col_Z X T hh hroom hu ⟨_, rfl, rfl⟩ h
  · exact col_AA X T hh hroom hu ⟨_, _, rfl, rfl, rfl⟩ h
  · exact col_AB X T hh hroom hu ⟨_, _, rfl, rfl, rfl⟩ h
  · exact col_AC X T hh hroom hu ⟨_, _, rfl, rfl, rfl⟩ h
  · exact col_AD X T hh hroom hu ⟨_, _, rfl, rfl, rfl⟩ h

end
-- part P7
section

theorem no_bool_mat : typeLookup (.type "re.Match") "__bool__" = pure none := by rw [typeLookup_type, builtinLookup_eq_fast]; kernel_rfl
theorem no_len_mat : typeLookup (.type "re.Match") "__len__" = pure none := by rw [typeLookup_type, builtinLookup_eq_fast]; kernel_rfl
def Dig (x : Str) (n : Int) : Prop := (x = Str.ofString "1" ∧ n = 1) ∨ (x = Str.ofString "2" ∧ n = 2) ∨ (x = Str.ofString "3" ∧ n = 3) ∨ (x = Str.ofString "4" ∧ n = 4) ∨ (x = Str.ofString "5" ∧ n = 5) ∨ (x = Str.ofString "6" ∧ n = 6) ∨ (x = Str.ofString "7" ∧ n = 7) ∨ (x = Str.ofString "8" ∧ n = 8)
def Txt (x : Str) : Prop := 1 ≤ x.length ∧ x.length ≤ 1000
theorem Dig.txt {x : Str} {n : Int} (d : Dig x n) : Txt x := by
  rcases d with ⟨rfl, rfl⟩ | ⟨rfl, rfl⟩ | ⟨rfl, rfl⟩ | ⟨rfl, rfl⟩ | ⟨rfl, rfl⟩ | ⟨rfl, rfl⟩ | ⟨rfl, rfl⟩ | ⟨rfl, rfl⟩ <;> exact ⟨by decide, by decide⟩
theorem Col.txt {x : Str} {n : Int} (d : Col x n) : Txt x := by
  rcases d with ⟨rfl, rfl⟩ | ⟨rfl, rfl⟩ | ⟨rfl, rfl⟩ | ⟨rfl, rfl⟩ | ⟨rfl, rfl⟩ | ⟨rfl, rfl⟩ | ⟨rfl, rfl⟩ | ⟨rfl, rfl⟩ | ⟨rfl, rfl⟩ <;> exact ⟨by decide, by decide⟩
section
variable {w : World} {A : Around} {E : Value → Shared → Prop} {s : Shared} {h₀ : Heap} {L : Addr} {m : Str → Option Value} {news : List (Addr × Obj)}
theorem gm_match {K : Frag} {pl : Sem Bool} {vs : Array Value} {sl43 : Array (Option Value)} {Q : Value × List Value → Shared → Prop} (F : Fr h₀ L s.heap m) (X : K.In h₀) (hk : K.lookup 43 = some ⟨.type "re.Pattern", none, .fields vs, sl43⟩) (h : Q (.builtin "re.Pattern.match", [.ref 43]) s) :
    wpAny (model prg w) A (getMethod (.ref 43) (Str.ofString "match") pl) Q E s :=
  getMethod_builtin ⟨_, F.keep _ _ (X _ _ hk), rfl⟩ plainAttrs_pat slot_match type_match (fun a e => by cases e; exact ⟨_, F.keep _ _ (X _ _ hk), rfl⟩) h
theorem gm_groups {pl : Sem Bool} {x : Str} {t : Tok} {li : Value} {a b : Addr} {n : Nat} {Q : Value × List Value → Shared → Prop} (N : News h₀ L s.heap news) (hm : (a, matObj x t li b n) ∈ news) (h : Q (.builtin "re.Match.groups", [.ref a]) s) :
    wpAny (model prg w) A (getMethod (.ref a) (Str.ofString "groups") pl) Q E s :=
  getMethod_builtin ⟨_, (N _ hm).1, rfl⟩ plainAttrs_mat slot_groups type_groups (fun a' e => by cases e; exact ⟨_, (N _ hm).1, rfl⟩) h
open PySem.Builtin PySem.Builtin.Re in
theorem mk_match {K : Frag} {x : Str} {t : Tok} {vs : Array Value} {sl43 : Array (Option Value)} {c42 : Value} {d42 : Option Addr} {items : Array Value} {n42 : Nat} {sl42 : Array (Option Value)} {sp : List (Option (Nat × Nat))} {mm : Sre.M} {Q : Value → Shared → Prop}
    (F : Fr h₀ L s.heap m) (N : News h₀ L s.heap news) (X : K.In h₀) (hk : K.lookup 43 = some ⟨.type "re.Pattern", none, .fields vs, sl43⟩) (hk2 : K.lookup 42 = some ⟨c42, d42, .seq items n42, sl42⟩)
    (v2 : reRawNat (vs.getD 2 .none) = 5) (v6 : reRawNat (vs.getD 6 .none) = 0) (v5 : vs.getD 5 .none = .ref 42) (hi : (items.map reRawOf).map (·.toNat) = reCode) (hx : x.cps.size ≤ 1000) (RF : ReFin x.cps sp mm)
    (h : ∀ a b li v0 v1 h', Fr h₀ L h' m → News h₀ L h' ((a, matObj x t li b x.cps.size) :: (b, tupObj (v0 :: v1 :: spanVals sp)) :: news) → b < a → (∀ p ∈ news, p.1 < b) → Q (.ref a) { s with heap := h' }) :
    wpAny (model prg w) A (call (.builtin "re.Pattern.match") [.ref 43, .str x t]) Q E s := by
  have h43 := F.keep _ _ (X _ _ hk)
  have h42 := F.keep _ _ (X _ _ hk2)
  refine call_meets slot_match ⟨_, h43, rfl⟩ entry_match (args_match _ _) (match_meets v2 v6 v5 hi hx RF) ⟨h43, h42, fun li v0 v1 => ?_⟩
  refine h _ _ li v0 v1 _ ((F.push _).push _) (fun p hp => ?_) (Nat.lt_succ_self _) (fun p hp => Heap.lt_size (N p hp).1)
  have fresh : ∀ k, s.heap.objs.size ≤ k → h₀.get? k = none := fun k hk => ktu_new F hk
  rcases List.mem_cons.mp hp with rfl | hp
  · have e := Heap.get?_push_size (s.heap.push (tupObj (v0 :: v1 :: spanVals sp))) (o := matObj x t li s.heap.objs.size x.cps.size) rfl
    rw [Heap.size_push] at e
    exact ⟨e, Nat.ne_of_gt (Nat.lt_succ_of_lt F.ns.lt), fresh _ (Nat.le_succ _)⟩
  rcases List.mem_cons.mp hp with rfl | hp
  · exact ⟨Heap.get?_push_of_some _ (Heap.get?_push_size _ rfl), Nat.ne_of_gt F.ns.lt, fresh _ (Nat.le_refl _)⟩
  · exact ⟨Heap.get?_push_of_some _ (Heap.get?_push_of_some _ (N p hp).1), (N p hp).2⟩
theorem mk_groups {x : Str} {t : Tok} {li v0 v1 : Value} {a b : Addr} {n : Nat} {o0 o1 o2 o3 o4 : Option (Nat × Nat)} {Q : Value → Shared → Prop}
    (F : Fr h₀ L s.heap m) (N : News h₀ L s.heap news) (hm : (a, matObj x t li b n) ∈ news) (hb : (b, tupObj (v0 :: v1 :: spanVals [o0, o1, o2, o3, o4])) ∈ news) (hx : x.cps.size ≤ 1000)
    (h : ∀ g0 g1 g2 g3 g4 c h' tk, Gv x o0 g0 → Gv x o1 g1 → Gv x o2 g2 → Gv x o3 g3 → Gv x o4 g4 → Fr h₀ L h' m → News h₀ L h' ((c, tupObj [g0, g1, g2, g3, g4]) :: news) → (∀ p ∈ news, p.1 < c) → Q (.ref c) { s with heap := h', toks := tk }) :
    wpAny (model prg w) A (call (.builtin "re.Match.groups") [.ref a]) Q E s := by
  refine call_meets slot_groups ⟨_, (N _ hm).1, rfl⟩ entry_groups (args_groups _) (groups_meets hx) ⟨(N _ hm).1, (N _ hb).1, fun g0 g1 g2 g3 g4 tk e0 e1 e2 e3 e4 => ?_⟩
  refine h g0 g1 g2 g3 g4 _ _ tk e0 e1 e2 e3 e4 (F.push _) (fun p hp => ?_) (fun p hp => Heap.lt_size (N p hp).1)
  rcases List.mem_cons.mp hp with rfl | hp
  · exact ⟨Heap.get?_push_size _ rfl, Nat.ne_of_gt F.ns.lt, ktu_new F (Nat.le_refl _)⟩
  · exact ⟨Heap.get?_push_of_some _ (N p hp).1, (N p hp).2⟩
theorem truthy_mat {x : Str} {t : Tok} {li : Value} {a b : Addr} {n : Nat} {Q : Bool → Shared → Prop} (N : News h₀ L s.heap news) (hm : (a, matObj x t li b n) ∈ news) (h : Q true s) :
    wpAny (model prg w) A (truthy (.ref a)) Q E s := by
  have hT : s.TypeIs (.ref a) "re.Match" := ⟨_, (N _ hm).1, rfl⟩
  unfold truthy
  first
    | refine wpAny_bind (wpAny_callSpecial?_none (name := Str.ofString "__bool__") hT no_bool_mat ?_)
    | refine wpAny_bind (wpAny_pure (wpAny_bind (wpAny_callSpecial?_none (name := Str.ofString "__bool__") hT no_bool_mat ?_)))
  first
    | refine wpAny_bind (wpAny_specialOf (name := Str.ofString "__len__") hT no_len_mat ?_)
    | refine wpAny_bind (wpAny_pure (wpAny_bind (wpAny_specialOf (name := Str.ofString "__len__") hT no_len_mat ?_)))
  exact wpAny_pure h
theorem truthy_txt {x : Str} {t : Tok} {Q : Bool → Shared → Prop} (T : Txt x) (h : ∀ k, Q true { s with toks := k }) : wpAny (model prg w) A (PySem.truthy (.str x t)) Q E s :=
  KXt.truthy_pos (K := 1000) T.1 T.2 (by decide) h
end
theorem all_loop_txt {w : World} {A : Around} {R : Result → Shared → Prop} {I t : Addr} {items : Array Value} (hh : A.handled = none) (hne : t ≠ I) (hv : ∀ (i : Nat) (v : Value), items[i]? = some v → ∃ x t, v = .str x t ∧ Txt x) : ∀ (k i : Nat) (s : Shared), items.size - i = k → i ≤ items.size → s.heap.IsTupleIter I t i → s.heap.IsTuple t items →
    (∀ h' tk, (∀ b o, b ≠ I → s.heap.get? b = some o → h'.get? b = some o) → R (.ok (.ret (.bool true))) { s with heap := h', toks := tk }) → codeAny (model prg w) A (.builtin "all.loop" ⟨[.ref I], []⟩) R s := by
  intro k
  induction k with
  | zero =>
    intro i s hk hi hit ht hR
    refine codeAny_builtin F.entry_all_loop ?_
    rw [Around.under_plainId F.plain_all_loop _]
    show wpAny _ A.in1 (pyNext (.ref I) >>= _) _ _ s
    refine wpAny_bind (wpAny_pyNext_tuple_end hh hit ht (Array.getElem?_eq_none (by omega)) fun h' he => ?_)
    exact wpAny_bind (wpAny_rule (wpAny_pure (hR h' s.toks fun b o hb e => he b o hb e)))
  | succ k ih =>
    intro i s hk hi hit ht hR
    have hlt : i < items.size := by omega
    obtain ⟨x, u, hx, T⟩ := hv i _ (Array.getElem?_eq_getElem hlt)
    refine codeAny_builtin F.entry_all_loop ?_
    rw [Around.under_plainId F.plain_all_loop _]
    show wpAny _ A.in1 (pyNext (.ref I) >>= _) _ _ s
    refine wpAny_bind (wpAny_pyNext_tuple_item hit ht (x := .str x u) (by rw [Array.getElem?_eq_getElem hlt, hx]) fun h' hit' hs => ?_)
    refine wpAny_bind (wpAny_holding (truthy_txt T fun k' => ?_))
    refine wpAny_bind (wpAny_letGo ?_)
    simp only [if_true]
    refine wpAny_pure ⟨plainId_quiet F.plain_all_loop _, ih (i + 1) _ (by omega) hlt hit' (ht.extBut hs.extBut hne) fun h'' tk hk => ?_⟩
    exact hR h'' tk fun b o hb e => hk b o hb (hs.extBut _ _ hb e)
theorem all_txt {w : World} {A : Around} {E : Value → Shared → Prop} {s : Shared} {h₀ : Heap} {L : Addr} {m : Str → Option Value} {news : List (Addr × Obj)} {a : Addr} {vs : List Value} {Q : Value → Shared → Prop} (F : Fr h₀ L s.heap m) (N : News h₀ L s.heap news) (hh : A.handled = none) (hm : (a, tupObj vs) ∈ news)
    (hv : ∀ v ∈ vs, ∃ x t, v = .str x t ∧ Txt x) (h : ∀ h' tk, Fr h₀ L h' m → News h₀ L h' news → Q (.bool true) { s with heap := h', toks := tk }) : wpAny (model prg w) A (call (.builtin "all") [.ref a]) Q E s := by
  have hl : s.heap.IsTuple a vs.toArray := ⟨_, (N _ hm).1, rfl, 0, rfl⟩
  have hlt : a < s.heap.objs.size := Heap.lt_size (N _ hm).1
  refine call_function_tree PySem.F.kind_all PySem.F.plain_all PySem.F.entry_all (PySem.F.args_all1 _) ?_
  unfold Builtin.«all»
  refine wpAny_bind (m := oneArg "all" _) (wpAny_pure ?_)
  refine wpAny_bind (wpAny_pyIter_tuple hl ?_)
  refine wpAny_pure ⟨plainId_quiet PySem.F.plain_all_loop _, all_loop_txt hh (Nat.ne_of_lt hlt) (fun i v e => hv v ?_) vs.length 0 _ (by simp) (Nat.zero_le _) ⟨_, Heap.get?_push_size _ rfl, rfl, rfl⟩ (hl.push _) fun h' tk hk => ?_⟩
  · have e' : vs[i]? = some v := by simpa using e
    exact List.mem_of_getElem? e'
  · have kk : ∀ b o, s.heap.get? b = some o → h'.get? b = some o := fun b o e => hk b o (Nat.ne_of_lt (Heap.lt_size e)) (Heap.get?_push_of_some _ e)
    exact h h' tk (F.keeps kk) (N.grown kk)
theorem fmt_call {w : World} {A : Around} {E : Value → Shared → Prop} {s : Shared} {x : Str} {t u : Tok} {Q : Value → Shared → Prop} (hx : x.length ≤ 1000) (h : ∀ T t' k, Q (.str T t') { s with toks := k }) :
    wpAny (model prg w) A (call (.builtin "str.format") [.str (Str.ofString "{0} is not a valid coordinate or range") t, .str x u]) Q E s := by
  obtain ⟨T, M⟩ := fmt_rb x t u hx
  exact KFm.call_k (by decide +kernel) (by kfm_args) M (h T)
theorem int_dig {w : World} {A : Around} {E : Value → Shared → Prop} {s : Shared} {d : Str} {n : Int} {t : Tok} {Q : Value → Shared → Prop} (D : Dig d n) (h : ∀ u k, Q (.int n u) { s with toks := k }) :
    wpAny (model prg w) A (call (.type "int") [.str d t]) Q E s := by
  rcases D with ⟨rfl, rfl⟩ | ⟨rfl, rfl⟩ | ⟨rfl, rfl⟩ | ⟨rfl, rfl⟩ | ⟨rfl, rfl⟩ | ⟨rfl, rfl⟩ | ⟨rfl, rfl⟩ | ⟨rfl, rfl⟩
  all_goals exact KIN.call_text (by decide +kernel) (by decide) (h _ _)
local macro_rules | `(tactic| walk_at "call builtin:str.format") => `(tactic| (k_here; k_dflt (refine' fmt_call ?x ?_; (case x => assumption); k_whole); intro T' t' k'))
local macro_rules | `(tactic| walk_at "getMethod ref") => `(tactic| (k_here; k_dflt (first
  | (refine' gm_match ?F ?X ?k ?_; (case F => k_asm); (case X => k_asm); (case k => k_is))
  | (refine' gm_groups ?N ?m ?_; (case N => k_asm); (case m => k_mem)))))
local macro_rules | `(tactic| walk_at "call builtin:re.Pattern.match") => `(tactic| (k_here; k_dflt (refine' mk_match ?F ?N ?X ?k ?k2 ?v2 ?v6 ?v5 ?hi ?hx ?RF ?_; (case F => k_asm); (case N => k_asm); (case X => k_asm); (case k => k_is); (case k2 => k_is); (case v2 => decide +kernel); (case v6 => decide +kernel); (case v5 => rfl); (case hi => decide +kernel); (case hx => assumption); (case RF => assumption); k_whole); intro a' b' li' v0' v1' h' F' N' l1' l2'; (try k_lt l1'); (try k_lt l2')))
local macro_rules | `(tactic| walk_at "call builtin:re.Match.groups") => `(tactic| (k_here; k_dflt (refine' mk_groups ?F ?N ?hm ?hb ?hx ?_; (case F => k_asm); (case N => k_asm); (case hm => k_mem); (case hb => k_mem); (case hx => assumption); k_whole); intro g0' g1' g2' g3' g4' c' h' tk' e0' e1' e2' e3' e4' F' N' l1'; (try k_lt l1'); cases e0'; cases e1'; cases e2'; cases e3'; cases e4'))
local macro_rules | `(tactic| walk_at "truthy ref") => `(tactic| (k_here; k_dflt (refine' truthy_mat ?N ?hm ?_; (case N => k_asm); (case hm => k_mem))))
local macro_rules | `(tactic| walk_at "truthy str") => `(tactic| (k_here; k_dflt (refine' truthy_txt ?N ?_; (case N => assumption)); intro k'))
local macro_rules | `(tactic| walk_at "call type:int") => `(tactic| (k_here; k_dflt (refine' int_dig ?N ?_; (case N => assumption)); intro u' k'))
local macro_rules | `(tactic| walk_at "call ref") => `(tactic| (k_here; (with_reducible show wpAny _ _ (call (Value.ref 66) [Value.str _ _] []) _ _ _); (refine wpAny_call ?_); k_dflt (refine' col_c ?X ?T ?hh ?hr ?hu ?hx ?_; (case X => walk_at "my xin"); (case T => walk_at "my top"); (case hh => exact rfl); (case hr => k_room); (case hu => k_units); (case hx => assumption); k_whole; intro u' h' tk' hE'; walk_at "my after")))
local macro_rules | `(tactic| walk_at "call builtin:all") => `(tactic| (k_here; k_dflt (refine' all_txt ?F ?N ?hh ?hm ?hv ?_; (case F => k_asm); (case N => k_asm); (case hh => with_unfolding_all rfl); (case hm => k_mem); (case hv => (intro v hv; simp only [List.mem_cons, List.not_mem_nil, or_false] at hv; rcases hv with rfl | rfl | rfl | rfl <;> exact ⟨_, _, rfl, by assumption⟩)); k_whole); intro h' tk' F' N'; k_sweep))

theorem rb_short {w : World} {A : Around} {s : Shared} {p : Program} {loose : List Str} {mg mb : Str → Option Value} {R : Result → Shared → Prop} {x : Str} {t : Tok} {mm : Sre.M} {l r : Int} {b0 e0 b1 e1 : Nat}
    (X : (hd.heap_39 w.params).In s.heap) (T : TopRead p loose mg mb s.heap) (hh : A.handled = none) (hroom : A.depth < 870) (hu : A.units < 8700)
    (hx : x.length ≤ 1000) (RF : ReFin x.cps [some (b0, e0), some (b1, e1), none, none, none] mm) (hA : Col ⟨x.cps.extract b0 e0⟩ l) (hD : Dig ⟨x.cps.extract b1 e1⟩ r)
    (h : ∀ c u h' tk, Ext s.heap h' → Made s.heap h' [(c, blockObj u l r l r)] → R (.ok (.ret (.ref c))) { s with heap := h', toks := tk }) :
    codeAny (model prg w) A (.call (.ref 73) ⟨[.str x t], []⟩) R s := by
  obtain ⟨hd0, dp0, fs0, gs0, un0⟩ := A
  obtain rfl : hd0 = none := hh
  dsimp only at hroom hu
  have hx1 : x.cps.size ≤ 1000 := hx
  walk_at "my fill"
  refine' enter_ (binds := [(Str.ofString "range_string", .str x t)]) X T ?k8 ?k6 ?k7 ?k9 ?kB ?_ ?c2 ?c3 ?c4 ?c5
  walk_at "my entered"
  have tA := hA.txt
  have tD := hD.txt
  k_steps
  all_goals exact h _ (tk5 _ _ _ _ 0) _ _ (Fr.keep (by assumption)) (made_of_news (by assumption) (fun q hq => by rw [List.mem_singleton.mp hq]; exact List.mem_cons_self ..))
theorem rb_long {w : World} {A : Around} {s : Shared} {p : Program} {loose : List Str} {mg mb : Str → Option Value} {R : Result → Shared → Prop} {x : Str} {t : Tok} {mm : Sre.M} {l r l' r' : Int} {b0 e0 b1 e1 b2 e2 b3 e3 b4 e4 : Nat}
    (X : (hd.heap_39 w.params).In s.heap) (T : TopRead p loose mg mb s.heap) (hh : A.handled = none) (hroom : A.depth < 870) (hu : A.units < 8700)
    (hx : x.length ≤ 1000) (RF : ReFin x.cps [some (b0, e0), some (b1, e1), some (b2, e2), some (b3, e3), some (b4, e4)] mm) (hA : Col ⟨x.cps.extract b0 e0⟩ l) (hD : Dig ⟨x.cps.extract b1 e1⟩ r) (hS : Txt ⟨x.cps.extract b2 e2⟩) (hA' : Col ⟨x.cps.extract b3 e3⟩ l') (hD' : Dig ⟨x.cps.extract b4 e4⟩ r')
    (h : ∀ c u h' tk, Ext s.heap h' → Made s.heap h' [(c, blockObj u l r l' r')] → R (.ok (.ret (.ref c))) { s with heap := h', toks := tk }) :
    codeAny (model prg w) A (.call (.ref 73) ⟨[.str x t], []⟩) R s := by
  obtain ⟨hd0, dp0, fs0, gs0, un0⟩ := A
  obtain rfl : hd0 = none := hh
  dsimp only at hroom hu
  have hx1 : x.cps.size ≤ 1000 := hx
  walk_at "my fill"
  refine' enter_ (binds := [(Str.ofString "range_string", .str x t)]) X T ?k8 ?k6 ?k7 ?k9 ?kB ?_ ?c2 ?c3 ?c4 ?c5
  walk_at "my entered"
  have tA := hA.txt
  have tD := hD.txt
  have tA' := hA'.txt
  have tD' := hD'.txt
  k_steps
  all_goals exact h _ (tk5 _ _ _ _ 0) _ _ (Fr.keep (by assumption)) (made_of_news (by assumption) (fun q hq => by rw [List.mem_singleton.mp hq]; exact List.mem_cons_self ..))

end
-- part P8
section

local macro_rules | `(tactic| k_units) => `(tactic| ((try simp only [units_under_kw, PySem.Around.deeper_units, PySem.Around.in1_units, PySem.Around.mark_units]); (try unfold PySem.cLine); (try dsimp only); omega))
def Means (x : Str) (l t r f : Int) : Prop := x.length ≤ 1000 ∧ (Builtin.Str.occurrences x (Str.ofString "!") 0 x.length 1).isEmpty = true ∧
  ((∃ b0 e0 b1 e1 mm, ReFin x.cps [some (b0, e0), some (b1, e1), none, none, none] mm ∧ Col ⟨x.cps.extract b0 e0⟩ l ∧ Dig ⟨x.cps.extract b1 e1⟩ t ∧ r = l ∧ f = t) ∨
   (∃ b0 e0 b1 e1 b2 e2 b3 e3 b4 e4 mm, ReFin x.cps [some (b0, e0), some (b1, e1), some (b2, e2), some (b3, e3), some (b4, e4)] mm ∧ Col ⟨x.cps.extract b0 e0⟩ l ∧ Dig ⟨x.cps.extract b1 e1⟩ t ∧
      Txt ⟨x.cps.extract b2 e2⟩ ∧ Col ⟨x.cps.extract b3 e3⟩ r ∧ Dig ⟨x.cps.extract b4 e4⟩ f))
theorem rb_c {w : World} {A : Around} {s : Shared} {p : Program} {loose : List Str} {mg mb : Str → Option Value} {R : Result → Shared → Prop} {x : Str} {u0 : Tok} {l t r f : Int}
    (X : (hd.heap_39 w.params).In s.heap) (T : TopRead p loose mg mb s.heap) (hh : A.handled = none) (hroom : A.depth < 870) (hu : A.units < 8700) (M : Means x l t r f)
    (h : ∀ c u h' tk, Ext s.heap h' → Made s.heap h' [(c, blockObj u l t r f)] → R (.ok (.ret (.ref c))) { s with heap := h', toks := tk }) :
    codeAny (model prg w) A (.call (.ref 73) ⟨[.str x u0], []⟩) R s := by
  obtain ⟨hx, _, ⟨b0, e0, b1, e1, mm, RF, hA, hD, rfl, rfl⟩ | ⟨b0, e0, b1, e1, b2, e2, b3, e3, b4, e4, mm, RF, hA, hD, hS, hA', hD'⟩⟩ := M
  · exact rb_short X T hh hroom hu hx RF hA hD h
  · exact rb_long X T hh hroom hu hx RF hA hD hS hA' hD' h
theorem no_bang {w : World} {A : Around} {E : Value → Shared → Prop} {s : Shared} {x : Str} {u u0 : Tok} {l t r f : Int} {Q : Value → Shared → Prop} (M : Means x l t r f) (h : Q (.bool false) s) :
    wpAny (model prg w) A (compareOp .In (.str (Str.ofString "!") u) (.str x u0)) Q E s :=
  in_str (by rw [M.2.1]; exact h)
local macro_rules | `(tactic| walk_at "call ref") => `(tactic| (k_here; (with_reducible show wpAny _ _ (call (Value.ref 73) [Value.str _ _] []) _ _ _); (refine wpAny_call ?_); k_dflt (refine' rb_c ?X ?T ?hh ?hr ?hu ?hx ?_; (case X => walk_at "my xin"); (case T => walk_at "my top"); (case hh => exact rfl); (case hr => k_room); (case hu => k_units); (case hx => assumption); k_whole; intro c' u' h' tk' hE' hM'; walk_at "my after made")))
local macro_rules | `(tactic| walk_at "compareOp In str str") => `(tactic| (k_here; k_dflt (refine' no_bang ?M ?_; (case M => assumption))))
theorem new_text_c {w : World} {A : Around} {s : Shared} {p : Program} {loose : List Str} {mg mb : Str → Option Value} {R : Result → Shared → Prop} {x : Str} {u0 : Tok} {l t r f : Int}
    (X : (hd.heap_39 w.params).In s.heap) (T : TopRead p loose mg mb s.heap) (hh : A.handled = none) (hroom : A.depth < 860) (hu : A.units < 8600) (hl : l ≤ r) (ht : t ≤ f) (M : Means x l t r f)
    (h : ∀ x dx k u h' tk, Ext s.heap h' → Made s.heap h' [(x, instObj 349 dx), (dx, rangeDict w.params k u l t r f)] → R (.ok (.ret (.ref x))) { s with heap := h', toks := tk }) :
    codeAny (model prg w) A (.call (.ref 349) ⟨[.str x u0], []⟩) R s := by
  obtain ⟨hd0, dp0, fs0, gs0, un0⟩ := A
  obtain rfl : hd0 = none := hh
  obtain ⟨hp, g, d, tk0, os⟩ := s
  dsimp only at hroom hu X T
  walk_at "my fill"
  refine make_core (init := .ref 156) (makes_of X ?m) (looks_findIn X ?i) (fun self => bind_fn X self ?f) (.inl rfl) ?_
  case m => k_dflt k_is
  case i => k_dflt k_is
  case f => k_dflt k_is
  refine' enter_sub (g := hp) (objs := [(hp.objs.size + 1, instObj 349 hp.objs.size), (hp.objs.size, emptyDict)]) (binds := [(Str.ofString "self", .ref (hp.objs.size + 1)), (Str.ofString "range_string", .str x u0), (Str.ofString "min_col", .none), (Str.ofString "min_row", .none), (Str.ofString "max_col", .none), (Str.ofString "max_row", .none), (Str.ofString "title", .none)])
    (fun b o e => Heap.get?_push_of_some _ (Heap.get?_push_of_some _ e)) (made_pushes hp _ _ rfl rfl) (by simp only [Heap.size_push]; omega) X T ?k8 ?k6 ?k7 ?k9 ?kB ?_ ?c2 ?c3 ?c4 ?c5
  case k8 => simp only [depth_under_kw]; omega
  case k6 => k_dflt k_is
  case k7 => k_dflt k_is
  case k9 => exact binds_K (X.keeps fun b o e => Heap.get?_push_of_some _ (Heap.get?_push_of_some _ e)) rfl (by k_dflt k_is) rfl rfl (by kernel_rfl)
  case c5 => decide
  case kB => exact locs rfl
  case c2 => exact rfl
  case c3 => exact rfl
  case c4 => exact rfl
  have hlt := ltN (Nat.lt_succ_self hp.objs.size)
  rw [Nat.succ_eq_add_one] at hlt
  generalize hp.objs.size + 1 = x0 at *
  generalize hp.objs.size = d0 at *
  intro L' h' F' N'
  try dsimp only
  k_steps
  all_goals (refine ⟨rfl, ?_⟩; exact h _ _ (tk5 _ _ _ _ _) (tk5 _ _ _ _ 0) _ _ (Fr.keep (by assumption)) (made_of_news (by assumption) (fun q hq => by simp only [List.mem_cons, List.not_mem_nil, or_false] at hq; rcases hq with rfl | rfl <;> k_mem)))

end
-- part P9
section

local macro_rules | `(tactic| walk_at "call ref") => `(tactic| (k_here; (with_reducible show wpAny _ _ (call (Value.ref 199) [Value.ref _, Value.ref _] []) _ _ _); (refine wpAny_call ?_); k_dflt (refine' title_c ?X ?T ?hh ?hr ?hu ?hx ?hy ?_; (case X => walk_at "my xin"); (case T => walk_at "my top"); (case hh => exact rfl); (case hr => k_room); (case hu => k_units); (case hx => walk_at "my rg"); (case hy => walk_at "my rg"); k_whole; intro h' tk' hE'; walk_at "my after")))
local macro_rules | `(tactic| walk_at "call ref") => `(tactic| (k_here; (with_reducible show wpAny _ _ (call (Value.ref 256) [Value.ref _, Value.ref _] []) _ _ _); (refine wpAny_call ?_); k_dflt (refine' sup_c ?X ?T ?hh ?hr ?hu ?hx ?hy ?_; (case X => walk_at "my xin"); (case T => walk_at "my top"); (case hh => exact rfl); (case hr => k_room); (case hu => k_units); (case hx => walk_at "my rg"); (case hy => walk_at "my rg"); k_whole; intro h' tk' hE'; walk_at "my after")))
local macro_rules | `(tactic| walk_at "call ref") => `(tactic| (k_here; (with_reducible show wpAny _ _ (call (Value.ref 228) [Value.ref _, Value.ref _] []) _ _ _); (refine wpAny_call ?_); k_dflt (refine' ne_c ?X ?T ?hh ?hr ?hu ?hx ?hy ?_; (case X => walk_at "my xin"); (case T => walk_at "my top"); (case hh => exact rfl); (case hr => k_room); (case hu => k_units); (case hx => walk_at "my rg"); (case hy => walk_at "my rg"); k_whole; intro h' tk' hE'; walk_at "my after")))
local macro_rules | `(tactic| walk_at "call ref") => `(tactic| (k_here; (with_reducible show wpAny _ _ (call (Value.ref 235) [Value.ref _, Value.ref _] []) _ _ _); (refine wpAny_call ?_); k_dflt (refine' eq_c ?X ?T ?hh ?hr ?hu ?hx ?hy ?_; (case X => walk_at "my xin"); (case T => walk_at "my top"); (case hh => exact rfl); (case hr => k_room); (case hu => k_units); (case hx => walk_at "my rg"); (case hy => walk_at "my rg"); k_whole; intro h' tk' hE'; walk_at "my after")))
local macro_rules | `(tactic| walk_at "call ref") => `(tactic| (k_here; (with_reducible show wpAny _ _ (call (Value.ref 242) [Value.ref _, Value.ref _] []) _ _ _); (refine wpAny_call ?_); k_dflt (refine' subset_c ?X ?T ?hh ?hr ?hu ?hx ?hy ?_; (case X => walk_at "my xin"); (case T => walk_at "my top"); (case hh => exact rfl); (case hr => k_room); (case hu => k_units); (case hx => walk_at "my rg"); (case hy => walk_at "my rg"); k_whole; intro h' tk' hE'; walk_at "my after")))
local macro_rules | `(tactic| walk_at "call ref") => `(tactic| (k_here; (with_reducible show wpAny _ _ (call (Value.ref 263) [Value.ref _, Value.ref _] []) _ _ _); (refine wpAny_call ?_); k_dflt (refine' superset_c ?X ?T ?hh ?hr ?hu ?hx ?hy ?_; (case X => walk_at "my xin"); (case T => walk_at "my top"); (case hh => exact rfl); (case hr => k_room); (case hu => k_units); (case hx => walk_at "my rg"); (case hy => walk_at "my rg"); k_whole; intro h' tk' hE'; walk_at "my after")))
local macro_rules | `(tactic| walk_at "call ref") => `(tactic| (k_here; (with_reducible show wpAny _ _ (call (Value.ref 249) [Value.ref _, Value.ref _] []) _ _ _); (refine wpAny_call ?_); k_dflt (refine' lt_c ?X ?T ?hh ?hr ?hu ?hx ?hy ?_; (case X => walk_at "my xin"); (case T => walk_at "my top"); (case hh => exact rfl); (case hr => k_room); (case hu => k_units); (case hx => walk_at "my rg"); (case hy => walk_at "my rg"); k_whole; intro h' tk' hE'; walk_at "my after")))
local macro_rules | `(tactic| walk_at "call ref") => `(tactic| (k_here; (with_reducible show wpAny _ _ (call (Value.ref 277) [Value.ref _, Value.ref _] []) _ _ _); (refine wpAny_call ?_); k_dflt (refine' gt_c ?X ?T ?hh ?hr ?hu ?hx ?hy ?_; (case X => walk_at "my xin"); (case T => walk_at "my top"); (case hh => exact rfl); (case hr => k_room); (case hu => k_units); (case hx => walk_at "my rg"); (case hy => walk_at "my rg"); k_whole; intro h' tk' hE'; walk_at "my after")))
local macro_rules | `(tactic| walk_at "call ref") => `(tactic| (k_here; (with_reducible show wpAny _ _ (call (Value.ref 349) [Value.str _ _] []) _ _ _); (refine wpAny_call ?_); k_dflt (refine' new_text_c ?X ?T ?hh ?hr ?hu ?q1 ?q2 ?hx ?_; (case X => walk_at "my xin"); (case T => walk_at "my top"); (case hh => exact rfl); (case hr => k_room); (case hu => k_units); (case hx => assumption); (case q1 => omega); (case q2 => omega); k_whole; intro x' dx' k' u' h' tk' hE' hM'; walk_at "my after made")))
theorem gm_class {w : World} {A : Around} {E : Value → Shared → Prop} {s : Shared} {K : Frag} {x C L : Addr} {h₀ : Heap} {m : Str → Option Value} {ox : Obj} {od : Obj} {pl : Sem Bool} {Q : Value × List Value → Shared → Prop} (F : Fr h₀ L s.heap m) (X₀ : K.In h₀) (I : InstAt s.heap x ox C (some od)) (hg : plainGet K C (Str.ofString "__class__") = true) (hh : hasDictIn K C = true)
    (ha : findIn K (.ref C) (Str.ofString "__class__") = some (some (.builtin "object.__class__"))) (hn : specialIn K (.builtin "object.__class__") "__get__" = some (some (.builtin "getset_descriptor.__get__"))) (ht : takesIn K (.builtin "object.__class__") = some true)
    (hm : mroIn K C (.type "object") = some true) (hty : typeIn K (.builtin "object.__class__") = some (.type "getset_descriptor"))
    (h : Q (.ref C, []) { s with toks := s.toks + 1 }) : wpAny (model prg w) A (getMethod (.ref x) (Str.ofString "__class__") pl) Q E s :=
  method_usual (X₀.keeps F.keep) I (plainGet_of hg).1 (plainGet_of hg).2 ha (by simp only [Option.all_some, hty, Option.any_some]; decide +kernel) (get_class F X₀ I hg hh ha hn ht hm h)
local macro_rules | `(tactic| walk_at "getMethod ref") => `(tactic| (k_here; (with_reducible show wpAny _ _ (getMethod (Value.ref _) (PySem.Str.ofString "__class__") _) _ _ _); k_dflt (refine' gm_class ?k1 ?k2 ?k3 ?k4 ?k5 ?k6 ?k7 ?k8 ?k9 ?kt ?_; (case k1 => k_asm); (case k2 => k_asm); (case k3 => k_inst); (case k4 => k_is); (case k5 => k_is); (case k6 => k_is); (case k7 => k_is); (case k8 => k_is); (case k9 => k_is); (case kt => k_is); k_whole)))
theorem contains_c {w : World} {A : Around} {s : Shared} {p : Program} {loose : List Str} {mg mb : Str → Option Value} {R : Result → Shared → Prop} {x : Addr} {c : Str} {u0 : Tok} {l t r f l' t' r' f' : Int}
    (X : (hd.heap_39 w.params).In s.heap) (T : TopRead p loose mg mb s.heap) (hh : A.handled = none) (hroom : A.depth < 850) (hu : A.units < 8500) (hx : RangeAt w.params s.heap x l t r f) (M : Means c l' t' r' f') (hl : l' ≤ r') (ht : t' ≤ f')
    (h : ∀ h' tk, Ext s.heap h' → R (.ok (.ret (.bool (decide (t ≤ t' ∧ t' ≤ f' ∧ f' ≤ f ∧ l ≤ l' ∧ l' ≤ r' ∧ r' ≤ r))))) { s with heap := h', toks := tk }) :
    codeAny (model prg w) A (.call (.ref 270) ⟨[.ref x, .str c u0], []⟩) R s := by
  have hx0 := hx
  obtain ⟨dx, kx, ux, hx1, hx2⟩ := hx0
  obtain ⟨hd0, dp0, fs0, gs0, un0⟩ := A
  obtain rfl : hd0 = none := hh
  dsimp only at hroom hu
  walk_at "my fill"
  refine' enter_ (binds := [(Str.ofString "self", .ref x), (Str.ofString "coord", .str c u0)]) X T ?k8 ?k6 ?k7 ?k9 ?kB ?_ ?c2 ?c3 ?c4 ?c5
  walk_at "my entered"
  k_steps
  all_goals (refine ret_bool h (Fr.keep (by assumption)) ?_; walk_at "my bool")

end
-- part PK
section
theorem Col.chars {x : Str} {n : Int} (d : Col x n) : (∃ c ∈ [65, 66, 67, 68, 86, 87, 88, 89, 90], x = ⟨#[c]⟩ ∧ n ≤ 26) ∨ (∃ b ∈ [65, 66, 67, 68, 86, 87, 88, 89, 90], ∃ c ∈ [65, 66, 67, 68, 86, 87, 88, 89, 90], x = ⟨#[b, c]⟩ ∧ 27 ≤ n) := by
  rcases d with ⟨rfl, rfl⟩ | ⟨rfl, rfl⟩ | ⟨rfl, rfl⟩ | ⟨rfl, rfl⟩ | ⟨rfl, rfl⟩ | ⟨rfl, rfl⟩ | ⟨rfl, rfl⟩ | ⟨rfl, rfl⟩ | ⟨rfl, rfl⟩
  · exact .inl ⟨86, by decide, by decide +kernel, by decide⟩
  · exact .inl ⟨87, by decide, by decide +kernel, by decide⟩
  · exact .inl ⟨88, by decide, by decide +kernel, by decide⟩
  · exact .inl ⟨89, by decide, by decide +kernel, by decide⟩
  · exact .inl ⟨90, by decide, by decide +kernel, by decide⟩
  · exact .inr ⟨65, by decide, 65, by decide, by decide +kernel, by decide⟩
  · exact .inr ⟨65, by decide, 66, by decide, by decide +kernel, by decide⟩
  · exact .inr ⟨65, by decide, 67, by decide, by decide +kernel, by decide⟩
  · exact .inr ⟨65, by decide, 68, by decide, by decide +kernel, by decide⟩
theorem Dig.chars {x : Str} {n : Int} (d : Dig x n) : ∃ c ∈ [49, 50, 51, 52, 53, 54, 55, 56], x = ⟨#[c]⟩ := by
  rcases d with ⟨rfl, rfl⟩ | ⟨rfl, rfl⟩ | ⟨rfl, rfl⟩ | ⟨rfl, rfl⟩ | ⟨rfl, rfl⟩ | ⟨rfl, rfl⟩ | ⟨rfl, rfl⟩ | ⟨rfl, rfl⟩
  · exact ⟨49, by decide, by decide +kernel⟩
  · exact ⟨50, by decide, by decide +kernel⟩
  · exact ⟨51, by decide, by decide +kernel⟩
  · exact ⟨52, by decide, by decide +kernel⟩
  · exact ⟨53, by decide, by decide +kernel⟩
  · exact ⟨54, by decide, by decide +kernel⟩
  · exact ⟨55, by decide, by decide +kernel⟩
  · exact ⟨56, by decide, by decide +kernel⟩
theorem no_bang_of {x : Str} (h : 33 ∉ x.cps.toList) : (Builtin.Str.occurrences x (Str.ofString "!") 0 x.length 1).isEmpty = true := by
  have e : Str.ofString "!" = ⟨#[33]⟩ := by decide +kernel
  rw [e]
  have := StrLaws.found_one x 33
  rw [decide_eq_false h] at this
  simpa using this
theorem letter_ne {c : Nat} (h : c ∈ [65, 66, 67, 68, 86, 87, 88, 89, 90]) : (33 : Nat) ≠ c := by rintro rfl; revert h; decide
theorem digit_ne {c : Nat} (h : c ∈ [49, 50, 51, 52, 53, 54, 55, 56]) : (33 : Nat) ≠ c := by rintro rfl; revert h; decide
theorem cols_text {xl yt : Str} {l t : Int} (cl : Col xl l) (dt : Dig yt t) : Means (xl ++ yt) l t l t := by
  obtain ⟨d, hd, ed⟩ := dt.chars
  rcases cl.chars with ⟨c, hc, ec, _⟩ | ⟨b, hb, c, hc, ec, _⟩
  · have e : xl ++ yt = ⟨[c, d].toArray⟩ := by rw [ec, ed]; rfl
    rw [e]
    obtain ⟨mm, RF⟩ := reCheck_fin check11 (SameL.alike (.cons (same_letter c hc) (.cons (same_digit d hd) .nil))) rfl
    refine ⟨(by decide : (2 : Nat) ≤ 1000), no_bang_of ?_, .inl ⟨_, _, _, _, mm, RF, ?_, ?_, rfl, rfl⟩⟩
    · have n1 := letter_ne hc
      have n2 := digit_ne hd
      show 33 ∉ [c, d]
      simp only [List.mem_cons, List.not_mem_nil, or_false, not_or]
      exact ⟨n1, n2⟩
    · exact (show (⟨[c, d].toArray.extract 0 1⟩ : Str) = xl from ec.symm) ▸ cl
    · exact (show (⟨[c, d].toArray.extract 1 2⟩ : Str) = yt from ed.symm) ▸ dt
  · have e : xl ++ yt = ⟨[b, c, d].toArray⟩ := by rw [ec, ed]; rfl
    rw [e]
    obtain ⟨mm, RF⟩ := reCheck_fin check21 (SameL.alike (.cons (same_letter b hb) (.cons (same_letter c hc) (.cons (same_digit d hd) .nil)))) rfl
    refine ⟨(by decide : (3 : Nat) ≤ 1000), no_bang_of ?_, .inl ⟨_, _, _, _, mm, RF, ?_, ?_, rfl, rfl⟩⟩
    · have n0 := letter_ne hb
      have n1 := letter_ne hc
      have n2 := digit_ne hd
      show 33 ∉ [b, c, d]
      simp only [List.mem_cons, List.not_mem_nil, or_false, not_or]
      exact ⟨n0, n1, n2⟩
    · exact (show (⟨[b, c, d].toArray.extract 0 2⟩ : Str) = xl from ec.symm) ▸ cl
    · exact (show (⟨[b, c, d].toArray.extract 2 3⟩ : Str) = yt from ed.symm) ▸ dt
theorem range_text {xl xr yt yf : Str} {l t r f : Int} (cl : Col xl l) (cr : Col xr r) (dt : Dig yt t) (df : Dig yf f) (hlr : l ≤ r) : Means (xl ++ yt ++ Str.ofString ":" ++ xr ++ yf) l t r f := by
  have ek : Str.ofString ":" = ⟨#[58]⟩ := by decide +kernel
  obtain ⟨d, hd, ed⟩ := dt.chars
  obtain ⟨d', hd', ed'⟩ := df.chars
  have n2 := digit_ne hd
  have n2' := digit_ne hd'
  rcases cl.chars with ⟨c, hc, ec, _⟩ | ⟨b, hb, c, hc, ec, h27⟩
  · have n1 := letter_ne hc
    rcases cr.chars with ⟨c', hc', ec', _⟩ | ⟨b', hb', c', hc', ec', _⟩
    · have n1' := letter_ne hc'
      have e : xl ++ yt ++ Str.ofString ":" ++ xr ++ yf = ⟨[c, d, 58, c', d'].toArray⟩ := by rw [ek, ec, ed, ec', ed']; rfl
      rw [e]
      obtain ⟨mm, RF⟩ := reCheck_fin check1111 (SameL.alike (.cons (same_letter c hc) (.cons (same_digit d hd) (.cons (.refl _) (.cons (same_letter c' hc') (.cons (same_digit d' hd') .nil)))))) rfl
      refine ⟨(by decide : (5 : Nat) ≤ 1000), no_bang_of ?_, .inr ⟨_, _, _, _, _, _, _, _, _, _, mm, RF, ?_, ?_, ⟨(by decide : (1 : Nat) ≤ 3), (by decide : (3 : Nat) ≤ 1000)⟩, ?_, ?_⟩⟩
      · show 33 ∉ [c, d, 58, c', d']
        simp only [List.mem_cons, List.not_mem_nil, or_false, not_or]
        exact ⟨n1, n2, by decide, n1', n2'⟩
      · exact (show (⟨[c, d, 58, c', d'].toArray.extract 0 1⟩ : Str) = xl from ec.symm) ▸ cl
      · exact (show (⟨[c, d, 58, c', d'].toArray.extract 1 2⟩ : Str) = yt from ed.symm) ▸ dt
      · exact (show (⟨[c, d, 58, c', d'].toArray.extract 3 4⟩ : Str) = xr from ec'.symm) ▸ cr
      · exact (show (⟨[c, d, 58, c', d'].toArray.extract 4 5⟩ : Str) = yf from ed'.symm) ▸ df
    · have n0' := letter_ne hb'
      have n1' := letter_ne hc'
      have e : xl ++ yt ++ Str.ofString ":" ++ xr ++ yf = ⟨[c, d, 58, b', c', d'].toArray⟩ := by rw [ek, ec, ed, ec', ed']; rfl
      rw [e]
      obtain ⟨mm, RF⟩ := reCheck_fin check1121 (SameL.alike (.cons (same_letter c hc) (.cons (same_digit d hd) (.cons (.refl _) (.cons (same_letter b' hb') (.cons (same_letter c' hc') (.cons (same_digit d' hd') .nil))))))) rfl
      refine ⟨(by decide : (6 : Nat) ≤ 1000), no_bang_of ?_, .inr ⟨_, _, _, _, _, _, _, _, _, _, mm, RF, ?_, ?_, ⟨(by decide : (1 : Nat) ≤ 4), (by decide : (4 : Nat) ≤ 1000)⟩, ?_, ?_⟩⟩
      · show 33 ∉ [c, d, 58, b', c', d']
        simp only [List.mem_cons, List.not_mem_nil, or_false, not_or]
        exact ⟨n1, n2, by decide, n0', n1', n2'⟩
      · exact (show (⟨[c, d, 58, b', c', d'].toArray.extract 0 1⟩ : Str) = xl from ec.symm) ▸ cl
      · exact (show (⟨[c, d, 58, b', c', d'].toArray.extract 1 2⟩ : Str) = yt from ed.symm) ▸ dt
      · exact (show (⟨[c, d, 58, b', c', d'].toArray.extract 3 5⟩ : Str) = xr from ec'.symm) ▸ cr
      · exact (show (⟨[c, d, 58, b', c', d'].toArray.extract 5 6⟩ : Str) = yf from ed'.symm) ▸ df
  · have n0 := letter_ne hb
    have n1 := letter_ne hc
    rcases cr.chars with ⟨c', hc', ec', h26⟩ | ⟨b', hb', c', hc', ec', _⟩
    · omega
    · have n0' := letter_ne hb'
      have n1' := letter_ne hc'
      have e : xl ++ yt ++ Str.ofString ":" ++ xr ++ yf = ⟨[b, c, d, 58, b', c', d'].toArray⟩ := by rw [ek, ec, ed, ec', ed']; rfl
      rw [e]
      obtain ⟨mm, RF⟩ := reCheck_fin check2121 (SameL.alike (.cons (same_letter b hb) (.cons (same_letter c hc) (.cons (same_digit d hd) (.cons (.refl _) (.cons (same_letter b' hb') (.cons (same_letter c' hc') (.cons (same_digit d' hd') .nil)))))))) rfl
      refine ⟨(by decide : (7 : Nat) ≤ 1000), no_bang_of ?_, .inr ⟨_, _, _, _, _, _, _, _, _, _, mm, RF, ?_, ?_, ⟨(by decide : (1 : Nat) ≤ 4), (by decide : (4 : Nat) ≤ 1000)⟩, ?_, ?_⟩⟩
      · show 33 ∉ [b, c, d, 58, b', c', d']
        simp only [List.mem_cons, List.not_mem_nil, or_false, not_or]
        exact ⟨n0, n1, n2, by decide, n0', n1', n2'⟩
      · exact (show (⟨[b, c, d, 58, b', c', d'].toArray.extract 0 2⟩ : Str) = xl from ec.symm) ▸ cl
      · exact (show (⟨[b, c, d, 58, b', c', d'].toArray.extract 2 3⟩ : Str) = yt from ed.symm) ▸ dt
      · exact (show (⟨[b, c, d, 58, b', c', d'].toArray.extract 4 6⟩ : Str) = xr from ec'.symm) ▸ cr
      · exact (show (⟨[b, c, d, 58, b', c', d'].toArray.extract 6 7⟩ : Str) = yf from ed'.symm) ▸ df
/-- the text of a block means that block -/
theorem block_text {xl xr yt yf z : Str} {l t r f : Int} (cl : Col xl l) (cr : Col xr r) (dt : Dig yt t) (df : Dig yf f) (hlr : l ≤ r)
    (hz : z = (if l = r ∧ t = f then xl ++ yt else xl ++ yt ++ Str.ofString ":" ++ xr ++ yf)) : Means z l t r f := by
  subst hz
  split
  · rename_i h
    obtain ⟨rfl, rfl⟩ := h
    exact cols_text cl dt
  · exact range_text cl cr dt df hlr
theorem col_ex {n : Int} (h1 : 22 ≤ n) (h2 : n ≤ 30) : ∃ x, Col x n := by
  rcases (by omega : n = 22 ∨ n = 23 ∨ n = 24 ∨ n = 25 ∨ n = 26 ∨ n = 27 ∨ n = 28 ∨ n = 29 ∨ n = 30) with rfl | rfl | rfl | rfl | rfl | rfl | rfl | rfl | rfl
  · exact ⟨Str.ofString "V", .inl ⟨rfl, rfl⟩⟩
  · exact ⟨Str.ofString "W", .inr (.inl ⟨rfl, rfl⟩)⟩
  · exact ⟨Str.ofString "X", .inr (.inr (.inl ⟨rfl, rfl⟩))⟩
  · exact ⟨Str.ofString "Y", .inr (.inr (.inr (.inl ⟨rfl, rfl⟩)))⟩
  · exact ⟨Str.ofString "Z", .inr (.inr (.inr (.inr (.inl ⟨rfl, rfl⟩))))⟩
  · exact ⟨Str.ofString "AA", .inr (.inr (.inr (.inr (.inr (.inl ⟨rfl, rfl⟩)))))⟩
  · exact ⟨Str.ofString "AB", .inr (.inr (.inr (.inr (.inr (.inr (.inl ⟨rfl, rfl⟩))))))⟩
  · exact ⟨Str.ofString "AC", .inr (.inr (.inr (.inr (.inr (.inr (.inr (.inl ⟨rfl, rfl⟩)))))))⟩
  · exact ⟨Str.ofString "AD", .inr (.inr (.inr (.inr (.inr (.inr (.inr (.inr (⟨rfl, rfl⟩))))))))⟩
theorem dig_ex {n : Int} (h1 : 1 ≤ n) (h2 : n ≤ 8) : ∃ x, Dig x n := by
  rcases (by omega : n = 1 ∨ n = 2 ∨ n = 3 ∨ n = 4 ∨ n = 5 ∨ n = 6 ∨ n = 7 ∨ n = 8) with rfl | rfl | rfl | rfl | rfl | rfl | rfl | rfl
  · exact ⟨Str.ofString "1", .inl ⟨rfl, rfl⟩⟩
  · exact ⟨Str.ofString "2", .inr (.inl ⟨rfl, rfl⟩)⟩
  · exact ⟨Str.ofString "3", .inr (.inr (.inl ⟨rfl, rfl⟩))⟩
  · exact ⟨Str.ofString "4", .inr (.inr (.inr (.inl ⟨rfl, rfl⟩)))⟩
  · exact ⟨Str.ofString "5", .inr (.inr (.inr (.inr (.inl ⟨rfl, rfl⟩))))⟩
  · exact ⟨Str.ofString "6", .inr (.inr (.inr (.inr (.inr (.inl ⟨rfl, rfl⟩)))))⟩
  · exact ⟨Str.ofString "7", .inr (.inr (.inr (.inr (.inr (.inr (.inl ⟨rfl, rfl⟩))))))⟩
  · exact ⟨Str.ofString "8", .inr (.inr (.inr (.inr (.inr (.inr (.inr (⟨rfl, rfl⟩)))))))⟩

end
-- part P10
section

theorem letters_22 {w : World} {A : Around} {s : Shared} {p : Program} {loose : List Str} {mg mb : Str → Option Value} {R : Result → Shared → Prop} {u0 : Tok}
    (X : (hd.heap_39 w.params).In s.heap) (T : TopRead p loose mg mb s.heap) (hh : A.handled = none) (hroom : A.depth < 900) (hu : A.units < 9000) 
    (h : ∀ u h' tk, Ext s.heap h' → R (.ok (.ret (.str (Str.ofString "V") u))) { s with heap := h', toks := tk }) :
    codeAny (model prg w) A (.call (.ref 360) ⟨[.int 22 u0], []⟩) R s := by
  obtain ⟨hd0, dp0, fs0, gs0, un0⟩ := A
  obtain rfl : hd0 = none := hh
  dsimp only at hroom hu
  walk_at "my fill"
  refine' enter_ (binds := [(Str.ofString "number", .int 22 u0)]) X T ?k8 ?k6 ?k7 ?k9 ?kB ?_ ?c2 ?c3 ?c4 ?c5
  walk_at "my entered"
  k_steps
  all_goals exact h _ _ _ (Fr.keep (by assumption))
theorem letters_23 {w : World} {A : Around} {s : Shared} {p : Program} {loose : List Str} {mg mb : Str → Option Value} {R : Result → Shared → Prop} {u0 : Tok}
    (X : (hd.heap_39 w.params).In s.heap) (T : TopRead p loose mg mb s.heap) (hh : A.handled = none) (hroom : A.depth < 900) (hu : A.units < 9000) 
    (h : ∀ u h' tk, Ext s.heap h' → R (.ok (.ret (.str (Str.ofString "W") u))) { s with heap := h', toks := tk }) :
    codeAny (model prg w) A (.call (.ref 360) ⟨[.int 23 u0], []⟩) R s := by
  obtain ⟨hd0, dp0, fs0, gs0, un0⟩ := A
  obtain rfl : hd0 = none := hh
  dsimp only at hroom hu
  walk_at "my fill"
  refine' enter_ (binds := [(Str.ofString "number", .int 23 u0)]) X T ?k8 ?k6 ?k7 ?k9 ?kB ?_ ?c2 ?c3 ?c4 ?c5
  walk_at "my entered"
  k_steps
  all_goals exact h _ _ _ (Fr.keep (by assumption))
theorem letters_24 {w : World} {A : Around} {s : Shared} {p : Program} {loose : List Str} {mg mb : Str → Option Value} {R : Result → Shared → Prop} {u0 : Tok}
    (X : (hd.heap_39 w.params).In s.heap) (T : TopRead p loose mg mb s.heap) (hh : A.handled = none) (hroom : A.depth < 900) (hu : A.units < 9000) 
    (h : ∀ u h' tk, Ext s.heap h' → R (.ok (.ret (.str (Str.ofString "X") u))) { s with heap := h', toks := tk }) :
    codeAny (model prg w) A (.call (.ref 360) ⟨[.int 24 u0], []⟩) R s := by
  obtain ⟨hd0, dp0, fs0, gs0, un0⟩ := A
  obtain rfl : hd0 = none := hh
  dsimp only at hroom hu
  walk_at "my fill"
  refine' enter_ (binds := [(Str.ofString "number", .int 24 u0)]) X T ?k8 ?k6 ?k7 ?k9 ?kB ?_ ?c2 ?c3 ?c4 ?c5
  walk_at "my entered"
  k_steps
  all_goals exact h _ _ _ (Fr.keep (by assumption))
theorem letters_25 {w : World} {A : Around} {s : Shared} {p : Program} {loose : List Str} {mg mb : Str → Option Value} {R : Result → Shared → Prop} {u0 : Tok}
    (X : (hd.heap_39 w.params).In s.heap) (T : TopRead p loose mg mb s.heap) (hh : A.handled = none) (hroom : A.depth < 900) (hu : A.units < 9000) 
    (h : ∀ u h' tk, Ext s.heap h' → R (.ok (.ret (.str (Str.ofString "Y") u))) { s with heap := h', toks := tk }) :
    codeAny (model prg w) A (.call (.ref 360) ⟨[.int 25 u0], []⟩) R s := by
  obtain ⟨hd0, dp0, fs0, gs0, un0⟩ := A
  obtain rfl : hd0 = none := hh
  dsimp only at hroom hu
  walk_at "my fill"
  refine' enter_ (binds := [(Str.ofString "number", .int 25 u0)]) X T ?k8 ?k6 ?k7 ?k9 ?kB ?_ ?c2 ?c3 ?c4 ?c5
  walk_at "my entered"
  k_steps
  all_goals exact h _ _ _ (Fr.keep (by assumption))
theorem letters_26 {w : World} {A : Around} {s : Shared} {p : Program} {loose : List Str} {mg mb : Str → Option Value} {R : Result → Shared → Prop} {u0 : Tok}
    (X : (hd.heap_39 w.params).In s.heap) (T : TopRead p loose mg mb s.heap) (hh : A.handled = none) (hroom : A.depth < 900) (hu : A.units < 9000) 
    (h : ∀ u h' tk, Ext s.heap h' → R (.ok (.ret (.str (Str.ofString "Z") u))) { s with heap := h', toks := tk }) :
    codeAny (model prg w) A (.call (.ref 360) ⟨[.int 26 u0], []⟩) R s := by
  obtain ⟨hd0, dp0, fs0, gs0, un0⟩ := A
  obtain rfl : hd0 = none := hh
  dsimp only at hroom hu
  walk_at "my fill"
  refine' enter_ (binds := [(Str.ofString "number", .int 26 u0)]) X T ?k8 ?k6 ?k7 ?k9 ?kB ?_ ?c2 ?c3 ?c4 ?c5
  walk_at "my entered"
  k_steps
  all_goals exact h _ _ _ (Fr.keep (by assumption))
theorem letters_27 {w : World} {A : Around} {s : Shared} {p : Program} {loose : List Str} {mg mb : Str → Option Value} {R : Result → Shared → Prop} {u0 : Tok}
    (X : (hd.heap_39 w.params).In s.heap) (T : TopRead p loose mg mb s.heap) (hh : A.handled = none) (hroom : A.depth < 900) (hu : A.units < 9000) 
    (h : ∀ u h' tk, Ext s.heap h' → R (.ok (.ret (.str (Str.ofString "AA") u))) { s with heap := h', toks := tk }) :
    codeAny (model prg w) A (.call (.ref 360) ⟨[.int 27 u0], []⟩) R s := by
  obtain ⟨hd0, dp0, fs0, gs0, un0⟩ := A
  obtain rfl : hd0 = none := hh
  dsimp only at hroom hu
  walk_at "my fill"
  refine' enter_ (binds := [(Str.ofString "number", .int 27 u0)]) X T ?k8 ?k6 ?k7 ?k9 ?kB ?_ ?c2 ?c3 ?c4 ?c5
  walk_at "my entered"
  k_steps
  all_goals exact h _ _ _ (Fr.keep (by assumption))
theorem letters_28 {w : World} {A : Around} {s : Shared} {p : Program} {loose : List Str} {mg mb : Str → Option Value} {R : Result → Shared → Prop} {u0 : Tok}
    (X : (hd.heap_39 w.params).In s.heap) (T : TopRead p loose mg mb s.heap) (hh : A.handled = none) (hroom : A.depth < 900) (hu : A.units < 9000) 
    (h : ∀ u h' tk, Ext s.heap h' → R (.ok (.ret (.str (Str.ofString "AB") u))) { s with heap := h', toks := tk }) :
    codeAny (model prg w) A (.call (.ref 360) ⟨[.int 28 u0], []⟩) R s := by
  obtain ⟨hd0, dp0, fs0, gs0, un0⟩ := A
  obtain rfl : hd0 = none := hh
  dsimp only at hroom hu
  walk_at "my fill"
  refine' enter_ (binds := [(Str.ofString "number", .int 28 u0)]) X T ?k8 ?k6 ?k7 ?k9 ?kB ?_ ?c2 ?c3 ?c4 ?c5
  walk_at "my entered"
  k_steps
  all_goals exact h _ _ _ (Fr.keep (by assumption))
theorem letters_29 {w : World} {A : Around} {s : Shared} {p : Program} {loose : List Str} {mg mb : Str → Option Value} {R : Result → Shared → Prop} {u0 : Tok}
    (X : (hd.heap_39 w.params).In s.heap) (T : TopRead p loose mg mb s.heap) (hh : A.handled = none) (hroom : A.depth < 900) (hu : A.units < 9000) 
    (h : ∀ u h' tk, Ext s.heap h' → R (.ok (.ret (.str (Str.ofString "AC") u))) { s with heap := h', toks := tk }) :
    codeAny (model prg w) A (.call (.ref 360) ⟨[.int 29 u0], []⟩) R s := by
  obtain ⟨hd0, dp0, fs0, gs0, un0⟩ := A
  obtain rfl : hd0 = none := hh
  dsimp only at hroom hu
  walk_at "my fill"
  refine' enter_ (binds := [(Str.ofString "number", .int 29 u0)]) X T ?k8 ?k6 ?k7 ?k9 ?kB ?_ ?c2 ?c3 ?c4 ?c5
  walk_at "my entered"
  k_steps
  all_goals exact h _ _ _ (Fr.keep (by assumption))
theorem letters_30 {w : World} {A : Around} {s : Shared} {p : Program} {loose : List Str} {mg mb : Str → Option Value} {R : Result → Shared → Prop} {u0 : Tok}
    (X : (hd.heap_39 w.params).In s.heap) (T : TopRead p loose mg mb s.heap) (hh : A.handled = none) (hroom : A.depth < 900) (hu : A.units < 9000) 
    (h : ∀ u h' tk, Ext s.heap h' → R (.ok (.ret (.str (Str.ofString "AD") u))) { s with heap := h', toks := tk }) :
    codeAny (model prg w) A (.call (.ref 360) ⟨[.int 30 u0], []⟩) R s := by
  obtain ⟨hd0, dp0, fs0, gs0, un0⟩ := A
  obtain rfl : hd0 = none := hh
  dsimp only at hroom hu
  walk_at "my fill"
  refine' enter_ (binds := [(Str.ofString "number", .int 30 u0)]) X T ?k8 ?k6 ?k7 ?k9 ?kB ?_ ?c2 ?c3 ?c4 ?c5
  walk_at "my entered"
  k_steps
  all_goals exact h _ _ _ (Fr.keep (by assumption))
theorem letters_c {w : World} {A : Around} {s : Shared} {p : Program} {loose : List Str} {mg mb : Str → Option Value} {R : Result → Shared → Prop} {u0 : Tok} {x : Str} {n : Int}
    (X : (hd.heap_39 w.params).In s.heap) (T : TopRead p loose mg mb s.heap) (hh : A.handled = none) (hroom : A.depth < 900) (hu : A.units < 9000) (c : Col x n)
    (h : ∀ u h' tk, Ext s.heap h' → R (.ok (.ret (.str x u))) { s with heap := h', toks := tk }) :
    codeAny (model prg w) A (.call (.ref 360) ⟨[.int n u0], []⟩) R s := by
  rcases c with ⟨rfl, rfl⟩ | ⟨rfl, rfl⟩ | ⟨rfl, rfl⟩ | ⟨rfl, rfl⟩ | ⟨rfl, rfl⟩ | ⟨rfl, rfl⟩ | ⟨rfl, rfl⟩ | ⟨rfl, rfl⟩ | ⟨rfl, rfl⟩
  · exact letters_22 X T hh hroom hu h
  · exact letters_23 X T hh hroom hu h
  · exact letters_24 X T hh hroom hu h
  · exact letters_25 X T hh hroom hu h
  · exact letters_26 X T hh hroom hu h
  · exact letters_27 X T hh hroom hu h
  · exact letters_28 X T hh hroom hu h
  · exact letters_29 X T hh hroom hu h
  · exact letters_30 X T hh hroom hu h

end
-- part P11
section
local macro_rules | `(tactic| walk_at "my pad 0") => `(tactic| skip)

theorem block_c {w : World} {A : Around} {s : Shared} {p : Program} {loose : List Str} {mg mb : Str → Option Value} {R : Result → Shared → Prop} {u0 : Tok} {n : Int}
    (X : (hd.heap_39 w.params).In s.heap) (T : TopRead p loose mg mb s.heap) (hh : A.handled = none) (hroom : A.depth < 900) (hu : A.units < 9000) 
    (h : ∀ a u h' tk, Ext s.heap h' → Made s.heap h' [(a, blockObj u (24 + n.fmod 4) (1 + (n.fdiv 4).fmod 3) (24 + n.fmod 4 + (n.fdiv 12).fmod 3) (1 + (n.fdiv 4).fmod 3 + (n.fdiv 36).fmod 3))] → R (.ok (.ret (.ref a))) { s with heap := h', toks := tk }) :
    codeAny (model prg w) A (.call (.ref 367) ⟨[.int n u0], []⟩) R s := by
  obtain ⟨hd0, dp0, fs0, gs0, un0⟩ := A
  obtain rfl : hd0 = none := hh
  dsimp only at hroom hu
  walk_at "my fill"
  refine' enter_ (binds := [(Str.ofString "number", .int n u0)]) X T ?k8 ?k6 ?k7 ?k9 ?kB ?_ ?c2 ?c3 ?c4 ?c5
  walk_at "my entered"
  k_steps
  all_goals exact h _ (tk5 _ _ _ _ 0) _ _ (Fr.keep (by assumption)) (made_of_news (by assumption) (fun q hq => by rw [List.mem_singleton.mp hq]; exact List.mem_cons_self ..))

end
-- part P12
section

local macro_rules | `(tactic| walk_at "my madeG") => `(tactic| (intro q hq; simp only [List.mem_cons, List.not_mem_nil, or_false] at hq; (first | (subst hq; exact ⟨by assumption, by assumption⟩) | (rcases hq with hq | hq <;> (subst hq; exact ⟨by assumption, by assumption⟩)))))
local macro_rules | `(tactic| walk_at "my sub") => `(tactic| (intro q hq; simp only [List.mem_cons, List.not_mem_nil, or_false] at hq; (first | (subst hq; k_mem) | (rcases hq with hq | hq <;> (subst hq; k_mem)))))
local macro_rules | `(tactic| walk_at "my off") => `(tactic| (intro q1 hq1 q2 hq2; simp only [List.mem_cons, List.not_mem_nil, or_false] at hq1 hq2; (first | (subst hq1; subst hq2) | (subst hq1; rcases hq2 with hq2 | hq2 <;> subst hq2) | (rcases hq1 with hq1 | hq1 <;> subst hq1 <;> subst hq2) | (rcases hq1 with hq1 | hq1 <;> subst hq1 <;> rcases hq2 with hq2 | hq2 <;> subst hq2)); all_goals (refine neN ?_; (try dsimp only); omega)))
local macro_rules | `(tactic| walk_at "call ref") => `(tactic| (k_here; (with_reducible show wpAny _ _ (call (Value.ref 360) [Value.int _ _] []) _ _ _); (refine wpAny_call ?_); k_dflt (refine' letters_c ?X ?T ?hh ?hr ?hu ?hx ?_; (case X => walk_at "my xin"); (case T => walk_at "my top"); (case hh => exact rfl); (case hr => k_room); (case hu => k_units); (case hx => assumption); k_whole; intro u' h' tk' hE'; walk_at "my after")))
theorem str_dig {w : World} {A : Around} {E : Value → Shared → Prop} {s : Shared} {d : Str} {n : Int} {t : Tok} {Q : Value → Shared → Prop} (D : Dig d n) (h : ∀ u k, Q (.str d u) { s with toks := k }) :
    wpAny (model prg w) A (call (.type "str") [.int n t]) Q E s := by
  rcases D with ⟨rfl, rfl⟩ | ⟨rfl, rfl⟩ | ⟨rfl, rfl⟩ | ⟨rfl, rfl⟩ | ⟨rfl, rfl⟩ | ⟨rfl, rfl⟩ | ⟨rfl, rfl⟩ | ⟨rfl, rfl⟩
  all_goals exact P.str_of_int (by decide +kernel) (h _ _)
local macro_rules | `(tactic| walk_at "call type:str") => `(tactic| (k_here; k_dflt (refine' str_dig ?N ?_; (case N => assumption)); intro u' k'))
theorem Col.len {x : Str} {n : Int} (d : Col x n) : x.length ≤ 2 := by
  rcases d with ⟨rfl, rfl⟩ | ⟨rfl, rfl⟩ | ⟨rfl, rfl⟩ | ⟨rfl, rfl⟩ | ⟨rfl, rfl⟩ | ⟨rfl, rfl⟩ | ⟨rfl, rfl⟩ | ⟨rfl, rfl⟩ | ⟨rfl, rfl⟩ <;> decide
theorem Dig.len {x : Str} {n : Int} (d : Dig x n) : x.length ≤ 1 := by
  rcases d with ⟨rfl, rfl⟩ | ⟨rfl, rfl⟩ | ⟨rfl, rfl⟩ | ⟨rfl, rfl⟩ | ⟨rfl, rfl⟩ | ⟨rfl, rfl⟩ | ⟨rfl, rfl⟩ | ⟨rfl, rfl⟩ <;> decide
local macro_rules | `(tactic| walk_at "binaryOp Add str str") => `(tactic| (k_here; k_dflt (refine' add_str ?h ?z; (case z => ((try simp only [PySem.Str.length_append]); (refine Nat.le_trans ?_ (show 1000 ≤ sizeLine by decide)); omega)); k_whole); intro t' k'))
local macro_rules | `(tactic| walk_at "subscriptTail Name Slice ref ref") => `(tactic| (k_here; k_dflt (first
  | (refine' slice_to2 (s := ⟨_, _, _, _, _⟩) ?F ?N ?m ?_ ?q ?g; (case F => k_asm); (case N => k_asm); (case m => k_mem); (case q => with_unfolding_all rfl); (case g => (intro _; with_unfolding_all rfl)); k_whole)
  | (refine' slice_from2 (s := ⟨_, _, _, _, _⟩) ?F ?N ?m ?_ ?q ?g; (case F => k_asm); (case N => k_asm); (case m => k_mem); (case q => with_unfolding_all rfl); (case g => (intro _; with_unfolding_all rfl)); k_whole)); intro D' h' F' N' l1'; (try k_lt l1'); k_sweep))
theorem text_c {w : World} {A : Around} {s : Shared} {g0 : Heap} {p : Program} {loose : List Str} {mg mb : Str → Option Value} {R : Result → Shared → Prop} {b : Addr} {u : Nat → Tok} {l t r f : Int} {xl xr yt yf : Str}
    (X0 : (hd.heap_39 w.params).In g0) (T0 : TopRead p loose mg mb g0) (G : Ext g0 s.heap) (hh : A.handled = none) (hroom : A.depth < 890) (hu : A.units < 8900) (hb0 : g0.get? b = none) (hb : s.heap.get? b = some (blockObj u l t r f)) (cl : Col xl l) (cr : Col xr r) (dt : Dig yt t) (df : Dig yf f)
    (h : ∀ z u h' tk, z = (if l = r ∧ t = f then xl ++ yt else xl ++ yt ++ Str.ofString ":" ++ xr ++ yf) → Ext s.heap h' → R (.ok (.ret (.str z u))) { s with heap := h', toks := tk }) :
    codeAny (model prg w) A (.call (.ref 374) ⟨[.ref b], []⟩) R s := by
  have l1 := cl.len
  have l2 := cr.len
  have l3 := dt.len
  have l4 := df.len
  have l5 : (Str.ofString ":").length = 1 := by decide
  obtain ⟨gg, H⟩ := hide_ex (objs := [(b, blockObj u l t r f)]) G (by walk_at "my madeG")
  have X := Frag.In.keeps X0 H.low
  have T := T0.keeps H.low
  obtain ⟨hd0, dp0, fs0, gs0, un0⟩ := A
  obtain rfl : hd0 = none := hh
  dsimp only at hroom hu
  walk_at "my fill"
  refine' enter_sub (binds := [(Str.ofString "block", .ref b)]) H.ext H.made H.size X T ?k8 ?k6 ?k7 ?k9 ?kB ?_ ?c2 ?c3 ?c4 ?c5
  walk_at "my entered"
  k_steps
  all_goals (rename (_ && _) = _ => hc'; simp only [Bool.and_eq_true, Bool.and_eq_false_iff, beq_iff_eq, beq_eq_false_iff_ne] at hc'; refine h _ _ _ _ ?_ (H.keep (by assumption) (by assumption) (by walk_at "my sub")); first | rw [if_pos hc'] | rw [if_neg (by omega)])

end
-- part PQ
section
-- a list comprehension of two clauses
section
variable {w : World} {A : Around} {E : Value → Shared → Prop} {s : Shared} {elt t0 i0 t1 i1 : Expr} {sc : Scope} {pos : Pos} {it acc : Value} {env : Env} {R : Result → Shared → Prop}
theorem turn_in (elt t0 i0 t1 i1 : Expr) (sc : Scope) (pos : Pos) (it acc : Value) (env : Env) :
    compTurn (.ListComp elt [⟨t0, i0, [], 0⟩, ⟨t1, i1, [], 0⟩] sc pos) 1 it acc env = (standAt i1.pos >>= fun _ => pyNext it >>= fun r => match r with
      | none => pure (.done .next)
      | some v => letOwnedTupleGo t1 it v >>= fun _ => assign t1 env v >>= fun _ =>
        (eval elt env >>= fun x => call (.builtin "list.append") [acc, x] >>= fun _ => pure ()) >>= fun _ =>
          again (.compLoop (.ListComp elt [⟨t0, i0, [], 0⟩, ⟨t1, i1, [], 0⟩] sc pos) 1 it acc env)) := by rfl
theorem turn_out (elt t0 i0 t1 i1 : Expr) (sc : Scope) (pos : Pos) (it acc : Value) (env : Env) :
    compTurn (.ListComp elt [⟨t0, i0, [], 0⟩, ⟨t1, i1, [], 0⟩] sc pos) 0 it acc env = (standAt i0.pos >>= fun _ => pyNext it >>= fun r => match r with
      | none => pure (.done .next)
      | some v => letOwnedTupleGo t0 it v >>= fun _ => assign t0 env v >>= fun _ =>
        (eval i1 env >>= fun x => standAt i1.pos >>= fun _ => foldedSetIterable i1 env x >>= fun x => holding [x] (pyIter x) >>= fun it' => runOwn (.compStart (.ListComp elt [⟨t0, i0, [], 0⟩, ⟨t1, i1, [], 0⟩] sc pos) 1 it' acc env) env >>= fun _ =>
          again (.compLoop (.ListComp elt [⟨t0, i0, [], 0⟩, ⟨t1, i1, [], 0⟩] sc pos) 0 it acc env))) := by rfl
theorem in_loop (I : Nat → Shared → Prop)
    (turn : ∀ n s, I n s → wpAny (model prg w) A (pyNext it) (fun r s₁ => match r with
      | none => R (.ok .next) s₁
      | some v => wpAny (model prg w) A (assign t1 env v) (fun _ s₂ => wpAny (model prg w) A (eval elt env) (fun x s₃ =>
          wpAny (model prg w) A (call (.builtin "list.append") [acc, x]) (fun _ s₄ => ∃ m, m < n ∧ I m s₄) (notedBy (model prg w) A env fun e s' => R (.error e) s') s₃)
          (notedBy (model prg w) A env fun e s' => R (.error e) s') s₂) (notedBy (model prg w) A env fun e s' => R (.error e) s') s₁) (notedBy (model prg w) A env fun e s' => R (.error e) s') s)
    (n : Nat) (h : I n s) (ht : ∀ v, letOwnedTupleGo t1 it v = pure () := by intro _; rfl) :
    codeAny (model prg w) A (.compLoop (.ListComp elt [⟨t0, i0, [], 0⟩, ⟨t1, i1, [], 0⟩] sc pos) 1 it acc env) R s := by
  refine codeAny_loop rfl I (fun n s hI => ?_) n h
  show wpAny _ _ ((compTurn (.ListComp elt [⟨t0, i0, [], 0⟩, ⟨t1, i1, [], 0⟩] sc pos) 1 it acc env).onRaise (fun x => do noteFrame x env; theTreesLotGoes x)) _ _ s
  refine wpAny_noted ?_
  rw [turn_in]
  refine wpAny_bind (wpAny_standAt (wpAny_bind (wpAny_mono (turn n s hI) (fun r s₁ h₁ => ?_) fun _ _ h' => h')))
  cases r with
  | none => exact wpAny_pure h₁
  | some v =>
    refine wpAny_bind (wpAny_of_eq (ht v) ?_)
    exact wpAny_bind (wpAny_mono h₁ (fun _ s₂ h₂ => wpAny_bind (wpAny_bind (wpAny_mono h₂ (fun x s₃ h₃ => wpAny_bind (wpAny_mono h₃
      (fun _ s₄ h₄ => wpAny_pure (wpAny_pure ⟨rfl, h₄⟩)) fun _ _ h' => h')) fun _ _ h' => h'))) fun _ _ h' => h')
theorem start_in
    (h0 : codeAny (model prg w) A (.compLoop (.ListComp elt [⟨t0, i0, [], 0⟩, ⟨t1, i1, [], 0⟩] sc pos) 1 it acc env) R s)
    (h : wpAny (model prg w) A (pyIter it) (fun it' s' => codeAny (model prg w) A (.compLoop (.ListComp elt [⟨t0, i0, [], 0⟩, ⟨t1, i1, [], 0⟩] sc pos) 1 it' acc env) R s')
      (notedBy (model prg w) A env fun x s' => R (.error x) s') s) :
    codeAny (model prg w) A (.compStart (.ListComp elt [⟨t0, i0, [], 0⟩, ⟨t1, i1, [], 0⟩] sc pos) 1 it acc env) R s := by
  refine codeAny_of_tree ?_
  show wpAny _ _ ((compStart (.ListComp elt [⟨t0, i0, [], 0⟩, ⟨t1, i1, [], 0⟩] sc pos) 1 it acc env).onRaise (fun x => do noteFrame x env; standAt theWindowsPlace)) _ _ s
  refine wpAny_notedAt ?_
  unfold compStart
  show wpAny _ _ (ask >>= _) _ _ s
  refine wpAny_bind (wpAny_askSetting (wpAny_ite ?_))
  split
  · first
      | exact wpAny_bind (wpAny_pure (wpAny_pure (And.intro rfl h0)))
      | exact wpAny_pure (And.intro rfl h0)
  · first
      | exact wpAny_bind (wpAny_rule (wpAny_bind (wpAny_standAt (wpAny_bind (wpAny_mono h (fun it' s' h' => wpAny_pure (And.intro rfl h')) fun _ _ x => x)))))
      | (refine wpAny_bind (wpAny_rule ?_); show wpAny _ _ (standAt i1.pos >>= _) _ _ s; exact wpAny_bind (wpAny_standAt (wpAny_bind (wpAny_mono h (fun it' s' h' => wpAny_pure (And.intro rfl h')) fun _ _ x => x))))
theorem out_loop (I : Nat → Shared → Prop)
    (turn : ∀ n s, I n s → wpAny (model prg w) A (pyNext it) (fun r s₁ => match r with
      | none => R (.ok .next) s₁
      | some v => wpAny (model prg w) A (assign t0 env v) (fun _ s₂ => wpAny (model prg w) A (eval i1 env) (fun x s₃ =>
          wpAny (model prg w) A (pyIter x) (fun it' s₄ => codeAny (model prg w) A (.compStart (.ListComp elt [⟨t0, i0, [], 0⟩, ⟨t1, i1, [], 0⟩] sc pos) 1 it' acc env)
            (fun r s' => match r with | .ok _ => ∃ m, m < n ∧ I m s' | .error e => cameBackBy (model prg w) A env (notedBy (model prg w) A env fun e s' => R (.error e) s') e s') s₄) (notedBy (model prg w) A env fun e s' => R (.error e) s') s₃)
          (notedBy (model prg w) A env fun e s' => R (.error e) s') s₂) (notedBy (model prg w) A env fun e s' => R (.error e) s') s₁) (notedBy (model prg w) A env fun e s' => R (.error e) s') s)
    (n : Nat) (h : I n s) (ht : ∀ v, letOwnedTupleGo t0 it v = pure () := by intro _; rfl) (hs : ∀ x, foldedSetIterable i1 env x = pure x := by intro _; rfl) :
    codeAny (model prg w) A (.compLoop (.ListComp elt [⟨t0, i0, [], 0⟩, ⟨t1, i1, [], 0⟩] sc pos) 0 it acc env) R s := by
  refine codeAny_loop rfl I (fun n s hI => ?_) n h
  show wpAny _ _ ((compTurn (.ListComp elt [⟨t0, i0, [], 0⟩, ⟨t1, i1, [], 0⟩] sc pos) 0 it acc env).onRaise (fun x => do noteFrame x env; theTreesLotGoes x)) _ _ s
  refine wpAny_noted ?_
  rw [turn_out]
  refine wpAny_bind (wpAny_standAt (wpAny_bind (wpAny_mono (turn n s hI) (fun r s₁ h₁ => ?_) fun _ _ h' => h')))
  cases r with
  | none => exact wpAny_pure h₁
  | some v =>
    refine wpAny_bind (wpAny_of_eq (ht v) ?_)
    refine wpAny_bind (wpAny_mono h₁ (fun _ s₂ h₂ => ?_) fun _ _ h' => h')
    refine wpAny_bind (wpAny_mono h₂ (fun x s₃ h₃ => ?_) fun _ _ h' => h')
    refine wpAny_bind (wpAny_standAt (wpAny_bind (wpAny_of_eq (hs x) (wpAny_bind (wpAny_holding (wpAny_mono h₃ (fun it' s₄ h₄ => ?_) fun _ _ h' => h'))))))
    exact wpAny_bind (wpAny_runOwn (codeAny_mono h₄ fun r s' hr => by cases r with | ok f => exact wpAny_pure ⟨rfl, hr⟩ | error e => exact hr))
end
inductive Places (old h : Heap) : List Value → List (Int × Int) → Prop
  | nil : Places old h [] []
  | cons {a : Addr} {t1 t2 : Tok} {p : Int × Int} {zs : List Value} {ps : List (Int × Int)} : old.get? a = none → h.get? a = some (tupObj [.int p.1 t1, .int p.2 t2]) → Places old h zs ps → Places old h (.ref a :: zs) (p :: ps)
theorem Places.keep {old h h' : Heap} {zs : List Value} {ps : List (Int × Int)} (P : Places old h zs ps) (k : ∀ a x y, h.get? a = some (tupObj [x, y]) → h'.get? a = some (tupObj [x, y])) : Places old h' zs ps := by
  induction P with
  | nil => exact .nil
  | cons f e _ ih => exact .cons f (k _ _ _ e) ih
theorem Places.ext {old h h' : Heap} {zs : List Value} {ps : List (Int × Int)} (P : Places old h zs ps) (e : Ext h h') : Places old h' zs ps := P.keep fun _ _ _ x => e _ _ x
theorem Places.append {old h : Heap} {zs zs' : List Value} {ps ps' : List (Int × Int)} (P : Places old h zs ps) (P' : Places old h zs' ps') : Places old h (zs ++ zs') (ps ++ ps') := by
  induction P with
  | nil => exact P'
  | cons f e _ ih => exact .cons f e ih
theorem Places.snoc {old h : Heap} {a : Addr} {t1 t2 : Tok} {x y : Int} {zs : List Value} {ps : List (Int × Int)} (P : Places old h zs ps) (f : old.get? a = none) (e : h.get? a = some (tupObj [.int x t1, .int y t2])) : Places old h (zs ++ [.ref a]) (ps ++ [(x, y)]) :=
  P.append (.cons f e .nil)
theorem Places.length {old h : Heap} {zs : List Value} {ps : List (Int × Int)} (P : Places old h zs ps) : zs.length = ps.length := by
  induction P with
  | nil => rfl
  | cons _ _ _ ih => simp [ih]
def colsOf (rv lo : Int) (n : Nat) : List (Int × Int) := (List.range n).map fun (i : Nat) => (rv, lo + (i : Int))
theorem colsOf_succ (rv lo : Int) (n : Nat) : colsOf rv lo (n + 1) = colsOf rv lo n ++ [(rv, lo + (n : Int))] := by simp [colsOf, List.range_succ]
theorem colsOf_length (rv lo : Int) (n : Nat) : (colsOf rv lo n).length = n := by simp [colsOf]
def rowsOf (lo0 lo : Int) (n0 n : Nat) : List (Int × Int) := (List.range n0).flatMap fun (j : Nat) => colsOf (lo0 + (j : Int)) lo n
theorem rowsOf_succ (lo0 lo : Int) (n0 n : Nat) : rowsOf lo0 lo (n0 + 1) n = rowsOf lo0 lo n0 n ++ colsOf (lo0 + (n0 : Int)) lo n := by simp [rowsOf, List.range_succ]
theorem rowsOf_length (lo0 lo : Int) (n0 n : Nat) : (rowsOf lo0 lo n0 n).length = n0 * n := by
  induction n0 with
  | zero => simp [rowsOf]
  | succ k ih => rw [rowsOf_succ, List.length_append, ih, colsOf_length, Nat.succ_mul]
theorem tup_ne_ns {h : Heap} {C a : Addr} {m : Str → Option Value} {vs : Array Value} {n : Nat} {o : Obj} (hC : h.Ns C m) (e : h.get? a = some o) (hd : o.data = .seq vs n) : a ≠ C := by
  rintro rfl
  obtain ⟨o', es, ep, ho, hd', _⟩ := hC
  rw [ho] at e; cases e; rw [hd'] at hd; cases hd
theorem tup_ne_iter {h : Heap} {I a : Addr} {x l st : Int} {vs : Array Value} {n : Nat} {o : Obj} (hI : IsRangeIter h I x l st) (e : h.get? a = some o) (hd : o.data = .seq vs n) : a ≠ I := by
  rintro rfl
  rw [hI] at e; cases e; cases hd
theorem tup_ne_list {h : Heap} {D a : Addr} {ys : Array Value} {vs : List Value} (hD : h.PlainList D ys) (e : h.get? a = some (tupObj vs)) : a ≠ D := by
  rintro rfl
  obtain ⟨n, hD⟩ := hD
  rw [hD] at e
  have := congrArg Obj.cls (Option.some.inj e)
  simp at this
section
variable {w : World} {A : Around} {E : Value → Shared → Prop} {s : Shared} {t0 i0 i1 : Expr} {sc : Scope} {pos pp p1 p2 px px' : Pos} {kk : Nat} {env : Env} {R : Result → Shared → Prop} {rowN colN : Str} {I D : Addr} {ys : Array Value} {m : Str → Option Value} {old : Heap}
theorem eval_pair {x y : Value} {Q : Value → Shared → Prop} (hk : env.scope.kind = .function) (hrow : env.kindOf rowN = some .local) (hcol : env.kindOf colN = some .local)
    (hb1 : (rowN == ("__debug__" : Str)) = false) (hb2 : (colN == ("__debug__" : Str)) = false)
    (hC : s.heap.Ns env.locals m) (hx : m rowN = some x) (hy : m colN = some y) (h : Q (.ref s.heap.objs.size) { s with heap := s.heap.push (tupObj [x, y]) }) :
    wpAny (model prg w) A (eval (.Tuple [.Name rowN p1, .Name colN p2] kk pp) env) Q E s := by
  refine wpAny_Tuple_spliced (spliced_more (wpAny_Name (wpAny_loadName_local hk hrow hC hx ?_) hb1) rfl)
  refine spliced_more (wpAny_Name (wpAny_loadName_local hk hcol hC hy ?_) hb2) rfl
  exact spliced_none ⟨by show 2 ≤ sizeLine; decide, h⟩
theorem place_in {lo rv : Int} {n : Nat} {t : Tok} (hh : A.handled = none) (hk : env.scope.kind = .function) (hrow : env.kindOf rowN = some .local) (hcol : env.kindOf colN = some .local)
    (hb1 : (rowN == ("__debug__" : Str)) = false) (hb2 : (colN == ("__debug__" : Str)) = false) (hne : rowN ≠ colN)
    (hp : (env.scope.kind == .class || (env.scope.kind == .module && env.locals != env.globals)) = false)
    (hIC : I ≠ env.locals) (hDC : D ≠ env.locals) (hID : I ≠ D) (hI : IsRangeIter s.heap I lo n 1) (hD : s.heap.PlainList D ys) (hC : s.heap.Ns env.locals m) (hm : m rowN = some (.int rv t)) (hsz : ys.size + n ≤ 1000) (hold : ∀ b o, old.get? b = some o → b ≠ env.locals ∧ b ≠ I ∧ b ≠ D ∧ s.heap.get? b = some o)
    (hR : ∀ h' tk m' zs, h'.PlainList D (ys ++ zs.toArray) → h'.Ns env.locals m' → Places old h' zs (colsOf rv lo n) → (∀ b o, b ≠ env.locals → b ≠ I → b ≠ D → s.heap.get? b = some o → h'.get? b = some o) → R (.ok .next) { s with heap := h', toks := tk }) :
    codeAny (model prg w) A (.compLoop (.ListComp (.Tuple [.Name rowN p1, .Name colN p2] kk pp) [⟨t0, i0, [], 0⟩, ⟨.Name colN px, i1, [], 0⟩] sc pos) 1 (.ref I) (.ref D) env) R s := by
  have W := Walks.range (prog := prg) (w := w) hh I lo 1 n
  refine in_loop (fun k s' => ∃ h' tk m' j zs, s' = { s with heap := h', toks := tk } ∧ IsRangeIter h' I (lo + (j : Nat) * 1) ((n : Int) - (j : Nat)) 1 ∧ h'.PlainList D (ys ++ zs.toArray) ∧ h'.Ns env.locals m' ∧ m' rowN = some (.int rv t) ∧ Places old h' zs (colsOf rv lo j) ∧ j ≤ n ∧ k = n + 1 - j ∧
      (∀ b o, b ≠ env.locals → b ≠ I → b ≠ D → s.heap.get? b = some o → h'.get? b = some o)) ?_ (n + 1)
    ⟨s.heap, s.toks, m, 0, [], rfl, by simpa using hI, by simpa using hD, hC, hm, .nil, Nat.zero_le _, rfl, fun _ _ _ _ _ e => e⟩
  rintro k s' ⟨h', tk, m', j, zs, rfl, hI', hD', hC', hm', hP, hj, rfl, hkp⟩
  rcases Nat.lt_or_ge j n with hlt | hge
  · refine W.item j _ _ _ hlt hI' fun v h₁ tk₁ hv hI₁ hk₁ => ?_
    obtain ⟨tv, rfl⟩ := hv
    have k₁ : ∀ b o, b ≠ I → h'.get? b = some o → h₁.get? b = some o := fun b o hb e => hk₁ b o (by simpa using hb) e
    have hC₁ : h₁.Ns env.locals m' := by obtain ⟨o, es, ep, ho, r⟩ := hC'; exact ⟨o, es, ep, k₁ _ _ hIC.symm ho, r⟩
    refine wpAny_assign_Name (wpAny_storeName_local hcol hC₁ (fun h₂ hC₂ hs₂ => ?_) hp)
    refine eval_pair (x := .int rv t) (y := .int (lo + (j : Int) * 1) tv) hk hrow hcol hb1 hb2 hC₂ (by simp [hne, hm']) (by simp) ?_
    have hD₂ : h₂.PlainList D (ys ++ zs.toArray) := hD'.at fun o e => hs₂.extBut _ _ hDC (k₁ _ _ hID.symm e)
    have zl : zs.length = j := by rw [hP.length, colsOf_length]
    have hp₃ : ∀ b o, h₂.get? b = some o → (h₂.push (tupObj [.int rv t, .int (lo + (j : Int) * 1) tv])).get? b = some o := fun b o e => Heap.get?_push_of_some _ e
    have hn₃ : (h₂.push (tupObj [.int rv t, .int (lo + (j : Int) * 1) tv])).get? h₂.objs.size = some (tupObj [.int rv t, .int (lo + (j : Int) * 1) tv]) := Heap.get?_push_size _ rfl
    refine wpAny_list_append_plain (hD₂.at fun o e => hp₃ _ _ e) (fun h₄ hD₄ hs₄ => ?_) (by show (ys ++ zs.toArray).size ≤ sizeLine; refine Nat.le_trans ?_ (show 1000 ≤ sizeLine by decide); simp only [Array.size_append, List.size_toArray, zl]; omega)
    replace hs₄ : Heap.SameBut D (h₂.push (tupObj [.int rv t, .int (lo + (j : Int) * 1) tv])) h₄ := hs₄
    have k₂ : ∀ b o, b ≠ env.locals → b ≠ I → b ≠ D → h'.get? b = some o → h₄.get? b = some o := fun b o a1 a2 a3 e => hs₄.extBut _ _ a3 (hp₃ _ _ (hs₂.extBut _ _ a1 (k₁ _ _ a2 e)))
    have up₄ : ∀ b o, b ≠ D → h₂.get? b = some o → h₄.get? b = some o := fun b o a e => hs₄.extBut _ _ a (hp₃ _ _ e)
    have hC₄ : h₄.Ns env.locals (fun z => if z = colN then some (.int (lo + (j : Int) * 1) tv) else m' z) := by obtain ⟨o, es, ep, ho, r⟩ := hC₂; exact ⟨o, es, ep, up₄ _ _ hDC.symm ho, r⟩
    have hI₄ : IsRangeIter h₄ I (lo + ((j + 1 : Nat) : Int) * 1) ((n : Int) - ((j + 1 : Nat) : Int)) 1 := up₄ _ _ hID (hs₂.extBut _ _ hIC hI₁)
    have htup : h₄.get? h₂.objs.size = some (tupObj [.int rv t, .int (lo + (j : Int) * 1) tv]) := hs₄.extBut _ _ (tup_ne_list (hD₂.at fun o e => hp₃ _ _ e) hn₃) hn₃
    refine ⟨n + 1 - (j + 1), by omega, h₄, _, _, j + 1, zs ++ [.ref h₂.objs.size], rfl, hI₄, ?_, hC₄, by simp [hne, hm'], ?_, hlt, rfl, fun b o a1 a2 a3 e => k₂ b o a1 a2 a3 (hkp b o a1 a2 a3 e)⟩
    · have e : (ys ++ zs.toArray).push (Value.ref h₂.objs.size) = ys ++ (zs ++ [Value.ref h₂.objs.size]).toArray := by
        apply Array.toList_inj.mp; simp
      rw [← e]; exact hD₄
    · rw [colsOf_succ]
      have hfr : old.get? h₂.objs.size = none := by
        cases e : old.get? h₂.objs.size with
        | none => rfl
        | some o =>
          obtain ⟨a1, a2, a3, a4⟩ := hold _ _ e
          exact absurd (Heap.lt_size (hs₂.extBut _ _ a1 (k₁ _ _ a2 (hkp _ _ a1 a2 a3 a4)))) (Nat.lt_irrefl _)
      refine Places.snoc (t1 := t) (t2 := tv) (hP.keep fun a x y e => ?_) hfr (by rw [Int.mul_one] at htup; exact htup)
      exact k₂ _ _ (tup_ne_ns hC' e rfl) (tup_ne_iter hI' e rfl) (tup_ne_list hD' e) e
  · have e : j = n := by omega
    subst e
    refine W.done _ _ _ hI' fun h₁ tk₁ hk₁ => ?_
    have k₁ : ∀ b o, b ≠ I → h'.get? b = some o → h₁.get? b = some o := fun b o hb e => hk₁ b o (by simpa using hb) e
    refine hR h₁ tk₁ m' zs (hD'.at fun o e => k₁ _ _ hID.symm e) (by obtain ⟨o, es, ep, ho, r⟩ := hC'; exact ⟨o, es, ep, k₁ _ _ hIC.symm ho, r⟩) (hP.keep fun a x y e => k₁ _ _ (tup_ne_iter hI' e rfl) e) fun b o a1 a2 a3 e => k₁ _ _ a2 (hkp b o a1 a2 a3 e)
theorem place_out {lo0 lo : Int} {n0 n : Nat} (hh : A.handled = none) (hk : env.scope.kind = .function) (hrow : env.kindOf rowN = some .local) (hcol : env.kindOf colN = some .local)
    (hb1 : (rowN == ("__debug__" : Str)) = false) (hb2 : (colN == ("__debug__" : Str)) = false) (hne : rowN ≠ colN)
    (hp : (env.scope.kind == .class || (env.scope.kind == .module && env.locals != env.globals)) = false)
    (hs : ∀ x, foldedSetIterable i1 env x = pure x)
    (hIC : I ≠ env.locals) (hDC : D ≠ env.locals) (hID : I ≠ D) (hI : IsRangeIter s.heap I lo0 n0 1) (hD : s.heap.PlainList D #[]) (hC : s.heap.Ns env.locals m) (hsz : n0 * n ≤ 1000) (hold : ∀ b o, old.get? b = some o → b ≠ env.locals ∧ b ≠ I ∧ b ≠ D ∧ s.heap.get? b = some o)
    (hi1 : ∀ h' tk' m' E' (Q' : Value → Shared → Prop), h'.Ns env.locals m' → (∀ b o, b ≠ env.locals → b ≠ I → b ≠ D → s.heap.get? b = some o → h'.get? b = some o) →
      (∀ J h'' tk'', h'.objs.size ≤ J → IsRangeIter h'' J lo n 1 → (∀ b o, h'.get? b = some o → h''.get? b = some o) → Q' (.ref J) { s with heap := h'', toks := tk'' }) →
      wpAny (model prg w) A (eval i1 env) (fun x s₃ => wpAny (model prg w) A (pyIter x) Q' E' s₃) E' { s with heap := h', toks := tk' })
    (hR : ∀ h' tk m' zs, h'.PlainList D zs.toArray → h'.Ns env.locals m' → Places old h' zs (rowsOf lo0 lo n0 n) → (∀ b o, b ≠ env.locals → b ≠ I → b ≠ D → s.heap.get? b = some o → h'.get? b = some o) → R (.ok .next) { s with heap := h', toks := tk }) :
    codeAny (model prg w) A (.compLoop (.ListComp (.Tuple [.Name rowN p1, .Name colN p2] kk pp) [⟨.Name rowN px, i0, [], 0⟩, ⟨.Name colN px', i1, [], 0⟩] sc pos) 0 (.ref I) (.ref D) env) R s := by
  have W := Walks.range (prog := prg) (w := w) hh I lo0 1 n0
  refine out_loop (hs := hs) (fun k s' => ∃ h' tk m' j zs, s' = { s with heap := h', toks := tk } ∧ IsRangeIter h' I (lo0 + (j : Nat) * 1) ((n0 : Int) - (j : Nat)) 1 ∧ h'.PlainList D (zs : List Value).toArray ∧ h'.Ns env.locals m' ∧ Places old h' zs (rowsOf lo0 lo j n) ∧ j ≤ n0 ∧ k = n0 + 1 - j ∧
      (∀ b o, b ≠ env.locals → b ≠ I → b ≠ D → s.heap.get? b = some o → h'.get? b = some o)) ?_ (n0 + 1)
    ⟨s.heap, s.toks, m, 0, [], rfl, by simpa using hI, by simpa using hD, hC, .nil, Nat.zero_le _, rfl, fun _ _ _ _ _ e => e⟩
  rintro k s' ⟨h', tk, m', j, zs, rfl, hI', hD', hC', hP, hj, rfl, hkp⟩
  rcases Nat.lt_or_ge j n0 with hlt | hge
  · refine W.item j _ _ _ hlt hI' fun v h₁ tk₁ hv hI₁ hk₁ => ?_
    obtain ⟨tv, rfl⟩ := hv
    have k₁ : ∀ b o, b ≠ I → h'.get? b = some o → h₁.get? b = some o := fun b o hb e => hk₁ b o (by simpa using hb) e
    have hC₁ : h₁.Ns env.locals m' := by obtain ⟨o, es, ep, ho, r⟩ := hC'; exact ⟨o, es, ep, k₁ _ _ hIC.symm ho, r⟩
    refine wpAny_assign_Name (wpAny_storeName_local hrow hC₁ (fun h₂ hC₂ hs₂ => ?_) hp)
    have k₂ : ∀ b o, b ≠ env.locals → b ≠ I → h'.get? b = some o → h₂.get? b = some o := fun b o a1 a2 e => hs₂.extBut _ _ a1 (k₁ _ _ a2 e)
    have hD₂ : h₂.PlainList D zs.toArray := hD'.at fun o e => k₂ _ _ hDC hID.symm e
    have hI₂ : IsRangeIter h₂ I (lo0 + ((j + 1 : Nat) : Int) * 1) ((n0 : Int) - ((j + 1 : Nat) : Int)) 1 := hs₂.extBut _ _ hIC hI₁
    refine hi1 h₂ _ _ _ _ hC₂ (fun b o a1 a2 a3 e => k₂ _ _ a1 a2 (hkp b o a1 a2 a3 e)) fun J h₃ tk₃ hJ hIJ k₃ => ?_
    have hD₃ : h₃.PlainList D zs.toArray := hD₂.at fun o e => k₃ _ _ e
    have hC₃ : h₃.Ns env.locals (fun z => if z = rowN then some (.int (lo0 + (j : Int) * 1) tv) else m' z) := by obtain ⟨o, es, ep, ho, r⟩ := hC₂; exact ⟨o, es, ep, k₃ _ _ ho, r⟩
    have hI₃ := k₃ _ _ hI₂
    have JC : J ≠ env.locals := fun e => by have := hC₂.lt; rw [← e] at this; exact absurd this (Nat.not_lt.mpr hJ)
    have JD : J ≠ D := fun e => by obtain ⟨q, e'⟩ := hD₂; have := Heap.lt_size e'; rw [← e] at this; exact absurd this (Nat.not_lt.mpr hJ)
    have JI : J ≠ I := fun e => by have := Heap.lt_size hI₂; rw [← e] at this; exact absurd this (Nat.not_lt.mpr hJ)
    have zl : zs.length = j * n := by rw [hP.length, rowsOf_length]
    have inner : codeAny (model prg w) A (.compLoop (.ListComp (.Tuple [.Name rowN p1, .Name colN p2] kk pp) [⟨.Name rowN px, i0, [], 0⟩, ⟨.Name colN px', i1, [], 0⟩] sc pos) 1 (.ref J) (.ref D) env)
        (fun r s' => match r with | .ok _ => ∃ m_1, m_1 < n0 + 1 - j ∧ (∃ h' tk m' j zs, s' = { s with heap := h', toks := tk } ∧ IsRangeIter h' I (lo0 + (j : Nat) * 1) ((n0 : Int) - (j : Nat)) 1 ∧ h'.PlainList D (zs : List Value).toArray ∧ h'.Ns env.locals m' ∧ Places old h' zs (rowsOf lo0 lo j n) ∧ j ≤ n0 ∧ m_1 = n0 + 1 - j ∧
          (∀ b o, b ≠ env.locals → b ≠ I → b ≠ D → s.heap.get? b = some o → h'.get? b = some o)) | .error e => cameBackBy (model prg w) A env (notedBy (model prg w) A env fun e s' => R (.error e) s') e s') { s with heap := h₃, toks := tk₃ } := by
      refine place_in (old := old) (ys := zs.toArray) (lo := lo) (n := n) (rv := lo0 + (j : Int) * 1) (t := tv) hh hk hrow hcol hb1 hb2 hne hp JC hDC JD hIJ hD₃ hC₃ (by simp) ?_ (fun b o e => ?_) fun h₄ tk₄ m₄ ws hD₄ hC₄ hP₄ k₄ => ?_
      · rw [List.size_toArray, zl, ← Nat.succ_mul]
        exact Nat.le_trans (Nat.mul_le_mul_right n hlt) hsz
      · obtain ⟨a1, a2, a3, a4⟩ := hold _ _ e
        have e₂ := k₂ _ _ a1 a2 (hkp _ _ a1 a2 a3 a4)
        exact ⟨a1, fun e' => by have := Heap.lt_size e₂; rw [e'] at this; exact absurd this (Nat.not_lt.mpr hJ), a3, k₃ _ _ e₂⟩
      · have k₅ : ∀ b o, b ≠ env.locals → b ≠ D → h₂.get? b = some o → h₄.get? b = some o := fun b o a1 a3 e => k₄ b o a1 (fun e' => by have := Heap.lt_size e; rw [e'] at this; exact absurd this (Nat.not_lt.mpr hJ)) a3 (k₃ _ _ e)
        refine ⟨n0 + 1 - (j + 1), by omega, h₄, tk₄, m₄, j + 1, zs ++ ws, rfl, k₅ _ _ hIC hID hI₂, by simpa using hD₄, hC₄, ?_, hlt, rfl, fun b o a1 a2 a3 e => k₅ _ _ a1 a3 (k₂ _ _ a1 a2 (hkp b o a1 a2 a3 e))⟩
        rw [rowsOf_succ]
        refine Places.append (hP.keep fun a x y e => ?_) (by rw [Int.mul_one] at hP₄; exact hP₄)
        exact k₅ _ _ (tup_ne_ns hC' e rfl) (tup_ne_list hD' e) (k₂ _ _ (tup_ne_ns hC' e rfl) (tup_ne_iter hI' e rfl) e)
    exact start_in inner (wpAny_pyIter_rangeiter hIJ inner)
  · have e : j = n0 := by omega
    subst e
    refine W.done _ _ _ hI' fun h₁ tk₁ hk₁ => ?_
    have k₁ : ∀ b o, b ≠ I → h'.get? b = some o → h₁.get? b = some o := fun b o hb e => hk₁ b o (by simpa using hb) e
    refine hR h₁ tk₁ m' zs (hD'.at fun o e => k₁ _ _ hID.symm e) (by obtain ⟨o, es, ep, ho, r⟩ := hC'; exact ⟨o, es, ep, k₁ _ _ hIC.symm ho, r⟩) (hP.keep fun a x y e => k₁ _ _ (tup_ne_iter hI' e rfl) e) fun b o a1 a2 a3 e => k₁ _ _ a2 (hkp b o a1 a2 a3 e)
end

end
-- part PX
section
-- entering a def with a cell; the comprehension of places
theorem enter_cells {w : World} {A : Around} {s : Shared} {p : Program} {loose : List Str} {mg mb : Str → Option Value} {g : Heap} {objs : List (Addr × Obj)}
    {R : Result → Shared → Prop} {name qual : Str} {params : Arguments} {body : List Stmt} {scope : Scope} {dV kV doc pm cdv ct oc : Value} {an od : Option Addr} {osl : Array (Option Value)} {f : Addr} {args : Args} {binds : List (Str × Value)}
    (hg : Ext g s.heap) (hM : Made g s.heap objs) (hsz : g.objs.size ≤ s.heap.objs.size)
    (X : (hd.heap_39 w.params).In g) (T : TopRead p loose mg mb g)
    (hroom : A.depth < 1000)
    (ho : (hd.heap_39 w.params).lookup f = some ⟨oc, od, .func (fnOf name qual params body scope dV kV doc pm an cdv ct), osl⟩) (hcd : codeIn (hd.heap_39 w.params) cdv qual = true)
    (hbind : BindsTo s (fnOf name qual params body scope dV kV doc pm an cdv ct) args binds)
    (hkind : ∀ n, ∀ x ∈ binds, scope.names.lookup x.1 = some .local ∨ (scope.names.lookup x.1 = some .cell ∧ ((cellsFrom n scope.names []).lookup x.1).isSome = true))
    (hnd : ((cellsFrom 0 scope.names []).map (·.1)).Nodup)
    (h : ∀ L' h₁ tk cells, Fr g L' h₁ (bindL (envOfC qual scope L' f cdv).kindOf binds fun _ => none) → News g L' h₁ (cells ++ objs) →
      CellsAre (bindC (envOfC qual scope L' f cdv).kindOf binds fun _ => none) (cellsFrom (L' + 1) scope.names []) cells → (∀ p ∈ objs, p.1 < L') →
      wpAny (model prg w) (A.deeper (envOfC qual scope L' f cdv)) (execs body (envOfC qual scope L' f cdv))
        (fun fl s' => R (.ok (.ret (match fl with | .ret v => v | _ => .none))) s')
        (fun e s' => wpAny (model prg w) (A.deeper (envOfC qual scope L' f cdv)) (leaving (envOfC qual scope L' f cdv) e) (fun _ s'' => R (.error e) s'') (fun e' s'' => R (.error e') s'') s')
        { s with heap := h₁, toks := tk })
    (hco : scope.isCoroutine = false) (hgen : scope.isGenerator = false) (hk : scope.kind = .function) : codeAny (model prg w) A (.call (.ref f) args) R s := by
  have X' := Frag.In.keeps X hg
  refine codeAny_call_function hroom (X' _ _ ho) rfl hco hgen rfl (codeRec_of X' hcd) (hbind _ _ _ _ ?_)
  refine wpAny_newFunctionEnv_cells hk (hkind _) fun env' he s' x => ?_
  subst he
  refine ⟨(T.nolimit.keeps hg).keeps x.toInCall.keep, codeAny_func ?_⟩
  obtain ⟨h₁, tk, rfl, _⟩ := x.done
  have hk₁ := x.toInCall.keep
  obtain ⟨cells, NC, Y⟩ := Cl.news (h₀ := s.heap) (Nat.le_refl _) fun n c hm => ⟨x.cell n c (lookup_of_mem_nodup (cellsFrom_names scope.names 0 (s.heap.objs.size + 1) [] [] rfl ▸ hnd) hm), x.above n c hm⟩
  refine h s.heap.objs.size h₁ tk cells ⟨x.toInCall.ns, fun b o e => hk₁ b o (hg _ _ e), hsz⟩ (fun p hp => ?_) Y (fun p hp => Heap.lt_size (hM p hp).1)
  rcases List.mem_append.mp hp with hp | hp
  · refine ⟨(NC p hp).1, (NC p hp).2.1, ?_⟩
    cases q : g.get? p.1 with
    | none => rfl
    | some o => have := hg _ _ q; rw [(NC p hp).2.2] at this; cases this
  · exact ⟨hk₁ _ _ (hM p hp).1, Nat.ne_of_lt (Heap.lt_size (hM p hp).1), (hM p hp).2⟩
def OldIs (_ : Heap) : Prop := True
def PlNext (old : Heap) (w : World) (A : Around) (env : Env) (sc : Scope) (cl : List (Str × Addr)) (i1 : Expr) (Q : Value → Shared → Prop) (it : Value) (s₂ : Shared) : Prop :=
  ∃ I lo0 n0 lo n, it = .ref I ∧ IsRangeIter s₂.heap I lo0 (n0 : Nat) 1 ∧ (∀ b o, old.get? b = some o → b ≠ I ∧ s₂.heap.get? b = some o) ∧ n0 * n ≤ 1000 ∧
    (∀ C h' tk' m' E' (Q' : Value → Shared → Prop), s₂.heap.objs.size ≤ C → h'.Ns C m' → (∀ b o, b ≠ I → s₂.heap.get? b = some o → h'.get? b = some o) →
      (∀ J h'' tk'', h'.objs.size ≤ J → IsRangeIter h'' J lo (n : Nat) 1 → (∀ b o, h'.get? b = some o → h''.get? b = some o) → Q' (.ref J) { s₂ with heap := h'', toks := tk'' }) →
      wpAny (model prg w) A (eval i1 (compEnvC sc cl C env)) (fun x s₃ => wpAny (model prg w) A (pyIter x) Q' E' s₃) E' { s₂ with heap := h', toks := tk' }) ∧
    (∀ D h' tk zs, s₂.heap.get? D = none → h'.PlainList D (zs : List Value).toArray → Places old h' zs (rowsOf lo0 lo n0 n) → (∀ b o, b ≠ I → s₂.heap.get? b = some o → h'.get? b = some o) → Q (.ref D) { s₂ with heap := h', toks := tk })
theorem comp_places {w : World} {A : Around} {E : Value → Shared → Prop} {s : Shared} {i0 i1 : Expr} {sc : Scope} {cl : List (Str × Addr)} {pos pp p1 p2 px px' : Pos} {kk : Nat} {env : Env} {rowN colN : Str} {Q : Value → Shared → Prop} {old0 : Heap} (_hO : OldIs old0)
    (hh : A.handled = none) (hclos : closureFor sc env = pure cl) (hcell : ∀ y ∈ sc.names, y.2 ≠ .cell) (hkind : sc.kind = .function)
    (hnames : ∀ y ∈ sc.names, y.2 = .local → sc.names.lookup y.1 = some .local) (hrow : sc.names.lookup rowN = some .local) (hcol : sc.names.lookup colN = some .local)
    (hb1 : (rowN == ("__debug__" : Str)) = false) (hb2 : (colN == ("__debug__" : Str)) = false) (hne : rowN ≠ colN)
    (hs0 : ∀ x, foldedSetIterable i0 env x = pure x) (hs1 : ∀ env' x, foldedSetIterable i1 env' x = pure x)
    (h : wpAny (model prg w) A (eval i0 env) (fun xv s₁ => wpAny (model prg w) A (pyIter xv) (fun it s₂ => PlNext old0 w A env sc cl i1 Q it s₂) E s₁) E s) :
    wpAny (model prg w) A (eval (.ListComp (.Tuple [.Name rowN p1, .Name colN p2] kk pp) [⟨.Name rowN px, i0, [], 0⟩, ⟨.Name colN px', i1, [], 0⟩] sc pos) env) Q E s := by
  rw [eval_ListComp]
  refine wpAny_comprehension_free (use := none) rfl hs0 hclos hkind hnames (wpAny_mono h (fun xv s₁ h₁ => wpAny_mono h₁ (fun it s₂ h₂ => ?_) fun _ _ e => e) fun _ _ e => e)
  obtain ⟨I, lo0, n0, lo, n, rfl, hI, hold, hsz, hi1, hQ⟩ := h₂
  refine wpAny_newObj_type (wpAny_newFunctionEnv hcell (by intro y hy; simp at hy) (fun h₁ hns₁ hsb₁ => ?_) hkind)
  dsimp only at hns₁ hsb₁ ⊢
  generalize hH2 : s₂.heap.push { cls := .type "list", dict := none, data := .seq ([] : List Value).toArray } = H2 at hns₁ hsb₁ ⊢
  have hC : H2.objs.size = s₂.heap.objs.size + 1 := by rw [← hH2, Heap.size_push]
  have hDC : s₂.heap.objs.size ≠ H2.objs.size := by rw [hC]; exact Nat.ne_of_lt (Nat.lt_succ_self _)
  have hIlt : I < s₂.heap.objs.size := Heap.lt_size hI
  have hIC : I ≠ H2.objs.size := by rw [hC]; exact Nat.ne_of_lt (Nat.lt_succ_of_lt hIlt)
  have hID : I ≠ s₂.heap.objs.size := Nat.ne_of_lt hIlt
  have old : ∀ b o, s₂.heap.get? b = some o → h₁.get? b = some o := fun b o e => hsb₁.extBut b o (by rw [hC]; exact Nat.ne_of_lt (Nat.lt_succ_of_lt (Heap.lt_size e))) (Heap.get?_push_of_some _ (hH2 ▸ Heap.get?_push_of_some _ e))
  have hacc : h₁.PlainList s₂.heap.objs.size #[] := ⟨_, hsb₁.extBut _ _ hDC (Heap.get?_push_of_some _ (hH2 ▸ Heap.get?_push_size _ rfl))⟩
  have fresh : ∀ a, s₂.heap.objs.size ≤ a → s₂.heap.get? a = none := fun a ha => by
    cases e : s₂.heap.get? a with
    | none => rfl
    | some o' => exact absurd (Heap.lt_size e) (Nat.not_lt.mpr ha)
  have ne_C : ∀ {b o}, s₂.heap.get? b = some o → b ≠ H2.objs.size := fun e => by rw [hC]; exact Nat.ne_of_lt (Nat.lt_succ_of_lt (Heap.lt_size e))
  have ne_D : ∀ {b o}, s₂.heap.get? b = some o → b ≠ s₂.heap.objs.size := fun e => Nat.ne_of_lt (Heap.lt_size e)
  have loop : ∀ s₃ : Shared, s₃ = { s₂ with heap := h₁, toks := s₂.toks + ([] : List (Str × Value)).length } →
      codeAny (model prg w) A (.compLoop (.ListComp (.Tuple [.Name rowN p1, .Name colN p2] kk pp) [⟨.Name rowN px, i0, [], 0⟩, ⟨.Name colN px', i1, [], 0⟩] sc pos) 0 (.ref I) (.ref s₂.heap.objs.size) (compEnvC sc cl H2.objs.size env))
        (compPost (model prg w) A E none Q (.ref s₂.heap.objs.size) H2.objs.size) s₃ := by
    rintro s₃ rfl
    refine place_out (old := old0) (lo0 := lo0) (lo := lo) (n0 := n0) (n := n) (env := compEnvC sc cl H2.objs.size env) hh (by simp [compEnvC, relabel, hkind]) (lookup_relabel_local hrow) (lookup_relabel_local hcol) hb1 hb2 hne (by simp [compEnvC, relabel, hkind]) (hs1 _)
      hIC hDC hID (old _ _ hI) hacc hns₁ hsz ?_ ?_ ?_
    · intro b o e
      obtain ⟨e1, e2⟩ := hold b o e
      exact ⟨ne_C e2, e1, ne_D e2, old _ _ e2⟩
    · intro h' tk' m' E' Q' hn hk hq
      exact hi1 _ h' tk' m' E' Q' (by rw [hC]; exact Nat.le_succ _) hn (fun b o hb e => hk b o (ne_C e) hb (ne_D e) (old _ _ e)) hq
    · intro h' tk m' zs hD hn hP hk
      exact ⟨m', hn, fun h'' hs'' => hQ _ h'' tk zs (fresh _ (Nat.le_refl _)) (hD.at fun o e => hs''.extBut _ _ hDC e) (hP.keep fun a x y e => hs''.extBut _ _ (tup_ne_ns hn e rfl) e) fun b o hb e => hs''.extBut _ _ (ne_C e) (hk b o (ne_C e) hb (ne_D e) (old _ _ e))⟩
  exact codeAny_compStart_list (loop _ rfl) (wpAny_pyIter_rangeiter (old _ _ hI) (loop _ rfl))

theorem range_it {w : World} {A : Around} {E : Value → Shared → Prop} {s : Shared} {a b : Int} {t u : Tok} {Q : Value → Shared → Prop} (ha : 0 ≤ a) (ha' : a ≤ 1000) (hb : a ≤ b) (hb' : b ≤ 1000)
    (h : ∀ J h'' tk'', s.heap.objs.size ≤ J → IsRangeIter h'' J a ((b - a).toNat : Nat) 1 → Ext s.heap h'' → Q (.ref J) { s with heap := h'', toks := tk'' }) :
    wpAny (model prg w) A (call (.type "range") [.int a t, .int b u]) (fun x s₃ => wpAny (model prg w) A (pyIter x) Q E s₃) E s := by
  refine call_range_2 ?_
  have hr : Builtin.Range.rangeSize a b 1 = ((b - a).toNat : Nat) := by
    unfold Builtin.Range.rangeSize
    simp
    omega
  refine wpAny_pyIter_range (IsRange.new _ _ _ _ _ _ _) ?_ ?_
  · unfold Builtin.Range.small Builtin.Range.rangeFitsLong
    rw [hr]
    simp
    omega
  · refine h _ _ _ ?_ ?_ fun b' o e => Heap.get?_push_of_some _ (Heap.get?_push_of_some _ e)
    · rw [Heap.size_push]; exact Nat.le_succ _
    · rw [hr]; exact Heap.get?_push_size _ rfl
section
variable {M : Model} {A : Around} {E : Value → Shared → Prop} {s : Shared} {K : Frag} {h₀ : Heap} {L L0 a : Addr} {m mg mb : Str → Option Value} {cn : Str} {cs sc : Scope} {ccd : Value} {cl cl' : List (Str × Addr)} {p : Program} {loose : List Str}
  {x : Str} {pos : Pos} {v : Value} {Q : Value → Shared → Prop}
theorem nameCC_K (F : Fr h₀ L s.heap m) (X : K.In h₀) (T : TopRead p loose mg mb h₀) (e : nsIn K mainGlobals x = some (some v)) (h : Q v s)
    (hk : (compEnvC sc cl' L (envX cn cs L0 a ccd cl)).scope.kind = .function) (hx : (compEnvC sc cl' L (envX cn cs L0 a ccd cl)).kindOf x = some .globalImplicit) (hd : (x == ("__debug__" : Str)) = false) :
    wpAny M A (eval (.Name x pos) (compEnvC sc cl' L (envX cn cs L0 a ccd cl))) Q E s := Name_function_global hk hx (loadGlobal_global (env := compEnvC sc cl' L (envX cn cs L0 a ccd cl)) (T.g.keeps F.keep) (mg_of X T.g e) h) hd
theorem nameCC_B (F : Fr h₀ L s.heap m) (X : K.In h₀) (T : TopRead p loose mg mb h₀) (e : nsIn K mainGlobals x = some none) (hv : bootBuiltins x = some v) (hn : x ≠ "__name__") (h : Q v s)
    (hk : (compEnvC sc cl' L (envX cn cs L0 a ccd cl)).scope.kind = .function) (hx : (compEnvC sc cl' L (envX cn cs L0 a ccd cl)).kindOf x = some .globalImplicit) (hd : (x == ("__debug__" : Str)) = false) :
    wpAny M A (eval (.Name x pos) (compEnvC sc cl' L (envX cn cs L0 a ccd cl))) Q E s :=
  Name_function_global hk hx (loadGlobal_builtin (env := compEnvC sc cl' L (envX cn cs L0 a ccd cl)) (T.g.keeps F.keep) (mg_none_of X T.g e) (T.b.keeps F.keep) ((T.builtins x hn).trans hv) h) hd
theorem nameCC_L (F : Fr h₀ L s.heap m) (hv : m x = some v) (h : Q v s)
    (hk : (compEnvC sc cl' L (envX cn cs L0 a ccd cl)).scope.kind = .function) (hx : (compEnvC sc cl' L (envX cn cs L0 a ccd cl)).kindOf x = some .local) (hd : (x == ("__debug__" : Str)) = false) :
    wpAny M A (eval (.Name x pos) (compEnvC sc cl' L (envX cn cs L0 a ccd cl))) Q E s := wpAny_Name (wpAny_loadName_local hk hx F.ns hv h) hd
end

end
-- part PM
section
-- membership of places; the comprehension that filters them
theorem Places.low {g old h : Heap} {zs : List Value} {ps : List (Int × Int)} (e : Ext g old) (P : Places old h zs ps) : Places g h zs ps := by
  induction P with
  | nil => exact .nil
  | @cons a _ _ _ _ _ f x _ ih =>
    refine .cons ?_ x ih
    cases q : g.get? a with
    | none => rfl
    | some o => rw [e _ _ q] at f; cases f
def pairIn (h : Heap) (v : Value) : Option (Int × Int) :=
  match v with
  | .ref a => match h.get? a with
    | some o => match o.data with
      | .seq vs _ => match vs.toList with
        | [.int x _, .int y _] => some (x, y)
        | _ => none
      | _ => none
    | none => none
  | _ => none
theorem pairIn_of {h : Heap} {a : Addr} {x y : Int} {t1 t2 : Tok} (e : h.get? a = some (tupObj [.int x t1, .int y t2])) : pairIn h (.ref a) = some (x, y) := by
  unfold pairIn; simp [e]
theorem places_ref {old h : Heap} {zs : List Value} {ps : List (Int × Int)} (P : Places old h zs ps) {v : Value} (hv : v ∈ zs) : ∃ a t1 t2 p, v = .ref a ∧ p ∈ ps ∧ h.get? a = some (tupObj [.int p.1 t1, .int p.2 t2]) := by
  induction P with
  | nil => cases hv
  | cons f e _ ih =>
    rcases List.mem_cons.mp hv with rfl | hv
    · exact ⟨_, _, _, _, rfl, List.mem_cons_self .., e⟩
    · obtain ⟨a, t1, t2, p, h1, h2, h3⟩ := ih hv
      exact ⟨a, t1, t2, p, h1, List.mem_cons_of_mem _ h2, h3⟩
theorem places_any {old h h0 : Heap} {zs : List Value} {ps : List (Int × Int)} (P : Places old h zs ps) (k : ∀ a x y, h.get? a = some (tupObj [x, y]) → h0.get? a = some (tupObj [x, y])) (q : Int × Int) : zs.any (fun y => pairIn h0 y == some q) = decide (q ∈ ps) := by
  induction P with
  | nil => simp
  | @cons a t1 t2 p zs ps f e P ih =>
    rw [List.any_cons, ih, pairIn_of (k _ _ _ e), show ((p.1, p.2) : Int × Int) = p from rfl]
    rw [Bool.eq_iff_iff]
    simp only [Bool.or_eq_true, beq_iff_eq, Option.some.injEq, decide_eq_true_eq, List.mem_cons]
    constructor
    · rintro (h | h)
      · exact .inl h.symm
      · exact .inr h
    · rintro (h | h)
      · exact .inl h.symm
      · exact .inr h
theorem places_filter {old h : Heap} {zs : List Value} {ps : List (Int × Int)} (P : Places old h zs ps) (g : Int × Int → Bool) (p : Value → Bool) (hp : ∀ v q, pairIn h v = some q → p v = g q) : Places old h (zs.filter p) (ps.filter g) := by
  induction P with
  | nil => exact .nil
  | @cons a t1 t2 q zs ps f e P ih =>
    rw [List.filter_cons, List.filter_cons, hp _ (q.1, q.2) (pairIn_of e)]
    cases hg : g (q.1, q.2) with
    | true => exact (by simp only [if_true]; exact .cons f e ih)
    | false => exact (by simp only [Bool.false_eq_true, if_false]; exact ih)
open SeqAt in
theorem pair_eq {A : Around} {s : Shared} {a b : Addr} {x y x' y' : Int} {t1 t2 t3 t4 : Tok} (ha : s.heap.get? a = some (tupObj [.int x t1, .int y t2])) (hb : s.heap.get? b = some (tupObj [.int x' t3, .int y' t4])) (hu : A.units < cLine) :
    EqAt A s (.ref a) (.ref b) (pairIn s.heap (.ref a) == some (x', y')) := by
  rw [pairIn_of ha]
  by_cases hab : a = b
  · subst hab
    rw [ha] at hb
    have e := congrArg Obj.data (Option.some.inj hb)
    simp at e
    obtain ⟨⟨rfl, _⟩, rfl, _⟩ := e
    intro prog w E Q hq
    unfold eqBool
    refine wpAny_holding ?_
    refine wpAny_ite_split (fun _ => ?_) (fun hn => absurd (by simp) hn)
    refine wpAny_bind (wpAny_rule (wpAny_pure ?_))
    simpa using hq
  · have R := RcAt.tuples (A := A) (s := s) (e := fun j => match j with | 0 => x == x' | _ => y == y') (show s.heap.IsTuple a #[.int x t1, .int y t2] from ⟨_, ha, rfl, 0, rfl⟩) (show s.heap.IsTuple b #[.int x' t3, .int y' t4] from ⟨_, hb, rfl, 0, rfl⟩) hu (fun j h1 h2 => by
      match j, h1, h2 with
      | 0, _, _ => exact EqAt.int_int x t1 x' t3
      | 1, _, _ => exact EqAt.int_int y t2 y' t4
      | j + 2, h1, _ => exact absurd h1 (by simp))
    have e : ((List.range (min (#[Value.int x t1, .int y t2] : Array Value).size (#[Value.int x' t3, .int y' t4] : Array Value).size)).all (fun j => match j with | 0 => x == x' | _ => y == y') && (#[Value.int x t1, .int y t2] : Array Value).size == (#[Value.int x' t3, .int y' t4] : Array Value).size) = (some (x, y) == some (x', y')) := by
      simp [List.range, List.range.loop]
      rw [Bool.eq_iff_iff]; simp
    rw [e] at R
    exact EqAt.of_refs hab R
theorem paired_eq {xs ys : List Value} (h : Paired (fun v y => y = v) xs ys) : ys = xs := by
  induction h with
  | nil => rfl
  | cons e _ ih => rw [e, ih]
theorem keeps_refl (s : Shared) : Keeps s s := ⟨s.heap, s.toks, rfl, fun _ _ e => e⟩
def memTest (h : Heap) (ps : List (Int × Int)) (neg : Bool) (v : Value) : Bool := match pairIn h v with | some q => (decide (q ∈ ps)) != neg | none => false
structure FiltAt (c : Addr) (D1 : Addr) (zs1 : List Value) (D2 : Addr) (zs2 : List Value) (ps1 ps2 : List (Int × Int)) (old old' : Heap) (h : Heap) : Prop where
  l1 : h.PlainList D1 zs1.toArray
  cell : h.IsCell c (some (.ref D2))
  l2 : h.PlainList D2 zs2.toArray
  p1 : Places old h zs1 ps1
  p2 : Places old' h zs2 ps2
  len : zs1.length ≤ 1000
open SeqAt in
theorem filter_core {w : World} {A : Around} {E : Value → Shared → Prop} {s₁ : Shared} {src : Expr} {placeN aroundN : Str} {p1 p2 p3 p4 pos pos' : Pos} {sc : Scope} {cl : List (Str × Addr)} {env : Env} {c D1 D2 : Addr} {zs1 zs2 : List Value} {ps1 ps2 : List (Int × Int)} {old old' : Heap} {RR : Value → Addr → Result → Shared → Prop} (op : CmpOp) (neg : Bool)
    (hop : (op = .In ∧ neg = false) ∨ (op = .NotIn ∧ neg = true))
    (hh : A.handled = none) (hcell : ∀ y ∈ sc.names, y.2 ≠ .cell) (hkind : sc.kind = .function) (hx : sc.names.lookup placeN = some .local) (har : cl.lookup aroundN = some c)
    (hka : ∀ C, (compEnvC sc cl C env).kindOf aroundN = some .cell) (hb1 : (placeN == ("__debug__" : Str)) = false) (hb2 : (aroundN == ("__debug__" : Str)) = false)
    (hmk : behindInMarks op (.Name aroundN p4) = false) (hu : A.units + 5 < cLine) (F : FiltAt c D1 zs1 D2 zs2 ps1 ps2 old old' s₁.heap)
    (hRR : ∀ D C h' tk m' zs, s₁.heap.get? D = none → s₁.heap.get? C = none → D ≠ C → h'.Ns C m' → h'.PlainList D (zs : List Value).toArray → Places old h' zs (ps1.filter fun q => (decide (q ∈ ps2)) != neg) → Ext s₁.heap h' → RR (.ref D) C (.ok .next) { s₁ with heap := h', toks := tk }) :
    wpAny (model prg w) A (pyIter (.ref D1)) (fun it s₂ => wpAny (model prg w) A (newList []) (fun acc s₃ => wpAny (model prg w) A (newFunctionEnv sc env.globals cl [] env.qual none .none (some env)) (fun cenv s₄ =>
      codeAny (model prg w) A (.compStart (.ListComp (.Name placeN p1) [⟨.Name placeN p2, src, [.Compare (.Name placeN p3) [op] [.Name aroundN p4] pos'], 0⟩] sc pos) 0 it acc { cenv with scope := relabel sc env }) (RR acc cenv.locals) s₄) E s₃) E s₂) E s₁ := by
  obtain ⟨hD1, hc, hD2, hP1, hP2, hlen1⟩ := F
  have hD1lt : D1 < s₁.heap.objs.size := by obtain ⟨n, e⟩ := hD1; exact Heap.lt_size e
  refine wpAny_pyIter_list hD1.isList ?_
  have upI : ∀ {b o}, s₁.heap.get? b = some o → (s₁.heap.push { cls := .type "list_iterator", data := .fields #[.ref D1, .int 0 0] }).get? b = some o := fun e => Heap.get?_push_of_some _ e
  have hkc : ∀ C, (compEnvC sc cl C env).scope.kind = .function := fun C => by simp [compEnvC, relabel, hkind]
  have hkp : ∀ C, (compEnvC sc cl C env).kindOf placeN = some .local := fun C => lookup_relabel_local hx
  refine comp_block_walkC (RR := RR) (Walks.list hh s₁.heap.objs.size D1 (Nat.ne_of_lt hD1lt) zs1.toArray) (by rw [List.size_toArray]; exact Nat.le_trans hlen1 (by decide)) (memTest s₁.heap ps2 neg) (fun v y => y = v) hcell hkind hx
    ⟨⟨_, Heap.get?_push_size _ rfl, rfl, rfl⟩, hD1.isList.push _⟩ (fun b hb => ?_) ⟨?_, ?_⟩ ?_
  · rw [Heap.size_push]
    simp only [List.mem_cons, List.not_mem_nil, or_false] at hb
    rcases hb with rfl | rfl
    · exact Nat.lt_succ_self _
    · exact Nat.lt_succ_of_lt hD1lt
  · intro C i v s₃ m₃ E' hC hPv hn hm hk htk
    have ext : Ext s₁.heap s₃.heap := fun b o e => hk b o (by simp; exact Nat.ne_of_lt (Heap.lt_size e)) (upI e)
    have hv : v ∈ zs1 := by
      have : zs1[i]? = some v := by simpa using hPv
      exact List.mem_of_getElem? this
    obtain ⟨a, t1, t2, q, rfl, hq, ha⟩ := places_ref hP1 hv
    have hD2' : s₃.heap.IsList D2 zs2.toArray := (hD2.at fun o e => ext _ _ e).isList
    have key : ∀ A' : Around, A'.units < cLine → ∀ y, y ∈ zs2.toArray → EqAt A' s₃ y (.ref a) (pairIn s₁.heap y == some q) := fun A' hA y hy => by
      obtain ⟨b, t3, t4, q', rfl, _, hb⟩ := places_ref hP2 (by simpa using hy)
      have := pair_eq (A := A') (s := s₃) (ext _ _ hb) (ext _ _ ha) hA
      rw [pairIn_of (ext _ _ hb)] at this
      rw [pairIn_of hb]
      exact this
    have hany : zs2.toArray.any (fun y => pairIn s₁.heap y == some q) = decide (q ∈ ps2) := by
      rw [List.any_toArray]; exact places_any hP2 (fun _ _ _ e => e) q
    have hmt : memTest s₁.heap ps2 neg (.ref a) = ((decide (q ∈ ps2)) != neg) := by
      unfold memTest; rw [pairIn_of ha]
    simp only [List.forIn_cons, List.forIn_nil, if_true]
    refine wpAny_bind (wpAny_bind (wpAny_isTrue_Compare1 (wpAny_Name (wpAny_loadName_local (hkc C) (hkp C) hn hm ?_) hb1) hmk))
    refine wpAny_Name (wpAny_loadName_cell (hkc C) (hka C) har (v := .ref D2) (by obtain ⟨o, ho, hd⟩ := hc; exact ⟨o, ext _ _ ho, hd⟩) ?_) hb2
    rcases hop with ⟨rfl, rfl⟩ | ⟨rfl, rfl⟩
    · refine in_listAt (fun y => pairIn s₁.heap y == some q) hD2' (fun y hy => key _ (by show A.units + _ < _; omega) y hy) (wpAny_truthy_bool (wpAny_pure (wpAny_pure ⟨?_, keeps_refl _⟩)))
      rw [hany, hmt]; simp
    · refine notIn_listAt (fun y => pairIn s₁.heap y == some q) hD2' (fun y hy => key _ (by show A.units + _ < _; omega) y hy) (wpAny_truthy_bool (wpAny_pure (wpAny_pure ⟨?_, keeps_refl _⟩)))
      rw [hany, hmt]; simp
  · intro C i v s₃ m₃ E' hC hPv hpv hn hm hk htk
    exact wpAny_Name (wpAny_loadName_local (hkc C) (hkp C) hn hm ⟨rfl, keeps_refl _⟩) hb1
  · intro D C h' tk m' ys vs hD hC hDC hn hl hpl hlen hP hF hk
    have hvs : vs = zs1 := by
      apply List.ext_getElem?
      intro i
      cases e : vs[i]? with
      | some v => have := hP i v e; simpa using this.symm
      | none =>
        have h1 := List.getElem?_eq_none_iff.mp e
        rw [hlen, List.size_toArray] at h1
        exact (List.getElem?_eq_none h1).symm
    subst hvs
    have ext : Ext s₁.heap h' := fun b o e => hk b o (by simp; exact Nat.ne_of_lt (Heap.lt_size e)) (upI e)
    have hys : ys = (vs.filter (memTest s₁.heap ps2 neg)).toArray := by rw [← paired_eq hF]
    have fresh : s₁.heap.get? D = none := by
      cases e : s₁.heap.get? D with
      | none => rfl
      | some o => rw [upI e] at hD; cases hD
    have hPf : Places old h' (vs.filter (memTest s₁.heap ps2 neg)) (ps1.filter fun q => (decide (q ∈ ps2)) != neg) :=
      (places_filter hP1 _ _ fun v q e => by unfold memTest; rw [e]).ext ext
    have freshC : s₁.heap.get? C = none := by
      cases e : s₁.heap.get? C with
      | none => rfl
      | some o => rw [upI e] at hC; cases hC
    exact hRR D C h' tk m' _ fresh freshC hDC hn (by rw [hys] at hpl; exact hpl) hPf ext
def FiltNext (c : Addr) (neg : Bool) (Q : Value → Shared → Prop) (xv : Value) (s₁ : Shared) : Prop :=
  ∃ D1 zs1 D2 zs2 ps1 ps2 old old', xv = .ref D1 ∧ s₁.heap.PlainList D1 (zs1 : List Value).toArray ∧ s₁.heap.IsCell c (some (.ref D2)) ∧ s₁.heap.PlainList D2 (zs2 : List Value).toArray ∧
      Places old s₁.heap zs1 ps1 ∧ Places old' s₁.heap zs2 ps2 ∧ zs1.length ≤ 1000 ∧
      (∀ D h' tk zs, s₁.heap.get? D = none → h'.PlainList D (zs : List Value).toArray → Places old h' zs (ps1.filter fun q => (decide (q ∈ ps2)) != neg) → Ext s₁.heap h' → Q (.ref D) { s₁ with heap := h', toks := tk })
theorem comp_filter {w : World} {A : Around} {E : Value → Shared → Prop} {s : Shared} {src : Expr} {placeN aroundN : Str} {p1 p2 p3 p4 pos pos' : Pos} {sc : Scope} {cl : List (Str × Addr)} {env : Env} {c : Addr} {Q : Value → Shared → Prop} (op : CmpOp) (neg : Bool)
    (hop : (op = .In ∧ neg = false) ∨ (op = .NotIn ∧ neg = true))
    (hh : A.handled = none) (hclos : closureFor sc env = pure cl) (hcell : ∀ y ∈ sc.names, y.2 ≠ .cell) (hkind : sc.kind = .function)
    (hnames : ∀ y ∈ sc.names, y.2 = .local → sc.names.lookup y.1 = some .local) (hx : sc.names.lookup placeN = some .local) (har : cl.lookup aroundN = some c)
    (hka : ∀ C, (compEnvC sc cl C env).kindOf aroundN = some .cell) (hb1 : (placeN == ("__debug__" : Str)) = false) (hb2 : (aroundN == ("__debug__" : Str)) = false)
    (hmk : behindInMarks op (.Name aroundN p4) = false)
    (hs : ∀ x, foldedSetIterable src env x = pure x) (hu : A.units + 5 < cLine)
    (h : wpAny (model prg w) A (eval src env) (fun xv s₁ => FiltNext c neg Q xv s₁) E s) :
    wpAny (model prg w) A (eval (.ListComp (.Name placeN p1) [⟨.Name placeN p2, src, [.Compare (.Name placeN p3) [op] [.Name aroundN p4] pos'], 0⟩] sc pos) env) Q E s := by
  rw [eval_ListComp]
  refine wpAny_comprehension_free (use := none) rfl hs hclos hkind hnames (wpAny_mono h (fun xv s₁ h₁ => ?_) fun _ _ e => e)
  obtain ⟨D1, zs1, D2, zs2, ps1, ps2, old, old', rfl, hD1, hc, hD2, hP1, hP2, hlen1, hQ⟩ := h₁
  refine filter_core op neg hop hh hcell hkind hx har hka hb1 hb2 hmk hu ⟨hD1, hc, hD2, hP1, hP2, hlen1⟩ fun D C h' tk m' zs fD fC hDC hn hL hP ext => ?_
  have hneC : ∀ {b o}, s₁.heap.get? b = some o → b ≠ C := fun e e' => by rw [e', fC] at e; cases e
  exact ⟨m', hn, fun h'' hs'' => hQ D h'' tk zs fD (hL.at fun o e => hs''.extBut _ _ hDC e) (hP.keep fun a x y e => hs''.extBut _ _ (tup_ne_ns hn e rfl) e) fun b o e => hs''.extBut _ _ (hneC e) (ext _ _ e)⟩
def FiltSet (c : Addr) (neg : Bool) (L : Addr) (y : Str) (Q : Flow → Shared → Prop) (xv : Value) (s₁ : Shared) : Prop :=
  ∃ D1 zs1 D2 zs2 ps1 ps2 old old' m, xv = .ref D1 ∧ FiltAt c D1 zs1 D2 zs2 ps1 ps2 old old' s₁.heap ∧ s₁.heap.Ns L m ∧
      (∀ D h' tk zs, s₁.heap.get? D = none → h'.PlainList D (zs : List Value).toArray → Places old h' zs (ps1.filter fun q => (decide (q ∈ ps2)) != neg) → (∀ b o, b ≠ L → s₁.heap.get? b = some o → h'.get? b = some o) →
        h'.Ns L (fun x => if x = y then some (.ref D) else m x) → Q .next { s₁ with heap := h', toks := tk })
theorem set_filter {w : World} {A : Around} {E : Value → Shared → Prop} {s : Shared} {src : Expr} {placeN aroundN y : Str} {p1 p2 p3 p4 pos pos' py spos : Pos} {sc : Scope} {cl : List (Str × Addr)} {env : Env} {c : Addr} {Q : Flow → Shared → Prop} (op : CmpOp) (neg : Bool)
    (hop : (op = .In ∧ neg = false) ∨ (op = .NotIn ∧ neg = true))
    (hsw : swapsWith (.ListComp (.Name placeN p1) [⟨.Name placeN p2, src, [.Compare (.Name placeN p3) [op] [.Name aroundN p4] pos'], 0⟩] sc pos) (some (.Name y py)) spos.line env = pure true)
    (hh : A.handled = none) (hclos : closureFor sc env = pure cl) (hcell : ∀ y ∈ sc.names, y.2 ≠ .cell) (hkind : sc.kind = .function)
    (hnames : ∀ y ∈ sc.names, y.2 = .local → sc.names.lookup y.1 = some .local) (hx : sc.names.lookup placeN = some .local) (har : cl.lookup aroundN = some c)
    (hka : ∀ C, (compEnvC sc cl C env).kindOf aroundN = some .cell) (hb1 : (placeN == ("__debug__" : Str)) = false) (hb2 : (aroundN == ("__debug__" : Str)) = false)
    (hmk : behindInMarks op (.Name aroundN p4) = false)
    (hs : ∀ x, foldedSetIterable src env x = pure x) (hu : A.units + 5 < cLine)
    (hy : env.kindOf y = some .local) (hp : (env.scope.kind == .class || (env.scope.kind == .module && env.locals != env.globals)) = false)
    (h : wpAny (model prg w) A (eval src env) (fun xv s₁ => FiltSet c neg env.locals y Q xv s₁) E s) :
    wpAny (model prg w) A (exec (.Assign [.Name y py] (.ListComp (.Name placeN p1) [⟨.Name placeN p2, src, [.Compare (.Name placeN p3) [op] [.Name aroundN p4] pos'], 0⟩] sc pos) spos) env) Q E s := by
  rw [exec_Assign_Name_used _ _ _ _ hsw]
  refine wpAny_bind (wpAny_standAt (wpAny_bind ?_))
  show wpAny _ A (do let _ ← comprehension (.ListComp (.Name placeN p1) [⟨.Name placeN p2, src, [.Compare (.Name placeN p3) [op] [.Name aroundN p4] pos'], 0⟩] sc pos) sc env _ (newList []) false (eval src env) (some (assign (.Name y py) env))) _ _ s
  refine wpAny_bind (wpAny_mono (wpAny_comprehension_free (use := some (assign (.Name y py) env)) (Q := fun _ s' => Q .next s') rfl hs hclos hkind hnames (wpAny_mono h (fun xv s₁ h₁ => ?_) fun _ _ e => e)) (fun _ s' hq => ?_) fun _ _ e => e)
  · obtain ⟨D1, zs1, D2, zs2, ps1, ps2, old, old', m, rfl, FA, hL, hQ⟩ := h₁
    refine filter_core op neg hop hh hcell hkind hx har hka hb1 hb2 hmk hu FA fun D C h' tk m' zs fD fC hDC hn hD hP ext => ?_
    have hneC : ∀ {b o}, s₁.heap.get? b = some o → b ≠ C := fun e e' => by rw [e', fC] at e; cases e
    have hL' : h'.Ns env.locals m := by obtain ⟨o, es, ep, ho, r⟩ := hL; exact ⟨o, es, ep, ext _ _ ho, r⟩
    have hLC : env.locals ≠ C := by obtain ⟨o, es, ep, ho, r⟩ := hL; exact hneC ho
    have hDL : D ≠ env.locals := by rintro rfl; obtain ⟨o, es, ep, ho, r⟩ := hL; rw [fD] at ho; cases ho
    refine wpAny_assign_Name (wpAny_storeName_local hy hL' (fun h₂ hn₂ hs₂ => ?_) hp)
    have hnC : h₂.Ns C m' := by obtain ⟨o, es, ep, ho, r⟩ := hn; exact ⟨o, es, ep, hs₂.extBut _ _ hLC.symm ho, r⟩
    refine ⟨m', hnC, fun h₃ hs₃ => ?_⟩
    refine hQ D h₃ _ zs fD (hD.at fun o e => hs₃.extBut _ _ hDC (hs₂.extBut _ _ hDL e)) (hP.keep fun a x y e => hs₃.extBut _ _ (tup_ne_ns hn e rfl) (hs₂.extBut _ _ (tup_ne_ns hL' e rfl) e)) (fun b o hb e => hs₃.extBut _ _ (hneC e) (hs₂.extBut _ _ hb (ext _ _ e))) ?_
    obtain ⟨o, es, ep, ho, r⟩ := hn₂
    exact ⟨o, es, ep, hs₃.extBut _ _ hLC ho, r⟩
  · exact wpAny_pure (wpAny_pure hq)
open SeqAt in
theorem list_eq_nil {w : World} {A : Around} {E : Value → Shared → Prop} {s : Shared} {D B : Addr} {zs : List Value} {Q : Value → Shared → Prop} (hD : s.heap.IsList D zs.toArray) (hB : s.heap.IsList B #[]) (hu : A.units < cLine) (h : Q (.bool zs.isEmpty) s) :
    wpAny (model prg w) A (compareOp .Eq (.ref D) (.ref B)) Q E s := by
  cases zs with
  | nil => exact RcAt.lists (e := fun _ => true) hD hB rfl hu (fun j h1 _ => absurd h1 (by simp)) prg w E Q h
  | cons z zs => exact RcAt.lists_lengths hD hB (by simp) hu prg w E Q h
theorem news_list {h₀ h h' : Heap} {L D : Addr} {m : Str → Option Value} {news : List (Addr × Obj)} {zs : List Value} (F : Fr h₀ L h m) (N : News h₀ L h news) (e : Ext h h') (hn : h.get? D = none) (hL : h'.PlainList D zs.toArray) :
    ∃ n, News h₀ L h' ((D, { cls := .type "list", data := .seq zs.toArray n }) :: news) := by
  obtain ⟨n, hL⟩ := hL
  exact ⟨n, news_ext F N e (objs := [(D, _)]) fun q hq => by rw [List.mem_singleton.mp hq]; exact ⟨hL, hn⟩⟩
theorem news_at {h₀ h : Heap} {L : Addr} {news : List (Addr × Obj)} {b : Addr} {o : Obj} (N : News h₀ L h news) (m : (b, o) ∈ news) : h₀.get? b = none ∧ h.get? b = some o := ⟨(N _ m).2.2, (N _ m).1⟩
theorem news_off {h₀ h : Heap} {L D : Addr} {news : List (Addr × Obj)} (N : News h₀ L h news) (e : h.get? D = none) : ∀ p ∈ news, @Ne Nat p.1 D := fun p hp q => by
  have := (N p hp).1
  rw [show p.1 = D from q, e] at this
  cases this
theorem store_P {M : Model} {A : Around} {E : Value → Shared → Prop} {s : Shared} {h₀ old : Heap} {L a : Addr} {m : Str → Option Value} {cn : Str} {cs : Scope} {ccd : Value} {cl : List (Str × Addr)} {x : Str} {v : Value} {Q : Unit → Shared → Prop} {c : Addr} {o d : Obj} {D : Addr} {v₀ : Option Value} {zs : List Value} {ps : List (Int × Int)} {rest : List (Addr × Obj)}
    (F : Fr h₀ L s.heap m) (N : News h₀ L s.heap ((D, d) :: (c, o) :: rest)) (P : Places old s.heap zs ps) (hne : D ≠ c) (hr : ∀ p ∈ rest, @Ne Nat p.1 c) (hc : cl.lookup x = some c) (hd : o.data = .cell v₀)
    (h : ∀ h' o', Fr h₀ L h' m → News h₀ L h' ((D, d) :: (c, o') :: rest) → o'.data = .cell (some v) → Places old h' zs ps → Q () { s with heap := h' })
    (hk : cs.kind = .function) (hx : (envX cn cs L a ccd cl).kindOf x = some .cell) : wpAny M A (storeName (envX cn cs L a ccd cl) x v) Q E s := by
  have hmem := N (c, o) (List.mem_cons_of_mem _ (List.mem_cons_self ..))
  refine wpAny_storeName_cell hk hx hc ⟨o, hmem.1, hd⟩ fun h' hv hs => ?_
  obtain ⟨o', ho', hd'⟩ := hv
  refine h h' o' ⟨F.ns.sameBut hs (Ne.symm hmem.2.1), fun b ob e => (hs.2 b (fun q => ?_)).trans (F.keep b ob e), F.above⟩ (fun q hq => ?_) hd' (P.keep fun b y z e => hs.extBut _ _ (fun q => ?_) e)
  · rw [q, hmem.2.2] at e; cases e
  · rcases List.mem_cons.mp hq with rfl | hq'
    · have hD := N (D, d) (List.mem_cons_self ..)
      exact ⟨hs.extBut _ _ hne hD.1, hD.2⟩
    · rcases List.mem_cons.mp hq' with rfl | hq''
      · exact ⟨ho', hmem.2⟩
      · have := N q (List.mem_cons_of_mem _ (List.mem_cons_of_mem _ hq''))
        exact ⟨hs.extBut _ _ (hr _ hq'') this.1, this.2⟩
  · rw [q, hmem.1] at e
    have := congrArg Obj.data (Option.some.inj e)
    rw [hd] at this; cases this
theorem places_ends {old h : Heap} {zs : List Value} {ps : List (Int × Int)} (P : Places old h zs ps) (hne : ps ≠ []) :
    ∃ a t1 t2 b t3 t4 p q, zs[0]? = some (.ref a) ∧ zs[zs.length - 1]? = some (.ref b) ∧ ps.head? = some p ∧ ps.getLast? = some q ∧ old.get? a = none ∧ old.get? b = none ∧
      h.get? a = some (tupObj [.int p.1 t1, .int p.2 t2]) ∧ h.get? b = some (tupObj [.int q.1 t3, .int q.2 t4]) := by
  induction P with
  | nil => exact absurd rfl hne
  | @cons a t1 t2 p zs ps f e P ih =>
    cases ps with
    | nil =>
      cases P
      exact ⟨a, t1, t2, a, t1, t2, p, p, rfl, rfl, rfl, rfl, f, f, e, e⟩
    | cons p' ps' =>
      obtain ⟨a', t1', t2', b, t3, t4, p2, q, h1, h2, h3, h4, h5, h6, h7, h8⟩ := ih (by simp)
      have hz : zs.length ≠ 0 := by intro hz; have := List.eq_nil_of_length_eq_zero hz; subst this; simp at h1
      refine ⟨a, t1, t2, b, t3, t4, p, q, rfl, ?_, rfl, ?_, f, h6, e, h8⟩
      · rw [List.length_cons, show zs.length + 1 - 1 = (zs.length - 1) + 1 by omega, List.getElem?_cons_succ]; exact h2
      · rw [List.getLast?_cons_cons]; exact h4
section
variable {w : World} {A : Around} {E : Value → Shared → Prop} {s : Shared} {value slice : Expr} {D : Addr} {zs : List Value} {n : Nat} {u : Tok} {v : Value} {Q : Value → Shared → Prop}
theorem sub_first (hD : s.heap.IsList D zs.toArray) (hv : zs[0]? = some v) (h : Q v s)
    (hs : subscripted slice false (.ref D) (.int 0 u) = operate [.ref D, .int 0 u] (getItem (.ref D) (.int 0 u))) (hg : ∀ r, letTemporaryGo value (.ref D) r = pure ()) :
    wpAny (model prg w) A (subscriptTail value slice (.ref D) (.int 0 u)) Q E s :=
  item_list hD (Int.le_refl 0) (by decide) (by simpa using hv) h hs hg
theorem sub_last (hD : s.heap.IsList D zs.toArray) (hv : zs[zs.length - 1]? = some v) (h : Q v s)
    (hs : subscripted slice false (.ref D) (.int (-1) u) = operate [.ref D, .int (-1) u] (getItem (.ref D) (.int (-1) u))) (hg : ∀ r, letTemporaryGo value (.ref D) r = pure ()) :
    wpAny (model prg w) A (subscriptTail value slice (.ref D) (.int (-1) u)) Q E s := by
  have hz : zs.length ≠ 0 := by intro e; rw [List.getElem?_eq_none (by omega)] at hv; cases hv
  refine subscriptTail_builtin hD.typeIs slot_list_getitem.lookup (wpAny_getItem_list_neg hD (by decide) (by rw [List.size_toArray]; omega) (by decide) ?_ h) hs hg
  rw [List.size_toArray, show ((-1 : Int) + (zs.length : Int)).toNat = zs.length - 1 by omega]
  simpa using hv
end

end
-- part PY
section
-- a comprehension of one clause over any iterator, its results under a predicate of the heap
def Outs (R : Nat → Value → Heap → Prop) (h : Heap) (ys : List Value) : Prop := ∀ j y, ys[j]? = some y → R j y h
theorem turns_loop {w : World} {A : Around} {s : Shared} {elt target iter : Expr} {sc : Scope} {pos : Pos} {env : Env} {I D : Addr} {fp wr : List Addr} {n : Nat} {P Md : Nat → Value → Heap → Prop} {St : Nat → Heap → Prop} {R : Nat → Value → Heap → Prop} {RR : Result → Shared → Prop} {m : Str → Option Value}
    (T : KTurns prg w A target I fp wr n P Md St) (hn : n ≤ 1000) (hDC : D ≠ env.locals) (hCf : env.locals ∉ fp) (hDf : D ∉ fp)
    (mono : ∀ j y h h', R j y h → (∀ b o, b ≠ env.locals → b ≠ D → b ∉ wr → h.get? b = some o → h'.get? b = some o) → R j y h')
    (hst : St 0 s.heap) (hD : s.heap.PlainList D #[]) (hC : s.heap.Ns env.locals m)
    (turn : ∀ i v h tk m' (E' : Value → Shared → Prop) (Q' : Value → Shared → Prop), i < n → P i v h → St (i + 1) h → (∃ o, h.get? D = some o) → h.Ns env.locals m' → (∀ b o, b ≠ env.locals → b ≠ D → b ∉ wr → s.heap.get? b = some o → h.get? b = some o) →
      (∀ y h3 tk3 m3, h3.Ns env.locals m3 → (∀ b o, b ≠ env.locals → h.get? b = some o → h3.get? b = some o) → R i y h3 → Q' y { s with heap := h3, toks := tk3 }) →
      wpAny (model prg w) A (assign target env v) (fun _ s₂ => wpAny (model prg w) A (eval elt env) Q' E' s₂) E' { s with heap := h, toks := tk })
    (hR : ∀ h' tk m' ys, ys.length = n → h'.PlainList D (ys : List Value).toArray → h'.Ns env.locals m' → Outs R h' ys → (∀ b o, b ≠ env.locals → b ≠ D → b ∉ wr → s.heap.get? b = some o → h'.get? b = some o) → RR (.ok .next) { s with heap := h', toks := tk }) :
    codeAny (model prg w) A (.compLoop (.ListComp elt [⟨target, iter, [], 0⟩] sc pos) 0 (.ref I) (.ref D) env) RR s := by
  have hCw : env.locals ∉ wr := fun hm => hCf (T.sub _ hm)
  have hDw : D ∉ wr := fun hm => hDf (T.sub _ hm)
  refine kcp_loop (fun k s' => ∃ h' tk m' ys i, s' = { s with heap := h', toks := tk } ∧ St i h' ∧ h'.PlainList D (ys : List Value).toArray ∧ h'.Ns env.locals m' ∧ Outs R h' ys ∧ ys.length = i ∧ i ≤ n ∧ k = n + 1 - i ∧
      (∀ b o, b ≠ env.locals → b ≠ D → b ∉ wr → s.heap.get? b = some o → h'.get? b = some o)) ?_ (n + 1)
    ⟨s.heap, s.toks, m, [], 0, rfl, hst, hD, hC, (fun j y e => by simp at e), rfl, Nat.zero_le _, rfl, fun _ _ _ _ _ e => e⟩
  rintro k s' ⟨h', tk, m', ys, i, rfl, hSt, hD', hC', hO, hl, hi, rfl, hkp⟩
  rcases Nat.lt_or_ge i n with hlt | hge
  · refine T.item i _ _ _ hlt hSt fun v h₁ tk₁ hMd hk₁ => ?_
    refine T.go i v _ _ _ hMd fun h₂ hP hSt₂ hk₂ => ?_
    have k12 : ∀ b o, b ∉ wr → h'.get? b = some o → h₂.get? b = some o := fun b o hb e => hk₂ b o hb (hk₁ b o hb e)
    have hC₂ : h₂.Ns env.locals m' := by obtain ⟨o, es, ep, ho, r⟩ := hC'; exact ⟨o, es, ep, k12 _ _ hCw ho, r⟩
    refine turn i v h₂ _ m' _ _ hlt hP hSt₂ (let ⟨_, e⟩ := hD'; ⟨_, k12 _ _ hDw e⟩) hC₂ (fun b o a1 a2 a3 e => k12 b o a3 (hkp b o a1 a2 a3 e)) fun y h3 tk3 m3 hC3 hk3 hRi => ?_
    have hD3 : h3.PlainList D ys.toArray := hD'.at fun o e => hk3 _ _ hDC (k12 _ _ hDw e)
    refine wpAny_list_append_plain hD3 (fun h₄ hD₄ hs₄ => ?_) (by show ys.toArray.size ≤ sizeLine; refine Nat.le_trans ?_ (show 1000 ≤ sizeLine by decide); simp only [List.size_toArray]; omega)
    replace hs₄ : Heap.SameBut D h3 h₄ := hs₄
    have hk4 : ∀ b o, b ≠ env.locals → b ≠ D → b ∉ wr → h'.get? b = some o → h₄.get? b = some o := fun b o a1 a2 a3 e => hs₄.extBut _ _ a2 (hk3 _ _ a1 (k12 _ _ a3 e))
    refine ⟨n + 1 - (i + 1), by omega, h₄, _, m3, ys ++ [y], i + 1, rfl, T.frame _ _ _ hSt₂ (fun b hb o e => hs₄.extBut _ _ (fun z => hDf (z ▸ hb)) (hk3 _ _ (fun z => hCf (z ▸ hb)) e)), ?_, ?_, ?_, by simp [hl], hlt, rfl, fun b o a1 a2 a3 e => hk4 b o a1 a2 a3 (hkp b o a1 a2 a3 e)⟩
    · have e : ys.toArray.push y = (ys ++ [y]).toArray := by apply Array.toList_inj.mp; simp
      rw [← e]; exact hD₄
    · obtain ⟨o, es, ep, ho, r⟩ := hC3; exact ⟨o, es, ep, hs₄.extBut _ _ hDC.symm ho, r⟩
    · intro j z e
      rcases Nat.lt_or_ge j ys.length with hj | hj
      · rw [List.getElem?_append_left hj] at e
        exact mono j z h' h₄ (hO j z e) hk4
      · rw [List.getElem?_append_right hj] at e
        have hj' : j = i := by
          cases hq : j - ys.length with
          | zero => omega
          | succ q => rw [hq] at e; cases e
        subst hj'
        rw [show j - ys.length = 0 by omega] at e
        cases e
        exact mono _ _ h3 h₄ hRi fun b o _ a2 _ e => hs₄.extBut _ _ a2 e
  · have e : i = n := by omega
    subst e
    refine T.done _ _ _ hSt fun h₁ tk₁ hk₁ => ?_
    refine hR h₁ tk₁ m' ys hl (hD'.at fun o e => hk₁ _ _ hDw e) (by obtain ⟨o, es, ep, ho, r⟩ := hC'; exact ⟨o, es, ep, hk₁ _ _ hCw ho, r⟩) (fun j y e => mono j y h' h₁ (hO j y e) fun b o _ _ a3 e => hk₁ b o a3 e) fun b o a1 a2 a3 e => hk₁ b o a3 (hkp b o a1 a2 a3 e)
def TurnsNext (w : World) (A : Around) (env : Env) (sc : Scope) (cl : List (Str × Addr)) (target elt : Expr) (Q : Value → Shared → Prop) (it : Value) (s₂ : Shared) : Prop :=
  ∃ (I : Addr) (fp wr : List Addr) (n : Nat) (P Md : Nat → Value → Heap → Prop) (St : Nat → Heap → Prop) (R : Addr → Addr → Nat → Value → Heap → Prop), it = .ref I ∧ KTurns prg w A target I fp wr n P Md St ∧ n ≤ 1000 ∧ St 0 s₂.heap ∧ (∀ b ∈ fp, b < s₂.heap.objs.size) ∧
    (∀ (s' : Shared) (Q' : Value → Shared → Prop) (E' : Value → Shared → Prop), St 0 s'.heap → Q' (.ref I) s' → wpAny (model prg w) A (pyIter (.ref I)) Q' E' s') ∧
    (∀ C D j y h h', R C D j y h → (∀ b o, b ≠ C → b ≠ D → b ∉ wr → h.get? b = some o → h'.get? b = some o) → R C D j y h') ∧
    (∀ C D i v h tk m' (E' : Value → Shared → Prop) (Q' : Value → Shared → Prop), C ≠ D → s₂.heap.get? C = none → s₂.heap.get? D = none → s₂.heap.objs.size ≤ C → i < n → P i v h → St (i + 1) h → (∃ o, h.get? D = some o) → h.Ns C m' →
      (∀ b o, b ∉ wr → s₂.heap.get? b = some o → h.get? b = some o) →
      (∀ y h3 tk3 m3, h3.Ns C m3 → (∀ b o, b ≠ C → h.get? b = some o → h3.get? b = some o) → R C D i y h3 → Q' y { s₂ with heap := h3, toks := tk3 }) →
      wpAny (model prg w) A (assign target (compEnvC sc cl C env) v) (fun _ s₃ => wpAny (model prg w) A (eval elt (compEnvC sc cl C env)) Q' E' s₃) E' { s₂ with heap := h, toks := tk }) ∧
    (∀ C D h' tk ys, C ≠ D → s₂.heap.get? C = none → s₂.heap.get? D = none → (ys : List Value).length = n → h'.PlainList D ys.toArray → Outs (R C D) h' ys → (∀ b o, b ∉ wr → s₂.heap.get? b = some o → h'.get? b = some o) → Q (.ref D) { s₂ with heap := h', toks := tk })
theorem comp_turns {w : World} {A : Around} {E : Value → Shared → Prop} {s : Shared} {elt target iter : Expr} {sc : Scope} {cl : List (Str × Addr)} {pos : Pos} {env : Env} {Q : Value → Shared → Prop}
    (hclos : closureFor sc env = pure cl) (hcell : ∀ y ∈ sc.names, y.2 ≠ .cell) (hkind : sc.kind = .function) (hnames : ∀ y ∈ sc.names, y.2 = .local → sc.names.lookup y.1 = some .local)
    (hs0 : ∀ x, foldedSetIterable iter env x = pure x)
    (h : wpAny (model prg w) A (eval iter env) (fun xv s₁ => wpAny (model prg w) A (pyIter xv) (fun it s₂ => TurnsNext w A env sc cl target elt Q it s₂) E s₁) E s) :
    wpAny (model prg w) A (eval (.ListComp elt [⟨target, iter, [], 0⟩] sc pos) env) Q E s := by
  rw [eval_ListComp]
  refine wpAny_comprehension_free (use := none) rfl hs0 hclos hkind hnames (wpAny_mono h (fun xv s₁ h₁ => wpAny_mono h₁ (fun it s₂ h₂ => ?_) fun _ _ e => e) fun _ _ e => e)
  obtain ⟨I, fp, wr, n, P, Md, St, R, rfl, T, hsz, hst, hfp, self, mono, turn, hQ⟩ := h₂
  refine wpAny_newObj_type (wpAny_newFunctionEnv hcell (by intro y hy; simp at hy) (fun h₁ hns₁ hsb₁ => ?_) hkind)
  dsimp only at hns₁ hsb₁ ⊢
  generalize hH2 : s₂.heap.push { cls := .type "list", dict := none, data := .seq ([] : List Value).toArray } = H2 at hns₁ hsb₁ ⊢
  have hC : H2.objs.size = s₂.heap.objs.size + 1 := by rw [← hH2, Heap.size_push]
  have hDC : s₂.heap.objs.size ≠ H2.objs.size := by rw [hC]; exact Nat.ne_of_lt (Nat.lt_succ_self _)
  have old : ∀ b o, s₂.heap.get? b = some o → h₁.get? b = some o := fun b o e => hsb₁.extBut b o (by rw [hC]; exact Nat.ne_of_lt (Nat.lt_succ_of_lt (Heap.lt_size e))) (Heap.get?_push_of_some _ (hH2 ▸ Heap.get?_push_of_some _ e))
  have hacc : h₁.PlainList s₂.heap.objs.size #[] := ⟨_, hsb₁.extBut _ _ hDC (Heap.get?_push_of_some _ (hH2 ▸ Heap.get?_push_size _ rfl))⟩
  have fresh : ∀ a, s₂.heap.objs.size ≤ a → s₂.heap.get? a = none := fun a ha => by
    cases e : s₂.heap.get? a with
    | none => rfl
    | some o' => exact absurd (Heap.lt_size e) (Nat.not_lt.mpr ha)
  have ne_C : ∀ {b o}, s₂.heap.get? b = some o → b ≠ H2.objs.size := fun e => by rw [hC]; exact Nat.ne_of_lt (Nat.lt_succ_of_lt (Heap.lt_size e))
  have ne_D : ∀ {b o}, s₂.heap.get? b = some o → b ≠ s₂.heap.objs.size := fun e => Nat.ne_of_lt (Heap.lt_size e)
  have hle : s₂.heap.objs.size ≤ H2.objs.size := by rw [hC]; exact Nat.le_succ _
  have hCf : H2.objs.size ∉ fp := fun hm => absurd (hfp _ hm) (Nat.not_lt.mpr hle)
  have hDf : s₂.heap.objs.size ∉ fp := fun hm => absurd (hfp _ hm) (Nat.lt_irrefl _)
  have loop : ∀ s₃ : Shared, s₃ = { s₂ with heap := h₁, toks := s₂.toks + ([] : List (Str × Value)).length } →
      codeAny (model prg w) A (.compLoop (.ListComp elt [⟨target, iter, [], 0⟩] sc pos) 0 (.ref I) (.ref s₂.heap.objs.size) (compEnvC sc cl H2.objs.size env))
        (compPost (model prg w) A E none Q (.ref s₂.heap.objs.size) H2.objs.size) s₃ := by
    rintro s₃ rfl
    refine turns_loop (s := { s₂ with heap := h₁, toks := s₂.toks + ([] : List (Str × Value)).length }) (env := compEnvC sc cl H2.objs.size env) T hsz hDC hCf hDf (mono H2.objs.size s₂.heap.objs.size) (T.frame _ _ _ hst fun b _ o e => old _ _ e) hacc hns₁ ?_ ?_
    · intro i v h tk m' E' Q' hi hP hSt hD hn hk hq
      exact turn _ _ i v h tk m' E' Q' hDC.symm (fresh _ hle) (fresh _ (Nat.le_refl _)) hle hi hP hSt hD hn (fun b o hb e => hk b o (ne_C e) (ne_D e) hb (old _ _ e)) hq
    · intro h' tk m' ys hl hD hn hO hk
      refine ⟨m', hn, fun h'' hs'' => hQ H2.objs.size s₂.heap.objs.size h'' tk ys hDC.symm (fresh _ hle) (fresh _ (Nat.le_refl _)) hl (hD.at fun o e => hs''.extBut _ _ hDC e) (fun j y e => mono _ _ j y h' h'' (hO j y e) fun b o a1 _ _ e => hs''.extBut _ _ a1 e) fun b o hb e => hs''.extBut _ _ (ne_C e) (hk b o (ne_C e) (ne_D e) hb (old _ _ e))⟩
  exact codeAny_compStart_list (loop _ rfl) (self _ _ _ (T.frame _ _ _ hst fun b _ o e => old _ _ e) (loop _ rfl))
def TurnsSet (L : Addr) (x : Str) (w : World) (A : Around) (env : Env) (sc : Scope) (cl : List (Str × Addr)) (target elt : Expr) (Q : Flow → Shared → Prop) (it : Value) (s₂ : Shared) : Prop :=
  ∃ (I : Addr) (fp wr : List Addr) (n : Nat) (P Md : Nat → Value → Heap → Prop) (St : Nat → Heap → Prop) (R : Addr → Addr → Nat → Value → Heap → Prop), it = .ref I ∧ KTurns prg w A target I fp wr n P Md St ∧ n ≤ 1000 ∧ St 0 s₂.heap ∧ (∀ b ∈ fp, b < s₂.heap.objs.size) ∧
    (∀ (s' : Shared) (Q' : Value → Shared → Prop) (E' : Value → Shared → Prop), St 0 s'.heap → Q' (.ref I) s' → wpAny (model prg w) A (pyIter (.ref I)) Q' E' s') ∧
    (∀ C D j y h h', R C D j y h → (∀ b o, b ≠ C → b ≠ D → b ∉ wr → h.get? b = some o → h'.get? b = some o) → R C D j y h') ∧
    (∀ C D i v h tk m' (E' : Value → Shared → Prop) (Q' : Value → Shared → Prop), C ≠ D → s₂.heap.get? C = none → s₂.heap.get? D = none → s₂.heap.objs.size ≤ C → i < n → P i v h → St (i + 1) h → (∃ o, h.get? D = some o) → h.Ns C m' →
      (∀ b o, b ∉ wr → s₂.heap.get? b = some o → h.get? b = some o) →
      (∀ y h3 tk3 m3, h3.Ns C m3 → (∀ b o, b ≠ C → h.get? b = some o → h3.get? b = some o) → R C D i y h3 → Q' y { s₂ with heap := h3, toks := tk3 }) →
      wpAny (model prg w) A (assign target (compEnvC sc cl C env) v) (fun _ s₃ => wpAny (model prg w) A (eval elt (compEnvC sc cl C env)) Q' E' s₃) E' { s₂ with heap := h, toks := tk }) ∧
    (∃ m, s₂.heap.Ns L m ∧ L ∉ wr ∧ ∀ C D h' tk ys, C ≠ D → s₂.heap.get? C = none → s₂.heap.get? D = none → (ys : List Value).length = n → h'.PlainList D ys.toArray → Outs (R C D) h' ys → (∀ b o, b ≠ L → b ∉ wr → s₂.heap.get? b = some o → h'.get? b = some o) → h'.Ns L (fun z => if z = x then some (.ref D) else m z) → Q .next { s₂ with heap := h', toks := tk }) ∧
    (∀ C D j y h, R C D j y h → ∀ h', (∀ b o, b ≠ C → b ≠ L → h.get? b = some o → h'.get? b = some o) → R C D j y h')
theorem set_turns {w : World} {A : Around} {E : Value → Shared → Prop} {s : Shared} {elt target iter : Expr} {sc : Scope} {cl : List (Str × Addr)} {pos : Pos} {env : Env} {Q : Flow → Shared → Prop} {x : Str} {py spos : Pos}
    (hclos : closureFor sc env = pure cl) (hcell : ∀ y ∈ sc.names, y.2 ≠ .cell) (hkind : sc.kind = .function) (hnames : ∀ y ∈ sc.names, y.2 = .local → sc.names.lookup y.1 = some .local)
    (hsw : swapsWith (.ListComp elt [⟨target, iter, [], 0⟩] sc pos) (some (.Name x py)) spos.line env = pure true) (hy : env.kindOf x = some .local) (hp : (env.scope.kind == .class || (env.scope.kind == .module && env.locals != env.globals)) = false)
    (hs0 : ∀ x, foldedSetIterable iter env x = pure x)
    (h : wpAny (model prg w) A (eval iter env) (fun xv s₁ => wpAny (model prg w) A (pyIter xv) (fun it s₂ => TurnsSet env.locals x w A env sc cl target elt Q it s₂) E s₁) E s) :
    wpAny (model prg w) A (exec (.Assign [.Name x py] (.ListComp elt [⟨target, iter, [], 0⟩] sc pos) spos) env) Q E s := by
  rw [exec_Assign_Name_used _ _ _ _ hsw]
  refine wpAny_bind (wpAny_standAt (wpAny_bind ?_))
  show wpAny _ A (do let _ ← comprehension (.ListComp elt [⟨target, iter, [], 0⟩] sc pos) sc env _ (newList []) false (eval iter env) (some (assign (.Name x py) env))) _ _ s
  refine wpAny_bind (wpAny_mono (wpAny_comprehension_free (use := some (assign (.Name x py) env)) (Q := fun _ s' => Q .next s') rfl hs0 hclos hkind hnames (wpAny_mono h (fun xv s₁ h₁ => wpAny_mono h₁ (fun it s₂ h₂ => ?_) fun _ _ e => e) fun _ _ e => e)) (fun _ s' hq => wpAny_pure (wpAny_pure hq)) fun _ _ e => e)
  obtain ⟨I, fp, wr, n, P, Md, St, R, rfl, T, hsz, hst, hfp, self, mono, turn, ⟨m0, hL, hLw, hQ⟩, mono2⟩ := h₂
  refine wpAny_newObj_type (wpAny_newFunctionEnv hcell (by intro y hy; simp at hy) (fun h₁ hns₁ hsb₁ => ?_) hkind)
  dsimp only at hns₁ hsb₁ ⊢
  generalize hH2 : s₂.heap.push { cls := .type "list", dict := none, data := .seq ([] : List Value).toArray } = H2 at hns₁ hsb₁ ⊢
  have hC : H2.objs.size = s₂.heap.objs.size + 1 := by rw [← hH2, Heap.size_push]
  have hDC : s₂.heap.objs.size ≠ H2.objs.size := by rw [hC]; exact Nat.ne_of_lt (Nat.lt_succ_self _)
  have old : ∀ b o, s₂.heap.get? b = some o → h₁.get? b = some o := fun b o e => hsb₁.extBut b o (by rw [hC]; exact Nat.ne_of_lt (Nat.lt_succ_of_lt (Heap.lt_size e))) (Heap.get?_push_of_some _ (hH2 ▸ Heap.get?_push_of_some _ e))
  have hacc : h₁.PlainList s₂.heap.objs.size #[] := ⟨_, hsb₁.extBut _ _ hDC (Heap.get?_push_of_some _ (hH2 ▸ Heap.get?_push_size _ rfl))⟩
  have fresh : ∀ a, s₂.heap.objs.size ≤ a → s₂.heap.get? a = none := fun a ha => by
    cases e : s₂.heap.get? a with
    | none => rfl
    | some o' => exact absurd (Heap.lt_size e) (Nat.not_lt.mpr ha)
  have ne_C : ∀ {b o}, s₂.heap.get? b = some o → b ≠ H2.objs.size := fun e => by rw [hC]; exact Nat.ne_of_lt (Nat.lt_succ_of_lt (Heap.lt_size e))
  have ne_D : ∀ {b o}, s₂.heap.get? b = some o → b ≠ s₂.heap.objs.size := fun e => Nat.ne_of_lt (Heap.lt_size e)
  have hle : s₂.heap.objs.size ≤ H2.objs.size := by rw [hC]; exact Nat.le_succ _
  have hCf : H2.objs.size ∉ fp := fun hm => absurd (hfp _ hm) (Nat.not_lt.mpr hle)
  have hDf : s₂.heap.objs.size ∉ fp := fun hm => absurd (hfp _ hm) (Nat.lt_irrefl _)
  have loop : ∀ s₃ : Shared, s₃ = { s₂ with heap := h₁, toks := s₂.toks + ([] : List (Str × Value)).length } →
      codeAny (model prg w) A (.compLoop (.ListComp elt [⟨target, iter, [], 0⟩] sc pos) 0 (.ref I) (.ref s₂.heap.objs.size) (compEnvC sc cl H2.objs.size env))
        (compPost (model prg w) A E (some (assign (.Name x py) env)) (fun _ s' => Q .next s') (.ref s₂.heap.objs.size) H2.objs.size) s₃ := by
    rintro s₃ rfl
    refine turns_loop (s := { s₂ with heap := h₁, toks := s₂.toks + ([] : List (Str × Value)).length }) (env := compEnvC sc cl H2.objs.size env) T hsz hDC hCf hDf (mono H2.objs.size s₂.heap.objs.size) (T.frame _ _ _ hst fun b _ o e => old _ _ e) hacc hns₁ ?_ ?_
    · intro i v h tk m' E' Q' hi hP hSt hD hn hk hq
      exact turn _ _ i v h tk m' E' Q' hDC.symm (fresh _ hle) (fresh _ (Nat.le_refl _)) hle hi hP hSt hD hn (fun b o hb e => hk b o (ne_C e) (ne_D e) hb (old _ _ e)) hq
    · intro h' tk m' ys hl hD hn hO hk
      have hL1 : env.locals ≠ H2.objs.size := by obtain ⟨o, es, ep, ho, r⟩ := hL; exact ne_C ho
      have hL2 : s₂.heap.objs.size ≠ env.locals := by obtain ⟨o, es, ep, ho, r⟩ := hL; exact (ne_D ho).symm
      have hL' : h'.Ns env.locals m0 := by obtain ⟨o, es, ep, ho, r⟩ := hL; exact ⟨o, es, ep, hk _ _ hL1 hL2.symm hLw (old _ _ ho), r⟩
      refine wpAny_assign_Name (wpAny_storeName_local hy hL' (fun h3 hn3 hs3 => ?_) hp)
      have hnC : h3.Ns H2.objs.size m' := by obtain ⟨o, es, ep, ho, r⟩ := hn; exact ⟨o, es, ep, hs3.extBut _ _ hL1.symm ho, r⟩
      refine ⟨m', hnC, fun h4 hs4 => ?_⟩
      have k4 : ∀ b o, b ≠ H2.objs.size → b ≠ env.locals → h'.get? b = some o → h4.get? b = some o := fun b o a1 a2 e => hs4.extBut _ _ a1 (hs3.extBut _ _ a2 e)
      refine hQ H2.objs.size s₂.heap.objs.size h4 _ ys hDC.symm (fresh _ hle) (fresh _ (Nat.le_refl _)) hl (hD.at fun o e => k4 _ _ hDC hL2 e) (fun j y e => mono2 _ _ j y h' (hO j y e) h4 k4) (fun b o hb1 hb e => k4 _ _ (ne_C e) hb1 (hk b o (ne_C e) (ne_D e) hb (old _ _ e))) ?_
      obtain ⟨o, es, ep, ho, r⟩ := hn3
      exact ⟨o, es, ep, hs4.extBut _ _ hL1 ho, r⟩
  exact codeAny_compStart_list (loop _ rfl) (self _ _ _ (T.frame _ _ _ hst fun b _ o e => old _ _ e) (loop _ rfl))

end
-- part P13
section

local macro_rules | `(tactic| walk_at "my madeG") => `(tactic| (intro q hq; simp only [List.mem_cons, List.not_mem_nil, or_false] at hq; (first | (subst hq; exact ⟨by assumption, by assumption⟩) | (rcases hq with hq | hq <;> (subst hq; exact ⟨by assumption, by assumption⟩)))))
local macro_rules | `(tactic| walk_at "my sub") => `(tactic| (intro q hq; simp only [List.mem_cons, List.not_mem_nil, or_false] at hq; (first | (subst hq; k_mem) | (rcases hq with hq | hq <;> (subst hq; k_mem)))))
local macro_rules | `(tactic| walk_at "my off") => `(tactic| (intro q1 hq1 q2 hq2; simp only [List.mem_cons, List.not_mem_nil, or_false] at hq1 hq2; (first | (subst hq1; subst hq2) | (subst hq1; rcases hq2 with hq2 | hq2 <;> subst hq2) | (rcases hq1 with hq1 | hq1 <;> subst hq1 <;> subst hq2) | (rcases hq1 with hq1 | hq1 <;> subst hq1 <;> rcases hq2 with hq2 | hq2 <;> subst hq2)); all_goals (refine neN ?_; (try dsimp only); omega)))
def Lim (l t r f : Int) : Prop := 24 ≤ l ∧ l ≤ 27 ∧ l ≤ r ∧ r ≤ l + 2 ∧ 1 ≤ t ∧ t ≤ 3 ∧ t ≤ f ∧ f ≤ t + 2
def placesOf (l t r f : Int) : List (Int × Int) := rowsOf t l (f + 1 - t).toNat (r + 1 - l).toNat
local macro_rules | `(tactic| walk_at "eval ListComp") => `(tactic| (k_here; k_dflt (refine' comp_places ?hO ?hh ?clo ?hc ?hk ?hn ?r1 ?r2 ?b1 ?b2 ?ne ?s0 ?s1 ?_; (case hO => assumption); (case hh => exact rfl); (case clo => with_unfolding_all rfl); (case hc => decide); (case hk => exact rfl); (case hn => decide); (case r1 => exact rfl); (case r2 => exact rfl); (case b1 => decide); (case b2 => decide); (case ne => decide); (case s0 => (intro _; rfl)); (case s1 => (intro _ _; rfl)))))
local macro_rules | `(tactic| walk_at "eval Name") => `(tactic| (k_here; (with_reducible show wpAny _ _ (eval (Expr.Name _ _) (compEnvC _ _ _ _)) _ _ _); (with_unfolding_all refine' nameCC_B ?k0 ?k1 ?k2 ?k3 ?k4 ?k5 ?_ ?q1 ?q2 ?q3); (case k0 => k_asm); (case k1 => k_asm); (case k2 => k_asm); (case k3 => k_is); (case k4 => boot_by_name); (case k5 => decide); (case q1 => rfl); (case q2 => rfl); (case q3 => decide); k_whole))
local macro_rules | `(tactic| walk_at "call type:range") => `(tactic| (k_here; k_dflt (refine' range_it ?a ?b ?c ?d ?_; (case a => omega); (case b => omega); (case c => omega); (case d => omega)); intro J' h' tk' hJ' hI' hE'))
theorem places_c {w : World} {A : Around} {s : Shared} {g0 : Heap} {p : Program} {loose : List Str} {mg mb : Str → Option Value} {R : Result → Shared → Prop} {b : Addr} {u : Nat → Tok} {l t r f : Int}
    (X0 : (hd.heap_39 w.params).In g0) (T0 : TopRead p loose mg mb g0) (G : Ext g0 s.heap) (hh : A.handled = none) (hroom : A.depth < 890) (hu : A.units < 8900) (hb0 : g0.get? b = none) (hb : s.heap.get? b = some (blockObj u l t r f)) (lim : Lim l t r f)
    (h : ∀ D h' tk zs, Ext s.heap h' → s.heap.get? D = none → h'.PlainList D (zs : List Value).toArray → Places s.heap h' zs (placesOf l t r f) → R (.ok (.ret (.ref D))) { s with heap := h', toks := tk }) :
    codeAny (model prg w) A (.call (.ref 379) ⟨[.ref b], []⟩) R s := by
  have hO : OldIs s.heap := trivial
  obtain ⟨q1, q2, q3, q4, q5, q6, q7, q8⟩ := lim
  obtain ⟨gg, H⟩ := hide_ex (objs := [(b, blockObj u l t r f)]) G (by walk_at "my madeG")
  have X := Frag.In.keeps X0 H.low
  have T := T0.keeps H.low
  obtain ⟨hd0, dp0, fs0, gs0, un0⟩ := A
  obtain rfl : hd0 = none := hh
  dsimp only at hroom hu
  walk_at "my fill"
  refine' enter_cells (binds := [(Str.ofString "block", .ref b)]) H.ext H.made H.size X T ?k8 ?k6 ?k7 ?k9 ?kB ?kN ?_ ?c2 ?c3 ?c4
  case k8 => ((try dsimp only) <;> omega)
  case k6 => k_dflt k_is
  case k7 => k_dflt k_is
  case k9 => exact BindsTo.of_eq rfl
  case kB => (intro n x hx; simp only [List.mem_cons, List.not_mem_nil, or_false] at hx; (first | subst hx | rcases hx with rfl | rfl); all_goals (first | exact Or.inl rfl | exact Or.inr ⟨rfl, rfl⟩))
  case kN => decide
  case c2 => exact rfl
  case c3 => exact rfl
  case c4 => exact rfl
  intro L' h' tk' cells' F' N' Y' l1'
  obtain ⟨oc', rfl, hoc'⟩ := CellsAre.one Y'
  (try k_lt l1')
  simp only [List.cons_append, List.nil_append] at N'
  try dsimp only
  k_steps
  rename_i J h1 tk1 hJ hI hE
  refine ⟨J, t, _, l, (r + 1 - l).toNat, rfl, hI, fun b' o e => ?_, ?_, ?_, ?_⟩
  · have e2 := H.keep F' N' (by walk_at "my sub") _ _ e
    exact ⟨fun e' => absurd (Heap.lt_size e2) (Nat.not_lt.mpr (e' ▸ hJ)), hE _ _ e2⟩
  · exact Nat.le_trans (Nat.mul_le_mul (show _ ≤ 3 by omega) (show _ ≤ 3 by omega)) (by decide)
  · intro C h2 tk2 m2 E' Q' hC hn hk hq
    have nJ : ∀ {b' o}, h'.get? b' = some o → b' ≠ J := fun e e' => absurd (Heap.lt_size e) (Nat.not_lt.mpr (e' ▸ hJ))
    have nC : ∀ {b' o}, h'.get? b' = some o → b' ≠ C := fun e e' => absurd (Heap.lt_size (hE _ _ e)) (Nat.not_lt.mpr (e' ▸ hC))
    have F2 : Fr gg C h2 m2 := ⟨hn, fun b' o e => hk _ _ (nJ (F'.keep _ _ e)) (hE _ _ (F'.keep _ _ e)), Nat.le_trans F'.above (Nat.le_trans (Nat.le_of_lt F'.ns.lt) (Nat.le_trans hJ (Nat.le_trans (Nat.le_of_lt (Heap.lt_size hI)) hC)))⟩
    have N2 : News gg C h2 _ := fun q hq => ⟨hk _ _ (nJ (N' q hq).1) (hE _ _ (N' q hq).1), nC (N' q hq).1, (N' q hq).2.2⟩
    clear h
    clear F' N'
    k_steps
    all_goals (rename_i J3 h3 tk3 hJ3 hI3 hE3; exact hq _ _ _ hJ3 hI3 hE3)
  · intro D h3 tk3 zs hD hL hP hk3
    have e2 := H.keep F' N' (by walk_at "my sub")
    have nJ : ∀ {b' o}, h'.get? b' = some o → b' ≠ J := fun e e' => absurd (Heap.lt_size e) (Nat.not_lt.mpr (e' ▸ hJ))
    refine h D h3 tk3 zs (fun b' o e => hk3 _ _ (nJ (e2 _ _ e)) (hE _ _ (e2 _ _ e))) ?_ hL hP
    cases e : s.heap.get? D with
    | none => rfl
    | some o => rw [hE _ _ (e2 _ _ e)] at hD; cases hD

end
-- part PZ
section
def both (l t r f l' t' r' f' : Int) : List (Int × Int) := (placesOf l t r f).filter fun q => (decide (q ∈ placesOf l' t' r' f')) != false
theorem mem_places {l t r f : Int} (hl : l ≤ r) (ht : t ≤ f) (q : Int × Int) : q ∈ placesOf l t r f ↔ t ≤ q.1 ∧ q.1 ≤ f ∧ l ≤ q.2 ∧ q.2 ≤ r := by
  obtain ⟨a, b⟩ := q
  simp only [placesOf, rowsOf, colsOf, List.mem_flatMap, List.mem_map, List.mem_range, Prod.mk.injEq]
  constructor
  · rintro ⟨j, hj, i, hi, rfl, rfl⟩
    omega
  · rintro ⟨h1, h2, h3, h4⟩
    exact ⟨(a - t).toNat, by omega, (b - l).toNat, by omega, by omega, by omega⟩
def LexLt (p q : Int × Int) : Prop := p.1 < q.1 ∨ (p.1 = q.1 ∧ p.2 < q.2)
theorem range_pw (n : Nat) : (List.range n).Pairwise (· < ·) := List.pairwise_lt_range
theorem cols_pw (rv lo : Int) (n : Nat) : (colsOf rv lo n).Pairwise LexLt := by
  unfold colsOf
  rw [List.pairwise_map]
  exact (range_pw n).imp fun h => Or.inr ⟨rfl, by omega⟩
theorem rows_pw (lo0 lo : Int) (n0 n : Nat) : (rowsOf lo0 lo n0 n).Pairwise LexLt := by
  unfold rowsOf
  rw [List.pairwise_flatMap]
  refine ⟨fun j _ => cols_pw _ _ _, (range_pw n0).imp fun {a b} h x hx y hy => ?_⟩
  simp only [colsOf, List.mem_map] at hx hy
  obtain ⟨_, _, rfl⟩ := hx
  obtain ⟨_, _, rfl⟩ := hy
  exact Or.inl (by dsimp only; omega)
theorem both_pw (l t r f l' t' r' f' : Int) : (both l t r f l' t' r' f').Pairwise LexLt := (rows_pw _ _ _ _).filter _
theorem mem_both {l t r f l' t' r' f' : Int} (hl : l ≤ r) (ht : t ≤ f) (hl' : l' ≤ r') (ht' : t' ≤ f') (q : Int × Int) :
    q ∈ both l t r f l' t' r' f' ↔ (t ≤ q.1 ∧ q.1 ≤ f ∧ l ≤ q.2 ∧ q.2 ≤ r) ∧ (t' ≤ q.1 ∧ q.1 ≤ f' ∧ l' ≤ q.2 ∧ q.2 ≤ r') := by
  simp only [both, List.mem_filter, bne_iff_ne, ne_eq, Bool.not_eq_false, decide_eq_true_eq, mem_places hl ht, mem_places hl' ht']
theorem both_nil {l t r f l' t' r' f' : Int} (hl : l ≤ r) (ht : t ≤ f) (hl' : l' ≤ r') (ht' : t' ≤ f') :
    both l t r f l' t' r' f' = [] ↔ (r < l' ∨ r' < l ∨ f < t' ∨ f' < t) := by
  constructor
  · intro h
    have : ¬ _ := fun z => (show (max t t', max l l') ∉ both l t r f l' t' r' f' by rw [h]; simp) ((mem_both hl ht hl' ht' (max t t', max l l')).mpr z)
    dsimp only at this
    omega
  · intro h
    rw [List.eq_nil_iff_forall_not_mem]
    intro q hq
    have := (mem_both hl ht hl' ht' q).mp hq
    omega
theorem head_least {xs : List (Int × Int)} {p m : Int × Int} (h : xs.Pairwise LexLt) (hp : xs.head? = some p) (hm : m ∈ xs) : p = m ∨ LexLt p m := by
  cases xs with
  | nil => cases hp
  | cons a as =>
    cases hp
    rcases List.mem_cons.mp hm with e | hm
    · exact .inl e.symm
    · exact .inr ((List.pairwise_cons.mp h).1 _ hm)
theorem last_most {xs : List (Int × Int)} {p m : Int × Int} (h : xs.Pairwise LexLt) (hp : xs.getLast? = some p) (hm : m ∈ xs) : p = m ∨ LexLt m p := by
  obtain ⟨ys, rfl⟩ := List.getLast?_eq_some_iff.mp hp
  rcases List.mem_append.mp hm with hm | hm
  · exact .inr ((List.pairwise_append.mp h).2.2 _ hm _ (List.mem_singleton.mpr rfl))
  · exact .inl (List.mem_singleton.mp hm).symm
theorem both_ends {l t r f l' t' r' f' : Int} (hl : l ≤ r) (ht : t ≤ f) (hl' : l' ≤ r') (ht' : t' ≤ f') (hn : ¬ (r < l' ∨ r' < l ∨ f < t' ∨ f' < t)) :
    (both l t r f l' t' r' f').head? = some (max t t', max l l') ∧ (both l t r f l' t' r' f').getLast? = some (min f f', min r r') := by
  have pw := both_pw l t r f l' t' r' f'
  have M := mem_both hl ht hl' ht'
  have m1 := (M (max t t', max l l')).mpr (by dsimp only; omega)
  have m2 := (M (min f f', min r r')).mpr (by dsimp only; omega)
  constructor
  · cases e : (both l t r f l' t' r' f').head? with
    | none => rw [List.head?_eq_none_iff] at e; rw [e] at m1; cases m1
    | some p =>
      have hp := (M p).mp (List.mem_of_mem_head? e)
      rcases head_least pw e m1 with rfl | h
      · rfl
      · unfold LexLt at h; dsimp only at h; omega
  · cases e : (both l t r f l' t' r' f').getLast? with
    | none => rw [List.getLast?_eq_none_iff] at e; rw [e] at m2; cases m2
    | some p =>
      have hp := (M p).mp (List.mem_of_mem_getLast? e)
      rcases last_most pw e m2 with rfl | h
      · rfl
      · unfold LexLt at h; dsimp only at h; omega
theorem within_iff {l t r f l' t' r' f' : Int} (hl : l ≤ r) (ht : t ≤ f) (hl' : l' ≤ r') (ht' : t' ≤ f') :
    (((placesOf l t r f).filter fun q => decide (q ∈ placesOf l' t' r' f') != true).isEmpty) = decide (l' ≤ l ∧ r ≤ r' ∧ t' ≤ t ∧ f ≤ f') := by
  rw [Bool.eq_iff_iff, List.isEmpty_iff, List.filter_eq_nil_iff, decide_eq_true_eq]
  simp only [bne_iff_ne, ne_eq, decide_eq_true_eq, Classical.not_not, mem_places hl' ht', mem_places hl ht]
  constructor
  · intro h
    have h1 := h (t, l) (by dsimp only; omega)
    have h2 := h (f, r) (by dsimp only; omega)
    dsimp only at h1 h2
    omega
  · intro h q hq
    omega
theorem place_dec {l t r f : Int} (hl : l ≤ r) (ht : t ≤ f) (a b : Int) : decide ((a, b) ∈ placesOf l t r f) = decide (t ≤ a ∧ a ≤ f ∧ l ≤ b ∧ b ≤ r) := by
  rw [decide_eq_decide]; exact mem_places hl ht _

end
-- part P14
section

local macro_rules | `(tactic| walk_at "my madeG") => `(tactic| (intro q hq; simp only [List.mem_cons, List.not_mem_nil, or_false] at hq; (first | (subst hq; exact ⟨by assumption, by assumption⟩) | (rcases hq with hq | hq <;> (subst hq; exact ⟨by assumption, by assumption⟩)))))
local macro_rules | `(tactic| walk_at "my sub") => `(tactic| (intro q hq; simp only [List.mem_cons, List.not_mem_nil, or_false] at hq; (first | (subst hq; k_mem) | (rcases hq with hq | hq <;> (subst hq; k_mem)))))
local macro_rules | `(tactic| walk_at "my off") => `(tactic| (intro q1 hq1 q2 hq2; simp only [List.mem_cons, List.not_mem_nil, or_false] at hq1 hq2; (first | (subst hq1; subst hq2) | (subst hq1; rcases hq2 with hq2 | hq2 <;> subst hq2) | (rcases hq1 with hq1 | hq1 <;> subst hq1 <;> subst hq2) | (rcases hq1 with hq1 | hq1 <;> subst hq1 <;> rcases hq2 with hq2 | hq2 <;> subst hq2)); all_goals (refine neN ?_; (try dsimp only); omega)))
local macro_rules | `(tactic| walk_at "call ref") => `(tactic| (k_here; (with_reducible show wpAny _ _ (call (Value.ref 379) [Value.ref _] []) _ _ _); (refine wpAny_call ?_); k_dflt (refine' places_c ?X0 ?T0 ?G ?hh ?hr ?hu ?b0 ?b1 ?lim ?_; (case G => exact Fr.keep (by k_asm)); (case X0 => assumption); (case T0 => assumption); (case hh => exact rfl); (case hr => k_room); (case hu => k_units); (case b1 => exact (news_at (by k_asm) (by k_mem)).2); (case b0 => exact (news_at (by k_asm) (by k_mem)).1); (case lim => assumption); k_whole); (try (with_reducible rename Places _ _ _ _ => kP)); intro D' h' tk' zs' hE' hDn' hL' hP'; (with_reducible rename Fr _ _ _ _ => kF); (with_reducible rename News _ _ _ _ => kN); (replace hP' := Places.low (Fr.keep kF) hP'); (have F' := Fr.keeps kF hE'); (obtain ⟨n', N'⟩ := news_list kF kN hE' hDn' hL'); (have O' := news_off kN hDn'); (try simp only [List.mem_cons, forall_eq_or_imp, List.not_mem_nil, false_implies, implies_true, and_true] at O'); (try (have kP' := Places.ext kP hE'; clear kP)); (clear hDn' hL' hE'); k_sweep))
local macro_rules | `(tactic| walk_at "storeName") => `(tactic| (k_here; k_dflt ((with_unfolding_all refine' store_P ?F ?N ?P ?ne ?hr ?hc ?hd ?_ ?q1 ?q2); (case F => k_asm); (case N => k_asm); (case P => assumption); (case ne => (refine neN ?_; (try dsimp only); omega)); (case hr => (intro p hp; simp only [List.mem_cons, List.not_mem_nil, or_false] at hp; (rcases hp with hp | hp <;> (subst hp; refine neN ?_; (try dsimp only); omega)))); (case hc => rfl); (case hd => assumption); (case q1 => rfl); (case q2 => rfl); k_whole; intro h' oc' F' N' hd' kP'; k_sweep)))
local macro_rules | `(tactic| walk_at "eval ListComp") => `(tactic| (k_here; k_dflt ((first | (refine' comp_filter .NotIn true ?op ?hh ?clo ?hc ?hk ?hn ?hx ?har ?hka ?b1 ?b2 ?mk ?s0 ?u ?_; (case op => exact Or.inr ⟨rfl, rfl⟩)) | (refine' comp_filter .In false ?op ?hh ?clo ?hc ?hk ?hn ?hx ?har ?hka ?b1 ?b2 ?mk ?s0 ?u ?_; (case op => exact Or.inl ⟨rfl, rfl⟩))); (case hh => exact rfl); (case clo => with_unfolding_all rfl); (case hc => decide); (case hk => exact rfl); (case hn => decide); (case hx => exact rfl); (case har => exact rfl); (case hka => (intro _; rfl)); (case b1 => decide); (case b2 => decide); (case mk => with_unfolding_all rfl); (case s0 => (intro _; rfl)); (case u => ((try simp only [PySem.Around.deeper_units, PySem.Around.in1_units, PySem.Around.mark_units]); (try unfold PySem.cLine); (try dsimp only); omega)))))
local macro_rules | `(tactic| walk_at "compareOp Eq ref ref") => `(tactic| (k_here; k_dflt (refine' list_eq_nil ?a ?b ?u ?_; (case a => exact News.isList (by k_asm) (by k_mem)); (case b => exact News.isList (by k_asm) (by k_mem)); (case u => ((try simp only [PySem.Around.deeper_units, PySem.Around.in1_units, PySem.Around.mark_units]); (try unfold PySem.cLine); (try dsimp only); omega)))))
theorem within_c {w : World} {A : Around} {s : Shared} {g0 : Heap} {p : Program} {loose : List Str} {mg mb : Str → Option Value} {R : Result → Shared → Prop} {b1 b2 : Addr} {u1 u2 : Nat → Tok} {l t r f l' t' r' f' : Int}
    (X0 : (hd.heap_39 w.params).In g0) (T0 : TopRead p loose mg mb g0) (G : Ext g0 s.heap) (hh : A.handled = none) (hroom : A.depth < 880) (hu : A.units < 8800) (hn1 : g0.get? b1 = none) (e1 : s.heap.get? b1 = some (blockObj u1 l t r f)) (hn2 : g0.get? b2 = none) (e2 : s.heap.get? b2 = some (blockObj u2 l' t' r' f')) (lim1 : Lim l t r f) (lim2 : Lim l' t' r' f')
    (h : ∀ h' tk, Ext s.heap h' → R (.ok (.ret (.bool (((placesOf l t r f).filter fun q => decide (q ∈ placesOf l' t' r' f') != true).isEmpty)))) { s with heap := h', toks := tk }) :
    codeAny (model prg w) A (.call (.ref 384) ⟨[.ref b1, .ref b2], []⟩) R s := by
  obtain ⟨gg, H⟩ := hide_ex (objs := [(b1, blockObj u1 l t r f), (b2, blockObj u2 l' t' r' f')]) G (by walk_at "my madeG")
  have X := Frag.In.keeps X0 H.low
  have T := T0.keeps H.low
  obtain ⟨hd0, dp0, fs0, gs0, un0⟩ := A
  obtain rfl : hd0 = none := hh
  dsimp only at hroom hu
  walk_at "my fill"
  refine' enter_cells (binds := [(Str.ofString "one", .ref b1), (Str.ofString "other", .ref b2)]) H.ext H.made H.size X T ?k8 ?k6 ?k7 ?k9 ?kB ?kN ?_ ?c2 ?c3 ?c4
  case k8 => ((try dsimp only) <;> omega)
  case k6 => k_dflt k_is
  case k7 => k_dflt k_is
  case k9 => exact BindsTo.of_eq rfl
  case kB => (intro n x hx; simp only [List.mem_cons, List.not_mem_nil, or_false] at hx; (first | subst hx | rcases hx with rfl | rfl); all_goals (first | exact Or.inl rfl | exact Or.inr ⟨rfl, rfl⟩))
  case kN => decide
  case c2 => exact rfl
  case c3 => exact rfl
  case c4 => exact rfl
  intro L' h' tk' cells' F' N' Y' l1'
  obtain ⟨oc', rfl, hoc'⟩ := CellsAre.one Y'
  (try k_lt l1')
  simp only [List.cons_append, List.nil_append] at N'
  try dsimp only
  k_steps
  rename_i kP2 D1 h1 tk1 zs1 kP1 F1 n1 N1 O1 kP3
  have lz : zs1.length ≤ 1000 := by
    rw [kP1.length]; unfold placesOf; rw [rowsOf_length]
    exact Nat.le_trans (Nat.mul_le_mul (show _ ≤ 3 by (obtain ⟨_, _, _, _, _, _, _, _⟩ := lim1; omega)) (show _ ≤ 3 by (obtain ⟨_, _, _, _, _, _, _, _⟩ := lim1; omega))) (by decide)
  refine ⟨D1, zs1, _, _, _, _, _, _, rfl, ⟨n1, (N1 _ (List.mem_cons_self ..)).1⟩, ⟨_, (N1 _ (List.mem_cons_of_mem _ (List.mem_cons_of_mem _ (List.mem_cons_self ..)))).1, kP2⟩, ⟨_, (N1 _ (List.mem_cons_of_mem _ (List.mem_cons_self ..))).1⟩, kP1, kP3, lz, fun D h3 tk3 zs hD hL hP hE => ?_⟩
  have F3 := Fr.keeps F1 hE
  obtain ⟨n3, N3⟩ := news_list F1 N1 hE hD hL
  have hps : zs.isEmpty = (((placesOf l t r f).filter fun q => (decide (q ∈ placesOf l' t' r' f')) != true).isEmpty) := by
    have := hP.length
    revert this
    cases zs <;> cases ((placesOf l t r f).filter fun q => (decide (q ∈ placesOf l' t' r' f')) != true) <;> simp
  clear F1 N1 kP1 kP3 hP
  k_steps
  all_goals (rw [hps]; exact h _ _ (H.keep (by assumption) (by assumption) (by walk_at "my sub")))

end
-- part P15
section

local macro_rules | `(tactic| walk_at "my madeG") => `(tactic| (intro q hq; simp only [List.mem_cons, List.not_mem_nil, or_false] at hq; (first | (subst hq; exact ⟨by assumption, by assumption⟩) | (rcases hq with hq | hq <;> (subst hq; exact ⟨by assumption, by assumption⟩)))))
local macro_rules | `(tactic| walk_at "my sub") => `(tactic| (intro q hq; simp only [List.mem_cons, List.not_mem_nil, or_false] at hq; (first | (subst hq; k_mem) | (rcases hq with hq | hq <;> (subst hq; k_mem)))))
local macro_rules | `(tactic| walk_at "my off") => `(tactic| (intro q1 hq1 q2 hq2; simp only [List.mem_cons, List.not_mem_nil, or_false] at hq1 hq2; (first | (subst hq1; subst hq2) | (subst hq1; rcases hq2 with hq2 | hq2 <;> subst hq2) | (rcases hq1 with hq1 | hq1 <;> subst hq1 <;> subst hq2) | (rcases hq1 with hq1 | hq1 <;> subst hq1 <;> rcases hq2 with hq2 | hq2 <;> subst hq2)); all_goals (refine neN ?_; (try dsimp only); omega)))
local macro_rules | `(tactic| walk_at "call ref") => `(tactic| (k_here; (with_reducible show wpAny _ _ (call (Value.ref 379) [Value.ref _] []) _ _ _); (refine wpAny_call ?_); k_dflt (refine' places_c ?X0 ?T0 ?G ?hh ?hr ?hu ?b0 ?b1 ?lim ?_; (case G => exact Fr.keep (by k_asm)); (case X0 => assumption); (case T0 => assumption); (case hh => exact rfl); (case hr => k_room); (case hu => k_units); (case b1 => exact (news_at (by k_asm) (by k_mem)).2); (case b0 => exact (news_at (by k_asm) (by k_mem)).1); (case lim => assumption); k_whole); (try (with_reducible rename Places _ _ _ _ => kP)); intro D' h' tk' zs' hE' hDn' hL' hP'; (with_reducible rename Fr _ _ _ _ => kF); (with_reducible rename News _ _ _ _ => kN); (replace hP' := Places.low (Fr.keep kF) hP'); (have F' := Fr.keeps kF hE'); (obtain ⟨n', N'⟩ := news_list kF kN hE' hDn' hL'); (have O' := news_off kN hDn'); (try simp only [List.mem_cons, forall_eq_or_imp, List.not_mem_nil, false_implies, implies_true, and_true] at O'); (try (have kP' := Places.ext kP hE'; clear kP)); (clear hDn' hL' hE'); k_sweep))
local macro_rules | `(tactic| walk_at "storeName") => `(tactic| (k_here; k_dflt ((with_unfolding_all refine' store_P ?F ?N ?P ?ne ?hr ?hc ?hd ?_ ?q1 ?q2); (case F => k_asm); (case N => k_asm); (case P => assumption); (case ne => (refine neN ?_; (try dsimp only); omega)); (case hr => (intro p hp; simp only [List.mem_cons, List.not_mem_nil, or_false] at hp; (rcases hp with hp | hp <;> (subst hp; refine neN ?_; (try dsimp only); omega)))); (case hc => rfl); (case hd => assumption); (case q1 => rfl); (case q2 => rfl); k_whole; intro h' oc' F' N' hd' kP'; k_sweep)))
local macro_rules | `(tactic| walk_at "eval ListComp") => `(tactic| (k_here; k_dflt ((first | (refine' comp_filter .NotIn true ?op ?hh ?clo ?hc ?hk ?hn ?hx ?har ?hka ?b1 ?b2 ?mk ?s0 ?u ?_; (case op => exact Or.inr ⟨rfl, rfl⟩)) | (refine' comp_filter .In false ?op ?hh ?clo ?hc ?hk ?hn ?hx ?har ?hka ?b1 ?b2 ?mk ?s0 ?u ?_; (case op => exact Or.inl ⟨rfl, rfl⟩))); (case hh => exact rfl); (case clo => with_unfolding_all rfl); (case hc => decide); (case hk => exact rfl); (case hn => decide); (case hx => exact rfl); (case har => exact rfl); (case hka => (intro _; rfl)); (case b1 => decide); (case b2 => decide); (case mk => with_unfolding_all rfl); (case s0 => (intro _; rfl)); (case u => ((try simp only [PySem.Around.deeper_units, PySem.Around.in1_units, PySem.Around.mark_units]); (try unfold PySem.cLine); (try dsimp only); omega)))))
local macro_rules | `(tactic| walk_at "compareOp Eq ref ref") => `(tactic| (k_here; k_dflt (refine' list_eq_nil ?a ?b ?u ?_; (case a => exact News.isList (by k_asm) (by k_mem)); (case b => exact News.isList (by k_asm) (by k_mem)); (case u => ((try simp only [PySem.Around.deeper_units, PySem.Around.in1_units, PySem.Around.mark_units]); (try unfold PySem.cLine); (try dsimp only); omega)))))

local macro_rules | `(tactic| walk_at "exec Assign cons ListComp") => `(tactic| (k_here; k_dflt ((refine' set_filter .In false ?op ?sw ?hh ?clo ?hc ?hk ?hn ?hx ?har ?hka ?b1 ?b2 ?mk ?s0 ?u ?hy ?hp ?_; (case op => exact Or.inl ⟨rfl, rfl⟩)); (case sw => with_unfolding_all rfl); (case hh => exact rfl); (case clo => with_unfolding_all rfl); (case hc => decide); (case hk => exact rfl); (case hn => decide); (case hx => exact rfl); (case har => exact rfl); (case hka => (intro _; rfl)); (case b1 => decide); (case b2 => decide); (case mk => with_unfolding_all rfl); (case s0 => (intro _; rfl)); (case hy => rfl); (case hp => rfl); (case u => ((try simp only [PySem.Around.deeper_units, PySem.Around.in1_units, PySem.Around.mark_units]); (try unfold PySem.cLine); (try dsimp only); omega)))))
theorem sub_any {w : World} {A : Around} {E : Value → Shared → Prop} {s : Shared} {value slice : Expr} {o i : Value} {T id : String} {Q : Value → Shared → Prop} (hT : s.TypeIs o T)
    (hl : typeLookup (.type T) "__getitem__" = pure (some (.builtin id))) (h : wpAny (model prg w) A (getItem o i) Q E s)
    (hs : subscripted slice false o i = operate [o, i] (getItem o i)) : wpAny (model prg w) A (subscriptTail value slice o i) Q E s := by
  unfold subscriptTail
  refine wpAny_bind ?_
  rw [getitemInPython_of_ne hT.not_modules]
  refine wpAny_bind (wpAny_specialOf hT hl ?_)
  have fin : wpAny (model prg w) A (subscripted slice false o i) (fun r s₃ => wpAny (model prg w) A (letTemporaryGo value o r >>= fun _ => pure r) Q E s₃) E s := by
    rw [hs]
    exact wpAny_operating (wpAny_mono h (fun r s₃ h₃ => wpAny_bind (wpAny_letTemporaryGo (wpAny_pure h₃))) fun _ _ x => x)
  first
    | exact wpAny_pure (wpAny_bind fin)
    | exact wpAny_bind (wpAny_pure (wpAny_bind fin))
    | exact wpAny_bind fin
section
variable {w : World} {A : Around} {E : Value → Shared → Prop} {s : Shared} {value slice : Expr} {a L : Addr} {u : Tok} {x y : Value} {Q : Value → Shared → Prop} {h₀ : Heap} {news : List (Addr × Obj)}
theorem sub_t0 (N : News h₀ L s.heap news) (hm : (a, tupObj [x, y]) ∈ news) (h : Q x s) (hs : subscripted slice false (.ref a) (.int 0 u) = operate [.ref a, .int 0 u] (getItem (.ref a) (.int 0 u))) :
    wpAny (model prg w) A (subscriptTail value slice (.ref a) (.int 0 u)) Q E s :=
  have ht : IsTup s.heap a #[x, y] := ⟨_, (N _ hm).1, rfl, 0, rfl⟩
  sub_any ht.typeIs slot_tuple_getitem.lookup (getItem_tuple ht (by decide) (by decide) (j := 0) rfl rfl h) hs
theorem sub_t1 (N : News h₀ L s.heap news) (hm : (a, tupObj [x, y]) ∈ news) (h : Q y s) (hs : subscripted slice false (.ref a) (.int 1 u) = operate [.ref a, .int 1 u] (getItem (.ref a) (.int 1 u))) :
    wpAny (model prg w) A (subscriptTail value slice (.ref a) (.int 1 u)) Q E s :=
  have ht : IsTup s.heap a #[x, y] := ⟨_, (N _ hm).1, rfl, 0, rfl⟩
  sub_any ht.typeIs slot_tuple_getitem.lookup (getItem_tuple ht (by decide) (by decide) (j := 1) rfl rfl h) hs
end
def Stop (P : Prop) : Prop := P
theorem stop_ {P : Prop} (h : Stop P) : P := h
local macro_rules | `(tactic| walk_at "subscriptTail") => `(tactic| (k_here; (refine stop_ ?_)))
local macro_rules | `(tactic| walk_at "subscriptTail Name Constant ref int") => `(tactic| (k_here; (refine stop_ ?_)))
local macro_rules | `(tactic| walk_at "subscriptTail Name UnaryOp ref int") => `(tactic| (k_here; (refine stop_ ?_)))
local macro_rules | `(tactic| walk_at "subscriptTail Subscript Constant ref int") => `(tactic| (k_here; (refine stop_ ?_)))
theorem shared_c {w : World} {A : Around} {s : Shared} {g0 : Heap} {p : Program} {loose : List Str} {mg mb : Str → Option Value} {R : Result → Shared → Prop} {b1 b2 : Addr} {u1 u2 : Nat → Tok} {l t r f l' t' r' f' : Int}
    (X0 : (hd.heap_39 w.params).In g0) (T0 : TopRead p loose mg mb g0) (G : Ext g0 s.heap) (hh : A.handled = none) (hroom : A.depth < 880) (hu : A.units < 8800) (hn1 : g0.get? b1 = none) (e1 : s.heap.get? b1 = some (blockObj u1 l t r f)) (hn2 : g0.get? b2 = none) (e2 : s.heap.get? b2 = some (blockObj u2 l' t' r' f')) (lim1 : Lim l t r f) (lim2 : Lim l' t' r' f') (hz : both l t r f l' t' r' f' = [] → ∀ h' tk, Ext s.heap h' → R (.ok (.ret .none)) { s with heap := h', toks := tk })
    (h : ∀ p q, (both l t r f l' t' r' f').head? = some p → (both l t r f l' t' r' f').getLast? = some q → ∀ a u h' tk, Ext s.heap h' → Made s.heap h' [(a, blockObj u p.2 p.1 q.2 q.1)] → R (.ok (.ret (.ref a))) { s with heap := h', toks := tk }) :
    codeAny (model prg w) A (.call (.ref 389) ⟨[.ref b1, .ref b2], []⟩) R s := by
  obtain ⟨gg, H⟩ := hide_ex (objs := [(b1, blockObj u1 l t r f), (b2, blockObj u2 l' t' r' f')]) G (by walk_at "my madeG")
  have X := Frag.In.keeps X0 H.low
  have T := T0.keeps H.low
  obtain ⟨hd0, dp0, fs0, gs0, un0⟩ := A
  obtain rfl : hd0 = none := hh
  dsimp only at hroom hu
  walk_at "my fill"
  refine' enter_cells (binds := [(Str.ofString "one", .ref b1), (Str.ofString "other", .ref b2)]) H.ext H.made H.size X T ?k8 ?k6 ?k7 ?k9 ?kB ?kN ?_ ?c2 ?c3 ?c4
  case k8 => ((try dsimp only) <;> omega)
  case k6 => k_dflt k_is
  case k7 => k_dflt k_is
  case k9 => exact BindsTo.of_eq rfl
  case kB => (intro n x hx; simp only [List.mem_cons, List.not_mem_nil, or_false] at hx; (first | subst hx | rcases hx with rfl | rfl); all_goals (first | exact Or.inl rfl | exact Or.inr ⟨rfl, rfl⟩))
  case kN => decide
  case c2 => exact rfl
  case c3 => exact rfl
  case c4 => exact rfl
  intro L' h' tk' cells' F' N' Y' l1'
  obtain ⟨oc', rfl, hoc'⟩ := CellsAre.one Y'
  (try k_lt l1')
  simp only [List.cons_append, List.nil_append] at N'
  try dsimp only
  k_steps
  rename_i kP2 D1 h1 tk1 zs1 kP1 F1 n1 N1 O1 kP3
  have lz : zs1.length ≤ 1000 := by
    rw [kP1.length]; unfold placesOf; rw [rowsOf_length]
    exact Nat.le_trans (Nat.mul_le_mul (show _ ≤ 3 by (obtain ⟨_, _, _, _, _, _, _, _⟩ := lim1; omega)) (show _ ≤ 3 by (obtain ⟨_, _, _, _, _, _, _, _⟩ := lim1; omega))) (by decide)
  refine ⟨D1, zs1, _, _, _, _, _, _, _, rfl, ⟨⟨n1, (N1 _ (List.mem_cons_self ..)).1⟩, ⟨_, (N1 _ (List.mem_cons_of_mem _ (List.mem_cons_of_mem _ (List.mem_cons_self ..)))).1, kP2⟩, ⟨_, (N1 _ (List.mem_cons_of_mem _ (List.mem_cons_self ..))).1⟩, kP1, kP3, lz⟩, F1.ns, fun D h3 tk3 zs hD hL hP hE hns => ?_⟩
  have hggL : gg.get? L' = none := Heap.get?_none_of_le F1.above
  have F3 : Fr gg L' h3 _ := ⟨hns, fun b' o e => hE _ _ (fun q => by rw [show b' = L' from q, hggL] at e; cases e) (F1.keep _ _ e), F1.above⟩
  have N2 : News gg L' h3 _ := fun q hq => ⟨hE _ _ (N1 q hq).2.1 (N1 q hq).1, (N1 q hq).2⟩
  have O3 := news_off N1 hD
  simp only [List.mem_cons, forall_eq_or_imp, List.not_mem_nil, false_implies, implies_true, and_true] at O3
  have hDg : gg.get? D = none := by
    cases e : gg.get? D with
    | none => rfl
    | some o => rw [F1.keep _ _ e] at hD; cases hD
  have hDL : D ≠ L' := by rintro rfl; obtain ⟨o, es, ep, ho, _⟩ := F1.ns; rw [hD] at ho; cases ho
  obtain ⟨n3, hL⟩ := hL
  by_cases hps : both l t r f l' t' r' f' = []
  · have hzs : zs = [] := List.eq_nil_of_length_eq_zero (by rw [hP.length]; unfold both at hps; rw [hps]; rfl)
    subst hzs
    have N3 : News gg L' h3 ((D, { cls := .type "list", data := .seq ([] : List Value).toArray n3 }) :: _) := fun q hq => by
      rcases List.mem_cons.mp hq with rfl | hq
      · exact ⟨hL, hDL, hDg⟩
      · exact N2 q hq
    clear F1 N1 N2 kP1 kP3 hP h
    k_steps
    all_goals (exact hz hps _ _ (H.keep (by assumption) (by assumption) (by walk_at "my sub")))
  · obtain ⟨a, t1, t2, b, t3, t4, p', q', z1, z2, q1, q2, fa, fb, ea, eb⟩ := places_ends hP hps
    have N3 : News gg L' h3 ((a, tupObj [.int p'.1 t1, .int p'.2 t2]) :: (b, tupObj [.int q'.1 t3, .int q'.2 t4]) :: (D, { cls := .type "list", data := .seq zs.toArray n3 }) :: _) := fun q hq => by
      rcases List.mem_cons.mp hq with rfl | hq
      · exact ⟨ea, tup_ne_ns hns ea rfl, fa⟩
      rcases List.mem_cons.mp hq with rfl | hq
      · exact ⟨eb, tup_ne_ns hns eb rfl, fb⟩
      rcases List.mem_cons.mp hq with rfl | hq
      · exact ⟨hL, hDL, hDg⟩
      · exact N2 q hq
    have hne : zs.isEmpty = false := by clear hP hL N3; cases zs with | nil => exact absurd z1 (by simp) | cons _ _ => rfl
    clear F1 N1 N2 kP1 kP3 hP
    k_steps
    unfold Stop
    refine' sub_first ?D ?v ?_ ?q ?g
    (case v => with_reducible assumption)
    (case D => exact News.isList (by k_asm) (by k_mem))
    (case q => with_unfolding_all rfl)
    (case g => (intro _; with_unfolding_all rfl))
    k_steps
    unfold Stop
    refine' sub_t1 ?N ?m ?_ ?q
    (case N => k_asm)
    (case m => k_mem)
    (case q => with_unfolding_all rfl)
    k_steps
    unfold Stop
    refine' sub_first ?D ?v ?_ ?q ?g
    (case v => with_reducible assumption)
    (case D => exact News.isList (by k_asm) (by k_mem))
    (case q => with_unfolding_all rfl)
    (case g => (intro _; with_unfolding_all rfl))
    k_steps
    unfold Stop
    refine' sub_t0 ?N ?m ?_ ?q
    (case N => k_asm)
    (case m => k_mem)
    (case q => with_unfolding_all rfl)
    k_steps
    unfold Stop
    refine' sub_last ?D ?v ?_ ?q ?g
    (case v => with_reducible assumption)
    (case D => exact News.isList (by k_asm) (by k_mem))
    (case q => with_unfolding_all rfl)
    (case g => (intro _; with_unfolding_all rfl))
    k_steps
    unfold Stop
    refine' sub_t1 ?N ?m ?_ ?q
    (case N => k_asm)
    (case m => k_mem)
    (case q => with_unfolding_all rfl)
    k_steps
    unfold Stop
    refine' sub_last ?D ?v ?_ ?q ?g
    (case v => with_reducible assumption)
    (case D => exact News.isList (by k_asm) (by k_mem))
    (case q => with_unfolding_all rfl)
    (case g => (intro _; with_unfolding_all rfl))
    k_steps
    unfold Stop
    refine' sub_t0 ?N ?m ?_ ?q
    (case N => k_asm)
    (case m => k_mem)
    (case q => with_unfolding_all rfl)
    k_steps
    exact h p' q' q1 q2 _ (tk5 t2 t1 t4 t3 0) _ _ (H.keep (by assumption) (by assumption) (by walk_at "my sub")) (H.new (by assumption) (by walk_at "my sub") (by walk_at "my off"))

end
-- part P16
section
theorem text_m {w : World} {A : Around} {s : Shared} {g0 : Heap} {p : Program} {loose : List Str} {mg mb : Str → Option Value} {R : Result → Shared → Prop} {b : Addr} {u : Nat → Tok} {l t r f : Int}
    (X0 : (hd.heap_39 w.params).In g0) (T0 : TopRead p loose mg mb g0) (G : Ext g0 s.heap) (hh : A.handled = none) (hroom : A.depth < 890) (hu : A.units < 8900) (hb0 : g0.get? b = none) (hb : s.heap.get? b = some (blockObj u l t r f))
    (h1 : 22 ≤ l) (h2 : l ≤ r) (h3 : r ≤ 30) (h4 : 1 ≤ t) (h5 : t ≤ f) (h6 : f ≤ 8)
    (h : ∀ z u h' tk, Means z l t r f → Ext s.heap h' → R (.ok (.ret (.str z u))) { s with heap := h', toks := tk }) :
    codeAny (model prg w) A (.call (.ref 374) ⟨[.ref b], []⟩) R s := by
  obtain ⟨xl, cl⟩ := col_ex h1 (Int.le_trans h2 h3)
  obtain ⟨xr, cr⟩ := col_ex (Int.le_trans h1 h2) h3
  obtain ⟨yt, dt⟩ := dig_ex h4 (Int.le_trans h5 h6)
  obtain ⟨yf, df⟩ := dig_ex (Int.le_trans h4 h5) h6
  exact text_c X0 T0 G hh hroom hu hb0 hb cl cr dt df fun z u h' tk hz hE => h z u h' tk (block_text cl cr dt df h2 hz) hE
theorem text_m4 {w : World} {A : Around} {s : Shared} {g0 : Heap} {p : Program} {loose : List Str} {mg mb : Str → Option Value} {R : Result → Shared → Prop} {b : Addr} {u0 u1 u2 u3 : Tok} {l t r f : Int}
    (X0 : (hd.heap_39 w.params).In g0) (T0 : TopRead p loose mg mb g0) (G : Ext g0 s.heap) (hh : A.handled = none) (hroom : A.depth < 890) (hu : A.units < 8900) (hb0 : g0.get? b = none) (hb : s.heap.get? b = some (tupObj [.int l u0, .int t u1, .int r u2, .int f u3]))
    (h1 : 22 ≤ l) (h2 : l ≤ r) (h3 : r ≤ 30) (h4 : 1 ≤ t) (h5 : t ≤ f) (h6 : f ≤ 8)
    (h : ∀ z u h' tk, Means z l t r f → Ext s.heap h' → R (.ok (.ret (.str z u))) { s with heap := h', toks := tk }) :
    codeAny (model prg w) A (.call (.ref 374) ⟨[.ref b], []⟩) R s :=
  text_m (u := tk5 u0 u1 u2 u3 0) X0 T0 G hh hroom hu hb0 hb h1 h2 h3 h4 h5 h6 h
theorem Hid.set {g0 g h h' : Heap} {L dx : Addr} {m : Str → Option Value} {objs news : List (Addr × Obj)} {o' : Obj} (H : Hid g0 g h objs) (F : Fr g L h' m) (N : News g L h' news) (hdx : (dx, o') ∈ news) (hnf : o'.isFreed = false)
    (nf : ∀ q ∈ objs, q.2.isFreed = false) (sub : ∀ q ∈ objs, q.1 ≠ dx → q ∈ news) : ∀ b o, h.get? b = some o → b ≠ dx → h'.get? b = some o := by
  intro b o e hne
  by_cases hq : ∃ q ∈ objs, q.1 = dx
  · obtain ⟨q, hq, rfl⟩ := hq
    have hd := (N _ hdx).1
    have back := H.back (h'.update q.1 fun _ => q.2) (fun b o e => by
      by_cases hb : q.1 = b
      · have := (N _ hdx).2.2; rw [hb, e] at this; cases this
      · rw [Heap.get?_update_other _ _ hb]; exact F.keep _ _ e) (fun q' hq' => by
      by_cases hb : q.1 = q'.1
      · rw [← hb]
        have e1 := (H.made q hq).1
        have e2 := (H.made q' hq').1
        rw [← hb, e1] at e2
        rw [← Option.some.inj e2]
        exact Heap.get?_update_self _ hd (nf q hq)
      · rw [Heap.get?_update_other _ _ hb]; exact (N _ (sub q' hq' (fun z => hb z.symm))).1)
    have := back b o e
    rwa [Heap.get?_update_other _ _ (fun z => hne z.symm)] at this
  · exact H.keep F N (fun q hq' => sub q hq' fun z => hq ⟨q, hq', z⟩) b o e

local macro_rules | `(tactic| walk_at "my madeG") => `(tactic| (intro q hq; simp only [List.mem_cons, List.not_mem_nil, or_false] at hq; (first | (subst hq; exact ⟨by assumption, by assumption⟩) | (rcases hq with hq | hq <;> (subst hq; exact ⟨by assumption, by assumption⟩)))))
local macro_rules | `(tactic| walk_at "my sub") => `(tactic| (intro q hq; simp only [List.mem_cons, List.not_mem_nil, or_false] at hq; (first | (subst hq; k_mem) | (rcases hq with hq | hq <;> (subst hq; k_mem)))))
local macro_rules | `(tactic| walk_at "my off") => `(tactic| (intro q1 hq1 q2 hq2; simp only [List.mem_cons, List.not_mem_nil, or_false] at hq1 hq2; (first | (subst hq1; subst hq2) | (subst hq1; rcases hq2 with hq2 | hq2 <;> subst hq2) | (rcases hq1 with hq1 | hq1 <;> subst hq1 <;> subst hq2) | (rcases hq1 with hq1 | hq1 <;> subst hq1 <;> rcases hq2 with hq2 | hq2 <;> subst hq2)); all_goals (refine neN ?_; (try dsimp only); omega)))
theorem shrink_c {w : World} {A : Around} {s : Shared} {g0 : Heap} {p : Program} {loose : List Str} {mg mb : Str → Option Value} {R : Result → Shared → Prop} {x dx : Addr} {k u : Nat → Tok} {l t r f : Int} {t1 t2 t3 : Tok}
    (X0 : (hd.heap_39 w.params).In g0) (T0 : TopRead p loose mg mb g0) (G : Ext g0 s.heap) (hh : A.handled = none) (hroom : A.depth < 890) (hu : A.units < 8900) (hx0 : g0.get? x = none) (hd0 : g0.get? dx = none) (hx : s.heap.get? x = some (instObj 349 dx)) (hdx : s.heap.get? dx = some (rangeDict w.params k u l t r f)) (hne : x ≠ dx)
    (h : ∀ u' h' tk, (∀ b o, s.heap.get? b = some o → b ≠ dx → h'.get? b = some o) → h'.get? dx = some (rangeDict w.params k u' (l + 2) (t + 0) (r - 1) (f - 3)) → R (.ok (.ret .none)) { s with heap := h', toks := tk }) :
    codeAny (model prg w) A (.call (.ref 314) ⟨[.ref x], [(Str.ofString "right", .int 1 t1), (Str.ofString "left", .int 2 t2), (Str.ofString "bottom", .int 3 t3)]⟩) R s := by
  obtain ⟨gg, H⟩ := hide_ex (objs := [(x, instObj 349 dx), (dx, rangeDict w.params k u l t r f)]) G (by walk_at "my madeG")
  have X := Frag.In.keeps X0 H.low
  have T := T0.keeps H.low
  obtain ⟨hd0, dp0, fs0, gs0, un0⟩ := A
  obtain rfl : hd0 = none := hh
  dsimp only at hroom hu
  walk_at "my fill"
  refine' enter_sub (binds := [(Str.ofString "self", .ref x), (Str.ofString "right", .int 1 t1), (Str.ofString "bottom", .int 3 t3), (Str.ofString "left", .int 2 t2), (Str.ofString "top", .int 0 1163)]) H.ext H.made H.size X T ?k8 ?k6 ?k7 ?k9 ?kB ?_ ?c2 ?c3 ?c4 ?c5
  case k8 => ((try dsimp only) <;> omega)
  case k6 => k_dflt k_is
  case k7 => k_dflt k_is
  case k9 => exact binds_K (X.keeps H.ext) rfl (by k_dflt k_is) rfl rfl (by kernel_rfl)
  case c5 => decide
  case kB => exact locs rfl
  case c2 => exact rfl
  case c3 => exact rfl
  case c4 => exact rfl
  intro L' h' F' N'
  try dsimp only
  k_steps
  rename News _ _ _ _ => kN
  rename Fr _ _ _ _ => kF
  have e2 := (kN _ (List.mem_cons_of_mem _ (List.mem_cons_self ..))).1
  refine h (tk5 _ _ _ _ 0) _ _ (H.set kF kN (dx := dx) (List.mem_cons_of_mem _ (List.mem_cons_self ..)) rfl ?_ ?_) e2
  · intro q hq; simp only [List.mem_cons, List.not_mem_nil, or_false] at hq; rcases hq with rfl | rfl <;> rfl
  · intro q hq hn; simp only [List.mem_cons, List.not_mem_nil, or_false] at hq; rcases hq with rfl | rfl
    · exact List.mem_cons_self ..
    · exact absurd rfl hn

end
-- part P17
section

local macro_rules | `(tactic| walk_at "my madeG") => `(tactic| (intro q hq; simp only [List.mem_cons, List.not_mem_nil, or_false] at hq; (first | (subst hq; exact ⟨by assumption, by assumption⟩) | (rcases hq with hq | hq <;> (subst hq; exact ⟨by assumption, by assumption⟩)))))
local macro_rules | `(tactic| walk_at "my sub") => `(tactic| (intro q hq; simp only [List.mem_cons, List.not_mem_nil, or_false] at hq; (first | (subst hq; k_mem) | (rcases hq with hq | hq <;> (subst hq; k_mem)))))
local macro_rules | `(tactic| walk_at "my off") => `(tactic| (intro q1 hq1 q2 hq2; simp only [List.mem_cons, List.not_mem_nil, or_false] at hq1 hq2; (first | (subst hq1; subst hq2) | (subst hq1; rcases hq2 with hq2 | hq2 <;> subst hq2) | (rcases hq1 with hq1 | hq1 <;> subst hq1 <;> subst hq2) | (rcases hq1 with hq1 | hq1 <;> subst hq1 <;> rcases hq2 with hq2 | hq2 <;> subst hq2)); all_goals (refine neN ?_; (try dsimp only); omega)))
local macro_rules | `(tactic| walk_at "call ref") => `(tactic| (k_here; (with_reducible show wpAny _ _ (call (Value.ref 349) [] _) _ _ _); (refine wpAny_call ?_); k_dflt (refine' new_kw_c ?X ?T ?hh ?hr ?hu ?q1 ?q2 ?_; (case X => walk_at "my xin"); (case T => walk_at "my top"); (case hh => exact rfl); (case hr => k_room); (case hu => k_units); (case q1 => omega); (case q2 => omega); k_whole; intro x' dx' k' u' h' tk' hE' hM'; walk_at "my after made")))
local macro_rules | `(tactic| walk_at "call ref") => `(tactic| (k_here; (with_reducible show wpAny _ _ (call (Value.ref 349) [] _) _ _ _); (refine wpAny_call ?_); k_dflt (refine' new_kw5_c ?X ?T ?hh ?hr ?hu ?q1 ?q2 ?_; (case X => walk_at "my xin"); (case T => walk_at "my top"); (case hh => exact rfl); (case hr => k_room); (case hu => k_units); (case q1 => omega); (case q2 => omega); k_whole; intro x' dx' k' u' h' tk' hE' hM'; walk_at "my after made")))
local macro_rules | `(tactic| walk_at "call ref") => `(tactic| (k_here; (with_reducible show wpAny _ _ (call (Value.ref 349) [Value.str _ _] []) _ _ _); (refine wpAny_call ?_); k_dflt (refine' new_text_c ?X ?T ?hh ?hr ?hu ?q1 ?q2 ?hx ?_; (case X => walk_at "my xin"); (case T => walk_at "my top"); (case hh => exact rfl); (case hr => k_room); (case hu => k_units); (case hx => assumption); (case q1 => omega); (case q2 => omega); k_whole; intro x' dx' k' u' h' tk' hE' hM'; walk_at "my after made")))
local macro_rules | `(tactic| walk_at "call ref") => `(tactic| (k_here; (with_reducible show wpAny _ _ (call (Value.ref 374) [Value.ref _] []) _ _ _); (refine wpAny_call ?_); k_dflt (first
  | (refine' text_m ?X0 ?T0 ?G ?hh ?hr ?hu ?b0 ?b1 ?q1 ?q2 ?q3 ?q4 ?q5 ?q6 ?_; (case G => exact Fr.keep (by k_asm)); (case X0 => assumption); (case T0 => assumption); (case hh => exact rfl); (case hr => k_room); (case hu => k_units); (case b1 => exact (news_at (by k_asm) (by k_mem)).2); (case b0 => exact (news_at (by k_asm) (by k_mem)).1); (case q1 => omega); (case q2 => omega); (case q3 => omega); (case q4 => omega); (case q5 => omega); (case q6 => omega); k_whole; intro z' u' h' tk' hM' hE'; walk_at "my after")
  | (refine' text_m4 ?X0 ?T0 ?G ?hh ?hr ?hu ?b0 ?b1 ?q1 ?q2 ?q3 ?q4 ?q5 ?q6 ?_; (case G => exact Fr.keep (by k_asm)); (case X0 => assumption); (case T0 => assumption); (case hh => exact rfl); (case hr => k_room); (case hu => k_units); (case b1 => exact (news_at (by k_asm) (by k_mem)).2); (case b0 => exact (news_at (by k_asm) (by k_mem)).1); (case q1 => omega); (case q2 => omega); (case q3 => omega); (case q4 => omega); (case q5 => omega); (case q6 => omega); k_whole; intro z' u' h' tk' hM' hE'; walk_at "my after"))))
theorem shrunk {g h h' : Heap} {L x dx : Addr} {m : Str → Option Value} {ix d0 d' : Obj} {rest : List (Addr × Obj)} (F : Fr g L h m) (N : News g L h ((x, ix) :: (dx, d0) :: rest)) (hK : ∀ b o, h.get? b = some o → b ≠ dx → h'.get? b = some o) (hD : h'.get? dx = some d')
    (hne : x ≠ dx) (hr : ∀ p ∈ rest, @Ne Nat p.1 dx) : Fr g L h' m ∧ News g L h' ((x, ix) :: (dx, d') :: rest) := by
  have ndx := N _ (List.mem_cons_of_mem _ (List.mem_cons_self ..))
  have nL : L ≠ dx := fun z => ndx.2.1 z.symm
  obtain ⟨o, es, ep, ho, r⟩ := F.ns
  refine ⟨⟨⟨o, es, ep, hK _ _ ho nL, r⟩, fun b o e => hK _ _ (F.keep _ _ e) (fun z => by subst z; have := ndx.2.2; rw [e] at this; cases this), F.above⟩, fun q hq => ?_⟩
  rcases List.mem_cons.mp hq with rfl | hq
  · have := N _ (List.mem_cons_self ..)
    exact ⟨hK _ _ this.1 hne, this.2⟩
  rcases List.mem_cons.mp hq with rfl | hq
  · exact ⟨hD, ndx.2⟩
  · have := N _ (List.mem_cons_of_mem _ (List.mem_cons_of_mem _ hq))
    exact ⟨hK _ _ this.1 (hr _ hq), this.2⟩
local macro_rules | `(tactic| walk_at "call ref") => `(tactic| (k_here; (with_reducible show wpAny _ _ (call (Value.ref 314) [Value.ref _] _) _ _ _); (refine wpAny_call ?_); k_dflt (refine' shrink_c ?X0 ?T0 ?G ?hh ?hr ?hu ?b0 ?c0 ?b1 ?c1 ?ne ?_; (case G => exact Fr.keep (by k_asm)); (case X0 => assumption); (case T0 => assumption); (case hh => exact rfl); (case hr => k_room); (case hu => k_units); (case b1 => exact (news_at (by k_asm) (by k_mem)).2); (case b0 => exact (news_at (by k_asm) (by k_mem)).1); (case c1 => exact (news_at (by k_asm) (by k_mem)).2); (case c0 => exact (news_at (by k_asm) (by k_mem)).1); (case ne => (refine neN ?_; omega)); k_whole; intro u' h' tk' hK' hD'; (with_reducible rename Fr _ _ _ _ => kF); (with_reducible rename News _ _ _ _ => kN); (obtain ⟨F', N'⟩ := shrunk kF kN hK' hD' (by (refine neN ?_; omega)) (by (simp only [List.mem_cons, forall_eq_or_imp, List.not_mem_nil, false_implies, implies_true, and_true]; omega))); clear hK' hD'; k_sweep)))
theorem made_c {w : World} {A : Around} {s : Shared} {g0 : Heap} {p : Program} {loose : List Str} {mg mb : Str → Option Value} {R : Result → Shared → Prop} {b : Addr} {u : Nat → Tok} {l t r f n : Int} {u0 : Tok}
    (X0 : (hd.heap_39 w.params).In g0) (T0 : TopRead p loose mg mb g0) (G : Ext g0 s.heap) (hh : A.handled = none) (hroom : A.depth < 850) (hu : A.units < 8500) (hb0 : g0.get? b = none) (hb : s.heap.get? b = some (blockObj u l t r f)) (q1 : 24 ≤ l) (q2 : l ≤ r) (q3 : r ≤ 29) (q4 : 1 ≤ t) (q5 : t ≤ f) (q6 : f ≤ 5)
    (h : ∀ x dx k u h' tk, Ext s.heap h' → Made s.heap h' [(x, instObj 349 dx), (dx, rangeDict w.params k u l t r f)] → R (.ok (.ret (.ref x))) { s with heap := h', toks := tk }) :
    codeAny (model prg w) A (.call (.ref 396) ⟨[.ref b, .int n u0], []⟩) R s := by
  obtain ⟨gg, H⟩ := hide_ex (objs := [(b, blockObj u l t r f)]) G (by walk_at "my madeG")
  have X := Frag.In.keeps X0 H.low
  have T := T0.keeps H.low
  obtain ⟨hd0, dp0, fs0, gs0, un0⟩ := A
  obtain rfl : hd0 = none := hh
  dsimp only at hroom hu
  walk_at "my fill"
  refine' enter_sub (binds := [(Str.ofString "block", .ref b), (Str.ofString "number", .int n u0)]) H.ext H.made H.size X T ?k8 ?k6 ?k7 ?k9 ?kB ?_ ?c2 ?c3 ?c4 ?c5
  walk_at "my entered"
  k_steps
  all_goals (try dsimp only)
  all_goals first
    | exact h _ _ _ _ _ _ (H.keep (by assumption) (by assumption) (by walk_at "my sub")) (H.new (by assumption) (by walk_at "my sub") (by walk_at "my off"))
    | (rename News _ _ _ _ => kN; rw [show l - 2 + 2 = l by omega, Int.add_zero, show r + 1 - 1 = r by omega, show f + 3 - 3 = f by omega] at kN; exact h _ _ _ _ _ _ (H.keep (by assumption) kN (by walk_at "my sub")) (H.new kN (by walk_at "my sub") (by walk_at "my off")))

end
-- part P18
section

local macro_rules | `(tactic| walk_at "call ref") => `(tactic| (k_here; (with_reducible show wpAny _ _ (call (Value.ref 199) [Value.ref _, Value.ref _] []) _ _ _); (refine wpAny_call ?_); k_dflt (refine' title_c ?X ?T ?hh ?hr ?hu ?hx ?hy ?_; (case X => walk_at "my xin"); (case T => walk_at "my top"); (case hh => exact rfl); (case hr => k_room); (case hu => k_units); (case hx => walk_at "my rg"); (case hy => walk_at "my rg"); k_whole; intro h' tk' hE'; walk_at "my after")))
local macro_rules | `(tactic| walk_at "call ref") => `(tactic| (k_here; (with_reducible show wpAny _ _ (call (Value.ref 256) [Value.ref _, Value.ref _] []) _ _ _); (refine wpAny_call ?_); k_dflt (refine' sup_c ?X ?T ?hh ?hr ?hu ?hx ?hy ?_; (case X => walk_at "my xin"); (case T => walk_at "my top"); (case hh => exact rfl); (case hr => k_room); (case hu => k_units); (case hx => walk_at "my rg"); (case hy => walk_at "my rg"); k_whole; intro h' tk' hE'; walk_at "my after")))
local macro_rules | `(tactic| walk_at "call ref") => `(tactic| (k_here; (with_reducible show wpAny _ _ (call (Value.ref 228) [Value.ref _, Value.ref _] []) _ _ _); (refine wpAny_call ?_); k_dflt (refine' ne_c ?X ?T ?hh ?hr ?hu ?hx ?hy ?_; (case X => walk_at "my xin"); (case T => walk_at "my top"); (case hh => exact rfl); (case hr => k_room); (case hu => k_units); (case hx => walk_at "my rg"); (case hy => walk_at "my rg"); k_whole; intro h' tk' hE'; walk_at "my after")))
local macro_rules | `(tactic| walk_at "call ref") => `(tactic| (k_here; (with_reducible show wpAny _ _ (call (Value.ref 235) [Value.ref _, Value.ref _] []) _ _ _); (refine wpAny_call ?_); k_dflt (refine' eq_c ?X ?T ?hh ?hr ?hu ?hx ?hy ?_; (case X => walk_at "my xin"); (case T => walk_at "my top"); (case hh => exact rfl); (case hr => k_room); (case hu => k_units); (case hx => walk_at "my rg"); (case hy => walk_at "my rg"); k_whole; intro h' tk' hE'; walk_at "my after")))
local macro_rules | `(tactic| walk_at "call ref") => `(tactic| (k_here; (with_reducible show wpAny _ _ (call (Value.ref 242) [Value.ref _, Value.ref _] []) _ _ _); (refine wpAny_call ?_); k_dflt (refine' subset_c ?X ?T ?hh ?hr ?hu ?hx ?hy ?_; (case X => walk_at "my xin"); (case T => walk_at "my top"); (case hh => exact rfl); (case hr => k_room); (case hu => k_units); (case hx => walk_at "my rg"); (case hy => walk_at "my rg"); k_whole; intro h' tk' hE'; walk_at "my after")))
local macro_rules | `(tactic| walk_at "call ref") => `(tactic| (k_here; (with_reducible show wpAny _ _ (call (Value.ref 263) [Value.ref _, Value.ref _] []) _ _ _); (refine wpAny_call ?_); k_dflt (refine' superset_c ?X ?T ?hh ?hr ?hu ?hx ?hy ?_; (case X => walk_at "my xin"); (case T => walk_at "my top"); (case hh => exact rfl); (case hr => k_room); (case hu => k_units); (case hx => walk_at "my rg"); (case hy => walk_at "my rg"); k_whole; intro h' tk' hE'; walk_at "my after")))
local macro_rules | `(tactic| walk_at "call ref") => `(tactic| (k_here; (with_reducible show wpAny _ _ (call (Value.ref 249) [Value.ref _, Value.ref _] []) _ _ _); (refine wpAny_call ?_); k_dflt (refine' lt_c ?X ?T ?hh ?hr ?hu ?hx ?hy ?_; (case X => walk_at "my xin"); (case T => walk_at "my top"); (case hh => exact rfl); (case hr => k_room); (case hu => k_units); (case hx => walk_at "my rg"); (case hy => walk_at "my rg"); k_whole; intro h' tk' hE'; walk_at "my after")))
local macro_rules | `(tactic| walk_at "call ref") => `(tactic| (k_here; (with_reducible show wpAny _ _ (call (Value.ref 277) [Value.ref _, Value.ref _] []) _ _ _); (refine wpAny_call ?_); k_dflt (refine' gt_c ?X ?T ?hh ?hr ?hu ?hx ?hy ?_; (case X => walk_at "my xin"); (case T => walk_at "my top"); (case hh => exact rfl); (case hr => k_room); (case hu => k_units); (case hx => walk_at "my rg"); (case hy => walk_at "my rg"); k_whole; intro h' tk' hE'; walk_at "my after")))
local macro_rules | `(tactic| walk_at "call ref") => `(tactic| (k_here; (with_reducible show wpAny _ _ (call (Value.ref 199) [Value.ref _, Value.ref _] []) _ _ _); (refine wpAny_call ?_); k_dflt (refine' title_c ?X ?T ?hh ?hr ?hu ?hx ?hy ?_; (case X => walk_at "my xin"); (case T => walk_at "my top"); (case hh => exact rfl); (case hr => k_room); (case hu => k_units); (case hx => walk_at "my rg"); (case hy => walk_at "my rg"); k_whole; intro h' tk' hE'; walk_at "my after")))
local macro_rules | `(tactic| walk_at "call ref") => `(tactic| (k_here; (with_reducible show wpAny _ _ (call (Value.ref 256) [Value.ref _, Value.ref _] []) _ _ _); (refine wpAny_call ?_); k_dflt (refine' sup_c ?X ?T ?hh ?hr ?hu ?hx ?hy ?_; (case X => walk_at "my xin"); (case T => walk_at "my top"); (case hh => exact rfl); (case hr => k_room); (case hu => k_units); (case hx => walk_at "my rg"); (case hy => walk_at "my rg"); k_whole; intro h' tk' hE'; walk_at "my after")))
local macro_rules | `(tactic| walk_at "call ref") => `(tactic| (k_here; (with_reducible show wpAny _ _ (call (Value.ref 228) [Value.ref _, Value.ref _] []) _ _ _); (refine wpAny_call ?_); k_dflt (refine' ne_c ?X ?T ?hh ?hr ?hu ?hx ?hy ?_; (case X => walk_at "my xin"); (case T => walk_at "my top"); (case hh => exact rfl); (case hr => k_room); (case hu => k_units); (case hx => walk_at "my rg"); (case hy => walk_at "my rg"); k_whole; intro h' tk' hE'; walk_at "my after")))
local macro_rules | `(tactic| walk_at "call ref") => `(tactic| (k_here; (with_reducible show wpAny _ _ (call (Value.ref 235) [Value.ref _, Value.ref _] []) _ _ _); (refine wpAny_call ?_); k_dflt (refine' eq_c ?X ?T ?hh ?hr ?hu ?hx ?hy ?_; (case X => walk_at "my xin"); (case T => walk_at "my top"); (case hh => exact rfl); (case hr => k_room); (case hu => k_units); (case hx => walk_at "my rg"); (case hy => walk_at "my rg"); k_whole; intro h' tk' hE'; walk_at "my after")))
local macro_rules | `(tactic| walk_at "call ref") => `(tactic| (k_here; (with_reducible show wpAny _ _ (call (Value.ref 242) [Value.ref _, Value.ref _] []) _ _ _); (refine wpAny_call ?_); k_dflt (refine' subset_c ?X ?T ?hh ?hr ?hu ?hx ?hy ?_; (case X => walk_at "my xin"); (case T => walk_at "my top"); (case hh => exact rfl); (case hr => k_room); (case hu => k_units); (case hx => walk_at "my rg"); (case hy => walk_at "my rg"); k_whole; intro h' tk' hE'; walk_at "my after")))
local macro_rules | `(tactic| walk_at "call ref") => `(tactic| (k_here; (with_reducible show wpAny _ _ (call (Value.ref 263) [Value.ref _, Value.ref _] []) _ _ _); (refine wpAny_call ?_); k_dflt (refine' superset_c ?X ?T ?hh ?hr ?hu ?hx ?hy ?_; (case X => walk_at "my xin"); (case T => walk_at "my top"); (case hh => exact rfl); (case hr => k_room); (case hu => k_units); (case hx => walk_at "my rg"); (case hy => walk_at "my rg"); k_whole; intro h' tk' hE'; walk_at "my after")))
local macro_rules | `(tactic| walk_at "call ref") => `(tactic| (k_here; (with_reducible show wpAny _ _ (call (Value.ref 249) [Value.ref _, Value.ref _] []) _ _ _); (refine wpAny_call ?_); k_dflt (refine' lt_c ?X ?T ?hh ?hr ?hu ?hx ?hy ?_; (case X => walk_at "my xin"); (case T => walk_at "my top"); (case hh => exact rfl); (case hr => k_room); (case hu => k_units); (case hx => walk_at "my rg"); (case hy => walk_at "my rg"); k_whole; intro h' tk' hE'; walk_at "my after")))
local macro_rules | `(tactic| walk_at "call ref") => `(tactic| (k_here; (with_reducible show wpAny _ _ (call (Value.ref 277) [Value.ref _, Value.ref _] []) _ _ _); (refine wpAny_call ?_); k_dflt (refine' gt_c ?X ?T ?hh ?hr ?hu ?hx ?hy ?_; (case X => walk_at "my xin"); (case T => walk_at "my top"); (case hh => exact rfl); (case hr => k_room); (case hu => k_units); (case hx => walk_at "my rg"); (case hy => walk_at "my rg"); k_whole; intro h' tk' hE'; walk_at "my after")))
local macro_rules | `(tactic| walk_at "getAttr ref") => `(tactic| (k_here; (with_reducible show wpAny _ _ (getAttr (Value.ref _) (PySem.Str.ofString "bounds") _) _ _ _); k_dflt (refine' get_prop ?k1 ?k2 ?k3 ?k4 ?k5 ?k6 ?k7 ?k8 ?k9 ?_; (case k1 => k_asm); (case k2 => k_asm); (case k3 => k_inst); (case k4 => k_is); (case k5 => k_is); (case k6 => k_is); (case k7 => k_is); (case k8 => k_is); (case k9 => k_is); k_whole); k_dflt (refine' bounds_c ?X ?T ?hh ?hr ?hu ?hx ?_; (case X => walk_at "my xin"); (case T => walk_at "my top"); (case hh => exact rfl); (case hr => k_room); (case hu => k_units); (case hx => walk_at "my rg"); k_whole; intro a' u' h' tk' hE' hM'; walk_at "my after made"); (try dsimp only)))
local macro_rules | `(tactic| walk_at "call ref") => `(tactic| (k_here; (with_reducible show wpAny _ _ (call (Value.ref 284) [Value.ref _, Value.ref _] []) _ _ _); (refine wpAny_call ?_); k_dflt (refine' disjoint_c ?X ?T ?hh ?hr ?hu ?hx ?hy ?q1 ?q2 ?q3 ?q4 ?_; (case X => walk_at "my xin"); (case T => walk_at "my top"); (case hh => exact rfl); (case hr => k_room); (case hu => k_units); (case hx => walk_at "my rg"); (case hy => walk_at "my rg"); (case q1 => omega); (case q2 => omega); (case q3 => omega); (case q4 => omega); k_whole; intro h' tk' hE'; walk_at "my after")))
def leB (l t r f l' t' r' f' : Int) : Bool := decide (l' ≤ l ∧ r ≤ r' ∧ t' ≤ t ∧ f ≤ f')
def eqB (l t r f l' t' r' f' : Int) : Bool := decide (l = l' ∧ t = t' ∧ r = r' ∧ f = f')
def disB (l t r f l' t' r' f' : Int) : Bool := decide (r < l' ∨ r' < l ∨ f < t' ∨ f' < t)
def ordL (l t r f l' t' r' f' : Int) : List Value :=
  [.bool (leB l t r f l' t' r' f'), .bool (leB l t r f l' t' r' f' && !eqB l t r f l' t' r' f'), .bool (leB l' t' r' f' l t r f), .bool (leB l' t' r' f' l t r f && !eqB l t r f l' t' r' f'),
   .bool (eqB l t r f l' t' r' f'), .bool (!eqB l t r f l' t' r' f'), .bool (disB l t r f l' t' r' f')]
theorem list7 {a1 a2 a3 a4 a5 a6 a7 b1 b2 b3 b4 b5 b6 b7 : Bool} (h1 : a1 = b1) (h2 : a2 = b2) (h3 : a3 = b3) (h4 : a4 = b4) (h5 : a5 = b5) (h6 : a6 = b6) (h7 : a7 = b7) :
    some (listOf #[Value.bool a1, .bool a2, .bool a3, .bool a4, .bool a5, .bool a6, .bool a7] 0) = some { cls := .type "list", data := .seq [Value.bool b1, .bool b2, .bool b3, .bool b4, .bool b5, .bool b6, .bool b7].toArray 0 } := by
  subst h1 h2 h3 h4 h5 h6 h7; rfl
theorem order_c {w : World} {A : Around} {s : Shared} {p : Program} {loose : List Str} {mg mb : Str → Option Value} {R : Result → Shared → Prop} {x y : Addr} {l t r f l' t' r' f' : Int}
    (X : (hd.heap_39 w.params).In s.heap) (T : TopRead p loose mg mb s.heap) (hh : A.handled = none) (hroom : A.depth < 850) (hu : A.units < 8500) (hx : RangeAt w.params s.heap x l t r f) (hy : RangeAt w.params s.heap y l' t' r' f') (hl : l ≤ r) (ht : t ≤ f) (hl' : l' ≤ r') (ht' : t' ≤ f')
    (h : ∀ D n h' tk, Ext s.heap h' → Made s.heap h' [(D, { cls := .type "list", data := .seq (ordL l t r f l' t' r' f').toArray n })] → R (.ok (.ret (.ref D))) { s with heap := h', toks := tk }) :
    codeAny (model prg w) A (.call (.ref 403) ⟨[.ref x, .ref y], []⟩) R s := by
  have hx0 := hx
  obtain ⟨dx, kx, ux, hx1, hx2⟩ := hx0
  have hy0 := hy
  obtain ⟨dy, ky, uy, hy1, hy2⟩ := hy0
  obtain ⟨hd0, dp0, fs0, gs0, un0⟩ := A
  obtain rfl : hd0 = none := hh
  dsimp only at hroom hu
  walk_at "my fill"
  refine' enter_ (binds := [(Str.ofString "one", .ref x), (Str.ofString "other", .ref y)]) X T ?k8 ?k6 ?k7 ?k9 ?kB ?_ ?c2 ?c3 ?c4 ?c5
  walk_at "my entered"
  k_steps
  rename News _ _ _ _ => kN
  rename Fr _ _ _ _ => kF
  refine h _ 0 _ _ kF.keep fun q hq => ?_
  rw [List.mem_singleton.mp hq]
  refine ⟨(kN _ (List.mem_cons_self ..)).1.trans ?_, (kN _ (List.mem_cons_self ..)).2.2⟩
  refine list7 ?_ ?_ ?_ ?_ ?_ ?_ ?_
  all_goals ((try unfold leB); (try unfold eqB); (try unfold disB); rw [Bool.eq_iff_iff]; simp only [Bool.and_eq_true, Bool.not_eq_true', decide_eq_true_eq, decide_eq_false_iff_not]; omega)

end
-- part P19
section
theorem within2_c {w : World} {A : Around} {s : Shared} {g0 : Heap} {p : Program} {loose : List Str} {mg mb : Str → Option Value} {R : Result → Shared → Prop} {b1 b2 : Addr} {u1 u2 : Nat → Tok} {l t r f l' t' r' f' : Int}
    (X0 : (hd.heap_39 w.params).In g0) (T0 : TopRead p loose mg mb g0) (G : Ext g0 s.heap) (hh : A.handled = none) (hroom : A.depth < 880) (hu : A.units < 8800)  (hn1 : g0.get? b1 = none) (e1 : s.heap.get? b1 = some (blockObj u1 l t r f)) (hn2 : g0.get? b2 = none) (e2 : s.heap.get? b2 = some (blockObj u2 l' t' r' f')) (lim1 : Lim l t r f) (lim2 : Lim l' t' r' f')
    (h : ∀ h' tk, Ext s.heap h' → R (.ok (.ret (.bool (leB l t r f l' t' r' f')))) { s with heap := h', toks := tk }) : codeAny (model prg w) A (.call (.ref 384) ⟨[.ref b1, .ref b2], []⟩) R s := by
  refine within_c X0 T0 G hh hroom hu hn1 e1 hn2 e2 lim1 lim2 fun h' tk hE => ?_
  have a := lim1
  have b := lim2
  unfold Lim at a b
  rw [within_iff (by omega) (by omega) (by omega) (by omega)]
  exact h h' tk hE
theorem shared2_c {w : World} {A : Around} {s : Shared} {g0 : Heap} {p : Program} {loose : List Str} {mg mb : Str → Option Value} {R : Result → Shared → Prop} {b1 b2 : Addr} {u1 u2 : Nat → Tok} {l t r f l' t' r' f' : Int}
    (X0 : (hd.heap_39 w.params).In g0) (T0 : TopRead p loose mg mb g0) (G : Ext g0 s.heap) (hh : A.handled = none) (hroom : A.depth < 880) (hu : A.units < 8800)  (hn1 : g0.get? b1 = none) (e1 : s.heap.get? b1 = some (blockObj u1 l t r f)) (hn2 : g0.get? b2 = none) (e2 : s.heap.get? b2 = some (blockObj u2 l' t' r' f')) (lim1 : Lim l t r f) (lim2 : Lim l' t' r' f')
    (hz : disB l t r f l' t' r' f' = true → ∀ h' tk, Ext s.heap h' → R (.ok (.ret .none)) { s with heap := h', toks := tk })
    (h : disB l t r f l' t' r' f' = false → ∀ a u h' tk, Ext s.heap h' → Made s.heap h' [(a, blockObj u (max l l') (max t t') (min r r') (min f f'))] → R (.ok (.ret (.ref a))) { s with heap := h', toks := tk }) :
    codeAny (model prg w) A (.call (.ref 389) ⟨[.ref b1, .ref b2], []⟩) R s := by
  have a := lim1
  have b := lim2
  unfold Lim at a b
  refine shared_c X0 T0 G hh hroom hu hn1 e1 hn2 e2 lim1 lim2 (fun e h' tk hE => hz ?_ h' tk hE) fun p q e1 e2 a' u h' tk hE hM => ?_
  · rw [both_nil (by omega) (by omega) (by omega) (by omega)] at e
    exact decide_eq_true e
  · have nz : ¬ (r < l' ∨ r' < l ∨ f < t' ∨ f' < t) := fun z => by
      rw [(both_nil (by omega) (by omega) (by omega) (by omega)).mpr z] at e1; cases e1
    have ends := both_ends (l := l) (t := t) (r := r) (f := f) (l' := l') (t' := t') (r' := r') (f' := f') (by omega) (by omega) (by omega) (by omega) nz
    rw [ends.1] at e1; rw [ends.2] at e2
    cases e1; cases e2
    exact h (decide_eq_false nz) a' u h' tk hE hM

local macro_rules | `(tactic| walk_at "my madeG") => `(tactic| (intro q hq; simp only [List.mem_cons, List.not_mem_nil, or_false] at hq; (first | (subst hq; exact ⟨by assumption, by assumption⟩) | (rcases hq with hq | hq <;> (subst hq; exact ⟨by assumption, by assumption⟩)))))
local macro_rules | `(tactic| walk_at "my sub") => `(tactic| (intro q hq; simp only [List.mem_cons, List.not_mem_nil, or_false] at hq; (first | (subst hq; k_mem) | (rcases hq with hq | hq <;> (subst hq; k_mem)))))
local macro_rules | `(tactic| walk_at "my off") => `(tactic| (intro q1 hq1 q2 hq2; simp only [List.mem_cons, List.not_mem_nil, or_false] at hq1 hq2; (first | (subst hq1; subst hq2) | (subst hq1; rcases hq2 with hq2 | hq2 <;> subst hq2) | (rcases hq1 with hq1 | hq1 <;> subst hq1 <;> subst hq2) | (rcases hq1 with hq1 | hq1 <;> subst hq1 <;> rcases hq2 with hq2 | hq2 <;> subst hq2)); all_goals (refine neN ?_; (try dsimp only); omega)))
local macro_rules | `(tactic| walk_at "call ref") => `(tactic| (k_here; (with_reducible show wpAny _ _ (call (Value.ref 384) [Value.ref _, Value.ref _] []) _ _ _); (refine wpAny_call ?_); k_dflt (refine' within2_c ?X0 ?T0 ?G ?hh ?hr ?hu ?b0 ?b1 ?c0 ?c1 ?lim1 ?lim2 ?_; (case G => exact Fr.keep (by k_asm)); (case X0 => assumption); (case T0 => assumption); (case hh => exact rfl); (case hr => k_room); (case hu => k_units); (case b1 => exact (news_at (by k_asm) (by k_mem)).2); (case b0 => exact (news_at (by k_asm) (by k_mem)).1); (case c1 => exact (news_at (by k_asm) (by k_mem)).2); (case c0 => exact (news_at (by k_asm) (by k_mem)).1); (case lim1 => assumption); (case lim2 => assumption); k_whole; intro h' tk' hE'; walk_at "my after")))
local macro_rules | `(tactic| walk_at "call ref") => `(tactic| (k_here; (with_reducible show wpAny _ _ (call (Value.ref 389) [Value.ref _, Value.ref _] []) _ _ _); (refine wpAny_call ?_); k_dflt (refine' shared2_c ?X0 ?T0 ?G ?hh ?hr ?hu ?b0 ?b1 ?c0 ?c1 ?lim1 ?lim2 ?_ ?_; (case G => exact Fr.keep (by k_asm)); (case X0 => assumption); (case T0 => assumption); (case hh => exact rfl); (case hr => k_room); (case hu => k_units); (case b1 => exact (news_at (by k_asm) (by k_mem)).2); (case b0 => exact (news_at (by k_asm) (by k_mem)).1); (case c1 => exact (news_at (by k_asm) (by k_mem)).2); (case c0 => exact (news_at (by k_asm) (by k_mem)).1); (case lim1 => assumption); (case lim2 => assumption); k_whole; all_goals (intro hdis'; first | (intro a' u' h' tk' hE' hM'; walk_at "my after made") | (intro h' tk' hE'; walk_at "my after")))))
theorem due_c {w : World} {A : Around} {s : Shared} {g0 : Heap} {p : Program} {loose : List Str} {mg mb : Str → Option Value} {R : Result → Shared → Prop} {b1 b2 : Addr} {u1 u2 : Nat → Tok} {l t r f l' t' r' f' : Int}
    (X0 : (hd.heap_39 w.params).In g0) (T0 : TopRead p loose mg mb g0) (G : Ext g0 s.heap) (hh : A.handled = none) (hroom : A.depth < 870) (hu : A.units < 8700) (hn1 : g0.get? b1 = none) (e1 : s.heap.get? b1 = some (blockObj u1 l t r f)) (hn2 : g0.get? b2 = none) (e2 : s.heap.get? b2 = some (blockObj u2 l' t' r' f')) (lim1 : Lim l t r f) (lim2 : Lim l' t' r' f')
    (h : ∀ D n h' tk, Ext s.heap h' → Made s.heap h' [(D, { cls := .type "list", data := .seq (ordL l t r f l' t' r' f').toArray n })] → R (.ok (.ret (.ref D))) { s with heap := h', toks := tk }) :
    codeAny (model prg w) A (.call (.ref 410) ⟨[.ref b1, .ref b2], []⟩) R s := by
  have es : (l == l' && (t == t' && (r == r' && f == f'))) = eqB l t r f l' t' r' f' := by
    unfold eqB; rw [Bool.eq_iff_iff]; simp only [Bool.and_eq_true, beq_iff_eq, decide_eq_true_eq]
  obtain ⟨gg, H⟩ := hide_ex (objs := [(b1, blockObj u1 l t r f), (b2, blockObj u2 l' t' r' f')]) G (by walk_at "my madeG")
  have X := Frag.In.keeps X0 H.low
  have T := T0.keeps H.low
  obtain ⟨hd0, dp0, fs0, gs0, un0⟩ := A
  obtain rfl : hd0 = none := hh
  dsimp only at hroom hu
  walk_at "my fill"
  refine' enter_sub (binds := [(Str.ofString "one", .ref b1), (Str.ofString "other", .ref b2)]) H.ext H.made H.size X T ?k8 ?k6 ?k7 ?k9 ?kB ?_ ?c2 ?c3 ?c4 ?c5
  walk_at "my entered"
  k_steps
  all_goals (
    rename News _ _ _ _ => kN
    rename Fr _ _ _ _ => kF
    rename leB l t r f l' t' r' f' = _ => q1
    rename leB l' t' r' f' l t r f = _ => q2
    rename disB l t r f l' t' r' f' = _ => q3
    refine h _ 0 _ _ (H.keep kF kN (by walk_at "my sub")) fun q hq => ?_
    rw [List.mem_singleton.mp hq]
    refine ⟨(kN _ (List.mem_cons_self ..)).1.trans ?_, H.none _ (kN _ (List.mem_cons_self ..)).2.2 (by intro q1 hq1; simp only [List.mem_cons, List.not_mem_nil, or_false] at hq1; (rcases hq1 with hq1 | hq1 <;> subst hq1); all_goals (refine neN ?_; (try dsimp only); omega))⟩
    refine list7 ?_ ?_ ?_ ?_ ?_ ?_ ?_
    all_goals (simp only [es, q1, q2, q3, Bool.true_and, Bool.false_and]))

end
-- part P20
section

theorem divmod_lt {w : World} {A : Around} {E : Value → Shared → Prop} {s : Shared} {a b : Int} {t u : Tok} {Q : Value → Shared → Prop} {h₀ : Heap} {L : Addr} {m : Str → Option Value} {news : List (Addr × Obj)} (F : Fr h₀ L s.heap m) (N : News h₀ L s.heap news) (hb : b ≠ 0) (hs : Builtin.divisionGoesByPylong a b = false)
    (h : ∀ D h' tk u v, Fr h₀ L h' m → News h₀ L h' ((D, { cls := .type "tuple", data := .seq #[.int (a.fdiv b) u, .int (a.fmod b) v] }) :: news) → (∀ q ∈ news, q.1 < D) → Q (.ref D) { s with toks := tk, heap := h' }) :
    wpAny (model prg w) A (call (.builtin "divmod") [.int a t, .int b u]) Q E s :=
  divmod_N F N hb (fun h' F' N' => h _ h' _ _ _ F' N' fun q hq => Heap.lt_size (N q hq).1) (Or.inl hs)
local macro_rules | `(tactic| walk_at "call builtin:divmod") => `(tactic| (k_here; k_dflt (refine' divmod_lt ?F ?N ?b ?s ?_; (case F => k_asm); (case N => k_asm); (case b => decide); (case s => exact PyProof.noPylong_of_log2 (by decide +kernel)); k_whole); intro D' h' tk' u' v' F' N' l1; (try k_lt l1); (try k_sweep)))
theorem glet_24 {w : World} {A : Around} {s : Shared} {p : Program} {loose : List Str} {mg mb : Str → Option Value} {R : Result → Shared → Prop} {u0 : Tok}
    (X : (hd.heap_39 w.params).In s.heap) (T : TopRead p loose mg mb s.heap) (hh : A.handled = none) (hroom : A.depth < 900) (hu : A.units < 9000) 
    (h : ∀ u h' tk, Ext s.heap h' → R (.ok (.ret (.str (Str.ofString "X") u))) { s with heap := h', toks := tk }) :
    codeAny (model prg w) A (.call (.ref 56) ⟨[.int 24 u0], []⟩) R s := by
  obtain ⟨hd0, dp0, fs0, gs0, un0⟩ := A
  obtain rfl : hd0 = none := hh
  dsimp only at hroom hu
  walk_at "my fill"
  refine' enter_ (binds := [(Str.ofString "col_idx", .int 24 u0)]) X T ?k8 ?k6 ?k7 ?k9 ?kB ?_ ?c2 ?c3 ?c4 ?c5
  walk_at "my entered"
  k_steps
  all_goals (first | exact h _ _ _ (Fr.keep (by assumption)))
theorem glet_25 {w : World} {A : Around} {s : Shared} {p : Program} {loose : List Str} {mg mb : Str → Option Value} {R : Result → Shared → Prop} {u0 : Tok}
    (X : (hd.heap_39 w.params).In s.heap) (T : TopRead p loose mg mb s.heap) (hh : A.handled = none) (hroom : A.depth < 900) (hu : A.units < 9000) 
    (h : ∀ u h' tk, Ext s.heap h' → R (.ok (.ret (.str (Str.ofString "Y") u))) { s with heap := h', toks := tk }) :
    codeAny (model prg w) A (.call (.ref 56) ⟨[.int 25 u0], []⟩) R s := by
  obtain ⟨hd0, dp0, fs0, gs0, un0⟩ := A
  obtain rfl : hd0 = none := hh
  dsimp only at hroom hu
  walk_at "my fill"
  refine' enter_ (binds := [(Str.ofString "col_idx", .int 25 u0)]) X T ?k8 ?k6 ?k7 ?k9 ?kB ?_ ?c2 ?c3 ?c4 ?c5
  walk_at "my entered"
  k_steps
  all_goals (first | exact h _ _ _ (Fr.keep (by assumption)))
theorem glet_26 {w : World} {A : Around} {s : Shared} {p : Program} {loose : List Str} {mg mb : Str → Option Value} {R : Result → Shared → Prop} {u0 : Tok}
    (X : (hd.heap_39 w.params).In s.heap) (T : TopRead p loose mg mb s.heap) (hh : A.handled = none) (hroom : A.depth < 900) (hu : A.units < 9000) 
    (h : ∀ u h' tk, Ext s.heap h' → R (.ok (.ret (.str (Str.ofString "Z") u))) { s with heap := h', toks := tk }) :
    codeAny (model prg w) A (.call (.ref 56) ⟨[.int 26 u0], []⟩) R s := by
  obtain ⟨hd0, dp0, fs0, gs0, un0⟩ := A
  obtain rfl : hd0 = none := hh
  dsimp only at hroom hu
  walk_at "my fill"
  refine' enter_ (binds := [(Str.ofString "col_idx", .int 26 u0)]) X T ?k8 ?k6 ?k7 ?k9 ?kB ?_ ?c2 ?c3 ?c4 ?c5
  walk_at "my entered"
  k_steps
  all_goals (first | exact h _ _ _ (Fr.keep (by assumption)))
theorem glet_27 {w : World} {A : Around} {s : Shared} {p : Program} {loose : List Str} {mg mb : Str → Option Value} {R : Result → Shared → Prop} {u0 : Tok}
    (X : (hd.heap_39 w.params).In s.heap) (T : TopRead p loose mg mb s.heap) (hh : A.handled = none) (hroom : A.depth < 900) (hu : A.units < 9000) 
    (h : ∀ u h' tk, Ext s.heap h' → R (.ok (.ret (.str (Str.ofString "AA") u))) { s with heap := h', toks := tk }) :
    codeAny (model prg w) A (.call (.ref 56) ⟨[.int 27 u0], []⟩) R s := by
  obtain ⟨hd0, dp0, fs0, gs0, un0⟩ := A
  obtain rfl : hd0 = none := hh
  dsimp only at hroom hu
  walk_at "my fill"
  refine' enter_ (binds := [(Str.ofString "col_idx", .int 27 u0)]) X T ?k8 ?k6 ?k7 ?k9 ?kB ?_ ?c2 ?c3 ?c4 ?c5
  walk_at "my entered"
  k_steps
  all_goals (first | exact h _ _ _ (Fr.keep (by assumption)))
theorem glet_28 {w : World} {A : Around} {s : Shared} {p : Program} {loose : List Str} {mg mb : Str → Option Value} {R : Result → Shared → Prop} {u0 : Tok}
    (X : (hd.heap_39 w.params).In s.heap) (T : TopRead p loose mg mb s.heap) (hh : A.handled = none) (hroom : A.depth < 900) (hu : A.units < 9000) 
    (h : ∀ u h' tk, Ext s.heap h' → R (.ok (.ret (.str (Str.ofString "AB") u))) { s with heap := h', toks := tk }) :
    codeAny (model prg w) A (.call (.ref 56) ⟨[.int 28 u0], []⟩) R s := by
  obtain ⟨hd0, dp0, fs0, gs0, un0⟩ := A
  obtain rfl : hd0 = none := hh
  dsimp only at hroom hu
  walk_at "my fill"
  refine' enter_ (binds := [(Str.ofString "col_idx", .int 28 u0)]) X T ?k8 ?k6 ?k7 ?k9 ?kB ?_ ?c2 ?c3 ?c4 ?c5
  walk_at "my entered"
  k_steps
  all_goals (first | exact h _ _ _ (Fr.keep (by assumption)))
theorem glet_29 {w : World} {A : Around} {s : Shared} {p : Program} {loose : List Str} {mg mb : Str → Option Value} {R : Result → Shared → Prop} {u0 : Tok}
    (X : (hd.heap_39 w.params).In s.heap) (T : TopRead p loose mg mb s.heap) (hh : A.handled = none) (hroom : A.depth < 900) (hu : A.units < 9000) 
    (h : ∀ u h' tk, Ext s.heap h' → R (.ok (.ret (.str (Str.ofString "AC") u))) { s with heap := h', toks := tk }) :
    codeAny (model prg w) A (.call (.ref 56) ⟨[.int 29 u0], []⟩) R s := by
  obtain ⟨hd0, dp0, fs0, gs0, un0⟩ := A
  obtain rfl : hd0 = none := hh
  dsimp only at hroom hu
  walk_at "my fill"
  refine' enter_ (binds := [(Str.ofString "col_idx", .int 29 u0)]) X T ?k8 ?k6 ?k7 ?k9 ?kB ?_ ?c2 ?c3 ?c4 ?c5
  walk_at "my entered"
  k_steps
  all_goals (first | exact h _ _ _ (Fr.keep (by assumption)))
theorem glet_c {w : World} {A : Around} {s : Shared} {p : Program} {loose : List Str} {mg mb : Str → Option Value} {R : Result → Shared → Prop} {u0 : Tok} {n : Int}
    (X : (hd.heap_39 w.params).In s.heap) (T : TopRead p loose mg mb s.heap) (hh : A.handled = none) (hroom : A.depth < 900) (hu : A.units < 9000) (q1 : 24 ≤ n) (q2 : n ≤ 29)
    (h : ∀ x u h' tk, x.length ≤ 2 → Ext s.heap h' → R (.ok (.ret (.str x u))) { s with heap := h', toks := tk }) :
    codeAny (model prg w) A (.call (.ref 56) ⟨[.int n u0], []⟩) R s := by
  rcases (by omega : n = 24 ∨ n = 25 ∨ n = 26 ∨ n = 27 ∨ n = 28 ∨ n = 29) with rfl | rfl | rfl | rfl | rfl | rfl
  · exact glet_24 X T hh hroom hu (fun u h' tk hE => h _ u h' tk (by decide) hE)
  · exact glet_25 X T hh hroom hu (fun u h' tk hE => h _ u h' tk (by decide) hE)
  · exact glet_26 X T hh hroom hu (fun u h' tk hE => h _ u h' tk (by decide) hE)
  · exact glet_27 X T hh hroom hu (fun u h' tk hE => h _ u h' tk (by decide) hE)
  · exact glet_28 X T hh hroom hu (fun u h' tk hE => h _ u h' tk (by decide) hE)
  · exact glet_29 X T hh hroom hu (fun u h' tk hE => h _ u h' tk (by decide) hE)

end
-- part P21
section
local macro_rules | `(tactic| walk_at "my pad 0") => `(tactic| skip)

local macro_rules | `(tactic| walk_at "call ref") => `(tactic| (k_here; (with_reducible show wpAny _ _ (call (Value.ref 56) [Value.int _ _] []) _ _ _); (refine wpAny_call ?_); k_dflt (refine' glet_c ?X ?T ?hh ?hr ?hu ?q1 ?q2 ?_; (case X => walk_at "my xin"); (case T => walk_at "my top"); (case hh => exact rfl); (case hr => k_room); (case hu => k_units); (case q1 => omega); (case q2 => omega); k_whole; intro z' u' h' tk' hz' hE'; walk_at "my after")))
theorem row_len {n : Int} (h1 : 1 ≤ n) (h2 : n ≤ 5) : (Str.ofString (toString n)).length ≤ 1 := by
  rcases (by omega : n = 1 ∨ n = 2 ∨ n = 3 ∨ n = 4 ∨ n = 5) with rfl | rfl | rfl | rfl | rfl <;> decide +kernel
theorem coord_c {w : World} {A : Around} {s : Shared} {p : Program} {loose : List Str} {mg mb : Str → Option Value} {R : Result → Shared → Prop} {x : Addr} {l t r f : Int}
    (X : (hd.heap_39 w.params).In s.heap) (T : TopRead p loose mg mb s.heap) (hh : A.handled = none) (hroom : A.depth < 890) (hu : A.units < 8900) (hx : RangeAt w.params s.heap x l t r f) (q1 : 24 ≤ l) (q2 : l ≤ r) (q3 : r ≤ 29) (q4 : 1 ≤ t) (q5 : t ≤ f) (q6 : f ≤ 5)
    (h : ∀ z u h' tk, z.length ≤ 100 → Ext s.heap h' → R (.ok (.ret (.str z u))) { s with heap := h', toks := tk }) :
    codeAny (model prg w) A (.call (.ref 171) ⟨[.ref x], []⟩) R s := by
  have hx0 := hx
  obtain ⟨dx, kx, ux, hx1, hx2⟩ := hx0
  have w1 := row_len q4 (Int.le_trans q5 q6)
  have w2 := row_len (Int.le_trans q4 q5) q6
  obtain ⟨hd0, dp0, fs0, gs0, un0⟩ := A
  obtain rfl : hd0 = none := hh
  dsimp only at hroom hu
  walk_at "my fill"
  refine' enter_ (binds := [(Str.ofString "self", .ref x)]) X T ?k8 ?k6 ?k7 ?k9 ?kB ?_ ?c2 ?c3 ?c4 ?c5
  walk_at "my entered"
  k_steps
  all_goals exact h _ _ _ _ (by simp only [PySem.Str.length_append, show PySem.Str.empty.length = 0 from rfl, show (Str.ofString ":").length = 1 by decide]; omega) (Fr.keep (by assumption))
local macro_rules | `(tactic| walk_at "getAttr ref") => `(tactic| (k_here; (with_reducible show wpAny _ _ (getAttr (Value.ref _) (PySem.Str.ofString "coord") _) _ _ _); k_dflt (refine' get_prop ?k1 ?k2 ?k3 ?k4 ?k5 ?k6 ?k7 ?k8 ?k9 ?_; (case k1 => k_asm); (case k2 => k_asm); (case k3 => k_inst); (case k4 => k_is); (case k5 => k_is); (case k6 => k_is); (case k7 => k_is); (case k8 => k_is); (case k9 => k_is); k_whole); (refine' coord_c ?X ?T ?hh ?hr ?hu ?hx ?q1 ?q2 ?q3 ?q4 ?q5 ?q6 ?_; (case X => walk_at "my xin"); (case T => walk_at "my top"); (case hh => exact rfl); (case hr => k_room); (case hu => k_units); (case hx => walk_at "my rg"); (case q1 => omega); (case q2 => omega); (case q3 => omega); (case q4 => omega); (case q5 => omega); (case q6 => omega); k_whole; intro z' u' h' tk' hz' hE'; walk_at "my after"); (try dsimp only)))
theorem str_c {w : World} {A : Around} {s : Shared} {p : Program} {loose : List Str} {mg mb : Str → Option Value} {R : Result → Shared → Prop} {x : Addr} {l t r f : Int}
    (X : (hd.heap_39 w.params).In s.heap) (T : TopRead p loose mg mb s.heap) (hh : A.handled = none) (hroom : A.depth < 880) (hu : A.units < 8800) (hx : RangeAt w.params s.heap x l t r f) (q1 : 24 ≤ l) (q2 : l ≤ r) (q3 : r ≤ 29) (q4 : 1 ≤ t) (q5 : t ≤ f) (q6 : f ≤ 5)
    (h : ∀ z u h' tk, z.length ≤ 100 → Ext s.heap h' → R (.ok (.ret (.str z u))) { s with heap := h', toks := tk }) :
    codeAny (model prg w) A (.call (.ref 213) ⟨[.ref x], []⟩) R s := by
  have hx0 := hx
  obtain ⟨dx, kx, ux, hx1, hx2⟩ := hx0
  obtain ⟨hd0, dp0, fs0, gs0, un0⟩ := A
  obtain rfl : hd0 = none := hh
  dsimp only at hroom hu
  walk_at "my fill"
  refine' enter_ (binds := [(Str.ofString "self", .ref x)]) X T ?k8 ?k6 ?k7 ?k9 ?kB ?_ ?c2 ?c3 ?c4 ?c5
  walk_at "my entered"
  k_steps
  all_goals exact h _ _ _ _ (by assumption) (Fr.keep (by assumption))

end
-- part P22
section

open Builtin Builtin.Str in
theorem fo_obj {w : World} {A : Around} {E : Value → Shared → Prop} {s : Shared} {K : Frag} {x C : Addr} {ox : Obj} {od : Option Obj} {Q : Value → Shared → Prop} (X : K.In s.heap) (I : InstAt s.heap x ox C od)
    (hfm : findIn K (.ref C) "__format__" = some (some (.builtin "object.__format__"))) (hm : mroIn K C (.type "object") = some true)
    (h : wpAny (model prg w) A.in1 (pyStrObj (.ref x)) (fun v s' => ∃ y t, v = .str y t ∧ Q v s') E { s with toks := s.toks + 1 }) : wpAny (model prg w) A (PySem.Builtin.Str.formatOf (.ref x) PySem.Str.empty) Q E s := by
  unfold PySem.Builtin.Str.formatOf
  refine wpAny_ite (KPc.ite_no Bool.false_ne_true ?_)
  refine wpAny_bind (wpAny_mkStr ?_ (by decide))
  refine wpAny_bind (m := callSpecial? (.ref x) (PySem.Str.ofString "__format__") [.str PySem.Str.empty s.toks]) (kfo_special (s := { s with toks := s.toks + 1 }) X I hfm PySem.F.slot_object_format.bind ?_)
  refine wpAny_call (codeAny_call_builtin PySem.F.slot_object_format.plain PySem.F.entry_object_format (kfo_check (i := "object.__format__") (owner := "object") (n := "__format__") (by decide +kernel) (by decide +kernel) (I.type.andThen (looks_mroIn X hm)) (PySem.F.args_object_format_2 _ _) ?_))
  show wpAny _ _ (do let _shown ← PySem.typeNameOf (Value.str PySem.Str.empty s.toks); (do ret (← pyStrObj (Value.ref x)))) _ _ _
  refine wpAny_bind (PySem.wpAny_typeNameOf (T := "str") (typeIs_str _ _ _) (by decide) fun _ => ?_)
  refine wpAny_bind (wpAny_mono h (fun r s₁ h₁ => ?_) fun _ _ e => e)
  obtain ⟨y, t, rfl, hq⟩ := h₁
  refine wpAny_pure ?_
  refine wpAny_bind (wpAny_of_eq (a := some y) rfl ?_)
  refine wpAny_ite (KPc.ite_no Bool.false_ne_true ?_)
  exact wpAny_pure hq
open Builtin Builtin.Str in
theorem fmt_two {w : World} {A : Around} {E : Value → Shared → Prop} {s : Shared} {x y : Addr} {t : Tok} {Q : Value → Shared → Prop}
    (hf : ∀ (s' : Shared) (Q' : Value → Shared → Prop) (E' : Value → Shared → Prop), Ext s.heap s'.heap → (∀ z u h' tk, z.length ≤ 100 → Ext s'.heap h' → Q' (.str z u) { s' with heap := h', toks := tk }) → wpAny (model prg w) A.in1 (PySem.Builtin.Str.formatOf (.ref x) PySem.Str.empty) Q' E' s')
    (h : ∀ z u h' tk, Ext s.heap h' → Q (.str z u) { s with heap := h', toks := tk }) :
    wpAny (model prg w) A (call (.builtin "str.format") [.str ⟨#[82, 97, 110, 103, 101, 32, 123, 48, 125, 32, 100, 111, 101, 115, 110, 39, 116, 32, 105, 110, 116, 101, 114, 115, 101, 99, 116, 32, 123, 48, 125]⟩ t, .ref x, .ref y]) Q E s := by
  refine wpAny_call (codeAny_call_builtin F.slot_str_format_m.plain F.entry_str_format_m (F.slot_str_format_m.check _ _ _ _ _ _ _ _ (typeIs_str s _ _) (KFm.args_3 _ _ _) ?_))
  unfold Builtin.«str.format»
  refine wpAny_bind (wpAny_of_eq (a := (_, _, _)) rfl ?_)
  refine wpAny_bind ?_
  unfold Builtin.Str.buildString
  refine wpAny_bind ?_
  rw [KPc.range_list]
  refine KFm.start ?_
  intro _ _
  refine KPc.turn ?_
  kpc_if
  kpc_check
  refine wpAny_bind (Mine.field_zero (Or.inl rfl) (by rfl) ?_)
  refine wpAny_bind (wpAny_holding (wpAny_of_eq (a := _) rfl ?_))
  kpc_if
  refine wpAny_bind (wpAny_pure ?_)
  refine wpAny_bind (wpAny_holding (hf _ _ _ (Ext.refl _) fun z1 u1 h1 tk1 hz1 e1 => ?_))
  refine wpAny_bind (wpAny_of_eq (a := some _) rfl ?_)
  refine wpAny_pure ?_
  refine KFm.after_field (by kpc_g) (by kpc_text) (by kpc_obj) (K := 100) hz1 (by kpc_obj) (by kfm_cat2) (by kfm_rest) ?_
  intro _ _
  refine KPc.turn ?_
  kpc_if
  kpc_check
  refine wpAny_bind (Mine.field_zero (Or.inr rfl) (by rfl) ?_)
  refine wpAny_bind (wpAny_holding (wpAny_of_eq (a := _) rfl ?_))
  kpc_if
  refine wpAny_bind (wpAny_pure ?_)
  refine wpAny_bind (wpAny_holding (hf _ _ _ e1 fun z2 u2 h2 tk2 hz2 e2 => ?_))
  refine wpAny_bind (wpAny_of_eq (a := some _) rfl ?_)
  refine wpAny_pure ?_
  refine KFm.after_field (by kpc_g) (by kpc_text) (by kpc_obj) (K := 100) hz2 (by kpc_obj) (by kfm_cat2) (by kfm_rest) ?_
  intro _ _
  refine KPc.turn ?_
  kpc_if
  refine wpAny_pure ?_
  refine wpAny_pure ?_
  refine KPc.finish_ok (by kpc_g) (by decide +kernel) rfl ?_
  intro t' k
  exact h _ _ _ _ (e1.trans e2)

end
-- part P23
section

local macro_rules | `(tactic| walk_at "call ref") => `(tactic| (k_here; (with_reducible show wpAny _ _ (call (Value.ref 199) [Value.ref _, Value.ref _] []) _ _ _); (refine wpAny_call ?_); k_dflt (refine' title_c ?X ?T ?hh ?hr ?hu ?hx ?hy ?_; (case X => walk_at "my xin"); (case T => walk_at "my top"); (case hh => exact rfl); (case hr => k_room); (case hu => k_units); (case hx => walk_at "my rg"); (case hy => walk_at "my rg"); k_whole; intro h' tk' hE'; walk_at "my after")))
local macro_rules | `(tactic| walk_at "call ref") => `(tactic| (k_here; (with_reducible show wpAny _ _ (call (Value.ref 256) [Value.ref _, Value.ref _] []) _ _ _); (refine wpAny_call ?_); k_dflt (refine' sup_c ?X ?T ?hh ?hr ?hu ?hx ?hy ?_; (case X => walk_at "my xin"); (case T => walk_at "my top"); (case hh => exact rfl); (case hr => k_room); (case hu => k_units); (case hx => walk_at "my rg"); (case hy => walk_at "my rg"); k_whole; intro h' tk' hE'; walk_at "my after")))
local macro_rules | `(tactic| walk_at "call ref") => `(tactic| (k_here; (with_reducible show wpAny _ _ (call (Value.ref 228) [Value.ref _, Value.ref _] []) _ _ _); (refine wpAny_call ?_); k_dflt (refine' ne_c ?X ?T ?hh ?hr ?hu ?hx ?hy ?_; (case X => walk_at "my xin"); (case T => walk_at "my top"); (case hh => exact rfl); (case hr => k_room); (case hu => k_units); (case hx => walk_at "my rg"); (case hy => walk_at "my rg"); k_whole; intro h' tk' hE'; walk_at "my after")))
local macro_rules | `(tactic| walk_at "call ref") => `(tactic| (k_here; (with_reducible show wpAny _ _ (call (Value.ref 235) [Value.ref _, Value.ref _] []) _ _ _); (refine wpAny_call ?_); k_dflt (refine' eq_c ?X ?T ?hh ?hr ?hu ?hx ?hy ?_; (case X => walk_at "my xin"); (case T => walk_at "my top"); (case hh => exact rfl); (case hr => k_room); (case hu => k_units); (case hx => walk_at "my rg"); (case hy => walk_at "my rg"); k_whole; intro h' tk' hE'; walk_at "my after")))
local macro_rules | `(tactic| walk_at "call ref") => `(tactic| (k_here; (with_reducible show wpAny _ _ (call (Value.ref 242) [Value.ref _, Value.ref _] []) _ _ _); (refine wpAny_call ?_); k_dflt (refine' subset_c ?X ?T ?hh ?hr ?hu ?hx ?hy ?_; (case X => walk_at "my xin"); (case T => walk_at "my top"); (case hh => exact rfl); (case hr => k_room); (case hu => k_units); (case hx => walk_at "my rg"); (case hy => walk_at "my rg"); k_whole; intro h' tk' hE'; walk_at "my after")))
local macro_rules | `(tactic| walk_at "call ref") => `(tactic| (k_here; (with_reducible show wpAny _ _ (call (Value.ref 263) [Value.ref _, Value.ref _] []) _ _ _); (refine wpAny_call ?_); k_dflt (refine' superset_c ?X ?T ?hh ?hr ?hu ?hx ?hy ?_; (case X => walk_at "my xin"); (case T => walk_at "my top"); (case hh => exact rfl); (case hr => k_room); (case hu => k_units); (case hx => walk_at "my rg"); (case hy => walk_at "my rg"); k_whole; intro h' tk' hE'; walk_at "my after")))
local macro_rules | `(tactic| walk_at "call ref") => `(tactic| (k_here; (with_reducible show wpAny _ _ (call (Value.ref 249) [Value.ref _, Value.ref _] []) _ _ _); (refine wpAny_call ?_); k_dflt (refine' lt_c ?X ?T ?hh ?hr ?hu ?hx ?hy ?_; (case X => walk_at "my xin"); (case T => walk_at "my top"); (case hh => exact rfl); (case hr => k_room); (case hu => k_units); (case hx => walk_at "my rg"); (case hy => walk_at "my rg"); k_whole; intro h' tk' hE'; walk_at "my after")))
local macro_rules | `(tactic| walk_at "call ref") => `(tactic| (k_here; (with_reducible show wpAny _ _ (call (Value.ref 277) [Value.ref _, Value.ref _] []) _ _ _); (refine wpAny_call ?_); k_dflt (refine' gt_c ?X ?T ?hh ?hr ?hu ?hx ?hy ?_; (case X => walk_at "my xin"); (case T => walk_at "my top"); (case hh => exact rfl); (case hr => k_room); (case hu => k_units); (case hx => walk_at "my rg"); (case hy => walk_at "my rg"); k_whole; intro h' tk' hE'; walk_at "my after")))
local macro_rules | `(tactic| walk_at "call ref") => `(tactic| (k_here; (with_reducible show wpAny _ _ (call (Value.ref 199) [Value.ref _, Value.ref _] []) _ _ _); (refine wpAny_call ?_); k_dflt (refine' title_c ?X ?T ?hh ?hr ?hu ?hx ?hy ?_; (case X => walk_at "my xin"); (case T => walk_at "my top"); (case hh => exact rfl); (case hr => k_room); (case hu => k_units); (case hx => walk_at "my rg"); (case hy => walk_at "my rg"); k_whole; intro h' tk' hE'; walk_at "my after")))
local macro_rules | `(tactic| walk_at "call ref") => `(tactic| (k_here; (with_reducible show wpAny _ _ (call (Value.ref 256) [Value.ref _, Value.ref _] []) _ _ _); (refine wpAny_call ?_); k_dflt (refine' sup_c ?X ?T ?hh ?hr ?hu ?hx ?hy ?_; (case X => walk_at "my xin"); (case T => walk_at "my top"); (case hh => exact rfl); (case hr => k_room); (case hu => k_units); (case hx => walk_at "my rg"); (case hy => walk_at "my rg"); k_whole; intro h' tk' hE'; walk_at "my after")))
local macro_rules | `(tactic| walk_at "call ref") => `(tactic| (k_here; (with_reducible show wpAny _ _ (call (Value.ref 228) [Value.ref _, Value.ref _] []) _ _ _); (refine wpAny_call ?_); k_dflt (refine' ne_c ?X ?T ?hh ?hr ?hu ?hx ?hy ?_; (case X => walk_at "my xin"); (case T => walk_at "my top"); (case hh => exact rfl); (case hr => k_room); (case hu => k_units); (case hx => walk_at "my rg"); (case hy => walk_at "my rg"); k_whole; intro h' tk' hE'; walk_at "my after")))
local macro_rules | `(tactic| walk_at "call ref") => `(tactic| (k_here; (with_reducible show wpAny _ _ (call (Value.ref 235) [Value.ref _, Value.ref _] []) _ _ _); (refine wpAny_call ?_); k_dflt (refine' eq_c ?X ?T ?hh ?hr ?hu ?hx ?hy ?_; (case X => walk_at "my xin"); (case T => walk_at "my top"); (case hh => exact rfl); (case hr => k_room); (case hu => k_units); (case hx => walk_at "my rg"); (case hy => walk_at "my rg"); k_whole; intro h' tk' hE'; walk_at "my after")))
local macro_rules | `(tactic| walk_at "call ref") => `(tactic| (k_here; (with_reducible show wpAny _ _ (call (Value.ref 242) [Value.ref _, Value.ref _] []) _ _ _); (refine wpAny_call ?_); k_dflt (refine' subset_c ?X ?T ?hh ?hr ?hu ?hx ?hy ?_; (case X => walk_at "my xin"); (case T => walk_at "my top"); (case hh => exact rfl); (case hr => k_room); (case hu => k_units); (case hx => walk_at "my rg"); (case hy => walk_at "my rg"); k_whole; intro h' tk' hE'; walk_at "my after")))
local macro_rules | `(tactic| walk_at "call ref") => `(tactic| (k_here; (with_reducible show wpAny _ _ (call (Value.ref 263) [Value.ref _, Value.ref _] []) _ _ _); (refine wpAny_call ?_); k_dflt (refine' superset_c ?X ?T ?hh ?hr ?hu ?hx ?hy ?_; (case X => walk_at "my xin"); (case T => walk_at "my top"); (case hh => exact rfl); (case hr => k_room); (case hu => k_units); (case hx => walk_at "my rg"); (case hy => walk_at "my rg"); k_whole; intro h' tk' hE'; walk_at "my after")))
local macro_rules | `(tactic| walk_at "call ref") => `(tactic| (k_here; (with_reducible show wpAny _ _ (call (Value.ref 249) [Value.ref _, Value.ref _] []) _ _ _); (refine wpAny_call ?_); k_dflt (refine' lt_c ?X ?T ?hh ?hr ?hu ?hx ?hy ?_; (case X => walk_at "my xin"); (case T => walk_at "my top"); (case hh => exact rfl); (case hr => k_room); (case hu => k_units); (case hx => walk_at "my rg"); (case hy => walk_at "my rg"); k_whole; intro h' tk' hE'; walk_at "my after")))
local macro_rules | `(tactic| walk_at "call ref") => `(tactic| (k_here; (with_reducible show wpAny _ _ (call (Value.ref 277) [Value.ref _, Value.ref _] []) _ _ _); (refine wpAny_call ?_); k_dflt (refine' gt_c ?X ?T ?hh ?hr ?hu ?hx ?hy ?_; (case X => walk_at "my xin"); (case T => walk_at "my top"); (case hh => exact rfl); (case hr => k_room); (case hu => k_units); (case hx => walk_at "my rg"); (case hy => walk_at "my rg"); k_whole; intro h' tk' hE'; walk_at "my after")))
local macro_rules | `(tactic| walk_at "getAttr ref") => `(tactic| (k_here; (with_reducible show wpAny _ _ (getAttr (Value.ref _) (PySem.Str.ofString "bounds") _) _ _ _); k_dflt (refine' get_prop ?k1 ?k2 ?k3 ?k4 ?k5 ?k6 ?k7 ?k8 ?k9 ?_; (case k1 => k_asm); (case k2 => k_asm); (case k3 => k_inst); (case k4 => k_is); (case k5 => k_is); (case k6 => k_is); (case k7 => k_is); (case k8 => k_is); (case k9 => k_is); k_whole); k_dflt (refine' bounds_c ?X ?T ?hh ?hr ?hu ?hx ?_; (case X => walk_at "my xin"); (case T => walk_at "my top"); (case hh => exact rfl); (case hr => k_room); (case hu => k_units); (case hx => walk_at "my rg"); k_whole; intro a' u' h' tk' hE' hM'; walk_at "my after made"); (try dsimp only)))
local macro_rules | `(tactic| walk_at "call ref") => `(tactic| (k_here; (with_reducible show wpAny _ _ (call (Value.ref 284) [Value.ref _, Value.ref _] []) _ _ _); (refine wpAny_call ?_); k_dflt (refine' disjoint_c ?X ?T ?hh ?hr ?hu ?hx ?hy ?q1 ?q2 ?q3 ?q4 ?_; (case X => walk_at "my xin"); (case T => walk_at "my top"); (case hh => exact rfl); (case hr => k_room); (case hu => k_units); (case hx => walk_at "my rg"); (case hy => walk_at "my rg"); (case q1 => omega); (case q2 => omega); (case q3 => omega); (case q4 => omega); k_whole; intro h' tk' hE'; walk_at "my after")))
theorem fmt_range {w : World} {A : Around} {E : Value → Shared → Prop} {s : Shared} {p : Program} {loose : List Str} {mg mb : Str → Option Value} {x y : Addr} {t0 : Tok} {l t r f : Int} {Q : Value → Shared → Prop}
    (X : (hd.heap_39 w.params).In s.heap) (T : TopRead p loose mg mb s.heap) (hh : A.handled = none) (hroom : A.depth < 880) (hu : A.units < 8790) (hx : RangeAt w.params s.heap x l t r f) (q1 : 24 ≤ l) (q2 : l ≤ r) (q3 : r ≤ 29) (q4 : 1 ≤ t) (q5 : t ≤ f) (q6 : f ≤ 5)
    (h : ∀ z u h' tk, Ext s.heap h' → Q (.str z u) { s with heap := h', toks := tk }) :
    wpAny (model prg w) A (call (.builtin "str.format") [.str (Str.ofString "Range {0} doesn't intersect {0}") t0, .ref x, .ref y]) Q E s := by
  have kfill : (PySem.Challenge.rw_aa5019_01, Mine.hd.heap_39) = (PySem.Challenge.rw_aa5019_01, Mine.hd.heap_39) := by { k_fill; rfl }
  clear kfill
  have e0 : Str.ofString "Range {0} doesn't intersect {0}" = ⟨#[82, 97, 110, 103, 101, 32, 123, 48, 125, 32, 100, 111, 101, 115, 110, 39, 116, 32, 105, 110, 116, 101, 114, 115, 101, 99, 116, 32, 123, 48, 125]⟩ := by decide +kernel
  rw [e0]
  refine fmt_two (fun s' Q' E' hE hq => ?_) h
  obtain ⟨dx, k, u, h1, h2⟩ := hx
  have I : InstAt s'.heap x ⟨.ref 349, some dx, .plain, #[]⟩ 349 (some (rangeDict w.params k u l t r f)) := instAt_of (hE _ _ h1) (hE _ _ h2)
  have X' := X.keeps hE
  refine fo_obj X' I (by k_dflt k_is) (by k_dflt k_is) (kfo_str (f := 213) (by k_units) (s := { s' with toks := s'.toks + 1 }) X' I (by k_dflt k_is) (by k_dflt k_is) ?_)
  refine wpAny_call ?_
  refine str_c (s := { s' with toks := s'.toks + 1 }) X' (T.keeps hE) hh (by simp only [depth_in1]; omega) (by k_units) ⟨dx, k, u, hE _ _ h1, hE _ _ h2⟩ q1 q2 q3 q4 q5 q6 fun z u h' tk hz hE' => ?_
  exact ⟨_, _, rfl, hq z u h' tk hz hE'⟩
local macro_rules | `(tactic| walk_at "call builtin:str.format") => `(tactic| (k_here; k_dflt (refine' fmt_range ?X ?T ?hh ?hr ?hu ?hx ?q1 ?q2 ?q3 ?q4 ?q5 ?q6 ?_; (case X => walk_at "my xin"); (case T => walk_at "my top"); (case hh => exact rfl); (case hr => k_room); (case hu => k_units); (case hx => walk_at "my rg"); (case q1 => omega); (case q2 => omega); (case q3 => omega); (case q4 => omega); (case q5 => omega); (case q6 => omega); k_whole; intro z' u' h' tk' hE'; walk_at "my after")))
theorem inter_raise {w : World} {A : Around} {s : Shared} {p : Program} {loose : List Str} {mg mb : Str → Option Value} {R : Result → Shared → Prop} {x y : Addr} {l t r f l' t' r' f' : Int} {base : Heap} {outer : List Env}
    (X : (hd.heap_39 w.params).In s.heap) (T : TopRead p loose mg mb s.heap) (hh : A.handled = none) (hroom : A.depth < 860) (hu : A.units < 8600) (hx : RangeAt w.params s.heap x l t r f) (hy : RangeAt w.params s.heap y l' t' r' f') (B : Below A base outer s.heap) (q1 : 24 ≤ l) (hl : l ≤ r) (q3 : r ≤ 29) (q4 : 1 ≤ t) (ht : t ≤ f) (q6 : f ≤ 5) (hl' : l' ≤ r') (ht' : t' ≤ f') (hdis : ¬ (l ≤ r' ∧ l' ≤ r ∧ t ≤ f' ∧ t' ≤ f))
    (h : ∀ e h' tk, RaisedN base outer e (.type "ValueError") [] h' → s.heap.UpToSlots h' → R (.error (.ref e)) { s with heap := h', toks := tk }) :
    codeAny (model prg w) A (.call (.ref 291) ⟨[.ref x, .ref y], []⟩) R s := by
  have hx0 := hx
  obtain ⟨dx, kx, ux, hx1, hx2⟩ := hx0
  have hy0 := hy
  obtain ⟨dy, ky, uy, hy1, hy2⟩ := hy0
  obtain ⟨hd0, dp0, fs0, gs0, un0⟩ := A
  obtain rfl : hd0 = none := hh
  dsimp only at hroom hu
  walk_at "my fill"
  refine' enter_ (binds := [(Str.ofString "self", .ref x), (Str.ofString "other", .ref y)]) X T ?k8 ?k6 ?k7 ?k9 ?kB ?_ ?c2 ?c3 ?c4 ?c5
  walk_at "my entered"
  k_steps
  all_goals exact h _ _ _ (by assumption) (by assumption)

end
-- part P24
section
theorem below_hide {A : Around} {base g h : Heap} {outer : List Env} {L a : Addr} {m : Str → Option Value} {name : Str} {scope : Scope} {cd : Value} (B : Below A base outer g) (F : Fr g L h m) (hk : scope.kind = .function) :
    Below (A.deeper (envOf name scope L a cd)) (hideAll h ((envOf name scope L a cd :: outer).filterMap (·.frame))) (envOf name scope L a cd :: outer) h := by
  have B' := B.push (name := name) (a := a) (cd := cd) F hk
  exact ⟨B'.stack, fun b o e => of_hideAll _ e, funFrames_hide B'.frames fun env he b hb => List.mem_filterMap.mpr ⟨env, he, hb⟩⟩
theorem caught_own {w : World} {A₀ : Around} {E : Value → Shared → Prop} {s' : Shared} {base g h : Heap} {outer : List Env} {L a e : Addr} {m : Str → Option Value} {name : Str} {scope : Scope} {cd : Value} {K : Frag}
    {b₀ : Stmt} {suite : List Stmt} {pos np : Pos} {rest : List ExceptHandler} {Q : Flow → Shared → Prop} {news : List (Addr × Obj)} {p : Program} {loose : List Str} {mg mb : Str → Option Value}
    (hst : A₀.frames = some outer) (F : Fr g L h m) (R : RaisedN base (envOf name scope L a cd :: outer) e (.type "ValueError") news s'.heap) (hb : Ext g base) (hsm : h.UpToSlots s'.heap)
    (X : K.In g) (T : TopRead p loose mg mb g) (ex : nsIn K mainGlobals (Str.ofString "ValueError") = some none)
    (k : ∀ h', Fr g L h' m → base.StaysIn h' → h.UpToSlots h' → wpAny (model prg w) ((A₀.deeper (envOf name scope L a cd)).mark (some (.ref e))) (execs (b₀ :: suite) (envOf name scope L a cd)) Q E { s' with heap := h' })
    (hk : scope.kind = .function) (hx : (envOf name scope L a cd).kindOf (Str.ofString "ValueError") = some .globalImplicit)
    (hE : PassesOwnAt (model prg w) ((A₀.deeper (envOf name scope L a cd)).mark (some (.ref e))) (A₀.deeper (envOf name scope L a cd)) (envOf name scope L a cd) E) :
    wpAny (model prg w) (A₀.deeper (envOf name scope L a cd)) (noteFrame (.ref e) (envOf name scope L a cd))
      (fun _ s₂ => wpAny (model prg w) (A₀.deeper (envOf name scope L a cd)) (setFlight (.ref e) none) (fun _ s₃ =>
        wpAny (model prg w) (A₀.deeper (envOf name scope L a cd)) (handleBy (.ref e) (envOf name scope L a cd) (.ExceptHandler (some (.Name (Str.ofString "ValueError") np)) none (b₀ :: suite) pos :: rest)) Q E s₃) E s₂) E s' := by
  obtain ⟨B, a0, hB, _, fl⟩ := R
  have stay : ∀ {h1 : Heap}, B.StaysIn h1 → g.StaysIn h1 := fun k1 b o q => k1 b o (hB b o (hb b o q))
  refine wpAny_looks_onW (Around.frames_deeper hst) rfl fl fun h4 held4 sm4 => wpAny_landsW held4 fun h5 held5 sm5 => ?_
  have sm := hsm.trans (sm4.trans sm5)
  have F5 := F.of_stays (stay held5.1) sm
  obtain ⟨ob, hob, hobc⟩ := held5.there
  refine wpAny_handleBy_builtin (X := "ValueError") (T := "ValueError") (b := true) PySem.F.isExc_ValueError PySem.F.notTuple_ValueError (by rw [isSubtype_type]; kernel_rfl)
    (name_B F5 X T ex PyProof.Rows.Boot.«ValueError» (by decide) ⟨rfl, ⟨ob, hob, hobc⟩, ?_⟩ hk hx (by decide))
  refine lands_againW held5 fun h6 held6 sm6 => ?_
  have sm' := sm.trans sm6
  exact wpAny_passesOwnAt hE (k h6 (F.of_stays (stay held6.1) sm') (fun b o q => held6.1 b o (hB b o q)) sm')
theorem inter2_c {w : World} {A : Around} {s : Shared} {p : Program} {loose : List Str} {mg mb : Str → Option Value} {R : Result → Shared → Prop} {x y : Addr} {l t r f l' t' r' f' : Int} {base : Heap} {outer : List Env}
    (X : (hd.heap_39 w.params).In s.heap) (T : TopRead p loose mg mb s.heap) (hh : A.handled = none) (hroom : A.depth < 860) (hu : A.units < 8600) (hx : RangeAt w.params s.heap x l t r f) (hy : RangeAt w.params s.heap y l' t' r' f') (B : Below A base outer s.heap) (lim1 : Lim l t r f) (lim2 : Lim l' t' r' f')
    (hm : disB l t r f l' t' r' f' = false → ∀ x dx k u h' tk, Ext s.heap h' → Made s.heap h' [(x, instObj 349 dx), (dx, rangeDict w.params k u (max l l') (max t t') (min r r') (min f f'))] → R (.ok (.ret (.ref x))) { s with heap := h', toks := tk })
    (hd' : disB l t r f l' t' r' f' = true → ∀ e h' tk, RaisedN base outer e (.type "ValueError") [] h' → s.heap.UpToSlots h' → R (.error (.ref e)) { s with heap := h', toks := tk }) :
    codeAny (model prg w) A (.call (.ref 291) ⟨[.ref x, .ref y], []⟩) R s := by
  have a := lim1
  have b := lim2
  unfold Lim at a b
  cases e : disB l t r f l' t' r' f' with
  | false =>
    have e' := of_decide_eq_false e
    exact inter_c X T hh hroom hu hx hy (by omega) (by omega) (by omega) (by omega) (by omega) (by omega) (by omega) (by omega) (hm e)
  | true =>
    have e' := of_decide_eq_true e
    exact inter_raise X T hh hroom hu hx hy B (by omega) (by omega) (by omega) (by omega) (by omega) (by omega) (by omega) (by omega) (by omega) (hd' e)
theorem fr_hide {g h : Heap} {L : Addr} {m : Str → Option Value} (as : List Addr) (F : Fr g L h m) : Fr (hideAll g as) L h m := ⟨F.ns, fun b o e => F.keep b o (of_hideAll _ e), by rw [hideAll_size]; exact F.above⟩
theorem hide_ext {g h : Heap} {L : Addr} {m : Str → Option Value} {env : Env} {outer : List Env} (F : Fr g L h m) (hf : env.frame = some L) : Ext (hideAll g (outer.filterMap (·.frame))) (hideAll h ((env :: outer).filterMap (·.frame))) := fun b o e => by
  rw [List.filterMap_cons_some hf]
  have e1 := of_hideAll _ e
  refine hideAll_get _ (F.keep _ _ e1) fun hm => ?_
  rcases List.mem_cons.mp hm with rfl | hm
  · exact absurd (Nat.lt_of_lt_of_le (Heap.lt_size e1) F.above) (Nat.lt_irrefl _)
  · rw [hideAll_none _ hm] at e; cases e
theorem news_nil {g h : Heap} {L : Addr} {m : Str → Option Value} (_ : Fr g L h m) : News g L h [] := News.nil
theorem below_low {A : Around} {base h : Heap} {outer : List Env} (B : Below A base outer h) : Ext base (hideAll h (outer.filterMap (·.frame))) := fun b o e => hideAll_get _ (B.stays b o e) fun hm => by
  rw [(B.frames.mem hm).1] at e; cases e

local macro_rules | `(tactic| walk_at "call ref") => `(tactic| (k_here; (with_reducible show wpAny _ _ (call (Value.ref 199) [Value.ref _, Value.ref _] []) _ _ _); (refine wpAny_call ?_); k_dflt (refine' title_c ?X ?T ?hh ?hr ?hu ?hx ?hy ?_; (case X => walk_at "my xin"); (case T => walk_at "my top"); (case hh => exact rfl); (case hr => k_room); (case hu => k_units); (case hx => walk_at "my rg"); (case hy => walk_at "my rg"); k_whole; intro h' tk' hE'; walk_at "my after")))
local macro_rules | `(tactic| walk_at "call ref") => `(tactic| (k_here; (with_reducible show wpAny _ _ (call (Value.ref 256) [Value.ref _, Value.ref _] []) _ _ _); (refine wpAny_call ?_); k_dflt (refine' sup_c ?X ?T ?hh ?hr ?hu ?hx ?hy ?_; (case X => walk_at "my xin"); (case T => walk_at "my top"); (case hh => exact rfl); (case hr => k_room); (case hu => k_units); (case hx => walk_at "my rg"); (case hy => walk_at "my rg"); k_whole; intro h' tk' hE'; walk_at "my after")))
local macro_rules | `(tactic| walk_at "call ref") => `(tactic| (k_here; (with_reducible show wpAny _ _ (call (Value.ref 228) [Value.ref _, Value.ref _] []) _ _ _); (refine wpAny_call ?_); k_dflt (refine' ne_c ?X ?T ?hh ?hr ?hu ?hx ?hy ?_; (case X => walk_at "my xin"); (case T => walk_at "my top"); (case hh => exact rfl); (case hr => k_room); (case hu => k_units); (case hx => walk_at "my rg"); (case hy => walk_at "my rg"); k_whole; intro h' tk' hE'; walk_at "my after")))
local macro_rules | `(tactic| walk_at "call ref") => `(tactic| (k_here; (with_reducible show wpAny _ _ (call (Value.ref 235) [Value.ref _, Value.ref _] []) _ _ _); (refine wpAny_call ?_); k_dflt (refine' eq_c ?X ?T ?hh ?hr ?hu ?hx ?hy ?_; (case X => walk_at "my xin"); (case T => walk_at "my top"); (case hh => exact rfl); (case hr => k_room); (case hu => k_units); (case hx => walk_at "my rg"); (case hy => walk_at "my rg"); k_whole; intro h' tk' hE'; walk_at "my after")))
local macro_rules | `(tactic| walk_at "call ref") => `(tactic| (k_here; (with_reducible show wpAny _ _ (call (Value.ref 242) [Value.ref _, Value.ref _] []) _ _ _); (refine wpAny_call ?_); k_dflt (refine' subset_c ?X ?T ?hh ?hr ?hu ?hx ?hy ?_; (case X => walk_at "my xin"); (case T => walk_at "my top"); (case hh => exact rfl); (case hr => k_room); (case hu => k_units); (case hx => walk_at "my rg"); (case hy => walk_at "my rg"); k_whole; intro h' tk' hE'; walk_at "my after")))
local macro_rules | `(tactic| walk_at "call ref") => `(tactic| (k_here; (with_reducible show wpAny _ _ (call (Value.ref 263) [Value.ref _, Value.ref _] []) _ _ _); (refine wpAny_call ?_); k_dflt (refine' superset_c ?X ?T ?hh ?hr ?hu ?hx ?hy ?_; (case X => walk_at "my xin"); (case T => walk_at "my top"); (case hh => exact rfl); (case hr => k_room); (case hu => k_units); (case hx => walk_at "my rg"); (case hy => walk_at "my rg"); k_whole; intro h' tk' hE'; walk_at "my after")))
local macro_rules | `(tactic| walk_at "call ref") => `(tactic| (k_here; (with_reducible show wpAny _ _ (call (Value.ref 249) [Value.ref _, Value.ref _] []) _ _ _); (refine wpAny_call ?_); k_dflt (refine' lt_c ?X ?T ?hh ?hr ?hu ?hx ?hy ?_; (case X => walk_at "my xin"); (case T => walk_at "my top"); (case hh => exact rfl); (case hr => k_room); (case hu => k_units); (case hx => walk_at "my rg"); (case hy => walk_at "my rg"); k_whole; intro h' tk' hE'; walk_at "my after")))
local macro_rules | `(tactic| walk_at "call ref") => `(tactic| (k_here; (with_reducible show wpAny _ _ (call (Value.ref 277) [Value.ref _, Value.ref _] []) _ _ _); (refine wpAny_call ?_); k_dflt (refine' gt_c ?X ?T ?hh ?hr ?hu ?hx ?hy ?_; (case X => walk_at "my xin"); (case T => walk_at "my top"); (case hh => exact rfl); (case hr => k_room); (case hu => k_units); (case hx => walk_at "my rg"); (case hy => walk_at "my rg"); k_whole; intro h' tk' hE'; walk_at "my after")))
local macro_rules | `(tactic| walk_at "getAttr ref") => `(tactic| (k_here; (with_reducible show wpAny _ _ (getAttr (Value.ref _) (PySem.Str.ofString "bounds") _) _ _ _); k_dflt (refine' get_prop ?k1 ?k2 ?k3 ?k4 ?k5 ?k6 ?k7 ?k8 ?k9 ?_; (case k1 => k_asm); (case k2 => k_asm); (case k3 => k_inst); (case k4 => k_is); (case k5 => k_is); (case k6 => k_is); (case k7 => k_is); (case k8 => k_is); (case k9 => k_is); k_whole); k_dflt (refine' bounds_c ?X ?T ?hh ?hr ?hu ?hx ?_; (case X => walk_at "my xin"); (case T => walk_at "my top"); (case hh => exact rfl); (case hr => k_room); (case hu => k_units); (case hx => walk_at "my rg"); k_whole; intro a' u' h' tk' hE' hM'; walk_at "my after made"); (try dsimp only)))
local macro_rules | `(tactic| walk_at "call ref") => `(tactic| (k_here; (with_reducible show wpAny _ _ (call (Value.ref 284) [Value.ref _, Value.ref _] []) _ _ _); (refine wpAny_call ?_); k_dflt (refine' disjoint_c ?X ?T ?hh ?hr ?hu ?hx ?hy ?q1 ?q2 ?q3 ?q4 ?_; (case X => walk_at "my xin"); (case T => walk_at "my top"); (case hh => exact rfl); (case hr => k_room); (case hu => k_units); (case hx => walk_at "my rg"); (case hy => walk_at "my rg"); (case q1 => omega); (case q2 => omega); (case q3 => omega); (case q4 => omega); k_whole; intro h' tk' hE'; walk_at "my after")))
local macro_rules | `(tactic| walk_at "my below") => `(tactic| (refine' below_hide ?B ?F ?k; (case B => assumption); (case F => k_asm); (case k => rfl)))
local macro_rules | `(tactic| walk_at "call ref") => `(tactic| (k_here; (with_reducible show wpAny _ _ (call (Value.ref 291) [Value.ref _, Value.ref _] []) _ _ _); (refine wpAny_call ?_); k_dflt (refine' inter2_c ?X ?T ?hh ?hr ?hu ?hx ?hy ?B ?lim1 ?lim2 ?_ ?_; (case X => walk_at "my xin"); (case T => walk_at "my top"); (case hh => exact rfl); (case hr => k_room); (case hu => k_units); (case hx => walk_at "my rg"); (case hy => walk_at "my rg"); (case lim1 => assumption); (case lim2 => assumption); (case B => walk_at "my below"); k_whole; all_goals (intro hdis'; first | (intro x' dx' k' u' h' tk' hE' hM'; walk_at "my after made") | (intro e' h' tk' hR' hU'; (try dsimp only [PySem.W.CmpBack]))))))
theorem both_c {w : World} {A : Around} {s : Shared} {p : Program} {loose : List Str} {mg mb : Str → Option Value} {R : Result → Shared → Prop} {x y : Addr} {l t r f l' t' r' f' : Int} {base : Heap} {outer : List Env} {n : Int} {u0 : Tok}
    (hh : A.handled = none) (hroom : A.depth < 840) (hu : A.units < 8400) (hx : RangeAt w.params s.heap x l t r f) (hy : RangeAt w.params s.heap y l' t' r' f') (XB : (hd.heap_39 w.params).In base) (TB : TopRead p loose mg mb base) (B : Below A base outer s.heap) (lim1 : Lim l t r f) (lim2 : Lim l' t' r' f') (hm : disB l t r f l' t' r' f' = false → ∀ a u h' tk, Ext s.heap h' → Made s.heap h' [(a, blockObj u (max l l') (max t t') (min r r') (min f f'))] → R (.ok (.ret (.ref a))) { s with heap := h', toks := tk })
    (h : disB l t r f l' t' r' f' = true → ∀ h' tk, Ext (hideAll s.heap (outer.filterMap (·.frame))) h' → s.heap.UpToSlots h' → R (.ok (.ret .none)) { s with heap := h', toks := tk }) :
    codeAny (model prg w) A (.call (.ref 417) ⟨[.ref x, .ref y, .int n u0], []⟩) R s := by
  have hx0 := hx
  obtain ⟨dx, kx, ux, hx1, hx2⟩ := hx0
  have hy0 := hy
  obtain ⟨dy, ky, uy, hy1, hy2⟩ := hy0
  have X := XB.keeps B.stays
  have T := TB.keeps B.stays
  obtain ⟨hd0, dp0, fs0, gs0, un0⟩ := A
  obtain rfl : hd0 = none := hh
  dsimp only at hroom hu
  walk_at "my fill"
  refine' enter_ (binds := [(Str.ofString "one", .ref x), (Str.ofString "other", .ref y), (Str.ofString "number", .int n u0)]) X T ?k8 ?k6 ?k7 ?k9 ?kB ?_ ?c2 ?c3 ?c4 ?c5
  walk_at "my entered"
  k_steps
  · rename disB _ _ _ _ _ _ _ _ = false => q1
    exact hm q1 _ _ _ _ (Fr.keep (by assumption)) (made_of_news (by assumption) (fun q hq => by rw [List.mem_singleton.mp hq]; exact List.mem_cons_self ..))
  · rename Fr _ _ _ _ => kF
    rename RaisedN _ _ _ _ _ _ => kR
    rename Heap.UpToSlots _ _ => kU
    have Xq := XB.keeps (below_low B)
    have Tq := TB.keeps (below_low B)
    refine caught_own (g := hideAll s.heap (outer.filterMap (·.frame))) B.stack (fr_hide _ kF) kR (hide_ext kF rfl) kU Xq Tq (by k_dflt k_is) ?_ rfl rfl (by passes_own)
    intro h9 F9 S9 U9
    have kU2 := (Heap.UpToSlots.of_keeps kF.keep).trans U9
    clear kF kR kU S9 U9
    have N9 := news_nil F9
    k_steps
    all_goals exact h (by assumption) _ _ (Fr.keep (by assumption)) kU2
  · rename disB _ _ _ _ _ _ _ _ = false => q1
    exact hm q1 _ _ _ _ (Fr.keep (by assumption)) (made_of_news (by assumption) (fun q hq => by rw [List.mem_singleton.mp hq]; exact List.mem_cons_self ..))
  · rename Fr _ _ _ _ => kF
    rename RaisedN _ _ _ _ _ _ => kR
    rename Heap.UpToSlots _ _ => kU
    have Xq := XB.keeps (below_low B)
    have Tq := TB.keeps (below_low B)
    refine caught_own (g := hideAll s.heap (outer.filterMap (·.frame))) B.stack (fr_hide _ kF) kR (hide_ext kF rfl) kU Xq Tq (by k_dflt k_is) ?_ rfl rfl (by passes_own)
    intro h9 F9 S9 U9
    have kU2 := (Heap.UpToSlots.of_keeps kF.keep).trans U9
    clear kF kR kU S9 U9
    have N9 := news_nil F9
    k_steps
    all_goals exact h (by assumption) _ _ (Fr.keep (by assumption)) kU2

end
-- part PE
section
open SeqAt in
theorem ne_lists_f {w : World} {A : Around} {E : Value → Shared → Prop} {s : Shared} {D1 D2 : Addr} {zs : List Value} {Q : Value → Shared → Prop} (h1 : s.heap.IsList D1 zs.toArray) (h2 : s.heap.IsList D2 zs.toArray) (hz : ∀ v ∈ zs, ∃ b, v = .bool b) (hu : A.units < cLine) (h : Q (.bool false) s) :
    wpAny (model prg w) A (compareOp .NotEq (.ref D1) (.ref D2)) Q E s := by
  have R := RcNeAt.lists (A := A) (e := fun _ => true) h1 h2 rfl hu (fun j a b => by
    obtain ⟨c, e⟩ := hz (zs.toArray[j]) (by simp)
    rw [e]
    have := EqAt.bool_bool (A := A.in1) (s := s) c c
    simpa using this)
  rw [show (!(List.range zs.toArray.size).all fun _ => true) = false by simp] at R
  exact R _ _ _ _ h
theorem ordL_bools (l t r f l' t' r' f' : Int) : ∀ v ∈ ordL l t r f l' t' r' f', ∃ b, v = .bool b := by
  intro v hv
  simp only [ordL, List.mem_cons, List.not_mem_nil, or_false] at hv
  rcases hv with rfl | rfl | rfl | rfl | rfl | rfl | rfl <;> exact ⟨_, rfl⟩
open SeqAt in
theorem ne_tup4 {w : World} {A : Around} {E : Value → Shared → Prop} {s : Shared} {a b : Addr} {l t r f l' t' r' f' : Int} {t0 t1 t2 t3 v0 v1 v2 v3 : Tok} {Q : Value → Shared → Prop}
    (ha : s.heap.get? a = some (tupObj [.int l t0, .int t t1, .int r t2, .int f t3])) (hb : s.heap.get? b = some (tupObj [.int l' v0, .int t' v1, .int r' v2, .int f' v3])) (hl : l = l') (ht : t = t') (hr : r = r') (hf : f = f') (hu : A.units < cLine) (h : Q (.bool false) s) :
    wpAny (model prg w) A (compareOp .NotEq (.ref a) (.ref b)) Q E s := by
  subst hl ht hr hf
  have R := RcNeAt.tuples (A := A) (s := s) (e := fun _ => true) (show s.heap.IsTuple a #[.int l t0, .int t t1, .int r t2, .int f t3] from ⟨_, ha, rfl, 0, rfl⟩) (show s.heap.IsTuple b #[.int l v0, .int t v1, .int r v2, .int f v3] from ⟨_, hb, rfl, 0, rfl⟩) hu (fun j h1 h2 => by
    match j, h1, h2 with
    | 0, _, _ => have := EqAt.int_int (A := A.in1) (s := s) l t0 l v0; simpa using this
    | 1, _, _ => have := EqAt.int_int (A := A.in1) (s := s) t t1 t v1; simpa using this
    | 2, _, _ => have := EqAt.int_int (A := A.in1) (s := s) r t2 r v2; simpa using this
    | 3, _, _ => have := EqAt.int_int (A := A.in1) (s := s) f t3 f v3; simpa using this
    | j + 4, h1, _ => exact absurd h1 (by simp))
  exact R _ _ _ _ h
open SeqAt in
theorem eq_tup4 {w : World} {A : Around} {E : Value → Shared → Prop} {s : Shared} {a b : Addr} {l t r f l' t' r' f' : Int} {t0 t1 t2 t3 v0 v1 v2 v3 : Tok} {Q : Value → Shared → Prop}
    (ha : s.heap.get? a = some (tupObj [.int l t0, .int t t1, .int r t2, .int f t3])) (hb : s.heap.get? b = some (tupObj [.int l' v0, .int t' v1, .int r' v2, .int f' v3])) (hu : A.units < cLine) (h : Q (.bool (eqB l t r f l' t' r' f')) s) :
    wpAny (model prg w) A (compareOp .Eq (.ref a) (.ref b)) Q E s := by
  have R := RcAt.tuples (A := A) (s := s) (e := fun j => match j with | 0 => l == l' | 1 => t == t' | 2 => r == r' | _ => f == f') (show s.heap.IsTuple a #[.int l t0, .int t t1, .int r t2, .int f t3] from ⟨_, ha, rfl, 0, rfl⟩) (show s.heap.IsTuple b #[.int l' v0, .int t' v1, .int r' v2, .int f' v3] from ⟨_, hb, rfl, 0, rfl⟩) hu (fun j h1 h2 => by
    match j, h1, h2 with
    | 0, _, _ => exact EqAt.int_int l t0 l' v0
    | 1, _, _ => exact EqAt.int_int t t1 t' v1
    | 2, _, _ => exact EqAt.int_int r t2 r' v2
    | 3, _, _ => exact EqAt.int_int f t3 f' v3
    | j + 4, h1, _ => exact absurd h1 (by simp))
  refine R _ _ _ _ ?_
  have e : ((List.range (min (#[Value.int l t0, .int t t1, .int r t2, .int f t3] : Array Value).size (#[Value.int l' v0, .int t' v1, .int r' v2, .int f' v3] : Array Value).size)).all (fun j => match j with | 0 => l == l' | 1 => t == t' | 2 => r == r' | _ => f == f') && (#[Value.int l t0, .int t t1, .int r t2, .int f t3] : Array Value).size == (#[Value.int l' v0, .int t' v1, .int r' v2, .int f' v3] : Array Value).size) = eqB l t r f l' t' r' f' := by
    unfold eqB
    simp [List.range, List.range.loop]
    rw [Bool.eq_iff_iff]; simp
  rw [e]; exact h
theorem eq_none_tup {w : World} {A : Around} {E : Value → Shared → Prop} {s : Shared} {a : Addr} {l t r f : Int} {t0 t1 t2 t3 : Tok} {Q : Value → Shared → Prop}
    (ha : s.heap.get? a = some (tupObj [.int l t0, .int t t1, .int r t2, .int f t3])) (hu : A.units + 64 < cLine) (h : Q (.bool false) s) :
    wpAny (model prg w) A (compareOp .Eq .none (.ref a)) Q E s :=
  eq_dataH Reads.none (reads_tuple_at (vs := #[.int l t0, .int t t1, .int r t2, .int f t3]) (xs := [.int l, .int t, .int r, .int f]) ha rfl rfl (.cons (.int _ _) (.cons (.int _ _) (.cons (.int _ _) (.cons (.int _ _) .nil))))) rfl rfl hu h
open SeqAt in
theorem in_places {w : World} {A : Around} {E : Value → Shared → Prop} {s : Shared} {old : Heap} {a D : Addr} {x y : Int} {t1 t2 : Tok} {zs : List Value} {ps : List (Int × Int)} {Q : Value → Shared → Prop}
    (ha : s.heap.get? a = some (tupObj [.int x t1, .int y t2])) (hD : s.heap.IsList D zs.toArray) (P : Places old s.heap zs ps) (hu : A.units + 64 < cLine) (h : Q (.bool (decide ((x, y) ∈ ps))) s) :
    wpAny (model prg w) A (compareOp .In (.ref a) (.ref D)) Q E s := by
  have key : ∀ A' : Around, A'.units < cLine → ∀ v, v ∈ zs.toArray → EqAt A' s v (.ref a) (pairIn s.heap v == some (x, y)) := fun A' hA v hv => by
    obtain ⟨b, t3, t4, q', rfl, _, hb⟩ := places_ref P (by simpa using hv)
    exact pair_eq hb ha hA
  have hany : zs.toArray.any (fun v => pairIn s.heap v == some (x, y)) = decide ((x, y) ∈ ps) := by
    rw [List.any_toArray]; exact places_any P (fun _ _ _ e => e) (x, y)
  refine in_listAt (fun v => pairIn s.heap v == some (x, y)) hD (fun v hv => key _ (by show A.units + _ < _; omega) v hv) ?_
  rw [hany]; exact h
theorem isnot_f {w : World} {A : Around} {E : Value → Shared → Prop} {s : Shared} {a b : Bool} {Q : Value → Shared → Prop} (e : a = b) (h : Q (.bool false) s) : wpAny (model prg w) A (compareOp .IsNot (.bool a) (.bool b)) Q E s := by
  subst e; refine isnot_bool ?_; simpa using h
theorem is_t {w : World} {A : Around} {E : Value → Shared → Prop} {s : Shared} {a b : Bool} {Q : Value → Shared → Prop} (e : a = b) (h : Q (.bool true) s) : wpAny (model prg w) A (compareOp .Is (.bool a) (.bool b)) Q E s := by
  subst e; refine is_bool ?_; simpa using h

end
-- part P25
section
theorem hide_ex2 {g0 h : Heap} {objs : List (Addr × Obj)} (G : Ext g0 h) (M : Made g0 h objs) : ∃ g, Hid g0 g h objs ∧ ∀ b o, h.get? b = some o → (∀ q ∈ objs, @Ne Nat q.1 b) → g.get? b = some o := by
  refine ⟨hideAll h (objs.map (·.1)), ⟨fun b o e => of_hideAll _ e, fun q hq => ⟨(M q hq).1, hideAll_none _ (List.mem_map.mpr ⟨q, hq, rfl⟩)⟩, Nat.le_of_eq (hideAll_size _ _), fun b o e => hideAll_get _ (G _ _ e) ?_, fun h' e k b o hb => ?_, fun a ha hn => ?_⟩, fun b o e hn => hideAll_get _ e fun hm => ?_⟩
  · intro hm
    obtain ⟨q, hq, rfl⟩ := List.mem_map.mp hm
    rw [(M q hq).2] at e
    cases e
  · by_cases hm : b ∈ objs.map (·.1)
    · obtain ⟨q, hq, rfl⟩ := List.mem_map.mp hm
      have := (M q hq).1
      rw [hb] at this
      rw [k q hq, ← this]
    · exact e _ _ (hideAll_get _ hb hm)
  · cases e : h.get? a with
    | none => rfl
    | some o =>
      have hm : a ∉ objs.map (·.1) := fun hm => by
        obtain ⟨q, hq, e'⟩ := List.mem_map.mp hm
        exact hn q hq e'
      rw [hideAll_get _ e hm] at ha
      cases ha
  · obtain ⟨q, hq, e'⟩ := List.mem_map.mp hm
    exact hn q hq e'
theorem below_two {A : Around} {g h : Heap} {L L0 a : Addr} {m : Str → Option Value} {name : Str} {scope : Scope} {cd : Value} {env0 : Env} {news : List (Addr × Obj)} {o : Obj} (hst : A.frames = some [env0]) (hf0 : env0.frame = some L0) (hk0 : env0.scope.kind ≠ .module)
    (F : Fr g L h m) (N : News g L h news) (m0 : (L0, o) ∈ news) (d0 : ∀ vs, o.data ≠ .fields vs) (hk : scope.kind = .function) : Below (A.deeper (envOf name scope L a cd)) (hideAll h [L, L0]) [envOf name scope L a cd, env0] h := by
  obtain ⟨oL, es, ep, hL, hd, _⟩ := F.ns
  refine ⟨Around.frames_deeper hst, fun b o e => of_hideAll _ e, ?_⟩
  exact ⟨by show scope.kind ≠ .module; rw [hk]; decide, ⟨L, oL, rfl, hideAll_none _ (List.mem_cons_self ..), hL, fun vs q => by rw [hd] at q; cases q⟩, hk0,
    ⟨L0, o, hf0, hideAll_none _ (List.mem_cons_of_mem _ (List.mem_cons_self ..)), (N _ m0).1, d0⟩, trivial⟩
theorem ext_two {g h : Heap} {L L0 : Addr} {m : Str → Option Value} {news : List (Addr × Obj)} {o : Obj} (F : Fr g L h m) (N : News g L h news) (m0 : (L0, o) ∈ news) : Ext g (hideAll h [L, L0]) := fun b ob e => hideAll_get _ (F.keep _ _ e) fun hm => by
  simp only [List.mem_cons, List.not_mem_nil, or_false] at hm
  rcases hm with rfl | rfl
  · exact absurd (Nat.lt_of_lt_of_le (Heap.lt_size e) F.above) (Nat.lt_irrefl _)
  · rw [(N _ m0).2.2] at e; cases e
theorem after_loud {g h h' : Heap} {L L0 : Addr} {m : Str → Option Value} {news : List (Addr × Obj)} {o : Obj} {gf : Obj → List (Addr × Obj)} {env env0 : Env} (F : Fr g L h m) (N : News g L h news) (U : UpdF L0 o news gf) (d0 : ∀ vs, o.data ≠ .fields vs)
    (hf : env.frame = some L) (hf0 : env0.frame = some L0) (e : Ext (hideAll h ([env, env0].filterMap (·.frame))) h') (u : h.UpToSlots h') : ∃ sl, Fr g L h' m ∧ News g L h' (gf { o with slots := sl }) := by
  rw [List.filterMap_cons_some hf, List.filterMap_cons_some hf0, List.filterMap_nil] at e
  obtain ⟨pre, post, rfl, hg, n1, n2⟩ := U.split
  have m0 : (L0, o) ∈ pre ++ (L0, o) :: post := List.mem_append_right _ (List.mem_cons_self ..)
  obtain ⟨sl, hs⟩ := u _ _ (N _ m0).1 d0
  refine ⟨sl, ⟨u.ns F.ns, fun b ob q => e _ _ (ext_two F N m0 _ _ q), F.above⟩, ?_⟩
  rw [hg]
  have keep : ∀ q ∈ pre ++ (L0, o) :: post, q.1 ≠ L0 → h'.get? q.1 = some q.2 := fun q hq hne => e _ _ (hideAll_get _ (N q hq).1 fun hm => by
    simp only [List.mem_cons, List.not_mem_nil, or_false] at hm
    rcases hm with hm | hm
    · exact (N q hq).2.1 hm
    · exact hne hm)
  intro q hq
  rcases List.mem_append.mp hq with hq | hq
  · have := N q (List.mem_append_left _ hq)
    exact ⟨keep q (List.mem_append_left _ hq) (n1 q hq), this.2⟩
  rcases List.mem_cons.mp hq with rfl | hq
  · exact ⟨hs, (N _ m0).2⟩
  · have hq' := List.mem_append_right pre (List.mem_cons_of_mem (L0, o) hq)
    exact ⟨keep q hq' (n2 q hq), (N q hq').2⟩
theorem after_loud2 {g h h' : Heap} {L L0 : Addr} {m : Str → Option Value} {news : List (Addr × Obj)} {o : Obj} {gf : Obj → List (Addr × Obj)} {env env0 : Env} (hf0 : env0.frame = some L0) (e : Ext (hideAll h ([env, env0].filterMap (·.frame))) h') (u : h.UpToSlots h') (F : Fr g L h m) (N : News g L h news) (U : UpdF L0 o news gf) (d0 : ∀ vs, o.data ≠ .fields vs)
    (hf : env.frame = some L) : ∃ sl, Fr g L h' m ∧ News g L h' (gf { o with slots := sl }) := after_loud F N U d0 hf hf0 e u
theorem shared_dis {w : World} {A : Around} {s : Shared} {g0 : Heap} {p : Program} {loose : List Str} {mg mb : Str → Option Value} {R : Result → Shared → Prop} {b1 b2 : Addr} {u1 u2 : Nat → Tok} {l t r f l' t' r' f' : Int}
    (X0 : (hd.heap_39 w.params).In g0) (T0 : TopRead p loose mg mb g0) (G : Ext g0 s.heap) (hh : A.handled = none) (hroom : A.depth < 880) (hu : A.units < 8800)  (hn1 : g0.get? b1 = none) (e1 : s.heap.get? b1 = some (blockObj u1 l t r f)) (hn2 : g0.get? b2 = none) (e2 : s.heap.get? b2 = some (blockObj u2 l' t' r' f')) (lim1 : Lim l t r f) (lim2 : Lim l' t' r' f') (hdis : disB l t r f l' t' r' f' = true)
    (h : ∀ h' tk, Ext s.heap h' → R (.ok (.ret .none)) { s with heap := h', toks := tk }) : codeAny (model prg w) A (.call (.ref 389) ⟨[.ref b1, .ref b2], []⟩) R s :=
  shared2_c X0 T0 G hh hroom hu hn1 e1 hn2 e2 lim1 lim2 (fun _ => h) (fun q => by rw [hdis] at q; cases q)
theorem shared_meet {w : World} {A : Around} {s : Shared} {g0 : Heap} {p : Program} {loose : List Str} {mg mb : Str → Option Value} {R : Result → Shared → Prop} {b1 b2 : Addr} {u1 u2 : Nat → Tok} {l t r f l' t' r' f' : Int}
    (X0 : (hd.heap_39 w.params).In g0) (T0 : TopRead p loose mg mb g0) (G : Ext g0 s.heap) (hh : A.handled = none) (hroom : A.depth < 880) (hu : A.units < 8800)  (hn1 : g0.get? b1 = none) (e1 : s.heap.get? b1 = some (blockObj u1 l t r f)) (hn2 : g0.get? b2 = none) (e2 : s.heap.get? b2 = some (blockObj u2 l' t' r' f')) (lim1 : Lim l t r f) (lim2 : Lim l' t' r' f') (hdis : disB l t r f l' t' r' f' = false)
    (h : ∀ a u h' tk, Ext s.heap h' → Made s.heap h' [(a, blockObj u (max l l') (max t t') (min r r') (min f f'))] → R (.ok (.ret (.ref a))) { s with heap := h', toks := tk }) : codeAny (model prg w) A (.call (.ref 389) ⟨[.ref b1, .ref b2], []⟩) R s :=
  shared2_c X0 T0 G hh hroom hu hn1 e1 hn2 e2 lim1 lim2 (fun q => by rw [hdis] at q; cases q) (fun _ => h)
theorem both_dis {w : World} {A : Around} {s : Shared} {p : Program} {loose : List Str} {mg mb : Str → Option Value} {R : Result → Shared → Prop} {x y : Addr} {l t r f l' t' r' f' : Int} {base : Heap} {outer : List Env} {n : Int} {u0 : Tok}
    (hh : A.handled = none) (hroom : A.depth < 840) (hu : A.units < 8400) (hx : RangeAt w.params s.heap x l t r f) (hy : RangeAt w.params s.heap y l' t' r' f') (XB : (hd.heap_39 w.params).In base) (TB : TopRead p loose mg mb base) (B : Below A base outer s.heap) (lim1 : Lim l t r f) (lim2 : Lim l' t' r' f') (hdis : disB l t r f l' t' r' f' = true)
    (h : ∀ h' tk, Ext (hideAll s.heap (outer.filterMap (·.frame))) h' → s.heap.UpToSlots h' → R (.ok (.ret .none)) { s with heap := h', toks := tk }) : codeAny (model prg w) A (.call (.ref 417) ⟨[.ref x, .ref y, .int n u0], []⟩) R s :=
  both_c hh hroom hu hx hy XB TB B lim1 lim2 (fun q => by rw [hdis] at q; cases q) (fun _ => h)
theorem both_meet {w : World} {A : Around} {s : Shared} {p : Program} {loose : List Str} {mg mb : Str → Option Value} {R : Result → Shared → Prop} {x y : Addr} {l t r f l' t' r' f' : Int} {base : Heap} {outer : List Env} {n : Int} {u0 : Tok}
    (hh : A.handled = none) (hroom : A.depth < 840) (hu : A.units < 8400) (hx : RangeAt w.params s.heap x l t r f) (hy : RangeAt w.params s.heap y l' t' r' f') (XB : (hd.heap_39 w.params).In base) (TB : TopRead p loose mg mb base) (B : Below A base outer s.heap) (lim1 : Lim l t r f) (lim2 : Lim l' t' r' f') (hdis : disB l t r f l' t' r' f' = false)
    (h : ∀ a u h' tk, Ext s.heap h' → Made s.heap h' [(a, blockObj u (max l l') (max t t') (min r r') (min f f'))] → R (.ok (.ret (.ref a))) { s with heap := h', toks := tk }) : codeAny (model prg w) A (.call (.ref 417) ⟨[.ref x, .ref y, .int n u0], []⟩) R s :=
  both_c hh hroom hu hx hy XB TB B lim1 lim2 (fun _ => h) (fun q => by rw [hdis] at q; cases q)

end
-- part P26
section

local macro_rules | `(tactic| walk_at "my madeG") => `(tactic| (intro q hq; simp only [List.mem_cons, List.not_mem_nil, or_false] at hq; (first | (subst hq; exact ⟨by assumption, by assumption⟩) | (rcases hq with hq | hq | hq <;> (subst hq; exact ⟨by assumption, by assumption⟩)) | (rcases hq with hq | hq <;> (subst hq; exact ⟨by assumption, by assumption⟩)))))
local macro_rules | `(tactic| walk_at "my sub") => `(tactic| (intro q hq; simp only [List.mem_cons, List.not_mem_nil, or_false] at hq; (first | (subst hq; k_mem) | (rcases hq with hq | hq <;> (subst hq; k_mem)))))
local macro_rules | `(tactic| walk_at "my off") => `(tactic| (intro q1 hq1 q2 hq2; simp only [List.mem_cons, List.not_mem_nil, or_false] at hq1 hq2; (first | (subst hq1; subst hq2) | (subst hq1; rcases hq2 with hq2 | hq2 <;> subst hq2) | (rcases hq1 with hq1 | hq1 <;> subst hq1 <;> subst hq2) | (rcases hq1 with hq1 | hq1 <;> subst hq1 <;> rcases hq2 with hq2 | hq2 <;> subst hq2)); all_goals (refine neN ?_; (try dsimp only); omega)))
local macro_rules | `(tactic| walk_at "call ref") => `(tactic| (k_here; (with_reducible show wpAny _ _ (call (Value.ref 199) [Value.ref _, Value.ref _] []) _ _ _); (refine wpAny_call ?_); k_dflt (refine' title_c ?X ?T ?hh ?hr ?hu ?hx ?hy ?_; (case X => walk_at "my xin"); (case T => walk_at "my top"); (case hh => exact rfl); (case hr => k_room); (case hu => k_units); (case hx => walk_at "my rg"); (case hy => walk_at "my rg"); k_whole; intro h' tk' hE'; walk_at "my after")))
local macro_rules | `(tactic| walk_at "call ref") => `(tactic| (k_here; (with_reducible show wpAny _ _ (call (Value.ref 256) [Value.ref _, Value.ref _] []) _ _ _); (refine wpAny_call ?_); k_dflt (refine' sup_c ?X ?T ?hh ?hr ?hu ?hx ?hy ?_; (case X => walk_at "my xin"); (case T => walk_at "my top"); (case hh => exact rfl); (case hr => k_room); (case hu => k_units); (case hx => walk_at "my rg"); (case hy => walk_at "my rg"); k_whole; intro h' tk' hE'; walk_at "my after")))
local macro_rules | `(tactic| walk_at "call ref") => `(tactic| (k_here; (with_reducible show wpAny _ _ (call (Value.ref 228) [Value.ref _, Value.ref _] []) _ _ _); (refine wpAny_call ?_); k_dflt (refine' ne_c ?X ?T ?hh ?hr ?hu ?hx ?hy ?_; (case X => walk_at "my xin"); (case T => walk_at "my top"); (case hh => exact rfl); (case hr => k_room); (case hu => k_units); (case hx => walk_at "my rg"); (case hy => walk_at "my rg"); k_whole; intro h' tk' hE'; walk_at "my after")))
local macro_rules | `(tactic| walk_at "call ref") => `(tactic| (k_here; (with_reducible show wpAny _ _ (call (Value.ref 235) [Value.ref _, Value.ref _] []) _ _ _); (refine wpAny_call ?_); k_dflt (refine' eq_c ?X ?T ?hh ?hr ?hu ?hx ?hy ?_; (case X => walk_at "my xin"); (case T => walk_at "my top"); (case hh => exact rfl); (case hr => k_room); (case hu => k_units); (case hx => walk_at "my rg"); (case hy => walk_at "my rg"); k_whole; intro h' tk' hE'; walk_at "my after")))
local macro_rules | `(tactic| walk_at "call ref") => `(tactic| (k_here; (with_reducible show wpAny _ _ (call (Value.ref 242) [Value.ref _, Value.ref _] []) _ _ _); (refine wpAny_call ?_); k_dflt (refine' subset_c ?X ?T ?hh ?hr ?hu ?hx ?hy ?_; (case X => walk_at "my xin"); (case T => walk_at "my top"); (case hh => exact rfl); (case hr => k_room); (case hu => k_units); (case hx => walk_at "my rg"); (case hy => walk_at "my rg"); k_whole; intro h' tk' hE'; walk_at "my after")))
local macro_rules | `(tactic| walk_at "call ref") => `(tactic| (k_here; (with_reducible show wpAny _ _ (call (Value.ref 263) [Value.ref _, Value.ref _] []) _ _ _); (refine wpAny_call ?_); k_dflt (refine' superset_c ?X ?T ?hh ?hr ?hu ?hx ?hy ?_; (case X => walk_at "my xin"); (case T => walk_at "my top"); (case hh => exact rfl); (case hr => k_room); (case hu => k_units); (case hx => walk_at "my rg"); (case hy => walk_at "my rg"); k_whole; intro h' tk' hE'; walk_at "my after")))
local macro_rules | `(tactic| walk_at "call ref") => `(tactic| (k_here; (with_reducible show wpAny _ _ (call (Value.ref 249) [Value.ref _, Value.ref _] []) _ _ _); (refine wpAny_call ?_); k_dflt (refine' lt_c ?X ?T ?hh ?hr ?hu ?hx ?hy ?_; (case X => walk_at "my xin"); (case T => walk_at "my top"); (case hh => exact rfl); (case hr => k_room); (case hu => k_units); (case hx => walk_at "my rg"); (case hy => walk_at "my rg"); k_whole; intro h' tk' hE'; walk_at "my after")))
local macro_rules | `(tactic| walk_at "call ref") => `(tactic| (k_here; (with_reducible show wpAny _ _ (call (Value.ref 277) [Value.ref _, Value.ref _] []) _ _ _); (refine wpAny_call ?_); k_dflt (refine' gt_c ?X ?T ?hh ?hr ?hu ?hx ?hy ?_; (case X => walk_at "my xin"); (case T => walk_at "my top"); (case hh => exact rfl); (case hr => k_room); (case hu => k_units); (case hx => walk_at "my rg"); (case hy => walk_at "my rg"); k_whole; intro h' tk' hE'; walk_at "my after")))
local macro_rules | `(tactic| walk_at "getAttr ref") => `(tactic| (k_here; (with_reducible show wpAny _ _ (getAttr (Value.ref _) (PySem.Str.ofString "bounds") _) _ _ _); k_dflt (refine' get_prop ?k1 ?k2 ?k3 ?k4 ?k5 ?k6 ?k7 ?k8 ?k9 ?_; (case k1 => k_asm); (case k2 => k_asm); (case k3 => k_inst); (case k4 => k_is); (case k5 => k_is); (case k6 => k_is); (case k7 => k_is); (case k8 => k_is); (case k9 => k_is); k_whole); k_dflt (refine' bounds_c ?X ?T ?hh ?hr ?hu ?hx ?_; (case X => walk_at "my xin"); (case T => walk_at "my top"); (case hh => exact rfl); (case hr => k_room); (case hu => k_units); (case hx => walk_at "my rg"); k_whole; intro a' u' h' tk' hE' hM'; walk_at "my after made"); (try dsimp only)))
local macro_rules | `(tactic| walk_at "call ref") => `(tactic| (k_here; (with_reducible show wpAny _ _ (call (Value.ref 284) [Value.ref _, Value.ref _] []) _ _ _); (refine wpAny_call ?_); k_dflt (refine' disjoint_c ?X ?T ?hh ?hr ?hu ?hx ?hy ?q1 ?q2 ?q3 ?q4 ?_; (case X => walk_at "my xin"); (case T => walk_at "my top"); (case hh => exact rfl); (case hr => k_room); (case hu => k_units); (case hx => walk_at "my rg"); (case hy => walk_at "my rg"); (case q1 => omega); (case q2 => omega); (case q3 => omega); (case q4 => omega); k_whole; intro h' tk' hE'; walk_at "my after")))
local macro_rules | `(tactic| walk_at "call ref") => `(tactic| (k_here; (with_reducible show wpAny _ _ (call (Value.ref 403) [Value.ref _, Value.ref _] []) _ _ _); (refine wpAny_call ?_); k_dflt (refine' order_c ?X ?T ?hh ?hr ?hu ?hx ?hy ?q1 ?q2 ?q3 ?q4 ?_; (case X => walk_at "my xin"); (case T => walk_at "my top"); (case hh => exact rfl); (case hr => k_room); (case hu => k_units); (case hx => walk_at "my rg"); (case hy => walk_at "my rg"); (case q1 => omega); (case q2 => omega); (case q3 => omega); (case q4 => omega); k_whole; intro D' n' h' tk' hE' hM'; walk_at "my after made")))
local macro_rules | `(tactic| walk_at "call ref") => `(tactic| (k_here; (with_reducible show wpAny _ _ (call (Value.ref 298) [Value.ref _, Value.ref _] []) _ _ _); (refine wpAny_call ?_); k_dflt (refine' union_c ?X ?T ?hh ?hr ?hu ?hx ?hy ?q1 ?q2 ?q3 ?q4 ?_; (case X => walk_at "my xin"); (case T => walk_at "my top"); (case hh => exact rfl); (case hr => k_room); (case hu => k_units); (case hx => walk_at "my rg"); (case hy => walk_at "my rg"); (case q1 => omega); (case q2 => omega); (case q3 => omega); (case q4 => omega); k_whole; intro x' dx' k' u' h' tk' hE' hM'; walk_at "my after made")))
local macro_rules | `(tactic| walk_at "call ref") => `(tactic| (k_here; (with_reducible show wpAny _ _ (call (Value.ref 410) [Value.ref _, Value.ref _] []) _ _ _); (refine wpAny_call ?_); k_dflt (refine' due_c ?X0 ?T0 ?G ?hh ?hr ?hu ?b0 ?b1 ?c0 ?c1 ?lim1 ?lim2 ?_; (case G => exact Fr.keep (by k_asm)); (case X0 => assumption); (case T0 => assumption); (case hh => exact rfl); (case hr => k_room); (case hu => k_units); (case b1 => exact (news_at (by k_asm) (by k_mem)).2); (case b0 => exact (news_at (by k_asm) (by k_mem)).1); (case c1 => exact (news_at (by k_asm) (by k_mem)).2); (case c0 => exact (news_at (by k_asm) (by k_mem)).1); (case lim1 => assumption); (case lim2 => assumption); k_whole; intro D' n' h' tk' hE' hM'; walk_at "my after made")))
local macro_rules | `(tactic| walk_at "call ref") => `(tactic| (k_here; (with_reducible show wpAny _ _ (call (Value.ref 384) [Value.ref _, Value.ref _] []) _ _ _); (refine wpAny_call ?_); k_dflt (refine' within2_c ?X0 ?T0 ?G ?hh ?hr ?hu ?b0 ?b1 ?c0 ?c1 ?lim1 ?lim2 ?_; (case G => exact Fr.keep (by k_asm)); (case X0 => assumption); (case T0 => assumption); (case hh => exact rfl); (case hr => k_room); (case hu => k_units); (case b1 => exact (news_at (by k_asm) (by k_mem)).2); (case b0 => exact (news_at (by k_asm) (by k_mem)).1); (case c1 => exact (news_at (by k_asm) (by k_mem)).2); (case c0 => exact (news_at (by k_asm) (by k_mem)).1); (case lim1 => assumption); (case lim2 => assumption); k_whole; intro h' tk' hE'; walk_at "my after")))
local macro_rules | `(tactic| walk_at "call ref") => `(tactic| (k_here; (with_reducible show wpAny _ _ (call (Value.ref 389) [Value.ref _, Value.ref _] []) _ _ _); (refine wpAny_call ?_); k_dflt (refine' shared_dis ?X0 ?T0 ?G ?hh ?hr ?hu ?b0 ?b1 ?c0 ?c1 ?lim1 ?lim2 ?hdis ?_; (case G => exact Fr.keep (by k_asm)); (case X0 => assumption); (case T0 => assumption); (case hh => exact rfl); (case hr => k_room); (case hu => k_units); (case b1 => exact (news_at (by k_asm) (by k_mem)).2); (case b0 => exact (news_at (by k_asm) (by k_mem)).1); (case c1 => exact (news_at (by k_asm) (by k_mem)).2); (case c0 => exact (news_at (by k_asm) (by k_mem)).1); (case lim1 => assumption); (case lim2 => assumption); (case hdis => with_reducible assumption); k_whole; intro h' tk' hE'; walk_at "my after")))
local macro_rules | `(tactic| walk_at "call ref") => `(tactic| (k_here; (with_reducible show wpAny _ _ (call (Value.ref 389) [Value.ref _, Value.ref _] []) _ _ _); (refine wpAny_call ?_); k_dflt (refine' shared_meet ?X0 ?T0 ?G ?hh ?hr ?hu ?b0 ?b1 ?c0 ?c1 ?lim1 ?lim2 ?hdis ?_; (case G => exact Fr.keep (by k_asm)); (case X0 => assumption); (case T0 => assumption); (case hh => exact rfl); (case hr => k_room); (case hu => k_units); (case b1 => exact (news_at (by k_asm) (by k_mem)).2); (case b0 => exact (news_at (by k_asm) (by k_mem)).1); (case c1 => exact (news_at (by k_asm) (by k_mem)).2); (case c0 => exact (news_at (by k_asm) (by k_mem)).1); (case lim1 => assumption); (case lim2 => assumption); (case hdis => with_reducible assumption); k_whole; intro a' u' h' tk' hE' hM'; walk_at "my after made")))
local macro_rules | `(tactic| walk_at "my after loud") => `(tactic| ((with_reducible rename Ext (hideAll _ _) _ => hE'); (with_reducible rename Heap.UpToSlots _ _ => hU'); (with_reducible rename Fr _ _ _ _ => kF); (with_reducible rename News _ _ _ _ => kN); (have hX' := after_loud2 (by assumption) hE' hU' kF kN (by k_updF) (by assumption) rfl); (obtain ⟨sl', F', N'⟩ := hX'); (clear hE' hU'); (try dsimp only at N'); k_sweep))
local macro_rules | `(tactic| walk_at "call ref") => `(tactic| (k_here; (with_reducible show wpAny _ _ (call (Value.ref 417) [Value.ref _, Value.ref _, Value.int _ _] []) _ _ _); (refine wpAny_call ?_); k_dflt (first | (refine' both_dis ?hh ?hr ?hu ?hx ?hy ?XB ?TB ?B ?lim1 ?lim2 ?hdis ?_; (case B => (refine' below_two ?st ?f0 ?k0 ?F ?N ?m0 ?d0 ?k; (case st => exact rfl); (case F => k_asm); (case N => k_asm); (case f0 => assumption); (case k0 => assumption); (case m0 => k_mem); (case d0 => assumption); (case k => exact rfl))); (case XB => (refine' Frag.In.keeps ?X ?e; (case X => assumption); (case e => (refine' ext_two ?F ?N ?m0; (case F => k_asm); (case N => k_asm); (case m0 => k_mem))))); (case TB => (refine' TopRead.keeps ?X ?e; (case X => assumption); (case e => (refine' ext_two ?F ?N ?m0; (case F => k_asm); (case N => k_asm); (case m0 => k_mem))))); (case hh => exact rfl); (case hr => k_room); (case hu => k_units); (case hx => walk_at "my rg"); (case hy => walk_at "my rg"); (case lim1 => assumption); (case lim2 => assumption); (case hdis => with_reducible assumption); k_whole; intro h' tk' hE' hU'; walk_at "my after loud") | (refine' both_meet ?hh ?hr ?hu ?hx ?hy ?XB ?TB ?B ?lim1 ?lim2 ?hdis ?_; (case B => (refine' below_two ?st ?f0 ?k0 ?F ?N ?m0 ?d0 ?k; (case st => exact rfl); (case F => k_asm); (case N => k_asm); (case f0 => assumption); (case k0 => assumption); (case m0 => k_mem); (case d0 => assumption); (case k => exact rfl))); (case XB => (refine' Frag.In.keeps ?X ?e; (case X => assumption); (case e => (refine' ext_two ?F ?N ?m0; (case F => k_asm); (case N => k_asm); (case m0 => k_mem))))); (case TB => (refine' TopRead.keeps ?X ?e; (case X => assumption); (case e => (refine' ext_two ?F ?N ?m0; (case F => k_asm); (case N => k_asm); (case m0 => k_mem))))); (case hh => exact rfl); (case hr => k_room); (case hu => k_units); (case hx => walk_at "my rg"); (case hy => walk_at "my rg"); (case lim1 => assumption); (case lim2 => assumption); (case hdis => with_reducible assumption); k_whole; intro a' u' h' tk' hE' hM'; walk_at "my after made"))))
local macro_rules | `(tactic| walk_at "my ieq") => `(tactic| (first | rfl | (simp only [mn_if, mx_if]) | omega | (simp only [mn_if, mx_if]; omega)))
local macro_rules | `(tactic| walk_at "my beq") => `(tactic| (first | rfl | ((try rw [place_dec (by omega) (by omega)]); rw [Bool.eq_iff_iff]; (try unfold leB); (try unfold eqB); simp only [Bool.and_eq_true, Bool.not_eq_true', decide_eq_true_eq, decide_eq_false_iff_not, Bool.false_eq_true, iff_false, false_iff, iff_true, true_iff]; (first | omega | (rename disB _ _ _ _ _ _ _ _ = _ => hq; (first | have hq' := of_decide_eq_true hq | have hq' := of_decide_eq_false hq); omega)))))
local macro_rules | `(tactic| walk_at "compareOp NotEq ref ref") => `(tactic| (k_here; k_dflt (first | (refine' ne_lists_f ?a ?b ?z ?u ?_; (case a => exact News.isList (by k_asm) (by k_mem)); (case b => exact News.isList (by k_asm) (by k_mem)); (case z => exact ordL_bools _ _ _ _ _ _ _ _); (case u => k_units)) | (refine' ne_tup4 ?a ?b ?e1 ?e2 ?e3 ?e4 ?u ?_; (case a => exact (news_at (by k_asm) (by k_mem)).2); (case b => exact (news_at (by k_asm) (by k_mem)).2); (case e1 => walk_at "my ieq"); (case e2 => walk_at "my ieq"); (case e3 => walk_at "my ieq"); (case e4 => walk_at "my ieq"); (case u => k_units)))))
local macro_rules | `(tactic| walk_at "compareOp Eq ref ref") => `(tactic| (k_here; k_dflt (refine' eq_tup4 ?a ?b ?u ?_; (case a => exact (news_at (by k_asm) (by k_mem)).2); (case b => exact (news_at (by k_asm) (by k_mem)).2); (case u => k_units))))
local macro_rules | `(tactic| walk_at "compareOp Eq none ref") => `(tactic| (k_here; k_dflt (refine' eq_none_tup ?a ?u ?_; (case a => exact (news_at (by k_asm) (by k_mem)).2); (case u => k_units))))
local macro_rules | `(tactic| walk_at "compareOp IsNot bool bool") => `(tactic| (k_here; k_dflt (refine' isnot_f ?e ?_; (case e => walk_at "my beq"))))
local macro_rules | `(tactic| walk_at "compareOp Is bool bool") => `(tactic| (k_here; k_dflt (refine' is_t ?e ?_; (case e => walk_at "my beq"))))
local macro_rules | `(tactic| walk_at "compareOp In ref ref") => `(tactic| (k_here; k_dflt (refine' in_places ?a ?D ?P ?u ?_; (case a => exact (news_at (by k_asm) (by k_mem)).2); (case D => exact News.isList (by k_asm) (by k_mem)); (case P => assumption); (case u => k_units))))
local macro_rules | `(tactic| walk_at "call ref") => `(tactic| (k_here; (with_reducible show wpAny _ _ (call (Value.ref 379) [Value.ref _] []) _ _ _); (refine wpAny_call ?_); k_dflt (refine' places_c ?X0 ?T0 ?G ?hh ?hr ?hu ?b0 ?b1 ?lim ?_; (case G => exact Fr.keep (by k_asm)); (case X0 => assumption); (case T0 => assumption); (case hh => exact rfl); (case hr => k_room); (case hu => k_units); (case b1 => exact (news_at (by k_asm) (by k_mem)).2); (case b0 => exact (news_at (by k_asm) (by k_mem)).1); (case lim => assumption); k_whole); (try (with_reducible rename Places _ _ _ _ => kP)); intro D' h' tk' zs' hE' hDn' hL' hP'; (with_reducible rename Fr _ _ _ _ => kF); (with_reducible rename News _ _ _ _ => kN); (replace hP' := Places.low (Fr.keep kF) hP'); (have F' := Fr.keeps kF hE'); (obtain ⟨n', N'⟩ := news_list kF kN hE' hDn' hL'); (have O' := news_off kN hDn'); (try simp only [List.mem_cons, forall_eq_or_imp, List.not_mem_nil, false_implies, implies_true, and_true] at O'); (try (have kP' := Places.ext kP hE'; clear kP)); (clear hDn' hL' hE'); k_sweep))
local macro_rules | `(tactic| walk_at "call ref") => `(tactic| (k_here; (with_reducible show wpAny _ _ (call (Value.ref 374) [Value.ref _] []) _ _ _); (refine wpAny_call ?_); k_dflt (first
  | (refine' text_m ?X0 ?T0 ?G ?hh ?hr ?hu ?b0 ?b1 ?q1 ?q2 ?q3 ?q4 ?q5 ?q6 ?_; (case G => exact Fr.keep (by k_asm)); (case X0 => assumption); (case T0 => assumption); (case hh => exact rfl); (case hr => k_room); (case hu => k_units); (case b1 => exact (news_at (by k_asm) (by k_mem)).2); (case b0 => exact (news_at (by k_asm) (by k_mem)).1); (case q1 => omega); (case q2 => omega); (case q3 => omega); (case q4 => omega); (case q5 => omega); (case q6 => omega); k_whole; intro z' u' h' tk' hM' hE'; walk_at "my after")
  | (refine' text_m4 ?X0 ?T0 ?G ?hh ?hr ?hu ?b0 ?b1 ?q1 ?q2 ?q3 ?q4 ?q5 ?q6 ?_; (case G => exact Fr.keep (by k_asm)); (case X0 => assumption); (case T0 => assumption); (case hh => exact rfl); (case hr => k_room); (case hu => k_units); (case b1 => exact (news_at (by k_asm) (by k_mem)).2); (case b0 => exact (news_at (by k_asm) (by k_mem)).1); (case q1 => omega); (case q2 => omega); (case q3 => omega); (case q4 => omega); (case q5 => omega); (case q6 => omega); k_whole; intro z' u' h' tk' hM' hE'; walk_at "my after"))))
local macro_rules | `(tactic| walk_at "call ref") => `(tactic| (k_here; (with_reducible show wpAny _ _ (call (Value.ref 270) [Value.ref _, Value.str _ _] []) _ _ _); (refine wpAny_call ?_); k_dflt (refine' contains_c ?X ?T ?hh ?hr ?hu ?hx ?M ?q1 ?q2 ?_; (case X => walk_at "my xin"); (case T => walk_at "my top"); (case hh => exact rfl); (case hr => k_room); (case hu => k_units); (case hx => walk_at "my rg"); (case M => assumption); (case q1 => omega); (case q2 => omega); k_whole; intro h' tk' hE'; walk_at "my after")))
theorem held_dis {w : World} {A : Around} {s : Shared} {g0 : Heap} {p : Program} {loose : List Str} {mg mb : Str → Option Value} {R : Result → Shared → Prop} {x y b1 b2 L0 : Addr} {u1 u2 : Nat → Tok} {l t r f l' t' r' f' : Int} {env0 : Env} {o0 : Obj}
    (X0 : (hd.heap_39 w.params).In g0) (T0 : TopRead p loose mg mb g0) (G : Ext g0 s.heap) (hh : A.handled = none) (hroom : A.depth < 830) (hu : A.units < 8300) (hst : A.frames = some [env0]) (hf0 : env0.frame = some L0) (hk0 : env0.scope.kind ≠ .module)
    (hn0 : g0.get? L0 = none) (e0 : s.heap.get? L0 = some o0) (d0 : ∀ vs, o0.data ≠ .fields vs) (d1 : ∀ vs n, o0.data ≠ .seq vs n)
    (hn1 : g0.get? b1 = none) (e1 : s.heap.get? b1 = some (blockObj u1 l t r f)) (hn2 : g0.get? b2 = none) (e2 : s.heap.get? b2 = some (blockObj u2 l' t' r' f')) (lim1 : Lim l t r f) (lim2 : Lim l' t' r' f')
    (hx : RangeAt w.params (hideAll s.heap [L0]) x l t r f) (hy : RangeAt w.params (hideAll s.heap [L0]) y l' t' r' f') (hdis : disB l t r f l' t' r' f' = true)
    (h : ∀ h' tk, (∀ b o, s.heap.get? b = some o → b ≠ L0 → h'.get? b = some o) → (∃ sl, h'.get? L0 = some { o0 with slots := sl }) → R (.ok (.ret (.bool true))) { s with heap := h', toks := tk }) :
    codeAny (model prg w) A (.call (.ref 424) ⟨[.ref x, .ref y, .ref b1, .ref b2], []⟩) R s := by
  have n1 : @Ne Nat b1 L0 := by rintro rfl; rw [e1] at e0; exact d1 _ _ (congrArg Obj.data (Option.some.inj e0)).symm
  have n2 : @Ne Nat b2 L0 := by rintro rfl; rw [e2] at e0; exact d1 _ _ (congrArg Obj.data (Option.some.inj e0)).symm
  obtain ⟨gg, H, hget⟩ := hide_ex2 (objs := [(L0, o0), (b1, blockObj u1 l t r f), (b2, blockObj u2 l' t' r' f')]) G (by walk_at "my madeG")
  have up : ∀ {b o}, (hideAll s.heap [L0]).get? b = some o → (∀ vs n, o.data ≠ .seq vs n) → gg.get? b = some o := fun {b o} e nd => by
    refine hget b o (of_hideAll _ e) fun q hq z => ?_
    simp only [List.mem_cons, List.not_mem_nil, or_false] at hq
    rcases hq with rfl | rfl | rfl
    · rw [hideAll_none _ (by rw [← show L0 = b from z]; exact List.mem_cons_self ..)] at e; cases e
    · have e' := of_hideAll _ e; rw [← show b1 = b from z, e1] at e'; exact nd _ _ (congrArg Obj.data (Option.some.inj e')).symm
    · have e' := of_hideAll _ e; rw [← show b2 = b from z, e2] at e'; exact nd _ _ (congrArg Obj.data (Option.some.inj e')).symm
  have hxg : RangeAt w.params gg x l t r f := by obtain ⟨dx, k, u, h1, h2⟩ := hx; exact ⟨dx, k, u, up h1 (fun _ _ q => by cases q), up h2 (fun _ _ q => by cases q)⟩
  have hyg : RangeAt w.params gg y l' t' r' f' := by obtain ⟨dx, k, u, h1, h2⟩ := hy; exact ⟨dx, k, u, up h1 (fun _ _ q => by cases q), up h2 (fun _ _ q => by cases q)⟩
  clear hx hy up hget
  obtain ⟨dx, kx, ux, hx1, hx2⟩ := id hxg
  obtain ⟨dy, ky, uy, hy1, hy2⟩ := id hyg
  have X := Frag.In.keeps X0 H.low
  have T := T0.keeps H.low
  clear X0 T0
  have a := lim1
  have b := lim2
  unfold Lim at a b
  obtain ⟨a1, a2, a3, a4, a5, a6, a7, a8⟩ := a
  obtain ⟨c1, c2, c3, c4, c5, c6, c7, c8⟩ := b
  obtain ⟨hd0, dp0, fs0, gs0, un0⟩ := A
  obtain rfl : hd0 = none := hh
  obtain rfl : fs0 = some [env0] := hst
  dsimp only at hroom hu
  walk_at "my fill"
  refine' enter_sub (binds := [(Str.ofString "one", .ref x), (Str.ofString "other", .ref y), (Str.ofString "first", .ref b1), (Str.ofString "last", .ref b2)]) H.ext H.made H.size X T ?k8 ?k6 ?k7 ?k9 ?kB ?_ ?c2 ?c3 ?c4 ?c5
  walk_at "my entered"
  k_steps
  all_goals (
    rename News _ _ _ _ => kN
    rename Fr _ _ _ _ => kF
    refine' h _ _ (Hid.set (dx := L0) H kF kN ?m ?f ?nf ?sub) ⟨_, (news_at (b := L0) kN (by k_mem)).2⟩
    case m => k_mem
    case f => exact (Heap.get?_some_iff.mp (news_at (b := L0) kN (by k_mem)).2).2
    case nf => (intro q hq; simp only [List.mem_cons, List.not_mem_nil, or_false] at hq; rcases hq with rfl | rfl | rfl; (exact (Heap.get?_some_iff.mp e0).2); rfl; rfl)
    case sub => (intro q hq hne; simp only [List.mem_cons, List.not_mem_nil, or_false] at hq; rcases hq with rfl | rfl | rfl; (exact absurd rfl hne); k_mem; k_mem))

end
-- part P27
section

local macro_rules | `(tactic| walk_at "my madeG") => `(tactic| (intro q hq; simp only [List.mem_cons, List.not_mem_nil, or_false] at hq; (first | (subst hq; exact ⟨by assumption, by assumption⟩) | (rcases hq with hq | hq | hq <;> (subst hq; exact ⟨by assumption, by assumption⟩)) | (rcases hq with hq | hq <;> (subst hq; exact ⟨by assumption, by assumption⟩)))))
local macro_rules | `(tactic| walk_at "my sub") => `(tactic| (intro q hq; simp only [List.mem_cons, List.not_mem_nil, or_false] at hq; (first | (subst hq; k_mem) | (rcases hq with hq | hq <;> (subst hq; k_mem)))))
local macro_rules | `(tactic| walk_at "my off") => `(tactic| (intro q1 hq1 q2 hq2; simp only [List.mem_cons, List.not_mem_nil, or_false] at hq1 hq2; (first | (subst hq1; subst hq2) | (subst hq1; rcases hq2 with hq2 | hq2 <;> subst hq2) | (rcases hq1 with hq1 | hq1 <;> subst hq1 <;> subst hq2) | (rcases hq1 with hq1 | hq1 <;> subst hq1 <;> rcases hq2 with hq2 | hq2 <;> subst hq2)); all_goals (refine neN ?_; (try dsimp only); omega)))
local macro_rules | `(tactic| walk_at "call ref") => `(tactic| (k_here; (with_reducible show wpAny _ _ (call (Value.ref 199) [Value.ref _, Value.ref _] []) _ _ _); (refine wpAny_call ?_); k_dflt (refine' title_c ?X ?T ?hh ?hr ?hu ?hx ?hy ?_; (case X => walk_at "my xin"); (case T => walk_at "my top"); (case hh => exact rfl); (case hr => k_room); (case hu => k_units); (case hx => walk_at "my rg"); (case hy => walk_at "my rg"); k_whole; intro h' tk' hE'; walk_at "my after")))
local macro_rules | `(tactic| walk_at "call ref") => `(tactic| (k_here; (with_reducible show wpAny _ _ (call (Value.ref 256) [Value.ref _, Value.ref _] []) _ _ _); (refine wpAny_call ?_); k_dflt (refine' sup_c ?X ?T ?hh ?hr ?hu ?hx ?hy ?_; (case X => walk_at "my xin"); (case T => walk_at "my top"); (case hh => exact rfl); (case hr => k_room); (case hu => k_units); (case hx => walk_at "my rg"); (case hy => walk_at "my rg"); k_whole; intro h' tk' hE'; walk_at "my after")))
local macro_rules | `(tactic| walk_at "call ref") => `(tactic| (k_here; (with_reducible show wpAny _ _ (call (Value.ref 228) [Value.ref _, Value.ref _] []) _ _ _); (refine wpAny_call ?_); k_dflt (refine' ne_c ?X ?T ?hh ?hr ?hu ?hx ?hy ?_; (case X => walk_at "my xin"); (case T => walk_at "my top"); (case hh => exact rfl); (case hr => k_room); (case hu => k_units); (case hx => walk_at "my rg"); (case hy => walk_at "my rg"); k_whole; intro h' tk' hE'; walk_at "my after")))
local macro_rules | `(tactic| walk_at "call ref") => `(tactic| (k_here; (with_reducible show wpAny _ _ (call (Value.ref 235) [Value.ref _, Value.ref _] []) _ _ _); (refine wpAny_call ?_); k_dflt (refine' eq_c ?X ?T ?hh ?hr ?hu ?hx ?hy ?_; (case X => walk_at "my xin"); (case T => walk_at "my top"); (case hh => exact rfl); (case hr => k_room); (case hu => k_units); (case hx => walk_at "my rg"); (case hy => walk_at "my rg"); k_whole; intro h' tk' hE'; walk_at "my after")))
local macro_rules | `(tactic| walk_at "call ref") => `(tactic| (k_here; (with_reducible show wpAny _ _ (call (Value.ref 242) [Value.ref _, Value.ref _] []) _ _ _); (refine wpAny_call ?_); k_dflt (refine' subset_c ?X ?T ?hh ?hr ?hu ?hx ?hy ?_; (case X => walk_at "my xin"); (case T => walk_at "my top"); (case hh => exact rfl); (case hr => k_room); (case hu => k_units); (case hx => walk_at "my rg"); (case hy => walk_at "my rg"); k_whole; intro h' tk' hE'; walk_at "my after")))
local macro_rules | `(tactic| walk_at "call ref") => `(tactic| (k_here; (with_reducible show wpAny _ _ (call (Value.ref 263) [Value.ref _, Value.ref _] []) _ _ _); (refine wpAny_call ?_); k_dflt (refine' superset_c ?X ?T ?hh ?hr ?hu ?hx ?hy ?_; (case X => walk_at "my xin"); (case T => walk_at "my top"); (case hh => exact rfl); (case hr => k_room); (case hu => k_units); (case hx => walk_at "my rg"); (case hy => walk_at "my rg"); k_whole; intro h' tk' hE'; walk_at "my after")))
local macro_rules | `(tactic| walk_at "call ref") => `(tactic| (k_here; (with_reducible show wpAny _ _ (call (Value.ref 249) [Value.ref _, Value.ref _] []) _ _ _); (refine wpAny_call ?_); k_dflt (refine' lt_c ?X ?T ?hh ?hr ?hu ?hx ?hy ?_; (case X => walk_at "my xin"); (case T => walk_at "my top"); (case hh => exact rfl); (case hr => k_room); (case hu => k_units); (case hx => walk_at "my rg"); (case hy => walk_at "my rg"); k_whole; intro h' tk' hE'; walk_at "my after")))
local macro_rules | `(tactic| walk_at "call ref") => `(tactic| (k_here; (with_reducible show wpAny _ _ (call (Value.ref 277) [Value.ref _, Value.ref _] []) _ _ _); (refine wpAny_call ?_); k_dflt (refine' gt_c ?X ?T ?hh ?hr ?hu ?hx ?hy ?_; (case X => walk_at "my xin"); (case T => walk_at "my top"); (case hh => exact rfl); (case hr => k_room); (case hu => k_units); (case hx => walk_at "my rg"); (case hy => walk_at "my rg"); k_whole; intro h' tk' hE'; walk_at "my after")))
local macro_rules | `(tactic| walk_at "getAttr ref") => `(tactic| (k_here; (with_reducible show wpAny _ _ (getAttr (Value.ref _) (PySem.Str.ofString "bounds") _) _ _ _); k_dflt (refine' get_prop ?k1 ?k2 ?k3 ?k4 ?k5 ?k6 ?k7 ?k8 ?k9 ?_; (case k1 => k_asm); (case k2 => k_asm); (case k3 => k_inst); (case k4 => k_is); (case k5 => k_is); (case k6 => k_is); (case k7 => k_is); (case k8 => k_is); (case k9 => k_is); k_whole); k_dflt (refine' bounds_c ?X ?T ?hh ?hr ?hu ?hx ?_; (case X => walk_at "my xin"); (case T => walk_at "my top"); (case hh => exact rfl); (case hr => k_room); (case hu => k_units); (case hx => walk_at "my rg"); k_whole; intro a' u' h' tk' hE' hM'; walk_at "my after made"); (try dsimp only)))
local macro_rules | `(tactic| walk_at "call ref") => `(tactic| (k_here; (with_reducible show wpAny _ _ (call (Value.ref 284) [Value.ref _, Value.ref _] []) _ _ _); (refine wpAny_call ?_); k_dflt (refine' disjoint_c ?X ?T ?hh ?hr ?hu ?hx ?hy ?q1 ?q2 ?q3 ?q4 ?_; (case X => walk_at "my xin"); (case T => walk_at "my top"); (case hh => exact rfl); (case hr => k_room); (case hu => k_units); (case hx => walk_at "my rg"); (case hy => walk_at "my rg"); (case q1 => omega); (case q2 => omega); (case q3 => omega); (case q4 => omega); k_whole; intro h' tk' hE'; walk_at "my after")))
local macro_rules | `(tactic| walk_at "call ref") => `(tactic| (k_here; (with_reducible show wpAny _ _ (call (Value.ref 403) [Value.ref _, Value.ref _] []) _ _ _); (refine wpAny_call ?_); k_dflt (refine' order_c ?X ?T ?hh ?hr ?hu ?hx ?hy ?q1 ?q2 ?q3 ?q4 ?_; (case X => walk_at "my xin"); (case T => walk_at "my top"); (case hh => exact rfl); (case hr => k_room); (case hu => k_units); (case hx => walk_at "my rg"); (case hy => walk_at "my rg"); (case q1 => omega); (case q2 => omega); (case q3 => omega); (case q4 => omega); k_whole; intro D' n' h' tk' hE' hM'; walk_at "my after made")))
local macro_rules | `(tactic| walk_at "call ref") => `(tactic| (k_here; (with_reducible show wpAny _ _ (call (Value.ref 298) [Value.ref _, Value.ref _] []) _ _ _); (refine wpAny_call ?_); k_dflt (refine' union_c ?X ?T ?hh ?hr ?hu ?hx ?hy ?q1 ?q2 ?q3 ?q4 ?_; (case X => walk_at "my xin"); (case T => walk_at "my top"); (case hh => exact rfl); (case hr => k_room); (case hu => k_units); (case hx => walk_at "my rg"); (case hy => walk_at "my rg"); (case q1 => omega); (case q2 => omega); (case q3 => omega); (case q4 => omega); k_whole; intro x' dx' k' u' h' tk' hE' hM'; walk_at "my after made")))
local macro_rules | `(tactic| walk_at "call ref") => `(tactic| (k_here; (with_reducible show wpAny _ _ (call (Value.ref 410) [Value.ref _, Value.ref _] []) _ _ _); (refine wpAny_call ?_); k_dflt (refine' due_c ?X0 ?T0 ?G ?hh ?hr ?hu ?b0 ?b1 ?c0 ?c1 ?lim1 ?lim2 ?_; (case G => exact Fr.keep (by k_asm)); (case X0 => assumption); (case T0 => assumption); (case hh => exact rfl); (case hr => k_room); (case hu => k_units); (case b1 => exact (news_at (by k_asm) (by k_mem)).2); (case b0 => exact (news_at (by k_asm) (by k_mem)).1); (case c1 => exact (news_at (by k_asm) (by k_mem)).2); (case c0 => exact (news_at (by k_asm) (by k_mem)).1); (case lim1 => assumption); (case lim2 => assumption); k_whole; intro D' n' h' tk' hE' hM'; walk_at "my after made")))
local macro_rules | `(tactic| walk_at "call ref") => `(tactic| (k_here; (with_reducible show wpAny _ _ (call (Value.ref 384) [Value.ref _, Value.ref _] []) _ _ _); (refine wpAny_call ?_); k_dflt (refine' within2_c ?X0 ?T0 ?G ?hh ?hr ?hu ?b0 ?b1 ?c0 ?c1 ?lim1 ?lim2 ?_; (case G => exact Fr.keep (by k_asm)); (case X0 => assumption); (case T0 => assumption); (case hh => exact rfl); (case hr => k_room); (case hu => k_units); (case b1 => exact (news_at (by k_asm) (by k_mem)).2); (case b0 => exact (news_at (by k_asm) (by k_mem)).1); (case c1 => exact (news_at (by k_asm) (by k_mem)).2); (case c0 => exact (news_at (by k_asm) (by k_mem)).1); (case lim1 => assumption); (case lim2 => assumption); k_whole; intro h' tk' hE'; walk_at "my after")))
local macro_rules | `(tactic| walk_at "call ref") => `(tactic| (k_here; (with_reducible show wpAny _ _ (call (Value.ref 389) [Value.ref _, Value.ref _] []) _ _ _); (refine wpAny_call ?_); k_dflt (refine' shared_dis ?X0 ?T0 ?G ?hh ?hr ?hu ?b0 ?b1 ?c0 ?c1 ?lim1 ?lim2 ?hdis ?_; (case G => exact Fr.keep (by k_asm)); (case X0 => assumption); (case T0 => assumption); (case hh => exact rfl); (case hr => k_room); (case hu => k_units); (case b1 => exact (news_at (by k_asm) (by k_mem)).2); (case b0 => exact (news_at (by k_asm) (by k_mem)).1); (case c1 => exact (news_at (by k_asm) (by k_mem)).2); (case c0 => exact (news_at (by k_asm) (by k_mem)).1); (case lim1 => assumption); (case lim2 => assumption); (case hdis => with_reducible assumption); k_whole; intro h' tk' hE'; walk_at "my after")))
local macro_rules | `(tactic| walk_at "call ref") => `(tactic| (k_here; (with_reducible show wpAny _ _ (call (Value.ref 389) [Value.ref _, Value.ref _] []) _ _ _); (refine wpAny_call ?_); k_dflt (refine' shared_meet ?X0 ?T0 ?G ?hh ?hr ?hu ?b0 ?b1 ?c0 ?c1 ?lim1 ?lim2 ?hdis ?_; (case G => exact Fr.keep (by k_asm)); (case X0 => assumption); (case T0 => assumption); (case hh => exact rfl); (case hr => k_room); (case hu => k_units); (case b1 => exact (news_at (by k_asm) (by k_mem)).2); (case b0 => exact (news_at (by k_asm) (by k_mem)).1); (case c1 => exact (news_at (by k_asm) (by k_mem)).2); (case c0 => exact (news_at (by k_asm) (by k_mem)).1); (case lim1 => assumption); (case lim2 => assumption); (case hdis => with_reducible assumption); k_whole; intro a' u' h' tk' hE' hM'; walk_at "my after made")))
local macro_rules | `(tactic| walk_at "my after loud") => `(tactic| ((with_reducible rename Ext (hideAll _ _) _ => hE'); (with_reducible rename Heap.UpToSlots _ _ => hU'); (with_reducible rename Fr _ _ _ _ => kF); (with_reducible rename News _ _ _ _ => kN); (have hX' := after_loud2 (by assumption) hE' hU' kF kN (by k_updF) (by assumption) rfl); (obtain ⟨sl', F', N'⟩ := hX'); (clear hE' hU'); (try dsimp only at N'); k_sweep))
local macro_rules | `(tactic| walk_at "call ref") => `(tactic| (k_here; (with_reducible show wpAny _ _ (call (Value.ref 417) [Value.ref _, Value.ref _, Value.int _ _] []) _ _ _); (refine wpAny_call ?_); k_dflt (first | (refine' both_dis ?hh ?hr ?hu ?hx ?hy ?XB ?TB ?B ?lim1 ?lim2 ?hdis ?_; (case B => (refine' below_two ?st ?f0 ?k0 ?F ?N ?m0 ?d0 ?k; (case st => exact rfl); (case F => k_asm); (case N => k_asm); (case f0 => assumption); (case k0 => assumption); (case m0 => k_mem); (case d0 => assumption); (case k => exact rfl))); (case XB => (refine' Frag.In.keeps ?X ?e; (case X => assumption); (case e => (refine' ext_two ?F ?N ?m0; (case F => k_asm); (case N => k_asm); (case m0 => k_mem))))); (case TB => (refine' TopRead.keeps ?X ?e; (case X => assumption); (case e => (refine' ext_two ?F ?N ?m0; (case F => k_asm); (case N => k_asm); (case m0 => k_mem))))); (case hh => exact rfl); (case hr => k_room); (case hu => k_units); (case hx => walk_at "my rg"); (case hy => walk_at "my rg"); (case lim1 => assumption); (case lim2 => assumption); (case hdis => with_reducible assumption); k_whole; intro h' tk' hE' hU'; walk_at "my after loud") | (refine' both_meet ?hh ?hr ?hu ?hx ?hy ?XB ?TB ?B ?lim1 ?lim2 ?hdis ?_; (case B => (refine' below_two ?st ?f0 ?k0 ?F ?N ?m0 ?d0 ?k; (case st => exact rfl); (case F => k_asm); (case N => k_asm); (case f0 => assumption); (case k0 => assumption); (case m0 => k_mem); (case d0 => assumption); (case k => exact rfl))); (case XB => (refine' Frag.In.keeps ?X ?e; (case X => assumption); (case e => (refine' ext_two ?F ?N ?m0; (case F => k_asm); (case N => k_asm); (case m0 => k_mem))))); (case TB => (refine' TopRead.keeps ?X ?e; (case X => assumption); (case e => (refine' ext_two ?F ?N ?m0; (case F => k_asm); (case N => k_asm); (case m0 => k_mem))))); (case hh => exact rfl); (case hr => k_room); (case hu => k_units); (case hx => walk_at "my rg"); (case hy => walk_at "my rg"); (case lim1 => assumption); (case lim2 => assumption); (case hdis => with_reducible assumption); k_whole; intro a' u' h' tk' hE' hM'; walk_at "my after made"))))
local macro_rules | `(tactic| walk_at "my ieq") => `(tactic| (first | rfl | (simp only [mn_if, mx_if]) | omega | (simp only [mn_if, mx_if]; omega)))
local macro_rules | `(tactic| walk_at "my beq") => `(tactic| (first | rfl | ((try rw [place_dec (by omega) (by omega)]); rw [Bool.eq_iff_iff]; (try unfold leB); (try unfold eqB); simp only [Bool.and_eq_true, Bool.not_eq_true', decide_eq_true_eq, decide_eq_false_iff_not, Bool.false_eq_true, iff_false, false_iff, iff_true, true_iff]; (first | omega | (rename disB _ _ _ _ _ _ _ _ = _ => hq; (first | have hq' := of_decide_eq_true hq | have hq' := of_decide_eq_false hq); omega)))))
local macro_rules | `(tactic| walk_at "compareOp NotEq ref ref") => `(tactic| (k_here; k_dflt (first | (refine' ne_lists_f ?a ?b ?z ?u ?_; (case a => exact News.isList (by k_asm) (by k_mem)); (case b => exact News.isList (by k_asm) (by k_mem)); (case z => exact ordL_bools _ _ _ _ _ _ _ _); (case u => k_units)) | (refine' ne_tup4 ?a ?b ?e1 ?e2 ?e3 ?e4 ?u ?_; (case a => exact (news_at (by k_asm) (by k_mem)).2); (case b => exact (news_at (by k_asm) (by k_mem)).2); (case e1 => walk_at "my ieq"); (case e2 => walk_at "my ieq"); (case e3 => walk_at "my ieq"); (case e4 => walk_at "my ieq"); (case u => k_units)))))
local macro_rules | `(tactic| walk_at "compareOp Eq ref ref") => `(tactic| (k_here; k_dflt (refine' eq_tup4 ?a ?b ?u ?_; (case a => exact (news_at (by k_asm) (by k_mem)).2); (case b => exact (news_at (by k_asm) (by k_mem)).2); (case u => k_units))))
local macro_rules | `(tactic| walk_at "compareOp Eq none ref") => `(tactic| (k_here; k_dflt (refine' eq_none_tup ?a ?u ?_; (case a => exact (news_at (by k_asm) (by k_mem)).2); (case u => k_units))))
local macro_rules | `(tactic| walk_at "compareOp IsNot bool bool") => `(tactic| (k_here; k_dflt (refine' isnot_f ?e ?_; (case e => walk_at "my beq"))))
local macro_rules | `(tactic| walk_at "compareOp Is bool bool") => `(tactic| (k_here; k_dflt (refine' is_t ?e ?_; (case e => walk_at "my beq"))))
local macro_rules | `(tactic| walk_at "compareOp In ref ref") => `(tactic| (k_here; k_dflt (refine' in_places ?a ?D ?P ?u ?_; (case a => exact (news_at (by k_asm) (by k_mem)).2); (case D => exact News.isList (by k_asm) (by k_mem)); (case P => assumption); (case u => k_units))))
local macro_rules | `(tactic| walk_at "call ref") => `(tactic| (k_here; (with_reducible show wpAny _ _ (call (Value.ref 379) [Value.ref _] []) _ _ _); (refine wpAny_call ?_); k_dflt (refine' places_c ?X0 ?T0 ?G ?hh ?hr ?hu ?b0 ?b1 ?lim ?_; (case G => exact Fr.keep (by k_asm)); (case X0 => assumption); (case T0 => assumption); (case hh => exact rfl); (case hr => k_room); (case hu => k_units); (case b1 => exact (news_at (by k_asm) (by k_mem)).2); (case b0 => exact (news_at (by k_asm) (by k_mem)).1); (case lim => assumption); k_whole); (try (with_reducible rename Places _ _ _ _ => kP)); intro D' h' tk' zs' hE' hDn' hL' hP'; (with_reducible rename Fr _ _ _ _ => kF); (with_reducible rename News _ _ _ _ => kN); (replace hP' := Places.low (Fr.keep kF) hP'); (have F' := Fr.keeps kF hE'); (obtain ⟨n', N'⟩ := news_list kF kN hE' hDn' hL'); (have O' := news_off kN hDn'); (try simp only [List.mem_cons, forall_eq_or_imp, List.not_mem_nil, false_implies, implies_true, and_true] at O'); (try (have kP' := Places.ext kP hE'; clear kP)); (clear hDn' hL' hE'); k_sweep))
local macro_rules | `(tactic| walk_at "call ref") => `(tactic| (k_here; (with_reducible show wpAny _ _ (call (Value.ref 374) [Value.ref _] []) _ _ _); (refine wpAny_call ?_); k_dflt (first
  | (refine' text_m ?X0 ?T0 ?G ?hh ?hr ?hu ?b0 ?b1 ?q1 ?q2 ?q3 ?q4 ?q5 ?q6 ?_; (case G => exact Fr.keep (by k_asm)); (case X0 => assumption); (case T0 => assumption); (case hh => exact rfl); (case hr => k_room); (case hu => k_units); (case b1 => exact (news_at (by k_asm) (by k_mem)).2); (case b0 => exact (news_at (by k_asm) (by k_mem)).1); (case q1 => omega); (case q2 => omega); (case q3 => omega); (case q4 => omega); (case q5 => omega); (case q6 => omega); k_whole; intro z' u' h' tk' hM' hE'; walk_at "my after")
  | (refine' text_m4 ?X0 ?T0 ?G ?hh ?hr ?hu ?b0 ?b1 ?q1 ?q2 ?q3 ?q4 ?q5 ?q6 ?_; (case G => exact Fr.keep (by k_asm)); (case X0 => assumption); (case T0 => assumption); (case hh => exact rfl); (case hr => k_room); (case hu => k_units); (case b1 => exact (news_at (by k_asm) (by k_mem)).2); (case b0 => exact (news_at (by k_asm) (by k_mem)).1); (case q1 => omega); (case q2 => omega); (case q3 => omega); (case q4 => omega); (case q5 => omega); (case q6 => omega); k_whole; intro z' u' h' tk' hM' hE'; walk_at "my after"))))
local macro_rules | `(tactic| walk_at "call ref") => `(tactic| (k_here; (with_reducible show wpAny _ _ (call (Value.ref 270) [Value.ref _, Value.str _ _] []) _ _ _); (refine wpAny_call ?_); k_dflt (refine' contains_c ?X ?T ?hh ?hr ?hu ?hx ?M ?q1 ?q2 ?_; (case X => walk_at "my xin"); (case T => walk_at "my top"); (case hh => exact rfl); (case hr => k_room); (case hu => k_units); (case hx => walk_at "my rg"); (case M => assumption); (case q1 => omega); (case q2 => omega); k_whole; intro h' tk' hE'; walk_at "my after")))
theorem held_meet {w : World} {A : Around} {s : Shared} {g0 : Heap} {p : Program} {loose : List Str} {mg mb : Str → Option Value} {R : Result → Shared → Prop} {x y b1 b2 L0 : Addr} {u1 u2 : Nat → Tok} {l t r f l' t' r' f' : Int} {env0 : Env} {o0 : Obj}
    (X0 : (hd.heap_39 w.params).In g0) (T0 : TopRead p loose mg mb g0) (G : Ext g0 s.heap) (hh : A.handled = none) (hroom : A.depth < 830) (hu : A.units < 8300) (hst : A.frames = some [env0]) (hf0 : env0.frame = some L0) (hk0 : env0.scope.kind ≠ .module)
    (hn0 : g0.get? L0 = none) (e0 : s.heap.get? L0 = some o0) (d0 : ∀ vs, o0.data ≠ .fields vs) (d1 : ∀ vs n, o0.data ≠ .seq vs n)
    (hn1 : g0.get? b1 = none) (e1 : s.heap.get? b1 = some (blockObj u1 l t r f)) (hn2 : g0.get? b2 = none) (e2 : s.heap.get? b2 = some (blockObj u2 l' t' r' f')) (lim1 : Lim l t r f) (lim2 : Lim l' t' r' f')
    (hx : RangeAt w.params (hideAll s.heap [L0]) x l t r f) (hy : RangeAt w.params (hideAll s.heap [L0]) y l' t' r' f') (hdis : disB l t r f l' t' r' f' = false)
    (h : ∀ h' tk, (∀ b o, s.heap.get? b = some o → b ≠ L0 → h'.get? b = some o) → (∃ sl, h'.get? L0 = some { o0 with slots := sl }) → R (.ok (.ret (.bool true))) { s with heap := h', toks := tk }) :
    codeAny (model prg w) A (.call (.ref 424) ⟨[.ref x, .ref y, .ref b1, .ref b2], []⟩) R s := by
  have n1 : @Ne Nat b1 L0 := by rintro rfl; rw [e1] at e0; exact d1 _ _ (congrArg Obj.data (Option.some.inj e0)).symm
  have n2 : @Ne Nat b2 L0 := by rintro rfl; rw [e2] at e0; exact d1 _ _ (congrArg Obj.data (Option.some.inj e0)).symm
  obtain ⟨gg, H, hget⟩ := hide_ex2 (objs := [(L0, o0), (b1, blockObj u1 l t r f), (b2, blockObj u2 l' t' r' f')]) G (by walk_at "my madeG")
  have up : ∀ {b o}, (hideAll s.heap [L0]).get? b = some o → (∀ vs n, o.data ≠ .seq vs n) → gg.get? b = some o := fun {b o} e nd => by
    refine hget b o (of_hideAll _ e) fun q hq z => ?_
    simp only [List.mem_cons, List.not_mem_nil, or_false] at hq
    rcases hq with rfl | rfl | rfl
    · rw [hideAll_none _ (by rw [← show L0 = b from z]; exact List.mem_cons_self ..)] at e; cases e
    · have e' := of_hideAll _ e; rw [← show b1 = b from z, e1] at e'; exact nd _ _ (congrArg Obj.data (Option.some.inj e')).symm
    · have e' := of_hideAll _ e; rw [← show b2 = b from z, e2] at e'; exact nd _ _ (congrArg Obj.data (Option.some.inj e')).symm
  have hxg : RangeAt w.params gg x l t r f := by obtain ⟨dx, k, u, h1, h2⟩ := hx; exact ⟨dx, k, u, up h1 (fun _ _ q => by cases q), up h2 (fun _ _ q => by cases q)⟩
  have hyg : RangeAt w.params gg y l' t' r' f' := by obtain ⟨dx, k, u, h1, h2⟩ := hy; exact ⟨dx, k, u, up h1 (fun _ _ q => by cases q), up h2 (fun _ _ q => by cases q)⟩
  clear hx hy up hget
  obtain ⟨dx, kx, ux, hx1, hx2⟩ := id hxg
  obtain ⟨dy, ky, uy, hy1, hy2⟩ := id hyg
  have X := Frag.In.keeps X0 H.low
  have T := T0.keeps H.low
  clear X0 T0
  have a := lim1
  have b := lim2
  unfold Lim at a b
  obtain ⟨a1, a2, a3, a4, a5, a6, a7, a8⟩ := a
  obtain ⟨c1, c2, c3, c4, c5, c6, c7, c8⟩ := b
  obtain ⟨hd0, dp0, fs0, gs0, un0⟩ := A
  obtain rfl : hd0 = none := hh
  obtain rfl : fs0 = some [env0] := hst
  dsimp only at hroom hu
  walk_at "my fill"
  refine' enter_sub (binds := [(Str.ofString "one", .ref x), (Str.ofString "other", .ref y), (Str.ofString "first", .ref b1), (Str.ofString "last", .ref b2)]) H.ext H.made H.size X T ?k8 ?k6 ?k7 ?k9 ?kB ?_ ?c2 ?c3 ?c4 ?c5
  walk_at "my entered"
  k_steps
  all_goals (
    rename News _ _ _ _ => kN
    rename Fr _ _ _ _ => kF
    refine' h _ _ (Hid.set (dx := L0) H kF kN ?m ?f ?nf ?sub) ⟨_, (news_at (b := L0) kN (by k_mem)).2⟩
    case m => k_mem
    case f => exact (Heap.get?_some_iff.mp (news_at (b := L0) kN (by k_mem)).2).2
    case nf => (intro q hq; simp only [List.mem_cons, List.not_mem_nil, or_false] at hq; rcases hq with rfl | rfl | rfl; (exact (Heap.get?_some_iff.mp e0).2); rfl; rfl)
    case sub => (intro q hq hne; simp only [List.mem_cons, List.not_mem_nil, or_false] at hq; rcases hq with rfl | rfl | rfl; (exact absurd rfl hne); k_mem; k_mem))

end
-- part P28
section
theorem lim_meet {l t r f l' t' r' f' : Int} (a : Lim l t r f) (b : Lim l' t' r' f') (d : disB l t r f l' t' r' f' = false) : Lim (max l l') (max t t') (min r r') (min f f') := by
  have d' := of_decide_eq_false d
  unfold Lim at a b ⊢
  omega
theorem eq_tup4_t {w : World} {A : Around} {E : Value → Shared → Prop} {s : Shared} {a b : Addr} {l t r f l' t' r' f' : Int} {t0 t1 t2 t3 v0 v1 v2 v3 : Tok} {Q : Value → Shared → Prop}
    (ha : s.heap.get? a = some (tupObj [.int l t0, .int t t1, .int r t2, .int f t3])) (hb : s.heap.get? b = some (tupObj [.int l' v0, .int t' v1, .int r' v2, .int f' v3])) (e1 : l = l') (e2 : t = t') (e3 : r = r') (e4 : f = f') (hu : A.units < cLine) (h : Q (.bool true) s) :
    wpAny (model prg w) A (compareOp .Eq (.ref a) (.ref b)) Q E s :=
  eq_tup4 ha hb hu (by rw [show eqB l t r f l' t' r' f' = true from decide_eq_true ⟨e1, e2, e3, e4⟩]; exact h)
theorem news_drop_rng {P : Params} {g h : Heap} {L x dx : Addr} {k u : Nat → Tok} {l t r f : Int} {rest : List (Addr × Obj)} (N : News g L h ((x, instObj 349 dx) :: (dx, rangeDict P k u l t r f) :: rest)) : News g L h rest := fun q hq => N q (List.mem_cons_of_mem _ (List.mem_cons_of_mem _ hq))
theorem after_loud3 {g h h' : Heap} {L L0 : Addr} {m : Str → Option Value} {news : List (Addr × Obj)} {o : Obj} {gf : Obj → List (Addr × Obj)} (e : Ext (hideAll h [L, L0]) h') (u : h.UpToSlots h') (F : Fr g L h m) (N : News g L h news) (U : UpdF L0 o news gf) (d0 : ∀ vs, o.data ≠ .fields vs) :
    ∃ sl, Fr g L h' m ∧ News g L h' (gf { o with slots := sl }) := by
  obtain ⟨pre, post, rfl, hg, n1, n2⟩ := U.split
  have m0 : (L0, o) ∈ pre ++ (L0, o) :: post := List.mem_append_right _ (List.mem_cons_self ..)
  obtain ⟨sl, hs⟩ := u _ _ (N _ m0).1 d0
  refine ⟨sl, ⟨u.ns F.ns, fun b ob q => e _ _ (ext_two F N m0 _ _ q), F.above⟩, ?_⟩
  rw [hg]
  have keep : ∀ q ∈ pre ++ (L0, o) :: post, q.1 ≠ L0 → h'.get? q.1 = some q.2 := fun q hq hne => e _ _ (hideAll_get _ (N q hq).1 fun hm => by
    simp only [List.mem_cons, List.not_mem_nil, or_false] at hm
    rcases hm with hm | hm
    · exact (N q hq).2.1 hm
    · exact hne hm)
  intro q hq
  rcases List.mem_append.mp hq with hq | hq
  · have := N q (List.mem_append_left _ hq)
    exact ⟨keep q (List.mem_append_left _ hq) (n1 q hq), this.2⟩
  rcases List.mem_cons.mp hq with rfl | hq
  · exact ⟨hs, (N _ m0).2⟩
  · have hq' := List.mem_append_right pre (List.mem_cons_of_mem (L0, o) hq)
    exact ⟨keep q hq' (n2 q hq), (N q hq').2⟩
theorem sub_nat {w : World} {A : Around} {E : Value → Shared → Prop} {s : Shared} {value slice : Expr} {D : Addr} {items : Array Value} {i : Int} {u : Tok} {v : Value} {Q : Value → Shared → Prop} (hD : s.heap.IsList D items) (h0 : 0 ≤ i) (h1 : i < 1000) (hv : items[i.toNat]? = some v) (h : Q v s)
    (hs : subscripted slice false (.ref D) (.int i u) = operate [.ref D, .int i u] (getItem (.ref D) (.int i u))) (hg : ∀ r, letTemporaryGo value (.ref D) r = pure ()) :
    wpAny (model prg w) A (subscriptTail value slice (.ref D) (.int i u)) Q E s :=
  item_list hD h0 (by omega) hv h hs hg
def Tri (l t r f l' t' r' f' l2 t2 r2 f2 : Int) : Prop := (l ≤ r' ∧ l' ≤ r ∧ l ≤ r2 ∧ l2 ≤ r ∧ l' ≤ r2 ∧ l2 ≤ r') ∧ (t ≤ f' ∧ t' ≤ f ∧ t ≤ f2 ∧ t2 ≤ f ∧ t' ≤ f2 ∧ t2 ≤ f')
theorem Tri.rot {l t r f l' t' r' f' l2 t2 r2 f2 : Int} (h : Tri l t r f l' t' r' f' l2 t2 r2 f2) : Tri l' t' r' f' l2 t2 r2 f2 l t r f :=
  ⟨⟨h.1.2.2.2.2.1, h.1.2.2.2.2.2, h.1.2.1, h.1.1, h.1.2.2.2.1, h.1.2.2.1⟩, ⟨h.2.2.2.2.2.1, h.2.2.2.2.2.2, h.2.2.1, h.2.1, h.2.2.2.2.1, h.2.2.2.1⟩⟩
theorem disB_no {l t r f l' t' r' f' : Int} (h1 : l ≤ r') (h2 : l' ≤ r) (h3 : t ≤ f') (h4 : t' ≤ f) : disB l t r f l' t' r' f' = false := decide_eq_false (by omega)
theorem tri_dis {l t r f l' t' r' f' l2 t2 r2 f2 : Int} (h : Tri l t r f l' t' r' f' l2 t2 r2 f2) : disB l t r f l' t' r' f' = false ∧ disB (max l l') (max t t') (min r r') (min f f') l2 t2 r2 f2 = false := by
  obtain ⟨⟨a1, a2, a3, a4, a5, a6⟩, b1, b2, b3, b4, b5, b6⟩ := h
  exact ⟨disB_no a1 a2 b1 b2, disB_no (Int.max_le.mpr ⟨a3, a5⟩) (Int.le_min.mpr ⟨a4, a6⟩) (Int.max_le.mpr ⟨b3, b5⟩) (Int.le_min.mpr ⟨b4, b6⟩)⟩
def NoTri (l t r f l' t' r' f' l2 t2 r2 f2 : Int) : Prop := ¬ Tri l t r f l' t' r' f' l2 t2 r2 f2
theorem none_dis {l t r f l' t' r' f' l2 t2 r2 f2 : Int} (d : disB l t r f l' t' r' f' = false) (h : NoTri l t r f l' t' r' f' l2 t2 r2 f2) : disB (max l l') (max t t') (min r r') (min f f') l2 t2 r2 f2 = true := by
  cases e : disB (max l l') (max t t') (min r r') (min f f') l2 t2 r2 f2 with
  | true => rfl
  | false =>
    have d' := of_decide_eq_false d
    have e' := of_decide_eq_false e
    simp only [not_or, Int.not_lt] at d' e'
    obtain ⟨d1, d2, d3, d4⟩ := d'
    obtain ⟨x1, x2, x3, x4⟩ := e'
    rw [Int.le_min] at x1 x3
    rw [Int.max_le] at x2 x4
    exact absurd ⟨⟨d2, d1, x2.1, x1.1, x2.2, x1.2⟩, d4, d3, x4.1, x3.1, x4.2, x3.2⟩ h
theorem mx3 (a b c : Int) : max (max a b) c = max (max b c) a := by rw [Int.max_comm (max b c) a, Int.max_assoc]
theorem mn3 (a b c : Int) : min (min a b) c = min (min b c) a := by rw [Int.min_comm (min b c) a, Int.min_assoc]
theorem inter_meet {w : World} {A : Around} {s : Shared} {p : Program} {loose : List Str} {mg mb : Str → Option Value} {R : Result → Shared → Prop} {x y : Addr} {l t r f l' t' r' f' : Int}
    (X : (hd.heap_39 w.params).In s.heap) (T : TopRead p loose mg mb s.heap) (hh : A.handled = none) (hroom : A.depth < 860) (hu : A.units < 8600) (hx : RangeAt w.params s.heap x l t r f) (hy : RangeAt w.params s.heap y l' t' r' f') (lim1 : Lim l t r f) (lim2 : Lim l' t' r' f') (hdis : disB l t r f l' t' r' f' = false)
    (hm : ∀ x dx k u h' tk, Ext s.heap h' → Made s.heap h' [(x, instObj 349 dx), (dx, rangeDict w.params k u (max l l') (max t t') (min r r') (min f f'))] → R (.ok (.ret (.ref x))) { s with heap := h', toks := tk }) :
    codeAny (model prg w) A (.call (.ref 291) ⟨[.ref x, .ref y], []⟩) R s := by
  have e' := of_decide_eq_false hdis
  unfold Lim at lim1 lim2
  exact inter_c X T hh hroom hu hx hy (by omega) (by omega) (by omega) (by omega) (by omega) (by omega) (by omega) (by omega) hm
theorem inter_dis {w : World} {A : Around} {s : Shared} {p : Program} {loose : List Str} {mg mb : Str → Option Value} {R : Result → Shared → Prop} {x y : Addr} {l t r f l' t' r' f' : Int} {base : Heap} {outer : List Env}
    (X : (hd.heap_39 w.params).In s.heap) (T : TopRead p loose mg mb s.heap) (hh : A.handled = none) (hroom : A.depth < 860) (hu : A.units < 8600) (hx : RangeAt w.params s.heap x l t r f) (hy : RangeAt w.params s.heap y l' t' r' f') (B : Below A base outer s.heap) (lim1 : Lim l t r f) (lim2 : Lim l' t' r' f') (hdis : disB l t r f l' t' r' f' = true)
    (hd' : ∀ e h' tk, RaisedN base outer e (.type "ValueError") [] h' → s.heap.UpToSlots h' → R (.error (.ref e)) { s with heap := h', toks := tk }) :
    codeAny (model prg w) A (.call (.ref 291) ⟨[.ref x, .ref y], []⟩) R s :=
  inter2_c X T hh hroom hu hx hy B lim1 lim2 (fun q => by rw [hdis] at q; cases q) (fun _ => hd')

local macro_rules | `(tactic| walk_at "my madeG") => `(tactic| (intro q hq; simp only [List.mem_cons, List.not_mem_nil, or_false] at hq; (first | (subst hq; exact ⟨by assumption, by assumption⟩) | (rcases hq with hq | hq | hq <;> (subst hq; exact ⟨by assumption, by assumption⟩)) | (rcases hq with hq | hq <;> (subst hq; exact ⟨by assumption, by assumption⟩)))))
local macro_rules | `(tactic| walk_at "my sub") => `(tactic| (intro q hq; simp only [List.mem_cons, List.not_mem_nil, or_false] at hq; (first | (subst hq; k_mem) | (rcases hq with hq | hq <;> (subst hq; k_mem)))))
local macro_rules | `(tactic| walk_at "my off") => `(tactic| (intro q1 hq1 q2 hq2; simp only [List.mem_cons, List.not_mem_nil, or_false] at hq1 hq2; (first | (subst hq1; subst hq2) | (subst hq1; rcases hq2 with hq2 | hq2 <;> subst hq2) | (rcases hq1 with hq1 | hq1 <;> subst hq1 <;> subst hq2) | (rcases hq1 with hq1 | hq1 <;> subst hq1 <;> rcases hq2 with hq2 | hq2 <;> subst hq2)); all_goals (refine neN ?_; (try dsimp only); omega)))
local macro_rules | `(tactic| walk_at "my after quiet") => `(tactic| (
  (with_reducible rename Made _ _ _ => hM');
  (with_reducible rename Ext _ _ => hE');
  (with_reducible rename Fr _ _ _ _ => kF);
  (with_reducible rename News _ _ _ _ => kN);
  (have F' := Fr.keeps kF hE');
  (have N' := news_ext kF kN hE' hM');
  (try simp only [List.cons_append, List.nil_append] at N');
  (try clear hE' hM');
  k_sweep;
  (try dsimp only [PySem.W.CmpBack])))
local macro_rules | `(tactic| walk_at "getAttr ref") => `(tactic| (k_here; (with_reducible show wpAny _ _ (getAttr (Value.ref _) (PySem.Str.ofString "bounds") _) _ _ _); k_dflt (refine' get_prop ?k1 ?k2 ?k3 ?k4 ?k5 ?k6 ?k7 ?k8 ?k9 ?_; (case k1 => k_asm); (case k2 => k_asm); (case k3 => k_inst); (case k4 => k_is); (case k5 => k_is); (case k6 => k_is); (case k7 => k_is); (case k8 => k_is); (case k9 => k_is); k_whole); k_dflt (refine' bounds_c ?X ?T ?hh ?hr ?hu ?hx ?_; (case X => walk_at "my xin"); (case T => walk_at "my top"); (case hh => exact rfl); (case hr => k_room); (case hu => k_units); (case hx => walk_at "my rg"); k_whole; intro a' u' h' tk' hE' hM'; (with_reducible rename News _ _ _ _ => kN); (replace kN := news_drop_rng kN); (try (replace kN := news_drop_rng kN)); walk_at "my after made"); (try dsimp only)))
local macro_rules | `(tactic| walk_at "eval Subscript") => `(tactic| (k_here; (refine stop_ ?_)))
local macro_rules | `(tactic| walk_at "my flat") => `(tactic| (repeat (with_reducible rename _ ∧ _ => hc'; obtain ⟨hc1', hc2'⟩ := hc')))
local macro_rules | `(tactic| k_ne) => `(tactic| ((refine neN ?_); (try dsimp only); first | assumption | (refine Ne.symm ?_; assumption) | (refine Nat.ne_of_lt ?_; assumption) | (refine Nat.ne_of_gt ?_; assumption)))
local macro_rules | `(tactic| walk_at "exec Return some") => `(tactic| (k_here; (with_reducible rename _ < _ => hc'; clear hc'); (repeat (with_reducible rename _ < _ => hc'; clear hc')); (repeat (with_reducible rename @Ne Addr _ _ => hc'; clear hc')); (repeat (with_reducible rename @Ne Nat _ _ => hc'; clear hc')); walk_at "exec Return some"))
local macro_rules | `(tactic| walk_at "call builtin:list.append") => `(tactic| (k_here; (with_reducible show wpAny _ _ (call (Value.builtin _) [Value.ref _, _]) _ _ _); walk_at "my flat"; k_dflt (refine' append_K ?k1 ?k2 ?k3 ?_ ?z; (case k1 => k_asm); (case k2 => k_asm); (case k3 => k_upd); (case z => (rw [sizeLine_eq]; exact Nat.le_of_ble_eq_true (by with_unfolding_all rfl))); k_whole); intro h' F' N'; (try k_sweep)))
local macro_rules | `(tactic| walk_at "exec For Tuple List cons nil") => `(tactic| (k_here; (rename Fr _ _ _ _ => lF'); (with_unfolding_all refine' For_turns lF' ?_; k_whole)))
local macro_rules | `(tactic| walk_at "call ref") => `(tactic| (k_here; (with_reducible show wpAny _ _ (call (Value.ref 291) [Value.ref _, Value.ref _] []) _ _ _); (refine wpAny_call ?_); k_dflt (refine' inter_meet ?X ?T ?hh ?hr ?hu ?hx ?hy ?lim1 ?lim2 ?hdis ?_; (case X => walk_at "my xin"); (case T => walk_at "my top"); (case hh => exact rfl); (case hr => k_room); (case hu => k_units); (case hx => walk_at "my rg"); (case hy => walk_at "my rg"); (case lim1 => assumption); (case lim2 => assumption); (case hdis => with_reducible assumption); k_whole; intro x' dx' k' u' h' tk' hE' hM'; walk_at "my after quiet")))
local macro_rules | `(tactic| walk_at "compareOp Eq ref ref") => `(tactic| (k_here; k_dflt (refine' eq_tup4_t ?a ?b ?e1 ?e2 ?e3 ?e4 ?u ?_; (case a => exact (news_at (by k_asm) (by k_mem)).2); (case b => exact (news_at (by k_asm) (by k_mem)).2); (case e1 => exact mx3 _ _ _); (case e2 => exact mx3 _ _ _); (case e3 => exact mn3 _ _ _); (case e4 => exact mn3 _ _ _); (case u => k_units))))
theorem three_some {w : World} {A : Around} {s : Shared} {g0 : Heap} {p : Program} {loose : List Str} {mg mb : Str → Option Value} {R : Result → Shared → Prop} {x y z D L0 : Addr} {n : Nat} {l t r f l' t' r' f' l2 t2 r2 f2 : Int} {env0 : Env} {o0 : Obj}
    (X0 : (hd.heap_39 w.params).In g0) (T0 : TopRead p loose mg mb g0) (G : Ext g0 s.heap) (hh : A.handled = none) (hroom : A.depth < 830) (hu : A.units < 8300) (hst : A.frames = some [env0]) (hf0 : env0.frame = some L0) (hk0 : env0.scope.kind ≠ .module)
    (hn0 : g0.get? L0 = none) (e0 : s.heap.get? L0 = some o0) (d0 : ∀ vs, o0.data ≠ .fields vs) (d1 : ∀ vs n, o0.data ≠ .seq vs n)
    (hn1 : g0.get? D = none) (e1 : s.heap.get? D = some { cls := .type "list", data := .seq #[.ref x, .ref y, .ref z] n }) (lim1 : Lim l t r f) (lim2 : Lim l' t' r' f') (lim3 : Lim l2 t2 r2 f2)
    (hx : RangeAt w.params (hideAll s.heap [L0]) x l t r f) (hy : RangeAt w.params (hideAll s.heap [L0]) y l' t' r' f') (hz : RangeAt w.params (hideAll s.heap [L0]) z l2 t2 r2 f2)
    (hT : Tri l t r f l' t' r' f' l2 t2 r2 f2)
    (h : ∀ h' tk, (∀ b o, s.heap.get? b = some o → b ≠ L0 → h'.get? b = some o) → (∃ sl, h'.get? L0 = some { o0 with slots := sl }) → R (.ok (.ret (.bool true))) { s with heap := h', toks := tk }) :
    codeAny (model prg w) A (.call (.ref 431) ⟨[.ref D], []⟩) R s := by
  have n1 : @Ne Nat D L0 := by rintro rfl; rw [e1] at e0; exact d1 _ _ (congrArg Obj.data (Option.some.inj e0)).symm
  obtain ⟨gg, H, hget⟩ := hide_ex2 (objs := [(L0, o0), (D, { cls := .type "list", data := .seq #[.ref x, .ref y, .ref z] n })]) G (by walk_at "my madeG")
  have up : ∀ {b o}, (hideAll s.heap [L0]).get? b = some o → (∀ vs n, o.data ≠ .seq vs n) → gg.get? b = some o := fun {b o} e nd => by
    refine hget b o (of_hideAll _ e) fun q hq z => ?_
    simp only [List.mem_cons, List.not_mem_nil, or_false] at hq
    rcases hq with rfl | rfl
    · rw [hideAll_none _ (by rw [← show L0 = b from z]; exact List.mem_cons_self ..)] at e; cases e
    · have e' := of_hideAll _ e; rw [← show D = b from z, e1] at e'; exact nd _ _ (congrArg Obj.data (Option.some.inj e')).symm
  have hxg : RangeAt w.params gg x l t r f := by obtain ⟨dx, k, u, h1, h2⟩ := hx; exact ⟨dx, k, u, up h1 (fun _ _ q => by cases q), up h2 (fun _ _ q => by cases q)⟩
  have hyg : RangeAt w.params gg y l' t' r' f' := by obtain ⟨dx, k, u, h1, h2⟩ := hy; exact ⟨dx, k, u, up h1 (fun _ _ q => by cases q), up h2 (fun _ _ q => by cases q)⟩
  have hzg : RangeAt w.params gg z l2 t2 r2 f2 := by obtain ⟨dx, k, u, h1, h2⟩ := hz; exact ⟨dx, k, u, up h1 (fun _ _ q => by cases q), up h2 (fun _ _ q => by cases q)⟩
  clear hx hy hz up hget
  obtain ⟨dx, kx, ux, hx1, hx2⟩ := id hxg
  obtain ⟨dy, ky, uy, hy1, hy2⟩ := id hyg
  obtain ⟨dz, kz, uz, hz1, hz2⟩ := id hzg
  have X := Frag.In.keeps X0 H.low
  have T := T0.keeps H.low
  clear X0 T0
  have dm1 := (tri_dis hT).1
  have dm2 := (tri_dis hT).2
  have dm3 := (tri_dis hT.rot).1
  have dm4 := (tri_dis hT.rot).2
  have dm5 := (tri_dis hT.rot.rot).1
  have dm6 := (tri_dis hT.rot.rot).2
  have lim4 := lim_meet lim1 lim2 dm1
  have lim5 := lim_meet lim2 lim3 dm3
  have lim6 := lim_meet lim3 lim1 dm5
  clear hT
  obtain ⟨hd0, dp0, fs0, gs0, un0⟩ := A
  obtain rfl : hd0 = none := hh
  obtain rfl : fs0 = some [env0] := hst
  dsimp only at hroom hu
  have hroom2 : dp0 + 1 ≤ 830 := hroom
  have hu2 : un0 + 1 ≤ 8300 := hu
  walk_at "my fill"
  refine' enter_sub (binds := [(Str.ofString "ranges", .ref D)]) H.ext H.made H.size X T ?k8 ?k6 ?k7 ?k9 ?kB ?_ ?c2 ?c3 ?c4 ?c5
  walk_at "my entered"
  k_steps
  all_goals (
    unfold Stop
    rename News _ _ _ _ => kN
    rename Fr _ _ _ _ => kF
    refine Subscript_ ?_
    refine nameX_L (cl := []) (v := .ref _) kF (by rfl) ?_
    refine wpAny_Constant_int ?_
    refine' sub_nat ?D ?a ?b ?v ?_ ?q ?g
    case D => exact News.isList (by k_asm) (by k_mem)
    case a => decide
    case b => decide
    case v => (first | exact (rfl : _ = some (Value.ref _)) | exact (rfl : _ = some Value.none))
    case q => with_unfolding_all rfl
    case g => (intro _; with_unfolding_all rfl)
    k_steps)
  all_goals (
    unfold Stop
    rename News _ _ _ _ => kN
    rename Fr _ _ _ _ => kF
    refine Subscript_ ?_
    refine nameX_L (cl := []) (v := .ref _) kF (by rfl) ?_
    refine wpAny_Constant_int ?_
    refine' sub_nat ?D ?a ?b ?v ?_ ?q ?g
    case D => exact News.isList (by k_asm) (by k_mem)
    case a => decide
    case b => decide
    case v => (first | exact (rfl : _ = some (Value.ref _)) | exact (rfl : _ = some Value.none))
    case q => with_unfolding_all rfl
    case g => (intro _; with_unfolding_all rfl)
    k_steps)
  all_goals (
    unfold Stop
    rename News _ _ _ _ => kN
    rename Fr _ _ _ _ => kF
    refine Subscript_ ?_
    refine nameX_L (cl := []) (v := .ref _) kF (by rfl) ?_
    refine wpAny_Constant_int ?_
    refine' sub_nat ?D ?a ?b ?v ?_ ?q ?g
    case D => exact News.isList (by k_asm) (by k_mem)
    case a => decide
    case b => decide
    case v => (first | exact (rfl : _ = some (Value.ref _)) | exact (rfl : _ = some Value.none))
    case q => with_unfolding_all rfl
    case g => (intro _; with_unfolding_all rfl)
    k_steps)
  all_goals (
    unfold Stop
    rename News _ _ _ _ => kN
    rename Fr _ _ _ _ => kF
    refine Subscript_ ?_
    refine nameX_L (cl := []) (v := .ref _) kF (by rfl) ?_
    refine wpAny_Constant_int ?_
    refine' sub_nat ?D ?a ?b ?v ?_ ?q ?g
    case D => exact News.isList (by k_asm) (by k_mem)
    case a => decide
    case b => decide
    case v => (first | exact (rfl : _ = some (Value.ref _)) | exact (rfl : _ = some Value.none))
    case q => with_unfolding_all rfl
    case g => (intro _; with_unfolding_all rfl)
    k_steps)
  all_goals (
    rename News _ _ _ _ => kN
    rename Fr _ _ _ _ => kF
    refine' h _ _ (Hid.set (dx := L0) H kF kN ?m ?f ?nf ?sub) ⟨_, (news_at (b := L0) kN (by k_mem)).2⟩
    case m => k_mem
    case f => exact (Heap.get?_some_iff.mp (news_at (b := L0) kN (by k_mem)).2).2
    case nf => (intro q hq; simp only [List.mem_cons, List.not_mem_nil, or_false] at hq; rcases hq with rfl | rfl; (exact (Heap.get?_some_iff.mp e0).2); rfl)
    case sub => (intro q hq hne; simp only [List.mem_cons, List.not_mem_nil, or_false] at hq; rcases hq with rfl | rfl; (exact absurd rfl hne); k_mem))

end
-- part P29
section
local macro_rules | `(tactic| walk_at "my pad 0") => `(tactic| skip)

local macro_rules | `(tactic| walk_at "my madeG") => `(tactic| (intro q hq; simp only [List.mem_cons, List.not_mem_nil, or_false] at hq; (first | (subst hq; exact ⟨by assumption, by assumption⟩) | (rcases hq with hq | hq | hq <;> (subst hq; exact ⟨by assumption, by assumption⟩)) | (rcases hq with hq | hq <;> (subst hq; exact ⟨by assumption, by assumption⟩)))))
local macro_rules | `(tactic| walk_at "my sub") => `(tactic| (intro q hq; simp only [List.mem_cons, List.not_mem_nil, or_false] at hq; (first | (subst hq; k_mem) | (rcases hq with hq | hq <;> (subst hq; k_mem)))))
local macro_rules | `(tactic| walk_at "my off") => `(tactic| (intro q1 hq1 q2 hq2; simp only [List.mem_cons, List.not_mem_nil, or_false] at hq1 hq2; (first | (subst hq1; subst hq2) | (subst hq1; rcases hq2 with hq2 | hq2 <;> subst hq2) | (rcases hq1 with hq1 | hq1 <;> subst hq1 <;> subst hq2) | (rcases hq1 with hq1 | hq1 <;> subst hq1 <;> rcases hq2 with hq2 | hq2 <;> subst hq2)); all_goals (refine neN ?_; (try dsimp only); omega)))
local macro_rules | `(tactic| walk_at "my after quiet") => `(tactic| (
  (with_reducible rename Made _ _ _ => hM');
  (with_reducible rename Ext _ _ => hE');
  (with_reducible rename Fr _ _ _ _ => kF);
  (with_reducible rename News _ _ _ _ => kN);
  (have F' := Fr.keeps kF hE');
  (have N' := news_ext kF kN hE' hM');
  (try simp only [List.cons_append, List.nil_append] at N');
  (try clear hE' hM');
  k_sweep;
  (try dsimp only [PySem.W.CmpBack])))
local macro_rules | `(tactic| walk_at "getAttr ref") => `(tactic| (k_here; (with_reducible show wpAny _ _ (getAttr (Value.ref _) (PySem.Str.ofString "bounds") _) _ _ _); k_dflt (refine' get_prop ?k1 ?k2 ?k3 ?k4 ?k5 ?k6 ?k7 ?k8 ?k9 ?_; (case k1 => k_asm); (case k2 => k_asm); (case k3 => k_inst); (case k4 => k_is); (case k5 => k_is); (case k6 => k_is); (case k7 => k_is); (case k8 => k_is); (case k9 => k_is); k_whole); k_dflt (refine' bounds_c ?X ?T ?hh ?hr ?hu ?hx ?_; (case X => walk_at "my xin"); (case T => walk_at "my top"); (case hh => exact rfl); (case hr => k_room); (case hu => k_units); (case hx => walk_at "my rg"); k_whole; intro a' u' h' tk' hE' hM'; (with_reducible rename News _ _ _ _ => kN); (replace kN := news_drop_rng kN); (try (replace kN := news_drop_rng kN)); walk_at "my after made"); (try dsimp only)))
local macro_rules | `(tactic| walk_at "eval Subscript") => `(tactic| (k_here; (refine stop_ ?_)))
local macro_rules | `(tactic| walk_at "my flat") => `(tactic| (repeat (with_reducible rename _ ∧ _ => hc'; obtain ⟨hc1', hc2'⟩ := hc')))
local macro_rules | `(tactic| k_ne) => `(tactic| ((refine neN ?_); (try dsimp only); first | assumption | (refine Ne.symm ?_; assumption) | (refine Nat.ne_of_lt ?_; assumption) | (refine Nat.ne_of_gt ?_; assumption)))
local macro_rules | `(tactic| walk_at "exec Return some") => `(tactic| (k_here; (with_reducible rename _ < _ => hc'; clear hc'); (repeat (with_reducible rename _ < _ => hc'; clear hc')); (repeat (with_reducible rename @Ne Addr _ _ => hc'; clear hc')); (repeat (with_reducible rename @Ne Nat _ _ => hc'; clear hc')); walk_at "exec Return some"))
local macro_rules | `(tactic| walk_at "call builtin:list.append") => `(tactic| (k_here; (with_reducible show wpAny _ _ (call (Value.builtin _) [Value.ref _, _]) _ _ _); walk_at "my flat"; k_dflt (refine' append_K ?k1 ?k2 ?k3 ?_ ?z; (case k1 => k_asm); (case k2 => k_asm); (case k3 => k_upd); (case z => (rw [sizeLine_eq]; exact Nat.le_of_ble_eq_true (by with_unfolding_all rfl))); k_whole); intro h' F' N'; (try k_sweep)))
local macro_rules | `(tactic| walk_at "exec For Tuple List cons nil") => `(tactic| (k_here; (rename Fr _ _ _ _ => lF'); (with_unfolding_all refine' For_turns lF' ?_; k_whole)))
local macro_rules | `(tactic| walk_at "call ref") => `(tactic| (k_here; (with_reducible show wpAny _ _ (call (Value.ref 291) [Value.ref _, Value.ref _] []) _ _ _); (refine wpAny_call ?_); k_dflt (first | (refine' inter_dis ?X ?T ?hh ?hr ?hu ?hx ?hy ?B ?lim1 ?lim2 ?hdis ?_; (case X => walk_at "my xin"); (case T => walk_at "my top"); (case hh => exact rfl); (case hr => k_room); (case hu => k_units); (case hx => walk_at "my rg"); (case hy => walk_at "my rg"); (case lim1 => assumption); (case lim2 => assumption); (case hdis => with_reducible assumption); (case B => (refine' below_two ?st ?f0 ?k0 ?F ?N ?m0 ?d0 ?k; (case st => exact rfl); (case F => k_asm); (case N => k_asm); (case f0 => assumption); (case k0 => assumption); (case m0 => k_mem); (case d0 => assumption); (case k => exact rfl))); k_whole; intro e' h' tk' hR' hU'; (try dsimp only [PySem.W.CmpBack])) | (refine' inter2_c ?X ?T ?hh ?hr ?hu ?hx ?hy ?B ?lim1 ?lim2 ?_ ?_; (case X => walk_at "my xin"); (case T => walk_at "my top"); (case hh => exact rfl); (case hr => k_room); (case hu => k_units); (case hx => walk_at "my rg"); (case hy => walk_at "my rg"); (case lim1 => assumption); (case lim2 => assumption); (case B => (refine' below_two ?st ?f0 ?k0 ?F ?N ?m0 ?d0 ?k; (case st => exact rfl); (case F => k_asm); (case N => k_asm); (case f0 => assumption); (case k0 => assumption); (case m0 => k_mem); (case d0 => assumption); (case k => exact rfl))); k_whole; all_goals (intro hdis'; first | (intro x' dx' k' u' h' tk' hE' hM'; (have hlim' := lim_meet (by assumption) (by assumption) hdis'); (have hd2' := none_dis hdis' (by assumption)); (clear hdis'); walk_at "my after quiet") | (intro e' h' tk' hR' hU'; (clear hdis'); (try dsimp only [PySem.W.CmpBack])))))))
local macro_rules | `(tactic| walk_at "noteFrame ref") => `(tactic| k_dflt (k_here; (rename RaisedN _ _ _ _ _ _ => kR); (rename Heap.UpToSlots _ _ => kU); (with_reducible rename Fr _ _ _ _ => kF); (with_reducible rename News _ _ _ _ => kN); (try (replace kN := news_drop_rng kN)); (try (replace kN := news_drop_rng kN)); (refine' caught_own ?st kF kR ?hb kU ?X ?T ?ex ?_ ?k ?x ?E; (case st => exact rfl); (case hb => (refine' ext_two kF kN ?m0; (case m0 => k_mem))); (case X => assumption); (case T => assumption); (case ex => k_is); (case k => exact rfl); (case x => exact rfl); (case E => passes_own)); intro h9 F9 S9 U9; walk_at "my flat"; (have hX' := after_loud3 S9 U9 kF kN (by k_updF) (by assumption)); (obtain ⟨sl', F', N'⟩ := hX'); (clear kR kU S9 U9 F9); (try dsimp only at N'); k_sweep))
theorem three_none {w : World} {A : Around} {s : Shared} {g0 : Heap} {p : Program} {loose : List Str} {mg mb : Str → Option Value} {R : Result → Shared → Prop} {x y z D L0 : Addr} {n : Nat} {l t r f l' t' r' f' l2 t2 r2 f2 : Int} {env0 : Env} {o0 : Obj}
    (X0 : (hd.heap_39 w.params).In g0) (T0 : TopRead p loose mg mb g0) (G : Ext g0 s.heap) (hh : A.handled = none) (hroom : A.depth < 830) (hu : A.units < 8300) (hst : A.frames = some [env0]) (hf0 : env0.frame = some L0) (hk0 : env0.scope.kind ≠ .module)
    (hn0 : g0.get? L0 = none) (e0 : s.heap.get? L0 = some o0) (d0 : ∀ vs, o0.data ≠ .fields vs) (d1 : ∀ vs n, o0.data ≠ .seq vs n)
    (hn1 : g0.get? D = none) (e1 : s.heap.get? D = some { cls := .type "list", data := .seq #[.ref x, .ref y, .ref z] n }) (lim1 : Lim l t r f) (lim2 : Lim l' t' r' f') (lim3 : Lim l2 t2 r2 f2)
    (hx : RangeAt w.params (hideAll s.heap [L0]) x l t r f) (hy : RangeAt w.params (hideAll s.heap [L0]) y l' t' r' f') (hz : RangeAt w.params (hideAll s.heap [L0]) z l2 t2 r2 f2)
    (hT : ¬ (Tri l t r f l' t' r' f' l2 t2 r2 f2))
    (h : ∀ h' tk, (∀ b o, s.heap.get? b = some o → b ≠ L0 → h'.get? b = some o) → (∃ sl, h'.get? L0 = some { o0 with slots := sl }) → R (.ok (.ret (.bool true))) { s with heap := h', toks := tk }) :
    codeAny (model prg w) A (.call (.ref 431) ⟨[.ref D], []⟩) R s := by
  have n1 : @Ne Nat D L0 := by rintro rfl; rw [e1] at e0; exact d1 _ _ (congrArg Obj.data (Option.some.inj e0)).symm
  obtain ⟨gg, H, hget⟩ := hide_ex2 (objs := [(L0, o0), (D, { cls := .type "list", data := .seq #[.ref x, .ref y, .ref z] n })]) G (by walk_at "my madeG")
  have up : ∀ {b o}, (hideAll s.heap [L0]).get? b = some o → (∀ vs n, o.data ≠ .seq vs n) → gg.get? b = some o := fun {b o} e nd => by
    refine hget b o (of_hideAll _ e) fun q hq z => ?_
    simp only [List.mem_cons, List.not_mem_nil, or_false] at hq
    rcases hq with rfl | rfl
    · rw [hideAll_none _ (by rw [← show L0 = b from z]; exact List.mem_cons_self ..)] at e; cases e
    · have e' := of_hideAll _ e; rw [← show D = b from z, e1] at e'; exact nd _ _ (congrArg Obj.data (Option.some.inj e')).symm
  have hxg : RangeAt w.params gg x l t r f := by obtain ⟨dx, k, u, h1, h2⟩ := hx; exact ⟨dx, k, u, up h1 (fun _ _ q => by cases q), up h2 (fun _ _ q => by cases q)⟩
  have hyg : RangeAt w.params gg y l' t' r' f' := by obtain ⟨dx, k, u, h1, h2⟩ := hy; exact ⟨dx, k, u, up h1 (fun _ _ q => by cases q), up h2 (fun _ _ q => by cases q)⟩
  have hzg : RangeAt w.params gg z l2 t2 r2 f2 := by obtain ⟨dx, k, u, h1, h2⟩ := hz; exact ⟨dx, k, u, up h1 (fun _ _ q => by cases q), up h2 (fun _ _ q => by cases q)⟩
  clear hx hy hz up hget
  obtain ⟨dx, kx, ux, hx1, hx2⟩ := id hxg
  obtain ⟨dy, ky, uy, hy1, hy2⟩ := id hyg
  obtain ⟨dz, kz, uz, hz1, hz2⟩ := id hzg
  have X := Frag.In.keeps X0 H.low
  have T := T0.keeps H.low
  clear X0 T0
  have nT1 : NoTri l t r f l' t' r' f' l2 t2 r2 f2 := hT
  have nT2 : NoTri l' t' r' f' l2 t2 r2 f2 l t r f := fun z => hT z.rot.rot
  have nT3 : NoTri l2 t2 r2 f2 l t r f l' t' r' f' := fun z => hT z.rot
  clear hT
  obtain ⟨hd0, dp0, fs0, gs0, un0⟩ := A
  obtain rfl : hd0 = none := hh
  obtain rfl : fs0 = some [env0] := hst
  dsimp only at hroom hu
  have hroom2 : dp0 + 1 ≤ 830 := hroom
  have hu2 : un0 + 1 ≤ 8300 := hu
  walk_at "my fill"
  refine' enter_sub (binds := [(Str.ofString "ranges", .ref D)]) H.ext H.made H.size X T ?k8 ?k6 ?k7 ?k9 ?kB ?_ ?c2 ?c3 ?c4 ?c5
  walk_at "my entered"
  k_steps
  all_goals (
    unfold Stop
    rename News _ _ _ _ => kN
    rename Fr _ _ _ _ => kF
    refine Subscript_ ?_
    refine nameX_L (cl := []) (v := .ref _) kF (by rfl) ?_
    refine wpAny_Constant_int ?_
    refine' sub_nat ?D ?a ?b ?v ?_ ?q ?g
    case D => exact News.isList (by k_asm) (by k_mem)
    case a => decide
    case b => decide
    case v => (first | exact (rfl : _ = some (Value.ref _)) | exact (rfl : _ = some Value.none))
    case q => with_unfolding_all rfl
    case g => (intro _; with_unfolding_all rfl)
    k_steps)
  all_goals (
    unfold Stop
    rename News _ _ _ _ => kN
    rename Fr _ _ _ _ => kF
    refine Subscript_ ?_
    refine nameX_L (cl := []) (v := .ref _) kF (by rfl) ?_
    refine wpAny_Constant_int ?_
    refine' sub_nat ?D ?a ?b ?v ?_ ?q ?g
    case D => exact News.isList (by k_asm) (by k_mem)
    case a => decide
    case b => decide
    case v => (first | exact (rfl : _ = some (Value.ref _)) | exact (rfl : _ = some Value.none))
    case q => with_unfolding_all rfl
    case g => (intro _; with_unfolding_all rfl)
    k_steps)
  all_goals (
    unfold Stop
    rename News _ _ _ _ => kN
    rename Fr _ _ _ _ => kF
    refine Subscript_ ?_
    refine nameX_L (cl := []) (v := .ref _) kF (by rfl) ?_
    refine wpAny_Constant_int ?_
    refine' sub_nat ?D ?a ?b ?v ?_ ?q ?g
    case D => exact News.isList (by k_asm) (by k_mem)
    case a => decide
    case b => decide
    case v => (first | exact (rfl : _ = some (Value.ref _)) | exact (rfl : _ = some Value.none))
    case q => with_unfolding_all rfl
    case g => (intro _; with_unfolding_all rfl)
    k_steps)
  all_goals (
    unfold Stop
    rename News _ _ _ _ => kN
    rename Fr _ _ _ _ => kF
    refine Subscript_ ?_
    refine nameX_L (cl := []) (v := .ref _) kF (by rfl) ?_
    refine wpAny_Constant_int ?_
    refine' sub_nat ?D ?a ?b ?v ?_ ?q ?g
    case D => exact News.isList (by k_asm) (by k_mem)
    case a => decide
    case b => decide
    case v => (first | exact (rfl : _ = some (Value.ref _)) | exact (rfl : _ = some Value.none))
    case q => with_unfolding_all rfl
    case g => (intro _; with_unfolding_all rfl)
    k_steps)
  all_goals (
    rename News _ _ _ _ => kN
    rename Fr _ _ _ _ => kF
    refine' h _ _ (Hid.set (dx := L0) H kF kN ?m ?f ?nf ?sub) ⟨_, (news_at (b := L0) kN (by k_mem)).2⟩
    case m => k_mem
    case f => exact (Heap.get?_some_iff.mp (news_at (b := L0) kN (by k_mem)).2).2
    case nf => (intro q hq; simp only [List.mem_cons, List.not_mem_nil, or_false] at hq; rcases hq with rfl | rfl; (exact (Heap.get?_some_iff.mp e0).2); rfl)
    case sub => (intro q hq hne; simp only [List.mem_cons, List.not_mem_nil, or_false] at hq; rcases hq with rfl | rfl; (exact absurd rfl hne); k_mem))

end
-- part PJ
section
-- assigning two local names from a tuple; a for statement over any iterator that keeps everything but the frame; zip of two lists
def upd2 (m : Str → Option Value) (a : Str) (x : Value) (b : Str) (y : Value) : Str → Option Value := fun z => if z = b then some y else if z = a then some x else m z
theorem assign_two {w : World} {A : Around} {E : Value → Shared → Prop} {s : Shared} {env : Env} {a b : Str} {pa pb pt : Pos} {k : Nat} {T : Addr} {x y : Value} {m : Str → Option Value} {Q : Unit → Shared → Prop}
    (hh : A.handled = none) (hT : s.heap.IsTuple T #[x, y]) (hC : s.heap.Ns env.locals m) (ka : env.kindOf a = some .local) (kb : env.kindOf b = some .local) (hp : (env.scope.kind == .class || (env.scope.kind == .module && env.locals != env.globals)) = false)
    (h : ∀ h' tk, h'.Ns env.locals (upd2 m a x b y) → (∀ c o, c ≠ env.locals → s.heap.get? c = some o → h'.get? c = some o) → Q () { s with heap := h', toks := tk }) :
    wpAny (model prg w) A (assign (.Tuple [.Name a pa, .Name b pb] k pt) env (.ref T)) Q E s := by
  refine wpAny_assign_Tuple hh hT rfl rfl fun h' he => ?_
  have keep : ∀ c o, s.heap.get? c = some o → h'.get? c = some o := fun c o e => he c o (Nat.ne_of_lt (Heap.lt_size e)) e
  have hC' : h'.Ns env.locals m := by obtain ⟨o, es, ep, ho, r⟩ := hC; exact ⟨o, es, ep, keep _ _ ho, r⟩
  refine wpAny_assignInOrder_more (wpAny_assign_Name (wpAny_storeName_local ka hC' (fun h2 hn2 hs2 => ?_) hp))
  refine wpAny_assignInOrder_more (wpAny_assign_Name (wpAny_storeName_local kb hn2 (fun h3 hn3 hs3 => ?_) hp))
  exact wpAny_assignInOrder_none (h h3 _ hn3 fun c o hc e => hs3.extBut _ _ hc (hs2.extBut _ _ hc (keep _ _ e)))
def ForTurn (L : Addr) (J : (Str → Option Value) → Prop) (Q : Flow → Shared → Prop) (h : Heap) (s₂ : Shared) (f : Flow) (s' : Shared) : Prop :=
  match f with
  | .ret v => Q (.ret v) s'
  | .brk => Q .next s'
  | _ => ∃ h' tk m', s' = { s₂ with heap := h', toks := tk } ∧ (∀ b o, b ≠ L → h.get? b = some o → h'.get? b = some o) ∧ h'.Ns L m' ∧ J m'
def ForNext (w : World) (A : Around) (env : Env) (target : Expr) (body : List Stmt) (Q : Flow → Shared → Prop) (E : Value → Shared → Prop) (it : Value) (s₂ : Shared) : Prop :=
  ∃ (I : Addr) (fp wr : List Addr) (n : Nat) (P Md : Nat → Value → Heap → Prop) (St : Nat → Heap → Prop) (m : Str → Option Value) (J : (Str → Option Value) → Prop),
    it = .ref I ∧ KTurns prg w A target I fp wr n P Md St ∧ env.locals ∉ fp ∧ St 0 s₂.heap ∧ s₂.heap.Ns env.locals m ∧ J m ∧
    (∀ i v h tk m₁, i < n → P i v h → J m₁ → h.Ns env.locals m₁ → (∀ b o, b ≠ env.locals → b ∉ wr → s₂.heap.get? b = some o → h.get? b = some o) →
      wpAny (model prg w) A (assign target env v) (fun _ s₃ => wpAny (model prg w) A (execs body env) (ForTurn env.locals J Q h s₂) E s₃) E { s₂ with heap := h, toks := tk }) ∧
    (∀ h tk m₁, J m₁ → h.Ns env.locals m₁ → (∀ b o, b ≠ env.locals → b ∉ wr → s₂.heap.get? b = some o → h.get? b = some o) → Q .next { s₂ with heap := h, toks := tk })
theorem for_own {w : World} {A : Around} {E : Value → Shared → Prop} {s : Shared} {env : Env} {target iter : Expr} {body : List Stmt} {pos : Pos} {Q : Flow → Shared → Prop}
    (hE : PassesOwn (model prg w) A env E) (hs : ∀ x, foldedSetIterable iter env x = pure x)
    (h : wpAny (model prg w) A (eval iter env) (fun xv s₁ => wpAny (model prg w) A (pyIter xv) (fun it s₂ => ForNext w A env target body Q E it s₂) E s₁) E s) :
    wpAny (model prg w) A (exec (.For target iter body [] pos) env) Q E s := by
  refine wpAny_For (wpAny_mono h (fun xv s₁ h₁ => wpAny_mono h₁ (fun it s₂ h₂ => ?_) fun _ _ e => e) fun _ _ e => e) hs
  obtain ⟨I, fp, wr, n, P, Md, St, m, J, rfl, W, hLf, hst, hC, hJ, turn, fin⟩ := h₂
  have hLw : env.locals ∉ wr := fun hm => hLf (W.sub _ hm)
  refine codeAny_forLoop_any
    (fun k s' => ∃ h' tk m' i, s' = { s₂ with heap := h', toks := tk } ∧ St i h' ∧ h'.Ns env.locals m' ∧ J m' ∧ (∀ b o, b ≠ env.locals → b ∉ wr → s₂.heap.get? b = some o → h'.get? b = some o) ∧ i ≤ n ∧ k = n + 1 - i) ?_ (n + 1)
    ⟨s₂.heap, s₂.toks, m, 0, rfl, hst, hC, hJ, fun _ _ _ _ e => e, Nat.zero_le _, rfl⟩
  rintro k s' ⟨h', tk, m', i, rfl, hst', hC', hJ', hk, hi, rfl⟩
  rcases Nat.lt_or_ge i n with hlt | hge
  · refine W.item i _ _ _ hlt hst' fun v h₁ tk₁ hMd hk₁ => ?_
    refine W.go i v _ _ _ hMd fun h₂ hP hst₂ hk₂ => ?_
    have k12 : ∀ b o, b ∉ wr → h'.get? b = some o → h₂.get? b = some o := fun b o hb e => hk₂ b o hb (hk₁ b o hb e)
    have hC₂ : h₂.Ns env.locals m' := by obtain ⟨o, es, ep, ho, r⟩ := hC'; exact ⟨o, es, ep, k12 _ _ hLw ho, r⟩
    refine wpAny_mono (turn i v h₂ tk₁ m' hlt hP hJ' hC₂ fun b o a1 a2 e => k12 b o a2 (hk b o a1 a2 e)) (fun _ s3 h3 => wpAny_mono (wpAny_passesOwn hE h3) (fun f s4 h4 => ?_) fun _ _ e => e) hE
    have cont : (∃ h5 tk5 m5, s4 = { s₂ with heap := h5, toks := tk5 } ∧ (∀ b o, b ≠ env.locals → h₂.get? b = some o → h5.get? b = some o) ∧ h5.Ns env.locals m5 ∧ J m5) →
        ∃ m, m < n + 1 - i ∧ ∃ h' tk m' i, s4 = { s₂ with heap := h', toks := tk } ∧ St i h' ∧ h'.Ns env.locals m' ∧ J m' ∧ (∀ b o, b ≠ env.locals → b ∉ wr → s₂.heap.get? b = some o → h'.get? b = some o) ∧ i ≤ n ∧ m = n + 1 - i := by
      rintro ⟨h5, tk5, m5, rfl, k5, hn5, hJ5⟩
      exact ⟨n + 1 - (i + 1), by omega, h5, tk5, m5, i + 1, rfl, W.frame _ _ _ hst₂ (fun b hb o e => k5 _ _ (fun z => hLf (z ▸ hb)) e), hn5, hJ5, fun b o a1 a2 e => k5 _ _ a1 (k12 _ _ a2 (hk _ _ a1 a2 e)), hlt, rfl⟩
    cases f with
    | ret v => exact h4
    | brk => exact h4
    | cont => exact cont h4
    | next => exact cont h4
  · have e : i = n := by omega
    subst e
    refine W.done _ _ _ hst' fun h₁ tk₁ hk₁ => wpAny_execs_nil ?_
    exact fin h₁ tk₁ m' hJ' (by obtain ⟨o, es, ep, ho, r⟩ := hC'; exact ⟨o, es, ep, hk₁ _ _ hLw ho, r⟩) fun b o a1 a2 e => hk₁ _ _ a2 (hk _ _ a1 a2 e)
/-- two lists zipped, made ready for a loop: the iterator's objects are all new -/
theorem zip_ready {w : World} {A : Around} {E : Value → Shared → Prop} {s : Shared} {l1 l2 : Addr} {xs ys : Array Value} {Q : Value → Shared → Prop} {target : List Expr} {k : Nat} {pt : Pos}
    (hh : A.handled = none) (hl1 : s.heap.IsList l1 xs) (hl2 : s.heap.IsList l2 ys)
    (h : ∀ I fp wr (St : Nat → Heap → Prop) (Md : Nat → Value → Heap → Prop) h', KTurns prg w A (.Tuple target k pt) I fp wr (min xs.size ys.size) (fun i v h => ∃ T x y, v = .ref T ∧ xs[i]? = some x ∧ ys[i]? = some y ∧ h.IsTuple T #[x, y]) Md St →
      St 0 h' → (∀ b ∈ fp, b = l1 ∨ b = l2 ∨ s.heap.objs.size ≤ b) → (∀ b ∈ wr, s.heap.objs.size ≤ b) → (∀ b ∈ fp, b < h'.objs.size) → s.heap.objs.size ≤ h'.objs.size → Ext s.heap h' →
      (∀ i h, St i h → ∀ b ∈ wr, ∃ o, h.get? b = some o) →
      (∀ i (s' : Shared) (Q' : Value → Shared → Prop) (E' : Value → Shared → Prop), St i s'.heap → Q' (.ref I) s' → wpAny (model prg w) A (pyIter (.ref I)) Q' E' s') → Q (.ref I) { s with heap := h' }) :
    wpAny (model prg w) A (call (.type "zip") [.ref l1, .ref l2]) Q E s := by
  have a1 : l1 < s.heap.objs.size := by obtain ⟨_, e, _⟩ := hl1; exact Heap.lt_size e
  have a2 : l2 < s.heap.objs.size := by obtain ⟨_, e, _⟩ := hl2; exact Heap.lt_size e
  refine call_zip_2 hl1 hl2 fun h' hz hTI hTO hi1 hi2 hsz hk => ?_
  have W := WalksT.zip2 (prog := prg) (w := w) hh _ _ _ _ _ _ _ (zipApart_new a1 a2) xs ys
  have K0 := KTurns.ofWalksU (elts := target) (k := k) (pos := pt) W.toU
  refine h _ _ _ _ _ h' ⟨K0.sub, K0.frame, K0.item, fun i v s1 Q1 E1 hm hQ1 => K0.go i v s1 Q1 E1 hm fun h1 hP => hQ1 h1 ?_, K0.done⟩ ⟨hz, hTI, ⟨_, _, hTO⟩, hi1, hi2, Heap.IsList.at hl1 (fun o e => hk _ o e), Heap.IsList.at hl2 (fun o e => hk _ o e)⟩ ?_ ?_ ?_ (by rw [hsz]; exact Nat.le_add_right _ _) hk ?_ (fun i s1 Q1 E1 hst hq => wpAny_pyIter_zip hst.1 hq)
  · obtain ⟨T, vals, rfl, ⟨x, y, hx, hy, rfl⟩, hT⟩ := hP
    exact ⟨T, x, y, rfl, hx, hy, hT⟩
  · intro b hb
    simp only [List.mem_cons, List.not_mem_nil, or_false] at hb
    rcases hb with rfl | rfl | rfl | rfl | rfl | rfl | rfl
    · exact .inr (.inr (Nat.le_add_right _ _))
    · exact .inr (.inr (Nat.le_add_right _ _))
    · exact .inr (.inr (Nat.le_add_right _ _))
    · exact .inr (.inr (Nat.le_refl _))
    · exact .inr (.inr (Nat.le_add_right _ _))
    · exact .inl rfl
    · exact .inr (.inl rfl)
  · intro b hb
    simp only [List.mem_cons, List.not_mem_nil, or_false] at hb
    rcases hb with rfl | rfl | rfl | rfl
    · exact Nat.le_add_right _ _
    · exact Nat.le_add_right _ _
    · exact Nat.le_refl _
    · exact Nat.le_add_right _ _
  · intro b hb
    simp only [List.mem_cons, List.not_mem_nil, or_false] at hb
    rw [hsz]
    rcases hb with rfl | rfl | rfl | rfl | rfl | rfl | rfl
    · exact Nat.add_lt_add_left (by decide) _
    · exact Nat.add_lt_add_left (by decide) _
    · exact Nat.add_lt_add_left (by decide) _
    · exact Nat.lt_add_of_pos_right (by decide)
    · exact Nat.add_lt_add_left (by decide) _
    · exact Nat.lt_of_lt_of_le a1 (Nat.le_add_right _ _)
    · exact Nat.lt_of_lt_of_le a2 (Nat.le_add_right _ _)
  · intro i h1 hst b hb
    obtain ⟨hz, hTI, ⟨_, _, hTO⟩, ⟨o1, e1, _⟩, ⟨o2, e2, _⟩, _⟩ := hst
    simp only [List.mem_cons, List.not_mem_nil, or_false] at hb
    rcases hb with rfl | rfl | rfl | rfl
    · exact ⟨_, hz⟩
    · exact ⟨_, hTO⟩
    · exact ⟨_, e1⟩
    · exact ⟨_, e2⟩
/-- a list made ready for a loop with one name -/
theorem list_ready {w : World} {A : Around} {E : Value → Shared → Prop} {s : Shared} {l : Addr} {xs : List Value} {Q : Value → Shared → Prop} {target : Expr}
    (hh : A.handled = none) (hl : s.heap.IsList l xs.toArray)
    (h : ∀ I fp wr (St : Nat → Heap → Prop) (Md : Nat → Value → Heap → Prop) h', KTurns prg w A target I fp wr xs.length (fun i v _ => xs[i]? = some v) Md St →
      St 0 h' → (∀ b ∈ fp, b = l ∨ s.heap.objs.size ≤ b) → (∀ b ∈ wr, s.heap.objs.size ≤ b) → (∀ b ∈ fp, b < h'.objs.size) → s.heap.objs.size ≤ h'.objs.size → Ext s.heap h' → (∀ i h, St i h → ∀ b ∈ wr, ∃ o, h.get? b = some o) →
      (∀ i (s' : Shared) (Q' : Value → Shared → Prop) (E' : Value → Shared → Prop), St i s'.heap → Q' (.ref I) s' → wpAny (model prg w) A (pyIter (.ref I)) Q' E' s') → Q (.ref I) { s with heap := h' }) :
    wpAny (model prg w) A (pyIter (.ref l)) Q E s := by
  have a1 : l < s.heap.objs.size := by obtain ⟨_, e, _⟩ := hl; exact Heap.lt_size e
  refine wpAny_pyIter_list hl ?_
  have W := Walks.list (prog := prg) (w := w) hh s.heap.objs.size l (Nat.ne_of_lt a1) xs.toArray
  have K0 := KTurns.ofWalks (target := target) W fun i v s Q E st q => letGo_listiter st.1 q
  have K1 : KTurns prg w A target s.heap.objs.size [s.heap.objs.size, l] [s.heap.objs.size] xs.length (fun i v _ => xs[i]? = some v) _ _ :=
    ⟨K0.sub, K0.frame, fun i s1 Q1 E1 hi => K0.item i s1 Q1 E1 (by simpa using hi), fun i v s1 Q1 E1 hm hQ1 => K0.go i v s1 Q1 E1 hm fun h1 hP => hQ1 h1 (by simpa using hP), fun s1 Q1 E1 hst => K0.done s1 Q1 E1 (by simpa using hst)⟩
  refine h _ _ _ _ _ _ K1 ⟨⟨_, Heap.get?_push_size _ rfl, rfl, rfl⟩, Heap.IsList.push hl _⟩ ?_ ?_ ?_ (by rw [Heap.size_push]; exact Nat.le_succ _) (fun c o e => Heap.get?_push_of_some _ e) ?_ (fun i s1 Q1 E1 hst hq => W.self i s1 Q1 E1 hst hq)
  · intro b hb
    simp only [List.mem_cons, List.not_mem_nil, or_false] at hb
    rcases hb with rfl | rfl
    · exact .inr (Nat.le_refl _)
    · exact .inl rfl
  · intro b hb
    simp only [List.mem_cons, List.not_mem_nil, or_false] at hb
    subst hb
    exact Nat.le_refl _
  · intro b hb
    rw [Heap.size_push]
    simp only [List.mem_cons, List.not_mem_nil, or_false] at hb
    rcases hb with rfl | rfl
    · exact Nat.lt_succ_self _
    · exact Nat.lt_succ_of_lt a1
  · intro i h1 hst b hb
    obtain ⟨⟨o1, e1, _⟩, _⟩ := hst
    simp only [List.mem_cons, List.not_mem_nil, or_false] at hb
    subst hb
    exact ⟨_, e1⟩
/-- for a, b in zip(l1, l2): at the call of zip -/
theorem zip_turns {w : World} {A : Around} {E : Value → Shared → Prop} {s : Shared} {env : Env} {l1 l2 : Addr} {xs ys : List Value} {a b : Str} {pa pb pt : Pos} {k : Nat} {body : List Stmt} {Q : Flow → Shared → Prop} {m : Str → Option Value} (J : (Str → Option Value) → Prop)
    (hh : A.handled = none) (hl1 : s.heap.PlainList l1 xs.toArray) (hl2 : s.heap.PlainList l2 ys.toArray) (hC : s.heap.Ns env.locals m) (hJ : J m)
    (ka : env.kindOf a = some .local) (kb : env.kindOf b = some .local) (hp : (env.scope.kind == .class || (env.scope.kind == .module && env.locals != env.globals)) = false)
    (turn : ∀ (i : Nat) x y h tk m₁, xs[i]? = some x → ys[i]? = some y → J m₁ → h.Ns env.locals (upd2 m₁ a x b y) → (∀ b o, b ≠ env.locals → s.heap.get? b = some o → h.get? b = some o) →
      ∀ h2 : Heap, (∀ b o, b ≠ env.locals → h2.get? b = some o → h.get? b = some o) → wpAny (model prg w) A (execs body env) (ForTurn env.locals J Q h2 s) E { s with heap := h, toks := tk })
    (fin : ∀ h tk m₁, J m₁ → h.Ns env.locals m₁ → (∀ b o, b ≠ env.locals → s.heap.get? b = some o → h.get? b = some o) → Q .next { s with heap := h, toks := tk }) :
    wpAny (model prg w) A (call (.type "zip") [.ref l1, .ref l2]) (fun xv s₁ => wpAny (model prg w) A (pyIter xv) (fun it s₂ => ForNext w A env (.Tuple [.Name a pa, .Name b pb] k pt) body Q E it s₂) E s₁) E s := by
  have nL : ∀ {c xs}, s.heap.PlainList c xs → env.locals ≠ c := fun {c xs} hp z => by
    obtain ⟨n, e⟩ := hp
    obtain ⟨o, es, ep, ho, hd, _⟩ := hC
    rw [z, e] at ho
    cases ho
    cases hd
  refine zip_ready (target := [.Name a pa, .Name b pb]) (k := k) (pt := pt) hh hl1.isList hl2.isList fun I fp wr St Md h' W hst hfp hwr hfl _ hk _ self => self 0 _ _ _ hst ?_
  have old : ∀ {c o}, s.heap.get? c = some o → c ∉ wr := fun e hm => absurd (Heap.lt_size e) (Nat.not_lt.mpr (hwr _ hm))
  refine ⟨I, fp, wr, _, _, Md, St, m, J, rfl, W, fun hm => ?_, hst, by obtain ⟨o, es, ep, ho, r⟩ := hC; exact ⟨o, es, ep, hk _ _ ho, r⟩, hJ, ?_, fun h tk m₁ j c k1 => fin h tk m₁ j c fun b o hb e => k1 b o hb (old e) (hk _ _ e)⟩
  · rcases hfp _ hm with e | e | e
    · exact nL hl1 e
    · exact nL hl2 e
    · exact absurd hC.lt (Nat.not_lt.mpr e)
  · rintro i v h tk m₁ hi ⟨T, x, y, rfl, hx, hy, hT⟩ hJ₁ hC₁ k1
    refine assign_two hh hT hC₁ ka kb hp fun h2 tk2 hn2 k2 => ?_
    exact turn i x y h2 tk2 m₁ (by simpa using hx) (by simpa using hy) hJ₁ hn2 (fun b o hb e => k2 _ _ hb (k1 _ _ hb (old e) (hk _ _ e))) h k2

end
-- part PD
section
-- the law's blocks and ranges as lists, and the comprehensions that make them
def bL (n : Int) : Int := 24 + n.fmod 4
def bT (n : Int) : Int := 1 + (n.fdiv 4).fmod 3
def bR (n : Int) : Int := 24 + n.fmod 4 + (n.fdiv 12).fmod 3
def bF (n : Int) : Int := 1 + (n.fdiv 4).fmod 3 + (n.fdiv 36).fmod 3
theorem lim_b (n : Int) : Lim (bL n) (bT n) (bR n) (bF n) := by
  unfold Lim bL bT bR bF
  have a1 := Int.fmod_nonneg_of_pos n (b := 4) (by decide)
  have a2 := Int.fmod_lt_of_pos n (b := 4) (by decide)
  have b1 := Int.fmod_nonneg_of_pos (n.fdiv 4) (b := 3) (by decide)
  have b2 := Int.fmod_lt_of_pos (n.fdiv 4) (b := 3) (by decide)
  have c1 := Int.fmod_nonneg_of_pos (n.fdiv 12) (b := 3) (by decide)
  have c2 := Int.fmod_lt_of_pos (n.fdiv 12) (b := 3) (by decide)
  have d1 := Int.fmod_nonneg_of_pos (n.fdiv 36) (b := 3) (by decide)
  have d2 := Int.fmod_lt_of_pos (n.fdiv 36) (b := 3) (by decide)
  omega
abbrev blkN (u : Nat → Tok) (n : Int) : Obj := blockObj u (bL n) (bT n) (bR n) (bF n)
def BlkOf (g0 : Heap) (L : Addr) (h : Heap) (n : Int) (y : Value) : Prop := ∃ a u, y = .ref a ∧ g0.get? a = none ∧ a ≠ L ∧ h.get? a = some (blkN u n)
def RngOf (P : Params) (L : Addr) (h : Heap) (n : Int) (y : Value) : Prop := ∃ x dx k u, y = .ref x ∧ x ≠ L ∧ dx ≠ L ∧ h.get? x = some (instObj 349 dx) ∧ h.get? dx = some (rangeDict P k u (bL n) (bT n) (bR n) (bF n))
def ButL (L : Addr) (h h' : Heap) : Prop := ∀ b o, b ≠ L → h.get? b = some o → h'.get? b = some o
theorem ButL.trans {L : Addr} {a b c : Heap} (x : ButL L a b) (y : ButL L b c) : ButL L a c := fun d o n e => y d o n (x d o n e)
theorem BlkOf.keep {g0 h h' : Heap} {L : Addr} {n : Int} {y : Value} (x : BlkOf g0 L h n y) (k : ButL L h h') : BlkOf g0 L h' n y := let ⟨a, u, e, e0, nl, g⟩ := x; ⟨a, u, e, e0, nl, k _ _ nl g⟩
theorem RngOf.keep {P : Params} {h h' : Heap} {L : Addr} {n : Int} {y : Value} (x : RngOf P L h n y) (k : ButL L h h') : RngOf P L h' n y := let ⟨x, dx, t, u, e, n1, n2, g1, g2⟩ := x; ⟨x, dx, t, u, e, n1, n2, k _ _ n1 g1, k _ _ n2 g2⟩
theorem RngOf.hid {P : Params} {h : Heap} {L : Addr} {n : Int} {x : Addr} (r : RngOf P L h n (.ref x)) : RangeAt P (hideAll h [L]) x (bL n) (bT n) (bR n) (bF n) := by
  obtain ⟨x', dx, k, u, e, n1, n2, g1, g2⟩ := r
  cases e
  exact ⟨dx, k, u, hideAll_get _ g1 (fun hm => n1 (List.mem_singleton.mp hm)), hideAll_get _ g2 (fun hm => n2 (List.mem_singleton.mp hm))⟩
def Row (Pr : Int → Value → Prop) (ns : List Int) (ys : List Value) : Prop := ys.length = ns.length ∧ ∀ (j : Nat) y, ys[j]? = some y → ∃ n, ns[j]? = some n ∧ Pr n y
theorem Row.mono {Pr Pr' : Int → Value → Prop} {ns : List Int} {ys : List Value} (r : Row Pr ns ys) (k : ∀ n y, Pr n y → Pr' n y) : Row Pr' ns ys := ⟨r.1, fun j y e => let ⟨n, e', p⟩ := r.2 j y e; ⟨n, e', k n y p⟩⟩
theorem blocks_next {w : World} {A : Around} {E : Value → Shared → Prop} {env : Env} {sc : Scope} {cl : List (Str × Addr)} {elt : Expr} {Q : Flow → Shared → Prop} {s : Shared} {g0 : Heap} {l : Addr} {x xb : Str} {px : Pos} {ns : List Int} {vs : List Value} {m : Str → Option Value}
    (hh : A.handled = none) (hl : s.heap.IsList l vs.toArray) (hI : IntsAre vs ns) (hlen : vs.length ≤ 1000) (hL : s.heap.Ns env.locals m) (hg : Ext g0 s.heap)
    (kx : ∀ C, (compEnvC sc cl C env).kindOf x = some .local) (hp : ∀ C, ((compEnvC sc cl C env).scope.kind == .class || ((compEnvC sc cl C env).scope.kind == .module && (compEnvC sc cl C env).locals != (compEnvC sc cl C env).globals)) = false)
    (hcall : ∀ (C : Addr) (h : Heap) (tk : Nat) (m' : Str → Option Value) n t (E' : Value → Shared → Prop) (Q' : Value → Shared → Prop), s.heap.objs.size ≤ C → h.Ns C (fun z => if z = x then some (.int n t) else m' z) → Ext s.heap h →
      (∀ a u h3 tk3, Ext h h3 → h.get? a = none → h3.get? a = some (blkN u n) → Q' (.ref a) { s with heap := h3, toks := tk3 }) → wpAny (model prg w) A (eval elt (compEnvC sc cl C env)) Q' E' { s with heap := h, toks := tk })
    (fin : ∀ D h' tk ys, s.heap.get? D = none → h'.PlainList D (ys : List Value).toArray → Row (BlkOf g0 env.locals h') ns ys → ButL env.locals s.heap h' → h'.Ns env.locals (fun z => if z = xb then some (.ref D) else m z) → Q .next { s with heap := h', toks := tk }) :
    wpAny (model prg w) A (pyIter (.ref l)) (fun it s₂ => TurnsSet env.locals xb w A env sc cl (.Name x px) elt Q it s₂) E s := by
  have hlL : l ≠ env.locals := fun z => by
    obtain ⟨o, ho, hc, n, hd⟩ := hl
    obtain ⟨o', es, ep, ho', hd', _⟩ := hL
    rw [z, ho'] at ho
    cases ho
    rw [hd] at hd'
    cases hd'
  refine list_ready (target := .Name x px) hh hl fun I fp wr St Md h' W hst hfp hwr hfl sizeS hk hsome self => ?_
  have old : ∀ {c o}, s.heap.get? c = some o → c ∉ wr := fun e hm => absurd (Heap.lt_size e) (Nat.not_lt.mpr (hwr _ hm))
  have noneS : ∀ {c}, h'.get? c = none → s.heap.get? c = none := fun {c} e => by
    cases e' : s.heap.get? c with
    | none => rfl
    | some o => rw [hk _ _ e'] at e; cases e
  refine ⟨I, fp, wr, _, _, Md, St, fun C D j y h => ∃ a u n, ns[j]? = some n ∧ y = .ref a ∧ a ≠ C ∧ a ≠ D ∧ a ∉ wr ∧ a ≠ env.locals ∧ g0.get? a = none ∧ h.get? a = some (blkN u n), rfl, W, hlen, hst, hfl, fun s' Q' E' st q => self 0 s' Q' E' st q, ?_, ?_, ⟨m, ?_, ?_, ?_⟩, ?_⟩
  · rintro C D j y h h2 ⟨a, u, n, e1, e2, n1, n2, n3, n4, g, e⟩ k
    exact ⟨a, u, n, e1, e2, n1, n2, n3, n4, g, k _ _ n1 n2 n3 e⟩
  · intro C D i v h tk m' E' Q' hCD hC hD hCs hi hP hSt hDs hn hkeep hq
    obtain ⟨n, t, rfl, hn'⟩ := IntsAre.at hI i v hP
    refine wpAny_assign_Name (wpAny_storeName_local (env := compEnvC sc cl C env) (kx C) hn (fun h2 hn2 hs2 => ?_) (hp C))
    have k2 : ∀ b o, b ≠ C → h.get? b = some o → h2.get? b = some o := fun b o hb e => hs2.extBut _ _ hb e
    have neC : ∀ {b o}, s.heap.get? b = some o → b ≠ C := fun e z => by rw [z, noneS hC] at e; cases e
    have eS : Ext s.heap h2 := fun b o e => k2 _ _ (neC e) (hkeep _ _ (old e) (hk _ _ e))
    refine hcall C h2 _ m' n t E' Q' (Nat.le_trans sizeS hCs) hn2 eS fun a u h3 tk3 hE hna ha => ?_
    have naC : a ≠ C := fun z => by obtain ⟨o, es, ep, ho, _⟩ := hn2; rw [z] at hna; rw [show h2.get? C = some o from ho] at hna; cases hna
    have nah : h.get? a = none := by
      cases e : h.get? a with
      | none => rfl
      | some o => rw [k2 _ _ naC e] at hna; cases hna
    have nas : s.heap.get? a = none := by
      cases e : s.heap.get? a with
      | none => rfl
      | some o => rw [eS _ _ e] at hna; cases hna
    obtain ⟨o, es, ep, ho, r⟩ := hn2
    refine hq (.ref a) h3 tk3 _ ⟨o, es, ep, hE _ _ ho, r⟩ (fun b o hb e => hE _ _ (k2 _ _ hb e)) ⟨a, u, n, hn', rfl, naC, ?_, ?_, ?_, ?_, ha⟩
    · rintro rfl
      obtain ⟨o', e'⟩ := hDs
      rw [nah] at e'
      cases e'
    · intro hm
      obtain ⟨o', e'⟩ := hsome _ _ hSt _ hm
      rw [nah] at e'
      cases e'
    · rintro rfl
      obtain ⟨o', es', ep', ho', _⟩ := hL
      rw [nas] at ho'
      cases ho'
    · cases e : g0.get? a with
      | none => rfl
      | some o => rw [hg _ _ e] at nas; cases nas
  · obtain ⟨o, es, ep, ho, r⟩ := hL
    exact ⟨o, es, ep, hk _ _ ho, r⟩
  · intro hm
    have := hL.lt
    exact absurd this (Nat.not_lt.mpr (hwr _ hm))
  · intro C D h2 tk ys hCD hC hD hys hPL hO hkeep hNs
    refine fin D h2 tk ys (noneS hD) hPL ⟨hys.trans (IntsAre.length hI), fun j y e => ?_⟩ (fun b o hb e => hkeep _ _ hb (old e) (hk _ _ e)) hNs
    obtain ⟨a, u, n, e1, e2, n1, n2, n3, n4, g, e⟩ := hO j y e
    exact ⟨n, e1, a, u, e2, g, n4, e⟩
  · rintro C D j y h ⟨a, u, n, e1, e2, n1, n2, n3, n4, g, e⟩ h2 k
    exact ⟨a, u, n, e1, e2, n1, n2, n3, n4, g, k _ _ n1 n4 e⟩
theorem ranges_next {w : World} {A : Around} {E : Value → Shared → Prop} {env : Env} {sc : Scope} {cl : List (Str × Addr)} {elt : Expr} {Q : Flow → Shared → Prop} {s : Shared} {g0 : Heap} {l1 l2 : Addr} {x1 x2 xb : Str} {p1 p2 pt : Pos} {kk : Nat} {ns : List Int} {vs bs : List Value} {m : Str → Option Value}
    (hh : A.handled = none) (hl1 : s.heap.IsList l1 bs.toArray) (hl2 : s.heap.IsList l2 vs.toArray) (hI : IntsAre vs ns) (hlen : vs.length ≤ 1000) (hB : Row (BlkOf g0 env.locals s.heap) ns bs) (hL : s.heap.Ns env.locals m) (hg : Ext g0 s.heap)
    (k1 : ∀ C, (compEnvC sc cl C env).kindOf x1 = some .local) (k2 : ∀ C, (compEnvC sc cl C env).kindOf x2 = some .local) (hp : ∀ C, ((compEnvC sc cl C env).scope.kind == .class || ((compEnvC sc cl C env).scope.kind == .module && (compEnvC sc cl C env).locals != (compEnvC sc cl C env).globals)) = false)
    (hcall : ∀ (C : Addr) (h : Heap) (tk : Nat) (m' : Str → Option Value) b u n t (E' : Value → Shared → Prop) (Q' : Value → Shared → Prop), s.heap.objs.size ≤ C → h.Ns C (upd2 m' x1 (.ref b) x2 (.int n t)) → Ext s.heap h → g0.get? b = none → b ≠ C → h.get? b = some (blkN u n) →
      (∀ x dx k u h3 tk3, Ext h h3 → h.get? x = none → h.get? dx = none → h3.get? x = some (instObj 349 dx) → h3.get? dx = some (rangeDict w.params k u (bL n) (bT n) (bR n) (bF n)) → Q' (.ref x) { s with heap := h3, toks := tk3 }) → wpAny (model prg w) A (eval elt (compEnvC sc cl C env)) Q' E' { s with heap := h, toks := tk })
    (fin : ∀ D h' tk ys, s.heap.get? D = none → h'.PlainList D (ys : List Value).toArray → Row (RngOf w.params env.locals h') ns ys → ButL env.locals s.heap h' → h'.Ns env.locals (fun z => if z = xb then some (.ref D) else m z) → Q .next { s with heap := h', toks := tk }) :
    wpAny (model prg w) A (call (.type "zip") [.ref l1, .ref l2]) (fun xv s₁ => wpAny (model prg w) A (pyIter xv) (fun it s₂ => TurnsSet env.locals xb w A env sc cl (.Tuple [.Name x1 p1, .Name x2 p2] kk pt) elt Q it s₂) E s₁) E s := by
  refine zip_ready (target := [.Name x1 p1, .Name x2 p2]) (k := kk) (pt := pt) hh hl1 hl2 fun I fp wr St Md h' W hst hfp hwr hfl sizeS hk hsome self => self 0 _ _ _ hst ?_
  have hlen1 : bs.length = ns.length := hB.1
  have hlen2 : vs.length = ns.length := IntsAre.length hI
  have old : ∀ {c o}, s.heap.get? c = some o → c ∉ wr := fun e hm => absurd (Heap.lt_size e) (Nat.not_lt.mpr (hwr _ hm))
  have noneS : ∀ {c}, h'.get? c = none → s.heap.get? c = none := fun {c} e => by
    cases e' : s.heap.get? c with
    | none => rfl
    | some o => rw [hk _ _ e'] at e; cases e
  refine ⟨I, fp, wr, _, _, Md, St, fun C D j y h => ∃ x dx k u n, ns[j]? = some n ∧ y = .ref x ∧ (x ≠ C ∧ x ≠ D ∧ x ∉ wr ∧ x ≠ env.locals) ∧ (dx ≠ C ∧ dx ≠ D ∧ dx ∉ wr ∧ dx ≠ env.locals) ∧ h.get? x = some (instObj 349 dx) ∧ h.get? dx = some (rangeDict w.params k u (bL n) (bT n) (bR n) (bF n)), rfl, W, ?_, hst, hfl, fun s' Q' E' st q => self 0 s' Q' E' st q, ?_, ?_, ⟨m, ?_, ?_, ?_⟩, ?_⟩
  · simp only [List.size_toArray]
    exact Nat.le_trans (Nat.min_le_right _ _) hlen
  · rintro C D j y h h2 ⟨x, dx, k, u, n, e1, e2, ⟨a1, a2, a3, a4⟩, ⟨b1, b2, b3, b4⟩, g1, g2⟩ k'
    exact ⟨x, dx, k, u, n, e1, e2, ⟨a1, a2, a3, a4⟩, ⟨b1, b2, b3, b4⟩, k' _ _ a1 a2 a3 g1, k' _ _ b1 b2 b3 g2⟩
  · rintro C D i v h tk m' E' Q' hCD hC hD hCs hi ⟨T, x, y, rfl, hx, hy, hT⟩ hSt hDs hn hkeep hq
    have hx' : bs[i]? = some x := by simpa using hx
    obtain ⟨n', t, rfl, hn'⟩ := IntsAre.at hI i y (by simpa using hy)
    obtain ⟨n, hn1, b, ub, rfl, gb, nbL, hb⟩ := hB.2 i x hx'
    have en : n = n' := by rw [hn1] at hn'; exact Option.some.inj hn'
    subst en
    have neC : ∀ {b o}, s.heap.get? b = some o → b ≠ C := fun e z => by rw [z, noneS hC] at e; cases e
    refine assign_two (env := compEnvC sc cl C env) hh hT hn (k1 C) (k2 C) (hp C) fun h2 tk2 hn2 kk2 => ?_
    have eS : Ext s.heap h2 := fun b o e => kk2 _ _ (neC e) (hkeep _ _ (old e) (hk _ _ e))
    refine hcall C h2 _ m' b ub n t E' Q' (Nat.le_trans sizeS hCs) hn2 eS gb (neC hb) (eS _ _ hb) fun x dx k u h3 tk3 hE hnx hnd hx3 hd3 => ?_
    obtain ⟨o, es, ep, ho, r⟩ := hn2
    have apart : ∀ a, h2.get? a = none → a ≠ C ∧ a ≠ D ∧ a ∉ wr ∧ a ≠ env.locals := fun a ha => by
      have naC : a ≠ C := fun z => by rw [z] at ha; rw [show h2.get? C = some o from ho] at ha; cases ha
      have nah : h.get? a = none := by
        cases e : h.get? a with
        | none => rfl
        | some o => rw [kk2 _ _ naC e] at ha; cases ha
      refine ⟨naC, ?_, ?_, ?_⟩
      · rintro rfl
        obtain ⟨o', e'⟩ := hDs
        rw [nah] at e'
        cases e'
      · intro hm
        obtain ⟨o', e'⟩ := hsome _ _ hSt _ hm
        rw [nah] at e'
        cases e'
      · rintro rfl
        obtain ⟨o', es', ep', ho', _⟩ := hL
        rw [eS _ _ ho'] at ha
        cases ha
    exact hq (.ref x) h3 tk3 _ ⟨o, es, ep, hE _ _ ho, r⟩ (fun b o hb e => hE _ _ (kk2 _ _ hb e)) ⟨x, dx, k, u, n, hn', rfl, apart x hnx, apart dx hnd, hx3, hd3⟩
  · obtain ⟨o, es, ep, ho, r⟩ := hL
    exact ⟨o, es, ep, hk _ _ ho, r⟩
  · intro hm
    have := hL.lt
    exact absurd this (Nat.not_lt.mpr (hwr _ hm))
  · intro C D h2 tk ys hCD hC hD hys hPL hO hkeep hNs
    refine fin D h2 tk ys (noneS hD) hPL ⟨hys.trans (by simp only [List.size_toArray]; omega), fun j y e => ?_⟩ (fun b o hb e => hkeep _ _ hb (old e) (hk _ _ e)) hNs
    obtain ⟨x, dx, k, u, n, e1, e2, ⟨a1, a2, a3, a4⟩, ⟨b1, b2, b3, b4⟩, g1, g2⟩ := hO j y e
    exact ⟨n, e1, x, dx, k, u, e2, a4, b4, g1, g2⟩
  · rintro C D j y h ⟨x, dx, k, u, n, e1, e2, ⟨a1, a2, a3, a4⟩, ⟨b1, b2, b3, b4⟩, g1, g2⟩ h2 k'
    exact ⟨x, dx, k, u, n, e1, e2, ⟨a1, a2, a3, a4⟩, ⟨b1, b2, b3, b4⟩, k' _ _ a1 a4 g1, k' _ _ b1 b4 g2⟩
/-- [one.bounds for one in ranges]: an expression -/
theorem bounds_next {w : World} {A : Around} {E : Value → Shared → Prop} {env : Env} {sc : Scope} {cl : List (Str × Addr)} {elt : Expr} {Q : Value → Shared → Prop} {s : Shared} {l : Addr} {x : Str} {px : Pos} {ns : List Int} {vs : List Value} {m : Str → Option Value}
    (hh : A.handled = none) (hl : s.heap.IsList l vs.toArray) (hlen : vs.length ≤ 1000) (hR : Row (RngOf w.params env.locals s.heap) ns vs) (hL : s.heap.Ns env.locals m)
    (kx : ∀ C, (compEnvC sc cl C env).kindOf x = some .local) (hp : ∀ C, ((compEnvC sc cl C env).scope.kind == .class || ((compEnvC sc cl C env).scope.kind == .module && (compEnvC sc cl C env).locals != (compEnvC sc cl C env).globals)) = false)
    (hcall : ∀ (C : Addr) (h : Heap) (tk : Nat) (m' : Str → Option Value) a n (E' : Value → Shared → Prop) (Q' : Value → Shared → Prop), s.heap.objs.size ≤ C → h.Ns C (fun z => if z = x then some (.ref a) else m' z) → Ext s.heap h → RangeAt w.params s.heap a (bL n) (bT n) (bR n) (bF n) →
      (∀ a u h3 tk3, Ext h h3 → h.get? a = none → h3.get? a = some (blkN u n) → Q' (.ref a) { s with heap := h3, toks := tk3 }) → wpAny (model prg w) A (eval elt (compEnvC sc cl C env)) Q' E' { s with heap := h, toks := tk })
    (fin : ∀ D h' tk ys, s.heap.get? D = none → h'.PlainList D (ys : List Value).toArray → Row (BlkOf s.heap D h') ns ys → Ext s.heap h' → Q (.ref D) { s with heap := h', toks := tk }) :
    wpAny (model prg w) A (pyIter (.ref l)) (fun it s₂ => TurnsNext w A env sc cl (.Name x px) elt Q it s₂) E s := by
  refine list_ready (target := .Name x px) hh hl fun I fp wr St Md h' W hst hfp hwr hfl sizeS hk hsome self => ?_
  have old : ∀ {c o}, s.heap.get? c = some o → c ∉ wr := fun e hm => absurd (Heap.lt_size e) (Nat.not_lt.mpr (hwr _ hm))
  have noneS : ∀ {c}, h'.get? c = none → s.heap.get? c = none := fun {c} e => by
    cases e' : s.heap.get? c with
    | none => rfl
    | some o => rw [hk _ _ e'] at e; cases e
  refine ⟨I, fp, wr, _, _, Md, St, fun C D j y h => ∃ a u n, ns[j]? = some n ∧ y = .ref a ∧ a ≠ C ∧ a ≠ D ∧ a ∉ wr ∧ s.heap.get? a = none ∧ h.get? a = some (blkN u n), rfl, W, hlen, hst, hfl, fun s' Q' E' st q => self 0 s' Q' E' st q, ?_, ?_, ?_⟩
  · rintro C D j y h h2 ⟨a, u, n, e1, e2, n1, n2, n3, g, e⟩ k
    exact ⟨a, u, n, e1, e2, n1, n2, n3, g, k _ _ n1 n2 n3 e⟩
  · intro C D i v h tk m' E' Q' hCD hC hD hCs hi hP hSt hDs hn hkeep hq
    obtain ⟨n, hn', x1, dx, k, u, rfl, nx, ndx, g1, g2⟩ := hR.2 i v hP
    refine wpAny_assign_Name (wpAny_storeName_local (env := compEnvC sc cl C env) (kx C) hn (fun h2 hn2 hs2 => ?_) (hp C))
    have k2 : ∀ b o, b ≠ C → h.get? b = some o → h2.get? b = some o := fun b o hb e => hs2.extBut _ _ hb e
    have neC : ∀ {b o}, s.heap.get? b = some o → b ≠ C := fun e z => by rw [z, noneS hC] at e; cases e
    have eS : Ext s.heap h2 := fun b o e => k2 _ _ (neC e) (hkeep _ _ (old e) (hk _ _ e))
    refine hcall C h2 _ m' x1 n E' Q' (Nat.le_trans sizeS hCs) hn2 eS ⟨dx, k, u, g1, g2⟩ fun a u h3 tk3 hE hna ha => ?_
    have naC : a ≠ C := fun z => by obtain ⟨o, es, ep, ho, _⟩ := hn2; rw [z] at hna; rw [show h2.get? C = some o from ho] at hna; cases hna
    have nah : h.get? a = none := by
      cases e : h.get? a with
      | none => rfl
      | some o => rw [k2 _ _ naC e] at hna; cases hna
    have nas : s.heap.get? a = none := by
      cases e : s.heap.get? a with
      | none => rfl
      | some o => rw [eS _ _ e] at hna; cases hna
    obtain ⟨o, es, ep, ho, r⟩ := hn2
    refine hq (.ref a) h3 tk3 _ ⟨o, es, ep, hE _ _ ho, r⟩ (fun b o hb e => hE _ _ (k2 _ _ hb e)) ⟨a, u, n, hn', rfl, naC, ?_, ?_, nas, ha⟩
    · rintro rfl
      obtain ⟨o', e'⟩ := hDs
      rw [nah] at e'
      cases e'
    · intro hm
      obtain ⟨o', e'⟩ := hsome _ _ hSt _ hm
      rw [nah] at e'
      cases e'
  · intro C D h2 tk ys hCD hC hD hys hPL hO hkeep
    refine fin D h2 tk ys (noneS hD) hPL ⟨hys.trans hR.1, fun j y e => ?_⟩ (fun b o e => hkeep _ _ (old e) (hk _ _ e))
    obtain ⟨a, u, n, e1, e2, n1, n2, n3, g, e⟩ := hO j y e
    exact ⟨n, e1, a, u, e2, g, n2, e⟩
theorem script_nums {vs : List Value} {l : List Int} (h : IntsAre vs (List.map (fun k' => k'.fmod 1000003) (List.take 4 l) ++ [96, 5, 54, 9])) : ∃ ns : List Int, IntsAre vs ns ∧ 4 ≤ ns.length ∧ ns.length ≤ 8 := by
  refine ⟨_, h, ?_, ?_⟩
  · simp only [List.length_append, List.length_cons, List.length_nil]; omega
  · simp only [List.length_append, List.length_cons, List.length_nil, List.length_map, List.length_take]; omega
theorem fr_but {g h h' : Heap} {L : Addr} {m m' : Str → Option Value} (F : Fr g L h m) (k : ButL L h h') (n : h'.Ns L m') : Fr g L h' m' :=
  ⟨n, fun b o e => k _ _ (Nat.ne_of_lt (Nat.lt_of_lt_of_le (Heap.lt_size e) F.above)) (F.keep _ _ e), F.above⟩
theorem news_but {g h h' : Heap} {L : Addr} {news : List (Addr × Obj)} (N : News g L h news) (k : ButL L h h') : News g L h' news := fun p hp => ⟨k _ _ (N p hp).2.1 (N p hp).1, (N p hp).2⟩
theorem news_add {g h h' : Heap} {L D : Addr} {m : Str → Option Value} {a : Array Value} {news : List (Addr × Obj)} (F : Fr g L h m) (hD : h.get? D = none) (hP : h'.PlainList D a) (N : News g L h' news) : ∃ n, News g L h' ((D, { cls := .type "list", data := .seq a n }) :: news) := by
  obtain ⟨n, e⟩ := hP
  refine ⟨n, fun p hp => ?_⟩
  rcases List.mem_cons.mp hp with rfl | hp
  · refine ⟨e, ?_, ?_⟩
    · rintro z
      obtain ⟨o, es, ep, ho, _⟩ := F.ns
      rw [show D = L from z, ho] at hD
      cases hD
    · cases q : g.get? D with
      | none => rfl
      | some o => rw [F.keep _ _ q] at hD; cases hD
  · exact N p hp
theorem fr_in {g h h' : Heap} {L C : Addr} {m m' : Str → Option Value} (F : Fr g L h m) (k : Ext h h') (n : h'.Ns C m') (hC : h.objs.size ≤ C) : Fr g C h' m' :=
  ⟨n, fun b o e => k _ _ (F.keep _ _ e), Nat.le_trans F.above (Nat.le_trans (Nat.le_of_lt F.ns.lt) hC)⟩
theorem news_nil0 {g h : Heap} {L : Addr} {m : Str → Option Value} (_ : Fr g L h m) : News g L h [] := fun _ q => by cases q
theorem news_one {g h : Heap} {L : Addr} {p : Addr × Obj} {news : List (Addr × Obj)} (N : News g L h (p :: news)) : News g L h [p] := fun q hq => N q (by rw [List.mem_singleton.mp hq]; exact List.mem_cons_self ..)
theorem made_one {h h' : Heap} {a : Addr} {o : Obj} {r : List (Addr × Obj)} (M : Made h h' ((a, o) :: r)) : h.get? a = none ∧ h'.get? a = some o := ⟨(M _ (List.mem_cons_self ..)).2, (M _ (List.mem_cons_self ..)).1⟩
theorem news_b {g h : Heap} {L b : Addr} {o : Obj} (e0 : g.get? b = none) (n : b ≠ L) (e : h.get? b = some o) : News g L h [(b, o)] := fun q hq => by rw [List.mem_singleton.mp hq]; exact ⟨e, n, e0⟩
theorem made_both {h h' : Heap} {a b : Addr} {o o' : Obj} (M : Made h h' [(a, o), (b, o')]) : (h.get? a = none ∧ h.get? b = none) ∧ h'.get? a = some o ∧ h'.get? b = some o' :=
  ⟨⟨(M _ (List.mem_cons_self ..)).2, (M _ (List.mem_cons_of_mem _ (List.mem_cons_self ..))).2⟩, (M _ (List.mem_cons_self ..)).1, (M _ (List.mem_cons_of_mem _ (List.mem_cons_self ..))).1⟩
theorem row_blk {g h h' : Heap} {L : Addr} {ns : List Int} {ys : List Value} (r : Row (BlkOf g L h) ns ys) (k : ButL L h h') : Row (BlkOf g L h') ns ys := r.mono fun _ _ x => x.keep k
theorem row_rng {P : Params} {h h' : Heap} {L : Addr} {ns : List Int} {ys : List Value} (r : Row (RngOf P L h) ns ys) (k : ButL L h h') : Row (RngOf P L h') ns ys := r.mono fun _ _ x => x.keep k
theorem plain_but {h h' : Heap} {L D : Addr} {a : Array Value} (x : h.PlainList D a) (n : D ≠ L) (k : ButL L h h') : h'.PlainList D a := x.at fun o e => k _ _ n e
theorem plain_ne {h : Heap} {L D : Addr} {a : Array Value} {m : Str → Option Value} (x : h.PlainList D a) (hL : h.Ns L m) : D ≠ L := fun z => by
  obtain ⟨n, e⟩ := x
  obtain ⟨o, es, ep, ho, hd, _⟩ := hL
  rw [z, ho] at e
  cases e
  cases hd
theorem blk_ref {g h : Heap} {L : Addr} {n : Int} {y : Value} (x : BlkOf g L h n y) : ∃ b, y = .ref b ∧ BlkOf g L h n (.ref b) := by
  obtain ⟨a, u, rfl, r⟩ := x
  exact ⟨a, rfl, a, u, rfl, r⟩
theorem rng_ref {P : Params} {h : Heap} {L : Addr} {n : Int} {y : Value} (x : RngOf P L h n y) : ∃ b, y = .ref b ∧ RngOf P L h n (.ref b) := by
  obtain ⟨a, dx, k, u, rfl, r⟩ := x
  exact ⟨a, rfl, a, dx, k, u, rfl, r⟩
theorem names_two {m : Str → Option Value} {a b : Str} {x y : Value} (e1 : m a = some x) (e2 : m b = some y) : m = fun z => if z = a then some x else if z = b then some y else m z := by
  funext z
  by_cases h1 : z = a
  · subst h1; rw [if_pos rfl, e1]
  · by_cases h2 : z = b
    · subst h2; rw [if_neg h1, if_pos rfl, e2]
    · rw [if_neg h1, if_neg h2]
theorem names_four {m : Str → Option Value} {a b c d : Str} {x y z1 z2 : Value} (e : (m a = some x ∧ m b = some y) ∧ m c = some z1 ∧ m d = some z2) : m = fun z => if z = a then some x else if z = b then some y else if z = c then some z1 else if z = d then some z2 else m z := by
  funext z
  by_cases h1 : z = a
  · subst h1; rw [if_pos rfl, e.1.1]
  · by_cases h2 : z = b
    · subst h2; rw [if_neg h1, if_pos rfl, e.1.2]
    · by_cases h3 : z = c
      · subst h3; rw [if_neg h1, if_neg h2, if_pos rfl, e.2.1]
      · by_cases h4 : z = d
        · subst h4; rw [if_neg h1, if_neg h2, if_neg h3, if_pos rfl, e.2.2]
        · rw [if_neg h1, if_neg h2, if_neg h3, if_neg h4]
theorem row_at {Pr Pr' : Int → Value → Prop} {ns : List Int} {xs ys : List Value} {i : Nat} {x y : Value} (r : Row Pr ns xs) (r' : Row Pr' ns ys) (hx : xs[i]? = some x) (hy : ys[i]? = some y) : ∃ n, Pr n x ∧ Pr' n y := by
  obtain ⟨n, e1, p1⟩ := r.2 i x hx
  obtain ⟨n', e2, p2⟩ := r'.2 i y hy
  rw [e1] at e2
  cases Option.some.inj e2
  exact ⟨n, p1, p2⟩
theorem none_low {g h : Heap} {L D : Addr} {m : Str → Option Value} (F : Fr g L h m) (e : h.get? D = none) : g.get? D = none := by
  cases q : g.get? D with
  | none => rfl
  | some o => rw [F.keep _ _ q] at e; cases e

end
-- part PI
section
-- [:3] and [-3:] of a list of four to eight; two lists of blocks are equal
theorem pick_first (zs : List Value) (h4 : 4 ≤ zs.length) (h8 : zs.length ≤ 8) : ∃ a b c, ∃ i j k : Nat, slicePick zs.toArray none (some 3) none = #[a, b, c] ∧ zs[i]? = some a ∧ zs[j]? = some b ∧ zs[k]? = some c := by
  match zs, h4, h8 with
  | [a, b, c, d], _, _ => exact ⟨a, b, c, 0, 1, 2, rfl, rfl, rfl, rfl⟩
  | [a, b, c, d, e], _, _ => exact ⟨a, b, c, 0, 1, 2, rfl, rfl, rfl, rfl⟩
  | [a, b, c, d, e, f], _, _ => exact ⟨a, b, c, 0, 1, 2, rfl, rfl, rfl, rfl⟩
  | [a, b, c, d, e, f, g], _, _ => exact ⟨a, b, c, 0, 1, 2, rfl, rfl, rfl, rfl⟩
  | [a, b, c, d, e, f, g, h], _, _ => exact ⟨a, b, c, 0, 1, 2, rfl, rfl, rfl, rfl⟩
  | [], h, _ => exact absurd h (by simp)
  | [_], h, _ => exact absurd h (by simp)
  | [_, _], h, _ => exact absurd h (by simp)
  | [_, _, _], h, _ => exact absurd h (by simp)
  | _ :: _ :: _ :: _ :: _ :: _ :: _ :: _ :: _ :: _, _, h => exact absurd h (by simp)
theorem pick_last (zs : List Value) (h4 : 4 ≤ zs.length) (h8 : zs.length ≤ 8) : ∃ a b c, ∃ i j k : Nat, slicePick zs.toArray (some (-3)) none none = #[a, b, c] ∧ zs[i]? = some a ∧ zs[j]? = some b ∧ zs[k]? = some c := by
  match zs, h4, h8 with
  | [a, b, c, d], _, _ => exact ⟨b, c, d, 1, 2, 3, by with_unfolding_all rfl, rfl, rfl, rfl⟩
  | [a, b, c, d, e], _, _ => exact ⟨c, d, e, 2, 3, 4, by with_unfolding_all rfl, rfl, rfl, rfl⟩
  | [a, b, c, d, e, f], _, _ => exact ⟨d, e, f, 3, 4, 5, by with_unfolding_all rfl, rfl, rfl, rfl⟩
  | [a, b, c, d, e, f, g], _, _ => exact ⟨e, f, g, 4, 5, 6, by with_unfolding_all rfl, rfl, rfl, rfl⟩
  | [a, b, c, d, e, f, g, h], _, _ => exact ⟨f, g, h, 5, 6, 7, by with_unfolding_all rfl, rfl, rfl, rfl⟩
  | [], h, _ => exact absurd h (by simp)
  | [_], h, _ => exact absurd h (by simp)
  | [_, _], h, _ => exact absurd h (by simp)
  | [_, _, _], h, _ => exact absurd h (by simp)
  | _ :: _ :: _ :: _ :: _ :: _ :: _ :: _ :: _ :: _, _, h => exact absurd h (by simp)
section
variable {w : World} {A : Around} {E : Value → Shared → Prop} {s : Shared}
theorem slice_raw {value slice : Expr} {l : Addr} {items : Array Value} {vl vu a b c : Value} {lo hi : Option Int} {Q : Value → Shared → Prop}
    (hl : s.heap.IsList l items) (pl : IsPart vl lo) (pu : IsPart vu hi) (he : slicePick items lo hi none = #[a, b, c])
    (h : ∀ D h', s.heap.get? D = none → h'.get? D = some { cls := .type "list", data := .seq #[a, b, c] } → Ext s.heap h' → Q (.ref D) { s with heap := h' })
    (hs : subscripted slice false (.ref l) (.ref s.heap.objs.size) = operate [.ref s.heap.objs.size, .ref l] (getItem (.ref l) (.ref s.heap.objs.size)))
    (ht : ∀ r, letTemporaryGo value (.ref l) r = pure ()) (hsz : items.size ≤ sizeLine) :
    wpAny (model prg w) A (subscriptTail value slice (.ref l) (.ref s.heap.objs.size)) Q E { s with heap := s.heap.push { cls := .type "slice", data := .fields #[vl, vu, .none] } } := by
  refine subscriptTail_ops (Heap.IsList.typeIs (s := { s with heap := s.heap.push { cls := .type "slice", data := .fields #[vl, vu, .none] } }) (hl.push _)) list_getitem_lookup
    (wpAny_getItem_list_slice (hl.push _) (Heap.IsSliceOf.new ..) pl pu .none (by simp) ?_ hsz) hs ht
  rw [he]
  refine h _ _ ?_ (Heap.get?_push_size _ rfl) fun d o e => Heap.get?_push_of_some _ (Heap.get?_push_of_some _ e)
  show s.heap.get? (s.heap.push _).objs.size = none
  rw [Heap.size_push]
  cases e : s.heap.get? (s.heap.objs.size + 1) with
  | none => rfl
  | some o => exact absurd (Heap.lt_size e) (Nat.not_lt.mpr (Nat.le_succ _))
open SeqAt in
theorem blk_eq {a b : Addr} {u u' : Nat → Tok} {n : Int} (ha : s.heap.get? a = some (blkN u n)) (hb : s.heap.get? b = some (blkN u' n)) (hu : A.units < cLine) : EqAt A s (.ref a) (.ref b) true := by
  by_cases hab : a = b
  · subst hab
    intro prog w E Q hq
    unfold eqBool
    refine wpAny_holding ?_
    refine wpAny_ite_split (fun _ => ?_) (fun hn => absurd (by simp) hn)
    exact wpAny_bind (wpAny_rule (wpAny_pure (by simpa using hq)))
  · have R := RcAt.tuples (A := A) (s := s) (e := fun _ => true) (show s.heap.IsTuple a #[.int (bL n) (u 0), .int (bT n) (u 1), .int (bR n) (u 2), .int (bF n) (u 3)] from ⟨_, ha, rfl, 0, rfl⟩) (show s.heap.IsTuple b #[.int (bL n) (u' 0), .int (bT n) (u' 1), .int (bR n) (u' 2), .int (bF n) (u' 3)] from ⟨_, hb, rfl, 0, rfl⟩) hu (fun j h1 h2 => by
      match j, h1, h2 with
      | 0, _, _ => have := EqAt.int_int (A := A.in1) (s := s) (bL n) (u 0) (bL n) (u' 0); simpa using this
      | 1, _, _ => have := EqAt.int_int (A := A.in1) (s := s) (bT n) (u 1) (bT n) (u' 1); simpa using this
      | 2, _, _ => have := EqAt.int_int (A := A.in1) (s := s) (bR n) (u 2) (bR n) (u' 2); simpa using this
      | 3, _, _ => have := EqAt.int_int (A := A.in1) (s := s) (bF n) (u 3) (bF n) (u' 3); simpa using this
      | j + 4, h1, _ => exact absurd h1 (by simp))
    exact EqAt.of_refs hab R
open SeqAt in
theorem eq_blocks {D1 D2 : Addr} {ns : List Int} {xs ys : List Value} {g1 g2 : Heap} {L1 L2 : Addr} {Q : Value → Shared → Prop} (h1 : s.heap.IsList D1 xs.toArray) (h2 : s.heap.IsList D2 ys.toArray) (r1 : Row (BlkOf g1 L1 s.heap) ns xs) (r2 : Row (BlkOf g2 L2 s.heap) ns ys) (hu : A.units + 64 < cLine) (h : Q (.bool true) s) :
    wpAny (model prg w) A (compareOp .Eq (.ref D1) (.ref D2)) Q E s := by
  have R := RcAt.lists (A := A) (e := fun _ => true) h1 h2 (by simp only [List.size_toArray]; rw [r1.1, r2.1]) (Nat.lt_of_le_of_lt (Nat.le_add_right _ 64) hu) (fun j a b => by
    have a' : j < xs.length := by simpa using a
    have b' : j < ys.length := by simpa using b
    obtain ⟨n, e1, x, u, q1, _, _, g1⟩ := r1.2 j xs[j] (by simp [a'])
    obtain ⟨n', e2, y, u', q2, _, _, g2⟩ := r2.2 j ys[j] (by simp [b'])
    rw [e1] at e2
    cases Option.some.inj e2
    have e3 : xs.toArray[j] = .ref x := by simpa using q1
    have e4 : ys.toArray[j] = .ref y := by simpa using q2
    rw [e3, e4]
    exact blk_eq g1 g2 (by rw [PySem.Around.in1_units]; unfold cLine at hu ⊢; omega))
  rw [show ((List.range xs.toArray.size).all fun _ => true) = true by simp] at R
  exact R _ _ _ _ h
end

end
-- part PG
section
-- _law_are_held and _law_three as the law calls them
theorem ns_dict {h : Heap} {L : Addr} {m : Str → Option Value} (n : h.Ns L m) : ∃ o, h.get? L = some o ∧ (∀ vs, o.data ≠ .fields vs) ∧ (∀ vs k, o.data ≠ .seq vs k) ∧ ∀ (h' : Heap) sl, h'.get? L = some { o with slots := sl } → h'.Ns L m := by
  obtain ⟨o, es, ep, ho, hd, r⟩ := n
  refine ⟨o, ho, fun vs e => ?_, fun vs k e => ?_, fun h' sl e => ⟨_, es, ep, e, hd, r⟩⟩
  · rw [hd] at e; cases e
  · rw [hd] at e; cases e
theorem frame_free {g h : Heap} {L : Addr} {m : Str → Option Value} (F : Fr g L h m) : g.get? L = none := by
  cases e : g.get? L with
  | none => rfl
  | some o => exact absurd (Nat.lt_of_lt_of_le (Heap.lt_size e) F.above) (Nat.lt_irrefl _)
theorem held_n {w : World} {A : Around} {s : Shared} {g0 : Heap} {p : Program} {loose : List Str} {mg mb : Str → Option Value} {R : Result → Shared → Prop} {x y b1 b2 L0 : Addr} {n n' : Int} {env0 : Env} {m : Str → Option Value}
    (X0 : (hd.heap_39 w.params).In g0) (T0 : TopRead p loose mg mb g0) (F : Fr g0 L0 s.heap m) (hh : A.handled = none) (hroom : A.depth < 830) (hu : A.units < 8300) (hst : A.frames = some [env0]) (hf0 : env0.frame = some L0) (hk0 : env0.scope.kind ≠ .module)
    (hx : RngOf w.params L0 s.heap n (.ref x)) (hy : RngOf w.params L0 s.heap n' (.ref y)) (hb : BlkOf g0 L0 s.heap n (.ref b1)) (hc : BlkOf g0 L0 s.heap n' (.ref b2))
    (h : ∀ h' tk, ButL L0 s.heap h' → h'.Ns L0 m → R (.ok (.ret (.bool true))) { s with heap := h', toks := tk }) :
    codeAny (model prg w) A (.call (.ref 424) ⟨[.ref x, .ref y, .ref b1, .ref b2], []⟩) R s := by
  obtain ⟨o0, e0, d0, d1, back⟩ := ns_dict F.ns
  obtain ⟨a1, u1, q1, z1, _, g1⟩ := hb
  obtain ⟨a2, u2, q2, z2, _, g2⟩ := hc
  cases q1
  cases q2
  cases hdis : disB (bL n) (bT n) (bR n) (bF n) (bL n') (bT n') (bR n') (bF n') with
  | true => exact held_dis X0 T0 F.keep hh hroom hu hst hf0 hk0 (frame_free F) e0 d0 d1 z1 g1 z2 g2 (lim_b n) (lim_b n') hx.hid hy.hid hdis fun h' tk k ⟨sl, e⟩ => h h' tk (fun b o hb e => k b o e hb) (back h' sl e)
  | false => exact held_meet X0 T0 F.keep hh hroom hu hst hf0 hk0 (frame_free F) e0 d0 d1 z1 g1 z2 g2 (lim_b n) (lim_b n') hx.hid hy.hid hdis fun h' tk k ⟨sl, e⟩ => h h' tk (fun b o hb e => k b o e hb) (back h' sl e)
theorem three_n {w : World} {A : Around} {s : Shared} {g0 : Heap} {p : Program} {loose : List Str} {mg mb : Str → Option Value} {R : Result → Shared → Prop} {x y z D L0 : Addr} {k : Nat} {n n' n2 : Int} {env0 : Env} {m : Str → Option Value}
    (X0 : (hd.heap_39 w.params).In g0) (T0 : TopRead p loose mg mb g0) (F : Fr g0 L0 s.heap m) (hh : A.handled = none) (hroom : A.depth < 830) (hu : A.units < 8300) (hst : A.frames = some [env0]) (hf0 : env0.frame = some L0) (hk0 : env0.scope.kind ≠ .module)
    (hx : RngOf w.params L0 s.heap n (.ref x)) (hy : RngOf w.params L0 s.heap n' (.ref y)) (hz : RngOf w.params L0 s.heap n2 (.ref z)) (hD0 : g0.get? D = none) (hD : s.heap.get? D = some { cls := .type "list", data := .seq #[.ref x, .ref y, .ref z] k })
    (h : ∀ h' tk, ButL L0 s.heap h' → h'.Ns L0 m → R (.ok (.ret (.bool true))) { s with heap := h', toks := tk }) :
    codeAny (model prg w) A (.call (.ref 431) ⟨[.ref D], []⟩) R s := by
  obtain ⟨o0, e0, d0, d1, back⟩ := ns_dict F.ns
  by_cases hT : Tri (bL n) (bT n) (bR n) (bF n) (bL n') (bT n') (bR n') (bF n') (bL n2) (bT n2) (bR n2) (bF n2)
  · exact three_some X0 T0 F.keep hh hroom hu hst hf0 hk0 (frame_free F) e0 d0 d1 hD0 hD (lim_b n) (lim_b n') (lim_b n2) hx.hid hy.hid hz.hid hT fun h' tk k ⟨sl, e⟩ => h h' tk (fun b o hb e => k b o e hb) (back h' sl e)
  · exact three_none X0 T0 F.keep hh hroom hu hst hf0 hk0 (frame_free F) e0 d0 d1 hD0 hD (lim_b n) (lim_b n') (lim_b n2) hx.hid hy.hid hz.hid hT fun h' tk k ⟨sl, e⟩ => h h' tk (fun b o hb e => k b o e hb) (back h' sl e)

end
-- part PW
section

local macro_rules | `(tactic| walk_at "exec Assign cons ListComp") => `(tactic| (k_here; (with_reducible show wpAny _ _ (exec (Stmt.Assign [Expr.Name _ _] _ _) _) _ _ _); (refine stop_ ?_)))
local macro_rules | `(tactic| walk_at "pyIter ref") => `(tactic| (k_here; (with_reducible show wpAny _ _ (pyIter (Value.ref _)) (fun it s₂ => TurnsSet _ _ _ _ _ _ _ _ _ _ it s₂) _ _); (refine stop_ ?_)))
local macro_rules | `(tactic| walk_at "call type:zip") => `(tactic| (k_here; (with_reducible show wpAny _ _ (call (Value.type _) [Value.ref _, Value.ref _] _) _ _ _); (refine stop_ ?_)))
local macro_rules | `(tactic| walk_at "eval Name") => `(tactic| (k_here; (with_reducible show wpAny _ _ (eval (Expr.Name _ _) (compEnvC _ _ _ _)) _ _ _); k_dflt (first
  | (with_unfolding_all refine' nameCC_L ?k0 ?k1 ?_ ?q1 ?q2 ?q3; (case k0 => k_asm); (case k1 => exact rfl); (case q1 => rfl); (case q2 => rfl); (case q3 => decide))
  | (with_unfolding_all refine' nameCC_K ?k0 ?k1 ?k2 ?k3 ?_ ?q1 ?q2 ?q3; (case k0 => k_asm); (case k1 => k_asm); (case k2 => k_asm); (case k3 => k_is); (case q1 => rfl); (case q2 => rfl); (case q3 => decide))); k_whole))
local macro_rules | `(tactic| walk_at "call ref") => `(tactic| (k_here; (with_reducible show wpAny _ _ (call (Value.ref 367) [Value.int _ _] []) _ _ _); (refine wpAny_call ?_); k_dflt (refine' block_c ?X ?T ?hh ?hr ?hu ?_; (case X => walk_at "my xin"); (case T => walk_at "my top"); (case hh => exact rfl); (case hr => k_room); (case hu => k_units); k_whole; intro a' u' h' tk' hE' hM')))
local macro_rules | `(tactic| walk_at "call ref") => `(tactic| (k_here; (with_reducible show wpAny _ _ (call (Value.ref 396) [Value.ref _, Value.int _ _] []) _ _ _); (refine wpAny_call ?_); k_dflt (refine' made_c ?X0 ?T0 ?G ?hh ?hr ?hu ?b0 ?b1 ?q1 ?q2 ?q3 ?q4 ?q5 ?q6 ?_; (case G => exact Fr.keep (by k_asm)); (case X0 => assumption); (case T0 => assumption); (case hh => exact rfl); (case hr => k_room); (case hu => k_units); (case b1 => exact (news_at (by k_asm) (by k_mem)).2); (case b0 => exact (news_at (by k_asm) (by k_mem)).1); (case q1 => omega); (case q2 => omega); (case q3 => omega); (case q4 => omega); (case q5 => omega); (case q6 => omega); k_whole; intro x' dx' k' u' h' tk' hE' hM')))
local macro_rules | `(tactic| walk_at "exec For Tuple Call cons nil") => `(tactic| (k_here; (refine stop_ ?_)))
local macro_rules | `(tactic| walk_at "call ref") => `(tactic| (k_here; (with_reducible show wpAny _ _ (call (Value.ref 424) [Value.ref _, Value.ref _, Value.ref _, Value.ref _] []) _ _ _); (refine stop_ ?_)))
local macro_rules | `(tactic| walk_at "subscriptTail Name Slice ref ref") => `(tactic| (k_here; (with_reducible show wpAny _ _ (subscriptTail (Expr.Name (PySem.Str.ofString "ranges") _) _ (Value.ref _) (Value.ref _)) _ _ _); (refine stop_ ?_)))
local macro_rules | `(tactic| walk_at "call ref") => `(tactic| (k_here; (with_reducible show wpAny _ _ (call (Value.ref 431) [Value.ref _] []) _ _ _); (refine stop_ ?_)))
local macro_rules | `(tactic| walk_at "eval ListComp") => `(tactic| (k_here; (with_reducible show wpAny _ _ (eval (Expr.ListComp (Expr.Attribute _ _ _) _ _ _) _) _ _ _); (refine stop_ ?_)))
local macro_rules | `(tactic| walk_at "pyIter ref") => `(tactic| (k_here; (with_reducible show wpAny _ _ (pyIter (Value.ref _)) (fun it s₂ => TurnsNext _ _ _ _ _ _ _ _ it s₂) _ _); (refine stop_ ?_)))
local macro_rules | `(tactic| walk_at "getAttr ref") => `(tactic| (k_here; (with_reducible show wpAny _ _ (getAttr (Value.ref _) (PySem.Str.ofString "bounds") _) _ _ _); k_dflt (refine' get_prop ?k1 ?k2 ?k3 ?k4 ?k5 ?k6 ?k7 ?k8 ?k9 ?_; (case k1 => k_asm); (case k2 => k_asm); (case k3 => k_inst); (case k4 => k_is); (case k5 => k_is); (case k6 => k_is); (case k7 => k_is); (case k8 => k_is); (case k9 => k_is); k_whole); k_dflt (refine' bounds_c ?X ?T ?hh ?hr ?hu ?hx ?_; (case X => walk_at "my xin"); (case T => walk_at "my top"); (case hh => exact rfl); (case hr => k_room); (case hu => k_units); (case hx => walk_at "my rg"); k_whole; intro a' u' h' tk' hE' hM'); (try dsimp only)))
local macro_rules | `(tactic| walk_at "compareOp Eq ref ref") => `(tactic| (k_here; k_dflt (refine' eq_blocks (PySem.Heap.PlainList.isList (by assumption)) (PySem.Heap.PlainList.isList (by assumption)) ?r1 ?r2 ?u ?_; (case r1 => assumption); (case r2 => assumption); (case u => k_units))))
theorem law_holds : PySem.Challenge.rw_aa5019_01.Holds := by
  refine hd ?_
  k_go0
  all_goals (try k_fold)
  k_steps
  unfold Stop
  rename Top _ _ _ _ _ _ => T0
  have TR := topRead_of T0
  rename Frag.In _ _ => KX
  rename Fr _ _ _ _ => F
  rename News _ _ _ _ => N
  rename IntsAre _ _ => hI0
  obtain ⟨ns, hI, h4, h8⟩ := script_nums hI0
  clear hI0
  refine' set_turns ?clo ?hc ?hk ?hn ?sw ?hy ?hp ?s0 ?_
  case clo => with_unfolding_all rfl
  case hc => decide
  case hk => exact rfl
  case hn => decide
  case sw => with_unfolding_all rfl
  case hy => rfl
  case hp => rfl
  case s0 => intro _; rfl
  k_steps
  unfold Stop
  replace N := news_one N
  refine' blocks_next ?hh ?hl hI ?len F.ns F.keep ?kx ?hp ?hcall ?fin
  case hh => rfl
  case hl => exact ⟨_, (N _ (List.mem_cons_self ..)).1, rfl, 0, rfl⟩
  case len => rw [IntsAre.length hI]; exact Nat.le_trans h8 (by decide)
  case kx => intro C; rfl
  case hp => intro C; rfl
  case hcall =>
    intro C h tk m' n t E' Q' hCs hn hE hq
    have F2 := fr_in F hE hn hCs
    have N2 := news_nil0 F2
    clear F N
    k_steps
    all_goals (rename Ext _ _ => hE2; rename Made _ _ _ => hM2; exact hq _ _ _ _ hE2 (made_one hM2).1 (made_one hM2).2)
  case fin =>
    intro DB h' tk bs hDn hPB hB hk hNs
    have F2 := fr_but F hk hNs
    obtain ⟨nB, N2⟩ := news_add F hDn hPB (news_but N hk)
    clear F N
    dsimp only
    k_steps
    unfold Stop
    rename Fr _ _ _ _ => F
    rename News _ _ _ _ => N
    refine' set_turns ?clo ?hc ?hk ?hn ?sw ?hy ?hp ?s0 ?_
    case clo => with_unfolding_all rfl
    case hc => decide
    case hk => exact rfl
    case hn => decide
    case sw => with_unfolding_all rfl
    case hy => rfl
    case hp => rfl
    case s0 => intro _; rfl
    k_steps
    unfold Stop
    refine' ranges_next (g0 := _) (ns := ns) ?hh hPB.isList ?hl2 hI ?len hB F.ns F.keep ?k1 ?k2 ?hp ?hcall ?fin
    case hh => rfl
    case hl2 => exact ⟨_, (N _ (List.mem_cons_of_mem _ (List.mem_cons_self ..))).1, rfl, 0, rfl⟩
    case len => rw [IntsAre.length hI]; exact Nat.le_trans h8 (by decide)
    case k1 => intro C; rfl
    case k2 => intro C; rfl
    case hp => intro C; rfl
    case hcall =>
      intro C h tk m' b u n t E' Q' hCs hn hE hb0 hbC hb hq
      have F2 := fr_in F hE hn hCs
      have N2 := news_b hb0 hbC hb
      have lm := lim_b n
      unfold Lim at lm
      clear F N
      k_steps
      all_goals (rename Ext _ _ => hE2; rename Made _ _ _ => hM2; exact hq _ _ _ _ _ _ hE2 (made_both hM2).1.1 (made_both hM2).1.2 (made_both hM2).2.1 (made_both hM2).2.2)
    case fin =>
      intro DR h2 tk2 rs hDn2 hPR hR hk2 hNs2
      have hPB2 := plain_but hPB (plain_ne hPB hNs) hk2
      have hB2 := row_blk hB hk2
      have F3 := fr_but F hk2 hNs2
      clear F N hk hDn hPB hB hNs
      have N3 := news_nil0 F3
      dsimp only
      k_steps
      unfold Stop
      refine for_own (by passes_own) (fun _ => rfl) ?_
      k_steps
      unfold Stop
      rename Fr _ _ _ _ => F
      refine' zip_turns (xs := rs) (ys := bs) (fun m => m (Str.ofString "ranges") = some (.ref DR) ∧ m (Str.ofString "blocks") = some (.ref DB)) ?hh hPR hPB2 F.ns ?hJ ?ka ?kb ?hp ?turn ?fin
      case hh => rfl
      case hJ => exact ⟨rfl, rfl⟩
      case ka => rfl
      case kb => rfl
      case hp => rfl
      case turn =>
        intro i vx vy h3 tk3 m1 hx hy hJ hn hk3 h3b hk3b
        obtain ⟨n1, hr1, hb1⟩ := row_at hR hB2 hx hy
        obtain ⟨x1, rfl, hr1⟩ := rng_ref hr1
        obtain ⟨b1, rfl, hb1⟩ := blk_ref hb1
        replace hr1 := RngOf.keep hr1 hk3
        replace hb1 := BlkOf.keep hb1 hk3
        have nDR := plain_ne hPR F.ns
        have nDB := plain_ne hPB2 F.ns
        have hPR3 := plain_but hPR nDR hk3
        have hPB3 := plain_but hPB2 nDB hk3
        have hR3 := row_rng hR hk3
        have hB3 := row_blk hB2 hk3
        have F4 := fr_but F hk3 hn
        rw [names_two hJ.1 hJ.2] at F4
        unfold upd2 at F4
        clear F N3
        have N4 := news_nil0 F4
        k_steps
        unfold Stop
        refine for_own (by passes_own) (fun _ => rfl) ?_
        k_steps
        unfold Stop
        rename Fr _ _ _ _ => F
        refine' zip_turns (xs := rs) (ys := bs) (fun m => (m (Str.ofString "ranges") = some (.ref DR) ∧ m (Str.ofString "blocks") = some (.ref DB)) ∧ m (Str.ofString "one") = some (.ref x1) ∧ m (Str.ofString "first") = some (.ref b1)) ?hh hPR3 hPB3 F.ns ?hJ ?ka ?kb ?hp ?turn2 ?fin2
        case hh => rfl
        case hJ => exact ⟨⟨rfl, rfl⟩, rfl, rfl⟩
        case ka => rfl
        case kb => rfl
        case hp => rfl
        case turn2 =>
          intro i2 vx2 vy2 h5 tk5 m2 hx2 hy2 hJ2 hn2 hk5 h5b hk5b
          obtain ⟨n2, hr2, hb2⟩ := row_at hR3 hB3 hx2 hy2
          obtain ⟨x2, rfl, hr2⟩ := rng_ref hr2
          obtain ⟨b2, rfl, hb2⟩ := blk_ref hb2
          replace hr1 := RngOf.keep hr1 hk5
          replace hb1 := BlkOf.keep hb1 hk5
          replace hr2 := RngOf.keep hr2 hk5
          replace hb2 := BlkOf.keep hb2 hk5
          have F6 := fr_but F hk5 hn2
          rw [names_four hJ2] at F6
          unfold upd2 at F6
          clear F N4
          have N6 := news_nil0 F6
          k_steps
          unfold Stop
          rename Fr _ _ _ _ => F
          refine wpAny_call ?_
          refine' held_n KX TR F ?hh ?hr ?hu ?hst ?hf0 ?hk0 hr1 hr2 hb1 hb2 ?_
          case hh => exact rfl
          case hr => k_room
          case hu => k_units
          case hst => exact Around.frames_deeper (A := callerA) rfl
          case hf0 => exact rfl
          case hk0 => exact (fun q => by cases q)
          intro h7 tk7 hk7 hn7
          have F8 := fr_but F hk7 hn7
          clear F N6
          have N8 := news_nil0 F8
          k_steps
          rename Fr _ _ _ _ => F
          exact ⟨_, _, _, rfl, ButL.trans hk5b hk7, F.ns, ⟨rfl, rfl⟩, rfl, rfl⟩
        case fin2 =>
          intro h5 tk5 m2 hJ2 hn2 hk5
          have F6 := fr_but F hk5 hn2
          clear F N4
          have N6 := news_nil0 F6
          dsimp only
          k_steps
          exact ⟨_, _, _, rfl, ButL.trans hk3b hk5, hn2, hJ2.1⟩
      case fin =>
        intro h3 tk3 m1 hJ hn hk3
        have nDR := plain_ne hPR F.ns
        have nDB := plain_ne hPB2 F.ns
        have F4 := fr_but F hk3 hn
        rw [names_two hJ.1 hJ.2] at F4
        have hPR3 := plain_but hPR nDR hk3
        have hPB3 := plain_but hPB2 nDB hk3
        have hR3 := row_rng hR hk3
        have hB3 := row_blk hB2 hk3
        clear F N3
        have N4 := news_nil0 F4
        dsimp only
        k_steps
        unfold Stop
        obtain ⟨ap1, ap2, ap3, ip1, ip2, ip3, hpp, gp1, gp2, gp3⟩ := pick_first rs (by rw [hR.1]; exact h4) (by rw [hR.1]; exact h8)
        rename Fr _ _ _ _ => F
        refine' slice_raw (s := ⟨_, _, _, _, _⟩) hPR3.isList ?plp ?pup hpp ?_ ?qp ?gp ?zp
        case plp => exact .none
        case pup => exact .int _ _
        case qp => with_unfolding_all rfl
        case gp => intro _; with_unfolding_all rfl
        case zp => simp only [List.size_toArray]; rw [hR.1]; exact Nat.le_trans h8 (by decide)
        intro Dp hpa hDpn hDp hkpa
        dsimp only at hDpn hkpa
        have Fpa := Fr.keeps F hkpa
        have hDp0 := none_low F hDpn
        have hRpa := row_rng hR3 (fun b o _ e => hkpa b o e)
        have hPRpa := Heap.PlainList.at hPR3 (fun o e => hkpa _ o e)
        have hBpa := row_blk hB3 (fun b o _ e => hkpa b o e)
        have hPBpa := Heap.PlainList.at hPB3 (fun o e => hkpa _ o e)
        clear F N4
        have Npa := news_nil0 Fpa
        k_steps
        unfold Stop
        refine wpAny_call ?_
        obtain ⟨np1, _, hrp1⟩ := hRpa.2 _ _ gp1
        obtain ⟨np2, _, hrp2⟩ := hRpa.2 _ _ gp2
        obtain ⟨np3, _, hrp3⟩ := hRpa.2 _ _ gp3
        obtain ⟨xp1, rfl, hrp1⟩ := rng_ref hrp1
        obtain ⟨xp2, rfl, hrp2⟩ := rng_ref hrp2
        obtain ⟨xp3, rfl, hrp3⟩ := rng_ref hrp3
        rename Fr _ _ _ _ => F
        refine' three_n KX TR F ?hhp ?hrp ?hup ?hstp ?hfp ?hkp hrp1 hrp2 hrp3 hDp0 hDp ?_
        case hhp => exact rfl
        case hrp => k_room
        case hup => k_units
        case hstp => exact Around.frames_deeper (A := callerA) rfl
        case hfp => exact rfl
        case hkp => exact (fun q => by cases q)
        intro hpb tkpb hkpb hnpb
        have Fpb := fr_but F hkpb hnpb
        have hRpb := row_rng hRpa hkpb
        have hPRpb := plain_but hPRpa (plain_ne hPRpa F.ns) hkpb
        have hBpb := row_blk hBpa hkpb
        have hPBpb := plain_but hPBpa (plain_ne hPBpa F.ns) hkpb
        clear F Npa
        have Npb := news_nil0 Fpb
        k_steps
        unfold Stop
        obtain ⟨aq1, aq2, aq3, iq1, iq2, iq3, hpq, gq1, gq2, gq3⟩ := pick_last rs (by rw [hR.1]; exact h4) (by rw [hR.1]; exact h8)
        rename Fr _ _ _ _ => F
        refine' slice_raw (s := ⟨_, _, _, _, _⟩) hPRpb.isList ?plq ?puq hpq ?_ ?qq ?gq ?zq
        case plq => exact .int _ _
        case puq => exact .none
        case qq => with_unfolding_all rfl
        case gq => intro _; with_unfolding_all rfl
        case zq => simp only [List.size_toArray]; rw [hR.1]; exact Nat.le_trans h8 (by decide)
        intro Dq hqa hDqn hDq hkqa
        dsimp only at hDqn hkqa
        have Fqa := Fr.keeps F hkqa
        have hDq0 := none_low F hDqn
        have hRqa := row_rng hRpb (fun b o _ e => hkqa b o e)
        have hPRqa := Heap.PlainList.at hPRpb (fun o e => hkqa _ o e)
        have hBqa := row_blk hBpb (fun b o _ e => hkqa b o e)
        have hPBqa := Heap.PlainList.at hPBpb (fun o e => hkqa _ o e)
        clear F Npb
        have Nqa := news_nil0 Fqa
        k_steps
        unfold Stop
        refine wpAny_call ?_
        obtain ⟨nq1, _, hrq1⟩ := hRqa.2 _ _ gq1
        obtain ⟨nq2, _, hrq2⟩ := hRqa.2 _ _ gq2
        obtain ⟨nq3, _, hrq3⟩ := hRqa.2 _ _ gq3
        obtain ⟨xq1, rfl, hrq1⟩ := rng_ref hrq1
        obtain ⟨xq2, rfl, hrq2⟩ := rng_ref hrq2
        obtain ⟨xq3, rfl, hrq3⟩ := rng_ref hrq3
        rename Fr _ _ _ _ => F
        refine' three_n KX TR F ?hhq ?hrq ?huq ?hstq ?hfq ?hkq hrq1 hrq2 hrq3 hDq0 hDq ?_
        case hhq => exact rfl
        case hrq => k_room
        case huq => k_units
        case hstq => exact Around.frames_deeper (A := callerA) rfl
        case hfq => exact rfl
        case hkq => exact (fun q => by cases q)
        intro hqb tkqb hkqb hnqb
        have Fqb := fr_but F hkqb hnqb
        have hRqb := row_rng hRqa hkqb
        have hPRqb := plain_but hPRqa (plain_ne hPRqa F.ns) hkqb
        have hBqb := row_blk hBqa hkqb
        have hPBqb := plain_but hPBqa (plain_ne hPBqa F.ns) hkqb
        clear F Nqa
        have Nqb := news_nil0 Fqb
        k_steps
        unfold Stop
        refine' comp_turns ?clo6 ?hc6 ?hk6 ?hn6 ?s06 ?_
        case clo6 => with_unfolding_all rfl
        case hc6 => decide
        case hk6 => exact rfl
        case hn6 => decide
        case s06 => intro _; rfl
        k_steps
        unfold Stop
        rename Fr _ _ _ _ => F
        refine' bounds_next (ns := ns) ?hh6 hPRqb.isList ?len6 hRqb F.ns ?kx6 ?hp6 ?hcall6 ?fin6
        case hh6 => rfl
        case len6 => rw [hRqb.1]; exact Nat.le_trans h8 (by decide)
        case kx6 => intro C; rfl
        case hp6 => intro C; rfl
        case hcall6 =>
          intro C h tk m' a n E' Q' hCs hn hE hr hq
          obtain ⟨da, ka, ua, hr1, hr2⟩ := id hr
          have F2 : Fr _ C h _ := ⟨hn, hE, hCs⟩
          have X2 := Frag.In.keeps KX F.keep
          have T2 := TR.keeps F.keep
          have N2 := news_nil0 F2
          clear F Nqb KX TR
          k_steps
          all_goals (rename Ext _ _ => hE2; rename Made _ _ _ => hM2; exact hq _ _ _ _ hE2 (made_one hM2).1 (made_one hM2).2)
        case fin6 =>
          intro D6 h6 tk6 ys6 hD6n hPD6 hBD6 hk6
          have F6 := Fr.keeps F hk6
          have hB6 := row_blk hBqb (fun b o _ e => hk6 b o e)
          have hPB6 := Heap.PlainList.at hPBqb (fun o e => hk6 _ o e)
          clear F Nqb
          have N6 := news_nil0 F6
          k_steps

end
end Mine
theorem PySem.Challenge.cw_aa5019_01_holds : PySem.Challenge.rw_aa5019_01.Holds := by
  exact Mine.law_holds

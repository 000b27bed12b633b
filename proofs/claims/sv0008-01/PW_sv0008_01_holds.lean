import PyProof.Rows.All
import Wide.All
import OpenK.AllK
import Wide.FinOn
import PySem.Challenge.RW_sv0008_01
open PySem PySem.W PySem.Calls PyProof.Rows
set_option Elab.async false
set_option maxRecDepth 100000
set_option maxHeartbeats 4000000

section
open PySem PySem.W PyProof.Rows
set_option maxRecDepth 100000
set_option maxHeartbeats 8000000
namespace Mine
open_top hd for PySem.Challenge.rw_sv0008_01
end Mine

end

section
set_option maxRecDepth 100000
set_option maxHeartbeats 4000000
namespace Mine
/-- what has to be shown of the law's body -/
def BodyGood (b : List Stmt) (sc : Scope) : Prop :=
  ∀ (w : World) (mean : ExcName → Option Value) (mg mb : Str → Option Value) (s₁ : Shared) (h₁ : Heap) (fa : Addr) (cd : Value) (l : Addr) (vs : List Value) (xs : List Int) (Q : Flow → Shared → Prop) (E : Value → Shared → Prop) (tk : Nat) (c1 c2 c3 : Obj),
    (hd.heap_39 w.params).In s₁.heap → Top hd.view_39 (looseW hd.view_39 [Str.ofString "ABC", Str.ofString "AbstractContextManager"]) mean mg mb s₁.heap → Below callerA s₁.heap [] s₁.heap →
    Fr s₁.heap s₁.heap.objs.size h₁ (fun y => if y = "script" then some (.ref l) else none) →
    News s₁.heap s₁.heap.objs.size h₁ [(s₁.heap.objs.size + 1 + 1 + 1, c3), (s₁.heap.objs.size + 1 + 1, c2), (s₁.heap.objs.size + 1, c1)] → c1.data = .cell none → c2.data = .cell none → c3.data = .cell none →
    s₁.heap.IsList l vs.toArray → IntsAre vs xs → xs.length ≤ 63 →
    PassesOwn (model PySem.Challenge.rw_sv0008_01.row.prog w) (callerA.deeper (envOfC (Str.ofString "law") sc s₁.heap.objs.size fa cd)) (envOfC (Str.ofString "law") sc s₁.heap.objs.size fa cd) E →
    (∀ h' tk m', Fr s₁.heap s₁.heap.objs.size h' m' → Q (.ret (.bool true)) { s₁ with heap := h', toks := tk }) →
    wpAny (model PySem.Challenge.rw_sv0008_01.row.prog w) (callerA.deeper (envOfC (Str.ofString "law") sc s₁.heap.objs.size fa cd)) (execs b (envOfC (Str.ofString "law") sc s₁.heap.objs.size fa cd)) Q E { s₁ with heap := h₁, toks := tk }
noncomputable def lawX : { x : List Stmt × Scope // BodyGood x.1 x.2 → PySem.Challenge.rw_sv0008_01.Holds } := by
  refine' ⟨(?b, ?s), fun H => Mine.hd ?h⟩
  case h =>
    k_go0
    (rename Fr _ _ _ _ => FX)
    (rename News _ _ _ _ => NX)
    (rename Heap.IsList _ _ _ => LX)
    (rename IntsAre _ _ => IX)
    (rename ¬ _ < _ => CX)
    (rename Below _ _ _ _ => BX)
    (rename Top _ _ _ _ _ _ => TX)
    (rename Frag.In _ _ => KX)
    refine' H _ _ _ _ _ _ _ _ _ _ _ _ _ _ _ _ _ KX TX BX FX NX ?c1 ?c2 ?c3 LX IX ?l ?pe ?q
    (case c1 => assumption)
    (case c2 => assumption)
    (case c3 => assumption)
    (case l => omega)
    (case pe => passes_own)
    case q =>
      intro h' tk m' F'
      dsimp only
      wrow_close
noncomputable def lawBody : List Stmt := lawX.1.1
noncomputable def lawSc : Scope := lawX.1.2
theorem law_of (h : BodyGood lawBody lawSc) : PySem.Challenge.rw_sv0008_01.Holds := lawX.2 h
end Mine

end

section
set_option maxRecDepth 100000
set_option maxHeartbeats 4000000
namespace Mine
noncomputable abbrev Pg : Program := PySem.Challenge.rw_sv0008_01.row.prog
noncomputable abbrev Lo : List Str := looseW hd.view_39 [Str.ofString "ABC", Str.ofString "AbstractContextManager"]
noncomputable abbrev lawEnv (L fa : Addr) (cd : Value) : Env := envOfC (Str.ofString "law") lawSc L fa cd

/-- where a chain of rows ends -/
inductive Goes (nx : Int → Option Int) : Int → Int → Prop
  | stop {k : Int} : nx k = none → Goes nx k k
  | step {k k' r : Int} : nx k = some k' → Goes nx k' r → Goes nx k r

/-- the dict's rows are nx's -/
def RowsAre (kvs : List (Int × Value)) (nx : Int → Option Int) : Prop :=
  ∀ k, match nx k with
    | none => valueAt kvs k = none
    | some k' => ∃ t, valueAt kvs k = some (Value.int k' t)

section
variable {prog : Program} {w : World} {A : Around} {E : Value → Shared → Prop} {s : Shared} {g : Heap} {L f : Addr} {cd : Value} {m : Str → Option Value} {news : List (Addr × Obj)} {Q : Flow → Shared → Prop}
  {name : Str} {scope : Scope} {d : Addr} {od : Obj} {kvs : List (Int × Value)} {nx : Int → Option Int} {rank : Int → Nat} {p1 p2 p3 p4 p5 p6 p7 p8 p9 : Pos} {k : Int} {t : Tok}

theorem tg_loop (hk : scope.kind = .function) (hl1 : scope.names.lookup (Str.ofString "key") = some NameKind.local) (hl2 : scope.names.lookup (Str.ofString "d") = some NameKind.local)
    (F : Fr g L s.heap m) (N : News g L s.heap news) (hm : (d, od) ∈ news) (hD : od.IsDictOf (intKind prog w) kvs) (lo : (d == sysModules) = false)
    (hkey : m "key" = some (.int k t)) (hdd : m "d" = some (.ref d)) (hrow : RowsAre kvs nx) (hrank : ∀ k k', nx k = some k' → rank k' < rank k)
    (h : ∀ h' tk r t', Fr g L h' (fun y => if y = "key" then some (.int r t') else m y) → News g L h' news → Goes nx k r → Q .next { s with heap := h', toks := tk }) :
    wpAny (model prog w) A (exec (.While (.Compare (.Name "key" p1) [.In] [.Name "d" p2] p3) [.Assign [.Name "key" p4] (.Subscript (.Name "d" p5) (.Name "key" p6) p7) p8] [] p9) (envOf name scope L f cd)) Q E s := by
  refine wpAny_While ?_
  refine codeAny_whileLoop (fun n s' => ∃ h' tk k' t', s' = { s with heap := h', toks := tk } ∧ n = rank k' ∧ Fr g L h' (fun y => if y = "key" then some (.int k' t') else m y) ∧ News g L h' news ∧ ∀ r, Goes nx k' r → Goes nx k r) ?_ (rank k) ?_
  · rintro n s' ⟨h', tk, k', t', rfl, rfl, F', N', hgo⟩
    refine wpAny_isTrue_Compare1 ?_
    refine ld F' (if_pos rfl) ?_ hk hl1
    refine ld F' (by rw [if_neg (by decide)]; exact hdd) ?_ hk hl2
    refine kda_in (knd := intKind prog w) N' hm hD lo (intKind_is _ _ _ _) (valueAt kvs k').isSome rfl ?_
    refine wpAny_truthy_bool ?_
    have hr := hrow k'
    cases hx : nx k' with
    | none =>
      rw [hx] at hr
      have hr : valueAt kvs k' = none := hr
      rw [hr]
      simp only [Option.isSome_none, Bool.false_eq_true, if_false]
      exact wpAny_execs_nil (h _ _ _ _ F' N' (hgo _ (.stop hx)))
    | some k2 =>
      rw [hx] at hr
      obtain ⟨t2, hr⟩ : ∃ t, valueAt kvs k' = some (Value.int k2 t) := hr
      rw [hr]
      simp only [Option.isSome_some, if_true]
      refine wpAny_execs_cons (wpAny_Assign_Name ?_)
      refine Subscript_ ?_
      refine ld F' (by rw [if_neg (by decide)]; exact hdd) ?_ hk hl2
      refine ld F' (if_pos rfl) ?_ hk hl1
      refine kda_item (knd := intKind prog w) N' hm hD (intKind_is _ _ _ _) hr ?_
      refine stN F' N' (fun h2 F2 N2 => ?_) hk hl1
      refine wpAny_execs_nil ?_
      refine ⟨rank k2, hrank _ _ hx, _, _, k2, t2, rfl, rfl, ?_, N2, fun r hg => hgo _ (.step hx hg)⟩
      have e : (fun y => if y = ("key" : Str) then some (Value.int k2 t2) else if y = ("key" : Str) then some (Value.int k' t') else m y) = fun y => if y = ("key" : Str) then some (Value.int k2 t2) else m y := by
        funext y
        by_cases hy : y = ("key" : Str)
        · simp [hy]
        · simp [hy]
      rw [← e]; exact F2
  · refine ⟨_, _, k, t, rfl, rfl, ?_, N, fun _ h => h⟩
    have e : (fun y => if y = ("key" : Str) then some (Value.int k t) else m y) = m := by
      funext y
      by_cases hy : y = ("key" : Str)
      · subst hy; simp [hkey]
      · simp [hy]
    rw [e]; exact F
end
end Mine

end

section
set_option maxRecDepth 100000
set_option maxHeartbeats 4000000
namespace Mine
noncomputable section
def numsOf (xs : List Int) : List Int := xs.take 7 ++ [5, 9, 0, 6, 13, 2, 3].drop (xs.take 7).length
theorem numsOf_length (xs : List Int) : (numsOf xs).length = 7 := by
  simp only [numsOf, List.length_append, List.length_drop, List.length_take, List.length_cons, List.length_nil]
  omega
def NumPost (s₁ : Shared) (L : Addr) (c1 c2 c3 : Obj) (l : Addr) (xs : List Int) (f : Flow) (s : Shared) : Prop :=
  f = .next ∧ ∃ h' tk nl ws, s = { s₁ with heap := h', toks := tk } ∧ Fr s₁.heap L h' (fun y => if y = "numbers" then some (.ref nl) else if y = "script" then some (.ref l) else none) ∧
    News s₁.heap L h' [(nl, PySem.W.listOf ws.toArray 0), (L + 1 + 1 + 1, c3), (L + 1 + 1, c2), (L + 1, c1)] ∧ IntsAre ws (numsOf xs)

def seg1 : List Stmt := lawBody.take 1
theorem nums_walk {w : World} {mean : ExcName → Option Value} {mg mb : Str → Option Value} {s₁ : Shared} {h₁ : Heap} {fa : Addr} {cd : Value} {l : Addr} {vs : List Value} {xs : List Int} {E : Value → Shared → Prop} {tk : Nat} {c1 c2 c3 : Obj}
    (KX : (hd.heap_39 w.params).In s₁.heap) (TX : Top hd.view_39 (looseW hd.view_39 [Str.ofString "ABC", Str.ofString "AbstractContextManager"]) mean mg mb s₁.heap) (BX : Below callerA s₁.heap [] s₁.heap)
    (FX : Fr s₁.heap s₁.heap.objs.size h₁ (fun y => if y = "script" then some (.ref l) else none))
    (NX : News s₁.heap s₁.heap.objs.size h₁ [(s₁.heap.objs.size + 1 + 1 + 1, c3), (s₁.heap.objs.size + 1 + 1, c2), (s₁.heap.objs.size + 1, c1)])
    (LX : s₁.heap.IsList l vs.toArray) (IX : IntsAre vs xs) (hlen : xs.length ≤ 63) :
    wpAny (model PySem.Challenge.rw_sv0008_01.row.prog w) (callerA.deeper (lawEnv s₁.heap.objs.size fa cd)) (execs seg1 (lawEnv s₁.heap.objs.size fa cd)) (NumPost s₁ s₁.heap.objs.size c1 c2 c3 l xs) E { s₁ with heap := h₁, toks := tk } := by
  unfold seg1 lawEnv lawBody lawSc lawX
  dsimp only [List.take]
  revert KX; k_fill; intro KX
  k_steps
  (rename Fr s₁.heap s₁.heap.objs.size _ _ => FL)
  (rename News s₁.heap s₁.heap.objs.size _ _ => NL)
  (rename IntsAre _ (_ ++ _) => IL)
  refine ⟨rfl, _, _, _, _, rfl, FL, fun p hp => NL p ?_, by simpa [numsOf] using IL⟩
  rcases List.mem_cons.mp hp with rfl | hp
  · exact .head _
  · exact .tail _ (.tail _ (.tail _ (.tail _ (.tail _ hp))))

end
end Mine

end

section
set_option maxRecDepth 100000
set_option maxHeartbeats 4000000
namespace Mine
noncomputable section
variable {w : World} {A₀ : Around} {E : Value → Shared → Prop} {s : Shared} {h₀ base : Heap} {L fa : Addr} {cd : Value} {m mg mb : Str → Option Value} {news : List (Addr × Obj)} {mean : ExcName → Option Value} {outer : List Env} {Q : Value → Shared → Prop}

theorem tg_int (k : Int) (t : Tok) (d : Addr) (od : Obj) (kvs : List (Int × Value)) (nx : Int → Option Int) (rank : Int → Nat) (B : Below callerA base [] h₀) (F : Fr h₀ L s.heap m) (X₀ : (hd.heap_39 w.params).In h₀) (N : News h₀ L s.heap [(d, od)])
    (T : Top hd.view_39 (looseW hd.view_39 [Str.ofString "ABC", Str.ofString "AbstractContextManager"]) mean mg mb h₀)
    (hD : od.IsDictOf (intKind PySem.Challenge.rw_sv0008_01.row.prog w) kvs) (lo : (d == sysModules) = false) (hrow : RowsAre kvs nx) (hrank : ∀ k k', nx k = some k' → rank k' < rank k)
    (h : ∀ h' tk r t, (∀ b o, s.heap.get? b = some o → h'.get? b = some o) → Goes nx k r → Q (.int r t) { s with heap := h', toks := tk }) :
    wpAny (model PySem.Challenge.rw_sv0008_01.row.prog w) (callerA.deeper (lawEnv L fa cd)) (call (.ref 125) [.int k t, .ref d]) Q E s := by
  revert X₀; k_fill; intro X₀
  refine wpAny_call ?_
  refine' code_defG B F X₀ N T rfl rfl rfl ?k6 ?k7 ?k8 ?k9 ?kB ?_ ?c2 ?c3 ?c4 ?c5
  (case k6 => k_is)
  (case k7 => k_is)
  (case k8 => k_room)
  (case k9 => exact BindsTo.of_eq rfl)
  (case kB => exact locs rfl)
  (case c2 => exact rfl)
  (case c3 => exact rfl)
  (case c4 => exact rfl)
  (case c5 => decide)
  intro g L1 h1 FG F1 N1 B1 X1 T1 kG
  dsimp only
  k_fold
  iterate 27 (first | (k_unfold; (try dsimp only)) | (k_end; wrow_close) | walk1 | (dsimp only; walk1) | (leave1; walk_say "STEP leave1"; try dsimp only))
  refine' tg_loop (k := k) (t := t) (d := d) (od := od) (kvs := kvs) (nx := nx) (rank := rank) ?a ?b ?c ?F ?N ?m ?D ?lo ?k ?dd ?row ?rank ?_
  (case a => rfl)
  (case b => rfl)
  (case c => rfl)
  (case F => k_asm)
  (case N => k_asm)
  (case m => k_mem)
  (case D => exact hD)
  (case lo => exact lo)
  (case k => rfl)
  (case dd => rfl)
  (case row => exact hrow)
  (case rank => exact hrank)
  intro h' tk' r' t' F' N' hgo'
  k_steps
  (rename Fr g L1 _ _ => FL)
  (rename News h₀ L _ _ => NL)
  refine h _ _ _ _ (fun b o e => ?_) hgo'
  by_cases hb : b = d
  · subst hb
    have e2 := (N (b, od) (.head _)).1
    rw [e] at e2
    rw [Option.some.inj e2]
    exact (NL (b, od) (by k_mem)).1
  · exact FL.keep b o (kG b o e (by simpa using hb))
end
end Mine

end

section
set_option maxRecDepth 100000
set_option maxHeartbeats 4000000
namespace Mine
section
variable {prog : Program} {w : World} {A : Around} {E : Value → Shared → Prop} {s : Shared}

theorem list_nohash : typeLookup (.type "list") "__hash__" = pure (some Value.none) := by rw [typeLookup_type, builtinLookup_eq_fast]; kernel_rfl

theorem hash_list {l : Addr} {Q : Int → Shared → Prop} (hu : A.units < cLine) (hh : A.handled = none) (hT : s.TypeIs (.ref l) "list")
    (h : ∀ h' tk e, Heap.NewExc s.heap h' e "TypeError" → E (.ref e) { s with heap := h', toks := tk }) : wpAny (model prog w) A (pyHash (.ref l)) Q E s := by
  unfold pyHash
  unfold pyHashByItsType
  refine wpAny_bind (wpAny_cRoomFor_or (.inr hu) ?_)
  refine wpAny_bind (wpAny_specialOf hT list_nohash ?_)
  rw [if_pos (by rfl)]
  refine wpAny_bind (wpAny_rule (wpAny_bind (wpAny_typeNameOf' hT (by decide) ?_)))
  refine wpAny_bind (wpAny_raiseTypeError hh h ?_)
  size_fits

theorem in_list_raises {l d : Addr} {K : Type} [DecidableEq K] {knd : KeyKind prog w K} {f : K → Option Value} {Q : Value → Shared → Prop} (hu1 : A.units + 1 < cLine) (hh : A.handled = none) (hT : s.TypeIs (.ref l) "list") (hm : s.heap.MapOf knd d f)
    (h : ∀ h' tk e, Heap.NewExc s.heap h' e "TypeError" → E (.ref e) { s with heap := h', toks := tk }) : wpAny (model prog w) A (compareOp .In (.ref l) (.ref d)) Q E s := by
  show wpAny _ _ (do return .bool (← contains (.ref d) (.ref l))) Q E s
  refine wpAny_bind ?_
  unfold contains
  try with_reducible refine wpAny_holding ?_
  refine wpAny_bind (wpAny_specialOf hm.typeIs slot_dict_contains.lookup ?_)
  show wpAny _ _ (if (some (Value.builtin "dict.__contains__") == some Value.none) = true then _ else _) _ E s
  rw [if_neg (by rw [beq_builtin_none]; exact Bool.false_ne_true)]
  refine wpAny_bind (wpAny_callSpecialUnlessNone?_slot (name := Str.ofString "__contains__") hm.typeIs slot_dict_contains
    (wpAny_call_entry slot_dict_contains hm.typeIs entry_dict_contains ?_ (args_dict_contains _ _)))
  show wpAny _ _ (dictGet d (.ref l) >>= _) _ _ s
  refine wpAny_bind ?_
  unfold dictGet
  refine wpAny_holding ?_
  refine wpAny_bind (hash_list ?_ hh hT h)
  exact hu1

/-- how the with statement goes on when its suite raises -/
def WithErr (prog : Program) (w : World) (A : Around) (E : Value → Shared → Prop) (x fx : Addr) (Q : Flow → Shared → Prop) (e : Value) (s : Shared) : Prop :=
  wpAny (model prog w) A (setFlight e none) (fun _ s₃ => wpAny (model prog w) A (typeOf e) (fun te s₄ => wpAny (model prog w) A (tracebackOf e) (fun tb s₅ =>
    codeAny (model prog w) (A.mark (some e)) (.call (.ref fx) ⟨[.ref x, te, e, tb], []⟩) (fun r s₆ => match r with
      | .ok (.ret (.bool true)) => wpAny (model prog w) A (setFlight e none) (fun _ s₇ => Q .next s₇) E s₆
      | _ => False) s₅) E s₄) E s₃) E s

theorem with_err {env : Env} {K : Frag} {x C fe fx : Addr} {ox : Obj} {od : Option Obj} {pos : Pos} {bdy : Sem Flow} {Q : Flow → Shared → Prop} (X : K.In s.heap) (I : InstAt s.heap x ox C od) (he : findIn K (.ref C) "__enter__" = some (some (.ref fe))) (hfe : isFn K (.ref fe) = true) (hx : findIn K (.ref C) "__exit__" = some (some (.ref fx))) (hfx : isFn K (.ref fx) = true)
    (h : wpAny (model prog w) A (call (.ref fe) [.ref x]) (fun v s₂ => wpAny (model prog w) A bdy (fun f s₄ => wpAny (model prog w) A (call (.ref fx) [.ref x, .none, .none, .none]) (fun _ s₅ => Q f s₅) E s₄)
      (fun e s₄ => wpAny (model prog w) A (noteFrame e env) (fun _ s₅ => e ≠ byPass ∧ WithErr prog w A E x fx Q e s₅) E s₄) s₂) E s) :
    wpAny (model prog w) A (withItem false pos env (pure (.ref x)) none bdy) Q E s := by
  obtain ⟨cd, hcd, ae⟩ := kw_along he
  obtain ⟨cd', hcd', ax⟩ := kw_along hx
  cases hcd.symm.trans hcd'
  obtain ⟨hh, g, d, tt, os⟩ := s
  have L1 : Looks (model prog w) hh (specialOnItsLine (.ref x) "__enter__") (some (.ref fe), cd.mro) := kw_special X I hcd ae
  have L2 : Looks (model prog w) hh (specialOnItsLine (.ref x) "__exit__") (some (.ref fx), cd.mro) := kw_special X I hcd ax
  have L3 : Looks (model prog w) hh (bindSpecial (.ref fe) (.ref x)) (.ref fe, [.ref x]) := bind_fn X _ (beq_iff_eq.mp hfe)
  have L4 : Looks (model prog w) hh (bindSpecial (.ref fx) (.ref x)) (.ref fx, [.ref x]) := bind_fn X _ (beq_iff_eq.mp hfx)
  have L5 : Looks (model prog w) hh (aMethodOfAnotherBuiltinTypeStops (.ref fe) cd.mro) () := Looks.of_pure rfl
  have L6 : Looks (model prog w) hh (aMethodOfAnotherBuiltinTypeStops (.ref fx) cd.mro) () := Looks.of_pure rfl
  unfold withItem
  refine wpAny_bind (wpAny_pure ?_)
  refine wpAny_bind (wpAny_standAt ?_)
  simp only [Bool.false_eq_true, if_false]
  kw_lk
  refine wpAny_mono h (fun v s₂ h₂ => ?_) fun _ _ z => z
  kw_lk
  refine wpAny_attempt (kw_held ?_)
  show wpAny _ _ bdy _ _ _
  refine wpAny_mono h₂ (fun f s₄ h₄ => ?_) fun e s₄ h₄ => ?_
  · kw_lk
    refine wpAny_mono h₄ (fun _ s₅ h₅ => ?_) fun _ _ z => z
    kw_lk
    exact h₅
  · refine wpAny_bind (wpAny_mono h₄ (fun _ s₅ h₅ => ?_) fun _ _ z => z)
    obtain ⟨hnb, h₅⟩ := h₅
    unfold WithErr at h₅
    refine wpAny_bind (wpAny_mono h₅ (fun _ s₆ h₆ => ?_) fun _ _ z => z)
    refine wpAny_bind (wpAny_standAt (wpAny_holding ?_))
    refine wpAny_bind (wpAny_mono h₆ (fun te s₇ h₇ => ?_) fun _ _ z => z)
    refine wpAny_bind (wpAny_mono h₇ (fun tb s₈ h₈ => ?_) fun _ _ z => z)
    have hnb' : (some e : Option Value) ≠ some byPass := fun x => hnb (Option.some.inj x)
    refine wpAny_bind ?_
    unfold withItem.marked
    refine wpAny_bind (wpAny_run (codeAny_mono h₈ (fun r s₉ h₉ => ?_)) hnb')
    cases r with
    | error e => exact h₉.elim
    | ok f =>
      cases f with
      | ret v =>
        cases v with
        | bool b =>
          cases b with
          | false => exact h₉.elim
          | true =>
            refine wpAny_pure (wpAny_bind (wpAny_pure ?_))
            refine wpAny_bind (wpAny_pure ?_)
            simp only [if_true]
            refine wpAny_bind (wpAny_rule ?_)
            refine wpAny_bind (wpAny_mono h₉ (fun _ s₁₀ h₁₀ => wpAny_pure h₁₀) fun _ _ z => z)
        | _ => exact h₉.elim
      | _ => exact h₉.elim

theorem args_nested (a b c : Value) : argsOk "issubclass.nested" ⟨[a, b, c], []⟩ := by unfold argsOk; kernel_rfl
theorem kind_nested : builtinKind "issubclass.nested" = none := by decide +kernel
theorem plain_nested : plainId "issubclass.nested" = true := by decide +kernel
theorem tuple_sub : isSubtype (.type "tuple") (.type "tuple") = pure true := by rw [isSubtype_type]; kernel_rfl

theorem nested_tuple {X N I : String} {tp : Addr} {n : Nat} {Q : PySem.Fin → Shared → Prop} (hc : ExcClass X N I) (hself : isSubtype (.type X) (.type X) = pure true)
    (ht : s.heap.get? tp = some { cls := .type "tuple", data := .seq #[.type X] n }) (h : Q (.done (.ret (.bool true))) s) : wpAny (model prog w) A (Builtin.«issubclass.nested» ⟨[.type X, .ref tp, rawInt 0], []⟩) Q E s := by
  have hT : s.TypeIs (.ref tp) "tuple" := ⟨_, ht, rfl⟩
  unfold Builtin.«issubclass.nested»
  dsimp only [rawInt]
  refine wpAny_bind (wpAny_typeOf hT ?_)
  rw [if_neg (by decide)]
  refine wpAny_bind ?_
  unfold Builtin.Builtins.unionMembers
  refine wpAny_bind (wpAny_typeOf hT ?_)
  rw [if_neg (by decide)]
  refine wpAny_pure ?_
  refine wpAny_bind (wpAny_isInstance hT tuple_sub ?_)
  simp only [if_true]
  rw [if_neg (by decide)]
  refine wpAny_bind (wpAny_seqItems ht rfl ?_)
  rw [← Array.forIn_toList]
  show wpAny _ _ (forIn [Value.type X] _ _ >>= _) _ _ _
  rw [List.forIn_cons]
  refine wpAny_bind (wpAny_bind (wpAny_bind ?_))
  refine Calls.call_function_entry kind_nested plain_nested F.entry_issubclass_nested (args_nested _ _ _) ?_
  refine issubclass_nested_self rfl hc hself ⟨_, rfl, ?_⟩
  refine wpAny_bind (wpAny_truthy_bool ?_)
  simp only [if_true]
  refine wpAny_bind (wpAny_pure ?_)
  refine wpAny_pure ?_
  refine wpAny_pure ?_
  exact wpAny_pure h

theorem issubclass_of_tuple {X N I : String} {tp : Addr} {n : Nat} {Q : Value → Shared → Prop} (hc : ExcClass X N I) (hself : isSubtype (.type X) (.type X) = pure true)
    (ht : s.heap.get? tp = some { cls := .type "tuple", data := .seq #[.type X] n }) (h : Q (.bool true) s) : wpAny (model prog w) A (call (.builtin "issubclass") [.type X, .ref tp]) Q E s := by
  refine call_function_meets (S := fun A R s => s.heap.get? tp = some { cls := .type "tuple", data := .seq #[.type X] n } ∧ R (.ok (.ret (.bool true))) s) F.kind_issubclass F.plain_issubclass F.entry_issubclass (F.args_issubclass_2 _ _) (fun prog w A R s hs => ?_) ⟨ht, h⟩
  exact issubclass_outer (nested_tuple hc hself hs.1 hs.2)
end
end Mine

end

section
set_option maxRecDepth 100000
set_option maxHeartbeats 4000000
namespace Mine
noncomputable section
section
variable {prog : Program} {w : World} {A A₀ : Around} {s : Shared} {K : Frag} {L : Addr} {h₀ base : Heap} {m mg mb : Str → Option Value} {news : List (Addr × Obj)} {p : Program} {loose : List Str} {mean : ExcName → Option Value}

/-- a call of a def of the top over the heap as it stands: all of it is the ground -/
theorem code_all {R : Result → Shared → Prop} {name qual : Str} {params : Arguments} {body : List Stmt} {scope : Scope} {dV kV doc pm cdv ct oc : Value} {an od : Option Addr} {osl : Array (Option Value)} {f : Addr} {args : Args} {binds : List (Str × Value)}
    (X : K.In s.heap) (T : Top p loose mean mg mb s.heap)
    (ho : K.lookup f = some ⟨oc, od, .func (fnOf name qual params body scope dV kV doc pm an cdv ct), osl⟩) (hcd : codeIn K cdv qual = true) (hroom : A.depth < recursionLimit)
    (hbind : BindsTo s (fnOf name qual params body scope dV kV doc pm an cdv ct) args binds) (hloc : ∀ y ∈ binds, scope.names.lookup y.1 = some .local)
    (h : ∀ L' h₁, Fr s.heap L' h₁ (fun y => binds.reverse.lookup y) →
      wpAny (model prog w) (A.deeper (envOf qual scope L' f cdv)) (execs body (envOf qual scope L' f cdv))
        (fun fl s' => R (.ok (.ret (match fl with | .ret v => v | _ => .none))) s')
        (fun e s' => wpAny (model prog w) (A.deeper (envOf qual scope L' f cdv)) (leaving (envOf qual scope L' f cdv) e) (fun _ s'' => R (.error e) s'') (fun e' s'' => R (.error e') s'') s')
        { s with heap := h₁, toks := s.toks + binds.length })
    (hco : scope.isCoroutine = false) (hgen : scope.isGenerator = false) (hk : scope.kind = .function)
    (hcell : ∀ x ∈ scope.names, x.2 ≠ .cell) : codeAny (model prog w) A (.call (.ref f) args) R s :=
  codeAny_call_def (fd := fnX name qual params body scope [] dV kV doc pm an cdv ct) (body := body) (binds := binds) hroom (X _ _ ho) rfl T.nolimit (codeRec_of X hcd) rfl hbind hcell hloc
    (fun h₁ hns hk₁ => h s.heap.objs.size h₁ ⟨hns, hk₁, Nat.le_refl _⟩) hco hgen hk

/-- as K's own call, without its way of leaving -/
theorem code_raw {env : Env} {outer : List Env} {R : Result → Shared → Prop} {name qual : Str} {params : Arguments} {body : List Stmt} {scope : Scope} {dV kV doc pm cdv ct oc : Value} {an od : Option Addr} {osl : Array (Option Value)} {f : Addr} {args : Args} {binds : List (Str × Value)}
    (B : Below A₀ base outer h₀) (F : Fr h₀ L s.heap m) (X₀ : K.In h₀) (N : News h₀ L s.heap news) (T : Top p loose mean mg mb h₀) (hA : A.frames = some (env :: outer)) (hf : env.frame = some L) (hke : env.scope.kind = .function)
    (ho : K.lookup f = some ⟨oc, od, .func (fnOf name qual params body scope dV kV doc pm an cdv ct), osl⟩) (hcd : codeIn K cdv qual = true) (hroom : A.depth < recursionLimit)
    (hbind : BindsTo s (fnOf name qual params body scope dV kV doc pm an cdv ct) args binds) (hloc : ∀ y ∈ binds, scope.names.lookup y.1 = some .local)
    (h : ∀ g L' h₁, Fr h₀ L g m → Fr g L' h₁ (fun y => binds.reverse.lookup y) → News g L' h₁ news → Below A base (env :: outer) g → K.In g → Top p loose mean mg mb g → GSub s.heap g (news.map (·.1)) → s.heap.objs.size ≤ L' → (∀ b o, g.get? b = some o → s.heap.get? b = some o) →
      wpAny (model prog w) (A.deeper (envOf qual scope L' f cdv)) (execs body (envOf qual scope L' f cdv))
        (fun fl s' => R (.ok (.ret (match fl with | .ret v => v | _ => .none))) s')
        (fun e s' => wpAny (model prog w) (A.deeper (envOf qual scope L' f cdv)) (leaving (envOf qual scope L' f cdv) e) (fun _ s'' => R (.error e) s'') (fun e' s'' => R (.error e') s'') s')
        { s with heap := h₁, toks := s.toks + binds.length })
    (hco : scope.isCoroutine = false) (hgen : scope.isGenerator = false) (hk : scope.kind = .function)
    (hcell : ∀ x ∈ scope.names, x.2 ≠ .cell) : codeAny (model prog w) A (.call (.ref f) args) R s := by
  obtain ⟨FG, BG, st, _⟩ := groundX (R := R) B F N hA hf hke
  refine codeAny_call_def (fd := fnX name qual params body scope [] dV kV doc pm an cdv ct) (body := body) (binds := binds) hroom ((X₀.keeps F.keep) _ _ ho) rfl (T.nolimit.keeps F.keep) (codeRec_of (X₀.keeps F.keep) hcd) rfl hbind hcell hloc (fun h₁ hns hk₁ => ?_) hco hgen hk
  exact h _ s.heap.objs.size h₁ FG ⟨hns, fun b o e => hk₁ b o (of_hideAll _ e), Nat.le_of_eq (hideAll_size _ _)⟩
    (fun p hp => ⟨hk₁ _ _ (N p hp).1, Nat.ne_of_lt (Heap.lt_size (N p hp).1), hideAll_none _ (List.mem_map_of_mem hp)⟩) BG (X₀.keeps st) (T.keeps st) (fun b o e n => hideAll_get _ e n) (Nat.le_refl _) (fun b o e => of_hideAll _ e)
end

section
variable {w : World} {A : Around} {s : Shared} {mg mb : Str → Option Value} {mean : ExcName → Option Value}
theorem exit_true {x dx tp : Addr} {es : List DictEntry} {n n' : Nat} {v3 v4 : Value} {R : Result → Shared → Prop} (hroom : A.depth < recursionLimit) (X : (hd.heap_39 w.params).In s.heap)
    (T : Top hd.view_39 (looseW hd.view_39 [Str.ofString "ABC", Str.ofString "AbstractContextManager"]) mean mg mb s.heap)
    (hx : s.heap.get? x = some (instObj 114 dx)) (hdx : s.heap.get? dx = some (dictOf es n)) (htp : s.heap.get? tp = some { cls := .type "tuple", data := .seq #[.type "TypeError"] n' })
    (hes : getL "_exceptions" es = some (some (.ref tp)))
    (h : ∀ h' tk, (∀ b o, s.heap.get? b = some o → h'.get? b = some o) → R (.ok (.ret (.bool true))) { s with heap := h', toks := tk }) :
    codeAny (model PySem.Challenge.rw_sv0008_01.row.prog w) A (.call (.ref 111) ⟨[.ref x, .type "TypeError", v3, v4], []⟩) R s := by
  revert X; k_fill; intro X
  refine' code_all X T ?k6 ?k7 hroom ?k9 ?kB ?_ ?c2 ?c3 ?c4 ?c5
  (case k6 => k_is)
  (case k7 => k_is)
  (case k9 => exact BindsTo.of_eq rfl)
  (case kB => exact locs rfl)
  (case c2 => exact rfl)
  (case c3 => exact rfl)
  (case c4 => exact rfl)
  (case c5 => decide)
  intro L1 h1 F1
  dsimp only
  k_fold
  have N1 : News s.heap L1 h1 [] := News.nil
  k_unmd
  k_steps
  refine PySem.is_none ?_
  refine wpAny_truthy_bool ?_
  rw [if_neg (by decide)]
  k_steps
  (rename Fr s.heap L1 h1 _ => FK)
  refine get_own FK X (x := x) (ox := instObj 114 dx) (C := 114) (es := es) (n := n) (v := .ref tp) ⟨FK.keep _ _ hx, rfl, rfl, FK.keep _ _ hdx⟩ ?g1 ?g2 (attr := none) ?g3 rfl hes rfl ?_
  (case g1 => k_is)
  (case g2 => k_is)
  (case g3 => k_is)
  k_steps
  refine issubclass_of_tuple PyProof.Rows.excClass_TypeError ?s (n := n') (FK.keep _ _ htp) ?_
  (case s => rw [isSubtype_type]; kernel_rfl)
  k_steps
  refine h _ _ ?_
  (rename Fr s.heap L1 _ _ => FL)
  exact FL.keep
end
end
end Mine

end

section
set_option maxRecDepth 100000
set_option maxHeartbeats 4000000
namespace Mine
noncomputable section
section
variable {prog : Program} {w : World} {A : Around} {E : Value → Shared → Prop} {s : Shared}

theorem traceback_any {base : Heap} {e : Addr} {cls a0 : Value} {Q : Value → Shared → Prop} (ht : s.heap.TracedW base e cls a0) (h : ∀ v, Q v s) : wpAny (model prog w) A (tracebackOf (.ref e)) Q E s := by
  obtain ⟨oe, vs, T, oT, ts, he, hcls, hd, h1, hnT, hTe, hT, hdT, h3⟩ := ht
  have hsz3 : 3 < ts.size := (Array.getElem?_eq_some_iff.mp h3).1
  unfold tracebackOf
  refine wpAny_bind (wpAny_field he hd h1 ?_)
  dsimp only
  have hy : ts[1]? = some (ts[1]'(by omega)) := Array.getElem?_eq_getElem _
  generalize (ts[1]'(by omega)) = y at hy
  refine wpAny_bind (wpAny_field hT hdT hy ?_)
  by_cases hq : (y == Value.none) = true
  · rw [if_pos hq]; exact wpAny_pure (h _)
  · rw [if_neg hq]; exact wpAny_pure (h _)

theorem err_road {base h : Heap} {env : Env} {outer : List Env} {x fx L e : Addr} {T : String} {Q : Flow → Shared → Prop} (hfr : A.frames = some (env :: outer)) (hkb : base.StaysIn h) (hl : h.FunFrames base (env :: outer)) (hf : env.frame = some L)
    (hx : Heap.NewExc h s.heap e T)
    (hexit : ∀ s₁ : Shared, base.StaysIn s₁.heap → ∀ tb (R : Result → Shared → Prop), (∀ h' tk, (∀ b o, s₁.heap.get? b = some o → h'.get? b = some o) → R (.ok (.ret (.bool true))) { s₁ with heap := h', toks := tk }) →
      codeAny (model prog w) (A.mark (some (.ref e))) (.call (.ref fx) ⟨[.ref x, .type T, .ref e, tb], []⟩) R s₁)
    (hQ : ∀ h' tk, base.StaysIn h' → h.UpToSlots h' → Q .next { s with heap := h', toks := tk }) :
    wpAny (model prog w) A (noteFrame (.ref e) env) (fun _ s₅ => (Value.ref e) ≠ byPass ∧ WithErr prog w A E x fx Q (.ref e) s₅) E s := by
  obtain ⟨ob, t, he, hcls, hd⟩ := hx.there
  have hen : base.get? e = none := by
    cases hq : base.get? e with
    | none => rfl
    | some o' => have := hkb e o' hq; rw [hx.new] at this; cases this
  unfold noteFrame
  simp only [hf]
  refine wpAny_bind (wpAny_field he hd (x := .none) rfl ?_)
  rw [if_neg (by decide)]
  refine wpAny_entryW (base := base) (a0 := t) hfr (hl.of_keeps fun b o hb _ => ⟨o, hx.keeps b o hb, rfl⟩) hf he (fun b o hb => hx.keeps b o (hkb b o hb)) hen hd (Nat.succ_lt_succ (Nat.zero_lt_succ _)) rfl fun h1 hN => ?_
  obtain ⟨n1, n2, n3, n4⟩ := hN
  refine ⟨(by intro q; cases q), ?_⟩
  unfold WithErr
  rw [hcls] at n3
  refine wpAny_landsW ⟨n1, hen, n2, n3⟩ fun h2 hF hU => ?_
  obtain ⟨f1, _, f3, f4⟩ := hF
  obtain ⟨o2, ho2, hc2⟩ := Heap.TracedAtW.there f4
  refine wpAny_typeOf ⟨o2, ho2, hc2⟩ ?_
  refine traceback_any f4 fun tb => ?_
  refine hexit _ f1 tb _ fun h3 tk3 k3 => ?_
  dsimp only
  have f4' : h3.TracedW base e (.type T) t := by
    obtain ⟨oe, vs, T, oT, ts, q1, q2, q3, q4, q5, q6, q7, q8⟩ := f4
    exact ⟨oe, vs, T, oT, ts, k3 _ _ q1, q2, q3, q4, q5, q6, k3 _ _ q7, q8⟩
  refine wpAny_setFlight_noneW (base := base) (l := env :: outer) (fun b o q => k3 b o (f1 b o q)) (f3.of_keeps fun b o hb _ => ⟨o, k3 b o hb, rfl⟩) f4' fun h4 g1 _ _ g4 => ?_
  exact hQ h4 tk3 g1 (((((Heap.UpToSlots.of_keeps hx.keeps).trans n4).trans hU).trans (Heap.UpToSlots.of_keeps k3)).trans fun b o hb hn => ⟨o.slots, g4 b o hb hn⟩)
end

section
variable {w : World} {A₀ : Around} {E : Value → Shared → Prop} {s : Shared} {h₀ base : Heap} {L fa : Addr} {cd : Value} {m mg mb : Str → Option Value} {mean : ExcName → Option Value} {Q : Value → Shared → Prop}

theorem list_road {Q : Value → Shared → Prop} {Q' : Flow → Shared → Prop} {g : Heap} {L1 x dx tp l d : Addr} {ol od : Obj} {m2 : Str → Option Value} {news : List (Addr × Obj)} {kvs : List (Int × Value)} {es : List DictEntry} {n n' : Nat} {name : Str} {scope : Scope} {f1 : Addr} {c1 : Value}
    (F : Fr h₀ L g m) (X₀ : (hd.heap_39 w.params).In h₀) (T : Top hd.view_39 (looseW hd.view_39 [Str.ofString "ABC", Str.ofString "AbstractContextManager"]) mean mg mb h₀)
    (N : ∀ p ∈ [(d, od), (l, ol)], p.1 ≠ L ∧ h₀.get? p.1 = none) (hD : od.IsDictOf (intKind PySem.Challenge.rw_sv0008_01.row.prog w) kvs) (hol : ol.cls = .type "list")
    (B1 : Below (callerA.deeper (lawEnv L fa cd)) base [lawEnv L fa cd] g) (F2 : Fr g L1 s.heap m2) (N2 : News g L1 s.heap news) (hkd : scope.kind = .function)
    (m1 : (d, od) ∈ news) (m2' : (l, ol) ∈ news) (m3 : (x, instObj 114 dx) ∈ news) (m4 : (dx, dictOf es n) ∈ news) (m5 : (tp, { cls := .type "tuple", data := .seq #[.type "TypeError"] n' }) ∈ news) (hes : getL "_exceptions" es = some (some (.ref tp)))
    (hQ : ∀ h6 tk6, Fr h₀ L1 h6 m2 → Fr h₀ L h6 m → News h₀ L h6 [(d, od), (l, ol)] → Q' .next { s with heap := h6, toks := tk6 }) :
    wpAny (model PySem.Challenge.rw_sv0008_01.row.prog w) ((callerA.deeper (lawEnv L fa cd)).deeper (envOf name scope L1 f1 c1)) (compareOp .In (.ref l) (.ref d)) Q
      (fun e s₄ => wpAny (model PySem.Challenge.rw_sv0008_01.row.prog w) ((callerA.deeper (lawEnv L fa cd)).deeper (envOf name scope L1 f1 c1)) (noteFrame e (envOf name scope L1 f1 c1))
        (fun _ s₅ => e ≠ byPass ∧ WithErr PySem.Challenge.rw_sv0008_01.row.prog w ((callerA.deeper (lawEnv L fa cd)).deeper (envOf name scope L1 f1 c1)) E x 111 Q' e s₅) E s₄) s := by
  obtain ⟨oL, eL⟩ : ∃ o, g.get? L = some o := by
    obtain ⟨o, _, _, ho, _⟩ := F.ns
    exact ⟨o, ho⟩
  have hk0 : ∀ b o, h₀.get? b = some o → b ≠ L1 ∧ b ≠ L := fun b o e => ⟨Nat.ne_of_lt (Nat.lt_of_lt_of_le (Heap.lt_size (F.keep b o e)) F2.above), Nat.ne_of_lt (Nat.lt_of_lt_of_le (Heap.lt_size e) F.above)⟩
  have hk1 : ∀ b o, h₀.get? b = some o → (hideAll s.heap [L1, L]).get? b = some o := fun b o e => hideAll_get _ (F2.keep b o (F.keep b o e)) (by
      obtain ⟨q1, q2⟩ := hk0 b o e
      simp only [List.mem_cons, List.not_mem_nil, or_false, not_or]
      exact ⟨q1, q2⟩)
  have hn1 : ∀ p, p ∈ news → (hideAll s.heap [L1, L]).get? p.1 = some p.2 := fun p hp => hideAll_get _ (N2 p hp).1 (by
      obtain ⟨_, q1, q2⟩ := N2 p hp
      simp only [List.mem_cons, List.not_mem_nil, or_false, not_or]
      exact ⟨q1, fun q => by rw [q, eL] at q2; cases q2⟩)
  refine in_list_raises (knd := intKind PySem.Challenge.rw_sv0008_01.row.prog w) (f := valueAt kvs) (Nat.le_of_ble_eq_true rfl) rfl ⟨ol, (N2 (l, ol) m2').1, hol⟩ ?hm fun h5 tk5 e5 hx5 => ?_
  case hm =>
    exact Heap.DictOf.mapOf (Heap.dictOf_iff.mpr ⟨od, (N2 (d, od) m1).1, hD⟩)
  refine err_road (base := hideAll s.heap [L1, L]) (outer := [lawEnv L fa cd]) (L := L1) rfl (fun b o e => of_hideAll _ e) (funFrames_hide (Below.push (name := name) (scope := scope) (a := f1) (cd := c1) B1 F2 hkd).frames fun env he a hf => ?_) rfl hx5 ?_ ?_
  · cases he with
    | head => cases hf; exact .head _
    | tail _ he => cases he with
      | head => cases hf; exact .tail _ (.head _)
      | tail _ he => cases he
  · intro s₁ hk₁ tb R hR
    have hk2 : ∀ b o, h₀.get? b = some o → s₁.heap.get? b = some o := fun b o e => hk₁ b o (hk1 b o e)
    have hn2 : ∀ p, p ∈ news → s₁.heap.get? p.1 = some p.2 := fun p hp => hk₁ _ _ (hn1 p hp)
    exact exit_true (Nat.le_of_ble_eq_true rfl) (X₀.keeps hk2) (T.keeps hk2) (hn2 _ m3) (hn2 _ m4) (hn2 _ m5) hes hR
  · intro h6 tk6 hb6 hu6
    refine hQ h6 tk6 ⟨hu6.ns F2.ns, fun b o e => hb6 b o (hk1 b o e), Nat.le_trans F.above (Nat.le_of_lt (Nat.lt_of_lt_of_le (Heap.lt_size eL) F2.above))⟩ ⟨hu6.ns ?_, fun b o e => hb6 b o (hk1 b o e), F.above⟩ ?_
    · obtain ⟨o, es, ep, ho, r⟩ := F.ns
      exact ⟨o, es, ep, F2.keep _ _ ho, r⟩
    · intro p hp
      refine ⟨hb6 _ _ (hn1 p ?_), (N p hp).1, (N p hp).2⟩
      cases hp with
      | head => exact m1
      | tail _ hp => cases hp with
        | head => exact m2'
        | tail _ hp => cases hp

theorem tg_list (l d : Addr) (ol od : Obj) (kvs : List (Int × Value)) (xs : Array Value) (B : Below callerA base [] h₀) (F : Fr h₀ L s.heap m) (X₀ : (hd.heap_39 w.params).In h₀) (N : News h₀ L s.heap [(d, od), (l, ol)])
    (T : Top hd.view_39 (looseW hd.view_39 [Str.ofString "ABC", Str.ofString "AbstractContextManager"]) mean mg mb h₀)
    (hD : od.IsDictOf (intKind PySem.Challenge.rw_sv0008_01.row.prog w) kvs) (hol : ol.cls = .type "list")
    (h : ∀ h' tk, Fr h₀ L h' m → News h₀ L h' [(d, od), (l, ol)] → Q (.ref l) { s with heap := h', toks := tk }) :
    wpAny (model PySem.Challenge.rw_sv0008_01.row.prog w) (callerA.deeper (lawEnv L fa cd)) (call (.ref 125) [.ref l, .ref d]) Q E s := by
  revert X₀; k_fill; intro X₀
  refine wpAny_call ?_
  refine' code_raw B F X₀ N T rfl rfl rfl ?k6 ?k7 ?k8 ?k9 ?kB ?_ ?c2 ?c3 ?c4 ?c5
  (case k6 => k_is)
  (case k7 => k_is)
  (case k8 => k_room)
  (case k9 => exact BindsTo.of_eq rfl)
  (case kB => exact locs rfl)
  (case c2 => exact rfl)
  (case c3 => exact rfl)
  (case c4 => exact rfl)
  (case c5 => decide)
  intro g L1 h1 FG F1 N1 B1 X1 T1 kG hsz hg
  dsimp only
  k_fold
  iterate 18 (first | (k_unfold; (try dsimp only)) | (k_end; wrow_close) | walk1 | (dsimp only; walk1) | (leave1; walk_say "STEP leave1"; try dsimp only))
  unfold KwIn
  (rename Fr g L1 _ _ => FK)
  (rename News g L1 _ _ => NK)
  refine' with_err (fe := 104) (fx := 111) (X1.keeps FK.keep) (C := 114) ?eI ?e1 ?e2 ?e3 ?e4 ?_
  (case eI => k_inst)
  (case e1 => k_is)
  (case e2 => k_is)
  (case e3 => k_is)
  (case e4 => k_is)
  k_steps
  (rename Fr g L1 _ _ => F2)
  (rename News g L1 _ _ => N2)
  refine' list_road FG X₀ T ?n hD hol B1 F2 N2 rfl ?m1 ?m2 ?m3 ?m4 ?m5 ?e ?_
  (case n => exact fun p hp => (N p hp).2)
  (case m1 => k_mem)
  (case m2 => k_mem)
  (case m3 => k_mem)
  (case m4 => k_mem)
  (case m5 => k_mem)
  (case e => rfl)
  intro h6 tk6 F6 F7 N7
  show wpAny _ _ (execs _ _) _ _ _
  k_steps
  exact h _ _ F7 N7
end
end
end Mine

end

section
set_option maxRecDepth 100000
set_option maxHeartbeats 4000000
namespace Mine
section
variable {prog : Program} {w : World} {A : Around} {E : Value → Shared → Prop} {s : Shared} {env : Env} {x : Str} {body : List Stmt} {Q : Flow → Shared → Prop}

/-- a for loop, told by what holds of the heap between the turns -/
def LoopH (prog : Program) (w : World) (A : Around) (env : Env) (x : Str) (body : List Stmt) (Q : Flow → Shared → Prop) (E : Value → Shared → Prop) (it : Value) (s : Shared) : Prop :=
  ∃ (I : Addr) (fp wr : List Addr) (n : Nat) (P : Nat → Value → Prop) (St : Nat → Heap → Prop) (J : Nat → Heap → Prop),
    it = .ref I ∧ Walks prog w A I fp wr n P St ∧ env.locals ∉ fp ∧ St 0 s.heap ∧ J 0 s.heap ∧ (∀ i h, J i h → ∃ m, h.Ns env.locals m) ∧
    (∀ i v h₁ h m tk, i < n → P i v → J i h₁ → St i h₁ → h₁.Ns env.locals m → St (i + 1) h → h.Ns env.locals (fun y => if y = x then some v else m y) → (∀ b o, b ∉ wr → b ≠ env.locals → h₁.get? b = some o → h.get? b = some o) →
      wpAny (model prog w) A (execs body env) (fun f s' => f = .next ∧ ∃ h' tk', s' = { s with heap := h', toks := tk' } ∧ J (i + 1) h' ∧ ∀ b ∈ fp, ∀ o, h.get? b = some o → h'.get? b = some o) E { s with heap := h, toks := tk }) ∧
    ∀ h h' tk, J n h → St n h → (∀ b o, b ∉ wr → h.get? b = some o → h'.get? b = some o) → Q .next { s with heap := h', toks := tk }

theorem for_heap {px pos : Pos} {iter : Expr} (hx : env.kindOf x = some .local)
    (hp : (env.scope.kind == .class || (env.scope.kind == .module && env.locals != env.globals)) = false)
    (h : wpAny (model prog w) A (eval iter env) (fun xv s₁ => wpAny (model prog w) A (pyIter xv) (fun it s₂ => LoopH prog w A env x body Q E it s₂) E s₁) E s)
    (hs : ∀ x, foldedSetIterable iter env x = pure x := by intro _; rfl)
    (hE : PassesOwn (model prog w) A env E := by passes_own) :
    wpAny (model prog w) A (exec (.For (.Name x px) iter body [] pos) env) Q E s := by
  refine wpAny_For (wpAny_mono h (fun xv s₁ h₁ => wpAny_mono h₁ (fun it s₂ h₂ => ?_) fun _ _ e => e) fun _ _ e => e) hs
  obtain ⟨I, fp, wr, n, P, St, J, rfl, W, hLf, hst, h0, hns, step, hQ⟩ := h₂
  have hLw : env.locals ∉ wr := fun h => hLf (W.sub _ h)
  refine codeAny_forLoop (R := fun r s' => match r with | .ok f => Q f s' | .error e => cameBackBy (model prog w) A env E e s')
    (fun k s' => ∃ h' tk i, s' = { s₂ with heap := h', toks := tk } ∧ St i h' ∧ J i h' ∧ i ≤ n ∧ k = n + 1 - i) ?_ (n + 1)
    ⟨s₂.heap, s₂.toks, 0, rfl, hst, h0, Nat.zero_le _, rfl⟩
  rintro k s' ⟨h', tk, i, rfl, hst', hJ, hi, rfl⟩
  obtain ⟨m, hm⟩ := hns i h' hJ
  by_cases hlt : i < n
  · refine W.item i _ _ _ hlt hst' fun v h₁ tk₁ hP hst₁ hk₁ => ?_
    have hm₁ : h₁.Ns env.locals m := hm.at' fun o e => hk₁ _ o hLw e
    refine wpAny_assign_Name (wpAny_storeName_local hx hm₁ (fun h₂ hn₂ hs₂ => ?_) hp)
    have hst₂ : St (i + 1) h₂ := W.frame _ _ _ hst₁ fun b hb o e => (hs₂.2 b fun q => hLf (q ▸ hb)).trans e
    refine wpAny_mono (wpAny_passesOwn hE (step i v h' h₂ m _ hlt hP hJ hst' hm hst₂ hn₂ fun b o hb hL e => (hs₂.2 b hL).trans (hk₁ b o hb e))) (fun f s₃ h₃ => ?_) fun _ _ e => e
    obtain ⟨rfl, h₃', tk₃, rfl, hJ₃, hk₃⟩ := h₃
    exact ⟨n + 1 - (i + 1), by omega, h₃', tk₃, i + 1, rfl, W.frame _ _ _ hst₂ hk₃, hJ₃, hlt, rfl⟩
  · have hin : i = n := by omega
    subst hin
    refine W.done _ _ _ hst' fun h₁ tk₁ hk₁ => wpAny_execs_nil ?_
    exact hQ h' h₁ tk₁ hJ hst' hk₁
end
end Mine

end

section
set_option maxRecDepth 100000
set_option maxHeartbeats 4000000
namespace Mine
noncomputable section
variable {w : World} {A : Around} {E : Value → Shared → Prop} {s : Shared} {mg mb : Str → Option Value} {mean : ExcName → Option Value} {Q : Value → Shared → Prop}

def nameList : List Int := [2, 7, 4, 1, 6, 3, 0, 5]

theorem names_call (hroom : A.depth < recursionLimit) (X : (hd.heap_39 w.params).In s.heap)
    (T : Top hd.view_39 (looseW hd.view_39 [Str.ofString "ABC", Str.ofString "AbstractContextManager"]) mean mg mb s.heap)
    (h : ∀ h' tk D vs, (∀ b o, s.heap.get? b = some o → h'.get? b = some o) → s.heap.get? D = none → h'.get? D = some (PySem.W.listOf vs.toArray 0) → IntsAre vs nameList → Q (.ref D) { s with heap := h', toks := tk }) :
    wpAny (model PySem.Challenge.rw_sv0008_01.row.prog w) A (call (.ref 146) []) Q E s := by
  revert X; k_fill; intro X
  refine wpAny_call ?_
  refine' code_all X T ?k6 ?k7 hroom ?k9 ?kB ?_ ?c2 ?c3 ?c4 ?c5
  (case k6 => k_is)
  (case k7 => k_is)
  (case k9 => exact BindsTo.of_eq rfl)
  (case kB => exact locs rfl)
  (case c2 => exact rfl)
  (case c3 => exact rfl)
  (case c4 => exact rfl)
  (case c5 => decide)
  intro L1 h1 F1
  dsimp only
  k_fold
  have N1 : News s.heap L1 h1 [] := News.nil
  k_unmd
  k_steps
  (rename Fr s.heap L1 _ _ => FL)
  (rename News s.heap L1 _ _ => NL)
  exact h _ _ _ [_, _, _, _, _, _, _, _] FL.keep (NL _ (.head _)).2.2 (NL _ (.head _)).1 (.cons 2 _ (.cons 7 _ (.cons 4 _ (.cons 1 _ (.cons 6 _ (.cons 3 _ (.cons 0 _ (.cons 5 _ .nil))))))))
end
end Mine

end

section
set_option maxRecDepth 100000
set_option maxHeartbeats 4000000
namespace Mine
/-- pairwise -/
inductive All2 {α β : Type} (R : α → β → Prop) : List α → List β → Prop
  | nil : All2 R [] []
  | cons {a : α} {b : β} {as : List α} {bs : List β} : R a b → All2 R as bs → All2 R (a :: as) (b :: bs)
theorem All2.mono {α β : Type} {R S : α → β → Prop} (h : ∀ a b, R a b → S a b) : ∀ {as : List α} {bs : List β}, All2 R as bs → All2 S as bs
  | _, _, .nil => .nil
  | _, _, .cons x y => .cons (h _ _ x) (y.mono h)
theorem All2.append {α β : Type} {R : α → β → Prop} : ∀ {as as' : List α} {bs bs' : List β}, All2 R as bs → All2 R as' bs' → All2 R (as ++ as') (bs ++ bs')
  | _, _, _, _, .nil, h => h
  | _, _, _, _, .cons x y, h => .cons x (y.append h)
theorem All2.length {α β : Type} {R : α → β → Prop} : ∀ {as : List α} {bs : List β}, All2 R as bs → as.length = bs.length
  | _, _, .nil => rfl
  | _, _, .cons _ y => by simp [y.length]

def nm (i : Nat) : Int := nameList.getD i 0
def look {β : Type} (P : List (Int × List β)) (k : Int) : List β := ((P.find? fun r => r.1 = k).map (·.2)).getD []
def idxOf (xs : List Int) (p : Nat) : Int := (p : Int) + 1 + ((xs.getD p 0).fdiv 4).fmod (7 - (p : Int))
def tgtOf (xs : List Int) (p : Nat) : Int := nm (idxOf xs p).toNat
abbrev St2 := List (Int × Int) × List (Int × List Int)
def pstep (xs : List Int) (σ : St2) (p : Nat) : St2 :=
  if (xs.getD p 0).fmod 4 = 0 then (σ.1, σ.2 ++ [(nm p, [])]) else (σ.1 ++ [(nm p, tgtOf xs p)], σ.2 ++ [(nm p, tgtOf xs p :: look σ.2 (tgtOf xs p))])

def Lst (h : Heap) (v : Value) (xs : List Int) : Prop := ∃ l vs n, v = .ref l ∧ h.get? l = some (PySem.W.listOf vs.toArray n) ∧ IntsAre vs xs
def RowD (a : Int × Value) (b : Int × Int) : Prop := a.1 = b.1 ∧ ∃ t, a.2 = .int b.2 t
def RowP (h : Heap) (a : Int × Value) (b : Int × List Int) : Prop := a.1 = b.1 ∧ Lst h a.2 b.2

/-- all but dicts kept -/
def KeepND (h h' : Heap) : Prop := ∀ b o, (∀ es n, o.data ≠ .dict es n) → h.get? b = some o → h'.get? b = some o
theorem KeepND.refl (h : Heap) : KeepND h h := fun _ _ _ e => e
theorem KeepND.trans {a b c : Heap} (x : KeepND a b) (y : KeepND b c) : KeepND a c := fun d o n e => y d o n (x d o n e)
theorem KeepND.of_keeps {h h' : Heap} (k : ∀ b o, h.get? b = some o → h'.get? b = some o) : KeepND h h' := fun b o _ e => k b o e
theorem KeepND.of_same {h h' : Heap} {a : Addr} {o : Obj} {es : Array DictEntry} {n : Nat} (ho : h.get? a = some o) (hd : o.data = .dict es n) (hs : Heap.SameBut a h h') : KeepND h h' := fun b o' hn e => by
  refine (hs.2 b fun q => ?_).trans e
  subst q
  rw [ho] at e
  cases e
  exact hn es n hd
theorem Lst.keep {h h' : Heap} {v : Value} {xs : List Int} (x : Lst h v xs) (k : KeepND h h') : Lst h' v xs := by
  obtain ⟨l, vs, n, e, ho, hi⟩ := x
  exact ⟨l, vs, n, e, k _ _ (fun _ _ q => by cases q) ho, hi⟩
theorem RowP.keep {h h' : Heap} (k : KeepND h h') (a : Int × Value) (b : Int × List Int) (x : RowP h a b) : RowP h' a b := ⟨x.1, x.2.keep k⟩
theorem cell_keep {h h' : Heap} {c : Addr} {v : Option Value} (x : h.IsCell c v) (k : KeepND h h') : h'.IsCell c v := by
  obtain ⟨o, ho, hd⟩ := x
  exact ⟨o, k _ _ (fun _ _ q => by rw [hd] at q; cases q) ho, hd⟩

section
variable {prog : Program} {w : World}
theorem valueAt_new {kvs : List (Int × Value)} {k : Int} {v : Value} (h : ∀ x ∈ kvs, x.1 ≠ k) : valueAt (kvs ++ [(k, v)]) k = some v := by
  unfold valueAt
  have e : kvs.find? (fun kv => decide (kv.1 = k)) = none := by
    rw [List.find?_eq_none]
    intro x hx
    simpa using h x hx
  rw [List.find?_append, e]
  simp
theorem stored_new {kvs : List (Int × Value)} {k : Int} {v : Value} (h : ∀ x ∈ kvs, x.1 ≠ k) : stored kvs k v = kvs ++ [(k, v)] := by
  unfold stored
  have e : (kvs.any fun kv => decide (kv.1 = k)) = false := by
    rw [List.any_eq_false]
    intro x hx
    simpa using h x hx
  rw [e]
  rfl
theorem stored_last {kvs : List (Int × Value)} {k : Int} {v v' : Value} (h : ∀ x ∈ kvs, x.1 ≠ k) : stored (kvs ++ [(k, v)]) k v' = kvs ++ [(k, v')] := by
  unfold stored
  have e : ((kvs ++ [(k, v)]).any fun kv => decide (kv.1 = k)) = true := by simp
  rw [e]
  simp only [if_true, List.map_append, List.map_cons, List.map_nil]
  congr 1
  rw [List.map_congr_left (g := id)]
  · simp
  · intro x hx
    simp [h x hx]
theorem RowP.find {h : Heap} {k : Int} : ∀ {kp : List (Int × Value)} {P : List (Int × List Int)}, All2 (RowP h) kp P → k ∈ P.map (·.1) → ∃ v, valueAt kp k = some v ∧ Lst h v (look P k)
  | _, _, .nil, hk => by cases hk
  | (a, v) :: kp, (b, xs) :: P, .cons ⟨e, l⟩ r, hk => by
    cases (e : a = b)
    by_cases hq : a = k
    · subst hq
      exact ⟨v, by simp [valueAt], by simpa [look] using l⟩
    · have hk' : k ∈ P.map (·.1) := by
        rcases List.mem_cons.mp hk with q | q
        · exact absurd q.symm hq
        · exact q
      obtain ⟨v', h1, h2⟩ := RowP.find r hk'
      exact ⟨v', by simpa [valueAt, hq] using h1, by simpa [look, hq] using h2⟩
theorem RowP.keys {h : Heap} {k : Int} {kp : List (Int × Value)} {P : List (Int × List Int)} (x : All2 (RowP h) kp P) (hk : ∀ r ∈ P, r.1 ≠ k) : ∀ r ∈ kp, r.1 ≠ k := by
  induction x with
  | nil => intro r hr; cases hr
  | cons a b ih =>
    intro r hr
    rcases List.mem_cons.mp hr with rfl | hr
    · rw [a.1]; exact hk _ (.head _)
    · exact ih (fun r hr => hk r (.tail _ hr)) r hr
theorem RowD.keys {k : Int} {kd : List (Int × Value)} {D : List (Int × Int)} (x : All2 RowD kd D) (hk : ∀ r ∈ D, r.1 ≠ k) : ∀ r ∈ kd, r.1 ≠ k := by
  induction x with
  | nil => intro r hr; cases hr
  | cons a b ih =>
    intro r hr
    rcases List.mem_cons.mp hr with rfl | hr
    · rw [a.1]; exact hk _ (.head _)
    · exact ih (fun r hr => hk r (.tail _ hr)) r hr

/-- the law's world while its tables are built -/
structure Lw (prog : Program) (w : World) (h₀ h : Heap) (L d pd nl : Addr) (m : Str → Option Value) (ws : List Value) (kd kp : List (Int × Value)) : Prop where
  keep : ∀ b o, h₀.get? b = some o → h.get? b = some o
  above : h₀.objs.size ≤ L
  ns : h.Ns L m
  ct : h.IsCell (L + 1 + 1 + 1) none
  cp : h.IsCell (L + 1 + 1) (some (.ref pd))
  cd : h.IsCell (L + 1) (some (.ref d))
  num : h.get? nl = some (PySem.W.listOf ws.toArray 0)
  dd : h.DictOf (intKind prog w) d kd
  dp : h.DictOf (intKind prog w) pd kp
  dL : L < d
  pL : L < pd
  dpd : d ≠ pd

variable {h₀ h h' : Heap} {L d pd nl : Addr} {m m' : Str → Option Value} {ws : List Value} {kd kp kd' kp' : List (Int × Value)}
theorem Lw.fr (W : Lw prog w h₀ h L d pd nl m ws kd kp) : Fr h₀ L h m := ⟨W.ns, W.keep, W.above⟩
theorem Lw.keeps (W : Lw prog w h₀ h L d pd nl m ws kd kp) (k : ∀ b o, h.get? b = some o → h'.get? b = some o) : Lw prog w h₀ h' L d pd nl m ws kd kp :=
  { W with
    keep := fun b o e => k b o (W.keep b o e)
    ns := W.ns.keeps k
    ct := W.ct.keeps k
    cp := W.cp.keeps k
    cd := W.cd.keeps k
    num := k _ _ W.num
    dd := by obtain ⟨o, e, r⟩ := Heap.dictOf_iff.mp W.dd; exact Heap.dictOf_iff.mpr ⟨o, k _ _ e, r⟩
    dp := by obtain ⟨o, e, r⟩ := Heap.dictOf_iff.mp W.dp; exact Heap.dictOf_iff.mpr ⟨o, k _ _ e, r⟩ }
theorem Lw.setL (W : Lw prog w h₀ h L d pd nl m ws kd kp) (hn : h'.Ns L m') (hs : Heap.SameBut L h h') : Lw prog w h₀ h' L d pd nl m' ws kd kp ∧ KeepND h h' := by
  obtain ⟨oL, es, ep, ho, hd, _⟩ := W.ns
  have K := KeepND.of_same ho hd hs
  exact ⟨{ W with
    keep := fun b o e => (hs.2 b (Nat.ne_of_lt (Nat.lt_of_lt_of_le (Heap.lt_size e) W.above))).trans (W.keep b o e)
    ns := hn
    ct := cell_keep W.ct K
    cp := cell_keep W.cp K
    cd := cell_keep W.cd K
    num := K _ _ (fun _ _ q => by cases q) W.num
    dd := W.dd.sameBut hs (Nat.ne_of_gt W.dL)
    dp := W.dp.sameBut hs (Nat.ne_of_gt W.pL) }, K⟩
theorem Lw.setD (W : Lw prog w h₀ h L d pd nl m ws kd kp) (hn : h'.DictOf (intKind prog w) d kd') (hs : Heap.SameBut d h h') : Lw prog w h₀ h' L d pd nl m ws kd' kp ∧ KeepND h h' := by
  obtain ⟨o, es, ep, ho, _, hd, _⟩ := W.dd
  have K := KeepND.of_same ho hd hs
  exact ⟨{ W with
    keep := fun b o e => (hs.2 b (Nat.ne_of_lt (Nat.lt_trans (Nat.lt_of_lt_of_le (Heap.lt_size e) W.above) W.dL))).trans (W.keep b o e)
    ns := W.ns.sameBut hs (Nat.ne_of_lt W.dL)
    ct := cell_keep W.ct K
    cp := cell_keep W.cp K
    cd := cell_keep W.cd K
    num := K _ _ (fun _ _ q => by cases q) W.num
    dd := hn
    dp := W.dp.sameBut hs (Ne.symm W.dpd) }, K⟩
theorem Lw.setP (W : Lw prog w h₀ h L d pd nl m ws kd kp) (hn : h'.DictOf (intKind prog w) pd kp') (hs : Heap.SameBut pd h h') : Lw prog w h₀ h' L d pd nl m ws kd kp' ∧ KeepND h h' := by
  obtain ⟨o, es, ep, ho, _, hd, _⟩ := W.dp
  have K := KeepND.of_same ho hd hs
  exact ⟨{ W with
    keep := fun b o e => (hs.2 b (Nat.ne_of_lt (Nat.lt_trans (Nat.lt_of_lt_of_le (Heap.lt_size e) W.above) W.pL))).trans (W.keep b o e)
    ns := W.ns.sameBut hs (Nat.ne_of_lt W.pL)
    ct := cell_keep W.ct K
    cp := cell_keep W.cp K
    cd := cell_keep W.cd K
    num := K _ _ (fun _ _ q => by cases q) W.num
    dd := W.dd.sameBut hs W.dpd
    dp := hn }, K⟩
end
end Mine

end

section
set_option maxRecDepth 100000
set_option maxHeartbeats 4000000
namespace Mine
noncomputable section
def forBody : Stmt → List Stmt
  | .For _ _ b _ _ => b
  | _ => []
def pBody : List Stmt := ((lawBody[3]?).map forBody).getD []

section
variable {M : Model} {A : Around} {E : Value → Shared → Prop} {s : Shared} {L fa : Addr} {cd v : Value} {m : Str → Option Value} {x : Str} {pos : Pos} {Q : Value → Shared → Prop} {c : Addr}
theorem ln_L (hn : s.heap.Ns L m) (hv : m x = some v) (h : Q v s) (hx : (lawEnv L fa cd).kindOf x = some .local := by rfl) (hd : (x == ("__debug__" : Str)) = false := by decide) :
    wpAny M A (eval (.Name x pos) (lawEnv L fa cd)) Q E s := wpAny_Name (wpAny_loadName_local rfl hx hn hv h) hd
theorem ln_C (hc : s.heap.IsCell c (some v)) (h : Q v s) (hl : (lawEnv L fa cd).cells.lookup x = some c := by rfl) (hx : (lawEnv L fa cd).kindOf x = some .cell := by rfl) (hd : (x == ("__debug__" : Str)) = false := by decide) :
    wpAny M A (eval (.Name x pos) (lawEnv L fa cd)) Q E s := wpAny_Name (wpAny_loadName_cell rfl hx hl hc h) hd
theorem st_L {Q : Unit → Shared → Prop} (hn : s.heap.Ns L m) (h : ∀ h', h'.Ns L (fun y => if y = x then some v else m y) → Heap.SameBut L s.heap h' → Q () { s with heap := h', toks := s.toks + 1 })
    (hx : (lawEnv L fa cd).kindOf x = some .local := by rfl) : wpAny M A (storeName (lawEnv L fa cd) x v) Q E s := wpAny_storeName_local hx hn h
end

section
variable {w : World} {E : Value → Shared → Prop} {s : Shared} {h₀ : Heap} {L fa d pd nl : Addr} {cd : Value} {m mg mb : Str → Option Value} {mean : ExcName → Option Value} {ws : List Value} {kd kp : List (Int × Value)}

theorem ln_K {Q : Value → Shared → Prop} {x : Str} {v : Value} {pos : Pos} (F : Fr h₀ L s.heap m) (X₀ : (hd.heap_39 w.params).In h₀) (T : Top hd.view_39 (looseW hd.view_39 [Str.ofString "ABC", Str.ofString "AbstractContextManager"]) mean mg mb h₀)
    (e : nsIn (hd.heap_39 w.params) mainGlobals x = some (some v)) (h : Q v s) (hx : (lawEnv L fa cd).kindOf x = some .globalImplicit := by rfl) (hd' : (x == ("__debug__" : Str)) = false := by decide) :
    wpAny (model PySem.Challenge.rw_sv0008_01.row.prog w) (callerA.deeper (lawEnv L fa cd)) (eval (.Name x pos) (lawEnv L fa cd)) Q E s :=
  nameX_K F X₀ (topRead_of T) e h rfl hx hd'

theorem add_push {prog : Program} {A : Around} {l b : Addr} {vs ws : List Value} {Q : Value → Shared → Prop} (hl : s.heap.IsList l vs.toArray) (hb : s.heap.IsList b ws.toArray)
    (h : Q (.ref s.heap.objs.size) { s with heap := s.heap.push { cls := .type "list", data := .seq (vs ++ ws).toArray } }) (hsz : vs.length + ws.length ≤ sizeLine) :
    wpAny (model prog w) A (binaryOp .Add (.ref l) (.ref b)) Q E s := by
  obtain ⟨⟨cls, dd, data, sl⟩, ho, hc, n, hd⟩ := id hl
  obtain ⟨⟨cls2, dd2, data2, sl2⟩, ho2, hc2, n2, hd2⟩ := id hb
  simp only at hc hd hc2 hd2
  subst hc hd hc2 hd2
  have e : vs.toArray ++ ws.toArray = (vs ++ ws).toArray := by simp
  refine concat_meets ⟨_, ho, rfl⟩ ⟨_, ho2, rfl⟩ noFill_list_add seq_list_add PySem.F.slot_list_add PySem.F.entry_list_add (PySem.F.args_list_add_2 _ _) (list_addW l b vs.toArray ws.toArray n n2 dd dd2 sl sl2 (by simpa using hsz)) ⟨ho, ho2, ?_⟩
  rw [e]
  exact h

theorem dict_item {prog : Program} {A : Around} {K : Type} [DecidableEq K] {knd : KeyKind prog w K} {kvs : List (K × Value)} {k : K} {key v : Value} {value slice : PySem.Expr} {Q : Value → Shared → Prop} (hD : s.heap.DictOf knd d kvs) (hkey : knd.is k key = true) (hl : valueAt kvs k = some v) (h : Q v { s with toks := s.toks + 1 })
    (hs : subscripted slice false (.ref d) key = operate [.ref d, key] (getItem (.ref d) key) := by with_unfolding_all rfl) (hg : ∀ r, letTemporaryGo value (.ref d) r = pure () := by intro _; with_unfolding_all rfl) :
    wpAny (model prog w) A (subscriptTail value slice (.ref d) key) Q E s :=
  subscriptTail_builtin hD.typeIs slot_dict_getitem.lookup (wpAny_getItem_of hkey hD.mapOf hl h) hs hg
theorem valueAt_append {K : Type} [DecidableEq K] {kvs r : List (K × Value)} {k : K} {v : Value} (h : valueAt kvs k = some v) : valueAt (kvs ++ r) k = some v := by
  unfold valueAt at h ⊢
  rw [List.find?_append]
  cases e : kvs.find? fun kv => decide (kv.1 = k) with
  | none => rw [e] at h; cases h
  | some x => rw [e] at h; simpa using h
theorem look_len {P : List (Int × List Int)} {k : Int} (h : ∀ r ∈ P, r.2.length ≤ 8) : (look P k).length ≤ 8 := by
  unfold look
  cases e : P.find? fun r => decide (r.1 = k) with
  | none => simp
  | some x => simpa using h x (List.mem_of_find?_eq_some e)
theorem idx_bounds (xs : List Int) {p : Nat} (hp : p < 7) : (p : Int) < idxOf xs p ∧ idxOf xs p ≤ 7 := by
  unfold idxOf
  have h1 := Int.fmod_nonneg_of_pos ((xs.getD p 0).fdiv 4) (show (0 : Int) < 7 - (p : Int) by omega)
  have h2 := Int.fmod_lt_of_pos ((xs.getD p 0).fdiv 4) (show (0 : Int) < 7 - (p : Int) by omega)
  omega

theorem names_eval {Q : Value → Shared → Prop} {p1 p2 : Pos} (F : Fr h₀ L s.heap m) (X₀ : (hd.heap_39 w.params).In h₀) (T : Top hd.view_39 (looseW hd.view_39 [Str.ofString "ABC", Str.ofString "AbstractContextManager"]) mean mg mb h₀)
    (h : ∀ h' tk D vs, (∀ b o, s.heap.get? b = some o → h'.get? b = some o) → s.heap.get? D = none → h'.get? D = some (PySem.W.listOf vs.toArray 0) → IntsAre vs nameList → Q (.ref D) { s with heap := h', toks := tk }) :
    wpAny (model PySem.Challenge.rw_sv0008_01.row.prog w) (callerA.deeper (lawEnv L fa cd)) (eval (.Call (.Name "_law_names" p1) [] [] p2) (lawEnv L fa cd)) Q E s := by
  revert X₀; k_fill; intro X₀
  refine Call_ (ln_K (v := .ref 146) F X₀ T ?k ?_)
  (case k => k_is)
  refine callWith_K0 (X₀.keeps F.keep) ?k2 ?_
  (case k2 => k_is)
  exact names_call (Nat.le_of_ble_eq_true rfl) (X₀.keeps F.keep) (T.keeps F.keep) h

theorem p_turn {xs : List Int} {p : Nat} {tp : Tok} {D : List (Int × Int)} {P : List (Int × List Int)} (X₀ : (hd.heap_39 w.params).In h₀) (T : Top hd.view_39 (looseW hd.view_39 [Str.ofString "ABC", Str.ofString "AbstractContextManager"]) mean mg mb h₀)
    (W : Lw PySem.Challenge.rw_sv0008_01.row.prog w h₀ s.heap L d pd nl m ws kd kp) (hp : p < 7) (hxs : xs.length = 7) (hi : IntsAre ws xs) (mp : m "p" = some (.int p tp)) (mn : m "numbers" = some (.ref nl))
    (hD : All2 RowD kd D) (hP : All2 (RowP s.heap) kp P) (nD : ∀ r ∈ D, r.1 ≠ nm p) (nP : ∀ r ∈ P, r.1 ≠ nm p) (fP : ∀ j, p < j → j ≤ 7 → nm j ∈ P.map (·.1)) (lD : D.length ≤ 7) (lP : P.length ≤ 8) (lX : ∀ r ∈ P, r.2.length ≤ 8)
    {Q : Flow → Shared → Prop}
    (hQ : ∀ h' tk kd' kp' m', Lw PySem.Challenge.rw_sv0008_01.row.prog w h₀ h' L d pd nl m' ws kd' kp' → m' "numbers" = some (.ref nl) → KeepND s.heap h' → All2 RowD kd' (pstep xs (D, P) p).1 → All2 (RowP h') kp' (pstep xs (D, P) p).2 → Q .next { s with heap := h', toks := tk }) :
    wpAny (model PySem.Challenge.rw_sv0008_01.row.prog w) (callerA.deeper (lawEnv L fa cd)) (execs pBody (lawEnv L fa cd)) Q E s := by
  unfold pBody lawBody lawX
  dsimp only [List.getElem?_cons_succ, List.getElem?_cons_zero, Option.map_some, Option.getD_some, forBody]
  refine wpAny_execs_cons (wpAny_Assign_Name ?_)
  refine Subscript_ (names_eval W.fr X₀ T fun h1 tk1 D1 vs1 k1 n1 g1 i1 => ?_)
  have W1 := W.keeps k1
  refine ln_L W1.ns mp ?_
  refine kba_turn (value' := .Name "_" ⟨0, 0, 0, 0⟩) (fun _ => rfl) ?_
  refine item_list_ints ⟨_, g1, rfl, 0, rfl⟩ i1 (by omega) (by show (p : Int) < 8; omega) (by omega) fun t1 => ?_
  rw [show nameList.getD ((p : Int)).toNat 0 = nm p by simp [nm]]
  refine st_L W1.ns fun h2 hn2 hs2 => ?_
  obtain ⟨W2, K2⟩ := W1.setL hn2 hs2
  have K2' : KeepND s.heap h2 := (KeepND.of_keeps k1).trans K2
  have hP2 := hP.mono (RowP.keep K2')
  dsimp only
  -- passed[name] = []
  refine wpAny_execs_cons (wpAny_Assign_Subscript ?_)
  refine wpAny_List (args_nil ⟨Nat.zero_le _, ?_⟩)
  have k3 : ∀ b o, h2.get? b = some o → (h2.push { cls := .type "list", data := .seq #[] }).get? b = some o := fun b o e => Heap.get?_push_of_some _ e
  have W3 := W2.keeps k3
  refine ln_C W3.cp ?_
  refine ln_L W3.ns (if_pos rfl) ?_
  refine wpAny_setItem_pairs (knd := intKind PySem.Challenge.rw_sv0008_01.row.prog w) (intKind_is _ _ _ _) W3.dp (hsz := ?sz3) fun h4 hd4 hs4 => ?_
  case sz3 => rw [hP.length, sizeLine_eq]; omega
  obtain ⟨W4, K4⟩ := W3.setP hd4 hs4
  have K4' : KeepND h2 h4 := (KeepND.of_keeps k3).trans K4
  have e4 : stored kp (nm p) (.ref h2.objs.size) = kp ++ [(nm p, .ref h2.objs.size)] := stored_new (RowP.keys hP nP)
  rw [e4] at W4
  have hP4 := hP2.mono (RowP.keep K4')
  have l4 : Lst h4 (.ref h2.objs.size) [] := Lst.keep ⟨_, [], 0, rfl, Heap.get?_push_size _ rfl, .nil⟩ K4
  have mn4 : (fun y => if y = ("name" : Str) then some (Value.int (nm p) t1) else m y) "numbers" = some (.ref nl) := by show (if _ then _ else _) = _; rw [if_neg (by decide)]; exact mn
  have mp4 : (fun y => if y = ("name" : Str) then some (Value.int (nm p) t1) else m y) "p" = some (.int p tp) := by show (if _ then _ else _) = _; rw [if_neg (by decide)]; exact mp
  have hK4 : KeepND s.heap h4 := K2'.trans K4'
  dsimp only
  -- if numbers[p] % 4 != 0
  refine wpAny_execs_cons (wpAny_If (wpAny_isTrue_Compare1 (wpAny_BinOp (Subscript_ ?_))))
  refine ln_L W4.ns mn4 ?_
  refine ln_L W4.ns mp4 ?_
  refine item_list_ints ⟨_, W4.num, rfl, 0, rfl⟩ hi (by omega) (by omega) (by omega) fun t5 => ?_
  rw [show ((p : Int)).toNat = p from Int.toNat_natCast p]
  refine wpAny_Constant_int ?_
  refine mod_int' (by decide) ?_
  refine wpAny_Constant_int ?_
  refine ne_int ?_
  refine wpAny_truthy_bool ?_
  dsimp only
  by_cases hz : (xs.getD p 0).fmod 4 = 0
  · rw [hz]
    rw [if_neg (by decide)]
    refine wpAny_execs_nil ?_
    dsimp only
    refine wpAny_execs_nil ?_
    refine hQ _ _ _ _ _ W4 mn4 hK4 ?_ ?_
    · rw [pstep, if_pos hz]; exact hD
    · rw [pstep, if_pos hz]; exact hP4.append (.cons ⟨rfl, l4⟩ .nil)
  · rw [if_pos (by simpa using hz)]
    refine wpAny_execs_cons (wpAny_Assign_Subscript ?_)
    refine Subscript_ (names_eval W4.fr X₀ T fun h5 tk5 D5 vs5 k5 n5 g5 i5 => ?_)
    have W5 := W4.keeps k5
    have F5 := W5.fr
    refine wpAny_BinOp (wpAny_BinOp ?_)
    refine ln_L W5.ns mp4 ?_
    refine wpAny_Constant_int ?_
    refine add_int ?_
    refine wpAny_BinOp (wpAny_BinOp (Subscript_ ?_))
    refine ln_L W5.ns mn4 ?_
    refine ln_L W5.ns mp4 ?_
    refine item_list_ints ⟨_, W5.num, rfl, 0, rfl⟩ hi (by omega) (by omega) (by omega) fun t6 => ?_
    rw [show ((p : Int)).toNat = p from Int.toNat_natCast p]
    refine wpAny_Constant_int ?_
    refine floordiv_int (by decide) ?_
    refine wpAny_BinOp ?_
    refine wpAny_Constant_int ?_
    refine ln_L W5.ns mp4 ?_
    refine sub_int ?_
    refine mod_int' (by omega) ?_
    refine add_int ?_
    obtain ⟨b1, b2⟩ := idx_bounds xs hp
    change wpAny _ _ (subscriptTail _ _ _ (.int (idxOf xs p) _)) _ _ _
    refine kba_turn (value' := .Name "_" ⟨0, 0, 0, 0⟩) (fun _ => rfl) ?_
    refine item_list_ints ⟨_, g5, rfl, 0, rfl⟩ i5 (by omega) (by show idxOf xs p < 8; omega) (by omega) fun t7 => ?_
    change wpAny _ _ _ _ _ _
    have eT : nameList.getD (idxOf xs p).toNat 0 = tgtOf xs p := rfl
    rw [eT]
    refine ln_C W5.cd ?_
    refine ln_L W5.ns (if_pos rfl) ?_
    refine wpAny_setItem_pairs (knd := intKind PySem.Challenge.rw_sv0008_01.row.prog w) (intKind_is _ _ _ _) W5.dd (hsz := ?sz5) fun h6 hd6 hs6 => ?_
    case sz5 => rw [hD.length, sizeLine_eq]; omega
    dsimp only at hd6 hs6
    have X6 := W5.setD (kd' := stored kd (nm p) (Value.int (tgtOf xs p) t7)) (h' := h6) hd6 hs6
    obtain ⟨W6, K6⟩ := X6
    rw [stored_new (RowD.keys hD nD)] at W6
    have K56 : KeepND h4 h6 := (KeepND.of_keeps k5).trans K6
    dsimp only
    have hvd : valueAt (kd ++ [(nm p, Value.int (tgtOf xs p) t7)]) (nm p) = some (.int (tgtOf xs p) t7) := valueAt_new (RowD.keys hD nD)
    refine wpAny_execs_cons (wpAny_Assign_Subscript ?_)
    refine wpAny_BinOp (wpAny_List (args_cons (Subscript_ ?_)))
    refine ln_C W6.cd ?_
    refine ln_L W6.ns (if_pos rfl) ?_
    refine dict_item (knd := intKind PySem.Challenge.rw_sv0008_01.row.prog w) W6.dd (intKind_is _ _ _ _) hvd ?_
    refine args_nil ⟨(by rw [sizeLine_eq]; simp), ?_⟩
    have k7 : ∀ b o, h6.get? b = some o → (h6.push { cls := .type "list", data := .seq [Value.int (tgtOf xs p) t7].toArray }).get? b = some o := fun b o e => Heap.get?_push_of_some _ e
    have W7 := W6.keeps k7
    refine Subscript_ ?_
    refine ln_C W7.cp ?_
    refine Subscript_ ?_
    refine ln_C W7.cd ?_
    refine ln_L W7.ns (if_pos rfl) ?_
    refine dict_item (knd := intKind PySem.Challenge.rw_sv0008_01.row.prog w) W7.dd (intKind_is _ _ _ _) hvd ?_
    have hin : tgtOf xs p ∈ P.map (·.1) := fP _ (by omega) (by omega)
    obtain ⟨v8, hv8, hL8⟩ := RowP.find hP4 hin
    have hL8' := (hL8.keep (KeepND.trans K56 (KeepND.of_keeps k7)))
    obtain ⟨a8, us8, n8, rfl, ha8, hi8⟩ := hL8'
    refine dict_item (knd := intKind PySem.Challenge.rw_sv0008_01.row.prog w) W7.dp (intKind_is _ _ _ _) (valueAt_append hv8) ?_
    have len8 := look_len (k := tgtOf xs p) lX
    refine add_push (vs := [Value.int (tgtOf xs p) t7]) (ws := us8) ⟨_, Heap.get?_push_size _ rfl, rfl, 0, rfl⟩ ⟨_, ha8, rfl, n8, rfl⟩ ?_ (by rw [sizeLine_eq, hi8.length]; simp only [List.length_cons, List.length_nil]; omega)
    dsimp only
    have k9 := fun (b : Addr) (o : Obj) (e : (h6.push { cls := .type "list", data := .seq [Value.int (tgtOf xs p) t7].toArray }).get? b = some o) => Heap.get?_push_of_some (h := h6.push { cls := .type "list", data := .seq [Value.int (tgtOf xs p) t7].toArray }) { cls := .type "list", data := .seq ([Value.int (tgtOf xs p) t7] ++ us8).toArray } e
    have W9 := W7.keeps k9
    refine ln_C W9.cp ?_
    refine ln_L W9.ns (if_pos rfl) ?_
    refine wpAny_setItem_pairs (knd := intKind PySem.Challenge.rw_sv0008_01.row.prog w) (intKind_is _ _ _ _) W9.dp (hsz := ?sz9) fun h10 hd10 hs10 => ?_
    case sz9 => rw [List.length_append, hP.length, sizeLine_eq]; simp only [List.length_cons, List.length_nil]; omega
    dsimp only at hd10 hs10
    generalize hq : (h6.push { cls := .type "list", data := .seq [Value.int (tgtOf xs p) t7].toArray }).objs.size = l9 at hd10
    rw [stored_last (RowP.keys hP nP)] at hd10
    obtain ⟨W10, K10⟩ := W9.setP (kp' := kp ++ [(nm p, .ref l9)]) (h' := h10) hd10 hs10
    have K6t : KeepND h6 h10 := ((KeepND.of_keeps k7).trans (KeepND.of_keeps k9)).trans K10
    have K4t : KeepND h4 h10 := K56.trans K6t
    have l10 : Lst h10 (.ref l9) (tgtOf xs p :: look P (tgtOf xs p)) := Lst.keep ⟨_, Value.int (tgtOf xs p) t7 :: us8, 0, rfl, hq ▸ Heap.get?_push_size _ rfl, .cons _ _ hi8⟩ K10
    dsimp only
    refine wpAny_execs_nil ?_
    dsimp only
    refine wpAny_execs_nil ?_
    refine hQ _ _ _ _ _ W10 mn4 (hK4.trans K4t) ?_ ?_
    · rw [pstep, if_neg hz]; exact hD.append (.cons ⟨rfl, _, rfl⟩ .nil)
    · rw [pstep, if_neg hz]; exact (hP4.mono (RowP.keep K4t)).append (.cons ⟨rfl, l10⟩ .nil)
end
end
end Mine

end

section
set_option maxRecDepth 100000
set_option maxHeartbeats 4000000
namespace Mine
noncomputable section
/-- the state after the loop -/
def fin (xs : List Int) : St2 := [6, 5, 4, 3, 2, 1, 0].foldl (pstep xs) ([], [(5, [])])

/-- what is left to show behind the loop -/
def AfterLoop : Prop :=
  ∀ (w : World) (mean : ExcName → Option Value) (mg mb m : Str → Option Value) (s : Shared) (h₀ : Heap) (L fa d pd nl : Addr) (cd : Value) (ws : List Value) (xs : List Int) (kd kp : List (Int × Value)) (Q : Flow → Shared → Prop) (E : Value → Shared → Prop),
    (hd.heap_39 w.params).In h₀ → Top hd.view_39 (looseW hd.view_39 [Str.ofString "ABC", Str.ofString "AbstractContextManager"]) mean mg mb h₀ → Below callerA h₀ [] h₀ →
    Lw PySem.Challenge.rw_sv0008_01.row.prog w h₀ s.heap L d pd nl m ws kd kp → h₀.get? nl = none → m "numbers" = some (.ref nl) → xs.length = 7 → IntsAre ws xs → All2 RowD kd (fin xs).1 → All2 (RowP s.heap) kp (fin xs).2 →
    PassesOwn (model PySem.Challenge.rw_sv0008_01.row.prog w) (callerA.deeper (lawEnv L fa cd)) (lawEnv L fa cd) E →
    (∀ h' tk m', Fr h₀ L h' m' → Q (.ret (.bool true)) { s with heap := h', toks := tk }) →
    wpAny (model PySem.Challenge.rw_sv0008_01.row.prog w) (callerA.deeper (lawEnv L fa cd)) (execs (lawBody.drop 4) (lawEnv L fa cd)) Q E s

/-- the turns' own bounds -/
def Ok2 (p : Nat) (σ : St2) : Prop :=
  (∀ r ∈ σ.1, ∃ j, p ≤ j ∧ j < 7 ∧ r.1 = nm j) ∧ (∀ r ∈ σ.2, ∃ j, p ≤ j ∧ j ≤ 7 ∧ r.1 = nm j) ∧ (∀ j, p ≤ j → j ≤ 7 → nm j ∈ σ.2.map (·.1)) ∧ σ.1.length ≤ 7 - p ∧ σ.2.length ≤ 8 - p ∧ ∀ r ∈ σ.2, r.2.length ≤ 7 - p
theorem nm_inj (i j : Nat) (hi : i ≤ 7) (hj : j ≤ 7) (h : nm i = nm j) : i = j := by
  have e : ∀ i ∈ List.range 8, ∀ j ∈ List.range 8, nm i = nm j → i = j := by decide
  exact e i (List.mem_range.mpr (by omega)) j (List.mem_range.mpr (by omega)) h
theorem ok2_step {xs : List Int} {p : Nat} {σ : St2} (hp : p < 7) (h : Ok2 (p + 1) σ) : Ok2 p (pstep xs σ p) := by
  obtain ⟨h1, h2, h3, h4, h5, h6⟩ := h
  have hl : (look σ.2 (tgtOf xs p)).length ≤ 7 - (p + 1) := by
    unfold look
    cases e : σ.2.find? fun r => decide (r.1 = tgtOf xs p) with
    | none => simp
    | some x => simpa using h6 x (List.mem_of_find?_eq_some e)
  have key : ∀ (v : List Int), v.length ≤ 7 - p → (∀ r ∈ σ.2 ++ [(nm p, v)], ∃ j, p ≤ j ∧ j ≤ 7 ∧ r.1 = nm j) ∧ (∀ j, p ≤ j → j ≤ 7 → nm j ∈ (σ.2 ++ [(nm p, v)]).map (·.1)) ∧ (σ.2 ++ [(nm p, v)]).length ≤ 8 - p ∧ ∀ r ∈ σ.2 ++ [(nm p, v)], r.2.length ≤ 7 - p := by
    intro v hv
    refine ⟨fun r hr => ?_, fun j hj hj7 => ?_, ?_, fun r hr => ?_⟩
    · rcases List.mem_append.mp hr with hr | hr
      · obtain ⟨j, a, b, c⟩ := h2 r hr; exact ⟨j, by omega, b, c⟩
      · rw [List.mem_singleton.mp hr]; exact ⟨p, Nat.le_refl _, by omega, rfl⟩
    · rw [List.map_append]
      by_cases hq : j = p
      · subst hq; exact List.mem_append_right _ (by simp)
      · exact List.mem_append_left _ (h3 j (by omega) hj7)
    · simp only [List.length_append, List.length_cons, List.length_nil]; omega
    · rcases List.mem_append.mp hr with hr | hr
      · have := h6 r hr; omega
      · rw [List.mem_singleton.mp hr]; exact hv
  unfold pstep
  split
  · obtain ⟨a, b, c, e⟩ := key [] (by simp)
    exact ⟨fun r hr => (by obtain ⟨j, x, y, z⟩ := h1 r hr; exact ⟨j, by omega, y, z⟩), a, b, (by show σ.1.length ≤ 7 - p; omega), c, e⟩
  · obtain ⟨a, b, c, e⟩ := key (tgtOf xs p :: look σ.2 (tgtOf xs p)) (by simp only [List.length_cons]; omega)
    refine ⟨fun r hr => ?_, a, b, ?_, c, e⟩
    · rcases List.mem_append.mp hr with hr | hr
      · obtain ⟨j, x, y, z⟩ := h1 r hr; exact ⟨j, by omega, y, z⟩
      · rw [List.mem_singleton.mp hr]; exact ⟨p, Nat.le_refl _, hp, rfl⟩
    · simp only [List.length_append, List.length_cons, List.length_nil]; omega
theorem ok2_start : Ok2 7 ([], [(5, [])]) := by
  refine ⟨fun r hr => (by cases hr), fun r hr => ?_, fun j h1 h2 => ?_, (by simp), (by simp), fun r hr => ?_⟩
  · rw [List.mem_singleton.mp hr]; exact ⟨7, by omega, by omega, rfl⟩
  · have : j = 7 := by omega
    subst this; decide
  · rw [List.mem_singleton.mp hr]; simp
/-- the state before turn i (p = 6 - i) -/
def pst (xs : List Int) (i : Nat) : St2 := ([6, 5, 4, 3, 2, 1, 0].take i).foldl (pstep xs) ([], [(5, [])])
theorem pst_succ (xs : List Int) (i : Nat) (hi : i < 7) : pst xs (i + 1) = pstep xs (pst xs i) (6 - i) := by
  have : i = 0 ∨ i = 1 ∨ i = 2 ∨ i = 3 ∨ i = 4 ∨ i = 5 ∨ i = 6 := by omega
  rcases this with rfl | rfl | rfl | rfl | rfl | rfl | rfl <;> rfl
theorem pst_ok (xs : List Int) : ∀ i, i ≤ 7 → Ok2 (7 - i) (pst xs i)
  | 0, _ => ok2_start
  | i + 1, hi => by
    rw [pst_succ xs i (by omega)]
    have := pst_ok xs i (by omega)
    have e : 7 - i = (6 - i) + 1 := by omega
    rw [e] at this
    have e2 : 7 - (i + 1) = 6 - i := by omega
    rw [e2]
    exact ok2_step (by omega) this
theorem pst_fin (xs : List Int) : pst xs 7 = fin xs := rfl
end
end Mine

end

section
set_option maxRecDepth 100000
set_option maxHeartbeats 4000000
namespace Mine
noncomputable section
theorem exec_of_execs {M : Model} {A : Around} {E : Value → Shared → Prop} {s : Shared} {env : Env} {st : Stmt} {Q : Flow → Shared → Prop} (h : wpAny M A (execs [st] env) Q E s) : wpAny M A (exec st env) Q E s := fun Γ p hΓ => by
  have h1 := h Γ p hΓ
  rw [execs_cons, Sem.wp_bind'] at h1
  refine Sem.wp_mono M Γ _ (fun f p' s' h' => ?_) (fun _ _ _ h' => h') _ _ h1
  cases f <;> exact h'

theorem cell_ne (L : Nat) : L + 1 + 1 + 1 ≠ L ∧ L + 1 + 1 ≠ L ∧ L + 1 ≠ L := by omega

section
variable {prog : Program} {w : World} {h₀ h h' : Heap} {L d pd nl : Addr} {m m' : Str → Option Value} {ws : List Value} {kd kp kd' kp' : List (Int × Value)}
theorem Lw.step (W : Lw prog w h₀ h L d pd nl m ws kd kp) (hn : h'.Ns L m') (k0 : ∀ b o, h₀.get? b = some o → h.get? b = some o → h'.get? b = some o) (k : ∀ b o, (∀ vs, o.data ≠ .fields vs) → b ≠ L → h.get? b = some o → h'.get? b = some o) : Lw prog w h₀ h' L d pd nl m' ws kd kp := by
  have kc : ∀ {c v}, c ≠ L → h.IsCell c v → h'.IsCell c v := fun hc ⟨o, ho, hd⟩ => ⟨o, k _ o (fun vs q => by rw [hd] at q; cases q) hc ho, hd⟩
  have kk : ∀ {c kvs}, c ≠ L → h.DictOf (intKind prog w) c kvs → h'.DictOf (intKind prog w) c kvs := fun hc ⟨o, es, ep, ho, hx, hd, r⟩ => ⟨o, es, ep, k _ o (fun vs q => by rw [hd] at q; cases q) hc ho, hx, hd, r⟩
  have hnl : nl ≠ L := fun q => by
    obtain ⟨o, es, ep, ho, hd, _⟩ := W.ns
    have := W.num
    rw [q, ho] at this
    cases this
    cases hd
  exact { W with
    keep := fun b o e => k0 b o e (W.keep b o e)
    ns := hn
    ct := kc (cell_ne L).1 W.ct
    cp := kc (cell_ne L).2.1 W.cp
    cd := kc (cell_ne L).2.2 W.cd
    num := k _ _ (fun vs q => by cases q) hnl W.num
    dd := kk (Nat.ne_of_gt W.dL) W.dd
    dp := kk (Nat.ne_of_gt W.pL) W.dp }
theorem Lst.step {v : Value} {xs : List Int} (x : Lst h v xs) (hns : h.Ns L m) (k : ∀ b o, (∀ vs, o.data ≠ .fields vs) → b ≠ L → h.get? b = some o → h'.get? b = some o) : Lst h' v xs := by
  obtain ⟨l, vs, n, e, ho, hi⟩ := x
  refine ⟨l, vs, n, e, k _ _ (fun _ q => by cases q) (fun q => ?_) ho, hi⟩
  obtain ⟨o, es, ep, ho', hd, _⟩ := hns
  rw [q, ho'] at ho
  cases ho
  cases hd
end

section
variable {prog : Program} {w : World} {A : Around} {E : Value → Shared → Prop} {s : Shared} {env : Env} {x : Str} {body : List Stmt} {Q : Flow → Shared → Prop}
theorem iter_listH (hh : A.handled = none) {l : Addr} {vs : List Value} (hl : s.heap.IsList l vs.toArray) {m₀ : Str → Option Value} (hL : s.heap.Ns env.locals m₀) (J : Nat → Heap → Prop) (h0 : ∀ h', (∀ b o, s.heap.get? b = some o → h'.get? b = some o) → J 0 h')
    (hns : ∀ i h, J i h → ∃ m, h.Ns env.locals m)
    (turn : ∀ i v h₁ h m tk, vs[i]? = some v → J i h₁ → h₁.Ns env.locals m → h.Ns env.locals (fun y => if y = x then some v else m y) → (∀ b o, b ≠ s.heap.objs.size → b ≠ env.locals → h₁.get? b = some o → h.get? b = some o) →
      (∀ b o, (∀ vs, o.data ≠ .fields vs) → b ≠ env.locals → h₁.get? b = some o → h.get? b = some o) →
      wpAny (model prog w) A (execs body env) (fun f s' => f = .next ∧ ∃ h' tk', s' = { s with heap := h', toks := tk' } ∧ J (i + 1) h' ∧ KeepND h h') E { s with heap := h, toks := tk })
    (done : ∀ h h' tk, J vs.length h → (∀ b o, b ≠ s.heap.objs.size → h.get? b = some o → h'.get? b = some o) → (∀ b o, (∀ vs, o.data ≠ .fields vs) → h.get? b = some o → h'.get? b = some o) → Q .next { s with heap := h', toks := tk }) :
    wpAny (model prog w) A (pyIter (.ref l)) (fun it s₂ => LoopH prog w A env x body Q E it s₂) E s := by
  obtain ⟨ol, hol, hcl, nn, hdl⟩ := id hl
  obtain ⟨oL, es, ep, hoL, hdL, _⟩ := id hL
  have hlI : l ≠ s.heap.objs.size := Nat.ne_of_lt (Heap.lt_size hol)
  have hlL : l ≠ env.locals := fun q => by rw [q, hoL] at hol; cases hol; rw [hdL] at hdl; cases hdl
  refine wpAny_pyIter_list hl ?_
  refine ⟨s.heap.objs.size, _, _, _, _, _, J, rfl, Walks.list (prog := prog) (w := w) hh s.heap.objs.size l hlI vs.toArray, ?_, ⟨⟨_, Heap.get?_push_size _ rfl, rfl, rfl⟩, hl.at fun o e => Heap.get?_push_of_some _ e⟩,
    h0 _ (fun b o e => Heap.get?_push_of_some _ e), hns, ?_, ?_⟩
  · intro hm
    rcases List.mem_cons.mp hm with e | hm
    · exact absurd (Heap.lt_size hoL) (e ▸ Nat.lt_irrefl _)
    · exact hlL (List.mem_singleton.mp hm).symm
  · intro i v h₁ h m tk hi hP hJ hst hm hst' hn hk
    have nI : ∀ b o, (∀ vs, o.data ≠ .fields vs) → h₁.get? b = some o → b ≠ s.heap.objs.size := fun b o hf ho q => by
      obtain ⟨oI, hoI, _, hdI⟩ := hst.1
      rw [q, hoI] at ho
      cases ho
      exact hf _ hdI
    refine wpAny_mono (turn i v h₁ h m tk (by simpa using hP) hJ hm hn (fun b o hb => hk b o (by simpa using hb)) fun b o hf hb e => hk b o (by simpa using nI b o hf e) hb e) (fun f s' hf => ?_) fun _ _ e => e
    obtain ⟨rfl, h', tk', rfl, hJ', hk'⟩ := hf
    refine ⟨rfl, h', tk', rfl, hJ', fun b hb o e => hk' b o (fun es n q => ?_) e⟩
    rcases List.mem_cons.mp hb with rfl | hb
    · obtain ⟨oI, hoI, _, hdI⟩ := hst'.1
      rw [hoI] at e; cases e; rw [hdI] at q; cases q
    · rw [List.mem_singleton.mp hb] at e
      obtain ⟨oI, hoI, _, _, hdI⟩ := hst'.2
      rw [hoI] at e; cases e; rw [hdI] at q; cases q
  · intro h h' tk hJ hst hk
    refine done h h' tk (by simpa using hJ) (fun b o hb => hk b o (by simpa using hb)) fun b o hf e => hk b o ?_ e
    intro hb
    rw [List.mem_singleton.mp hb] at e
    obtain ⟨oI, hoI, _, hdI⟩ := hst.1
    rw [hoI] at e
    cases e
    exact hf _ hdI
end
end
end Mine

end

section
set_option maxRecDepth 100000
set_option maxHeartbeats 4000000
namespace Mine
noncomputable section
theorem law_good (AL : AfterLoop) : BodyGood lawBody lawSc := by
  intro w mean mg mb s₁ h₁ fa cd l vs xs Q E tk c1 c2 c3 KX TX BX FX NX hc1 hc2 hc3 LX IX hlen hE hQ
  have hw := nums_walk (fa := fa) (cd := cd) (E := E) (tk := tk) KX TX BX FX NX LX IX hlen
  have hA := AL w mean mg mb
  generalize s₁.heap.objs.size = L at *
  change PassesOwn _ (callerA.deeper (lawEnv L fa cd)) (lawEnv L fa cd) E at hE
  change wpAny _ (callerA.deeper (lawEnv L fa cd)) (execs lawBody (lawEnv L fa cd)) Q E _
  revert hw hA
  unfold seg1 lawBody lawX
  dsimp only [List.take, List.drop, List.getElem?_cons_succ, List.getElem?_cons_zero, Option.map_some, Option.getD_some, forBody]
  intro hA hw
  refine wpAny_execs_cons (wpAny_mono (exec_of_execs hw) (fun f s' hf => ?_) fun _ _ e => e)
  obtain ⟨rfl, h2, tk2, nl, ws, rfl, F2, N2, I2⟩ := hf
  dsimp only
  obtain ⟨g1, n1, e1⟩ := N2 _ (.tail _ (.tail _ (.tail _ (.head _))))
  obtain ⟨g2, n2, e2⟩ := N2 _ (.tail _ (.tail _ (.head _)))
  obtain ⟨g3, n3, e3⟩ := N2 _ (.tail _ (.head _))
  obtain ⟨g4, n4, e4⟩ := N2 _ (.head _)
  dsimp only at g1 n1 e1 g2 n2 e2 g3 n3 e3 g4 n4 e4
  have l2 := F2.ns.lt
  -- d = {}
  refine wpAny_execs_cons ?_
  refine wpAny_Assign_Name ?_ ?hsw
  (case hsw => rfl)
  refine wpAny_Dict_empty ?_
  have k3 : ∀ b o, h2.get? b = some o → (h2.push { cls := .type "dict", data := .dict #[] }).get? b = some o := fun b o e => Heap.get?_push_of_some _ e
  have D3 := Heap.DictOf.new (knd := intKind PySem.Challenge.rw_sv0008_01.row.prog w) h2
  refine wpAny_storeName_cell (c := L + 1) (v₀ := none) ?r1 ?r2 ?r3 ?r4 ?r5
  (case r1 => rfl)
  (case r2 => rfl)
  (case r3 => rfl)
  (case r4 => exact ⟨c1, k3 _ _ g1, hc1⟩)
  intro h4 hc4 hs4
  dsimp only at hs4 ⊢
  -- passed = {5: []}
  refine wpAny_execs_cons ?_
  refine wpAny_Assign_Name ?_ ?hsw
  (case hsw => rfl)
  refine wpAny_Dict_walk (knd := intKind PySem.Challenge.rw_sv0008_01.row.prog w) ?q1 ?q2 ?q3 ?q4 ?q5
  (case q1 => rfl)
  (case q2 => rfl)
  (case q3 => simp)
  (case q4 => decide)
  refine pairTrees_cons_walk ?_
  refine wpAny_Constant_int ?_
  refine wpAny_List (args_nil ⟨Nat.zero_le _, ?_⟩)
  refine pairTrees_nil_walk ?_
  dsimp only
  refine ⟨[(5, .ref (h4.push { cls := .type "dict", data := .dict #[] }).objs.size)], ⟨intKind_is _ _ _ _, rfl, trivial⟩, ?_, fun h7 hd7 hs7 => ?_⟩
  · exact (Heap.DictOf.new (knd := intKind PySem.Challenge.rw_sv0008_01.row.prog w) h4).keep fun b o e => Heap.get?_push_of_some _ e
  -- the second cell
  dsimp only at hc4
  have k5 : ∀ b o, h4.get? b = some o → ((h4.push { cls := .type "dict", data := .dict #[] }).push { cls := .type "list", data := .seq #[] }).get? b = some o := fun b o e => Heap.get?_push_of_some _ (Heap.get?_push_of_some _ e)
  have hsz4 : h4.objs.size = h2.objs.size + 1 := by rw [hs4.1]; simp [Heap.push]
  have lt1 : L + 1 < h2.objs.size := Heap.lt_size g1
  have lt2 : L + 1 + 1 < h2.objs.size := Heap.lt_size g2
  have lt3 : L + 1 + 1 + 1 < h2.objs.size := Heap.lt_size g3
  have lt4 : nl < h2.objs.size := Heap.lt_size g4
  have step4 : ∀ b o, b ≠ L + 1 → h2.get? b = some o → h4.get? b = some o := fun b o hb e => (hs4.2 b hb).trans (k3 b o e)
  have hltb : ∀ b o, h2.get? b = some o → b ≠ h4.objs.size := fun b o e => by have := Heap.lt_size e; rw [hsz4]; exact Nat.ne_of_lt (Nat.lt_succ_of_lt this)
  have step7 : ∀ b o, b ≠ h4.objs.size → h4.get? b = some o → h7.get? b = some o := fun b o hb e => (hs7.2 b hb).trans (k5 b o e)
  have step47 : ∀ b o, b ≠ L + 1 → h2.get? b = some o → h7.get? b = some o := fun b o hb e => step7 b o (hltb b o e) (step4 b o hb e)
  refine wpAny_storeName_cell (c := L + 1 + 1) (v₀ := none) ?p1 ?p2 ?p3 ?p4 ?p5
  (case p1 => rfl)
  (case p2 => rfl)
  (case p3 => rfl)
  (case p4 => exact ⟨c2, step47 _ _ (by simp) g2, hc2⟩)
  intro h8 hc8 hs8
  dsimp only at hs8 ⊢
  have step8 : ∀ b o, b ≠ L + 1 + 1 → h7.get? b = some o → h8.get? b = some o := fun b o hb e => (hs8.2 b hb).trans e
  have lstp : Lst h8 (.ref (h4.objs.size + 1)) [] := by
    have e : (h4.push { cls := .type "dict", data := .dict #[] }).objs.size = h4.objs.size + 1 := by simp [Heap.push]
    refine ⟨h4.objs.size + 1, [], 0, rfl, step8 _ _ ?_ ((hs7.2 _ ?_).trans ?_), .nil⟩
    · exact Nat.ne_of_gt (by rw [hsz4]; omega)
    · exact Nat.ne_of_gt (Nat.lt_succ_self _)
    · rw [← e]; exact Heap.get?_push_size _ rfl
  have W8 : Lw PySem.Challenge.rw_sv0008_01.row.prog w s₁.heap h8 L h2.objs.size h4.objs.size nl (fun y => if y = "numbers" then some (.ref nl) else if y = "script" then some (.ref l) else none) ws [] [(5, .ref (h4.objs.size + 1))] := {
    keep := fun b o e => by
      have hb : b ≠ L + 1 := fun q => by rw [q, e1] at e; cases e
      have hb2 : b ≠ L + 1 + 1 := fun q => by rw [q, e2] at e; cases e
      exact step8 b o hb2 (step47 b o hb (F2.keep b o e))
    above := F2.above
    ns := F2.ns.at fun o e => step8 _ _ (Ne.symm n2) (step47 _ _ (Ne.symm n1) e)
    ct := ⟨c3, step8 _ _ (cell_ne (L + 1 + 1)).2.2 (step47 _ _ (cell_ne (L + 1)).2.1 g3), hc3⟩
    cp := hc8
    cd := by
      obtain ⟨o, ho, hd⟩ := hc4
      refine ⟨o, step8 _ _ (by simp) (step7 _ _ ?_ ho), hd⟩
      rw [hsz4]; exact Nat.ne_of_lt (Nat.lt_succ_of_lt lt1)
    num := by
      have a1 : nl ≠ L + 1 := fun q => by rw [q, g1] at g4; rw [Option.some.inj g4] at hc1; cases hc1
      have a2 : nl ≠ L + 1 + 1 := fun q => by rw [q, g2] at g4; rw [Option.some.inj g4] at hc2; cases hc2
      exact step8 _ _ a2 (step47 _ _ a1 g4)
    dd := by
      obtain ⟨o, ho, r⟩ := Heap.dictOf_iff.mp D3
      refine Heap.dictOf_iff.mpr ⟨o, step8 _ _ (Nat.ne_of_gt lt2) (step7 _ _ ?_ ((hs4.2 _ (Nat.ne_of_gt lt1)).trans ho)), r⟩
      rw [hsz4]; exact Nat.ne_of_lt (Nat.lt_succ_self _)
    dp := by
      obtain ⟨o, ho, r⟩ := Heap.dictOf_iff.mp hd7
      refine Heap.dictOf_iff.mpr ⟨o, step8 _ _ ?_ ho, ?_⟩
      · rw [hsz4]; exact Nat.ne_of_gt (Nat.lt_succ_of_lt lt2)
      · have e : (h4.push { cls := .type "dict", data := .dict #[] }).objs.size = h4.objs.size + 1 := by simp [Heap.push]
        rw [e] at r; exact r
    dL := l2
    pL := by rw [hsz4]; exact Nat.lt_succ_of_lt l2
    dpd := by rw [hsz4]; exact Nat.ne_of_lt (Nat.lt_succ_self _) }
  -- the loop
  refine wpAny_execs_cons ?_
  refine for_heap (env := lawEnv L fa cd) (x := Str.ofString "p") ?x1 ?x2 ?x3 ?x4 ?x5
  (case x1 => rfl)
  (case x2 => rfl)
  (case x4 => intro _; rfl)
  (case x5 => exact hE)
  refine wpAny_List (args_cons (wpAny_Constant_int (args_cons (wpAny_Constant_int (args_cons (wpAny_Constant_int (args_cons (wpAny_Constant_int (args_cons (wpAny_Constant_int (args_cons (wpAny_Constant_int (args_cons (wpAny_Constant_int (args_nil ⟨?_, ?_⟩)))))))))))))))
  · rw [sizeLine_eq]; simp
  dsimp only
  have k9 : ∀ {o : Obj} (b : Addr) (o' : Obj), h8.get? b = some o' → (h8.push o).get? b = some o' := fun b o' e => Heap.get?_push_of_some _ e
  refine iter_listH (hh := rfl) ⟨_, Heap.get?_push_size _ rfl, rfl, 0, rfl⟩ (W8.keeps k9).ns
    (fun i h => ∃ m kd kp, Lw PySem.Challenge.rw_sv0008_01.row.prog w s₁.heap h L h2.objs.size h4.objs.size nl m ws kd kp ∧ m "numbers" = some (.ref nl) ∧ All2 RowD kd (pst (numsOf xs) i).1 ∧ All2 (RowP h) kp (pst (numsOf xs) i).2) ?j0 ?jn ?turn ?done
  case j0 =>
    intro h' hk
    have hk8 : ∀ b o, h8.get? b = some o → h'.get? b = some o := fun b o e => hk b o (k9 b o e)
    exact ⟨_, [], _, W8.keeps hk8, if_pos rfl, .nil, .cons ⟨rfl, lstp.keep (KeepND.of_keeps hk8)⟩ .nil⟩
  case jn =>
    rintro i h ⟨m, _, _, W, _⟩
    exact ⟨m, W.ns⟩
  case turn =>
    rintro i v hh1 h m tk hv ⟨m', kd, kp, W, hmn, hD, hP⟩ hns hn hk hnf
    have hmn' : m "numbers" = some (.ref nl) := (hns.agree W.ns _).trans hmn
    have hlI : ∀ b o, s₁.heap.get? b = some o → b < L := fun b o e => Nat.lt_of_lt_of_le (Heap.lt_size e) F2.above
    have hl8 : L < h8.objs.size := W8.ns.lt
    have W' := W.step hn (fun b o e0 e => hk b o (by have := hlI b o e0; simp only [Heap.push, Array.size_push]; exact Nat.ne_of_lt (Nat.lt_succ_of_lt (Nat.lt_trans this hl8))) (Nat.ne_of_lt (hlI b o e0)) e) hnf
    have hP' : All2 (RowP h) kp (pst (numsOf xs) i).2 := hP.mono (fun a b (x : RowP hh1 a b) => ⟨x.1, Lst.step x.2 W.ns hnf⟩)
    obtain ⟨o1, o2, o3, o4, o5, o6⟩ := pst_ok (numsOf xs) i (by
      have := (List.getElem?_eq_some_iff.mp hv).1
      simp at this
      omega)
    have hi7 : i < 7 := by
      have := (List.getElem?_eq_some_iff.mp hv).1
      simpa using this
    have hvv : ∃ t, v = .int ((6 - i : Nat) : Int) t := by
      have : i = 0 ∨ i = 1 ∨ i = 2 ∨ i = 3 ∨ i = 4 ∨ i = 5 ∨ i = 6 := by omega
      rcases this with rfl | rfl | rfl | rfl | rfl | rfl | rfl <;> (simp at hv; exact ⟨_, hv.symm⟩)
    obtain ⟨t, rfl⟩ := hvv
    refine p_turn (p := 6 - i) (tp := t) KX TX W' (by omega) (numsOf_length xs) I2 (if_pos rfl) ?_ hD hP' ?_ ?_ ?_ ?_ ?_ ?_ ?_
    · show (if _ then _ else _) = _
      rw [if_neg (by decide)]; exact hmn'
    · intro r hr q
      obtain ⟨j, a, b, c⟩ := o1 r hr
      have := nm_inj j (6 - i) (by omega) (by omega) (c.symm.trans q)
      omega
    · intro r hr q
      obtain ⟨j, a, b, c⟩ := o2 r hr
      have := nm_inj j (6 - i) (by omega) (by omega) (c.symm.trans q)
      omega
    · intro j a b
      exact o3 j (by omega) b
    · omega
    · omega
    · intro r hr
      have := o6 r hr
      omega
    · intro h' tk' kd' kp' m2 W2 hm2 K2 D2 P2
      rw [← pst_succ (numsOf xs) i hi7] at D2 P2
      exact ⟨rfl, h', tk', rfl, ⟨m2, kd', kp', W2, hm2, D2, P2⟩, K2⟩
  case done =>
    rintro h h' tk ⟨m, kd, kp, W, hmn, hD, hP⟩ hk hnf
    have hl8 : L < h8.objs.size := W8.ns.lt
    have hns' : h'.Ns L m := by
      obtain ⟨o, es, ep, ho, hd, r⟩ := W.ns
      exact ⟨o, es, ep, hnf _ _ (fun vs q => by rw [hd] at q; cases q) ho, hd, r⟩
    have W' := W.step hns' (fun b o e0 e => hk b o (by have := Nat.lt_of_lt_of_le (Heap.lt_size e0) F2.above; simp only [Heap.push, Array.size_push]; exact Nat.ne_of_lt (Nat.lt_succ_of_lt (Nat.lt_trans this hl8))) e) (fun b o hf _ e => hnf b o hf e)
    have hP' : All2 (RowP h') kp (pst (numsOf xs) 7).2 := hP.mono (fun a b (x : RowP h a b) => ⟨x.1, Lst.step x.2 W.ns (fun b o hf _ e => hnf b o hf e)⟩)
    exact hA m _ s₁.heap L fa _ _ nl cd ws (numsOf xs) kd kp Q E KX TX BX W' e4 hmn (numsOf_length xs) I2 hD hP' hE fun h2 tk2 m2 F => hQ h2 tk2 m2 F
end
end Mine

end

section
set_option maxRecDepth 100000
set_option maxHeartbeats 4000000
namespace Mine
open AutoSeq1 (wpAny_loadPart')
theorem typeCall_tuple_0 : checkTypeCall "tuple" ⟨[], []⟩ = pure () := by kernel_rfl
theorem newCall_tuple_0 : checkBuiltinCall "tuple.__new__" ⟨[.type "tuple"], []⟩ = pure () := by kernel_rfl
theorem meets_tuple_new_0 :
    Meets (Builtin.«tuple.__new__» ⟨[.type "tuple"], []⟩) (fun _ R s => R (.ok (.ret (.ref s.heap.objs.size))) { s with heap := s.heap.push { cls := .type "tuple", data := .seq #[] } }) :=
  .of_wp fun prog w A R s h => by
    obtain ⟨hp, g, d, tk, os⟩ := s
    have hsub := sub_tuple_self
    have hinit := init_tuple_lookup
    have hmh := madeHere_tuple
    wp_walk
    exact ⟨_, rfl, h⟩
section
variable {prog : Program} {w : World} {A : Around} {E : Value → Shared → Prop} {s : Shared}
theorem call_tuple_0 {Q : Value → Shared → Prop} (h : Q (.ref s.heap.objs.size) { s with heap := s.heap.push { cls := .type "tuple", data := .seq #[] } }) : wpAny (model prog w) A (call (.type "tuple") []) Q E s :=
  callType_new F.called_tuple (by decide) typeCall_tuple_0 newCall_tuple_0 (fun obj => F.args_object_init_1 obj) F.entry_tuple_new meets_tuple_new_0 ⟨⟨_, Heap.get?_push_size _ rfl, rfl⟩, h⟩

def tupOf (vs : List Value) (n : Nat) : Obj := { cls := .type "tuple", data := .seq vs.toArray n }
theorem tup_add {t b : Addr} {vs ws : List Value} {n n2 : Nat} {Q : Value → Shared → Prop} (ht : s.heap.get? t = some (tupOf vs n)) (hb : s.heap.get? b = some (tupOf ws n2)) (hw : ws ≠ [])
    (h : ∀ h' r n', (∀ b o, s.heap.get? b = some o → h'.get? b = some o) → h'.get? r = some (tupOf (vs ++ ws) n') → Q (.ref r) { s with heap := h' })
    (hsz : vs.length + ws.length ≤ sizeLine) : wpAny (model prog w) A (binaryOp .Add (.ref t) (.ref b)) Q E s := by
  have e : vs.toArray ++ ws.toArray = (vs ++ ws).toArray := by simp
  by_cases hv : vs = []
  · subst hv
    exact concat_meets ⟨_, ht, rfl⟩ ⟨_, hb, rfl⟩ noFill_tuple_add seq_tuple_add PySem.F.slot_tuple_add PySem.F.entry_tuple_add (PySem.F.args_tuple_add_2 _ _)
      (tuple_addW0 t b ([] : List Value).toArray ws.toArray n n2 none none #[] #[] (by simp)) ⟨ht, hb, h s.heap b n2 (fun _ _ e => e) (by simpa using hb)⟩
  · refine concat_meets ⟨_, ht, rfl⟩ ⟨_, hb, rfl⟩ noFill_tuple_add seq_tuple_add PySem.F.slot_tuple_add PySem.F.entry_tuple_add (PySem.F.args_tuple_add_2 _ _)
        (tuple_addW2 t b vs.toArray ws.toArray n n2 none none #[] #[] (by simpa using hv) (by simpa using hw) (by rw [List.size_toArray, List.size_toArray]; exact hsz)) ⟨ht, hb, ?_⟩
    rw [e]
    exact h _ _ 0 (fun b o e => Heap.get?_push_of_some _ e) (Heap.get?_push_size _ rfl)
end
end Mine

end

section
set_option maxRecDepth 100000
set_option maxHeartbeats 4000000
namespace Mine
noncomputable section
def storedL (R : List (Int × List Int)) (k : Int) (v : List Int) : List (Int × List Int) :=
  if R.any (fun kv => kv.1 = k) then R.map (fun kv => if kv.1 = k then (kv.1, v) else kv) else R ++ [(k, v)]
def radd (k : Int) (R : List (Int × List Int)) (v : Int) : List (Int × List Int) := storedL R v (look R v ++ [k])
def rev (P : List (Int × List Int)) : List (Int × List Int) := P.foldl (fun R r => r.2.foldl (radd r.1) R) []
def TupL (h : Heap) (v : Value) (xs : List Int) : Prop := ∃ t vs n, v = .ref t ∧ h.get? t = some (tupOf vs n) ∧ IntsAre vs xs
def RowT (h : Heap) (a : Int × Value) (b : Int × List Int) : Prop := a.1 = b.1 ∧ TupL h a.2 b.2
theorem TupL.keep {h h' : Heap} {v : Value} {xs : List Int} (x : TupL h v xs) (k : KeepND h h') : TupL h' v xs := by
  obtain ⟨l, vs, n, e, ho, hi⟩ := x
  exact ⟨l, vs, n, e, k _ _ (fun _ _ q => by cases q) ho, hi⟩
theorem RowT.keep {h h' : Heap} (k : KeepND h h') (a : Int × Value) (b : Int × List Int) (x : RowT h a b) : RowT h' a b := ⟨x.1, x.2.keep k⟩
theorem TupL.step {h h' : Heap} {L : Addr} {m : Str → Option Value} {v : Value} {xs : List Int} (x : TupL h v xs) (hns : h.Ns L m) (k : ∀ b o, (∀ vs, o.data ≠ .fields vs) → b ≠ L → h.get? b = some o → h'.get? b = some o) : TupL h' v xs := by
  obtain ⟨l, vs, n, e, ho, hi⟩ := x
  refine ⟨l, vs, n, e, k _ _ (fun _ q => by cases q) (fun q => ?_) ho, hi⟩
  obtain ⟨o, es, ep, ho', hd, _⟩ := hns
  rw [q, ho'] at ho
  cases ho
  cases hd
theorem RowT.find {h : Heap} {k : Int} : ∀ {kt : List (Int × Value)} {R : List (Int × List Int)}, All2 (RowT h) kt R → (valueAt kt k = none ∧ look R k = []) ∨ ∃ v, valueAt kt k = some v ∧ TupL h v (look R k)
  | _, _, .nil => .inl ⟨rfl, rfl⟩
  | (a, v) :: kp, (b, xs) :: P, .cons ⟨e, l⟩ r => by
    cases (e : a = b)
    by_cases hq : a = k
    · subst hq
      exact .inr ⟨v, by simp [valueAt], by simpa [look] using l⟩
    · rcases RowT.find (k := k) r with ⟨h1, h2⟩ | ⟨v', h1, h2⟩
      · exact .inl ⟨by simpa [valueAt, hq] using h1, by simpa [look, hq] using h2⟩
      · exact .inr ⟨v', by simpa [valueAt, hq] using h1, by simpa [look, hq] using h2⟩
theorem RowT.stored {h : Heap} {k : Int} {v : Value} {xs : List Int} {kt : List (Int × Value)} {R : List (Int × List Int)} (x : All2 (RowT h) kt R) (hv : TupL h v xs) : All2 (RowT h) (stored kt k v) (storedL R k xs) := by
  have ha : (kt.any fun kv => decide (kv.1 = k)) = (R.any fun kv => decide (kv.1 = k)) := by
    induction x with
    | nil => rfl
    | cons a b ih => simp only [List.any_cons, ih]; rw [a.1]
  have hm : All2 (RowT h) (kt.map fun kv => if kv.1 = k then (kv.1, v) else kv) (R.map fun kv => if kv.1 = k then (kv.1, xs) else kv) := by
    clear ha
    induction x with
    | nil => exact .nil
    | @cons a b as bs r rs ih =>
      simp only [List.map_cons]
      refine .cons ?_ ih
      by_cases hq : b.1 = k
      · rw [if_pos hq, if_pos (r.1.trans hq)]; exact ⟨r.1, hv⟩
      · rw [if_neg hq, if_neg (fun e => hq (r.1.symm.trans e))]; exact r
  unfold PySem.stored storedL
  rw [ha]
  by_cases hq : (R.any fun kv => decide (kv.1 = k)) = true
  · rw [if_pos hq, if_pos hq]; exact hm
  · rw [if_neg hq, if_neg hq]; exact x.append (.cons ⟨rfl, hv⟩ .nil)

/-- the world of reverse_dict -/
structure Rv (prog : Program) (w : World) (base h : Heap) (L r : Addr) (m : Str → Option Value) (kt : List (Int × Value)) : Prop where
  keep : ∀ b o, base.get? b = some o → h.get? b = some o
  above : base.objs.size ≤ L
  ns : h.Ns L m
  res : h.DictOf (intKind prog w) r kt
  lr : L < r
section
variable {prog : Program} {w : World} {base h h' : Heap} {L r : Addr} {m m' : Str → Option Value} {kt kt' : List (Int × Value)}
theorem Rv.fr (W : Rv prog w base h L r m kt) : Fr base L h m := ⟨W.ns, W.keep, W.above⟩
theorem Rv.keeps (W : Rv prog w base h L r m kt) (k : ∀ b o, h.get? b = some o → h'.get? b = some o) : Rv prog w base h' L r m kt :=
  ⟨fun b o e => k b o (W.keep b o e), W.above, W.ns.keeps k, W.res.keep k, W.lr⟩
theorem Rv.setR (W : Rv prog w base h L r m kt) (hn : h'.DictOf (intKind prog w) r kt') (hs : Heap.SameBut r h h') : Rv prog w base h' L r m kt' ∧ KeepND h h' := by
  obtain ⟨o, es, ep, ho, _, hd, _⟩ := W.res
  exact ⟨⟨fun b o e => (hs.2 b (Nat.ne_of_lt (Nat.lt_trans (Nat.lt_of_lt_of_le (Heap.lt_size e) W.above) W.lr))).trans (W.keep b o e), W.above, W.ns.sameBut hs (Nat.ne_of_lt W.lr), hn, W.lr⟩, KeepND.of_same ho hd hs⟩
theorem Rv.step (W : Rv prog w base h L r m kt) (hn : h'.Ns L m') (k0 : ∀ b o, base.get? b = some o → h.get? b = some o → h'.get? b = some o) (k : ∀ b o, (∀ vs, o.data ≠ .fields vs) → b ≠ L → h.get? b = some o → h'.get? b = some o) : Rv prog w base h' L r m' kt := by
  refine ⟨fun b o e => k0 b o e (W.keep b o e), W.above, hn, ?_, W.lr⟩
  obtain ⟨o, es, ep, ho, hx, hd, q⟩ := W.res
  exact ⟨o, es, ep, k _ o (fun vs q => by rw [hd] at q; cases q) (Nat.ne_of_gt W.lr) ho, hx, hd, q⟩
end
end
end Mine

end

section
set_option maxRecDepth 100000
set_option maxHeartbeats 4000000
namespace Mine
noncomputable section
section
variable {prog : Program} {w : World} {A : Around} {E : Value → Shared → Prop} {s : Shared} {env : Env} {x : Str} {body : List Stmt} {Q : Flow → Shared → Prop}
theorem iter_dictH (hh : A.handled = none) {d : Addr} {kvs : List (Int × Value)} {od : Obj} (lo : (d == sysModules) = false) (hd : s.heap.get? d = some od) (hD : od.IsDictOf (intKind prog w) kvs) (hdL : d ≠ env.locals) {m₀ : Str → Option Value} (hL : s.heap.Ns env.locals m₀) (J : Nat → Heap → Prop)
    (h0 : ∀ h', (∀ b o, s.heap.get? b = some o → h'.get? b = some o) → J 0 h')
    (hns : ∀ i h, J i h → ∃ m, h.Ns env.locals m) (hdk : ∀ i h, J i h → h.get? d = some od)
    (turn : ∀ i k y v h₁ h m tk, kvs[i]? = some (k, y) → (∃ t, v = .int k t) → J i h₁ → h₁.Ns env.locals m → h.Ns env.locals (fun y => if y = x then some v else m y) → (∀ b o, b ≠ s.heap.objs.size → b ≠ env.locals → h₁.get? b = some o → h.get? b = some o) →
      (∀ b o, (∀ vs, o.data ≠ .fields vs) → b ≠ env.locals → h₁.get? b = some o → h.get? b = some o) →
      wpAny (model prog w) A (execs body env) (fun f s' => f = .next ∧ ∃ h' tk', s' = { s with heap := h', toks := tk' } ∧ J (i + 1) h' ∧ KeepND h h') E { s with heap := h, toks := tk })
    (done : ∀ h h' tk, J kvs.length h → (∀ b o, b ≠ s.heap.objs.size → h.get? b = some o → h'.get? b = some o) → (∀ b o, (∀ vs, o.data ≠ .fields vs) → h.get? b = some o → h'.get? b = some o) → Q .next { s with heap := h', toks := tk }) :
    wpAny (model prog w) A (pyIter (.ref d)) (fun it s₂ => LoopH prog w A env x body Q E it s₂) E s := by
  obtain ⟨es, ep, hx, hdat, hk, hpr, hnd⟩ := id hD
  obtain ⟨oL, es', ep', hoL, hdL', _⟩ := id hL
  have hlI : d ≠ s.heap.objs.size := Nat.ne_of_lt (Heap.lt_size hd)
  have hat : s.heap.DictAt (intKind prog w) d kvs ep := ⟨od, es, hd, hx, hdat, hk, hpr, hnd⟩
  refine wpAny_pyIter_dict lo hat ?_
  refine ⟨s.heap.objs.size, _, _, _, _, _, J, rfl, Walks.dictKeys (prog := prog) (w := w) (knd := intKind prog w) hh s.heap.objs.size d hlI kvs ep, ?_, ⟨⟨_, Heap.get?_push_size _ rfl, rfl, rfl⟩, hat.at' fun o e => Heap.get?_push_of_some _ e⟩,
    h0 _ (fun b o e => Heap.get?_push_of_some _ e), hns, ?_, ?_⟩
  · intro hm
    rcases List.mem_cons.mp hm with e | hm
    · exact absurd (Heap.lt_size hoL) (e ▸ Nat.lt_irrefl _)
    · exact hdL (List.mem_singleton.mp hm).symm
  · intro i v h₁ h m tk hi hP hJ hst hm hst' hn hk
    obtain ⟨k, y, hky, hkv⟩ := hP
    have nI : ∀ b o, (∀ vs, o.data ≠ .fields vs) → h₁.get? b = some o → b ≠ s.heap.objs.size := fun b o hf ho q => by
      obtain ⟨oI, hoI, _, hdI⟩ := hst.1
      rw [q, hoI] at ho
      cases ho
      exact hf _ hdI
    refine wpAny_mono (turn i k y v h₁ h m tk hky (Value.isInt_shape hkv) hJ hm hn (fun b o hb => hk b o (by simpa using hb)) fun b o hf hb e => hk b o (by simpa using nI b o hf e) hb e) (fun f s' hf => ?_) fun _ _ e => e
    obtain ⟨rfl, h', tk', rfl, hJ', hk'⟩ := hf
    refine ⟨rfl, h', tk', rfl, hJ', fun b hb o e => ?_⟩
    rcases List.mem_cons.mp hb with rfl | hb
    · refine hk' _ o (fun es n q => ?_) e
      obtain ⟨oI, hoI, _, hdI⟩ := hst'.1
      rw [hoI] at e; cases e; rw [hdI] at q; cases q
    · rw [List.mem_singleton.mp hb] at e ⊢
      have e1 := hk d od (by simpa using hlI) hdL (hdk i h₁ hJ)
      rw [e1] at e
      rw [← Option.some.inj e]
      exact hdk _ _ hJ'
  · intro h h' tk hJ hst hk
    refine done h h' tk hJ (fun b o hb => hk b o (by simpa using hb)) fun b o hf e => hk b o ?_ e
    intro hb
    rw [List.mem_singleton.mp hb] at e
    obtain ⟨oI, hoI, _, hdI⟩ := hst.1
    rw [hoI] at e
    cases e
    exact hf _ hdI
end
/-- sizes -/
def Bd (c : Nat) (R : List (Int × List Int)) : Prop := R.length ≤ c ∧ ∀ r ∈ R, r.2.length ≤ c
theorem look_le {R : List (Int × List Int)} {c : Nat} {k : Int} (h : ∀ r ∈ R, r.2.length ≤ c) : (look R k).length ≤ c := by
  unfold look
  cases e : R.find? fun r => decide (r.1 = k) with
  | none => simp
  | some x => simpa using h x (List.mem_of_find?_eq_some e)
theorem Bd.add {c : Nat} {R : List (Int × List Int)} {k v : Int} (h : Bd c R) : Bd (c + 1) (radd k R v) := by
  have hl := look_le (k := v) h.2
  unfold radd storedL
  split
  · refine ⟨by rw [List.length_map]; have := h.1; omega, fun r hr => ?_⟩
    obtain ⟨q, hq, rfl⟩ := List.mem_map.mp hr
    by_cases e : q.1 = v
    · rw [if_pos e]; simp only [List.length_append, List.length_cons, List.length_nil]; omega
    · rw [if_neg e]; have := h.2 q hq; omega
  · refine ⟨by simp only [List.length_append, List.length_cons, List.length_nil]; have := h.1; omega, fun r hr => ?_⟩
    rcases List.mem_append.mp hr with hr | hr
    · have := h.2 r hr; omega
    · rw [List.mem_singleton.mp hr]; simp only [List.length_append, List.length_cons, List.length_nil]; omega
theorem Bd.mono {c c' : Nat} {R : List (Int × List Int)} (h : Bd c R) (hc : c ≤ c') : Bd c' R := ⟨Nat.le_trans h.1 hc, fun r hr => Nat.le_trans (h.2 r hr) hc⟩
end
end Mine

end

section
set_option maxRecDepth 100000
set_option maxHeartbeats 4000000
namespace Mine
noncomputable section
variable {w : World} {E : Value → Shared → Prop} {s : Shared} {mg mb : Str → Option Value} {mean : ExcName → Option Value} {Q : Value → Shared → Prop} {L fa : Addr} {cd : Value}

theorem All2.get {α β : Type} {R : α → β → Prop} : ∀ {as : List α} {bs : List β}, All2 R as bs → ∀ {i : Nat} {a : α}, as[i]? = some a → ∃ b, bs[i]? = some b ∧ R a b
  | _, _, .nil, i, a, h => by simp at h
  | _, _, .cons x y, 0, a, h => by
    simp at h
    subst h
    exact ⟨_, by simp, x⟩
  | _, _, .cons x y, i + 1, a, h => by
    simp at h
    obtain ⟨b, hb, hr⟩ := y.get h
    exact ⟨b, by simpa using hb, hr⟩
theorem nd_of_same {h h' : Heap} {L : Addr} {m : Str → Option Value} (hn : h.Ns L m) (hs : Heap.SameBut L h h') : KeepND h h' := by
  obtain ⟨o, es, ep, ho, hd, _⟩ := hn
  exact KeepND.of_same ho hd hs

theorem rev_call {pd : Addr} {kp : List (Int × Value)} {P : List (Int × List Int)} (X : (hd.heap_39 w.params).In s.heap)
    (T : Top hd.view_39 (looseW hd.view_39 [Str.ofString "ABC", Str.ofString "AbstractContextManager"]) mean mg mb s.heap)
    (hD : s.heap.DictOf (intKind PySem.Challenge.rw_sv0008_01.row.prog w) pd kp) (hP : All2 (RowP s.heap) kp P) (lo : (pd == sysModules) = false) (hPl : P.length ≤ 8) (hPx : ∀ r ∈ P, r.2.length ≤ 7)
    (hQ : ∀ h' tk r kt, (∀ b o, s.heap.get? b = some o → h'.get? b = some o) → s.heap.get? r = none → h'.DictOf (intKind PySem.Challenge.rw_sv0008_01.row.prog w) r kt → All2 (RowT h') kt (rev P) → (r == sysModules) = false → Q (.ref r) { s with heap := h', toks := tk }) :
    wpAny (model PySem.Challenge.rw_sv0008_01.row.prog w) (callerA.deeper (lawEnv L fa cd)) (call (.ref 132) [.ref pd]) Q E s := by
  revert X; k_fill; intro X
  refine wpAny_call ?_
  refine' code_all X T ?k6 ?k7 (Nat.le_of_ble_eq_true rfl) ?k9 ?kB ?_ ?c2 ?c3 ?c4 ?c5
  (case k6 => k_is)
  (case k7 => k_is)
  (case k9 => exact BindsTo.of_eq rfl)
  (case kB => exact locs rfl)
  (case c2 => exact rfl)
  (case c3 => exact rfl)
  (case c4 => exact rfl)
  (case c5 => decide)
  intro L1 h1 F1
  dsimp only
  obtain ⟨od, hod, hDo⟩ := Heap.dictOf_iff.mp hD
  -- result = {}
  refine wpAny_execs_cons ?_
  refine wpAny_Assign_Name (wpAny_Dict_empty ?_)
  have k2 : ∀ b o, h1.get? b = some o → (h1.push { cls := .type "dict", data := .dict #[] }).get? b = some o := fun b o e => Heap.get?_push_of_some _ e
  refine wpAny_storeName_local rfl (F1.push _).ns (fun h3 hn3 hs3 => ?_)
  dsimp only at hs3 ⊢
  have D2 := Heap.DictOf.new (knd := intKind PySem.Challenge.rw_sv0008_01.row.prog w) h1
  have hr1 : L1 < h1.objs.size := F1.ns.lt
  have hbr : s.heap.get? h1.objs.size = none := by
    cases q : s.heap.get? h1.objs.size with
    | none => rfl
    | some o => exact absurd (Heap.lt_size (F1.keep _ _ q)) (Nat.lt_irrefl _)
  have lor : (h1.objs.size == sysModules) = false := beq_eq_false_iff_ne.mpr (Nat.ne_of_gt (Nat.lt_trans (modules_low T.nolimit) (Nat.lt_of_le_of_lt F1.above F1.ns.lt)))
  have hs3' : Heap.SameBut L1 (h1.push { cls := .type "dict", data := .dict #[] }) h3 := hs3
  have W3 : Rv PySem.Challenge.rw_sv0008_01.row.prog w s.heap h3 L1 h1.objs.size _ [] := ⟨fun b o e => (hs3'.2 b (Nat.ne_of_lt (Nat.lt_of_lt_of_le (Heap.lt_size e) F1.above))).trans (k2 b o (F1.keep b o e)), F1.above, hn3, D2.sameBut hs3' (Nat.ne_of_gt hr1), hr1⟩
  clear hn3 hs3
  -- the outer loop
  refine wpAny_execs_cons ?_
  refine for_heap (x := Str.ofString "key") ?x1 ?x2 ?x3 ?x4 ?x5
  (case x1 => rfl)
  (case x2 => rfl)
  (case x4 => intro _; rfl)
  (case x5 => passes_own)
  refine wpAny_Name (wpAny_loadName_local rfl rfl W3.ns (v := .ref pd) rfl ?_)
  have kp0 : ∀ (b : Addr) (o : Obj), s.heap.get? b = some o → b ≠ L1 := fun b o e => Nat.ne_of_lt (Nat.lt_of_lt_of_le (Heap.lt_size e) F1.above)
  have hdL : pd ≠ L1 := kp0 _ _ hod
  generalize hr : h1.objs.size = r at *
  refine iter_dictH (hh := rfl) (d := pd) (kvs := kp) (od := od) lo (W3.keep _ _ hod) hDo hdL W3.ns
    (fun i h => ∃ m kt, Rv PySem.Challenge.rw_sv0008_01.row.prog w s.heap h L1 r m kt ∧ m "d" = some (.ref pd) ∧ m "result" = some (.ref r) ∧ All2 (RowT h) kt (rev (P.take i)) ∧ Bd (8 * i) (rev (P.take i))) ?j0 ?jn ?jd ?turn ?done
  case j0 =>
    intro h' hk
    exact ⟨_, [], W3.keeps hk, rfl, if_pos rfl, .nil, ⟨Nat.le_refl _, fun r hr => by cases hr⟩⟩
  case jn =>
    rintro i h ⟨m, _, W, _⟩
    exact ⟨m, W.ns⟩
  case jd =>
    rintro i h ⟨m, _, W, _⟩
    exact W.keep _ _ hod
  case turn =>
    rintro i k y v hh1 h m tk hky ⟨tv, rfl⟩ ⟨m', kt, W, hmd, hmr, hT, hB⟩ hns hn hk hnf
    have hsz3 : s.heap.objs.size ≤ h3.objs.size := Nat.le_of_lt (Nat.lt_of_le_of_lt F1.above W3.ns.lt)
    have W1 := W.step hn (fun b o e0 e => hk b o (Nat.ne_of_lt (Nat.lt_of_lt_of_le (Heap.lt_size e0) hsz3)) (kp0 b o e0) e) hnf
    have hT1 : All2 (RowT h) kt (rev (P.take i)) := hT.mono (fun a b (x : RowT hh1 a b) => ⟨x.1, TupL.step x.2 W.ns hnf⟩)
    have md1 : (fun z => if z = Str.ofString "key" then some (Value.int k tv) else m z) "d" = some (.ref pd) := by show (if _ then _ else _) = _; rw [if_neg (by decide)]; exact (hns.agree W.ns _).trans hmd
    have mr1 : (fun z => if z = Str.ofString "key" then some (Value.int k tv) else m z) "result" = some (.ref r) := by show (if _ then _ else _) = _; rw [if_neg (by decide)]; exact (hns.agree W.ns _).trans hmr
    obtain ⟨⟨k', xs⟩, hPi, hkk, hL⟩ := hP.get hky
    cases (hkk : k = k')
    obtain ⟨la, us, nn, rfl, hla, hia⟩ := hL
    have hxs : xs.length ≤ 7 := hPx _ (List.mem_of_getElem? hPi)
    have hi8 : i < 8 := Nat.lt_of_lt_of_le (List.getElem?_eq_some_iff.mp hPi).1 hPl
    have hrev : rev (P.take (i + 1)) = xs.foldl (radd k) (rev (P.take i)) := by
      unfold rev
      rw [List.take_add_one, hPi]
      simp [List.foldl_append]
    obtain ⟨_, _, _, _, _, _, hnd⟩ := id hDo
    refine wpAny_execs_cons ?_
    refine for_heap (x := Str.ofString "val") ?y1 ?y2 ?y3 ?y4 ?y5
    (case y1 => rfl)
    (case y2 => rfl)
    (case y4 => intro _; rfl)
    (case y5 => passes_own)
    refine Subscript_ ?_
    refine wpAny_Name (wpAny_loadName_local rfl rfl W1.ns md1 ?_)
    refine wpAny_Name (wpAny_loadName_local rfl rfl W1.ns (if_pos rfl) ?_)
    refine dict_item (knd := intKind PySem.Challenge.rw_sv0008_01.row.prog w) (Heap.dictOf_iff.mpr ⟨od, W1.keep _ _ hod, hDo⟩) (intKind_is _ _ _ _) (valueAt_of_get hnd hky) ?_
    refine iter_listH (hh := rfl) (vs := us) ⟨_, W1.keep _ _ hla, rfl, nn, rfl⟩ W1.ns
      (fun j h' => ∃ m kt, Rv PySem.Challenge.rw_sv0008_01.row.prog w s.heap h' L1 r m kt ∧ m "d" = some (.ref pd) ∧ m "result" = some (.ref r) ∧ m "key" = some (.int k tv) ∧ All2 (RowT h') kt ((xs.take j).foldl (radd k) (rev (P.take i))) ∧ Bd (8 * i + j) ((xs.take j).foldl (radd k) (rev (P.take i))) ∧ KeepND h h') ?i0 ?in1 ?it ?id1
    case i0 =>
      intro h' hk'
      exact ⟨_, kt, W1.keeps hk', md1, mr1, if_pos rfl, hT1.mono (RowT.keep (KeepND.of_keeps hk')), hB, KeepND.of_keeps hk'⟩
    case in1 =>
      rintro i h ⟨m, _, W, _⟩
      exact ⟨m, W.ns⟩
    case id1 =>
      rintro g g' tk' ⟨m2, kt2, W2, md2, mr2, mk2, hT2, hB2, K2⟩ hk2 hnf2
      have hns2 : g'.Ns L1 m2 := by
        obtain ⟨o, es, ep, ho, hd, q⟩ := W2.ns
        exact ⟨o, es, ep, hnf2 _ _ (fun vs q => by rw [hd] at q; cases q) ho, hd, q⟩
      have hszh : ∀ b o, h.get? b = some o → b ≠ h.objs.size := fun b o e => Nat.ne_of_lt (Heap.lt_size e)
      have W2' := W2.step hns2 (fun b o e0 e => hk2 b o (hszh b o (W1.keep b o e0)) e) (fun b o hf _ e => hnf2 b o hf e)
      have el : us.length = xs.length := hia.length
      rw [el, List.take_length] at hT2 hB2
      dsimp only
      refine wpAny_execs_nil ⟨rfl, g', _, rfl, ⟨m2, kt2, W2', md2, mr2, ?_, ?_⟩, fun b o hn' e => hk2 b o (hszh b o e) (K2 b o hn' e)⟩
      · rw [hrev]
        exact hT2.mono (fun a b (x : RowT g a b) => ⟨x.1, TupL.step x.2 W2.ns (fun b o hf _ e => hnf2 b o hf e)⟩)
      · rw [hrev]
        exact hB2.mono (by omega)
    case it =>
      rintro j v g1 g m2 tk2 hv ⟨m3, kt2, W2, md2, mr2, mk2, hT2, hB2, K2⟩ hns2 hn2 hk2 hnf2
      have hszh : ∀ b o, h.get? b = some o → b ≠ h.objs.size := fun b o e => Nat.ne_of_lt (Heap.lt_size e)
      have K2g : KeepND h g := fun b o hn' e => by
        refine hk2 b o (hszh b o e) (fun q => ?_) (K2 b o hn' e)
        obtain ⟨oL, es, ep, hoL, hdL', _⟩ := W1.ns
        have q' : b = L1 := q
        rw [q', hoL] at e
        cases e
        exact hn' _ _ hdL'
      have hj : j < us.length := (List.getElem?_eq_some_iff.mp hv).1
      have hj' : j < xs.length := by rw [← hia.length]; exact hj
      obtain ⟨tq, hvq⟩ := hia.get j xs[j] (by simp [hj'])
      have hvv : v = .int xs[j] tq := by rw [hvq] at hv; exact (Option.some.inj hv).symm
      subst hvv
      have hfold : (xs.take (j + 1)).foldl (radd k) (rev (P.take i)) = radd k ((xs.take j).foldl (radd k) (rev (P.take i))) xs[j] := by
        rw [List.take_add_one, List.getElem?_eq_getElem hj']
        simp only [Option.toList_some, List.foldl_append, List.foldl_cons, List.foldl_nil]
      rw [hfold]
      generalize (xs.take j).foldl (radd k) (rev (P.take i)) = R at hT2 hB2 ⊢
      generalize xs[j] = vv at hn2 ⊢
      have V := W2.step hn2 (fun b o e0 e => hk2 b o (hszh b o (W1.keep b o e0)) (kp0 b o e0) e) hnf2
      have hTg : All2 (RowT g) kt2 R := hT2.mono (fun a b (x : RowT g1 a b) => ⟨x.1, TupL.step x.2 W2.ns hnf2⟩)
      have mdv : (fun z => if z = Str.ofString "val" then some (Value.int vv tq) else m2 z) "d" = some (.ref pd) := by show (if _ then _ else _) = _; rw [if_neg (by decide)]; exact (hns2.agree W2.ns _).trans md2
      have mrv : (fun z => if z = Str.ofString "val" then some (Value.int vv tq) else m2 z) "result" = some (.ref r) := by show (if _ then _ else _) = _; rw [if_neg (by decide)]; exact (hns2.agree W2.ns _).trans mr2
      have mkv : (fun z => if z = Str.ofString "val" then some (Value.int vv tq) else m2 z) "key" = some (.int k tv) := by show (if _ then _ else _) = _; rw [if_neg (by decide)]; exact (hns2.agree W2.ns _).trans mk2
      have mvv : (fun z => if z = Str.ofString "val" then some (Value.int vv tq) else m2 z) "val" = some (.int vv tq) := if_pos rfl
      clear hn2 hns2 hk2 hnf2 hv hvq
      generalize (fun z => if z = Str.ofString "val" then some (Value.int vv tq) else m2 z) = mv at V mdv mrv mkv mvv
      refine wpAny_execs_cons ?_
      refine wpAny_Assign_Subscript ?_
      refine wpAny_BinOp ?_
      refine wpAny_Call_method2_late ?z1 ?z2 ?z3 ?z4
      (case z1 => rfl)
      (case z2 => rfl)
      (case z3 => rfl)
      refine wpAny_Name (wpAny_loadName_local rfl rfl V.ns mrv ?_)
      refine ⟨"dict", "dict.get", PySem.F.plainAttrs_dict, PySem.F.slot_dict_get, PySem.F.type_dict_get, V.res.typeIs, V.res.mapOf.noDict, ?_⟩
      refine callWith_builtin_kwB rfl rfl (evalArgs_plain (spliced_cons ?_))
      refine wpAny_Name (wpAny_loadName_local rfl rfl V.ns mvv ?_)
      refine spliced_cons ?_
      refine Call_ ?_
      refine name_B (v := .type "tuple") V.fr X (topRead_of T) ?n1 ?n2 ?n3 ?n4
      (case n1 => k_is)
      (case n2 => boot_by_name)
      (case n3 => decide)
      refine callWith_type0 (call_tuple_0 ?_)
      refine spliced_nil ?_
      dsimp only [List.cons_append, List.nil_append]
      have k5 : ∀ b o, g.get? b = some o → (g.push { cls := .type "tuple", data := .seq #[] }).get? b = some o := fun b o e => Heap.get?_push_of_some _ e
      have V5 := V.keeps k5
      have hT5 := hTg.mono (RowT.keep (KeepND.of_keeps k5))
      have hget : ∃ va, (valueAt kt2 vv).getD (.ref g.objs.size) = va ∧ TupL (g.push { cls := .type "tuple", data := .seq #[] }) va (look R vv) := by
        rcases RowT.find (k := vv) hT5 with ⟨a1, a2⟩ | ⟨va, a1, a2⟩
        · rw [a1, a2]
          exact ⟨_, rfl, g.objs.size, [], 0, rfl, Heap.get?_push_size _ rfl, .nil⟩
        · rw [a1]
          exact ⟨va, rfl, a2⟩
      obtain ⟨va, hva, t6, us6, n6, rfl, ht6, hi6⟩ := hget
      refine call_meetsIn PySem.F.slot_dict_get V5.res.typeIs PySem.F.entry_dict_get (PySem.F.args_dict_get_3 _ _ _) (meets_dict_get_default (intKind PySem.Challenge.rw_sv0008_01.row.prog w) r (intKind_is _ _ _ _) lor _) ⟨_, V5.res.mapOf, ?_⟩
      rw [hva]
      show wpAny _ _ (eval _ _) _ _ _
      refine wpAny_Tuple (args_cons ?_)
      refine wpAny_Name (wpAny_loadName_local rfl rfl V5.ns mkv ?_)
      refine args_nil ⟨(by rw [sizeLine_eq]; simp), ?_⟩
      dsimp only
      have k7 : ∀ {ob : Obj} b o, (g.push { cls := .type "tuple", data := .seq #[] }).get? b = some o → ((g.push { cls := .type "tuple", data := .seq #[] }).push ob).get? b = some o := fun b o e => Heap.get?_push_of_some _ e
      have hl6 : us6.length ≤ 8 * i + j := by rw [hi6.length]; exact look_le hB2.2
      refine tup_add (vs := us6) (n := n6) (ws := [Value.int k tv]) (n2 := 0) (k7 _ _ ht6) (Heap.get?_push_size _ rfl) (by simp) (fun h8 r8 n8 k8 hr8 => ?_) ?_
      rotate_left
      · rw [sizeLine_eq]; simp only [List.length_cons, List.length_nil]; omega
      dsimp only at k8 ⊢
      have V8 := (V5.keeps k7).keeps k8
      have k58 : ∀ b o, g.get? b = some o → h8.get? b = some o := fun b o e => k8 b o (k7 b o (k5 b o e))
      refine wpAny_Name (wpAny_loadName_local rfl rfl V8.ns mrv ?_)
      refine wpAny_Name (wpAny_loadName_local rfl rfl V8.ns mvv ?_)
      have hlk : kt2.length = R.length := hT2.length
      have hB1 := hB2.1
      refine wpAny_setItem_pairs (knd := intKind PySem.Challenge.rw_sv0008_01.row.prog w) (intKind_is _ _ _ _) V8.res (hsz := ?sz) fun h9 hd9 hs9 => ?_
      case sz => rw [hlk, sizeLine_eq]; omega
      dsimp only at hd9 hs9
      have X9 := V8.setR (kt' := PySem.stored kt2 vv (Value.ref r8)) (h' := h9) hd9 hs9
      obtain ⟨V9, K9⟩ := X9
      have K89 : KeepND g h9 := (KeepND.of_keeps k58).trans K9
      have hTup : TupL h8 (.ref r8) (look R vv ++ [k]) := ⟨r8, us6 ++ [Value.int k tv], n8, rfl, hr8, hi6.append (.cons k tv .nil)⟩
      dsimp only
      refine wpAny_execs_nil ⟨rfl, h9, _, rfl, ⟨mv, _, V9, mdv, mrv, mkv, ?_, ?_, K2g.trans K89⟩, K89⟩
      · exact (RowT.stored (hTg.mono (RowT.keep (KeepND.of_keeps k58))) hTup).mono (RowT.keep K9)
      · exact (Bd.add hB2).mono (by omega)
  case done =>
    rintro h h' tk ⟨m, kt, W, hmd, hmr, hT, hB⟩ hk hnf
    have hsz3 : s.heap.objs.size ≤ h3.objs.size := Nat.le_of_lt (Nat.lt_of_le_of_lt F1.above W3.ns.lt)
    have hns' : h'.Ns L1 m := by
      obtain ⟨o, es, ep, ho, hd, q⟩ := W.ns
      exact ⟨o, es, ep, hnf _ _ (fun vs q => by rw [hd] at q; cases q) ho, hd, q⟩
    have W' := W.step hns' (fun b o e0 e => hk b o (Nat.ne_of_lt (Nat.lt_of_lt_of_le (Heap.lt_size e0) hsz3)) e) (fun b o hf _ e => hnf b o hf e)
    have el : kp.length = P.length := hP.length
    rw [el, List.take_length] at hT
    dsimp only
    refine wpAny_execs_cons (wpAny_Return_some ?_)
    refine wpAny_Name (wpAny_loadName_local rfl rfl W'.ns hmr ?_)
    dsimp only
    exact hQ _ _ r kt W'.keep hbr W'.res (hT.mono (fun a b (x : RowT h a b) => ⟨x.1, TupL.step x.2 W.ns (fun b o hf _ e => hnf b o hf e)⟩)) lor
end
end Mine

end

section
set_option maxRecDepth 100000
set_option maxHeartbeats 4000000
namespace Mine
section
variable {prog : Program} {w : World} {A : Around} {E : Value → Shared → Prop} {s : Shared}

abbrev lst (ys : List Value) : Obj := { cls := .type "list", data := .seq ys.toArray ys.length }
def cEnv (scope : Scope) (L : Addr) (cells : List (Str × Addr)) (env : Env) : Env :=
  { scope := scope, locals := L, globals := env.globals, cells := cells, qual := env.qual, func := none, code := env.code, frame := env.frame, builtins := env.builtins }
theorem env_comp {scope : Scope} {cl : List (Str × Addr)} {env : Env} {Q : Env → Shared → Prop}
    (h : Q (cEnv scope s.heap.objs.size (cellsFrom (s.heap.objs.size + 1) scope.names cl) env) { s with heap := pushCells (s.heap.push { cls := .type "dict", data := .dict #[] }) scope.names }) :
    wpAny (model prog w) A (newFunctionEnv scope env.globals cl [] env.qual none .none (some env)) Q E s := by
  simp only [newFunctionEnv, Option.isSome_some, if_true]
  refine wpAny_bind (wpAny_alloc ?_)
  refine wpAny_bind (wpAny_layCells _ (fun name kind cells => by cases hkc : kind == NameKind.cell <;> simp [hkc]) _ _ _ _ ?_)
  rw [show ({ s with heap := s.heap.push { cls := .type "dict", data := .dict #[] } } : Shared).heap.objs.size = s.heap.objs.size + 1 from Heap.size_push ..]
  exact wpAny_bind (wpAny_pure (wpAny_pure h))

/-- the ledger of data, off the block's own objects -/
def Led (G : Addr × Obj → Prop) (h : Heap) (av : List Addr) (news : List (Addr × Obj)) : Prop := ∀ p ∈ news, h.get? p.1 = some p.2 ∧ p.1 ∉ av ∧ G p

theorem comp_core {R : Result → Shared → Prop} {elt iter : Expr} {x : Str} {px : Pos} {ifs : List Expr} {scope : Scope} {pos : Pos} {cenv : Env} {I D C Tc : Addr} {fp : List Addr} {n : Nat} {P : Nat → Value → Prop} {St : Nat → Heap → Prop}
    (W : Walks prog w A I fp [I] n P St) (G : Addr × Obj → Prop) (hsz : n ≤ sizeLine) (hDf : D ∉ fp) (hTf : Tc ∉ fp) (hID : I ≠ D) (hIC : I ≠ C) (hIT : I ≠ Tc) (hDC : D ≠ C) (hDT : D ≠ Tc)
    (hst : St 0 s.heap) (hD : s.heap.get? D = some (lst [])) (Old : Heap) (hold : ∀ b o, Old.get? b = some o → b ∉ [I, D, C, Tc] ∧ s.heap.get? b = some o)
    (HT : Heap → Prop) (Tg : Value → Heap → Prop) (h0 : HT s.heap)
    (asg : ∀ v h tk (Q : Unit → Shared → Prop) (E : Value → Shared → Prop), HT h → (∀ h' tk', HT h' → Tg v h' → Heap.SameBut Tc h h' → Q () { s with heap := h', toks := tk' }) → wpAny (model prog w) A (assign (.Name x px) cenv v) Q E { s with heap := h, toks := tk })
    (hIo : ∀ i h, St i h → ∃ o, h.get? I = some o) (hTo : ∀ h, HT h → (∃ o, h.get? C = some o) ∧ ∃ o, h.get? Tc = some o)
    (HTk : ∀ h h', (∀ o, h.get? C = some o → h'.get? C = some o) → (∀ o, h.get? Tc = some o → h'.get? Tc = some o) → HT h → HT h')
    (ds : Nat → Option Dat)
    (turn : ∀ i v h tk (E' : Value → Shared → Prop), i < n → P i v → Tg v h → HT h → (∀ b o, Old.get? b = some o → h.get? b = some o) →
      wpAny (model prog w) A (forIn ifs true fun c r => if r = true then do let ok ← isTrue c cenv (eval c cenv); pure (ForInStep.yield ok) else pure (ForInStep.yield r))
        (fun ok s' => ∃ h' tk', s' = { s with heap := h', toks := tk' } ∧ (∀ b o, h.get? b = some o → h'.get? b = some o) ∧
          if ok = true then wpAny (model prog w) A (eval elt cenv) (fun y s'' => ∃ h'' tk'' d nw, s'' = { s with heap := h'', toks := tk'' } ∧ (∀ b o, h'.get? b = some o → h''.get? b = some o) ∧ ds i = some d ∧ DatIn nw y d ∧ ∀ p ∈ nw, h''.get? p.1 = some p.2 ∧ (h.get? p.1 = none ∨ ∃ o, Old.get? p.1 = some o) ∧ G p) E' s'
          else ds i = none) E' { s with heap := h, toks := tk })
    (fin : ∀ h tk ys news, (∀ b o, Old.get? b = some o → h.get? b = some o) → h.get? D = some (lst ys) → DatAll news ys ((List.range n).filterMap ds) → Led G h [I, D, C, Tc] news → HT h → R (.ok .next) { s with heap := h, toks := tk }) :
    codeAny (model prog w) A (.compLoop (.ListComp elt [⟨.Name x px, iter, ifs, 0⟩] scope pos) 0 (.ref I) (.ref D) cenv) R s := by
  have hIw : ∀ b, b ≠ I → b ∉ [I] := fun b hb hm => hb (List.mem_singleton.mp hm)
  have av4 : ∀ b, b ∉ [I, D, C, Tc] → b ≠ I ∧ b ≠ D ∧ b ≠ C ∧ b ≠ Tc := fun b hb => by simpa using hb
  refine codeAny_compLoop_tests
    (fun k s' => ∃ h' tk i ys news, s' = { s with heap := h', toks := tk } ∧ i ≤ n ∧ k = n + 1 - i ∧ ys.length ≤ i ∧ St i h' ∧ HT h' ∧ (∀ b o, Old.get? b = some o → h'.get? b = some o) ∧ h'.get? D = some (lst ys) ∧
      DatAll news ys ((List.range i).filterMap ds) ∧ Led G h' [I, D, C, Tc] news) ?_ (n + 1)
    ⟨s.heap, s.toks, 0, [], [], rfl, Nat.zero_le _, rfl, Nat.le_refl _, hst, h0, fun b o e => (hold b o e).2, hD, .nil, fun p hp => by cases hp⟩
  rintro k s' ⟨h', tk, i, ys, news, rfl, hi, rfl, hyl, hst', hT', hO', hD', hA', hL'⟩
  by_cases hlt : i < n
  · refine W.item i _ _ _ hlt hst' fun v h₂ tk₂ hPv hst₂ hk₂ => ?_
    have hT₂ : HT h₂ := HTk _ _ (fun o e => hk₂ _ o (hIw _ (Ne.symm hIC)) e) (fun o e => hk₂ _ o (hIw _ (Ne.symm hIT)) e) hT'
    refine asg v h₂ tk₂ _ _ hT₂ fun h₃ tk₃ hT₃ hTg hs₃ => ?_
    have hst₃ : St (i + 1) h₃ := W.frame _ _ _ hst₂ fun b hb o e => (hs₃.2 b fun q => hTf (q ▸ hb)).trans e
    have k3 : ∀ b o, b ≠ I → b ≠ Tc → h'.get? b = some o → h₃.get? b = some o := fun b o h1 h2 e => (hs₃.2 b h2).trans (hk₂ b o (hIw b h1) e)
    have hO₃ : ∀ b o, Old.get? b = some o → h₃.get? b = some o := fun b o e => by
      obtain ⟨q1, _, _, q4⟩ := av4 b (hold b o e).1
      exact k3 b o q1 q4 (hO' b o e)
    have hD₃ := k3 _ _ (Ne.symm hID) hDT hD'
    have hL₃ : Led G h₃ [I, D, C, Tc] news := fun p hp => by
      obtain ⟨q1, _, _, q4⟩ := av4 p.1 (hL' p hp).2.1
      exact ⟨k3 _ _ q1 q4 (hL' p hp).1, (hL' p hp).2⟩
    have hav3 : ∀ b, h₃.get? b = none → b ∉ [I, D, C, Tc] := fun b e hm => by
      obtain ⟨oI, eI⟩ := hIo _ _ hst₃
      obtain ⟨⟨oC, eC⟩, oT, eT⟩ := hTo _ hT₃
      simp only [List.mem_cons, List.not_mem_nil, or_false] at hm
      rcases hm with q | q | q | q
      · rw [q, eI] at e; cases e
      · rw [q, hD₃] at e; cases e
      · rw [q, eC] at e; cases e
      · rw [q, eT] at e; cases e
    refine wpAny_mono (turn i v h₃ tk₃ _ hlt hPv hTg hT₃ hO₃) (fun ok s₄ h₄ => ?_) fun _ _ e => e
    obtain ⟨h4, tk4, rfl, k4, hcase⟩ := h₄
    have hrange : (List.range (i + 1)).filterMap ds = (List.range i).filterMap ds ++ (ds i).toList := by
      rw [List.range_succ, List.filterMap_append]
      cases e : ds i <;> simp [e]
    cases ok with
    | false =>
      simp only [Bool.false_eq_true, if_false] at hcase ⊢
      refine ⟨n + 1 - (i + 1), by omega, h4, tk4, i + 1, ys, news, rfl, hlt, rfl, by omega, W.frame _ _ _ hst₃ fun b _ o e => k4 b o e, HTk _ _ (fun o e => k4 _ o e) (fun o e => k4 _ o e) hT₃, fun b o e => k4 b o (hO₃ b o e), k4 _ _ hD₃, ?_, fun p hp => ⟨k4 _ _ (hL₃ p hp).1, (hL₃ p hp).2⟩⟩
      rw [hrange, hcase]; simpa using hA'
    | true =>
      simp only [if_true] at hcase ⊢
      refine wpAny_mono hcase (fun y s₅ h₅ => ?_) fun _ _ e => e
      obtain ⟨h5, tk5, d, nw, rfl, k5, hd, hin, hnw⟩ := h₅
      refine append_at (hsz := by show ys.toArray.size ≤ sizeLine; rw [List.size_toArray]; omega) (k5 _ _ (k4 _ _ hD₃)) fun h6 hs6 hD6 => ?_
      dsimp only at hs6
      have hb6 : ∀ b o, b ≠ D → h5.get? b = some o → h6.get? b = some o := fun b o hb e => (hs6.2 b hb).trans e
      refine ⟨n + 1 - (i + 1), by omega, h6, tk5, i + 1, ys ++ [y], nw ++ news, rfl, hlt, rfl, by simp only [List.length_append, List.length_cons, List.length_nil]; omega,
        W.frame _ _ _ hst₃ fun b hb o e => hb6 b o (fun q => hDf (q ▸ hb)) (k5 b o (k4 b o e)), HTk _ _ (fun o e => hb6 _ o (Ne.symm hDC) (k5 _ o (k4 _ o e))) (fun o e => hb6 _ o (Ne.symm hDT) (k5 _ o (k4 _ o e))) hT₃, fun b o e => ?_, ?_, ?_, ?_⟩
      · obtain ⟨_, q2, _, _⟩ := av4 b (hold b o e).1
        exact hb6 b o q2 (k5 b o (k4 b o (hO₃ b o e)))
      · rw [hD6]
        congr 1
        rw [List.push_toArray]
        simp [lst]
      · rw [hrange, hd]
        exact (hA'.mono fun p hp => List.mem_append_right _ hp).append (.one (hin.mono fun p hp => List.mem_append_left _ hp))
      · intro p hp
        rcases List.mem_append.mp hp with hp | hp
        · obtain ⟨e1, e2, e3⟩ := hnw p hp
          have hav : p.1 ∉ [I, D, C, Tc] := by
            rcases e2 with e2 | ⟨o, e2⟩
            · exact hav3 _ e2
            · exact (hold _ _ e2).1
          exact ⟨hb6 _ _ (av4 _ hav).2.1 e1, hav, e3⟩
        · obtain ⟨e1, e2⟩ := hL₃ p hp
          exact ⟨hb6 _ _ (av4 _ e2.1).2.1 (k5 _ _ (k4 _ _ e1)), e2⟩
  · obtain rfl : i = n := Nat.le_antisymm hi (Nat.not_lt.mp hlt)
    refine W.done _ _ _ hst' fun h₂ tk₂ hk₂ => ?_
    refine fin h₂ tk₂ ys news (fun b o e => hk₂ b o (hIw b (av4 b (hold b o e).1).1) (hO' b o e)) (hk₂ _ _ (hIw _ (Ne.symm hID)) hD') hA' (fun p hp => ⟨hk₂ _ _ (hIw _ (av4 _ (hL' p hp).2.1).1) (hL' p hp).1, (hL' p hp).2⟩) (HTk _ _ (fun o e => hk₂ _ o (hIw _ (Ne.symm hIC)) e) (fun o e => hk₂ _ o (hIw _ (Ne.symm hIT)) e) hT')
end
end Mine

end

section
set_option maxRecDepth 100000
set_option maxHeartbeats 4000000
namespace Mine
section
variable {prog : Program} {w : World} {A : Around} {E : Value → Shared → Prop} {s : Shared}
theorem no_cells : ∀ {names : List (Str × NameKind)} (_ : ∀ y ∈ names, y.2 ≠ .cell) (h : Heap) (n : Nat) (cl : List (Str × Addr)), pushCells h names = h ∧ cellsFrom n names cl = cl
  | [], _, _, _, _ => ⟨rfl, rfl⟩
  | (y, k) :: r, hc, h, n, cl => by
    have hk : (k == NameKind.cell) = false := by simpa using hc (y, k) (.head _)
    unfold pushCells cellsFrom
    simp only [hk, Bool.false_eq_true, if_false]
    exact no_cells (fun z hz => hc z (.tail _ hz)) h n cl

/-- a thing of data, made behind B -/
def Gd (B : Heap) (p : Addr × Obj) : Prop := (∀ es n, p.2.data ≠ .dict es n) ∧ B.get? p.1 = none
/-- one turn of a block, with the loop's name in the block's own frame -/
def TurnL (prog : Program) (w : World) (A : Around) (env : Env) (elt : Expr) (ifs : List Expr) (x : Str) (scope : Scope) (cl : List (Str × Addr)) (s₂ : Shared) (I : Addr) (n : Nat) (P : Nat → Value → Prop) (B : Heap) (ds : Nat → Option Dat) : Prop :=
  ∀ C i v h tk m (E' : Value → Shared → Prop), i < n → P i v → h.Ns C m → m x = some v → (∀ b o, b ≠ I → s₂.heap.get? b = some o → h.get? b = some o) →
    wpAny (model prog w) A (forIn ifs true fun c r => if r = true then do let ok ← isTrue c (cEnv (relabel scope env) C cl env) (eval c (cEnv (relabel scope env) C cl env)); pure (ForInStep.yield ok) else pure (ForInStep.yield r))
      (fun ok s' => ∃ h' tk', s' = { s₂ with heap := h', toks := tk' } ∧ (∀ b o, h.get? b = some o → h'.get? b = some o) ∧
        if ok = true then wpAny (model prog w) A (eval elt (cEnv (relabel scope env) C cl env)) (fun y s'' => ∃ h'' tk'' d nw, s'' = { s₂ with heap := h'', toks := tk'' } ∧ (∀ b o, h'.get? b = some o → h''.get? b = some o) ∧ ds i = some d ∧ DatIn nw y d ∧ ∀ p ∈ nw, h''.get? p.1 = some p.2 ∧ (h.get? p.1 = none ∨ ∃ o, p.1 ≠ I ∧ s₂.heap.get? p.1 = some o) ∧ Gd B p) E' s'
        else ds i = none) E' { s₂ with heap := h, toks := tk }

theorem comp_local {elt iter : Expr} {x : Str} {px : Pos} {ifs : List Expr} {scope : Scope} {cl : List (Str × Addr)} {pos : Pos} {env : Env} {s₂ : Shared} {I : Addr} {fp : List Addr} {n : Nat} {P : Nat → Value → Prop} {St : Nat → Heap → Prop} {Q : Value → Shared → Prop}
    (W : Walks prog w A I fp [I] n P St) (hsz : n ≤ sizeLine) (hIo : ∀ i h, St i h → ∃ o, h.get? I = some o) (hcell : ∀ y ∈ scope.names, y.2 ≠ .cell) (hkind : scope.kind = .function) (hx : scope.names.lookup x = some .local)
    (hst : St 0 s₂.heap) (hfp : ∀ b ∈ fp, b < s₂.heap.objs.size) (B : Heap) (ds : Nat → Option Dat) (turn : TurnL prog w A env elt ifs x scope cl s₂ I n P B ds)
    (fin : ∀ D h tk ys news, (∀ b o, b ≠ I → s₂.heap.get? b = some o → h.get? b = some o) → h.get? D = some (lst ys) → DatAll news ys ((List.range n).filterMap ds) → (∀ p ∈ news, h.get? p.1 = some p.2 ∧ p.1 ≠ D ∧ Gd B p) → s₂.heap.get? D = none → Q (.ref D) { s₂ with heap := h, toks := tk }) :
    wpAny (model prog w) A (newList []) (fun acc s₃ => wpAny (model prog w) A (newFunctionEnv scope env.globals cl [] env.qual none .none (some env)) (fun cenv s₄ =>
      codeAny (model prog w) A (.compStart (.ListComp elt [⟨.Name x px, iter, ifs, 0⟩] scope pos) 0 (.ref I) acc { cenv with scope := relabel scope env }) (compPost (model prog w) A E none Q acc cenv.locals) s₄) E s₃) E s₂ := by
  refine wpAny_newObj_type (env_comp ?_)
  dsimp only
  rw [(no_cells hcell _ 0 cl).1, (no_cells hcell (s₂.heap.push { cls := .type "list", data := .seq ([] : List Value).toArray }) _ cl).2]
  generalize hH : s₂.heap.push { cls := .type "list", dict := none, data := .seq ([] : List Value).toArray } = H2
  have hC : H2.objs.size = s₂.heap.objs.size + 1 := by rw [← hH, Heap.size_push]
  generalize hH3 : H2.push { cls := .type "dict", data := .dict #[] } = H3
  have up : ∀ b o, s₂.heap.get? b = some o → H3.get? b = some o := fun b o e => by rw [← hH3, ← hH]; exact Heap.get?_push_of_some _ (Heap.get?_push_of_some _ e)
  have hIlt : I < s₂.heap.objs.size := hfp I (W.sub I (.head _))
  have hst3 : St 0 H3 := W.frame _ _ _ hst fun b _ o e => up b o e
  have hD3 : H3.get? s₂.heap.objs.size = some (lst []) := by
    rw [← hH3]; exact Heap.get?_push_of_some _ (hH ▸ Heap.get?_push_size _ rfl)
  have hns3 : H3.Ns H2.objs.size fun _ => none := by rw [← hH3]; exact Heap.Ns.new H2 _
  have hIC : I ≠ H2.objs.size := by rw [hC]; exact Nat.ne_of_lt (Nat.lt_succ_of_lt hIlt)
  have hDC : s₂.heap.objs.size ≠ H2.objs.size := by rw [hC]; exact Nat.ne_of_lt (Nat.lt_succ_self _)
  have key : ∀ tk0, codeAny (model prog w) A (.compLoop (.ListComp elt [⟨.Name x px, iter, ifs, 0⟩] scope pos) 0 (.ref I) (.ref s₂.heap.objs.size) (cEnv (relabel scope env) H2.objs.size cl env)) (compPost (model prog w) A E none Q (.ref s₂.heap.objs.size) H2.objs.size) { s₂ with heap := H3, toks := tk0 } := by
    intro tk0
    refine comp_core (s := { s₂ with heap := H3, toks := tk0 }) (C := H2.objs.size) (Tc := H2.objs.size) W (Gd B) hsz ?_ ?_ (Nat.ne_of_lt hIlt) hIC hIC hDC hDC hst3 hD3 (hideAll s₂.heap [I]) ?_ (fun h => ∃ m, h.Ns H2.objs.size m) (fun v h => ∃ m, h.Ns H2.objs.size m ∧ m x = some v) ⟨_, hns3⟩ ?_ hIo ?_ ?_ ds ?_ ?_
    · intro hm; exact Nat.lt_irrefl _ (hfp _ hm)
    · intro hm; have := hfp _ hm; rw [hC] at this; exact Nat.lt_irrefl _ (Nat.lt_of_succ_lt this)
    · intro b o e
      have e2 := of_hideAll _ e
      have hb : b ≠ I := fun q => by rw [q, hideAll_none [I] (.head _)] at e; cases e
      have hlt := Heap.lt_size e2
      refine ⟨?_, up b o e2⟩
      simp only [List.mem_cons, List.not_mem_nil, or_false, not_or]
      have hc : b ≠ H2.objs.size := by rw [hC]; exact Nat.ne_of_lt (Nat.lt_succ_of_lt hlt)
      exact ⟨hb, Nat.ne_of_lt hlt, hc, hc⟩
    · rintro v h tk Q' E' ⟨m, hm⟩ hQ'
      refine wpAny_assign_Name (wpAny_storeName_local (lookup_relabel_local hx) hm (fun h' hn' hs' => ?_) (by simp [cEnv, relabel, hkind]))
      exact hQ' h' _ ⟨_, hn'⟩ ⟨_, hn', if_pos rfl⟩ hs'
    · rintro h ⟨m, o, es, ep, ho, _⟩
      exact ⟨⟨o, ho⟩, o, ho⟩
    · rintro h h' k1 _ ⟨m, hm⟩
      exact ⟨m, hm.at' k1⟩
    · rintro i v h tk E' hi hP ⟨m, hm, hmx⟩ _ hO
      refine wpAny_mono (turn H2.objs.size i v h tk m E' hi hP hm hmx fun b o hb e => hO b o (hideAll_get _ e (by simpa using hb))) (fun ok s' hs' => ?_) fun _ _ e => e
      obtain ⟨h', tk', rfl, k', hc⟩ := hs'
      refine ⟨h', tk', rfl, k', ?_⟩
      cases ok with
      | false => simpa using hc
      | true =>
        simp only [if_true] at hc ⊢
        refine wpAny_mono hc (fun y s'' hs'' => ?_) fun _ _ e => e
        obtain ⟨h'', tk'', d, nw, rfl, k'', hd, hin, hnw⟩ := hs''
        exact ⟨h'', tk'', d, nw, rfl, k'', hd, hin, fun p hp => ⟨(hnw p hp).1, (hnw p hp).2.1.imp id fun ⟨o, hne, e⟩ => ⟨o, hideAll_get _ e (by simpa using hne)⟩, (hnw p hp).2.2⟩⟩
    · rintro h tk ys news hO hD hA hL ⟨m, hm⟩
      refine ⟨m, hm, fun h' hs' => ?_⟩
      have hb : ∀ b o, b ≠ H2.objs.size → h.get? b = some o → h'.get? b = some o := fun b o hb e => (hs'.2 b hb).trans e
      refine fin _ h' tk ys news (fun b o hne e => ?_) (hb _ _ hDC hD) hA (fun p hp => ?_) ?_
      · exact hb b o (by have := Heap.lt_size e; rw [hC]; exact Nat.ne_of_lt (Nat.lt_succ_of_lt this)) (hO b o (hideAll_get _ e (by simpa using hne)))
      · have := (hL p hp).2.1
        simp only [List.mem_cons, List.not_mem_nil, or_false, not_or] at this
        exact ⟨hb _ _ this.2.2.1 (hL p hp).1, this.2.1, (hL p hp).2.2⟩
      · cases q : s₂.heap.get? s₂.heap.objs.size with
        | none => rfl
        | some o => exact absurd (Heap.lt_size q) (Nat.lt_irrefl _)
  exact codeAny_compStart_list (key _) (W.self 0 _ _ _ hst3 (key _))
end
end Mine

end

section
set_option maxRecDepth 100000
set_option maxHeartbeats 4000000
namespace Mine
section
variable {prog : Program} {w : World} {A : Around} {E : Value → Shared → Prop} {s : Shared}
/-- one turn of a block, with the loop's name in a cell of the block -/
def TurnC (prog : Program) (w : World) (A : Around) (env : Env) (elt : Expr) (ifs : List Expr) (x : Str) (scope : Scope) (cl : List (Str × Addr)) (s₂ : Shared) (I : Addr) (n : Nat) (P : Nat → Value → Prop) (B : Heap) (ds : Nat → Option Dat) : Prop :=
  ∀ C i v h tk (E' : Value → Shared → Prop), i < n → P i v → h.IsCell (C + 1) (some v) → (∀ b o, b ≠ I → s₂.heap.get? b = some o → h.get? b = some o) →
    wpAny (model prog w) A (forIn ifs true fun c r => if r = true then do let ok ← isTrue c (cEnv (relabel scope env) C ((x, C + 1) :: cl) env) (eval c (cEnv (relabel scope env) C ((x, C + 1) :: cl) env)); pure (ForInStep.yield ok) else pure (ForInStep.yield r))
      (fun ok s' => ∃ h' tk', s' = { s₂ with heap := h', toks := tk' } ∧ (∀ b o, h.get? b = some o → h'.get? b = some o) ∧
        if ok = true then wpAny (model prog w) A (eval elt (cEnv (relabel scope env) C ((x, C + 1) :: cl) env)) (fun y s'' => ∃ h'' tk'' d nw, s'' = { s₂ with heap := h'', toks := tk'' } ∧ (∀ b o, h'.get? b = some o → h''.get? b = some o) ∧ ds i = some d ∧ DatIn nw y d ∧ ∀ p ∈ nw, h''.get? p.1 = some p.2 ∧ (h.get? p.1 = none ∨ ∃ o, p.1 ≠ I ∧ s₂.heap.get? p.1 = some o) ∧ Gd B p) E' s'
        else ds i = none) E' { s₂ with heap := h, toks := tk }

theorem comp_cell {elt iter : Expr} {x : Str} {px : Pos} {ifs : List Expr} {scope : Scope} {cl : List (Str × Addr)} {pos : Pos} {env : Env} {s₂ : Shared} {I : Addr} {fp : List Addr} {n : Nat} {P : Nat → Value → Prop} {St : Nat → Heap → Prop} {Q : Value → Shared → Prop}
    (W : Walks prog w A I fp [I] n P St) (hsz : n ≤ sizeLine) (hIo : ∀ i h, St i h → ∃ o, h.get? I = some o) (hcell : ∀ (h : Heap) (n : Nat), pushCells h scope.names = h.push { cls := .type "cell", data := .cell none } ∧ cellsFrom n scope.names cl = (x, n) :: cl) (hkind : scope.kind = .function) (hx : (relabel scope env).names.lookup x = some .cell)
    {y : Str} {py : Pos} {m : Str → Option Value} (hL : s₂.heap.Ns env.locals m) (hLI : env.locals ≠ I) (hy : env.kindOf y = some .local) (hp : (env.scope.kind == .class || (env.scope.kind == .module && env.locals != env.globals)) = false)
    (hst : St 0 s₂.heap) (hfp : ∀ b ∈ fp, b < s₂.heap.objs.size) (B : Heap) (ds : Nat → Option Dat) (turn : TurnC prog w A env elt ifs x scope cl s₂ I n P B ds)
    (fin : ∀ D h tk ys news, h.Ns env.locals (fun z => if z = y then some (.ref D) else m z) → (∀ b o, b ≠ I → b ≠ env.locals → s₂.heap.get? b = some o → h.get? b = some o) → h.get? D = some (lst ys) → DatAll news ys ((List.range n).filterMap ds) → (∀ p ∈ news, h.get? p.1 = some p.2 ∧ p.1 ≠ D ∧ Gd B p) → s₂.heap.get? D = none → Q .none { s₂ with heap := h, toks := tk }) :
    wpAny (model prog w) A (newList []) (fun acc s₃ => wpAny (model prog w) A (newFunctionEnv scope env.globals cl [] env.qual none .none (some env)) (fun cenv s₄ =>
      codeAny (model prog w) A (.compStart (.ListComp elt [⟨.Name x px, iter, ifs, 0⟩] scope pos) 0 (.ref I) acc { cenv with scope := relabel scope env }) (compPost (model prog w) A E (some (assign (.Name y py) env)) Q acc cenv.locals) s₄) E s₃) E s₂ := by
  refine wpAny_newObj_type (env_comp ?_)
  dsimp only
  rw [(hcell _ 0).1, (hcell s₂.heap _).2]
  generalize hH : s₂.heap.push { cls := .type "list", dict := none, data := .seq ([] : List Value).toArray } = H2
  have hC : H2.objs.size = s₂.heap.objs.size + 1 := by rw [← hH, Heap.size_push]
  generalize hH3 : (H2.push { cls := .type "dict", data := .dict #[] }).push { cls := .type "cell", data := .cell none } = H3
  have up : ∀ b o, s₂.heap.get? b = some o → H3.get? b = some o := fun b o e => by rw [← hH3, ← hH]; exact Heap.get?_push_of_some _ (Heap.get?_push_of_some _ (Heap.get?_push_of_some _ e))
  have hIlt : I < s₂.heap.objs.size := hfp I (W.sub I (.head _))
  have hst3 : St 0 H3 := W.frame _ _ _ hst fun b _ o e => up b o e
  have hD3 : H3.get? s₂.heap.objs.size = some (lst []) := by
    rw [← hH3]; exact Heap.get?_push_of_some _ (Heap.get?_push_of_some _ (hH ▸ Heap.get?_push_size _ rfl))
  have hns3 : H3.Ns H2.objs.size fun _ => none := by rw [← hH3]; exact (Heap.Ns.new H2 _).push _
  have hIC : I ≠ H2.objs.size := by rw [hC]; exact Nat.ne_of_lt (Nat.lt_succ_of_lt hIlt)
  have hDC : s₂.heap.objs.size ≠ H2.objs.size := by rw [hC]; exact Nat.ne_of_lt (Nat.lt_succ_self _)
  have hT3 : H3.IsCell (H2.objs.size + 1) none := by
    rw [← hH3]
    refine ⟨{ cls := .type "cell", data := .cell none }, ?_, rfl⟩
    have e : (H2.push { cls := .type "dict", data := .dict #[] }).objs.size = H2.objs.size + 1 := Heap.size_push ..
    rw [← e]; exact Heap.get?_push_size _ rfl
  have hIT : I ≠ H2.objs.size + 1 := by rw [hC]; exact Nat.ne_of_lt (Nat.lt_succ_of_lt (Nat.lt_succ_of_lt hIlt))
  have hDT : s₂.heap.objs.size ≠ H2.objs.size + 1 := by rw [hC]; exact Nat.ne_of_lt (Nat.lt_succ_of_lt (Nat.lt_succ_self _))
  have hCT : H2.objs.size ≠ H2.objs.size + 1 := Nat.ne_of_lt (Nat.lt_succ_self _)
  have hLlt : env.locals < s₂.heap.objs.size := hL.lt
  have key : ∀ tk0, codeAny (model prog w) A (.compLoop (.ListComp elt [⟨.Name x px, iter, ifs, 0⟩] scope pos) 0 (.ref I) (.ref s₂.heap.objs.size) (cEnv (relabel scope env) H2.objs.size ((x, H2.objs.size + 1) :: cl) env)) (compPost (model prog w) A E (some (assign (.Name y py) env)) Q (.ref s₂.heap.objs.size) H2.objs.size) { s₂ with heap := H3, toks := tk0 } := by
    intro tk0
    refine comp_core (s := { s₂ with heap := H3, toks := tk0 }) (C := H2.objs.size) (Tc := H2.objs.size + 1) W (Gd B) hsz ?_ ?_ (Nat.ne_of_lt hIlt) hIC hIT hDC hDT hst3 hD3 (hideAll s₂.heap [I]) ?_ (fun h => (∃ m, h.Ns H2.objs.size m) ∧ ∃ v, h.IsCell (H2.objs.size + 1) v) (fun v h => h.IsCell (H2.objs.size + 1) (some v)) ⟨⟨_, hns3⟩, _, hT3⟩ ?_ hIo ?_ ?_ ds ?_ ?_
    · intro hm; exact Nat.lt_irrefl _ (hfp _ hm)
    · intro hm; have := hfp _ hm; rw [hC] at this; exact Nat.lt_irrefl _ (Nat.lt_of_succ_lt (Nat.lt_of_succ_lt this))
    · intro b o e
      have e2 := of_hideAll _ e
      have hb : b ≠ I := fun q => by rw [q, hideAll_none [I] (.head _)] at e; cases e
      have hlt := Heap.lt_size e2
      refine ⟨?_, up b o e2⟩
      simp only [List.mem_cons, List.not_mem_nil, or_false, not_or]
      have hc : b ≠ H2.objs.size := by rw [hC]; exact Nat.ne_of_lt (Nat.lt_succ_of_lt hlt)
      have hc2 : b ≠ H2.objs.size + 1 := by rw [hC]; exact Nat.ne_of_lt (Nat.lt_succ_of_lt (Nat.lt_succ_of_lt hlt))
      exact ⟨hb, Nat.ne_of_lt hlt, hc, hc2⟩
    · rintro v h tk Q' E' ⟨⟨m, hm⟩, v0, hv0⟩ hQ'
      refine wpAny_assign_Name (wpAny_storeName_cell (c := H2.objs.size + 1) (v₀ := v0) hkind hx (by simp [cEnv]) hv0 (fun h' hc' hs' => ?_))
      exact hQ' h' _ ⟨⟨m, hm.sameBut hs' hCT⟩, _, hc'⟩ hc' hs'
    · rintro h ⟨⟨m, o, es, ep, ho, _⟩, v0, o', ho', _⟩
      exact ⟨⟨o, ho⟩, o', ho'⟩
    · rintro h h' k1 k2 ⟨⟨m, hm⟩, v0, o', ho', hd'⟩
      exact ⟨⟨m, hm.at' k1⟩, v0, o', k2 _ ho', hd'⟩
    · rintro i v h tk E' hi hP hTg _ hO
      refine wpAny_mono (turn H2.objs.size i v h tk E' hi hP hTg fun b o hb e => hO b o (hideAll_get _ e (by simpa using hb))) (fun ok s' hs' => ?_) fun _ _ e => e
      obtain ⟨h', tk', rfl, k', hc⟩ := hs'
      refine ⟨h', tk', rfl, k', ?_⟩
      cases ok with
      | false => simpa using hc
      | true =>
        simp only [if_true] at hc ⊢
        refine wpAny_mono hc (fun y s'' hs'' => ?_) fun _ _ e => e
        obtain ⟨h'', tk'', d, nw, rfl, k'', hd, hin, hnw⟩ := hs''
        exact ⟨h'', tk'', d, nw, rfl, k'', hd, hin, fun p hp => ⟨(hnw p hp).1, (hnw p hp).2.1.imp id fun ⟨o, hne, e⟩ => ⟨o, hideAll_get _ e (by simpa using hne)⟩, (hnw p hp).2.2⟩⟩
    · rintro h tk ys news hO hD hA hLd ⟨⟨mc, hmc⟩, _⟩
      have hOI : ∀ b o, b ≠ I → s₂.heap.get? b = some o → h.get? b = some o := fun b o hne e => hO b o (hideAll_get _ e (by simpa using hne))
      have hLh : h.Ns env.locals m := hL.at' fun o e => hOI _ o hLI e
      show wpAny _ A (assign (.Name y py) env (.ref s₂.heap.objs.size)) _ _ _
      refine wpAny_assign_Name (wpAny_storeName_local hy hLh (fun h2 hn2 hs2 => ?_) hp)
      have hCL : H2.objs.size ≠ env.locals := by rw [hC]; exact Nat.ne_of_gt (Nat.lt_succ_of_lt hLlt)
      refine ⟨mc, hmc.sameBut hs2 hCL, fun h' hs' => ?_⟩
      have hb : ∀ b o, b ≠ H2.objs.size → b ≠ env.locals → h.get? b = some o → h'.get? b = some o := fun b o hb hb2 e => (hs'.2 b hb).trans ((hs2.2 b hb2).trans e)
      refine fin _ h' _ ys news (hn2.sameBut hs' (Ne.symm hCL)) (fun b o hne hne2 e => ?_) (hb _ _ hDC (Nat.ne_of_gt hLlt) hD) hA (fun p hp => ?_) ?_
      · exact hb b o (by have := Heap.lt_size e; rw [hC]; exact Nat.ne_of_lt (Nat.lt_succ_of_lt this)) hne2 (hOI b o hne e)
      · have := (hLd p hp).2.1
        simp only [List.mem_cons, List.not_mem_nil, or_false, not_or] at this
        refine ⟨hb _ _ this.2.2.1 (fun q => ?_) (hLd p hp).1, this.2.1, (hLd p hp).2.2⟩
        have e1 := (hLd p hp).1
        obtain ⟨oL, es, ep, hoL, hdL, _⟩ := hLh
        rw [q, hoL] at e1
        exact (hLd p hp).2.2.1 es ep (by rw [← Option.some.inj e1]; exact hdL)
      · cases q : s₂.heap.get? s₂.heap.objs.size with
        | none => rfl
        | some o => exact absurd (Heap.lt_size q) (Nat.lt_irrefl _)
  exact codeAny_compStart_list (key _) (W.self 0 _ _ _ hst3 (key _))
end
end Mine

end

section
set_option maxRecDepth 100000
set_option maxHeartbeats 4000000
namespace Mine
noncomputable section
section
variable {w : World} {A : Around} {E : Value → Shared → Prop} {s : Shared} {mg mb : Str → Option Value} {mean : ExcName → Option Value} {env : Env}
abbrev Kn (w : World) (h : Heap) : Prop := (hd.heap_39 w.params).In h
abbrev Tp (mean : ExcName → Option Value) (mg mb : Str → Option Value) (h : Heap) : Prop := Top hd.view_39 (looseW hd.view_39 [Str.ofString "ABC", Str.ofString "AbstractContextManager"]) mean mg mb h
theorem name_boot {Q : Value → Shared → Prop} {x : Str} {v : Value} {pos : Pos} (X : Kn w s.heap) (T : Tp mean mg mb s.heap) (e : nsIn (hd.heap_39 w.params) mainGlobals x = some none) (hv : bootBuiltins x = some v) (hn : x ≠ "__name__") (h : Q v s)
    (hg : env.globals = mainGlobals) (hbn : env.builtins = builtinsNs) (hk : env.scope.kind = .function) (hx : env.kindOf x = some .globalImplicit) (hd' : (x == ("__debug__" : Str)) = false) :
    wpAny (model PySem.Challenge.rw_sv0008_01.row.prog w) A (eval (.Name x pos) env) Q E s :=
  Name_function_global hk hx (loadGlobal_builtin (env := env) (by rw [hg]; exact T.g) (mg_none_of X (topRead_of T).g e) (by rw [hbn]; exact T.b) (((topRead_of T).builtins x hn).trans hv) h) hd'
theorem range8 {Q : Value → Shared → Prop} {p1 p2 p3 : Pos} {k : Nat} (X : (hd.heap_39 w.params).In s.heap) (T : Top hd.view_39 (looseW hd.view_39 [Str.ofString "ABC", Str.ofString "AbstractContextManager"]) mean mg mb s.heap) (hg : env.globals = mainGlobals) (hbn : env.builtins = builtinsNs) (hk : env.scope.kind = .function) (hx : env.kindOf "range" = some .globalImplicit)
    (h : ∀ h' tk r t u v, (∀ b o, s.heap.get? b = some o → h'.get? b = some o) → IsRange h' r 0 8 1 t u v → Q (.ref r) { s with heap := h', toks := tk }) :
    wpAny (model PySem.Challenge.rw_sv0008_01.row.prog w) A (eval (.Call (.Name "range" p1) [.Constant (.int 8) k p2] [] p3) env) Q E s := by
  revert X; k_fill; intro X
  refine Call_ (name_boot (v := .type "range") X T ?e ?hv ?hn ?_ hg hbn hk hx ?hd)
  (case e => k_is)
  (case hv => boot_by_name)
  (case hn => decide)
  (case hd => decide)
  refine callWith_type1 (args_cons (wpAny_Constant_int (args_nil ?_)))
  refine call_range_1 ?_
  exact h _ _ _ _ _ _ (fun b o e => Heap.get?_push_of_some _ e) (Heap.get?_push_size _ rfl)
end
end
end Mine

end

section
set_option maxRecDepth 100000
set_option maxHeartbeats 4000000
namespace Mine
def lookD (D : List (Int × Int)) (k : Int) : Option Int := (D.find? fun r => r.1 = k).map (·.2)
theorem rows_are {kd : List (Int × Value)} {D : List (Int × Int)} (h : All2 RowD kd D) : RowsAre kd (lookD D) := by
  intro k
  induction h with
  | nil => simp [lookD, valueAt]
  | @cons a b as bs r rs ih =>
    obtain ⟨h1, t, h2⟩ := r
    unfold lookD valueAt at ih ⊢
    simp only [List.find?_cons]
    rw [h1]
    by_cases hq : b.1 = k
    · simp only [hq, decide_true]
      exact ⟨t, by simp [h2]⟩
    · simp only [hq, decide_false]
      exact ih
theorem lookD_append {D : List (Int × Int)} {n t k : Int} (hn : ∀ r ∈ D, r.1 ≠ n) : lookD (D ++ [(n, t)]) k = if k = n then some t else lookD D k := by
  unfold lookD
  rw [List.find?_append]
  by_cases hk : k = n
  · subst hk
    have e : D.find? (fun r => decide (r.1 = k)) = none := by
      rw [List.find?_eq_none]; intro x hx; simpa using hn x hx
    rw [e, if_pos rfl]; simp
  · rw [if_neg hk]
    cases e : D.find? fun r => decide (r.1 = k) with
    | none => simp [Ne.symm hk]
    | some x => simp
theorem look_append {P : List (Int × List Int)} {n k : Int} {v : List Int} (hn : ∀ r ∈ P, r.1 ≠ n) : look (P ++ [(n, v)]) k = if k = n then v else look P k := by
  unfold look
  rw [List.find?_append]
  by_cases hk : k = n
  · subst hk
    have e : P.find? (fun r => decide (r.1 = k)) = none := by
      rw [List.find?_eq_none]; intro x hx; simpa using hn x hx
    rw [e, if_pos rfl]; simp
  · rw [if_neg hk]
    cases e : P.find? fun r => decide (r.1 = k) with
    | none => simp [Ne.symm hk]
    | some x => simp
def ChainOk (σ : St2) : Prop := ∀ k ∈ σ.2.map (·.1), match lookD σ.1 k with
  | none => look σ.2 k = []
  | some k' => look σ.2 k = k' :: look σ.2 k' ∧ k' ∈ σ.2.map (·.1)
def RowsUp (σ : St2) : Prop := ∀ r ∈ σ.1, ∃ p q, p < q ∧ q ≤ 7 ∧ r = (nm p, nm q)
theorem fresh_of {p : Nat} {σ : St2} (hp : p < 7) (h : Ok2 (p + 1) σ) : (∀ r ∈ σ.1, r.1 ≠ nm p) ∧ (∀ r ∈ σ.2, r.1 ≠ nm p) := by
  refine ⟨fun r hr q => ?_, fun r hr q => ?_⟩
  · obtain ⟨j, a, b, c⟩ := h.1 r hr
    have := nm_inj j p (by omega) (by omega) (c.symm.trans q)
    omega
  · obtain ⟨j, a, b, c⟩ := h.2.1 r hr
    have := nm_inj j p (by omega) (by omega) (c.symm.trans q)
    omega
theorem chain_step {xs : List Int} {p : Nat} {σ : St2} (hp : p < 7) (h : Ok2 (p + 1) σ) (hc : ChainOk σ) (hr : RowsUp σ) : ChainOk (pstep xs σ p) ∧ RowsUp (pstep xs σ p) := by
  obtain ⟨f1, f2⟩ := fresh_of hp h
  have f2' : nm p ∉ σ.2.map (·.1) := fun q => by
    obtain ⟨r, hr, e⟩ := List.mem_map.mp q
    exact f2 r hr e
  have b := idx_bounds xs hp
  have hT : tgtOf xs p ∈ σ.2.map (·.1) := h.2.2.1 _ (by omega) (by omega)
  have hTne : tgtOf xs p ≠ nm p := fun q => f2' (q ▸ hT)
  have keyEq : ∀ v : List Int, (σ.2 ++ [((nm p, v) : Int × List Int)]).map (·.1) = σ.2.map (·.1) ++ [nm p] := fun v => by simp
  have old : ∀ (v : List Int) (k : Int), k ∈ σ.2.map (·.1) → look (σ.2 ++ [(nm p, v)]) k = look σ.2 k := fun v k hk => by
    rw [look_append f2, if_neg (fun q : k = nm p => f2' (q ▸ hk))]
  unfold pstep
  split
  · refine ⟨fun k hk => ?_, hr⟩
    dsimp only at hk ⊢
    rw [keyEq] at hk ⊢
    rcases List.mem_append.mp hk with hk | hk
    · have hck := hc k hk
      rw [old _ _ hk]
      cases e : lookD σ.1 k with
      | none => rw [e] at hck; exact hck
      | some k' =>
        rw [e] at hck
        obtain ⟨a1, a2⟩ : look σ.2 k = k' :: look σ.2 k' ∧ k' ∈ σ.2.map (·.1) := hck
        exact ⟨by rw [a1, old _ _ a2], List.mem_append_left _ a2⟩
    · rw [List.mem_singleton.mp hk]
      have e : lookD σ.1 (nm p) = none := by
        unfold lookD
        rw [List.find?_eq_none.mpr (fun x hx => by simpa using f1 x hx)]; rfl
      rw [e, look_append f2, if_pos rfl]
  · refine ⟨fun k hk => ?_, fun r hr' => ?_⟩
    · dsimp only at hk ⊢
      rw [keyEq] at hk ⊢
      rw [lookD_append f1]
      rcases List.mem_append.mp hk with hk | hk
      · have hck := hc k hk
        rw [if_neg (fun q : k = nm p => f2' (q ▸ hk)), old _ _ hk]
        cases e : lookD σ.1 k with
        | none => rw [e] at hck; exact hck
        | some k' =>
          rw [e] at hck
          obtain ⟨a1, a2⟩ : look σ.2 k = k' :: look σ.2 k' ∧ k' ∈ σ.2.map (·.1) := hck
          exact ⟨by rw [a1, old _ _ a2], List.mem_append_left _ a2⟩
      · rw [List.mem_singleton.mp hk, if_pos rfl, look_append f2, if_pos rfl]
        exact ⟨by rw [old _ _ hT], List.mem_append_left _ hT⟩
    · rcases List.mem_append.mp hr' with hr' | hr'
      · exact hr r hr'
      · rw [List.mem_singleton.mp hr']
        exact ⟨p, (idxOf xs p).toNat, by omega, by omega, rfl⟩
theorem pst_chain (xs : List Int) : ∀ i, i ≤ 7 → ChainOk (pst xs i) ∧ RowsUp (pst xs i)
  | 0, _ => by
    refine ⟨fun k hk => ?_, fun r hr => by cases hr⟩
    have hk5 : k = 5 := by simpa [pst] using hk
    subst hk5
    show look [(5, [])] 5 = []
    rfl
  | i + 1, hi => by
    rw [pst_succ xs i (by omega)]
    have h1 := pst_ok xs i (by omega)
    have h2 := pst_chain xs i (by omega)
    have e : 7 - i = (6 - i) + 1 := by omega
    rw [e] at h1
    exact chain_step (by omega) h1 h2.1 h2.2
/-- the last of a key's chain -/
def lastOf (P : List (Int × List Int)) (k : Int) : Int := (look P k).getLastD k
theorem goes_last {σ : St2} (hc : ChainOk σ) {k r : Int} (hg : Goes (lookD σ.1) k r) (hk : k ∈ σ.2.map (·.1)) : r = lastOf σ.2 k := by
  induction hg with
  | stop h =>
    have := hc _ hk
    rw [h] at this
    have e : look σ.2 _ = [] := this
    rw [lastOf, e]; rfl
  | step h _ ih =>
    have := hc _ hk
    rw [h] at this
    obtain ⟨a1, a2⟩ : look σ.2 _ = _ :: look σ.2 _ ∧ _ ∈ σ.2.map (·.1) := this
    rw [ih a2, lastOf, lastOf, a1]
    rw [List.getLastD_cons]
def rankOf (k : Int) : Nat := 8 - ((List.range 8).find? fun i => nm i = k).getD 0
theorem rank_down {σ : St2} (hr : RowsUp σ) (k k' : Int) (h : lookD σ.1 k = some k') : rankOf k' < rankOf k := by
  unfold lookD at h
  cases e : σ.1.find? fun r => decide (r.1 = k) with
  | none => rw [e] at h; cases h
  | some r =>
    rw [e] at h
    have hm := List.mem_of_find?_eq_some e
    have hk := List.find?_some e
    obtain ⟨p, q, h1, h2, rfl⟩ := hr r hm
    simp at hk h
    subst hk h
    have d : ∀ p ∈ List.range 8, ∀ q ∈ List.range 8, p < q → rankOf (nm q) < rankOf (nm p) := by decide
    exact d p (List.mem_range.mpr (by omega)) q (List.mem_range.mpr (by omega)) h1
theorem keys_all (xs : List Int) (k : Int) (h0 : 0 ≤ k) (h8 : k < 8) : k ∈ (fin xs).2.map (·.1) := by
  have h := (pst_ok xs 7 (by omega)).2.2.1
  rw [pst_fin] at h
  have d : ∀ i ∈ List.range 8, ∃ j ∈ List.range 8, nm j = (i : Int) := by decide
  obtain ⟨j, hj, e⟩ := d k.toNat (List.mem_range.mpr (by omega))
  have := h j (by omega) (by have := List.mem_range.mp hj; omega)
  rw [e] at this
  have e2 : ((k.toNat : Nat) : Int) = k := by omega
  rw [e2] at this
  exact this
end Mine

end

section
set_option maxRecDepth 100000
set_option maxHeartbeats 4000000
namespace Mine
noncomputable section
section
variable {w : World} {A : Around} {E : Value → Shared → Prop} {s : Shared} {mg mb : Str → Option Value} {mean : ExcName → Option Value} {env : Env}
/-- a block over range(8), its name in its own frame -/
theorem comp8 {elt : Expr} {x : Str} {px p1 p2 p3 : Pos} {k0 : Nat} {ifs : List Expr} {scope : Scope} {cl : List (Str × Addr)} {pos : Pos} {Q : Value → Shared → Prop} (hh : A.handled = none)
    (X : (hd.heap_39 w.params).In s.heap) (T : Top hd.view_39 (looseW hd.view_39 [Str.ofString "ABC", Str.ofString "AbstractContextManager"]) mean mg mb s.heap)
    (hg : env.globals = mainGlobals) (hbn : env.builtins = builtinsNs) (hke : env.scope.kind = .function) (hxr : env.kindOf "range" = some .globalImplicit)
    (hclos : closureFor scope env = pure cl) (hcell : ∀ y ∈ scope.names, y.2 ≠ .cell) (hkind : scope.kind = .function) (hnames : ∀ y ∈ scope.names, y.2 = .local → scope.names.lookup y.1 = some .local) (hx : scope.names.lookup x = some .local)
    (hs : ∀ y, foldedSetIterable (.Call (.Name "range" p1) [.Constant (.int 8) k0 p2] [] p3) env y = pure y) (B : Heap) (ds : Nat → Option Dat)
    (turn : ∀ h tk I, (∀ b o, s.heap.get? b = some o → h.get? b = some o) → s.heap.get? I = none → TurnL PySem.Challenge.rw_sv0008_01.row.prog w A env elt ifs x scope cl { s with heap := h, toks := tk } I 8 (fun i v => ∃ t, v = .int (i : Int) t) B ds)
    (fin : ∀ D h tk ys news, (∀ b o, s.heap.get? b = some o → h.get? b = some o) → h.get? D = some (lst ys) → DatAll news ys ((List.range 8).filterMap ds) → (∀ p ∈ news, h.get? p.1 = some p.2 ∧ p.1 ≠ D ∧ Gd B p) → s.heap.get? D = none → Q (.ref D) { s with heap := h, toks := tk }) :
    wpAny (model PySem.Challenge.rw_sv0008_01.row.prog w) A (eval (.ListComp elt [⟨.Name x px, .Call (.Name "range" p1) [.Constant (.int 8) k0 p2] [] p3, ifs, 0⟩] scope pos) env) Q E s := by
  rw [eval_ListComp]
  refine wpAny_comprehension_free (use := none) rfl hs hclos hkind hnames (range8 X T hg hbn hke hxr fun h1 tk1 r t u v k1 hr => ?_)
  refine wpAny_pyIter_range hr rfl ?_
  dsimp only
  have hI : s.heap.get? h1.objs.size = none := by
    cases q : s.heap.get? h1.objs.size with
    | none => rfl
    | some o => exact absurd (Heap.lt_size (k1 _ _ q)) (Nat.lt_irrefl _)
  have k2 : ∀ {o : Obj} b o', s.heap.get? b = some o' → (h1.push o).get? b = some o' := fun b o' e => Heap.get?_push_of_some _ (k1 b o' e)
  have W := LCg.range_walks (prog := PySem.Challenge.rw_sv0008_01.row.prog) (w := w) (A := A) (I := h1.objs.size) hh 0 8
  simp only [Int.zero_add] at W
  refine comp_local W (by rw [sizeLine_eq]; decide) (fun i h st => ⟨_, st⟩) hcell hkind hx ?_ (fun b hb => ?_) B ds (turn _ _ _ k2 hI) ?_
  · show (h1.push _).get? h1.objs.size = some _
    have e : Builtin.Range.rangeSize 0 8 1 = 8 := by decide
    rw [e]
    exact Heap.get?_push_size _ rfl
  · rw [List.mem_singleton.mp hb]
    show h1.objs.size < (h1.push _).objs.size
    rw [Heap.size_push]; exact Nat.lt_succ_self _
  · intro D h tk ys news hk hD hA hL hf
    refine fin D h tk ys news (fun b o e => hk b o (fun q => by rw [q, hI] at e; cases e) (k2 b o e)) hD hA hL ?_
    cases q : s.heap.get? D with
    | none => rfl
    | some o => rw [k2 _ _ q] at hf; cases hf
end
end
end Mine

end

section
set_option maxRecDepth 100000
set_option maxHeartbeats 4000000
namespace Mine
noncomputable section
section
variable {w : World} {E : Value → Shared → Prop} {s : Shared} {mg mb m : Str → Option Value} {mean : ExcName → Option Value} {h₀ : Heap} {L fa d pd nl : Addr} {cd : Value} {ws : List Value} {kd kp : List (Int × Value)}
theorem ne_frame {h : Heap} {p : Addr × Obj} (hn : h.Ns L m) (e : h.get? p.1 = some p.2) (hd' : ∀ es n, p.2.data ≠ .dict es n) : p.1 ≠ L := fun q => by
  obtain ⟨o, es, ep, ho, hdt, _⟩ := hn
  rw [q, ho] at e
  exact hd' es ep (by rw [← Option.some.inj e]; exact hdt)
theorem last_get : ∀ (l : List Int) (k : Int), (k :: l)[l.length]? = some (l.getLastD k)
  | [], _ => rfl
  | a :: l, k => by
    rw [List.length_cons, List.getElem?_cons_succ, last_get l a, List.getLastD_cons]
theorem new_none {h h1 : Heap} {b : Addr} (k : ∀ b o, h.get? b = some o → h1.get? b = some o) (e : h1.get? b = none) : h.get? b = none := by
  cases q : h.get? b with
  | none => rfl
  | some o => rw [k _ _ q] at e; cases e
theorem seg_if {xs : List Int} {Q : Flow → Shared → Prop} (X₀ : (hd.heap_39 w.params).In h₀) (T : Top hd.view_39 (looseW hd.view_39 [Str.ofString "ABC", Str.ofString "AbstractContextManager"]) mean mg mb h₀) (B : Below callerA h₀ [] h₀)
    (W : Lw PySem.Challenge.rw_sv0008_01.row.prog w h₀ s.heap L d pd nl m ws kd kp) (hD : All2 RowD kd (fin xs).1) (hP : All2 (RowP s.heap) kp (fin xs).2)
    (next : ∀ h' tk, (∀ b o, s.heap.get? b = some o → h'.get? b = some o) → wpAny (model PySem.Challenge.rw_sv0008_01.row.prog w) (callerA.deeper (lawEnv L fa cd)) (execs (lawBody.drop 5) (lawEnv L fa cd)) Q E { s with heap := h', toks := tk }) :
    wpAny (model PySem.Challenge.rw_sv0008_01.row.prog w) (callerA.deeper (lawEnv L fa cd)) (execs (lawBody.drop 4) (lawEnv L fa cd)) Q E s := by
  revert X₀; k_fill; intro X₀
  revert next
  unfold lawBody lawX
  dsimp only [List.drop]
  intro next
  obtain ⟨hc, hr⟩ := pst_chain xs 7 (by omega)
  rw [pst_fin] at hc hr
  obtain ⟨od, hod, hDo⟩ := Heap.dictOf_iff.mp W.dd
  have nd0 : h₀.get? d = none := by
    cases q : h₀.get? d with
    | none => rfl
    | some o => exact absurd (Nat.lt_of_lt_of_le (Heap.lt_size q) W.above) (Nat.not_lt.mpr (Nat.le_of_lt W.dL))
  have lod : (d == sysModules) = false := beq_eq_false_iff_ne.mpr (Nat.ne_of_gt (Nat.lt_trans (modules_low T.nolimit) (Nat.lt_of_le_of_lt W.above W.dL)))
  refine wpAny_execs_cons (wpAny_If (wpAny_isTrue_Compare1 ?_))
  refine comp8 (cl := [(Str.ofString "d", L + 1)]) ?hh (X₀.keeps W.keep) (T.keeps W.keep) ?hg ?hbn ?hke ?hxr ?hclos ?hcell ?hkind ?hnames ?hx ?hs h₀ (fun i => some (.int (lastOf (fin xs).2 (i : Int)))) ?turn ?fin
  case hh => rfl
  case hg => rfl
  case hbn => rfl
  case hke => rfl
  case hxr => rfl
  case hclos => rfl
  case hcell => decide
  case hkind => rfl
  case hnames => decide
  case hx => rfl
  case hs => intro _; rfl
  case turn =>
    intro h1 tk1 I k1 hI C i v h tk mC E' hi hPv hns hmx hO
    obtain ⟨t, rfl⟩ := hPv
    refine wpAny_tests_nil ⟨h, tk, rfl, fun _ _ e => e, ?_⟩
    rw [if_pos rfl]
    have hk : ∀ b o, s.heap.get? b = some o → h.get? b = some o := fun b o e => hO b o (fun q => by rw [q, hI] at e; cases e) (k1 b o e)
    have W1 := W.keeps hk
    refine Call_ (nameG_K W1.fr X₀ (topRead_of T) (v := .ref 125) ?e ?_ rfl rfl rfl (by decide))
    (case e => k_is)
    refine callWith_K X₀ ?k (args_cons ?_)
    (case k => k_is)
    refine wpAny_Name (wpAny_loadName_local rfl rfl hns hmx ?_)
    refine args_cons ?_
    refine wpAny_Name (wpAny_loadName_cell rfl rfl rfl W1.cd ?_)
    refine args_nil ⟨X₀.keeps W1.keep, ?_⟩
    refine tg_int (i : Int) t d od kd (lookD (fin xs).1) rankOf B W1.fr X₀ ?nn T hDo lod (rows_are hD) (rank_down hr) ?_
    case nn =>
      intro p hp
      rw [List.mem_singleton.mp hp]
      exact ⟨hk _ _ hod, Nat.ne_of_gt W.dL, nd0⟩
    intro h' tk' r t' k' hgo
    refine ⟨h', tk', .int r, [], rfl, k', ?_, .int r t', fun p hp => by cases hp⟩
    rw [goes_last hc hgo (keys_all xs _ (by omega) (by omega))]
  case fin =>
    intro D1 h1 tk1 ys1 n1 k1 g1 A1 G1 f1
    have W1 := W.keeps k1
    refine comp8 (cl := [(Str.ofString "passed", L + 1 + 1)]) ?hh ((X₀.keeps W1.keep)) (T.keeps W1.keep) ?hg ?hbn ?hke ?hxr ?hclos ?hcell ?hkind ?hnames ?hx ?hs h₀ (fun i => some (.int (lastOf (fin xs).2 (i : Int)))) ?turn ?fin
    case hh => rfl
    case hg => rfl
    case hbn => rfl
    case hke => rfl
    case hxr => rfl
    case hclos => rfl
    case hcell => decide
    case hkind => rfl
    case hnames => decide
    case hx => rfl
    case hs => intro _; rfl
    case turn =>
      intro h2 tk2 I k2 hI C i v h tk mC E' hi hPv hns hmx hO
      obtain ⟨t, rfl⟩ := hPv
      refine wpAny_tests_nil ⟨h, tk, rfl, fun _ _ e => e, ?_⟩
      rw [if_pos rfl]
      have hk : ∀ b o, h1.get? b = some o → h.get? b = some o := fun b o e => hO b o (fun q => by have e' : h1.get? b = some o := e; rw [q] at e'; have hI' : h1.get? I = none := hI; rw [hI'] at e'; cases e') (k2 b o e)
      have W2 := W1.keeps hk
      refine Subscript_ (wpAny_BinOp (wpAny_List (args_cons ?_)))
      refine wpAny_Name (wpAny_loadName_local rfl rfl hns hmx ?_)
      refine args_nil ⟨(by rw [sizeLine_eq]; simp), ?_⟩
      dsimp only
      have k3 : ∀ {ob : Obj} b o, h.get? b = some o → (h.push ob).get? b = some o := fun b o e => Heap.get?_push_of_some _ e
      have W3 := fun ob => W2.keeps (k3 (ob := ob))
      refine Subscript_ ?_
      refine wpAny_Name (wpAny_loadName_cell rfl rfl rfl (W3 _).cp ?_)
      refine wpAny_Name (wpAny_loadName_local rfl rfl (hns.keeps k3) hmx ?_)
      obtain ⟨v5, hv5, a5, us5, n5, rfl, ha5, hi5⟩ := RowP.find hP (keys_all xs (i : Int) (by omega) (by omega))
      refine dict_item (knd := intKind PySem.Challenge.rw_sv0008_01.row.prog w) (W3 _).dp (intKind_is _ _ _ _) hv5 ?_
      have len5 : (look (fin xs).2 (i : Int)).length ≤ 8 := look_len fun r hr => by
        have := (pst_ok xs 7 (by omega)).2.2.2.2.2 r (by rw [pst_fin]; exact hr)
        omega
      refine add_push (vs := [Value.int (i : Int) t]) (ws := us5) ⟨_, Heap.get?_push_size _ rfl, rfl, 0, rfl⟩ ⟨_, k3 _ _ (hk _ _ (k1 _ _ ha5)), rfl, n5, rfl⟩ ?_ (by rw [sizeLine_eq, hi5.length]; simp only [List.length_cons, List.length_nil]; omega)
      dsimp only
      refine wpAny_UnaryOp (wpAny_Constant_int (neg_int ?_))
      dsimp only
      obtain ⟨t6, hg6⟩ := (IntsAre.cons (i : Int) t hi5).get _ _ (last_get (look (fin xs).2 (i : Int)) (i : Int))
      refine kde_neg (vs := [Value.int (i : Int) t] ++ us5) (j := (look (fin xs).2 (i : Int)).length) ⟨_, Heap.get?_push_size _ rfl, rfl, 0, rfl⟩ (by decide) (by decide) ?_ hg6 ?_
      · rw [List.length_append, hi5.length]
        simp [seqIndex?]
        omega
      · refine ⟨_, _, .int (lastOf (fin xs).2 (i : Int)), [], rfl, fun b o e => Heap.get?_push_of_some _ (k3 b o e), rfl, .int _ t6, fun p hp => by cases hp⟩
    case fin =>
      intro D2 h2 tk2 ys2 n2 k2 g2 A2 G2 f2
      dsimp only at k2 f2 ⊢
      have W2 := W1.keeps k2
      have hD1 : h₀.get? D1 = none := new_none W.keep f1
      have hD2 : h₀.get? D2 = none := new_none W1.keep f2
      refine kqd_ne (h₀ := h₀) (L := L) (news := (D1, lst ys1) :: (D2, lst ys2) :: (n1 ++ n2)) (oa := lst ys1) (ob := lst ys2) ?N (.head _) rfl rfl A1 (fun p hp => ?_) (.tail _ (.head _)) rfl rfl A2 (fun p hp => ?_) ?_ ?_ (Nat.le_of_ble_eq_true rfl) ?_
      case N =>
        intro p hp
        have gd : ∀ {q : Addr × Obj}, h2.get? q.1 = some q.2 → Gd h₀ q → h2.get? q.1 = some q.2 ∧ q.1 ≠ L ∧ h₀.get? q.1 = none := fun e g => ⟨e, ne_frame W2.ns e g.1, g.2⟩
        rcases List.mem_cons.mp hp with rfl | hp
        · exact gd (k2 _ _ g1) ⟨fun _ _ q => (by cases q), hD1⟩
        · rcases List.mem_cons.mp hp with rfl | hp
          · exact gd g2 ⟨fun _ _ q => (by cases q), hD2⟩
          · rcases List.mem_append.mp hp with hp | hp
            · exact gd (k2 _ _ (G1 p hp).1) (G1 p hp).2.2
            · exact gd (G2 p hp).1 (G2 p hp).2.2
      · exact .tail _ (.tail _ (List.mem_append_left _ hp))
      · exact .tail _ (.tail _ (List.mem_append_right _ hp))
      · intro x hx
        obtain ⟨i, _, hi⟩ := List.mem_filterMap.mp hx
        cases hi; rfl
      · intro x hx
        obtain ⟨i, _, hi⟩ := List.mem_filterMap.mp hx
        cases hi; rfl
      · simp only [decide_true, Bool.not_true]
        refine wpAny_truthy_bool ?_
        rw [if_neg (by decide)]
        refine wpAny_execs_nil ?_
        exact next _ _ (fun b o e => k2 b o (k1 b o e))
end
end
end Mine

end

section
set_option maxRecDepth 100000
set_option maxHeartbeats 4000000
namespace Mine
noncomputable section
/-- the law's world behind reverse_dict -/
structure Lx (prog : Program) (w : World) (h₀ h : Heap) (L d pd nl r : Addr) (m : Str → Option Value) (ws : List Value) (kd kp kt : List (Int × Value)) : Prop where
  keep : ∀ b o, h₀.get? b = some o → h.get? b = some o
  above : h₀.objs.size ≤ L
  ns : h.Ns L m
  ct : h.IsCell (L + 1 + 1 + 1) (some (.ref r))
  cp : h.IsCell (L + 1 + 1) (some (.ref pd))
  cd : h.IsCell (L + 1) (some (.ref d))
  num : h.get? nl = some (PySem.W.listOf ws.toArray 0)
  dd : h.DictOf (intKind prog w) d kd
  dp : h.DictOf (intKind prog w) pd kp
  dt : h.DictOf (intKind prog w) r kt
  dL : L < d
  n0 : h₀.get? nl = none
section
variable {prog : Program} {w : World} {h₀ h h' : Heap} {L d pd nl r : Addr} {m m' : Str → Option Value} {ws : List Value} {kd kp kt : List (Int × Value)}
theorem Lx.keeps (W : Lx prog w h₀ h L d pd nl r m ws kd kp kt) (k : ∀ b o, h.get? b = some o → h'.get? b = some o) : Lx prog w h₀ h' L d pd nl r m ws kd kp kt :=
  { W with
    keep := fun b o e => k b o (W.keep b o e)
    ns := W.ns.keeps k
    ct := W.ct.keeps k
    cp := W.cp.keeps k
    cd := W.cd.keeps k
    num := k _ _ W.num
    dd := W.dd.keep k
    dp := W.dp.keep k
    dt := W.dt.keep k }
theorem Lx.fr (W : Lx prog w h₀ h L d pd nl r m ws kd kp kt) : Fr h₀ L h m := ⟨W.ns, W.keep, W.above⟩
theorem Lx.stepL (W : Lx prog w h₀ h L d pd nl r m ws kd kp kt) (hn : h'.Ns L m') (k : ∀ b o, b ≠ L → h.get? b = some o → h'.get? b = some o) (hpL : pd ≠ L) (hrL : r ≠ L) : Lx prog w h₀ h' L d pd nl r m' ws kd kp kt := by
  have kk : ∀ {c kvs}, c ≠ L → h.DictOf (intKind prog w) c kvs → h'.DictOf (intKind prog w) c kvs := fun hc ⟨o, es, ep, ho, x⟩ => ⟨o, es, ep, k _ o hc ho, x⟩
  have kc : ∀ {c v}, c ≠ L → h.IsCell c v → h'.IsCell c v := fun hc ⟨o, ho, hd⟩ => ⟨o, k _ o hc ho, hd⟩
  exact { W with
    keep := fun b o e => k b o (Nat.ne_of_lt (Nat.lt_of_lt_of_le (Heap.lt_size e) W.above)) (W.keep b o e)
    ns := hn
    ct := kc (cell_ne L).1 W.ct
    cp := kc (cell_ne L).2.1 W.cp
    cd := kc (cell_ne L).2.2 W.cd
    num := k _ _ (fun q => ne_frame (p := (nl, PySem.W.listOf ws.toArray 0)) W.ns W.num (fun _ _ q => by cases q) q) W.num
    dd := kk (Nat.ne_of_gt W.dL) W.dd
    dp := kk hpL W.dp
    dt := kk hrL W.dt }
end

section
variable {w : World} {E : Value → Shared → Prop} {s : Shared} {mg mb m : Str → Option Value} {mean : ExcName → Option Value} {h₀ : Heap} {L fa d pd nl : Addr} {cd : Value} {ws : List Value} {kd kp : List (Int × Value)}
theorem TupL.keepc {h h' : Heap} {c : Addr} {v : Value} {xs : List Int} {v0 : Option Value} (x : TupL h v xs) (hc : h.IsCell c v0) (hs : Heap.SameBut c h h') : TupL h' v xs := by
  obtain ⟨l, vs, n, e, ho, hi⟩ := x
  refine ⟨l, vs, n, e, (hs.2 _ (fun q => ?_)).trans ho, hi⟩
  obtain ⟨o, ho', hd⟩ := hc
  rw [q, ho'] at ho
  cases ho
  cases hd
theorem seg_told {xs : List Int} {Q : Flow → Shared → Prop} (X₀ : (hd.heap_39 w.params).In h₀) (T : Top hd.view_39 (looseW hd.view_39 [Str.ofString "ABC", Str.ofString "AbstractContextManager"]) mean mg mb h₀)
    (W : Lw PySem.Challenge.rw_sv0008_01.row.prog w h₀ s.heap L d pd nl m ws kd kp) (n0 : h₀.get? nl = none) (hP : All2 (RowP s.heap) kp (fin xs).2)
    (next : ∀ h' tk r kt, Lx PySem.Challenge.rw_sv0008_01.row.prog w h₀ h' L d pd nl r m ws kd kp kt → pd ≠ L → r ≠ L → (r == sysModules) = false → All2 (RowP h') kp (fin xs).2 → All2 (RowT h') kt (rev (fin xs).2) →
      wpAny (model PySem.Challenge.rw_sv0008_01.row.prog w) (callerA.deeper (lawEnv L fa cd)) (execs (lawBody.drop 6) (lawEnv L fa cd)) Q E { s with heap := h', toks := tk }) :
    wpAny (model PySem.Challenge.rw_sv0008_01.row.prog w) (callerA.deeper (lawEnv L fa cd)) (execs (lawBody.drop 5) (lawEnv L fa cd)) Q E s := by
  revert X₀; k_fill; intro X₀
  revert next
  unfold lawBody lawX
  dsimp only [List.drop]
  intro next
  refine wpAny_execs_cons ?_
  refine wpAny_Assign_Name ?_ ?hsw
  (case hsw => rfl)
  refine Call_ (ln_K (v := .ref 132) W.fr X₀ T ?e ?_)
  (case e => k_is)
  refine callWith_K X₀ ?k (args_cons ?_)
  (case k => k_is)
  refine ln_C W.cp ?_
  refine args_nil ⟨X₀.keeps W.keep, ?_⟩
  have hok := pst_ok xs 7 (by omega)
  rw [pst_fin] at hok
  have lop : (pd == sysModules) = false := beq_eq_false_iff_ne.mpr (Nat.ne_of_gt (Nat.lt_trans (modules_low T.nolimit) (Nat.lt_of_le_of_lt W.above W.pL)))
  refine rev_call (P := (fin xs).2) (X₀.keeps W.keep) (T.keeps W.keep) W.dp hP lop ?b1 ?b2 ?_
  case b1 => have := hok.2.2.2.2.1; omega
  case b2 => intro r hr; have := hok.2.2.2.2.2 r hr; omega
  intro h1 tk1 r kt k1 hr0 hDr hT lor
  have W1 := W.keeps k1
  have hrc : r ≠ L := fun q => by rw [q] at hr0; obtain ⟨o, _, _, ho, _⟩ := W.ns; rw [ho] at hr0; cases hr0
  refine wpAny_storeName_cell (c := L + 1 + 1 + 1) (v₀ := none) ?p1 ?p2 ?p3 ?p4 ?p5
  (case p1 => rfl)
  (case p2 => rfl)
  (case p3 => rfl)
  (case p4 => exact W1.ct)
  intro h2 hc2 hs2
  dsimp only at hs2 ⊢
  have hs2' : Heap.SameBut (L + 1 + 1 + 1) h1 h2 := hs2
  obtain ⟨oc, hoc, hdc⟩ := W1.ct
  have kb : ∀ b o, (∀ v, o.data ≠ .cell v) → h1.get? b = some o → h2.get? b = some o := fun b o hn e => (hs2'.2 b (fun q => by rw [q, hoc] at e; cases e; exact hn _ hdc)).trans e
  have kD : ∀ {c kvs}, h1.DictOf (intKind PySem.Challenge.rw_sv0008_01.row.prog w) c kvs → h2.DictOf (intKind PySem.Challenge.rw_sv0008_01.row.prog w) c kvs := fun ⟨o, es, ep, ho, hx, hd, q⟩ => ⟨o, es, ep, kb _ o (fun v z => by rw [hd] at z; cases z) ho, hx, hd, q⟩
  refine next h2 tk1 r kt ?_ (Nat.ne_of_gt W.pL) hrc lor ?_ ?_
  · exact {
      keep := fun b o e => (hs2'.2 b (fun q => by
        have h3 := Nat.lt_of_lt_of_le (Heap.lt_size e) W.above
        rw [q] at h3
        exact absurd h3 (Nat.not_lt.mpr (Nat.le_trans (Nat.le_succ _) (Nat.le_trans (Nat.le_succ _) (Nat.le_succ _)))))).trans (W1.keep b o e)
      above := W.above
      ns := by
        obtain ⟨o, es, ep, ho, hd, q⟩ := W1.ns
        exact ⟨o, es, ep, kb _ o (fun v z => by rw [hd] at z; cases z) ho, hd, q⟩
      ct := hc2
      cp := by
        obtain ⟨o, ho, hd⟩ := W1.cp
        exact ⟨o, (hs2'.2 _ (Nat.ne_of_lt (Nat.lt_succ_self _))).trans ho, hd⟩
      cd := by
        obtain ⟨o, ho, hd⟩ := W1.cd
        exact ⟨o, (hs2'.2 _ (Nat.ne_of_lt (Nat.lt_succ_of_lt (Nat.lt_succ_self _)))).trans ho, hd⟩
      num := kb _ _ (fun v z => by cases z) W1.num
      dd := kD W1.dd
      dp := kD W1.dp
      dt := kD hDr
      dL := W.dL
      n0 := n0 }
  · exact hP.mono fun a b (x : RowP s.heap a b) => ⟨x.1, by
      obtain ⟨l, vs, n, e, ho, hi⟩ := x.2
      exact ⟨l, vs, n, e, kb _ _ (fun v z => by cases z) (k1 _ _ ho), hi⟩⟩
  · exact hT.mono fun a b (x : RowT h1 a b) => ⟨x.1, by
      obtain ⟨l, vs, n, e, ho, hi⟩ := x.2
      exact ⟨l, vs, n, e, kb _ _ (fun v z => by cases z) ho, hi⟩⟩
end
end
end Mine

end

section
set_option maxRecDepth 100000
set_option maxHeartbeats 4000000
namespace Mine
noncomputable section
theorem ints_dat {news : List (Addr × Obj)} : ∀ {vs : List Value} {xs : List Int}, IntsAre vs xs → DatAll news vs (xs.map Dat.int)
  | _, _, .nil => .nil
  | _, _, .cons n t h => .cons (.int n t) (ints_dat h)
theorem dat_ints {news : List (Addr × Obj)} : ∀ {xs : List Int} {vs : List Value}, DatAll news vs (xs.map Dat.int) → IntsAre vs xs
  | [], _, h => by cases h; exact .nil
  | x :: xs, _, h => by
    cases h with
    | cons a b =>
      cases a with
      | int i t => exact .cons x t (dat_ints b)
theorem filterMap_if {α β : Type} (p : α → Bool) (f : α → β) : ∀ l : List α, l.filterMap (fun i => if p i = true then some (f i) else none) = (l.filter p).map f
  | [] => rfl
  | a :: l => by
    rw [List.filterMap_cons]
    by_cases h : p a = true
    · rw [if_pos h, List.filter_cons_of_pos h, List.map_cons, filterMap_if p f l]
    · rw [if_neg h, List.filter_cons_of_neg h, filterMap_if p f l]
def namesOf (P : List (Int × List Int)) (k : Int) : List Int := ((List.range 8).filter fun (i : Nat) => decide (k ∈ look P (i : Int))).map fun (i : Nat) => (i : Int)
def dueRow (P : List (Int × List Int)) (k : Int) : Dat := .tuple [.int k, .list ((namesOf P k).map Dat.int)]
theorem mem_dat {k : Int} {xs : List Int} {inst : Decidable (Dat.int k ∈ xs.map Dat.int)} : @decide (Dat.int k ∈ xs.map Dat.int) inst = decide (k ∈ xs) := by
  rw [Bool.eq_iff_iff, decide_eq_true_eq, decide_eq_true_eq, List.mem_map]
  exact ⟨fun ⟨a, h, e⟩ => by cases e; exact h, fun h => ⟨k, h, rfl⟩⟩
section
variable {w : World} {A : Around} {E : Value → Shared → Prop} {s : Shared} {mg mb m : Str → Option Value} {mean : ExcName → Option Value} {env : Env}
/-- a block over range(8) with its name in a cell, the list given a name -/
theorem comp8c {elt : Expr} {x y : Str} {px py p1 p2 p3 : Pos} {k0 : Nat} {scope : Scope} {cl : List (Str × Addr)} {pos spos : Pos} {Q : Flow → Shared → Prop} (hh : A.handled = none)
    (X : (hd.heap_39 w.params).In s.heap) (T : Top hd.view_39 (looseW hd.view_39 [Str.ofString "ABC", Str.ofString "AbstractContextManager"]) mean mg mb s.heap)
    (hg : env.globals = mainGlobals) (hbn : env.builtins = builtinsNs) (hke : env.scope.kind = .function) (hxr : env.kindOf "range" = some .globalImplicit)
    (hsw : swapsWith (.ListComp elt [⟨.Name x px, .Call (.Name "range" p1) [.Constant (.int 8) k0 p2] [] p3, [], 0⟩] scope pos) (some (.Name y py)) spos.line env = pure true)
    (hclos : closureFor scope env = pure cl) (hcell : ∀ (h : Heap) (n : Nat), pushCells h scope.names = h.push { cls := .type "cell", data := .cell none } ∧ cellsFrom n scope.names cl = (x, n) :: cl) (hkind : scope.kind = .function)
    (hnames : ∀ y ∈ scope.names, y.2 = .local → scope.names.lookup y.1 = some .local) (hx : (relabel scope env).names.lookup x = some .cell)
    (hs : ∀ y, foldedSetIterable (.Call (.Name "range" p1) [.Constant (.int 8) k0 p2] [] p3) env y = pure y)
    (hL : s.heap.Ns env.locals m) (hy : env.kindOf y = some .local) (hp : (env.scope.kind == .class || (env.scope.kind == .module && env.locals != env.globals)) = false) (B : Heap) (ds : Nat → Option Dat)
    (turn : ∀ h tk I, (∀ b o, s.heap.get? b = some o → h.get? b = some o) → s.heap.get? I = none → TurnC PySem.Challenge.rw_sv0008_01.row.prog w A env elt [] x scope cl { s with heap := h, toks := tk } I 8 (fun i v => ∃ t, v = .int (i : Int) t) B ds)
    (fin : ∀ D h tk ys news, h.Ns env.locals (fun z => if z = y then some (.ref D) else m z) → (∀ b o, b ≠ env.locals → s.heap.get? b = some o → h.get? b = some o) → h.get? D = some (lst ys) → DatAll news ys ((List.range 8).filterMap ds) → (∀ p ∈ news, h.get? p.1 = some p.2 ∧ p.1 ≠ D ∧ Gd B p) → s.heap.get? D = none → Q .next { s with heap := h, toks := tk }) :
    wpAny (model PySem.Challenge.rw_sv0008_01.row.prog w) A (exec (.Assign [.Name y py] (.ListComp elt [⟨.Name x px, .Call (.Name "range" p1) [.Constant (.int 8) k0 p2] [] p3, [], 0⟩] scope pos) spos) env) Q E s := by
  rw [exec_Assign_Name_used _ _ _ _ hsw]
  refine wpAny_bind (wpAny_standAt (wpAny_bind ?_))
  show wpAny _ A (do let _ ← comprehension (.ListComp elt [⟨.Name x px, .Call (.Name "range" p1) [.Constant (.int 8) k0 p2] [] p3, [], 0⟩] scope pos) scope env _ (newList []) false (eval (.Call (.Name "range" p1) [.Constant (.int 8) k0 p2] [] p3) env) (some (assign (.Name y py) env))) _ _ s
  refine wpAny_bind (wpAny_mono (wpAny_comprehension_free (use := some (assign (.Name y py) env)) (Q := fun _ s' => Q .next s') rfl hs hclos hkind hnames
    (range8 X T hg hbn hke hxr fun h1 tk1 r t u v k1 hr => ?_)) (fun _ s' hq => wpAny_pure (wpAny_pure hq)) fun _ _ e => e)
  refine wpAny_pyIter_range hr rfl ?_
  dsimp only
  have hI : s.heap.get? h1.objs.size = none := by
    cases q : s.heap.get? h1.objs.size with
    | none => rfl
    | some o => exact absurd (Heap.lt_size (k1 _ _ q)) (Nat.lt_irrefl _)
  have k2 : ∀ {o : Obj} b o', s.heap.get? b = some o' → (h1.push o).get? b = some o' := fun b o' e => Heap.get?_push_of_some _ (k1 b o' e)
  have W := LCg.range_walks (prog := PySem.Challenge.rw_sv0008_01.row.prog) (w := w) (A := A) (I := h1.objs.size) hh 0 8
  simp only [Int.zero_add] at W
  have hLI : env.locals ≠ h1.objs.size := fun q => by
    obtain ⟨o, _, _, ho, _⟩ := hL
    rw [q, hI] at ho; cases ho
  refine comp_cell W (by rw [sizeLine_eq]; decide) (fun i h st => ⟨_, st⟩) hcell hkind hx (hL.keeps k2) hLI hy hp ?_ (fun b hb => ?_) B ds (turn _ _ _ k2 hI) ?_
  · show (h1.push _).get? h1.objs.size = some _
    have e : Builtin.Range.rangeSize 0 8 1 = 8 := by decide
    rw [e]
    exact Heap.get?_push_size _ rfl
  · rw [List.mem_singleton.mp hb]
    show h1.objs.size < (h1.push _).objs.size
    rw [Heap.size_push]; exact Nat.lt_succ_self _
  · intro D h tk ys news hn hk hD hA hLd hf
    refine fin D h tk ys news hn (fun b o hb e => hk b o (fun q => by rw [q, hI] at e; cases e) hb (k2 b o e)) hD hA hLd ?_
    cases q : s.heap.get? D with
    | none => rfl
    | some o => rw [k2 _ _ q] at hf; cases hf
end
end
end Mine

end

section
set_option maxRecDepth 100000
set_option maxHeartbeats 4000000
namespace Mine
noncomputable section
section
variable {w : World} {E : Value → Shared → Prop} {s : Shared} {mg mb m : Str → Option Value} {mean : ExcName → Option Value} {h₀ : Heap} {L fa d pd nl r : Addr} {cd : Value} {ws : List Value} {kd kp kt : List (Int × Value)}
theorem seg_due {xs : List Int} {Q : Flow → Shared → Prop} (X₀ : (hd.heap_39 w.params).In h₀) (T : Top hd.view_39 (looseW hd.view_39 [Str.ofString "ABC", Str.ofString "AbstractContextManager"]) mean mg mb h₀)
    (W : Lx PySem.Challenge.rw_sv0008_01.row.prog w h₀ s.heap L d pd nl r m ws kd kp kt) (hpL : pd ≠ L) (hrL : r ≠ L) (hP : All2 (RowP s.heap) kp (fin xs).2)
    (next : ∀ h' tk D ys news, Lx PySem.Challenge.rw_sv0008_01.row.prog w h₀ h' L d pd nl r (fun z => if z = "due" then some (.ref D) else m z) ws kd kp kt → (∀ b o, b ≠ L → s.heap.get? b = some o → h'.get? b = some o) → h'.get? D = some (lst ys) → h₀.get? D = none → DatAll news ys ((List.range 8).map fun (i : Nat) => dueRow (fin xs).2 (i : Int)) → (∀ p ∈ news, h'.get? p.1 = some p.2 ∧ Gd h₀ p) →
      wpAny (model PySem.Challenge.rw_sv0008_01.row.prog w) (callerA.deeper (lawEnv L fa cd)) (execs (lawBody.drop 7) (lawEnv L fa cd)) Q E { s with heap := h', toks := tk }) :
    wpAny (model PySem.Challenge.rw_sv0008_01.row.prog w) (callerA.deeper (lawEnv L fa cd)) (execs (lawBody.drop 6) (lawEnv L fa cd)) Q E s := by
  revert next
  unfold lawBody lawX
  dsimp only [List.drop]
  intro next
  refine wpAny_execs_cons ?_
  refine comp8c (env := lawEnv L fa cd) (m := m) (cl := [(Str.ofString "passed", L + 1 + 1)]) ?hh (X₀.keeps W.keep) (T.keeps W.keep) ?hg ?hbn ?hke ?hxr ?hsw ?hclos ?hcell ?hkind ?hnames ?hx ?hs W.ns ?hy ?hp h₀ (fun i => some (dueRow (fin xs).2 (i : Int))) ?turn ?fin
  case hh => rfl
  case hg => rfl
  case hbn => rfl
  case hke => rfl
  case hxr => rfl
  case hsw => rfl
  case hclos => rfl
  case hcell => intro h n; exact ⟨rfl, rfl⟩
  case hkind => rfl
  case hnames => decide
  case hx => rfl
  case hs => intro _; rfl
  case hy => rfl
  case hp => rfl
  case turn =>
    intro h1 tk1 I k1 hI C i v h tk E' hi hPv hC hO
    obtain ⟨t, rfl⟩ := hPv
    refine wpAny_tests_nil ⟨h, tk, rfl, fun _ _ e => e, ?_⟩
    rw [if_pos rfl]
    have hk : ∀ b o, s.heap.get? b = some o → h.get? b = some o := fun b o e => hO b o (fun q => by rw [q, hI] at e; cases e) (k1 b o e)
    have W1 := W.keeps hk
    refine wpAny_Tuple (args_cons ?_)
    refine wpAny_Name (wpAny_loadName_cell rfl rfl rfl hC ?_)
    refine args_cons ?_
    refine comp8 (cl := [(Str.ofString "passed", L + 1 + 1), (Str.ofString "k", C + 1)]) ?hh2 (X₀.keeps W1.keep) (T.keeps W1.keep) ?hg2 ?hbn2 ?hke2 ?hxr2 ?hclos2 ?hcell2 ?hkind2 ?hnames2 ?hx2 ?hs2 h₀ (fun j => if decide ((i : Int) ∈ look (fin xs).2 (j : Int)) = true then some (.int (j : Int)) else none) ?turn2 ?fin2
    case hh2 => rfl
    case hg2 => rfl
    case hbn2 => rfl
    case hke2 => rfl
    case hxr2 => rfl
    case hclos2 => rfl
    case hcell2 => decide
    case hkind2 => rfl
    case hnames2 => decide
    case hx2 => rfl
    case hs2 => intro _; rfl
    case turn2 =>
      intro h2 tk2 I2 k2 hI2 C2 j v2 g tkg mC E2 hj hPv2 hns2 hmx2 hO2
      obtain ⟨t2, rfl⟩ := hPv2
      have hg : ∀ b o, h.get? b = some o → g.get? b = some o := fun b o e => hO2 b o (fun q => by have e' : h.get? b = some o := e; rw [q] at e'; have hI' : h.get? I2 = none := hI2; rw [hI'] at e'; cases e') (k2 b o e)
      have W2 := W1.keeps hg
      refine wpAny_tests_one (wpAny_isTrue_Compare1 ?_)
      refine wpAny_Name (wpAny_loadName_cell rfl rfl rfl (hC.keeps hg) ?_)
      refine Subscript_ ?_
      refine wpAny_Name (wpAny_loadName_cell rfl rfl rfl W2.cp ?_)
      refine wpAny_Name (wpAny_loadName_local rfl rfl hns2 hmx2 ?_)
      obtain ⟨v5, hv5, a5, us5, n5, rfl, ha5, hi5⟩ := RowP.find hP (keys_all xs (j : Int) (by omega) (by omega))
      refine dict_item (knd := intKind PySem.Challenge.rw_sv0008_01.row.prog w) W2.dp (intKind_is _ _ _ _) hv5 ?_
      have ha5g := hg _ _ (hk _ _ ha5)
      refine kqd_isIn (h₀ := ({} : Heap)) (L := L) (news := [(a5, PySem.W.listOf us5.toArray n5)]) (n₁ := []) (n₂ := []) (oa := PySem.W.listOf us5.toArray n5) (ds := (look (fin xs).2 (j : Int)).map Dat.int) (d := .int (i : Int)) ?nn (.head _) rfl rfl (ints_dat hi5) (fun p hp => by cases hp) (.int _ _) (fun p hp => by cases hp) ?_ rfl (Nat.le_of_ble_eq_true rfl) ?_
      case nn =>
        intro p hp
        rw [List.mem_singleton.mp hp]
        refine ⟨ha5g, ne_frame (p := (a5, PySem.W.listOf us5.toArray n5)) W2.ns ha5g (fun _ _ q => by cases q), ?_⟩
        simp [Heap.get?]
      · intro x hx
        obtain ⟨n, _, rfl⟩ := List.mem_map.mp hx
        rfl
      rw [mem_dat]
      refine wpAny_truthy_bool ?_
      refine ⟨g, _, rfl, fun _ _ e => e, ?_⟩
      by_cases hq : (i : Int) ∈ look (fin xs).2 (j : Int)
      · rw [decide_eq_true hq, if_pos rfl]
        refine wpAny_Name (wpAny_loadName_local rfl rfl hns2 hmx2 ?_)
        exact ⟨g, _, .int (j : Int), [], rfl, fun _ _ e => e, by simp [hq], .int _ _, fun p hp => by cases hp⟩
      · rw [decide_eq_false hq, if_neg (by simp)]
        simp [hq]
    case fin2 =>
      intro D2 h2 tk2 ys2 n2 k2 g2 A2 G2 f2
      refine args_nil ⟨(by rw [sizeLine_eq]; simp), ?_⟩
      dsimp only at k2 f2 ⊢
      rw [filterMap_if] at A2
      have A2' : DatAll n2 ys2 ((namesOf (fin xs).2 (i : Int)).map Dat.int) := by
        unfold namesOf
        rw [List.map_map]
        exact A2
      have hints := dat_ints A2'
      have k3 : ∀ {ob : Obj} b o, h2.get? b = some o → (h2.push ob).get? b = some o := fun b o e => Heap.get?_push_of_some _ e
      have hTn : h.get? h2.objs.size = none := by
        cases q : h.get? h2.objs.size with
        | none => rfl
        | some o => exact absurd (Heap.lt_size (k2 _ _ q)) (Nat.lt_irrefl _)
      refine ⟨_, _, dueRow (fin xs).2 (i : Int), [(h2.objs.size, { cls := .type "tuple", data := .seq [Value.int (i : Int) t, .ref D2].toArray }), (D2, lst ys2)], rfl, fun b o e => k3 b o (k2 b o e), rfl, ?_, ?_⟩
      · refine DatIn.tuple (vs := [Value.int (i : Int) t, .ref D2]) (n := 0) (.head _) (.cons (.int _ _) (.cons ?_ .nil))
        exact DatIn.list (vs := ys2) (n := ys2.length) (.tail _ (.head _)) (ints_dat hints)
      · intro p hp
        rcases List.mem_cons.mp hp with rfl | hp
        · exact ⟨Heap.get?_push_size _ rfl, .inl hTn, (fun _ _ q => by cases q), new_none W1.keep hTn⟩
        · rw [List.mem_singleton.mp hp]
          exact ⟨k3 _ _ g2, .inl f2, (fun _ _ q => by cases q), new_none W1.keep f2⟩
  case fin =>
    intro D h' tk' ys news hn hk hD hA hG hf
    have W' := W.stepL hn hk hpL hrL
    refine next h' tk' D ys news W' hk hD (new_none W.keep hf) ?_ (fun p hp => ⟨(hG p hp).1, (hG p hp).2.2⟩)
    have e : (List.range 8).filterMap (fun (i : Nat) => some (dueRow (fin xs).2 (i : Int))) = (List.range 8).map fun (i : Nat) => dueRow (fin xs).2 (i : Int) := by simp
    rw [e] at hA
    exact hA
end
end
end Mine

end

section
set_option maxRecDepth 100000
set_option maxHeartbeats 4000000
namespace Mine
theorem sorted_unique : ∀ {l1 l2 : List Int}, l1.Pairwise (· ≤ ·) → l2.Pairwise (· ≤ ·) → l1.Perm l2 → l1 = l2
  | [], l2, _, _, h => (List.Perm.nil_eq h)
  | a :: l1, [], _, _, h => absurd h.length_eq (by simp)
  | a :: l1, b :: l2, h1, h2, h => by
    obtain ⟨a1, a2⟩ := List.pairwise_cons.mp h1
    obtain ⟨b1, b2⟩ := List.pairwise_cons.mp h2
    have hab : a = b := by
      have ha : a ∈ b :: l2 := h.subset (.head _)
      have hb : b ∈ a :: l1 := h.symm.subset (.head _)
      rcases List.mem_cons.mp ha with q | q
      · exact q
      · rcases List.mem_cons.mp hb with q' | q'
        · exact q'.symm
        · exact Int.le_antisymm (a1 b q') (b1 a q)
    subst hab
    rw [sorted_unique a2 b2 (List.perm_cons a |>.mp h)]
theorem strict_unique : ∀ {l1 l2 : List Int}, l1.Pairwise (· < ·) → l2.Pairwise (· < ·) → (∀ x, x ∈ l1 ↔ x ∈ l2) → l1 = l2
  | [], [], _, _, _ => rfl
  | [], b :: l2, _, _, h => absurd ((h b).mpr (.head _)) (by simp)
  | a :: l1, [], _, _, h => absurd ((h a).mp (.head _)) (by simp)
  | a :: l1, b :: l2, h1, h2, h => by
    obtain ⟨a1, a2⟩ := List.pairwise_cons.mp h1
    obtain ⟨b1, b2⟩ := List.pairwise_cons.mp h2
    have hab : a = b := by
      rcases List.mem_cons.mp ((h a).mp (.head _)) with q | q
      · exact q
      · rcases List.mem_cons.mp ((h b).mpr (.head _)) with q' | q'
        · exact q'.symm
        · have := a1 b q'; have := b1 a q; omega
    subst hab
    congr 1
    refine strict_unique a2 b2 fun x => ⟨fun hx => ?_, fun hx => ?_⟩
    · rcases List.mem_cons.mp ((h x).mp (.tail _ hx)) with q | q
      · have := a1 x hx; omega
      · exact q
    · rcases List.mem_cons.mp ((h x).mpr (.tail _ hx)) with q | q
      · have := b1 x hx; omega
      · exact q
-- the keys of the rows
theorem pstep_keys (xs : List Int) (σ : St2) (p : Nat) : (pstep xs σ p).2.map (·.1) = σ.2.map (·.1) ++ [nm p] := by
  unfold pstep
  split <;> simp
theorem keys_fin (xs : List Int) : (fin xs).2.map (·.1) = [5, 0, 3, 6, 1, 4, 7, 2] := by
  unfold fin
  simp only [List.foldl_cons, List.foldl_nil, pstep_keys]
  rfl
theorem look_row {P : List (Int × List Int)} (h : (P.map (·.1)).Nodup) : ∀ r ∈ P, look P r.1 = r.2 := by
  induction P with
  | nil => intro r hr; cases hr
  | cons q P ih =>
    rw [List.map_cons, List.nodup_cons] at h
    intro r hr
    unfold look
    rw [List.find?_cons]
    rcases List.mem_cons.mp hr with rfl | hr
    · simp
    · have hne : q.1 ≠ r.1 := fun e => h.1 (e ▸ List.mem_map_of_mem hr)
      simp only [hne, decide_false]
      exact ih h.2 r hr
-- reverse_dict
theorem look_cons (q : Int × List Int) (R : List (Int × List Int)) (v : Int) : look (q :: R) v = if q.1 = v then q.2 else look R v := by
  unfold look
  rw [List.find?_cons]
  by_cases h : q.1 = v
  · simp [h]
  · simp [h]
theorem find_map {R : List (Int × List Int)} {v : Int} {x : List Int} (v' : Int) : look (R.map fun kv => if kv.1 = v then (kv.1, x) else kv) v' = if v' = v ∧ v ∈ R.map (·.1) then x else look R v' := by
  induction R with
  | nil => simp [look]
  | cons q R ih =>
    rw [List.map_cons, look_cons, look_cons, ih]
    by_cases hq : q.1 = v
    · rw [if_pos hq]
      by_cases hv : v' = v
      · subst hv
        simp [hq]
      · have h1 : ¬ q.1 = v' := fun e => hv (e.symm.trans hq)
        simp [h1, hv]
    · rw [if_neg hq]
      by_cases h1 : q.1 = v'
      · have hv : ¬ v' = v := fun e => hq (h1.trans e)
        simp [h1, hv]
      · by_cases hv : v' = v
        · subst hv
          have this : ¬ v' = q.1 := fun e => hq e.symm
          have e2 : (v' ∈ (q :: R).map (·.1)) = (v' ∈ R.map (·.1)) := by
            rw [List.map_cons, List.mem_cons]
            exact propext ⟨fun z => z.resolve_left this, .inr⟩
          rw [if_neg h1, if_neg h1]
          simp only [e2]
        · simp [h1, hv]
theorem any_mem {R : List (Int × List Int)} {v : Int} : (R.any fun kv => decide (kv.1 = v)) = true ↔ v ∈ R.map (·.1) := by
  rw [List.any_eq_true]
  simp only [decide_eq_true_eq, List.mem_map]
theorem look_none {R : List (Int × List Int)} {v : Int} (h : v ∉ R.map (·.1)) : look R v = [] := by
  unfold look
  rw [List.find?_eq_none.mpr]
  · rfl
  · intro x hx
    simp only [decide_eq_true_eq]
    exact fun e => h (e ▸ List.mem_map_of_mem hx)
theorem look_radd (k : Int) (R : List (Int × List Int)) (v v' : Int) : look (radd k R v) v' = if v' = v then look R v ++ [k] else look R v' := by
  unfold radd storedL
  by_cases h : (R.any fun kv => decide (kv.1 = v)) = true
  · rw [if_pos h, find_map]
    have hm := any_mem.mp h
    by_cases hv : v' = v <;> simp [hv, hm]
  · rw [if_neg h]
    have hm : v ∉ R.map (·.1) := fun q => h (any_mem.mpr q)
    rw [look_append (fun r hr (e : r.1 = v) => hm (e ▸ List.mem_map_of_mem hr)), look_none hm]
theorem keys_radd (k : Int) (R : List (Int × List Int)) (v : Int) : (radd k R v).map (·.1) = if v ∈ R.map (·.1) then R.map (·.1) else R.map (·.1) ++ [v] := by
  unfold radd storedL
  by_cases h : (R.any fun kv => decide (kv.1 = v)) = true
  · rw [if_pos h, if_pos (any_mem.mp h), List.map_map]
    refine List.map_congr_left fun x _ => ?_
    simp only [Function.comp]
    split <;> rfl
  · rw [if_neg h, if_neg (fun q => h (any_mem.mpr q))]
    simp
theorem fold_row (k : Int) : ∀ (l : List Int) (R : List (Int × List Int)), l.Nodup → (R.map (·.1)).Nodup →
    (∀ v, look (l.foldl (radd k) R) v = look R v ++ if v ∈ l then [k] else []) ∧ (∀ v, v ∈ (l.foldl (radd k) R).map (·.1) ↔ v ∈ R.map (·.1) ∨ v ∈ l) ∧ ((l.foldl (radd k) R).map (·.1)).Nodup
  | [], R, _, hR => ⟨fun v => by simp, fun v => by simp, hR⟩
  | a :: l, R, hl, hR => by
    obtain ⟨h1, h2⟩ := List.nodup_cons.mp hl
    have hk := keys_radd k R a
    have hR' : ((radd k R a).map (·.1)).Nodup := by
      rw [hk]
      split
      · exact hR
      · rename_i hn
        rw [List.nodup_append]
        exact ⟨hR, by simp, fun x hx y hy e => hn (by rw [List.mem_singleton.mp hy] at e; exact e ▸ hx)⟩
    obtain ⟨i1, i2, i3⟩ := fold_row k l (radd k R a) h2 hR'
    refine ⟨fun v => ?_, fun v => ?_, i3⟩
    · rw [List.foldl_cons, i1 v, look_radd]
      by_cases hv : v = a
      · subst hv
        simp [h1]
      · simp [hv]
    · rw [List.foldl_cons, i2 v, hk]
      by_cases ha : a ∈ R.map (·.1)
      · rw [if_pos ha, List.mem_cons]
        constructor
        · rintro (q | q)
          · exact .inl q
          · exact .inr (.inr q)
        · rintro (q | q | q)
          · exact .inl q
          · exact .inl (q ▸ ha)
          · exact .inr q
      · rw [if_neg ha, List.mem_append, List.mem_singleton, List.mem_cons, or_assoc]
theorem fold_rows : ∀ (P R : List (Int × List Int)), (∀ r ∈ P, r.2.Nodup) → (R.map (·.1)).Nodup →
    (∀ v, look (P.foldl (fun R r => r.2.foldl (radd r.1) R) R) v = look R v ++ (P.filter fun r => decide (v ∈ r.2)).map (·.1)) ∧ (∀ v, v ∈ (P.foldl (fun R r => r.2.foldl (radd r.1) R) R).map (·.1) ↔ v ∈ R.map (·.1) ∨ ∃ r ∈ P, v ∈ r.2) ∧ ((P.foldl (fun R r => r.2.foldl (radd r.1) R) R).map (·.1)).Nodup
  | [], R, _, hR => ⟨fun v => by simp, fun v => by simp, hR⟩
  | r :: P, R, hP, hR => by
    obtain ⟨a1, a2, a3⟩ := fold_row r.1 r.2 R (hP r (.head _)) hR
    obtain ⟨i1, i2, i3⟩ := fold_rows P (r.2.foldl (radd r.1) R) (fun q hq => hP q (.tail _ hq)) a3
    refine ⟨fun v => ?_, fun v => ?_, i3⟩
    · rw [List.foldl_cons, i1 v, a1 v, List.append_assoc]
      congr 1
      by_cases hv : v ∈ r.2
      · rw [if_pos hv, List.filter_cons_of_pos (by simpa using hv)]; rfl
      · rw [if_neg hv, List.filter_cons_of_neg (by simpa using hv)]; rfl
    · rw [List.foldl_cons, i2 v, a2 v, or_assoc]
      constructor
      · rintro (q | q | ⟨x, hx, q⟩)
        · exact .inl q
        · exact .inr ⟨r, .head _, q⟩
        · exact .inr ⟨x, .tail _ hx, q⟩
      · rintro (q | ⟨x, hx, q⟩)
        · exact .inl q
        · rcases List.mem_cons.mp hx with rfl | hx
          · exact .inr (.inl q)
          · exact .inr (.inr ⟨x, hx, q⟩)
end Mine

end

section
set_option maxRecDepth 100000
set_option maxHeartbeats 4000000
namespace Mine
theorem nodup_sub : ∀ {l m : List Int}, l.Nodup → (∀ x ∈ l, x ∈ m) → l.length ≤ m.length
  | [], _, _, _ => Nat.zero_le _
  | a :: l, m, h, hs => by
    obtain ⟨h1, h2⟩ := List.nodup_cons.mp h
    have ha : a ∈ m := hs a (.head _)
    have := nodup_sub (m := m.erase a) h2 fun x hx => (List.mem_erase_of_ne (fun e : x = a => h1 (e ▸ hx))).mpr (hs x (.tail _ hx))
    have hl := List.length_erase_of_mem ha
    have hp : 0 < m.length := List.length_pos_of_mem ha
    simp only [List.length_cons]
    omega
theorem look_mem {P : List (Int × List Int)} {k : Int} (h : k ∈ P.map (·.1)) : ∃ r ∈ P, r.1 = k ∧ look P k = r.2 := by
  induction P with
  | nil => cases h
  | cons q P ih =>
    rw [look_cons]
    by_cases hq : q.1 = k
    · exact ⟨q, .head _, hq, by rw [if_pos hq]⟩
    · rw [List.map_cons, List.mem_cons] at h
      obtain ⟨r, a, b, c⟩ := ih (h.resolve_left fun e => hq e.symm)
      exact ⟨r, .tail _ a, b, by rw [if_neg hq]; exact c⟩
theorem rank_nm {p q : Nat} (h : p < q) (h7 : q ≤ 7) : rankOf (nm q) < rankOf (nm p) := by
  have d : ∀ p ∈ List.range 8, ∀ q ∈ List.range 8, p < q → rankOf (nm q) < rankOf (nm p) := by decide
  exact d p (List.mem_range.mpr (by omega)) q (List.mem_range.mpr (by omega)) h
def Down (σ : St2) : Prop := ∀ r ∈ σ.2, (r.1 :: r.2).Pairwise (fun a b => rankOf b < rankOf a) ∧ ∀ x ∈ r.2, ∃ j, 1 ≤ j ∧ j ≤ 7 ∧ x = nm j
theorem down_step {xs : List Int} {p : Nat} {σ : St2} (hp : p < 7) (h : Ok2 (p + 1) σ) (hd : Down σ) : Down (pstep xs σ p) := by
  have b := idx_bounds xs hp
  have hT : tgtOf xs p ∈ σ.2.map (·.1) := h.2.2.1 _ (by omega) (by omega)
  have hTr : rankOf (tgtOf xs p) < rankOf (nm p) := rank_nm (p := p) (q := (idxOf xs p).toNat) (by omega) (by omega)
  unfold pstep
  split
  · intro r hr
    rcases List.mem_append.mp hr with hr | hr
    · exact hd r hr
    · rw [List.mem_singleton.mp hr]
      exact ⟨List.pairwise_singleton _ _, fun x hx => by cases hx⟩
  · intro r hr
    rcases List.mem_append.mp hr with hr | hr
    · exact hd r hr
    · rw [List.mem_singleton.mp hr]
      obtain ⟨r', a1, a2, a3⟩ := look_mem hT
      obtain ⟨d1, d2⟩ := hd r' a1
      dsimp only
      rw [a3]
      rw [a2] at d1
      refine ⟨?_, fun x hx => ?_⟩
      · refine List.pairwise_cons.mpr ⟨fun x hx => ?_, d1⟩
        rcases List.mem_cons.mp hx with rfl | hx
        · exact hTr
        · exact Nat.lt_trans ((List.pairwise_cons.mp d1).1 x hx) hTr
      · rcases List.mem_cons.mp hx with rfl | hx
        · exact ⟨(idxOf xs p).toNat, by omega, by omega, rfl⟩
        · exact d2 x hx
theorem pst_down (xs : List Int) : ∀ i, i ≤ 7 → Down (pst xs i)
  | 0, _ => by
    intro r hr
    have : r = (5, []) := by simpa [pst] using hr
    rw [this]
    exact ⟨List.pairwise_singleton _ _, fun x hx => by cases hx⟩
  | i + 1, hi => by
    rw [pst_succ xs i (by omega)]
    have h1 := pst_ok xs i (by omega)
    have e : 7 - i = (6 - i) + 1 := by omega
    rw [e] at h1
    exact down_step (by omega) h1 (pst_down xs i (by omega))
theorem fin_down (xs : List Int) : Down (fin xs) := by rw [← pst_fin]; exact pst_down xs 7 (by omega)
theorem fin_nodup (xs : List Int) : ∀ r ∈ (fin xs).2, r.2.Nodup := fun r hr => by
  have h := ((List.pairwise_cons.mp (fin_down xs r hr).1).2)
  exact h.imp fun {a b} hab e => by rw [e] at hab; exact Nat.lt_irrefl _ hab
theorem fin_keys_nodup (xs : List Int) : ((fin xs).2.map (·.1)).Nodup := by rw [keys_fin]; decide
/-- the keys that reverse_dict tells of -/
def toldKeys (xs : List Int) : List Int := (rev (fin xs).2).map (·.1)
theorem rev_facts (xs : List Int) : (∀ v, look (rev (fin xs).2) v = ((fin xs).2.filter fun r => decide (v ∈ r.2)).map (·.1)) ∧ (∀ v, v ∈ toldKeys xs ↔ ∃ r ∈ (fin xs).2, v ∈ r.2) ∧ (toldKeys xs).Nodup := by
  obtain ⟨a, b, c⟩ := fold_rows (fin xs).2 [] (fin_nodup xs) List.nodup_nil
  refine ⟨fun v => ?_, fun v => ?_, c⟩
  · have := a v
    rw [show look ([] : List (Int × List Int)) v = [] from rfl, List.nil_append] at this
    exact this
  · refine (b v).trans ⟨fun h => ?_, .inr⟩
    rcases h with h | h
    · cases h
    · exact h
theorem names_eq (xs : List Int) (k : Int) : namesOf (fin xs).2 k = [0, 1, 2, 3, 4, 5, 6, 7].filter fun x => decide (k ∈ look (fin xs).2 x) := by
  unfold namesOf
  have e : ([0, 1, 2, 3, 4, 5, 6, 7] : List Int) = (List.range 8).map fun (i : Nat) => (i : Int) := by decide
  rw [e, List.filter_map]
  rfl
theorem told_perm (xs : List Int) (k : Int) : (look (rev (fin xs).2) k).Perm (namesOf (fin xs).2 k) := by
  rw [(rev_facts xs).1, names_eq]
  have hP : (fin xs).2 = ((fin xs).2.map (·.1)).map fun x => (x, look (fin xs).2 x) := by
    rw [List.map_map]
    conv => lhs; rw [← List.map_id (fin xs).2]
    refine List.map_congr_left fun r hr => ?_
    simp only [Function.comp, id]
    rw [look_row (fin_keys_nodup xs) r hr]
  have e : ((fin xs).2.filter fun r => decide (k ∈ r.2)).map (·.1) = ((fin xs).2.map (·.1)).filter fun x => decide (k ∈ look (fin xs).2 x) := by
    rw [List.filter_map]
    congr 1
    refine List.filter_congr fun r hr => ?_
    simp only [Function.comp]
    rw [look_row (fin_keys_nodup xs) r hr]
  rw [e, keys_fin]
  refine List.Perm.filter _ ?_
  decide
theorem names_strict (xs : List Int) (k : Int) : (namesOf (fin xs).2 k).Pairwise (· < ·) := by
  rw [names_eq]
  exact List.Pairwise.filter _ (by decide)
theorem sorted_told {xs : List Int} {k : Int} {ns : List Int} (h1 : ns.Perm (look (rev (fin xs).2) k)) (h2 : ns.Pairwise (· ≤ ·)) : ns = namesOf (fin xs).2 k :=
  sorted_unique h2 ((names_strict xs k).imp fun h => Int.le_of_lt h) (h1.trans (told_perm xs k))
theorem mem_names {xs : List Int} {k x : Int} : x ∈ namesOf (fin xs).2 k ↔ x ∈ (fin xs).2.map (·.1) ∧ k ∈ look (fin xs).2 x := by
  rw [names_eq, List.mem_filter, keys_fin]
  simp only [decide_eq_true_eq, List.mem_cons, List.not_mem_nil, or_false]
  constructor
  · rintro ⟨h, h'⟩; exact ⟨by omega, h'⟩
  · rintro ⟨h, h'⟩; exact ⟨by omega, h'⟩
theorem told_iff (xs : List Int) (k : Int) : k ∈ toldKeys xs ↔ namesOf (fin xs).2 k ≠ [] := by
  rw [(rev_facts xs).2.1]
  constructor
  · rintro ⟨r, hr, hk⟩ e
    have : r.1 ∈ namesOf (fin xs).2 k := mem_names.mpr ⟨List.mem_map_of_mem hr, by rw [look_row (fin_keys_nodup xs) r hr]; exact hk⟩
    rw [e] at this
    cases this
  · intro h
    obtain ⟨x, hx⟩ := List.exists_mem_of_ne_nil _ h
    obtain ⟨a, b⟩ := mem_names.mp hx
    obtain ⟨r, c1, c2, c3⟩ := look_mem a
    exact ⟨r, c1, c3 ▸ b⟩
theorem told_small (xs : List Int) {k : Int} (h : k ∈ toldKeys xs) : k ∈ ([7, 4, 1, 6, 3, 0, 5] : List Int) := by
  obtain ⟨r, hr, hk⟩ := ((rev_facts xs).2.1 k).mp h
  obtain ⟨j, h1, h2, rfl⟩ := (fin_down xs r hr).2 k hk
  have d : ∀ j ∈ List.range 8, 1 ≤ j → nm j ∈ ([7, 4, 1, 6, 3, 0, 5] : List Int) := by decide
  exact d j (List.mem_range.mpr (by omega)) h1
theorem told_len (xs : List Int) : (toldKeys xs).length ≤ 7 := nodup_sub (rev_facts xs).2.2 fun _ h => told_small xs h
/-- the keys of the rows that are due -/
def dueKeys (xs : List Int) : List Int := ((List.range 8).filter fun (i : Nat) => decide (namesOf (fin xs).2 (i : Int) ≠ [])).map fun (i : Nat) => (i : Int)
theorem due_eq {xs : List Int} {l : List Int} (h1 : l.Pairwise (· < ·)) (h2 : ∀ x, x ∈ l ↔ x ∈ toldKeys xs) : l = dueKeys xs := by
  refine strict_unique h1 ?_ fun x => ?_
  · unfold dueKeys
    rw [List.pairwise_map]
    refine (List.Pairwise.filter _ List.pairwise_lt_range).imp fun h => by omega
  · rw [h2]
    unfold dueKeys
    rw [List.mem_map]
    constructor
    · intro hx
      have hs := told_small xs hx
      have hx8 : 0 ≤ x ∧ x < 8 := by
        simp only [List.mem_cons, List.not_mem_nil, or_false] at hs
        omega
      refine ⟨x.toNat, List.mem_filter.mpr ⟨List.mem_range.mpr (by omega), ?_⟩, by omega⟩
      rw [show ((x.toNat : Nat) : Int) = x by omega]
      exact decide_eq_true ((told_iff xs x).mp hx)
    · rintro ⟨i, hi, rfl⟩
      have := (List.mem_filter.mp hi).2
      exact (told_iff xs _).mpr (of_decide_eq_true this)
end Mine

end

section
set_option maxRecDepth 100000
set_option maxHeartbeats 4000000
namespace Mine
def Gk (ks : List Int) (p : Array Nat) (i : Nat) : Int := ks.getD (p.getD i 0) 0
def Pm (n : Nat) (p : Array Nat) : Prop := p.Perm (List.range n).toArray
def Srt (ks : List Int) (p : Array Nat) (m : Nat) : Prop := ∀ i, 1 ≤ i → i < m → Gk ks p (i - 1) < Gk ks p i
section
variable {n : Nat} {ks : List Int} {p : Array Nat}
theorem Pm.perm (h : Pm n p) : p.toList.Perm (List.range n) := by
  have := Array.perm_iff_toList_perm.mp h
  simpa using this
theorem Pm.size (h : Pm n p) : p.size = n := by
  have := h.perm.length_eq
  simpa using this
theorem Pm.at (h : Pm n p) {i : Nat} (hi : i < n) : ∃ x, p[i]? = some x ∧ p.getD i 0 = x ∧ x < n := by
  have hs : i < p.size := by rw [h.size]; exact hi
  refine ⟨p[i], Array.getElem?_eq_getElem hs, by simp [Array.getD, hs], ?_⟩
  have hm : p[i] ∈ p.toList := by simp
  exact List.mem_range.mp (h.perm.mem_iff.mp hm)
theorem Pm.ne (h : Pm n p) {i j : Nat} (hi : i < n) (hj : j < n) (hij : i ≠ j) : p.getD i 0 ≠ p.getD j 0 := fun q => by
  have hnd : p.toList.Nodup := h.perm.nodup_iff.mpr List.nodup_range
  have h1 : i < p.size := by rw [h.size]; exact hi
  have h2 : j < p.size := by rw [h.size]; exact hj
  have q' : p.toList[i]'(by simpa using h1) = p.toList[j]'(by simpa using h2) := by
    simpa [Array.getD, h1, h2] using q
  exact hij ((List.getElem_inj hnd).mp q')
theorem Gk_ne (hl : ks.length = n) (hnd : ks.Nodup) (h : Pm n p) {i j : Nat} (hi : i < n) (hj : j < n) (hij : i ≠ j) : Gk ks p i ≠ Gk ks p j := fun q => by
  obtain ⟨x, _, e1, h1⟩ := h.at hi
  obtain ⟨y, _, e2, h2⟩ := h.at hj
  have hne := h.ne hi hj hij
  rw [e1, e2] at hne
  unfold Gk at q
  rw [e1, e2] at q
  have a1 : x < ks.length := by omega
  have a2 : y < ks.length := by omega
  simp only [List.getD, List.getElem?_eq_getElem a1, List.getElem?_eq_getElem a2, Option.getD_some] at q
  exact hne ((List.getElem_inj hnd).mp q)
theorem Srt.lt {m : Nat} (h : Srt ks p m) : ∀ {i j : Nat}, i < j → j < m → Gk ks p i < Gk ks p j := by
  intro i j hij hj
  induction j with
  | zero => omega
  | succ j ih =>
    have h1 := h (j + 1) (by omega) hj
    rw [Nat.add_sub_cancel] at h1
    by_cases hq : i = j
    · rw [hq]; exact h1
    · exact Int.lt_trans (ih (by omega) (by omega)) h1
theorem Gk_congr {q : Array Nat} {i j : Nat} (h : p[i]? = q[j]?) : Gk ks p i = Gk ks q j := by
  unfold Gk
  rw [Array.getD_eq_getD_getElem?, Array.getD_eq_getD_getElem?, h]
end
section
variable {n : Nat} {ks : List Int} {cmp : Nat → Nat → (Bool → Shared → Prop) → Shared → Prop} {s : Shared}
/-- the comparisons are those of the keys -/
def Cmp (n : Nat) (ks : List Int) (cmp : Nat → Nat → (Bool → Shared → Prop) → Shared → Prop) (s : Shared) : Prop :=
  ∀ i j (K : Bool → Shared → Prop), i < n → j < n → i ≠ j → K (decide (ks.getD i 0 < ks.getD j 0)) s → cmp i j K s
theorem ask_wp (hc : Cmp n ks cmp s) {p : Array Nat} (h : Pm n p) {i j : Nat} (hi : i < n) (hj : j < n) (hij : i ≠ j) {K : Bool → Shared → Prop} (hK : K (decide (Gk ks p i < Gk ks p j)) s) : cmp (p.getD i 0) (p.getD j 0) K s := by
  obtain ⟨x, _, e1, h1⟩ := h.at hi
  obtain ⟨y, _, e2, h2⟩ := h.at hj
  have hne := h.ne hi hj hij
  refine hc _ _ K (by rw [e1]; exact h1) (by rw [e2]; exact h2) hne hK
theorem asc_wp (hl : ks.length = n) (hnd : ks.Nodup) (hc : Cmp n ks cmp s) {p : Array Nat} (h : Pm n p) {Q : Nat → Shared → Prop} : ∀ (f m : Nat), 1 ≤ m → m + f ≤ n →
    (∀ m', m ≤ m' → m' ≤ m + f → (∀ i, m ≤ i → i < m' → Gk ks p (i - 1) < Gk ks p i) → (m' = m + f ∨ Gk ks p m' < Gk ks p (m' - 1)) → Q m' s) → (kas_asc p f m).kasWp cmp Q s
  | 0, m, _, _, hQ => hQ m (Nat.le_refl _) (Nat.le_refl _) (fun i a b => absurd b (Nat.not_lt.mpr a)) (.inl rfl)
  | f + 1, m, h1, h2, hQ => by
    show cmp _ _ _ s
    refine ask_wp hc h (by omega) (by omega) (by omega) ?_
    by_cases hq : Gk ks p m < Gk ks p (m - 1)
    · rw [decide_eq_true hq]
      exact hQ m (Nat.le_refl _) (by omega) (fun i a b => absurd b (Nat.not_lt.mpr a)) (.inr hq)
    · rw [decide_eq_false hq]
      show (kas_asc p f (m + 1)).kasWp cmp Q s
      refine asc_wp hl hnd hc h f (m + 1) (by omega) (by omega) fun m' a b c d => hQ m' (by omega) (by omega) (fun i x y => ?_) (by rcases d with d | d; exact .inl (by omega); exact .inr d)
      by_cases hi : i = m
      · subst hi
        have := Gk_ne hl hnd h (i := i) (j := i - 1) (by omega) (by omega) (by omega)
        omega
      · exact c i (by omega) y
theorem desc_wp (hl : ks.length = n) (hnd : ks.Nodup) (hc : Cmp n ks cmp s) {p : Array Nat} (h : Pm n p) {Q : Array Nat × Nat × Nat → Shared → Prop} : ∀ (f m : Nat), 1 ≤ m → m + f ≤ n →
    (∀ m', m ≤ m' → m' ≤ m + f → (∀ i, m ≤ i → i < m' → Gk ks p i < Gk ks p (i - 1)) → Q (p, m', 0) s) → (kas_desc f p m 0).kasWp cmp Q s
  | 0, m, _, _, hQ => hQ m (Nat.le_refl _) (Nat.le_refl _) (fun i a b => absurd b (Nat.not_lt.mpr a))
  | f + 1, m, h1, h2, hQ => by
    show cmp _ _ _ s
    refine ask_wp hc h (by omega) (by omega) (by omega) ?_
    by_cases hq : Gk ks p m < Gk ks p (m - 1)
    · rw [decide_eq_true hq]
      show (kas_desc f p (m + 1) 0).kasWp cmp Q s
      refine desc_wp hl hnd hc h f (m + 1) (by omega) (by omega) fun m' a b c => hQ m' (by omega) (by omega) fun i x y => ?_
      by_cases hi : i = m
      · subst hi; exact hq
      · exact c i (by omega) y
    · rw [decide_eq_false hq]
      show cmp _ _ _ s
      refine ask_wp hc h (by omega) (by omega) (by omega) ?_
      have hne := Gk_ne hl hnd h (i := m) (j := m - 1) (by omega) (by omega) (by omega)
      rw [decide_eq_true (by omega)]
      exact hQ m (Nat.le_refl _) (by omega) (fun i a b => absurd b (Nat.not_lt.mpr a))
theorem rev_at {p : Array Nat} {m k : Nat} (hm : m ≤ p.size) : Gk ks (kas_rev p 0 m) k = if k < m then Gk ks p (m - 1 - k) else Gk ks p k := by
  have e : (kas_rev p 0 m)[k]? = if 0 ≤ k ∧ k < m then p[0 + m - 1 - k]? else p[k]? := getElem?_mirror_all hm k
  by_cases hk : k < m
  · rw [if_pos hk]
    rw [if_pos ⟨Nat.zero_le _, hk⟩, Nat.zero_add] at e
    exact Gk_congr e
  · rw [if_neg hk]
    rw [if_neg (fun x => hk x.2)] at e
    exact Gk_congr e
theorem Pm.rev {p : Array Nat} (h : Pm n p) (i j : Nat) : Pm n (kas_rev p i j) := (mirror_perm p i j _).trans h
theorem count_wp (hl : ks.length = n) (hnd : ks.Nodup) (hc : Cmp n ks cmp s) {p : Array Nat} (h : Pm n p) (hn : 1 ≤ n) {Q : Nat × Array Nat → Shared → Prop}
    (hQ : ∀ m p', 1 ≤ m → m ≤ n → Pm n p' → Srt ks p' m → Q (m, p') s) : (kas_count n p).kasWp cmp Q s := by
  unfold kas_count
  rw [KasT.kasWp_bind]
  refine asc_wp hl hnd hc h (n - 1) 1 (Nat.le_refl _) (by omega) fun m a b c d => ?_
  have hs : Srt ks p m := fun i x y => c i x y
  by_cases h1 : m = n
  · rw [if_pos (by simpa using h1)]
    exact hQ m p a (by omega) h hs
  · rw [if_neg (by simpa using h1)]
    by_cases h2 : m > 1
    · rw [if_pos h2]
      show cmp _ _ _ s
      refine ask_wp hc h (by omega) (by omega) (by omega) ?_
      rw [decide_eq_true (hs.lt (by omega) (by omega))]
      exact hQ m p a (by omega) h hs
    · rw [if_neg h2]
      have hm : m = 1 := by omega
      subst hm
      have hd : Gk ks p 1 < Gk ks p 0 := by
        rcases d with d | d
        · omega
        · exact d
      unfold kas_descPart
      rw [KasT.kasWp_bind]
      refine desc_wp hl hnd hc h (n - 2) 2 (by omega) (by omega) fun m' a' b' c' => ?_
      show (kas_tail3 m' n p).kasWp cmp Q s
      unfold kas_tail3
      rw [KasT.kasWp_bind]
      have hm' : m' ≤ p.size := by rw [h.size]; omega
      have hr := h.rev 0 m'
      refine asc_wp hl hnd hc hr (n - m') m' (by omega) (by omega) fun m2 a2 b2 c2 _ => ?_
      refine hQ m2 _ (by omega) (by omega) hr fun i x y => ?_
      by_cases hi : i < m'
      · rw [rev_at hm', rev_at hm', if_pos (by omega), if_pos hi]
        have e1 : m' - 1 - (i - 1) = m' - i := by omega
        have e2 : m' - 1 - i = m' - i - 1 := by omega
        rw [e1, e2]
        by_cases h3 : m' - i = 1
        · rw [h3]; exact hd
        · exact c' (m' - i) (by omega) (by omega)
      · exact c2 i (by omega) y
theorem place_wp (hl : ks.length = n) (hnd : ks.Nodup) (hc : Cmp n ks cmp s) {p : Array Nat} (h : Pm n p) {k : Nat} (hk : k < n) (hs : Srt ks p k) {Q : Nat → Shared → Prop}
    (hQ : ∀ l, l ≤ k → (∀ i, i < l → Gk ks p i < Gk ks p k) → (∀ i, l ≤ i → i < k → Gk ks p k < Gk ks p i) → Q l s) : ∀ (f l r : Nat), r - l ≤ f → l ≤ r → r ≤ k → (∀ i, i < l → Gk ks p i < Gk ks p k) → (∀ i, r ≤ i → i < k → Gk ks p k < Gk ks p i) → (kas_place p k f l r).kasWp cmp Q s
  | 0, l, r, h1, h2, h3, h4, h5 => by
    have : l = r := by omega
    subst this
    exact hQ l h3 h4 h5
  | f + 1, l, r, h1, h2, h3, h4, h5 => by
    unfold kas_place
    by_cases hlr : l ≥ r
    · rw [if_pos hlr]
      have : l = r := by omega
      subst this
      exact hQ l h3 h4 h5
    · rw [if_neg hlr]
      show cmp _ _ _ s
      refine ask_wp hc h hk (by omega) (by omega) ?_
      by_cases hq : Gk ks p k < Gk ks p ((l + r) / 2)
      · rw [decide_eq_true hq]
        show (kas_place p k f l ((l + r) / 2)).kasWp cmp Q s
        refine place_wp hl hnd hc h hk hs hQ f l ((l + r) / 2) (by omega) (by omega) (by omega) h4 fun i x y => ?_
        by_cases hi : i = (l + r) / 2
        · subst hi; exact hq
        · exact Int.lt_trans hq (hs.lt (by omega) y)
      · rw [decide_eq_false hq]
        show (kas_place p k f ((l + r) / 2 + 1) r).kasWp cmp Q s
        refine place_wp hl hnd hc h hk hs hQ f ((l + r) / 2 + 1) r (by omega) (by omega) h3 (fun i x => ?_) h5
        have hne := Gk_ne hl hnd h (i := (l + r) / 2) (j := k) (by omega) hk (by omega)
        by_cases hi : i = (l + r) / 2
        · subst hi; omega
        · have := hs.lt (i := i) (j := (l + r) / 2) (by omega) (by omega); omega
theorem bin_wp (hl : ks.length = n) (hnd : ks.Nodup) (hc : Cmp n ks cmp s) {Q : Array Nat → Shared → Prop} (hQ : ∀ p, Pm n p → Srt ks p n → Q p s) : ∀ (f k : Nat) (p : Array Nat), k + f = n → Pm n p → Srt ks p k → (kas_bin f p k).kasWp cmp Q s
  | 0, k, p, h1, h2, h3 => by
    have : k = n := by omega
    subst this
    exact hQ p h2 h3
  | f + 1, k, p, h1, h2, h3 => by
    unfold kas_bin
    rw [KasT.kasWp_bind]
    refine place_wp hl hnd hc h2 (k := k) (by omega) h3 (fun l a b c => ?_) k 0 k (by omega) (by omega) (Nat.le_refl _) (fun i x => absurd x (Nat.not_lt_zero _)) (fun i x y => absurd y (Nat.not_lt.mpr x))
    have hsz : k < p.size := by rw [h2.size]; omega
    refine bin_wp hl hnd hc hQ f (k + 1) (bubble p k (k - l)) (by omega) ((bubble_perm p k _).trans h2) fun i x y => ?_
    have e : ∀ j, Gk ks (bubble p k (k - l)) j = if j = l then Gk ks p k else if l < j ∧ j ≤ k then Gk ks p (j - 1) else Gk ks p j := fun j => by
      have e0 := getElem?_bubble hsz (k - l) (by omega) j
      rw [show k - (k - l) = l by omega] at e0
      by_cases hj : j = l
      · rw [if_pos hj] at e0 ⊢; exact Gk_congr e0
      · rw [if_neg hj] at e0 ⊢
        by_cases hj2 : l < j ∧ j ≤ k
        · rw [if_pos hj2] at e0 ⊢; exact Gk_congr e0
        · rw [if_neg hj2] at e0 ⊢; exact Gk_congr e0
    rw [e, e]
    by_cases c1 : i = l
    · subst c1
      rw [if_neg (by omega), if_neg (by omega), if_pos rfl]
      exact b (i - 1) (by omega)
    · rw [if_neg c1]
      by_cases c2 : i - 1 = l
      · rw [if_pos c2, if_pos (by omega), c2]
        exact c l (Nat.le_refl _) (by omega)
      · rw [if_neg c2]
        by_cases c3 : i < l
        · rw [if_neg (by omega), if_neg (by omega)]
          exact h3 i x (by omega)
        · rw [if_pos (by omega), if_pos (by omega)]
          exact h3 (i - 1) (by omega) (by omega)
/-- the tree asked with keys that are told apart gives an order of them -/
theorem kas_sorts (hl : ks.length = n) (hnd : ks.Nodup) (hn : 1 ≤ n) (hc : Cmp n ks cmp s) {Q : Array Nat → Shared → Prop}
    (hQ : ∀ out : Array Nat, (∀ i, i ∈ out.toList ↔ i < n) → out.toList.Pairwise (fun i j => ks.getD i 0 < ks.getD j 0) → Q out s) : (kas_sort n).kasWp cmp Q s := by
  have fin : ∀ p, Pm n p → Srt ks p n → Q p s := fun p hp hs => by
    refine hQ p (fun i => hp.perm.mem_iff.trans List.mem_range) ?_
    rw [List.pairwise_iff_getElem]
    intro i j hi hj hij
    have hi' : i < p.size := by simpa using hi
    have hj' : j < p.size := by simpa using hj
    have := hs.lt hij (by rw [← hp.size]; exact hj')
    unfold Gk at this
    simpa [Array.getD, hi', hj'] using this
  unfold kas_sort
  rw [KasT.kasWp_bind]
  refine count_wp hl hnd hc (p := (List.range n).toArray) (Array.Perm.refl _) hn fun m p' a b h hs => ?_
  by_cases hm : m < n
  · rw [if_pos hm, show max m 1 = m by omega]
    exact bin_wp hl hnd hc fin (n - m) m p' (by omega) h hs
  · rw [if_neg hm]
    have : m = n := by omega
    subst this
    exact fin p' h hs
end
end Mine

end

section
set_option maxRecDepth 100000
set_option maxHeartbeats 4000000
namespace Mine
section
variable {prog : Program} {w : World} {A : Around} {E : Value → Shared → Prop} {s : Shared}
theorem sorted_tup {t : Addr} {vs : List Value} {ns : List Int} {n : Nat} {Q : Value → Shared → Prop} (ht : s.heap.get? t = some (tupOf vs n)) (hI : IntsAre vs ns) (h64 : vs.length < 64)
    (h : ∀ h' D vs' ns' e, (∀ b o, s.heap.get? b = some o → h'.get? b = some o) → s.heap.get? D = none → h'.get? D = some (PySem.W.listOf vs'.toArray e) → IntsAre vs' ns' → ns'.Perm ns → ns'.Pairwise (· ≤ ·) → Q (.ref D) { s with heap := h' }) :
    wpAny (model prog w) A (call (.builtin "sorted") [.ref t]) Q E s := by
  refine Calls.call_function_entry kind_sorted plain_sorted entry_sorted (args_sorted1 _) ?_
  unfold Builtin.«sorted»
  refine wpAny_bind (m := checkCount "sorted" 1 1 _) (wpAny_pure ?_)
  refine wpAny_bind (wpAny_collect_seq t (.inr rfl) ht rfl rfl (fun h1 k1 => ?_) (by rw [sizeLine_eq, List.size_toArray]; omega))
  refine wpAny_bind (wpAny_newList ?_ (by rw [sizeLine_eq]; simp; omega))
  have hoL : (h1.push (seqObj "list" vs.toArray 0)).get? h1.objs.size = some (seqObj "list" vs.toArray 0) := Heap.get?_push_size _ rfl
  have e0 : (vs.toArray.toList).toArray = vs.toArray := by simp
  show wpAny _ _ _ _ _ { s with heap := h1.push (seqObj "list" vs.toArray.toList.toArray 0) }
  rw [e0]
  have hfresh : s.heap.get? h1.objs.size = none := by
    cases q : s.heap.get? h1.objs.size with
    | none => rfl
    | some o => exact absurd (Heap.lt_size (k1 _ _ q)) (Nat.lt_irrefl _)
  refine wpAny_bind (wpAny_holding (wpAny_call_entry slot_list_sort ⟨_, hoL, rfl⟩ entry_list_sort (list_sort_tree hoL hI h64 fun out ns' a1 a2 a3 => ⟨_, rfl, ?_⟩) (args_list_sort _)))
  obtain ⟨e, he⟩ := sortedHeap_at (out := out) hoL
  refine wpAny_pure ⟨_, rfl, ?_⟩
  refine h _ _ out.toList ns' e (fun b o q => ?_) hfresh he a1 a2 a3
  have hlt : b < h1.objs.size := Heap.lt_size (k1 b o q)
  refine (sortedHeap_old (Nat.ne_of_lt hlt) (by rw [size_push']; exact Nat.lt_succ_of_lt hlt)).trans ?_
  exact Heap.get?_push_of_some _ (k1 b o q)

/-- rows told apart by their first -/
def RowAt (h : Heap) (v : Value) (k : Int) : Prop := ∃ a vs n t x, v = .ref a ∧ h.get? a = some (tupOf vs n) ∧ vs = [.int k t, x]
theorem sorted_rows {h₀ : Heap} {L : Addr} {m : Str → Option Value} {news : List (Addr × Obj)} {l : Addr} {vs : List Value} {ks : List Int} {Q : Value → Shared → Prop} (F : Fr h₀ L s.heap m) (N : News h₀ L s.heap news) (hl : s.heap.IsList l vs.toArray)
    (hn : ks.length = vs.length) (h2 : 2 ≤ vs.length) (h7 : vs.length ≤ 7) (hnd : ks.Nodup) (hrow : ∀ i, i < vs.length → RowAt s.heap (vs.getD i .none) (ks.getD i 0))
    (hin : ∀ i, i < vs.length → ∃ p ∈ news, vs.getD i .none = .ref p.1)
    (h : ∀ h' D c (out : List Nat), Fr h₀ L h' m → News h₀ L h' ((D, PySem.W.listOf (out.map fun i => vs.getD i Value.none).toArray c) :: news) → (∀ i, i ∈ out ↔ i < vs.length) → out.Pairwise (fun i j => ks.getD i 0 < ks.getD j 0) → Q (.ref D) { s with heap := h' }) :
    wpAny (model prog w) A (call (.builtin "sorted") [.ref l]) Q E s := by
  refine kat_sorted F N hl h2 (by omega) fun D e1 h' F' N' lo => ?_
  have hrow' : ∀ i, i < vs.length → RowAt h' (vs.getD i .none) (ks.getD i 0) := fun i hi => by
    obtain ⟨a, us, n, t, x, e, ha, hu⟩ := hrow i hi
    obtain ⟨p, hp, hpe⟩ := hin i hi
    have hpa : p.1 = a := by rw [hpe] at e; cases e; rfl
    refine ⟨a, us, n, t, x, e, ?_, hu⟩
    have h1 := (N p hp).1
    rw [hpa, ha] at h1
    have h2' := (N' p (.tail _ hp)).1
    rw [hpa, ← Option.some.inj h1] at h2'
    exact h2'
  have htup : ∃ fs : List Value, KatTups h' vs fs ∧ fs.length = vs.length ∧ ∀ v ∈ fs, ∃ k t, v = .int k t := by
    clear hin lo N' F' h N hl F h2 h7 hnd hrow
    revert ks
    induction vs with
    | nil => intro ks _ _; exact ⟨[], trivial, rfl, fun v hv => by cases hv⟩
    | cons v r ih =>
      intro ks hn hrow'
      obtain ⟨a, us, n, t, x, e, ha, hu⟩ := hrow' 0 (by simp)
      cases ks with
      | nil => simp at hn
      | cons k kr =>
        obtain ⟨fs, q1, q2, q3⟩ := ih (ks := kr) (by simpa using hn) (fun i hi => by simpa using hrow' (i + 1) (by simpa using hi))
        have e' : v = .ref a := by simpa using e
        subst e'
        refine ⟨.int k t :: fs, ⟨⟨a, _, us.toArray, n, rfl, ha, rfl, rfl, by rw [hu]; simp⟩, q1⟩, by simp [q2], fun v hv => ?_⟩
        rcases List.mem_cons.mp hv with rfl | hv
        · exact ⟨k, t, rfl⟩
        · exact q3 v hv
  obtain ⟨fs, t1, t2, t3⟩ := htup
  refine kat_kind (T := .type "int") t1 (by omega) (fun v hv => ?_) rfl ?_
  · obtain ⟨k, t, rfl⟩ := t3 v hv
    exact Looks.of_pure rfl
  refine kas_sorts hn hnd (by omega) (fun i j K hi hj hij hK => ?_) fun out ho1 ho2 => ?_
  · obtain ⟨a, us, n, t, x, e, ha, hu⟩ := hrow' i hi
    obtain ⟨b, us', n', t', x', e', hb, hu'⟩ := hrow' j hj
    unfold kas_ask
    rw [e, e']
    refine kat_lt ha rfl hb rfl ?_
    have hne : ks.getD i 0 ≠ ks.getD j 0 := fun q => hij (by
      have hi' : i < ks.length := by omega
      have hj' : j < ks.length := by omega
      simp only [List.getD, List.getElem?_eq_getElem hi', List.getElem?_eq_getElem hj', Option.getD_some] at q
      exact (List.getElem_inj hnd).mp q)
    rw [hu, hu']
    show KatLex _ _ _ _ _ _ [(Value.int (ks.getD i 0) t, Value.int (ks.getD j 0) t'), (x, x')] 0 _
    refine kat_cons (wpAny_eqBool_int ?_)
    rw [show (ks.getD i 0 == ks.getD j 0) = false from beq_eq_false_iff_ne.mpr hne]
    refine kat_no ?_
    exact oneLt_int hK
  · refine KasFin.intro F' N' (.head fun p hp => ?_) fun h'' c F'' N'' => ?_
    · exact Nat.ne_of_lt (lo p hp)
    · exact h h'' D c out.toList F'' N'' ho1 ho2
end
end Mine

end

section
set_option maxRecDepth 100000
set_option maxHeartbeats 4000000
namespace Mine
section
variable {prog : Program} {w : World} {A : Around} {E : Value → Shared → Prop} {s : Shared}
theorem sort_few {a : Addr} {vs : List Value} {n : Nat} {P : Fin → Shared → Prop} (ho : s.heap.get? a = some (seqObj "list" vs.toArray n)) (h2 : vs.length < 2)
    (h : P (.done (.ret .none)) { s with heap := sortedHeap s.heap a vs vs.toArray }) :
    wpAny (model prog w) A (Builtin.«list.sort» ⟨[.ref a], []⟩) P E s := by
  rw [list_sort_plain]
  have ha : a < s.heap.objs.size := Heap.lt_size ho
  refine wpAny_bind (listItems_at ho rfl ?_)
  refine wpAny_bind (listUpdate_at ho rfl ?_)
  obtain ⟨e1, ho1⟩ : ∃ e1, (s.heap.update a (Obj.mapSeq fun _ => #[])).get? a = some (seqObj "list" #[] e1) := ⟨_, get?_update_seq ho (fun _ => #[])⟩
  refine wpAny_bind (seqEpoch_at ho1 rfl ?_)
  refine wpAny_bind (wpAny_newTuple ?_)
  refine wpAny_bind (wpAny_newList ?_)
  refine wpAny_holding ?_
  have ho6 : (((s.heap.update a (Obj.mapSeq fun _ => #[])).push (seqObj "tuple" vs.toArray 0)).push (seqObj "list" #[] 0)).get? a = some (seqObj "list" #[] e1) := by
    rw [Heap.get?_push_ne _ _ _ (by rw [size_push', Heap.size_update]; exact Nat.ne_of_lt (Nat.lt_succ_of_lt ha)), Heap.get?_push_ne _ _ _ (by rw [Heap.size_update]; exact Nat.ne_of_lt ha)]
    exact ho1
  show wpAny (model prog w) A _ P E { s with heap := ((s.heap.update a (Obj.mapSeq fun _ => #[])).push (seqObj "tuple" vs.toArray 0)).push (seqObj "list" #[] 0) }
  dsimp only
  have hsz : vs.toArray.size < 2 := by simpa using h2
  rw [if_pos hsz, if_pos hsz]
  refine wpAny_bind (wpAny_pure ?_)
  rw [StateT.run_pure]
  refine wpAny_bind (wpAny_pure ?_)
  dsimp only
  refine wpAny_bind (seqEpoch_at ho6 rfl ?_)
  have eo : ((pairsOf vs).map (·.2)) = vs.toArray := by
    apply Array.toList_inj.mp
    rw [Array.toList_map, pairsOf_toList]
    simp [List.map_snd_zip]
  refine wpAny_bind (listUpdate_at ho6 rfl ?_ (hsz2 := by rw [Array.size_map]; show (pairsOf vs).size ≤ _; rw [pairsOf_size, sizeLine_eq]; omega))
  simp only [bne_self_eq_false, Bool.false_eq_true, if_false]
  refine wpAny_pure ?_
  have e2 : (fun _ : Array Value => (arrOf (SortSt.mk' general' (vs.toArray.zip vs.toArray) #[] 7 none)).map (·.2)) = fun _ => vs.toArray := by
    funext _; exact eo
  show P _ { s with heap := Heap.update _ a (Obj.mapSeq fun _ => (arrOf (SortSt.mk' general' (vs.toArray.zip vs.toArray) #[] 7 none)).map (·.2)) }
  rw [e2]
  exact h

theorem sorted_few {l : Addr} {vs : List Value} {Q : Value → Shared → Prop} (hl : s.heap.IsList l vs.toArray) (h2 : vs.length < 2)
    (h : ∀ h' D e, (∀ b o, s.heap.get? b = some o → h'.get? b = some o) → s.heap.get? D = none → h'.get? D = some (PySem.W.listOf vs.toArray e) → Q (.ref D) { s with heap := h' }) :
    wpAny (model prog w) A (call (.builtin "sorted") [.ref l]) Q E s := by
  obtain ⟨o, ho, hc, n, hd⟩ := id hl
  refine Calls.call_function_entry kind_sorted plain_sorted entry_sorted (args_sorted1 _) ?_
  unfold Builtin.«sorted»
  refine wpAny_bind (m := checkCount "sorted" 1 1 _) (wpAny_pure ?_)
  refine wpAny_bind (wpAny_collect_seq l (.inl rfl) ho hc hd (fun h1 k1 => ?_) (by rw [sizeLine_eq, List.size_toArray]; omega))
  refine wpAny_bind (wpAny_newList ?_ (by rw [sizeLine_eq]; simp; omega))
  have hoL : (h1.push (seqObj "list" vs.toArray 0)).get? h1.objs.size = some (seqObj "list" vs.toArray 0) := Heap.get?_push_size _ rfl
  have e0 : (vs.toArray.toList).toArray = vs.toArray := by simp
  show wpAny _ _ _ _ _ { s with heap := h1.push (seqObj "list" vs.toArray.toList.toArray 0) }
  rw [e0]
  have hfresh : s.heap.get? h1.objs.size = none := by
    cases q : s.heap.get? h1.objs.size with
    | none => rfl
    | some o => exact absurd (Heap.lt_size (k1 _ _ q)) (Nat.lt_irrefl _)
  refine wpAny_bind (wpAny_holding (wpAny_call_entry slot_list_sort ⟨_, hoL, rfl⟩ entry_list_sort (sort_few hoL h2 ⟨_, rfl, ?_⟩) (args_list_sort _)))
  obtain ⟨e, he⟩ := sortedHeap_at (out := vs.toArray) hoL
  refine wpAny_pure ⟨_, rfl, ?_⟩
  refine h _ _ e (fun b o q => ?_) hfresh he
  have hlt : b < h1.objs.size := Heap.lt_size (k1 b o q)
  refine (sortedHeap_old (Nat.ne_of_lt hlt) (by rw [size_push']; exact Nat.lt_succ_of_lt hlt)).trans ?_
  exact Heap.get?_push_of_some _ (k1 b o q)
end
end Mine

end

section
set_option maxRecDepth 100000
set_option maxHeartbeats 4000000
namespace Mine
noncomputable section
section
variable {prog : Program} {w : World} {A : Around} {E : Value → Shared → Prop} {s : Shared} {env : Env}
theorem comp_dict {elt iter : Expr} {x : Str} {px : Pos} {ifs : List Expr} {scope : Scope} {cl : List (Str × Addr)} {pos : Pos} {Q : Value → Shared → Prop} {r : Addr} {kvs : List (Int × Value)} (hh : A.handled = none) (lo : (r == sysModules) = false) (hD : s.heap.DictOf (intKind prog w) r kvs) (hsz : kvs.length ≤ sizeLine)
    (hiter : ∀ Q' : Value → Shared → Prop, Q' (.ref r) s → wpAny (model prog w) A (eval iter env) Q' E s)
    (hclos : closureFor scope env = pure cl) (hcell : ∀ y ∈ scope.names, y.2 ≠ .cell) (hkind : scope.kind = .function) (hnames : ∀ y ∈ scope.names, y.2 = .local → scope.names.lookup y.1 = some .local) (hx : scope.names.lookup x = some .local)
    (hs : ∀ y, foldedSetIterable iter env y = pure y) (B : Heap) (ds : Nat → Option Dat)
    (turn : ∀ h I, (∀ b o, s.heap.get? b = some o → h.get? b = some o) → s.heap.get? I = none → TurnL prog w A env elt ifs x scope cl { s with heap := h } I kvs.length (fun i v => ∃ k y, kvs[i]? = some (k, y) ∧ (intKind prog w).is k v = true) B ds)
    (fin : ∀ D h tk ys news, (∀ b o, s.heap.get? b = some o → h.get? b = some o) → h.get? D = some (lst ys) → DatAll news ys ((List.range kvs.length).filterMap ds) → (∀ p ∈ news, h.get? p.1 = some p.2 ∧ p.1 ≠ D ∧ Gd B p) → s.heap.get? D = none → Q (.ref D) { s with heap := h, toks := tk }) :
    wpAny (model prog w) A (eval (.ListComp elt [⟨.Name x px, iter, ifs, 0⟩] scope pos) env) Q E s := by
  rw [eval_ListComp]
  refine wpAny_comprehension_free (use := none) rfl hs hclos hkind hnames (hiter _ ?_)
  obtain ⟨od, es, ep, hod, hx', hdat, hk, hpr, hnd⟩ := id hD
  have hat : s.heap.DictAt (intKind prog w) r kvs ep := ⟨od, es, hod, hx', hdat, hk, hpr, hnd⟩
  refine wpAny_pyIter_dict lo hat ?_
  have hrlt : r < s.heap.objs.size := Heap.lt_size hod
  have hI : s.heap.get? s.heap.objs.size = none := by
    cases q : s.heap.get? s.heap.objs.size with
    | none => rfl
    | some o => exact absurd (Heap.lt_size q) (Nat.lt_irrefl _)
  have k2 : ∀ {o : Obj} b o', s.heap.get? b = some o' → (s.heap.push o).get? b = some o' := fun b o' e => Heap.get?_push_of_some _ e
  refine comp_local (Walks.dictKeys (prog := prog) (w := w) (knd := intKind prog w) hh s.heap.objs.size r (Nat.ne_of_lt hrlt) kvs ep) hsz (fun i h st => by obtain ⟨o, e, _⟩ := st.1; exact ⟨o, e⟩) hcell hkind hx ⟨⟨_, Heap.get?_push_size _ rfl, rfl, rfl⟩, hat.at' fun o e => k2 _ o e⟩ (fun b hb => ?_) B ds (turn _ _ k2 hI) ?_
  · show b < (s.heap.push _).objs.size
    rw [Heap.size_push]
    rcases List.mem_cons.mp hb with rfl | hb
    · exact Nat.lt_succ_self _
    · rw [List.mem_singleton.mp hb]; exact Nat.lt_succ_of_lt hrlt
  · intro D h tk ys news hk' hDl hA hL hf
    refine fin D h tk ys news (fun b o e => hk' b o (fun q => by rw [q, hI] at e; cases e) (k2 b o e)) hDl hA hL ?_
    cases q : s.heap.get? D with
    | none => rfl
    | some o => rw [k2 _ _ q] at hf; cases hf
theorem comp_lst {elt iter : Expr} {x : Str} {px : Pos} {ifs : List Expr} {scope : Scope} {cl : List (Str × Addr)} {pos : Pos} {Q : Value → Shared → Prop} {l : Addr} {vs : List Value} (hh : A.handled = none) (hl : s.heap.IsList l vs.toArray) (hsz : vs.length ≤ sizeLine)
    (hiter : ∀ Q' : Value → Shared → Prop, Q' (.ref l) s → wpAny (model prog w) A (eval iter env) Q' E s)
    (hclos : closureFor scope env = pure cl) (hcell : ∀ y ∈ scope.names, y.2 ≠ .cell) (hkind : scope.kind = .function) (hnames : ∀ y ∈ scope.names, y.2 = .local → scope.names.lookup y.1 = some .local) (hx : scope.names.lookup x = some .local)
    (hs : ∀ y, foldedSetIterable iter env y = pure y) (B : Heap) (ds : Nat → Option Dat)
    (turn : ∀ h I, (∀ b o, s.heap.get? b = some o → h.get? b = some o) → s.heap.get? I = none → TurnL prog w A env elt ifs x scope cl { s with heap := h } I vs.length (fun i v => vs[i]? = some v) B ds)
    (fin : ∀ D h tk ys news, (∀ b o, s.heap.get? b = some o → h.get? b = some o) → h.get? D = some (lst ys) → DatAll news ys ((List.range vs.length).filterMap ds) → (∀ p ∈ news, h.get? p.1 = some p.2 ∧ p.1 ≠ D ∧ Gd B p) → s.heap.get? D = none → Q (.ref D) { s with heap := h, toks := tk }) :
    wpAny (model prog w) A (eval (.ListComp elt [⟨.Name x px, iter, ifs, 0⟩] scope pos) env) Q E s := by
  rw [eval_ListComp]
  refine wpAny_comprehension_free (use := none) rfl hs hclos hkind hnames (hiter _ ?_)
  obtain ⟨ol, hol, _⟩ := id hl
  refine wpAny_pyIter_list hl ?_
  have hrlt : l < s.heap.objs.size := Heap.lt_size hol
  have hI : s.heap.get? s.heap.objs.size = none := by
    cases q : s.heap.get? s.heap.objs.size with
    | none => rfl
    | some o => exact absurd (Heap.lt_size q) (Nat.lt_irrefl _)
  have k2 : ∀ {o : Obj} b o', s.heap.get? b = some o' → (s.heap.push o).get? b = some o' := fun b o' e => Heap.get?_push_of_some _ e
  have W := Walks.list (prog := prog) (w := w) hh s.heap.objs.size l (Nat.ne_of_lt hrlt) vs.toArray
  rw [show vs.toArray.size = vs.length by simp] at W
  have W2 : Walks prog w A s.heap.objs.size [s.heap.objs.size, l] [s.heap.objs.size] vs.length (fun i v => vs[i]? = some v) (fun i h => h.IsListIter s.heap.objs.size l i ∧ h.IsList l vs.toArray) :=
    { sub := W.sub, frame := W.frame, done := W.done, self := W.self,
      item := fun i s Q E hi st hQ => W.item i s Q E hi st fun v h' tk hP => hQ v h' tk (by simpa using hP) }
  refine comp_local W2 hsz (fun i h st => by obtain ⟨o, e, _⟩ := st.1; exact ⟨o, e⟩) hcell hkind hx ⟨⟨_, Heap.get?_push_size _ rfl, rfl, rfl⟩, hl.at fun o e => k2 _ o e⟩ (fun b hb => ?_) B ds (turn _ _ k2 hI) ?_
  · show b < (s.heap.push _).objs.size
    rw [Heap.size_push]
    rcases List.mem_cons.mp hb with rfl | hb
    · exact Nat.lt_succ_self _
    · rw [List.mem_singleton.mp hb]; exact Nat.lt_succ_of_lt hrlt
  · intro D h tk ys news hk' hDl hA hL hf
    refine fin D h tk ys news (fun b o e => hk' b o (fun q => by rw [q, hI] at e; cases e) (k2 b o e)) hDl hA hL ?_
    cases q : s.heap.get? D with
    | none => rfl
    | some o => rw [k2 _ _ q] at hf; cases hf
end
end
end Mine

end

section
set_option maxRecDepth 100000
set_option maxHeartbeats 4000000
namespace Mine
noncomputable section
theorem row_inv {news : List (Addr × Obj)} {v : Value} {k : Int} {l : List Dat} (h : DatIn news v (.tuple [.int k, .list l])) : ∃ a n t x, v = .ref a ∧ (a, tupOf [.int k t, x] n) ∈ news ∧ DatIn news x (.list l) := by
  cases h with
  | tuple hm ha =>
    cases ha with
    | cons h1 h2 =>
      cases h1 with
      | int i t =>
        cases h2 with
        | cons h3 h4 =>
          cases h4
          exact ⟨_, _, t, _, rfl, hm, h3⟩
theorem dat_pick {news : List (Addr × Obj)} {ys : List Value} {ds : List Dat} (h : DatAll news ys ds) : ∀ {out : List Nat}, (∀ i ∈ out, i < ds.length) → DatAll news (out.map fun i => ys.getD i Value.none) (out.map fun i => ds.getD i Dat.none)
  | [], _ => .nil
  | i :: out, ho => by
    have hi := ho i (.head _)
    obtain ⟨v, h1, h2⟩ := h.get hi
    refine .cons ?_ (dat_pick h fun j hj => ho j (.tail _ hj))
    simp only [List.getD, h1, List.getElem?_eq_getElem hi, Option.getD_some]
    exact h2
theorem range_pick {β : Type} (f : Int → β) (ks : List Int) : (List.range ks.length).filterMap (fun i => some (f (ks.getD i 0))) = ks.map f := by
  rw [show (fun i => some (f (ks.getD i 0))) = fun i => some ((fun i => f (ks.getD i 0)) i) from rfl]
  have e : (List.range ks.length).filterMap (fun i => some (f (ks.getD i 0))) = (List.range ks.length).map fun i => f (ks.getD i 0) := by simp
  rw [e]
  refine List.ext_getElem (by simp) fun i h1 h2 => ?_
  have hi : i < ks.length := by simpa using h2
  simp [hi]
section
variable {w : World} {E : Value → Shared → Prop} {s : Shared} {mg mb m : Str → Option Value} {mean : ExcName → Option Value} {h₀ : Heap} {L fa d pd nl r : Addr} {cd : Value} {ws : List Value} {kd kp kt : List (Int × Value)}
theorem told_comp {Q : Value → Shared → Prop} {xs : List Int} {n1 : List (Addr × Obj)} {LED : List (Addr × Obj)} {D1 : Addr} {ys : List Value} (F : Fr h₀ L s.heap m) (N : News h₀ L s.heap LED)
    (hD : s.heap.get? D1 = some (lst ys)) (hD0 : h₀.get? D1 = none) (hA : DatAll n1 ys ((toldKeys xs).map (dueRow (fin xs).2))) (hG : ∀ p ∈ n1, s.heap.get? p.1 = some p.2 ∧ Gd h₀ p)
    (hQ : ∀ h' tk D c vsS nS, Fr h₀ L h' m → News h₀ L h' LED → h'.get? D = some (PySem.W.listOf vsS.toArray c) → h₀.get? D = none → DatAll nS vsS ((dueKeys xs).map (dueRow (fin xs).2)) → (∀ p ∈ nS, h'.get? p.1 = some p.2 ∧ Gd h₀ p) → Q (.ref D) { s with heap := h', toks := tk }) :
    wpAny (model PySem.Challenge.rw_sv0008_01.row.prog w) (callerA.deeper (lawEnv L fa cd)) (call (.builtin "sorted") [.ref D1]) Q E s := by
  have hlen : ys.length = (toldKeys xs).length := by rw [hA.length, List.length_map]
  have hl7 := told_len xs
  have hl : s.heap.IsList D1 ys.toArray := ⟨_, hD, rfl, _, rfl⟩
  by_cases h2 : ys.length < 2
  · refine sorted_few hl h2 fun h' D e k hf hd => ?_
    refine hQ h' _ D e ys n1 (F.keeps k) (N.grown k) hd (new_none F.keep hf) ?_ (fun p hp => ⟨k _ _ (hG p hp).1, (hG p hp).2⟩)
    have e : toldKeys xs = dueKeys xs := due_eq (by
      match hk : toldKeys xs, hlen ▸ h2 with
      | [], _ => exact .nil
      | [a], _ => exact List.pairwise_singleton _ _
      | a :: b :: l, q => simp at q; omega) fun _ => Iff.rfl
    rw [e] at hA
    exact hA
  · have hget : ∀ i, i < ys.length → ∃ a n t x, ys.getD i .none = .ref a ∧ (a, tupOf [.int ((toldKeys xs).getD i 0) t, x] n) ∈ n1 := fun i hi => by
      have hi' : i < ((toldKeys xs).map (dueRow (fin xs).2)).length := by rw [List.length_map]; omega
      obtain ⟨v, h1, h3⟩ := hA.get hi'
      rw [List.getElem_map] at h3
      obtain ⟨a, n, t, x, q1, q2, _⟩ := row_inv h3
      refine ⟨a, n, t, x, ?_, ?_⟩
      · simp only [List.getD, h1, Option.getD_some]; exact q1
      · have hi2 : i < (toldKeys xs).length := by omega
        simp only [List.getD, List.getElem?_eq_getElem hi2, Option.getD_some]
        exact q2
    refine sorted_rows (ks := toldKeys xs) (news := LED ++ (n1)) F ?N hl hlen.symm (by omega) (by omega) (rev_facts xs).2.2 (fun i hi => ?_) (fun i hi => ?_) fun h' D c out F' N' ho1 ho2 => ?_
    case N =>
      intro p hp
      rcases List.mem_append.mp hp with hp | hp
      · exact N p hp
      · exact ⟨(hG p hp).1, ne_frame F.ns (hG p hp).1 (hG p hp).2.1, (hG p hp).2.2⟩
    · obtain ⟨a, n, t, x, q1, q2⟩ := hget i hi
      exact ⟨a, _, n, t, x, q1, (hG _ q2).1, rfl⟩
    · obtain ⟨a, n, t, x, q1, q2⟩ := hget i hi
      exact ⟨_, List.mem_append_right _ q2, q1⟩
    · obtain ⟨d1, d2, d3⟩ := N' _ (.head _)
      refine hQ h' _ D c _ n1 F' (fun p hp => N' p (.tail _ (List.mem_append_left _ hp))) d1 d3 ?_ (fun p hp => ⟨(N' p (.tail _ (List.mem_append_right _ hp))).1, (hG p hp).2⟩)
      have e : out.map (fun i => (toldKeys xs).getD i 0) = dueKeys xs := due_eq (by rw [List.pairwise_map]; exact ho2) fun x => by
        rw [List.mem_map]
        constructor
        · rintro ⟨i, hi, rfl⟩
          have hi2 : i < (toldKeys xs).length := by have := (ho1 i).mp hi; omega
          simp only [List.getD, List.getElem?_eq_getElem hi2, Option.getD_some]
          exact List.getElem_mem hi2
        · intro hx
          obtain ⟨i, hi, e⟩ := List.getElem_of_mem hx
          refine ⟨i, (ho1 i).mpr (by omega), ?_⟩
          simp only [List.getD, List.getElem?_eq_getElem hi, Option.getD_some]
          exact e
      have hpick := dat_pick hA (out := out) fun i hi => by rw [List.length_map]; have := (ho1 i).mp hi; omega
      rw [← e, List.map_map]
      have e3 : (out.map fun i => ((toldKeys xs).map (dueRow (fin xs).2)).getD i Dat.none) = out.map ((dueRow (fin xs).2) ∘ fun i => (toldKeys xs).getD i 0) := by
        refine List.map_congr_left fun i hi => ?_
        have hi2 : i < (toldKeys xs).length := by have := (ho1 i).mp hi; omega
        simp [List.getD, hi2]
      rw [e3] at hpick
      exact hpick
end
end
end Mine

end

section
set_option maxRecDepth 100000
set_option maxHeartbeats 4000000
namespace Mine
noncomputable section
theorem list_inv {news : List (Addr × Obj)} {v : Value} {l : List Dat} (h : DatIn news v (.list l)) : ∃ a us n, v = .ref a ∧ (a, PySem.W.listOf us.toArray n) ∈ news ∧ DatAll news us l := by
  cases h with
  | list hm ha => exact ⟨_, _, _, rfl, hm, ha⟩
theorem due_list (xs : List Int) : (List.range 8).filterMap (fun (i : Nat) => if decide (namesOf (fin xs).2 (i : Int) ≠ []) = true then some (dueRow (fin xs).2 (i : Int)) else none) = (dueKeys xs).map (dueRow (fin xs).2) := by
  rw [filterMap_if]
  unfold dueKeys
  rw [List.map_map]
  rfl
theorem row_ok (P : List (Int × List Int)) (k : Int) : kqdOk 8 (dueRow P k) = true := by
  unfold dueRow
  simp only [kqdOk, List.all_cons, List.all_nil, Bool.and_true, Bool.true_and]
  rw [List.all_eq_true]
  intro x hx
  obtain ⟨n, _, rfl⟩ := List.mem_map.mp hx
  rfl
section
variable {w : World} {E : Value → Shared → Prop} {s : Shared} {mg mb m : Str → Option Value} {mean : ExcName → Option Value} {h₀ : Heap} {L fa d pd nl r : Addr} {cd : Value} {ws : List Value} {kd kp kt : List (Int × Value)}
theorem seg_ret {Q : Flow → Shared → Prop} {xs : List Int} {Dd : Addr} {ysd : List Value} {nd : List (Addr × Obj)} (X₀ : (hd.heap_39 w.params).In h₀) (T : Top hd.view_39 (looseW hd.view_39 [Str.ofString "ABC", Str.ofString "AbstractContextManager"]) mean mg mb h₀) (B : Below callerA h₀ [] h₀)
    (W : Lx PySem.Challenge.rw_sv0008_01.row.prog w h₀ s.heap L d pd nl r m ws kd kp kt) (lor : (r == sysModules) = false) (mdue : m "due" = some (.ref Dd)) (mnum : m "numbers" = some (.ref nl)) (hi : IntsAre ws xs) (hxs : xs.length = 7)
    (hT : All2 (RowT s.heap) kt (rev (fin xs).2)) (hDd : s.heap.get? Dd = some (lst ysd)) (hDd0 : h₀.get? Dd = none) (hAd : DatAll nd ysd ((List.range 8).map fun (i : Nat) => dueRow (fin xs).2 (i : Int))) (hGd : ∀ p ∈ nd, s.heap.get? p.1 = some p.2 ∧ Gd h₀ p)
    (hQ : ∀ h' tk m', Fr h₀ L h' m' → Q (.ret (.bool true)) { s with heap := h', toks := tk }) :
    wpAny (model PySem.Challenge.rw_sv0008_01.row.prog w) (callerA.deeper (lawEnv L fa cd)) (execs (lawBody.drop 7) (lawEnv L fa cd)) Q E s := by
  revert X₀; k_fill; intro X₀
  unfold lawBody lawX
  dsimp only [List.drop]
  obtain ⟨od, hod, hDo⟩ := Heap.dictOf_iff.mp W.dd
  obtain ⟨oc, hoc, hdc⟩ := W.cd
  have nd0 : h₀.get? d = none := by
    cases q : h₀.get? d with
    | none => rfl
    | some o => exact absurd (Nat.lt_of_lt_of_le (Heap.lt_size q) W.above) (Nat.not_lt.mpr (Nat.le_of_lt W.dL))
  have nc0 : h₀.get? (L + 1) = none := by
    cases q : h₀.get? (L + 1) with
    | none => rfl
    | some o => exact absurd (Nat.lt_of_lt_of_le (Heap.lt_size q) W.above) (Nat.not_lt.mpr (Nat.le_succ _))
  have hLED : News h₀ L s.heap ((L + 1, oc) :: (d, od) :: (nl, PySem.W.listOf ws.toArray 0) :: (Dd, lst ysd) :: nd) := by
    intro p hp
    rcases List.mem_cons.mp hp with rfl | hp
    · exact ⟨hoc, (cell_ne L).2.2, nc0⟩
    · rcases List.mem_cons.mp hp with rfl | hp
      · exact ⟨hod, Nat.ne_of_gt W.dL, nd0⟩
      · rcases List.mem_cons.mp hp with rfl | hp
        · exact ⟨W.num, ne_frame (p := (nl, PySem.W.listOf ws.toArray 0)) W.ns W.num (fun _ _ q => by cases q), W.n0⟩
        · rcases List.mem_cons.mp hp with rfl | hp
          · exact ⟨hDd, ne_frame (p := (Dd, lst ysd)) W.ns hDd (fun _ _ q => by cases q), hDd0⟩
          · exact ⟨(hGd p hp).1, ne_frame W.ns (hGd p hp).1 (hGd p hp).2.1, (hGd p hp).2.2⟩
  have hkl : kt.length = (toldKeys xs).length := by rw [hT.length]; unfold toldKeys; simp
  have hl7 := told_len xs
  refine wpAny_execs_cons (wpAny_Return_some (wpAny_And2 (wpAny_Compare1 ?_)))
  refine Call_ (name_boot (env := lawEnv L fa cd) (v := .builtin "sorted") (X₀.keeps W.keep) (T.keeps W.keep) ?e ?hv ?hn ?_ rfl rfl rfl rfl ?hdb)
  (case e => k_is)
  (case hv => boot_by_name)
  (case hn => decide)
  (case hdb => decide)
  refine callWith_builtin1 (args_cons ?_)
  refine comp_dict (r := r) (kvs := kt) (cl := [(Str.ofString "told", L + 1 + 1 + 1)]) ?hh lor W.dt ?sz (fun Q' hq => ln_C W.ct hq) ?hclos ?hcell ?hkind ?hnames ?hx ?hs h₀ (fun i => some (dueRow (fin xs).2 ((toldKeys xs).getD i 0))) ?turn ?fin
  case hh => rfl
  case sz => rw [sizeLine_eq]; omega
  case hclos => rfl
  case hcell => decide
  case hkind => rfl
  case hnames => decide
  case hx => rfl
  case hs => intro _; rfl
  case turn =>
    intro h1 I k1 hI C i v h tk mC E' hi hPv hns hmx hO
    obtain ⟨k, y, hky, hkv⟩ := hPv
    obtain ⟨t, rfl⟩ := Value.isInt_shape hkv
    refine wpAny_tests_nil ⟨h, tk, rfl, fun _ _ e => e, ?_⟩
    rw [if_pos rfl]
    have hk : ∀ b o, s.heap.get? b = some o → h.get? b = some o := fun b o e => hO b o (fun q => by rw [q, hI] at e; cases e) (k1 b o e)
    have W1 := W.keeps hk
    obtain ⟨⟨k', xs'⟩, hR, hkk, hTup⟩ := hT.get hky
    cases (hkk : k = k')
    have hlook : look (rev (fin xs).2) k = xs' := look_row (rev_facts xs).2.2 (k, xs') (List.mem_of_getElem? hR)
    have hkey : (toldKeys xs).getD i 0 = k := by
      unfold toldKeys
      simp only [List.getD, List.getElem?_map, hR, Option.map_some, Option.getD_some]
    obtain ⟨tt, us, nn, rfl, htt, hit⟩ := hTup
    refine wpAny_Tuple (args_cons ?_)
    refine wpAny_Name (wpAny_loadName_local rfl rfl hns hmx ?_)
    refine args_cons ?_
    refine Call_ (name_boot (v := .builtin "sorted") (X₀.keeps W1.keep) (T.keeps W1.keep) ?e ?hv ?hn ?_ rfl rfl rfl rfl ?hdb)
    (case e => k_is)
    (case hv => boot_by_name)
    (case hn => decide)
    (case hdb => decide)
    refine callWith_builtin1 (args_cons ?_)
    refine Subscript_ ?_
    refine wpAny_Name (wpAny_loadName_cell rfl rfl rfl W1.ct ?_)
    refine wpAny_Name (wpAny_loadName_local rfl rfl hns hmx ?_)
    obtain ⟨_, _, _, _, _, _, _, _, hndk⟩ := id W1.dt
    refine dict_item (knd := intKind PySem.Challenge.rw_sv0008_01.row.prog w) W1.dt (intKind_is _ _ _ _) (valueAt_of_get hndk hky) ?_
    refine args_nil ?_
    have hxl : xs'.length ≤ 8 := by
      rw [← hlook, (told_perm xs k).length_eq, names_eq]
      exact Nat.le_trans (List.length_filter_le _ _) (by simp)
    refine sorted_tup (vs := us) (n := nn) (hk _ _ htt) hit (by have h9 : us.length = xs'.length := hit.length; omega) fun h2 D2 vs2 ns2 e2 k2 f2 g2 i2 p2 s2 => ?_
    dsimp only at k2 f2 ⊢
    have hns2 : ns2 = namesOf (fin xs).2 k := sorted_told (by rw [hlook]; exact p2) s2
    refine args_nil ⟨(by rw [sizeLine_eq]; simp), ?_⟩
    dsimp only
    have k3 : ∀ {ob : Obj} b o, h2.get? b = some o → (h2.push ob).get? b = some o := fun b o e => Heap.get?_push_of_some _ e
    have hTn : h.get? h2.objs.size = none := by
      cases q : h.get? h2.objs.size with
      | none => rfl
      | some o => exact absurd (Heap.lt_size (k2 _ _ q)) (Nat.lt_irrefl _)
    rw [hkey]
    refine ⟨_, _, dueRow (fin xs).2 k, [(h2.objs.size, { cls := .type "tuple", data := .seq [Value.int k t, .ref D2].toArray }), (D2, PySem.W.listOf vs2.toArray e2)], rfl, fun b o e => k3 b o (k2 b o e), rfl, ?_, ?_⟩
    · refine DatIn.tuple (vs := [Value.int k t, .ref D2]) (n := 0) (.head _) (.cons (.int _ _) (.cons ?_ .nil))
      rw [← hns2]
      exact DatIn.list (vs := vs2) (n := e2) (.tail _ (.head _)) (ints_dat i2)
    · intro p hp
      rcases List.mem_cons.mp hp with rfl | hp
      · exact ⟨Heap.get?_push_size _ rfl, .inl hTn, (fun _ _ q => by cases q), new_none W1.keep hTn⟩
      · rw [List.mem_singleton.mp hp]
        exact ⟨k3 _ _ g2, .inl f2, (fun _ _ q => by cases q), new_none W1.keep f2⟩
  case fin =>
    intro D1 h1 tk1 ys n1 k1 hD1 hA1 hG1 f1
    refine args_nil ?_
    have W1 := W.keeps k1
    rw [hkl, range_pick] at hA1
    refine told_comp (fa := fa) (cd := cd) W1.fr (hLED.grown k1) hD1 (new_none W.keep f1) hA1 (fun p hp => ⟨(hG1 p hp).1, (hG1 p hp).2.2⟩) fun h2 tk2 D2 c2 vsS nS F2 N2 g2 hD20 hA2 hG2 => ?_
    -- the rows that are due
    have hkx : (List.range 8).length = 8 := rfl
    have hlen : ysd.length = 8 := by rw [hAd.length, List.length_map]; rfl
    have hnd2 : ∀ p ∈ nd, h2.get? p.1 = some p.2 ∧ p.1 ≠ L ∧ h₀.get? p.1 = none := fun p hp => N2 p (.tail _ (.tail _ (.tail _ (.tail _ hp))))
    have gDd2 := (N2 _ (.tail _ (.tail _ (.tail _ (.head _))))).1
    refine comp_lst (l := Dd) (vs := ysd) (cl := []) ?hh ⟨_, gDd2, rfl, _, rfl⟩ ?sz (fun Q' hq => ln_L F2.ns mdue hq) ?hclos ?hcell ?hkind ?hnames ?hx ?hs h₀ (fun i => if decide (namesOf (fin xs).2 (i : Int) ≠ []) = true then some (dueRow (fin xs).2 (i : Int)) else none) ?turn ?fin
    case hh => rfl
    case sz => rw [sizeLine_eq]; omega
    case hclos => rfl
    case hcell => decide
    case hkind => rfl
    case hnames => decide
    case hx => rfl
    case hs => intro _; rfl
    case turn =>
      intro h3 I k3 hI C i v h tk mC E' hi3 hPv hns hmx hO
      have hk : ∀ b o, h2.get? b = some o → h.get? b = some o := fun b o e => hO b o (fun q => by have e' : h2.get? b = some o := e; rw [q] at e'; have hI' : h2.get? I = none := hI; rw [hI'] at e'; cases e') (k3 b o e)
      have hi4 : i < ((List.range 8).map fun (i : Nat) => dueRow (fin xs).2 (i : Int)).length := by rw [List.length_map, List.length_range]; omega
      obtain ⟨v', hv1, hv2⟩ := hAd.get hi4
      have hvv : v' = v := by
        have hPv' : ysd[i]? = some v := hPv
        rw [hPv'] at hv1; exact (Option.some.inj hv1).symm
      subst hvv
      rw [List.getElem_map, List.getElem_range] at hv2
      obtain ⟨a, n, t, x, rfl, hma, hdx⟩ := row_inv hv2
      obtain ⟨b, us, n', rfl, hmb, hdu⟩ := list_inv hdx
      have ha := hk _ _ (hnd2 _ hma).1
      have hb := hk _ _ (hnd2 _ hmb).1
      refine wpAny_tests_one (wpAny_isTrue_Compare1 ?_)
      refine Subscript_ ?_
      refine wpAny_Name (wpAny_loadName_local rfl rfl hns hmx ?_)
      refine wpAny_Constant_int ?_
      refine item_tuple (items := [Value.int (i : Int) t, .ref b].toArray) (j := 1) (x := .ref b) ⟨_, ha, rfl, n, rfl⟩ (by decide) (by decide) rfl rfl ?_
      refine wpAny_List (args_nil ⟨Nat.zero_le _, ?_⟩)
      dsimp only
      have k4 : ∀ {ob : Obj} b o, h.get? b = some o → (h.push ob).get? b = some o := fun b o e => Heap.get?_push_of_some _ e
      refine ne_intsK (vs := us) (us := []) (ns := namesOf (fin xs).2 (i : Int)) (ms := []) ⟨_, k4 _ _ hb, rfl, n', rfl⟩ (dat_ints hdu) ⟨_, Heap.get?_push_size _ rfl, rfl, 0, rfl⟩ .nil (Nat.le_of_ble_eq_true rfl) ?_
      refine wpAny_truthy_bool ?_
      refine ⟨_, _, rfl, fun b o e => k4 b o e, ?_⟩
      by_cases hq : namesOf (fin xs).2 (i : Int) = []
      · rw [hq]
        simp
      · rw [decide_eq_false hq]
        simp only [Bool.not_false, if_true]
        refine wpAny_Name (wpAny_loadName_local rfl rfl (hns.keeps k4) hmx ?_)
        refine ⟨_, _, dueRow (fin xs).2 (i : Int), nd, rfl, fun _ _ e => e, by simp [hq], hv2, fun p hp => ⟨k4 _ _ (hk _ _ (hnd2 p hp).1), .inr ⟨p.2, fun q => ?_, k3 _ _ (hnd2 p hp).1⟩, (hGd p hp).2⟩⟩
        have hI' : h2.get? I = none := hI
        have := (hnd2 p hp).1
        rw [q, hI'] at this
        cases this
    case fin =>
      intro D3 h3 tk3 ys3 n3 k3 hD3 hA3 hG3 f3
      dsimp only at k3 f3 ⊢
      rw [hlen, due_list] at hA3
      have F3 := F2.keeps k3
      have N3 := N2.grown k3
      have hD30 : h₀.get? D3 = none := new_none F2.keep f3
      refine kqd_eq (h₀ := h₀) (L := L) (news := (D2, PySem.W.listOf vsS.toArray c2) :: (D3, lst ys3) :: (nS ++ n3)) (oa := PySem.W.listOf vsS.toArray c2) (ob := lst ys3) ?N (.head _) rfl rfl hA2 (fun p hp => ?_) (.tail _ (.head _)) rfl rfl hA3 (fun p hp => ?_) ?_ ?_ (Nat.le_of_ble_eq_true rfl) ?_
      case N =>
        intro p hp
        have gd : ∀ {q : Addr × Obj}, h3.get? q.1 = some q.2 → Gd h₀ q → h3.get? q.1 = some q.2 ∧ q.1 ≠ L ∧ h₀.get? q.1 = none := fun e g => ⟨e, ne_frame F3.ns e g.1, g.2⟩
        rcases List.mem_cons.mp hp with rfl | hp
        · exact gd (k3 _ _ g2) ⟨fun _ _ q => (by cases q), hD20⟩
        · rcases List.mem_cons.mp hp with rfl | hp
          · exact gd hD3 ⟨fun _ _ q => (by cases q), hD30⟩
          · rcases List.mem_append.mp hp with hp | hp
            · exact gd (k3 _ _ (hG2 p hp).1) (hG2 p hp).2
            · exact gd (hG3 p hp).1 (hG3 p hp).2.2
      · exact .tail _ (.tail _ (List.mem_append_left _ hp))
      · exact .tail _ (.tail _ (List.mem_append_right _ hp))
      · intro x hx
        obtain ⟨k, _, rfl⟩ := List.mem_map.mp hx
        exact row_ok _ _
      · intro x hx
        obtain ⟨k, _, rfl⟩ := List.mem_map.mp hx
        exact row_ok _ _
      · simp only [decide_true]
        refine wpAny_truthy_bool ?_
        rw [if_pos rfl]
        -- transitive_get(numbers, d) == numbers
        refine wpAny_Compare1 ?_
        refine Call_ (ln_K (v := .ref 125) F3 X₀ T ?e ?_)
        (case e => k_is)
        refine callWith_K X₀ ?kq (args_cons ?_)
        (case kq => k_is)
        refine ln_L F3.ns mnum ?_
        refine args_cons ?_
        refine ln_C (c := L + 1) ⟨oc, (N3 _ (.head _)).1, hdc⟩ ?_
        refine args_nil ⟨X₀.keeps F3.keep, ?_⟩
        refine tg_list nl d (PySem.W.listOf ws.toArray 0) od kd #[] B F3 X₀ ?N2 T hDo rfl fun h4 tk4 F4 N4 => ?_
        case N2 =>
          intro p hp
          rcases List.mem_cons.mp hp with rfl | hp
          · exact N3 _ (.tail _ (.head _))
          · rw [List.mem_singleton.mp hp]
            exact N3 _ (.tail _ (.tail _ (.head _)))
        refine ln_L F4.ns mnum ?_
        refine kqd_eq (n₁ := []) (n₂ := []) N4 (.tail _ (.head _)) rfl rfl (ints_dat hi) (fun p hp => by cases hp) (.tail _ (.head _)) rfl rfl (ints_dat hi) (fun p hp => by cases hp) ?_ ?_ (Nat.le_of_ble_eq_true rfl) ?_
        · intro x hx
          obtain ⟨k, _, rfl⟩ := List.mem_map.mp hx
          rfl
        · intro x hx
          obtain ⟨k, _, rfl⟩ := List.mem_map.mp hx
          rfl
        · simp only [decide_true]
          exact hQ _ _ _ F4
end
end
end Mine

end

section
set_option maxRecDepth 100000
set_option maxHeartbeats 4000000
namespace Mine
theorem after_loop : AfterLoop := by
  intro w mean mg mb m s h₀ L fa d pd nl cd ws xs kd kp Q E X₀ T B W n0 hmn hxs hi hD hP _ hQ
  refine seg_if X₀ T B W hD hP fun h1 tk1 k1 => ?_
  have W1 := W.keeps k1
  refine seg_told (s := { s with heap := h1, toks := tk1 }) X₀ T W1 n0 (hP.mono (RowP.keep (KeepND.of_keeps k1))) fun h2 tk2 r kt W2 hpL hrL lor hP2 hT2 => ?_
  refine seg_due (s := { s with heap := h2, toks := tk2 }) X₀ T W2 hpL hrL hP2 fun h3 tk3 D ys news W3 k3 hD3 hD30 hA hG => ?_
  have hT3 : All2 (RowT h3) kt (rev (fin xs).2) := hT2.mono fun a b (x : RowT h2 a b) => ⟨x.1, by
    obtain ⟨l, vs, n, e, ho, hi'⟩ := x.2
    exact ⟨l, vs, n, e, k3 _ _ (ne_frame (p := (l, tupOf vs n)) W2.ns ho (fun _ _ q => by cases q)) ho, hi'⟩⟩
  refine seg_ret (s := { s with heap := h3, toks := tk3 }) (Dd := D) (ysd := ys) (nd := news) X₀ T B W3 lor (if_pos rfl) ?_ hi hxs hT3 hD3 hD30 hA hG fun h4 tk4 m4 F4 => hQ h4 tk4 m4 F4
  show (if _ then _ else _) = _
  rw [if_neg (by decide)]
  exact hmn
end Mine
end

theorem PySem.Challenge.cw_sv0008_01_holds : PySem.Challenge.rw_sv0008_01.Holds := by
  exact Mine.law_of (Mine.law_good Mine.after_loop)

import PyProof.Rows.All
import PyProof.Rows.TupMore
import KE.KxBytes
import KE.BytesMake
import KE.BytesK
import KE.KDictText
import KE.KEqDict
import KE.KTurnsDict
import KE.KPairComp
import KE.KxPercent
import Wide.FinOn
import OpenK.AllK
import Wide.All
import Lean
import PySem.Challenge.RW_zn0005_01
open PySem PySem.W PySem.Spec PySem.Calls PyProof.Rows
set_option Elab.async false
namespace Mine

abbrev AA (dp un : Nat) (gd : Option (List Code)) (fr : Option (List Env)) : Around := { handled := none, depth := dp, frames := fr, guards := gd, units := un }

section
variable {prog : Program} {w : World} {A : Around} {s : Shared} {K : Frag} {p : Program} {loose : List Str} {mean : ExcName → Option Value} {mg mb : Str → Option Value}
  {R : Result → Shared → Prop} {name qual : Str} {params : Arguments} {body : List Stmt} {scope : Scope} {dV kV doc pm cdv ct oc : Value} {an od : Option Addr} {osl : Array (Option Value)} {f : Addr} {args : Args} {binds : List (Str × Value)}

theorem enterP (X : K.In s.heap) (T : Top p loose mean mg mb s.heap)
    (ho : K.lookup f = some ⟨oc, od, .func (fnOf name qual params body scope dV kV doc pm an cdv ct), osl⟩) (hcd : codeIn K cdv qual = true) (hroom : A.depth < recursionLimit)
    (hbind : BindsTo s (fnOf name qual params body scope dV kV doc pm an cdv ct) args binds) (hloc : ∀ y ∈ binds, scope.names.lookup y.1 = some .local)
    (h : ∀ L h₁, Fr s.heap L h₁ (fun y => binds.reverse.lookup y) → News s.heap L h₁ [] →
      wpAny (model prog w) (A.deeper (envOf qual scope L f cdv)) (execs body (envOf qual scope L f cdv))
        (fun fl s' => R (.ok (.ret (match fl with | .ret v => v | _ => .none))) s') (fun _ _ => False)
        { s with heap := h₁, toks := s.toks + binds.length })
    (hco : scope.isCoroutine = false) (hgen : scope.isGenerator = false) (hk : scope.kind = .function)
    (hcell : ∀ x ∈ scope.names, x.2 ≠ .cell) : codeAny (model prog w) A (.call (.ref f) args) R s := by
  refine codeAny_call_def (fd := fnOf name qual params body scope dV kV doc pm an cdv ct) (body := body) (binds := binds) hroom (X _ _ ho) rfl T.nolimit (codeRec_of X hcd) rfl hbind hcell hloc (fun h₁ hns hk₁ => ?_) hco hgen hk
  exact wpAny_mono (h s.heap.objs.size h₁ ⟨hns, hk₁, Nat.le_refl _⟩ News.nil) (fun _ _ q => q) (fun _ _ q => q.elim)

theorem enterC (X : K.In s.heap) (T : Top p loose mean mg mb s.heap)
    (ho : K.lookup f = some ⟨oc, od, .func (fnOf name qual params body scope dV kV doc pm an cdv ct), osl⟩) (hcd : codeIn K cdv qual = true) (hroom : A.depth < recursionLimit)
    (hbind : BindsTo s (fnOf name qual params body scope dV kV doc pm an cdv ct) args binds)
    (hkind : (binds.all fun y => scope.names.lookup y.1 == some .local || scope.names.lookup y.1 == some .cell) = true)
    (hnd : ((cellsFrom 0 scope.names []).map (·.1)).Nodup)
    (h : ∀ L h₁ tk cells, Fr s.heap L h₁ (bindL (envOfC qual scope L f cdv).kindOf binds fun _ => none) → News s.heap L h₁ cells →
      CellsAre (bindC (envOfC qual scope L f cdv).kindOf binds fun _ => none) (cellsFrom (L + 1) scope.names []) cells →
      wpAny (model prog w) (A.deeper (envOfC qual scope L f cdv)) (execs body (envOfC qual scope L f cdv))
        (fun fl s' => R (.ok (.ret (match fl with | .ret v => v | _ => .none))) s') (fun _ _ => False)
        { s with heap := h₁, toks := tk })
    (hco : scope.isCoroutine = false) (hgen : scope.isGenerator = false) (hk : scope.kind = .function) : codeAny (model prog w) A (.call (.ref f) args) R s := by
  refine codeAny_call_function hroom (X _ _ ho) rfl hco hgen rfl (codeRec_of X hcd) (hbind _ _ _ _ ?_)
  refine wpAny_newFunctionEnv_cells hk (kindsX hkind _) fun env' he s' x => ?_
  subst he
  refine ⟨T.nolimit.keeps x.toInCall.keep, codeAny_func ?_⟩
  obtain ⟨h₁, tk, rfl, _⟩ := x.done
  have hk₁ := x.toInCall.keep
  obtain ⟨cells, NC, Y⟩ := Cl.news (h₀ := s.heap) (Nat.le_refl _) fun n c hm => ⟨x.cell n c (lookup_of_mem_nodup (cellsFrom_names scope.names 0 (s.heap.objs.size + 1) [] [] rfl ▸ hnd) hm), x.above n c hm⟩
  exact wpAny_mono (h s.heap.objs.size h₁ tk cells ⟨x.toInCall.ns, hk₁, Nat.le_refl _⟩ NC Y) (fun _ _ q => q) (fun _ _ q => q.elim)
end
end Mine
namespace Mine
section
variable {prog : Program} {w : World} {A : Around} {E : Value → Shared → Prop} {s : Shared} {h₀ : Heap} {L : Addr} {m : Str → Option Value} {news : List (Addr × Obj)}

/-- an item of a list of the ledger -/
theorem getLed {l : Addr} {its : List Value} {c : Nat} {ns : List Int} {k : Int} {tk : Tok} {Q : Value → Shared → Prop}
    (N : News h₀ L s.heap news) (hm : (l, listOf its.toArray c) ∈ news) (hi : IntsAre its ns) (h0 : 0 ≤ k) (h1 : k < ns.length) (h2 : ns.length < 1000000)
    (h : ∀ t, Q (.int (ns.getD k.toNat 0) t) s) : wpAny (model prog w) A (getItem (.ref l) (.int k tk)) Q E s := by
  have hl : s.heap.IsList l its.toArray := ⟨_, (N _ hm).1, rfl, c, rfl⟩
  have hk : k.toNat < ns.length := by omega
  obtain ⟨t, ht⟩ := hi.get k.toNat ns[k.toNat] (List.getElem?_eq_getElem hk)
  refine wpAny_getItem_list hl h0 (by omega) (x := .int ns[k.toNat] t) (by simpa using ht) ?_
  have := h t
  rwa [List.getD_eq_getElem?_getD, List.getElem?_eq_getElem hk] at this

theorem setIntsAre {its : List Value} {ns : List Int} (hi : IntsAre its ns) (j : Nat) (v : Int) (t : Tok) : IntsAre (its.set j (.int v t)) (ns.set j v) := by
  induction hi generalizing j with
  | nil => exact .nil
  | cons n u _ ih =>
    cases j with
    | zero => exact .cons v t ‹_›
    | succ j => exact .cons n u (ih j)

/-- a store into a list of the ledger -/
theorem setLed {l : Addr} {its : List Value} {c : Nat} {ns : List Int} {k v : Int} {tk tv : Tok} {g : Obj → List (Addr × Obj)} {Q : Unit → Shared → Prop}
    (F : Fr h₀ L s.heap m) (N : News h₀ L s.heap news) (U : UpdF l (listOf its.toArray c) news g) (hi : IntsAre its ns) (h0 : 0 ≤ k) (h1 : k < ns.length) (h2 : ns.length < 1000000)
    (h : ∀ h' its', Fr h₀ L h' m → News h₀ L h' (g (listOf its'.toArray c)) → IntsAre its' (ns.set k.toNat v) → Q () { s with heap := h' }) :
    wpAny (model prog w) A (setItem (.ref l) (.int k tk) (.int v tv)) Q E s := by
  obtain ⟨own, rest, rfl, hg, g1, g2⟩ := U.split
  have hmem := N (l, listOf its.toArray c) (List.mem_append_right _ (.head _))
  have hl : s.heap.IsList l its.toArray := ⟨_, hmem.1, rfl, c, rfl⟩
  obtain ⟨o, ho, hc, ne, hd⟩ := id hl
  have hlen := hi.length
  unfold setItem
  try with_reducible refine wpAny_holding ?_
  first | refine wpAny_bind (wpAny_pure ?_) | skip
  refine wpAny_bind (wpAny_sequenceKey hl.typeIs (by decide) ?_)
  refine wpAny_bind (wpAny_callSpecial?_slot (name := Str.ofString "__setitem__") hl.typeIs slot_list_setitem
    (wpAny_call_entry slot_list_setitem hl.typeIs entry_list_setitem ?_ (args_list_setitem _ _ _)))
  show wpAny _ _ (Builtin.List.listSubscript? (.int k tk) >>= _) _ _ s
  refine wpAny_bind (wpAny_listSubscript_int (fitsIndex_of h0 (by omega)) ?_)
  obtain ⟨j, rfl⟩ := Int.eq_ofNat_of_zero_le h0
  have hj : j < its.toArray.size := by simp; omega
  have hx' : its.toArray[j]? = some its.toArray[j] := Array.getElem?_eq_getElem hj
  show wpAny _ _ ((seqItemAt l j >>= fun r => pure (r.map (j, ·))) >>= _) _ _ s
  refine wpAny_bind (wpAny_bind (wpAny_seqItemAt hmem.1 rfl (wpAny_pure ?_)))
  rw [hx']
  show wpAny _ _ (setSeqItemAt l j (.int v tv) >>= _) _ _ s
  have e : (Obj.mapSeq (·.setIfInBounds j (.int v tv))) (listOf its.toArray c) = listOf (its.set j (.int v tv)).toArray c := by
    show (⟨_, _, .seq (its.toArray.setIfInBounds j (.int v tv)) (if (its.toArray.setIfInBounds j (.int v tv)).size == its.toArray.size then c else c + 1), _⟩ : Obj) = _
    simp
  have U' := news_upd (f := Obj.mapSeq (·.setIfInBounds j (.int v tv))) F N g1 g2 e rfl
  have fin := h _ (its.set j (.int v tv)) U'.1 (by rw [hg]; exact U'.2) (by simpa using setIntsAre hi j v tv)
  refine wpAny_bind (wpAny_setSeqItemAt hmem.1 rfl ?_)
  first
    | exact wpAny_bind (wpAny_pure (wpAny_pure ⟨.none, rfl, wpAny_pure fin⟩))
    | exact wpAny_pure ⟨.none, rfl, wpAny_pure fin⟩
end
theorem itemLed {prog : Program} {w : World} {A : Around} {E : Value → Shared → Prop} {s : Shared} {h₀ : Heap} {L : Addr} {news : List (Addr × Obj)} {value slice : PySem.Expr} {l : Addr} {its : List Value} {c : Nat} {ns : List Int} {k : Int} {tk : Tok} {Q : Value → Shared → Prop}
    (N : News h₀ L s.heap news) (hm : (l, listOf its.toArray c) ∈ news) (hi : IntsAre its ns) (h0 : 0 ≤ k) (h1 : k < ns.length) (h2 : ns.length < 1000000)
    (h : ∀ t, Q (.int (ns.getD k.toNat 0) t) s) (hs : subscripted slice false (.ref l) (.int k tk) = operate [.ref l, .int k tk] (getItem (.ref l) (.int k tk)) := by with_unfolding_all rfl) :
    wpAny (model prog w) A (subscriptTail value slice (.ref l) (.int k tk)) Q E s := by
  have hl : s.heap.IsList l its.toArray := ⟨_, (N _ hm).1, rfl, c, rfl⟩
  have hk : k.toNat < ns.length := by omega
  obtain ⟨t, ht⟩ := hi.get k.toNat ns[k.toNat] (List.getElem?_eq_getElem hk)
  refine tail_any hl.typeIs slot_list_getitem.lookup (wpAny_getItem_list hl h0 (by omega) (x := .int ns[k.toNat] t) (by simpa using ht) ?_) hs
  have := h t
  rwa [List.getD_eq_getElem?_getD, List.getElem?_eq_getElem hk] at this
def pairs : List (Int × Int) := [(2, 3), (2, 5), (2, 7), (2, 9), (3, 4), (3, 5), (3, 7), (3, 8), (4, 3), (4, 5), (4, 7), (4, 9), (5, 3), (5, 4), (5, 6), (5, 7), (5, 8)]
theorem pairs_in {a b : Int} (hab : (a, b) ∈ pairs) : 2 ≤ a ∧ a ≤ 5 ∧ 3 ≤ b ∧ b ≤ 9 := by
  have h : (pairs.all fun p => decide (2 ≤ p.1) && (decide (p.1 ≤ 5) && (decide (3 ≤ p.2) && decide (p.2 ≤ 9)))) = true := by decide +kernel
  simpa using List.all_eq_true.mp h (a, b) hab
theorem range_name {prog : Program} {w : World} {A : Around} {E : Value → Shared → Prop} {s : Shared} {h₀ : Heap} {L : Addr} {m mg mb : Str → Option Value} {K : Frag} {p : Program} {loose : List Str} {mean : ExcName → Option Value} {env : Env} {pos : Pos} {Q : Value → Shared → Prop}
    (F : Fr h₀ L s.heap m) (X : K.In h₀) (T : Top p loose mean mg mb h₀) (e : nsIn K mainGlobals (Str.ofString "range") = some none) (hg : env.globals = mainGlobals) (hb : env.builtins = builtinsNs) (hk : env.scope.kind = .function) (hx : env.kindOf (Str.ofString "range") = some .globalImplicit) (h : Q (.type "range") s) :
    wpAny (model prog w) A (eval (.Name (Str.ofString "range") pos) env) Q E s :=
  Name_function_global hk hx (loadGlobal_builtin (by rw [hg]; exact T.g.keeps F.keep) (mg_none_of X T.g e) (by rw [hb]; exact T.b.keeps F.keep) ((T.builtins _ (by decide)).trans boot_range) h) (by decide)
theorem small_nn {b : Int} (h0 : 0 ≤ b) (h1 : b ≤ 100) : Builtin.Range.small 0 b 1 = true := by
  obtain ⟨n, rfl⟩ := Int.eq_ofNat_of_zero_le h0
  have : ∀ k ≤ 100, Builtin.Range.small 0 ((k : Nat) : Int) 1 = true := by decide +kernel
  exact this n (by omega)
theorem range_size (b : Int) : Builtin.Range.rangeSize 0 b 1 = ((Int.toNat (b - 0) : Nat) : Int) := by
  rw [rangeSize_one]; split <;> omega
end Mine
namespace Mine
open Sem (wp)
/-- codes that no look of `exported` minds -/
def okId (id : String) : Bool := !((["bytearray.__contains__", "bytearray.__mod__", "bytearray.__rmod__", "_struct.pack_into.held", "bytearray.find.held"].contains id) || Builtin.Bytes.decodersThatHold.contains id)
def okCode : Code → Bool
  | .builtin id _ => okId id
  | _ => true
def CleanB (Γ : PySem.Ctx) : Prop := ∀ x ∈ Γ.below, okCode x.1 = true
def Clean (Γ : PySem.Ctx) : Prop := okCode Γ.code = true ∧ CleanB Γ
def wpC {α : Type} (M : Model) (A : Around) (t : Sem α) (Q : α → Shared → Prop) (E : Value → Shared → Prop) (s : Shared) : Prop :=
  ∀ Γ p, Γ.In A → Clean Γ → wp M Γ t (fun a _ s' => Q a s') (fun e _ s' => E e s') p s
def codeC (M : Model) (A : Around) (c : Code) (R : Result → Shared → Prop) (s : Shared) : Prop :=
  ∀ Γ p, Γ.code = c → Γ.Below A → CleanB Γ → wpCode M Γ R p s
section
variable {α β : Type} {M : Model} {A : Around} {E : Value → Shared → Prop} {s : Shared}
theorem wpC_of {t : Sem α} {Q : α → Shared → Prop} (h : wpAny M A t Q E s) : wpC M A t Q E s := fun Γ p hΓ _ => h Γ p hΓ
theorem codeC_of {c : Code} {R : Result → Shared → Prop} (h : codeAny M A c R s) : codeC M A c R s := fun Γ p hc hΓ _ => h Γ p hc hΓ
theorem wpC_mono {t : Sem α} {Q Q' : α → Shared → Prop} {E' : Value → Shared → Prop} (h : wpC M A t Q E s)
    (hQ : ∀ a s, Q a s → Q' a s) (hE : ∀ e s, E e s → E' e s) : wpC M A t Q' E' s :=
  fun Γ p hΓ hC => Sem.wp_mono M Γ t (fun a _ s => hQ a s) (fun e _ s => hE e s) p s (h Γ p hΓ hC)
theorem codeC_mono {c : Code} {R R' : Result → Shared → Prop} (h : codeC M A c R s) (hR : ∀ r s, R r s → R' r s) : codeC M A c R' s := fun Γ p hc hΓ hB => by
  exact wpCode_mono hR (h Γ p hc hΓ hB)
theorem wpC_bind {m : Sem α} {f : α → Sem β} {Q : β → Shared → Prop} (h : wpC M A m (fun a s' => wpC M A (f a) Q E s') E s) :
    wpC M A (m >>= f) Q E s := fun Γ p hΓ hC => by
  rw [Sem.wp_bind']
  exact Sem.wp_mono M Γ m (fun a p' s' h' => h' Γ p' hΓ hC) (fun _ _ _ h' => h') p s (h Γ p hΓ hC)
theorem wpC_onRaise {m : Sem α} {k : Value → Sem Unit} {Q : α → Shared → Prop}
    (h : wpC M A m Q (fun e s' => wpC M A (k e) (fun _ s'' => E e s'') E s') s) : wpC M A (m.onRaise k) Q E s := fun Γ p hΓ hC => by
  rw [Sem.wp_onRaise]
  exact Sem.wp_mono M Γ m (fun _ _ _ h' => h') (fun e p' s' h' => h' Γ p' hΓ hC) p s (h Γ p hΓ hC)
theorem wpC_holding {vs : List Value} {m : Sem α} {Q : α → Shared → Prop} (h : wpC M A m Q E s) : wpC M A (holding vs m) Q E s :=
  fun Γ p hΓ hC => by rw [Sem.wp_holding]; exact h Γ p hΓ hC
theorem wpC_keep {vs : List Value} {m : Sem α} {Q : α → Shared → Prop} (h : wpC M A m Q E s) : wpC M A (m.keep vs) Q E s :=
  fun Γ p hΓ hC => by rw [Sem.wp_keep]; exact h Γ p hΓ hC
theorem wpC_pure {a : α} {Q : α → Shared → Prop} (h : Q a s) : wpC M A (pure a) Q E s := wpC_of (wpAny_pure h)
theorem wpC_standAt {pos : Pos} {Q : Unit → Shared → Prop} (h : Q () s) : wpC M A (standAt pos) Q E s := wpC_of (wpAny_standAt h)
theorem wpC_point {Q : Unit → Shared → Prop} (h : Q () s) : wpC M A point Q E s := wpC_of (wpAny_point h)
theorem wpC_of_eq {a : α} {t : Sem α} {Q : α → Shared → Prop} (e : t = pure a) (h : Q a s) : wpC M A t Q E s := wpC_of (wpAny_of_eq e h)
theorem wpC_call {f : Value} {pos : List Value} {kw : List (Str × Value)} {Q : Value → Shared → Prop}
    (hc : codeC M A (.call f ⟨pos, kw⟩) (fun r s' => match r with | .ok (.ret v) => Q v s' | .ok _ => False | .error e => E e s') s) :
    wpC M A (call f pos kw) Q E s := fun Γ p hΓ hC => by
  rw [Sem.wp_cmd_call]
  refine hc _ p rfl (hΓ.enter _ none p (by intro x; cases x)) fun x hx => ?_
  rcases List.mem_cons.mp hx with rfl | hx
  · exact hC.1
  · exact hC.2 x hx
theorem codeC_of_tree {c : Code} {R : Result → Shared → Prop} (hok : okCode c = true)
    (h : wpC M (A.under c) (M.den c) (fun fin s' => match fin with | .done f => R (.ok f) s' | .again c' => c'.quiet = true ∧ codeC M A c' R s')
      (fun e s' => R (.error e) s') s) : codeC M A c R s := fun Γ p hc hΓ hB => by
  rw [wpCode_iff_wp, hc]
  refine Sem.wp_mono M Γ _ (fun fin p' s' h' => ?_) (fun _ _ _ h' => h') p s (h Γ p (hc ▸ hΓ.in) ⟨hc ▸ hok, hB⟩)
  cases fin with
  | done f => exact h'
  | again c' => exact ⟨h'.1, h'.2 (Γ.goto c') p' rfl (hΓ.goto c') hB⟩
end

section
variable {prog : Program} {w : World} {A : Around} {E : Value → Shared → Prop} {s : Shared} {env : Env} {R : Result → Shared → Prop}
theorem codeC_func {body : List Stmt}
    (h : wpC (model prog w) (A.deeper env) (execs body env) (fun f s' => R (.ok (.ret (match f with | .ret v => v | _ => .none))) s') (fun _ _ => False) s) :
    codeC (model prog w) A (.func body env) R s := by
  refine codeC_of_tree rfl ?_
  show wpC _ (A.deeper env) (do point; match ← (execs body env).onRaise (leaving env) with | .ret v => ret v | _ => ret .none) _ _ s
  refine wpC_bind (wpC_point (wpC_bind (wpC_onRaise (wpC_mono h (fun f s' h' => ?_) fun _ _ h' => h'.elim))))
  cases f <;> exact wpC_pure h'
theorem codeC_call_function {a : Addr} {args : Args} {o : Obj} {fd : FuncData} {body : List Stmt} (hroom : A.depth < recursionLimit)
    (ho : s.heap.get? a = some o)
    (hd' : o.data = .func fd) (hco : fd.scope.isCoroutine = false) (hgen : fd.scope.isGenerator = false) (hbody : fd.body = .stmts body) (hcd : s.heap.CodeRec fd.code fd.qualname)
    (h : wpAny (model prog w) A.in1 (bindArgs fd args) (fun binds s₁ =>
      wpAny (model prog w) A.in1 (newFunctionEnv fd.scope fd.globals fd.closure binds (fd.qualname ++ ".<locals>.") (some a) fd.code none fd.builtins)
        (fun env s₂ => s₂.heap.NoLimit ∧ codeC (model prog w) A (.func body env) R s₂) (fun e s' => R (.error e) s') s₁) (fun e s' => R (.error e) s') s) :
    codeC (model prog w) A (.call (.ref a) args) R s := by
  refine codeC_of_tree rfl (wpC_of ?_)
  show wpAny _ A.in1 (callAny (.ref a) args) _ _ s
  simp only [callAny]
  refine wpAny_bind (wpAny_load ho ?_)
  obtain ⟨c, oc, vs, tq, hc, hoc, hdc, hq⟩ := hcd
  simp only [hd', callFunction, hco, hgen, hbody, hc]
  rw [hc] at h
  refine wpAny_bind (m := field (.ref c) 1) (wpAny_field hoc hdc hq (wpAny_bind (wpAny_pure ?_)))
  exact wpAny_bind (wpAny_mono h (fun binds s₁ h₁ => wpAny_bind (wpAny_mono h₁ (fun env s₂ h₂ => wpAny_bind (wpAny_enterFrame h₂.1 hroom
    (wpAny_pure (And.intro rfl h₂.2)))) fun _ _ h' => h')) fun _ _ h' => h')
theorem codeC_builtin {id : String} {args : Args} {b : Builtin} (hok : okCode (.builtin id args) = true) (hb : entryFor table id = some b)
    (h : wpC (model prog w) (A.under (.builtin id args)) (b args)
      (fun fin s' => match fin with | .done f => R (.ok f) s' | .again c' => c'.quiet = true ∧ codeC (model prog w) A c' R s') (fun e s' => R (.error e) s') s) :
    codeC (model prog w) A (.builtin id args) R s := by
  refine codeC_of_tree hok ?_
  show wpC _ _ (match entryFor table id with | some b => b args | none => unsupported ((withoutEnding? id "#data").getD id)) _ _ s
  rw [hb]; exact h
theorem wpC_execs_cons {st : Stmt} {rest : List Stmt} {Q : Flow → Shared → Prop}
    (h : wpC (model prog w) A (exec st env) (fun f s' => match f with | .next => wpC (model prog w) A (execs rest env) Q E s' | f => Q f s') E s) :
    wpC (model prog w) A (execs (st :: rest) env) Q E s := by
  rw [execs_cons]
  refine wpC_bind (wpC_mono h (fun f s' h' => ?_) fun _ _ x => x)
  cases f <;> first | exact h' | exact wpC_pure h'
theorem wpC_Assign_Name {x pos' value pos} {Q : Flow → Shared → Prop}
    (h : wpC (model prog w) A (eval value env) (fun v s₁ => wpAny (model prog w) A (storeName env x v) (fun _ => Q .next) E s₁) E s)
    (hs : swapsWith value (some (.Name x pos')) pos.line env = pure false := by rfl) :
    wpC (model prog w) A (exec (.Assign [.Name x pos'] value pos) env) Q E s := fun Γ p hΓ hC => by
  simp only [exec_Assign_Name env x pos' value pos hs, Sem.wp_bind', Sem.wp_cmd_standAt, Sem.wp_bindName, Sem.wp_pure']
  exact Sem.wp_mono _ Γ _ (fun v _ s₁ h₁ => h₁ Γ _ hΓ) (fun _ _ _ h' => h') _ _ (h Γ _ hΓ hC)
theorem wpC_Call_ {func : Expr} {args : List Expr} {pos : Pos} {Q : Value → Shared → Prop}
    (h : wpAny (model prog w) A (eval func env) (fun f s₁ => wpC (model prog w) A (callWith pos f [] (backTo pos (starEach args env)) []) Q E s₁) E s)
    (he : eval (.Call func args [] pos) env = (do callWith pos (← eval func env) [] (backTo pos (starEach args env)) (backToKw pos (keywordEach [] env))) := by rfl) :
    wpC (model prog w) A (eval (.Call func args [] pos) env) Q E s := by
  rw [he]; exact wpC_bind (wpC_of h)
theorem wpC_callWith_of {pos : Pos} {f : Value} {P : Heap → Prop} {first : List Value} {args : List (Bool × Sem Value)} {keywords : List (Option Str × Sem Value)} {Q : Value → Shared → Prop} (hplain : (args.any (·.1) || keywords.any (·.1.isNone)) = false)
    (hk : ∀ h, P h → ∃ k, (k = Keeper.frame ∨ k = Keeper.machine ∨ k = Keeper.boundFrame) ∧ Looks (model prog w) h (keeperOf f) k)
    (h : wpAny (model prog w) A (evalArgs f true args keywords) (fun a s₁ => P s₁.heap ∧ wpC (model prog w) A (call f (first ++ a.pos) a.kw) Q E s₁) E s) : wpC (model prog w) A (callWith pos f first args keywords) Q E s := by
  unfold callWith
  refine wpC_bind (wpC_holding (wpC_of (wpAny_mono h (fun a s₁ h₁ => wpC_bind (wpC_standAt ?_)) fun _ _ x => x)))
  obtain ⟨k, hk', L⟩ := hk _ h₁.1
  simp only [hplain]
  refine wpC_bind (wpC_of (L.here ?_))
  have tail : ∀ {t : Sem Value}, wpC (model prog w) A t Q E s₁ → wpC (model prog w) A (t >>= fun r => holding [r] point >>= fun _ => pure r) Q E s₁ :=
    fun ht => wpC_bind (wpC_mono ht (fun r s₂ hr => wpC_bind (wpC_holding (wpC_point (wpC_pure hr)))) fun _ _ x => x)
  have marked (mk : Value) : wpC (model prog w) A (callMarked mk f (first ++ a.pos) a.kw) Q E s₁ := by unfold callMarked; exact wpC_keep h₁.2
  rcases hk' with rfl | rfl | rfl <;> dsimp only <;> first | exact tail h₁.2 | (split <;> first | exact tail h₁.2 | exact tail (marked _))
theorem wpC_callWith_K {K : Frag} {h₀ : Heap} {pos : Pos} {f : Value} {e : Expr} {rest : List Expr} {Q : Value → Shared → Prop} (_X : K.In h₀) (hk : keepIn K f = true) (h : wpAny (model prog w) A (spliced (backTo pos (starEach (e :: rest) env))) (fun vs s₁ => K.In s₁.heap ∧ wpC (model prog w) A (call f vs) Q E s₁) E s)
    (he : starEach (e :: rest) env = (false, eval e env) :: starEach rest env := by rfl) (hplain : (backTo pos (starEach rest env)).any (·.1) = false := by rfl) :
    wpC (model prog w) A (callWith pos f [] (backTo pos (starEach (e :: rest) env)) []) Q E s := by
  rw [he] at h ⊢
  exact wpC_callWith_of (by show ((false || (backTo pos (starEach rest env)).any (·.1)) || false) = false; rw [hplain]; rfl) (keeps_K hk) (evalArgs_plain h)
theorem wpC_callWith_type1 {pos : Pos} {T : String} {e : Expr} {rest : List Expr} {Q : Value → Shared → Prop}
    (h : wpAny (model prog w) A (spliced (backTo pos (starEach (e :: rest) env))) (fun vs s₁ => wpC (model prog w) A (call (.type T) vs) Q E s₁) E s)
    (he : starEach (e :: rest) env = (false, eval e env) :: starEach rest env := by rfl)
    (hplain : (backTo pos (starEach rest env)).any (·.1) = false := by rfl) :
    wpC (model prog w) A (callWith pos (.type T) [] (backTo pos (starEach (e :: rest) env)) []) Q E s := by
  rw [he] at h ⊢
  exact wpC_callWith_of (P := fun _ => True) (by show ((false || (backTo pos (starEach rest env)).any (·.1)) || false) = false; rw [hplain]; rfl) (fun _ _ => ⟨.machine, .inr (.inl rfl), Looks.of_pure rfl⟩) (evalArgs_plain (wpAny_mono h (fun _ _ x => ⟨trivial, x⟩) fun _ _ x => x))
theorem codeC_enter {K : Frag} {p : Program} {loose : List Str} {mean : ExcName → Option Value} {mg mb : Str → Option Value} {name qual : Str} {params : Arguments} {body : List Stmt} {scope : Scope} {dV kV doc pm cdv ct oc : Value} {an od : Option Addr} {osl : Array (Option Value)} {f : Addr} {args : Args} {binds : List (Str × Value)}
    (X : K.In s.heap) (T : Top p loose mean mg mb s.heap)
    (ho : K.lookup f = some ⟨oc, od, .func (fnOf name qual params body scope dV kV doc pm an cdv ct), osl⟩) (hcd : codeIn K cdv qual = true) (hroom : A.depth < recursionLimit)
    (hbind : BindsTo s (fnOf name qual params body scope dV kV doc pm an cdv ct) args binds) (hloc : ∀ y ∈ binds, scope.names.lookup y.1 = some .local)
    (h : ∀ L h₁, Fr s.heap L h₁ (fun y => binds.reverse.lookup y) → News s.heap L h₁ [] →
      wpC (model prog w) (A.deeper (envOf qual scope L f cdv)) (execs body (envOf qual scope L f cdv))
        (fun fl s' => R (.ok (.ret (match fl with | .ret v => v | _ => .none))) s') (fun _ _ => False)
        { s with heap := h₁, toks := s.toks + binds.length })
    (hco : scope.isCoroutine = false) (hgen : scope.isGenerator = false) (hk : scope.kind = .function)
    (hcell : ∀ x ∈ scope.names, x.2 ≠ .cell) : codeC (model prog w) A (.call (.ref f) args) R s := by
  refine codeC_call_function (fd := fnOf name qual params body scope dV kV doc pm an cdv ct) hroom (X _ _ ho) rfl hco hgen rfl (codeRec_of X hcd) (hbind _ _ _ _ ?_)
  refine wpAny_newFunctionEnv hcell hloc (fun h₀ hns₀ hsb₀ => ?_) hk
  have hk₀ : ∀ b o, s.heap.get? b = some o → h₀.get? b = some o := fun b o e => hsb₀.extBut b o (Nat.ne_of_lt (Heap.lt_size e)) (Heap.get?_push_of_some _ e)
  exact ⟨T.nolimit.keeps hk₀, codeC_func (h s.heap.objs.size h₀ ⟨hns₀, hk₀, Nat.le_refl _⟩ News.nil)⟩
theorem codeC_enterC {K : Frag} {p : Program} {loose : List Str} {mean : ExcName → Option Value} {mg mb : Str → Option Value} {name qual : Str} {params : Arguments} {body : List Stmt} {scope : Scope} {dV kV doc pm cdv ct oc : Value} {an od : Option Addr} {osl : Array (Option Value)} {f : Addr} {args : Args} {binds : List (Str × Value)}
    (X : K.In s.heap) (T : Top p loose mean mg mb s.heap)
    (ho : K.lookup f = some ⟨oc, od, .func (fnOf name qual params body scope dV kV doc pm an cdv ct), osl⟩) (hcd : codeIn K cdv qual = true) (hroom : A.depth < recursionLimit)
    (hbind : BindsTo s (fnOf name qual params body scope dV kV doc pm an cdv ct) args binds)
    (hkind : (binds.all fun y => scope.names.lookup y.1 == some .local || scope.names.lookup y.1 == some .cell) = true)
    (hnd : ((cellsFrom 0 scope.names []).map (·.1)).Nodup)
    (h : ∀ L h₁ tk cells, Fr s.heap L h₁ (bindL (envOfC qual scope L f cdv).kindOf binds fun _ => none) → News s.heap L h₁ cells →
      CellsAre (bindC (envOfC qual scope L f cdv).kindOf binds fun _ => none) (cellsFrom (L + 1) scope.names []) cells →
      wpC (model prog w) (A.deeper (envOfC qual scope L f cdv)) (execs body (envOfC qual scope L f cdv))
        (fun fl s' => R (.ok (.ret (match fl with | .ret v => v | _ => .none))) s') (fun _ _ => False)
        { s with heap := h₁, toks := tk })
    (hco : scope.isCoroutine = false) (hgen : scope.isGenerator = false) (hk : scope.kind = .function) : codeC (model prog w) A (.call (.ref f) args) R s := by
  refine codeC_call_function (fd := fnOf name qual params body scope dV kV doc pm an cdv ct) hroom (X _ _ ho) rfl hco hgen rfl (codeRec_of X hcd) (hbind _ _ _ _ ?_)
  refine wpAny_newFunctionEnv_cells hk (kindsX hkind _) fun env' he s' x => ?_
  subst he
  refine ⟨T.nolimit.keeps x.toInCall.keep, codeC_func ?_⟩
  obtain ⟨h₁, tk, rfl, _⟩ := x.done
  have hk₁ := x.toInCall.keep
  obtain ⟨cells, NC, Y⟩ := Cl.news (h₀ := s.heap) (Nat.le_refl _) fun n c hm => ⟨x.cell n c (lookup_of_mem_nodup (cellsFrom_names scope.names 0 (s.heap.objs.size + 1) [] [] rfl ▸ hnd) hm), x.above n c hm⟩
  exact h s.heap.objs.size h₁ tk cells ⟨x.toInCall.ns, hk₁, Nat.le_refl _⟩ NC Y
theorem any_off {α : Type} {f : α → Bool} {l : List α} (h : ∀ x ∈ l, f x = false) : l.any f = false := by
  rw [List.any_eq_false]
  intro x hx
  rw [h x hx]; exact Bool.false_ne_true
theorem wpC_exported {v : Value} {Q : Bool → Shared → Prop} (h : Q false s) : wpC (model prog w) A (Builtin.Bytes.exported v) Q E s := by
  intro Γ p hΓ hC
  show Q (((Γ.code, p) :: Γ.below).any _) s
  rw [any_off fun x hx => ?_]
  · exact h
  · have hx : okCode x.1 = true := by
      rcases List.mem_cons.mp hx with rfl | hx
      · exact hC.1
      · exact hC.2 x hx
    split <;> simp_all [okCode, okId]
end
end Mine
namespace Mine
set_option maxRecDepth 100000
open Sem (wp)
/-- on a stack where no code holds a bytearray's octets: t; on another: v at once -/
def onClean {α : Type} (t : Sem α) (v : α) : Sem α := .stack fun st => if st.all (fun x => okCode x.1) = true then t else pure v
theorem clean_of {Γ : PySem.Ctx} {p : Pos} (h : ((Γ.code, p) :: Γ.below).all (fun x => okCode x.1) = true) : Clean Γ := by
  rw [List.all_cons, Bool.and_eq_true] at h
  exact ⟨h.1, fun x hx => List.all_eq_true.mp h.2 x hx⟩
theorem onClean_any {α : Type} {M : Model} {A : Around} {t : Sem α} {v : α} {Q : α → Shared → Prop} {E : Value → Shared → Prop} {s : Shared}
    (h : wpC M A t Q E s) (hv : Q v s) : wpAny M A (onClean t v) Q E s := fun Γ p hΓ => by
  unfold onClean
  rw [Sem.wp_stack]
  split
  · exact h Γ p hΓ (clean_of ‹_›)
  · exact hv
theorem onClean_to {α β : Type} {M : Model} {A : Around} {t : Sem α} {v : α} {u : Sem β} {z : β} {Q : α → Shared → Prop} {Q' : β → Shared → Prop} {E E' : Value → Shared → Prop} {s : Shared}
    (h : wpAny M A (onClean t v) Q E s) (hv : Q v s → Q' z s) (ht : ∀ Γ p, Γ.In A → wp M Γ t (fun a _ s' => Q a s') (fun e _ s' => E e s') p s → wp M Γ u (fun a _ s' => Q' a s') (fun e _ s' => E' e s') p s) : wpAny M A (onClean u z) Q' E' s := fun Γ p hΓ => by
  have h := h Γ p hΓ
  unfold onClean at h ⊢
  rw [Sem.wp_stack] at h ⊢
  split at h
  · rw [if_pos ‹_›]; exact ht Γ p hΓ h
  · rw [if_neg ‹_›]; exact hv h
/-- the caller's own stack is clean: the looking thread goes where the plain one stands -/
theorem onClean_run {prog : Program} {w : World} {s s' : Shared} {t : Sem Fin} {z : Fin} {n : Nat} {o : Outcome} (hz : s.asleep)
    (h : schedN (denote table) prog w n (.single s ⟨onClean t z, .builtin "claim.caller" {}, default, []⟩) = .halted o s') :
    ∃ k, schedN (denote table) prog w k (.single s ⟨t, .builtin "claim.caller" {}, default, []⟩) = .halted o s' := by
  cases n with
  | zero => cases h
  | succ n =>
    refine ⟨n, ?_⟩
    have e : step (denote table) prog w s ⟨onClean t z, .builtin "claim.caller" {}, default, []⟩ = .go s ⟨t, .builtin "claim.caller" {}, default, []⟩ := by
      have q : (if ([((Code.builtin "claim.caller" {} : Code), (default : Pos))].all fun x => okCode x.1) = true then t else pure z) = t := if_pos (by decide +kernel)
      exact congrArg (fun y : Sem PySem.Fin => Step.go s ⟨y, .builtin "claim.caller" {}, default, []⟩) q
    have hs : sstep (denote table) prog w (.single s ⟨onClean t z, .builtin "claim.caller" {}, default, []⟩) = (step (denote table) prog w s ⟨onClean t z, .builtin "claim.caller" {}, default, []⟩).lift := by
      rcases sstep_single (denote table) prog w s ⟨onClean t z, .builtin "claim.caller" {}, default, []⟩ (by simp [onClean, Thread.calm, Thread.atCollectorCode, Thread.yieldsInsideHandler]) hz with q | q
      · exact q
      · rw [e] at q; cases q
    simp only [schedN, hs, e, Step.lift] at h
    exact h
theorem holdsBy_stub {c : ClaimW} {S S' : List Value → Thread} {defs keeps : List Str} {writes : Bool} (h : c.HoldsOpenBy S defs keeps writes)
    (hS : ∀ (w : World) (vs : List Value) (s s' : Shared) (n : Nat) (o : Outcome), s.asleep → schedN (denote table) c.prog w n (.single s (S vs)) = .halted o s' → ∃ k, schedN (denote table) c.prog w k (.single s (S' vs)) = .halted o s') :
    c.HoldsOpenBy S' defs keeps writes := by
  obtain ⟨a, b, d⟩ := h
  refine ⟨a, b, fun w => ⟨(d w).1, fun s hs => ?_⟩⟩
  obtain ⟨s₀, hf, hg, s₁, T, p1, p2, p3, C⟩ := (d w).2 s hs
  refine ⟨s₀, hf, hg, s₁, T, p1, p2, p3, fun args h1 h2 ord h3 => ?_⟩
  have hz : s₁.asleep := Shared.asleep_of_life (T.2.1.trans (fence_lifeW hf)) (AfterImport.life hs)
  obtain ⟨vs, s₂, hl, n, o, s', hr, rest⟩ := C args h1 h2 ord h3
  obtain ⟨k, hk⟩ := hS w vs s₂ s' n o (Shared.asleep_of_life (layAllW_rest _ _ _ hl).2.2.2 hz) hr
  exact ⟨vs, s₂, hl, k, o, s', hk, rest⟩
end Mine
namespace Mine.PySem.W
/-- the library's head for a walk on a clean stack; open_top takes it inside namespace Mine -/
theorem holds_open {r : OpenRow} {q : Program} {loose : List Str} {Xt : Shared → Bool} {XP : (Str → Option Value) → Heap → Prop} {α : Type} {Yf : Shared → α} {Ya : World → α} {YP : World → Heap → Prop} {d : DefRec} {kwd : List (Str × Expr)} {N : Nat}
    (left : LeftO r.prog q loose Xt Yf Ya N) (hY : ∀ w s, Yf s = Ya w → YP w s.heap) (hYk : ∀ w h h', YP w h → (∀ b o, h.get? b = some o → h'.get? b = some o) → YP w h')
    (hX : ∀ s, Xt s = true → XP (s.heap.nsMap mainGlobals) s.heap) (hXk : ∀ mg h h', XP mg h → (∀ b o, h.get? b = some o → h'.get? b = some o) → XP mg h')
    (hdef : defOf q r.name = some (d, kwd)) (hp : r.prog.theDef r.name = some (d.params, d.body, d.scope)) (hk : kwWritten? d.params.kwonlyargs d.params.kw_defaults = some kwd) (hRf : ∀ s, Xt s = true → RecFacts r.records s.heap) (hwr : (!r.writes || r.records.isEmpty) = true)
    (k1 : r.wellSaid = true) (ok : (chainsOk q && opensWell r.prog && (frees r.toRowW && r.within.isEmpty)) = true) (hb : r.prog.bare) (hw : r.toRowW.promised)
    (call : WalkO q loose XP YP r.toRowW d kwd fun f vs => onClean (PySem.call f vs) (.bool true)) : r.Holds := by
  refine ⟨k1, hw, holdsBy_stub (c := r.toRowW.claim) (S := fun vs => ⟨onClean (callStub r.name vs).cur (.done (.ret (.bool true))), .builtin "claim.caller" {}, default, []⟩)
    (open_anyG (r := r.toRowW) (run := fun f vs => onClean (PySem.call f vs) (.bool true)) left hY hYk hX hXk hRf hwr ok hb hw (fun vs w s mg f Q E hg hf h => onClean_to h (fun x => x) fun Γ p hΓ x => ?_) (fun w s hg G n hn => ?_) fun w s₀ s₁ mg mb G Y args vs as hpre hlay L low => ?_) fun w vs s s' n o hz h => onClean_run hz h⟩
  · show Sem.wp (model r.prog w) Γ (nsGet mainGlobals r.name >>= fun g => match g with
      | some f => do ret (← PySem.call f vs)
      | none => unsupported "claim.caller:no-such-global") _ _ p s
    rw [Sem.wp_bind', Sem.wp_nsGet (model r.prog w) Γ _ p s hg, hf]
    simpa using x
  · split at hn
    · rw [List.mem_singleton.mp hn]; exact pinned_of_view hg G hdef hp hk
    · cases hn
  · obtain ⟨a, o, pm, cd, doc, dV, kV, h1, h2, h3, h4, h5⟩ := G.fn hdef
    exact ⟨.ref a, h1, call w s₀ s₁ mg mb G Y a o pm cd doc dV kV h2 h3 h4 h5 (defOf_name hdef ▸ h1) L.gens args vs as hpre hlay L.reads L.well (L.low low)⟩
end Mine.PySem.W
namespace Mine
set_option maxRecDepth 100000 in
set_option maxHeartbeats 8000000 in
open_top hd for PySem.Challenge.rw_zn0005_01
end Mine
namespace Mine
set_option maxRecDepth 100000
theorem ba_mro : mroOf (.type "bytearray") = pure [.type "bytearray", .type "object"] := by rw [mroOf_type]; kernel_rfl
theorem ba_lookup_new : typeLookup (.type "bytearray") "__new__" = pure (some (.builtin "bytearray.__new__")) := by rw [typeLookup_type, builtinLookup_eq_fast]; kernel_rfl
theorem ba_slot_init : Slot "bytearray" "__init__" "bytearray.__init__" :=
  .of (owner := "bytearray") (n := "__init__") (by rw [typeLookup_type, builtinLookup_eq_fast]; kernel_rfl) (by decide +kernel) (by decide +kernel) (by decide +kernel)
    (by first | exact .inl (by decide +kernel) | exact .inr (by decide +kernel)) (by rw [isSubtype_type]; kernel_rfl)
theorem ba_called : TypeCalled "bytearray" "bytearray.__new__" "bytearray.__init__" :=
  ⟨by decide +kernel, by decide +kernel, ⟨_, _, ba_mro⟩, madeBy_type ba_mro ba_lookup_new (by decide +kernel), by decide +kernel, PySem.F.isi_self_bytearray, ba_slot_init⟩
theorem ba_typeCall (a : Value) : checkTypeCall "bytearray" ⟨[a], []⟩ = pure () := by kernel_rfl
theorem ba_newCall (a : Value) : checkBuiltinCall "bytearray.__new__" ⟨[.type "bytearray", a], []⟩ = pure () := by kernel_rfl
theorem ba_plain : plainId "bytearray.__new__" = true := by decide +kernel
theorem ba_entry : entryFor table "bytearray.__new__" = some Builtin.«list.__new__» := entryFor_alias (id' := "list.__new__") (by rw [fastTable_eq_tree]; kernel_rfl) (by decide +kernel) (by decide +kernel) (by rw [fastTable_eq_tree]; kernel_rfl)
theorem ba_entryI : entryFor table "bytearray.__init__" = some Builtin.«bytearray.__init__» := by first | exact entryFor_of_fast (by kernel_rfl) | exact entryFor_of_tree (by kernel_rfl)
set_option maxRecDepth 1000000 in
set_option maxHeartbeats 4000000 in
theorem ba_owner : ("bytearray.__new__".splitOn ".__new__").headD "" = "bytearray" := by simp +decide [String.splitOn, String.splitOnAux]
theorem ba_owner_sig : Manifest.owners.lookup (String.ofList ['y', 'a', 'r', 'r', 'a', 'e', 't', 'y', 'b'].reverse) = some Manifest.sig_bytearray := by kernel_rfl
theorem ba_args_init (a b : Value) : argsOk "bytearray.__init__" ⟨[a, b], []⟩ := by
  unfold argsOk; rw [signature?_of (id := "bytearray.__init__") (n := ['_', '_', 't', 'i', 'n', 'i', '_', '_']) (o := ['y', 'a', 'r', 'r', 'a', 'e', 't', 'y', 'b']) (by kernel_rfl) ba_owner_sig]; kernel_rfl
theorem ba_args_set (a b c : Value) : argsOk "bytearray.__setitem__" ⟨[a, b, c], []⟩ := by
  unfold argsOk; rw [signature?_of (id := "bytearray.__setitem__") (n := ['_', '_', 'm', 'e', 't', 'i', 't', 'e', 's', '_', '_']) (o := ['y', 'a', 'r', 'r', 'a', 'e', 't', 'y', 'b']) (by kernel_rfl) ba_owner_sig]; kernel_rfl
theorem ba_slot_set : Slot "bytearray" "__setitem__" "bytearray.__setitem__" :=
  .of (owner := "bytearray") (n := "__setitem__") (by rw [typeLookup_type, builtinLookup_eq_fast]; kernel_rfl) (by decide +kernel) (by decide +kernel) (by decide +kernel)
    (by first | exact .inl (by decide +kernel) | exact .inr (by decide +kernel)) (by rw [isSubtype_type]; kernel_rfl)
theorem ba_entry_set : entryFor table "bytearray.__setitem__" = some Builtin.«bytearray.__setitem__» := by first | exact entryFor_of_fast (by kernel_rfl) | exact entryFor_of_tree (by kernel_rfl)
theorem ba_no_bytes : typeLookup (.type "bytearray") "__bytes__" = pure none := by rw [typeLookup_type, builtinLookup_eq_fast]; kernel_rfl
theorem ba_no_index : typeLookup (.type "bytearray") "__index__" = pure none := by rw [typeLookup_type, builtinLookup_eq_fast]; kernel_rfl
theorem ba_buffer : typeLookup (.type "bytearray") "__buffer__" = pure (some (.builtin "bytearray.__buffer__")) := by rw [typeLookup_type, builtinLookup_eq_fast]; kernel_rfl
theorem ba_bind (v : Value) : Builtin.Bytes.bindOptional "bytearray.__init__" "bytearray" ["source", "encoding", "errors"] [v] [] = pure [some v, none, none] := by kernel_rfl
theorem ba_release : typeLookup (.type "bytearray") "__release_buffer__" = pure (some (.builtin "bytearray.__release_buffer__")) := by rw [typeLookup_type, builtinLookup_eq_fast]; kernel_rfl
section
variable {prog : Program} {w : World} {A : Around} {E : Value → Shared → Prop} {s : Shared}
theorem code_ba_new (a : Value) {Q₁ : Value → Shared → Prop}
    (h : Q₁ (.ref s.heap.objs.size) { s with heap := s.heap.push { cls := .type "bytearray", data := .bytearray #[] } }) :
    codeAny (model prog w) A (.call (.builtin "bytearray.__new__") ⟨[.type "bytearray", a], []⟩) (wants Q₁ E) s := by
  refine codeAny_of_tree ?_
  show wpAny _ A.in1 (do checkBuiltinCall "bytearray.__new__" ⟨[.type "bytearray", a], []⟩; again (.builtin "bytearray.__new__" ⟨[.type "bytearray", a], []⟩)) _ _ s
  refine wpAny_bind (wpAny_of_eq (ba_newCall a) (wpAny_pure ⟨plainId_quiet ba_plain _, codeAny_builtin_stack ba_entry rfl fun p st => ?_⟩))
  rw [Around.under_plainId ba_plain _]
  have hsub := PySem.F.isi_self_bytearray
  have hown := ba_owner
  obtain ⟨hp, g, d, tk, os⟩ := s
  simp only [hown]
  wp_walk
  exact h
theorem c_if_false {α : Type} {c : Bool} {a b : Sem α} {Q : α → Shared → Prop} (hc : c = false) (h : wpC (model prog w) A b Q E s) : wpC (model prog w) A (if c = true then a else b) Q E s := by
  subst hc
  exact h
theorem c_if_true {α : Type} {c : Bool} {a b : Sem α} {Q : α → Shared → Prop} (hc : c = true) (h : wpC (model prog w) A a Q E s) : wpC (model prog w) A (if c = true then a else b) Q E s := by
  subst hc
  exact h
theorem ownRelease_ba {d : Addr} {Q : Bool → Shared → Prop} (hT : s.TypeIs (.ref d) "bytearray") (h : Q false s) : wpAny (model prog w) A (Builtin.Bytes.ownRelease (.ref d)) Q E s := by
  unfold Builtin.Bytes.ownRelease Builtin.Bytes.slotIsOwn
  refine wpAny_bind (wpAny_bind (wpAny_specialOf hT ba_release ?_))
  dsimp only
  refine bm_if_false (by decide +kernel) ?_
  refine wpAny_isInstance (b := true) hT (by rw [isSubtype_type]; kernel_rfl) ?_
  exact wpAny_pure h
theorem write_ba {d : Addr} {b : Array UInt8} {f : Array UInt8 → Array UInt8} {Q : Unit → Shared → Prop} (ho : s.heap.get? d = some { cls := .type "bytearray", data := .bytearray b }) (hz : (f b).size ≤ 1000)
    (h : ∀ h', h'.get? d = some { cls := .type "bytearray", data := .bytearray (f b) } → Heap.SameBut d s.heap h' → Q () { s with heap := h' }) : wpAny (model prog w) A (Builtin.Bytes.write (.ref d) f) Q E s := by
  show wpAny _ _ (updateBytearray d f) _ _ _
  unfold updateBytearray
  refine wpAny_bind (wpAny_load ho ?_)
  show wpAny _ _ (update d (Obj.mapBytearray f) >>= fun _ => lookBehind d) _ _ _
  refine wpAny_bind (wpAny_update ho ?_)
  have hS₂ : (s.heap.update d (Obj.mapBytearray f)).get? d = some { cls := .type "bytearray", data := .bytearray (f b) } := Heap.get?_update_self (Obj.mapBytearray f) ho rfl
  refine wpAny_lookBehind hS₂ ?_ (h _ hS₂ (Heap.SameBut.update ..))
  show (if (f b).size > sizeLine then some "bytearray:memory" else none) = none
  rw [if_neg]
  rw [sizeLine_eq]; omega
theorem init_ba {d : Addr} {n : Int} {t : Tok} {Q : Fin → Shared → Prop} (ho : s.heap.get? d = some { cls := .type "bytearray", data := .bytearray #[] }) (h0 : 0 < n) (h1 : n ≤ 1000)
    (hQ : ∀ h', h'.get? d = some { cls := .type "bytearray", data := .bytearray (Array.replicate n.toNat 0) } → Heap.SameBut d s.heap h' → Q (.done (.ret .none)) { s with heap := h' }) :
    wpC (model prog w) A (Builtin.«bytearray.__init__» ⟨[.ref d, .int n t], []⟩) Q E s := by
  have hT : s.TypeIs (.ref d) "bytearray" := ⟨_, ho, rfl⟩
  unfold Builtin.«bytearray.__init__»
  refine wpC_bind (wpC_of (ownRelease_ba hT ?_))
  refine wpC_bind (wpC_of_eq (ba_bind _) ?_)
  refine wpC_bind (wpC_of_eq (a := ()) rfl ?_)
  refine wpC_bind (wpC_of_eq (a := ()) rfl ?_)
  refine wpC_bind (wpC_bind (wpC_exported ?_))
  show wpC _ _ (Builtin.Bytes.exportsOf (.ref d) >>= _) _ _ _
  unfold Builtin.Bytes.exportsOf
  refine wpC_of (wpAny_bind (wpAny_bind (wpAny_load ho (wpAny_pure (wpAny_pure ?_)))))
  refine c_if_false rfl (wpC_of ?_)
  refine wpAny_bind (write_ba (f := fun _ => #[]) ho (Nat.zero_le _) fun h₁ ho₁ hs₁ => ?_)
  dsimp only
  refine wpAny_bind (wpAny_of_eq (a := none) rfl ?_)
  refine bm_if_false rfl ?_
  refine wpAny_bind (wpAny_of_eq (a := ()) rfl ?_)
  refine wpAny_bind (wpAny_specialOf (typeIs_int _ _ _) PySem.int_index ?_)
  refine bm_if_true rfl ?_
  refine wpAny_bind (wpAny_attempt (wpAny_of_eq (a := n) rfl ?_))
  dsimp only
  refine bm_if_false (by simp [Builtin.Bytes.fitsIndex]; omega) ?_
  rw [if_neg (by omega), if_neg (by simp; omega), if_neg (by simp [Builtin.Bytes.tooLong, sizeLine_eq]; omega)]
  refine wpAny_bind (wpAny_rule ?_)
  rw [if_pos h0]
  refine wpAny_bind (write_ba (f := fun _ => Array.replicate n.toNat 0) ho₁ (by simp; omega) fun h₂ ho₂ hs₂ => ?_)
  exact wpAny_pure (hQ h₂ ho₂ ⟨hs₂.1.trans hs₁.1, fun b hb => (hs₂.2 b hb).trans (hs₁.2 b hb)⟩)
theorem call_ba {n : Int} {t : Tok} {Q : Value → Shared → Prop} (h0 : 0 < n) (h1 : n ≤ 1000)
    (hQ : ∀ h', h'.get? s.heap.objs.size = some { cls := .type "bytearray", data := .bytearray (Array.replicate n.toNat 0) } → (∀ b o, s.heap.get? b = some o → h'.get? b = some o) → Q (.ref s.heap.objs.size) { s with heap := h' }) :
    wpC (model prog w) A (call (.type "bytearray") [.int n t]) Q E s := by
  refine wpC_call (codeC_of_tree rfl ?_)
  show wpC _ _ (callAny (.type "bytearray") _) _ _ _
  refine wpC_pure ⟨Code.quiet_builtin _ (by decide +kernel), codeC_builtin (show okId "type.__call__" = true by decide +kernel) F.entry_type_call ?_⟩
  rw [Around.under_plain (weight_type_call_type "bytearray" _ []) rfl]
  unfold Builtin.«type.__call__»
  refine c_if_false ba_called.notType ?_
  dsimp only
  refine c_if_false ba_called.canCreate ?_
  refine wpC_bind (wpC_of_eq (ba_typeCall _) ?_)
  refine wpC_bind (wpC_of_eq ba_mro ?_)
  refine c_if_false rfl ?_
  refine wpC_bind (wpC_of_eq ba_called.made ?_)
  dsimp only
  refine wpC_bind (wpC_pure ?_)
  refine wpC_bind (wpC_holding (wpC_of (wpAny_call (codeAny_mono (code_ba_new (E := fun _ _ => False) (Q₁ := fun v s' => v = .ref s.heap.objs.size ∧ s' = { s with heap := s.heap.push { cls := .type "bytearray", data := .bytearray #[] } }) _ ⟨rfl, rfl⟩) fun r s₁ hr => ?_))))
  cases r with
  | error e => exact hr.elim
  | ok fl =>
    cases fl with
    | ret obj =>
      obtain ⟨rfl, rfl⟩ := hr
      have ho : (s.heap.push { cls := .type "bytearray", data := .bytearray #[] }).get? s.heap.objs.size = some { cls := .type "bytearray", data := .bytearray #[] } := Heap.get?_push_size _ rfl
      have hT : ({ s with heap := s.heap.push { cls := .type "bytearray", data := .bytearray #[] } } : Shared).TypeIs (.ref s.heap.objs.size) "bytearray" := ⟨_, ho, rfl⟩
      refine wpC_bind (wpC_of (wpAny_isInstance (b := true) hT PySem.F.isi_self_bytearray ?_))
      refine c_if_false rfl ?_
      refine wpC_bind (wpC_holding ?_)
      unfold callSpecial?
      refine wpC_bind (wpC_of (wpAny_specialOf hT ba_slot_init.lookup ?_))
      dsimp only
      rw [ba_slot_init.bind]
      refine wpC_holding (wpC_bind (wpC_pure (wpC_bind ?_)))
      refine wpC_call (codeC_of_tree rfl ?_)
      show wpC _ A.in1.in1 (do checkBuiltinCall "bytearray.__init__" ⟨[.ref s.heap.objs.size, .int n t], []⟩; again (.builtin "bytearray.__init__" ⟨[.ref s.heap.objs.size, .int n t], []⟩)) _ _ _
      refine wpC_bind (wpC_of (ba_slot_init.check _ _ _ _ _ _ _ _ hT ?_ (wpC_pure ⟨plainId_quiet ba_slot_init.plain _, codeC_builtin (show okId "bytearray.__init__" = true by decide +kernel) ba_entryI ?_⟩)))
      · exact ba_args_init _ _
      · rw [Around.under_plainId ba_slot_init.plain _]
        refine init_ba ho h0 h1 fun h' ho' hs' => ?_
        dsimp only
        refine wpC_pure ?_
        dsimp only
        refine c_if_false (by decide) (wpC_pure ?_)
        exact hQ h' ho' fun b o e => hs'.extBut b o (Nat.ne_of_lt (Heap.lt_size e)) (Heap.get?_push_of_some _ e)
    | _ => exact hr.elim
theorem payload_ba {d : Addr} {b : Array UInt8} {Q : Array UInt8 → Shared → Prop} (ho : s.heap.get? d = some { cls := .type "bytearray", data := .bytearray b }) (h : Q b s) : wpAny (model prog w) A (Builtin.Bytes.payload (.ref d)) Q E s := by
  unfold Builtin.Bytes.payload Builtin.Bytes.payload?
  exact wpAny_bind (wpAny_bind (wpAny_load ho (wpAny_pure (wpAny_pure h))))
theorem setItem_ba {d : Addr} {b : Array UInt8} {k v : Int} {t u : Tok} {Q : Unit → Shared → Prop} (ho : s.heap.get? d = some { cls := .type "bytearray", data := .bytearray b }) (h0 : 0 ≤ k) (h1 : k < b.size) (hz : b.size ≤ 1000) (hv0 : 0 ≤ v) (hv1 : v < 256)
    (hQ : ∀ h', h'.get? d = some { cls := .type "bytearray", data := .bytearray (b.setIfInBounds k.toNat v.toNat.toUInt8) } → Heap.SameBut d s.heap h' → Q () { s with heap := h' }) :
    wpAny (model prog w) A (setItem (.ref d) (.int k t) (.int v u)) Q E s := by
  have hT : s.TypeIs (.ref d) "bytearray" := ⟨_, ho, rfl⟩
  unfold setItem
  try with_reducible refine wpAny_holding ?_
  first | refine wpAny_bind (wpAny_pure ?_) | skip
  refine wpAny_bind (wpAny_sequenceKey hT (by decide) ?_)
  refine wpAny_bind (wpAny_callSpecial?_slot (name := Str.ofString "__setitem__") hT ba_slot_set
    (wpAny_call_entry ba_slot_set hT ba_entry_set ?_ (ba_args_set _ _ _)))
  unfold Builtin.«bytearray.__setitem__»
  refine bm_if_false rfl ?_
  dsimp only
  refine wpAny_bind ?_
  unfold Builtin.Bytes.subscript?
  refine wpAny_bind (wpAny_specialOf (typeIs_int _ _ _) PySem.int_index ?_)
  refine bm_if_false rfl ?_
  refine wpAny_bind (wpAny_of_eq (a := k) rfl ?_)
  refine bm_if_false (by simp [Builtin.Bytes.fitsIndex]; omega) (wpAny_pure ?_)
  dsimp only
  refine wpAny_bind ?_
  unfold Builtin.Bytes.byteValue
  refine wpAny_bind (wpAny_of_eq (a := v) rfl ?_)
  refine bm_if_false (by simp only [Bool.or_eq_false_iff, decide_eq_false_iff_not]; omega) (wpAny_pure ?_)
  refine wpAny_bind (payload_ba ho ?_)
  have hs : seqIndex? k b.size = some k.toNat := by
    have hn : ¬ k < 0 := by omega
    simp [seqIndex?, hn, h0, h1]
  rw [hs]
  dsimp only
  refine wpAny_bind (write_ba ho (by simp; exact hz) fun h' ho' hs' => ?_)
  exact wpAny_pure ⟨_, rfl, wpAny_pure (hQ h' ho' hs')⟩
theorem new_bytes_ba {d : Addr} {b : Array UInt8} {Q : Value → Shared → Prop} (ho : s.heap.get? d = some { cls := .type "bytearray", data := .bytearray b }) (hz : b.size ≤ 1000)
    (hQ : ∀ t k, Q (.bytes b t) { s with toks := k }) :
    codeAny (model prog w) A (.call (.builtin "bytes.__new__") ⟨[.type "bytes", .ref d], []⟩) (wants Q E) s := by
  refine codeAny_of_tree ?_
  show wpAny _ A.in1 (do checkBuiltinCall "bytes.__new__" ⟨[.type "bytes", .ref d], []⟩; again (.builtin "bytes.__new__" ⟨[.type "bytes", .ref d], []⟩)) _ _ s
  refine wpAny_bind (wpAny_of_eq (F.bm_newCall _) (wpAny_pure ⟨plainId_quiet F.bm_plain _, codeAny_builtin F.bm_entry ?_⟩))
  rw [Around.under_plainId F.bm_plain _]
  have hT : s.TypeIs (.ref d) "bytearray" := ⟨_, ho, rfl⟩
  unfold Builtin.«bytes.__new__»
  refine wpAny_bind (wpAny_of_eq (a := true) rfl ?_)
  refine bm_if_false rfl ?_
  refine wpAny_bind (wpAny_of_eq F.bm_sub ?_)
  refine bm_if_false rfl ?_
  refine wpAny_bind (wpAny_of_eq (F.bm_bind _) ?_)
  refine wpAny_bind (wpAny_of_eq (a := ()) rfl ?_)
  refine wpAny_bind (wpAny_of_eq (a := ()) rfl ?_)
  refine bm_if_false rfl ?_
  refine wpAny_bind (wpAny_specialOf hT ba_no_bytes ?_)
  refine wpAny_bind (wpAny_bind ?_)
  show wpAny _ _ (load d >>= _) _ _ _
  refine wpAny_bind (wpAny_load ho ?_)
  refine wpAny_pure (wpAny_pure ?_)
  refine bm_if_false rfl ?_
  refine wpAny_bind (wpAny_specialOf hT ba_no_index ?_)
  refine bm_if_true rfl ?_
  first
    | show wpAny _ _ (Builtin.Bytes.buffer? "bytes.__new__" (.ref d) true >>= _) _ _ _
    | (refine wpAny_bind ?_; show wpAny _ _ (Builtin.Bytes.buffer? "bytes.__new__" (.ref d) true >>= _) _ _ _)
  refine wpAny_bind ?_
  unfold Builtin.Bytes.buffer?
  refine wpAny_bind (wpAny_specialOf hT ba_buffer ?_)
  dsimp only
  refine wpAny_bind ?_
  unfold Builtin.Bytes.slotIsOwn
  refine wpAny_bind (wpAny_specialOf hT ba_buffer ?_)
  dsimp only
  refine bm_if_false (by decide +kernel) ?_
  refine wpAny_isInstance (b := true) hT (by rw [isSubtype_type]; kernel_rfl) ?_
  refine bm_if_false rfl ?_
  refine wpAny_bind (wpAny_specialOf hT ba_buffer ?_)
  first
    | (show wpAny _ _ (Builtin.Bytes.ownRelease (.ref d) >>= _) _ _ _)
    | (split <;> simp_all)
  refine wpAny_bind (ownRelease_ba hT ?_)
  refine bm_if_false rfl ?_
  refine wpAny_bind (payload_ba ho (wpAny_pure ?_))
  refine wpAny_bind (wpAny_rule (wpAny_bind (wpAny_mkBytes ?_ (by rw [sizeLine_eq]; omega))))
  show wpAny _ _ (if (Value.type "bytes" == Value.type "bytes") = true then _ else _) _ _ _
  refine bm_if_true (by decide) ?_
  first
    | exact wpAny_pure (hQ _ _)
    | exact wpAny_bind (wpAny_pure (wpAny_pure (hQ _ _)))
theorem call_bytes_ba {d : Addr} {b : Array UInt8} {Q : Value → Shared → Prop} (ho : s.heap.get? d = some { cls := .type "bytearray", data := .bytearray b }) (hz : b.size ≤ 1000)
    (hQ : ∀ t k, Q (.bytes b t) { s with toks := k }) : wpAny (model prog w) A (call (.type "bytes") [.ref d]) Q E s := by
  refine callType_codes (Q₁ := fun obj s₁ => s₁.TypeIs obj "bytes" ∧ Q obj s₁) F.bm_called (F.bm_typeCall _) F.entry_object_init
    (new_bytes_ba ho hz fun t k => ⟨PySem.W.typeIs_bytes _ _ _, hQ t k⟩) fun obj s₁ h₁ => ?_
  exact ⟨h₁.1, F.args_object_init_2 obj _, object_init_meets F.bm_called.init.lookup F.bm_called.made (by decide) prog w A.in1 _ s₁ ⟨h₁.1, rfl, h₁.2⟩⟩
end
end Mine
namespace Mine
set_option maxRecDepth 100000
open PySem.Sre (M Op Wait)
def qCode : Array Nat := #[14, 4, 0, 1, 1, 6, 1, 16, 46, 1]
def stAt (text : Array Nat) (lim s : Nat) (o must : Bool) (seen : Sre.Seen) : M :=
  { code := qCode, text, lim, start := s, lastStart := lim, mustAdvance := must, pc := 5, pos := s, handed := s, outermost := o, marks := #[], frames := [{ wait := .nextStart, pc := 5, pos := s, outermost := o }], weight := 1, seen }
theorem step1 (text : Array Nat) (lim s : Nat) (o must : Bool) (seen : Sre.Seen) : (stAt text lim s o must seen).step =
    if (s == 0 || text.getD (s - 1) 0 == 10) = true then { stAt text lim s o must ((seen.add 6).add 44) with pc := 7 } else { stAt text lim s o must ((seen.add 6).add 44) with answer := some false } := by
  rfl
theorem step2 (text : Array Nat) (lim s : Nat) (o must : Bool) (seen : Sre.Seen) : ({ stAt text lim s o must seen with pc := 7 } : M).step =
    if s ≥ lim then { stAt text lim s o must (seen.add 16) with pc := 7, answer := some false } else if (text.getD s 0 == 46) = true then { stAt text lim s o must (seen.add 16) with pc := 9, pos := s + 1 } else { stAt text lim s o must (seen.add 16) with pc := 7, answer := some false } := by
  show (if s ≥ lim then _ else _) = _
  split
  · rfl
  · show (match (Except.ok (text.getD s 0 == 46, seen.add 16) : Except String (Bool × Sre.Seen)) with | .error why => _ | .ok (false, seen) => _ | .ok (true, seen) => _) = _
    cases text.getD s 0 == 46 <;> rfl
theorem step3 (text : Array Nat) (lim s : Nat) (o must : Bool) (seen : Sre.Seen) : ({ stAt text lim s o must seen with pc := 9, pos := s + 1 } : M).step =
    { stAt text lim s o must (seen.add 1) with pc := 9, pos := s + 1, handed := s + 1, answer := some true } := by
  have h : (s + 1 == s) = false := by simp
  show (if (o && ((false && _) || (must && (s + 1 == s)))) = true then _ else _) = _
  rw [h]
  simp
  rfl
theorem step4 (m : M) (f : Sre.Frame) (ho : m.outcome = none) (ha : m.answer = some true) (hf : m.frames = [f]) (hw : f.wait = .nextStart) : ∃ m', m.step = m' ∧ m'.outcome = none ∧ m'.answer = some true ∧ m'.frames = [] ∧ m'.start = m.start ∧ m'.handed = m.handed := by
  refine ⟨_, rfl, ?_⟩
  unfold M.step
  rw [ho, ha, hf]
  simp [M.resume, hw, M.say]
theorem step5 (m : M) (yes : Bool) (ho : m.outcome = none) (ha : m.answer = some yes) (hf : m.frames = []) : m.step = { m with outcome := some (if yes = true then .matched else .failed) } := by
  unfold M.step
  rw [ho, ha, hf]
  rfl
theorem step6 (text : Array Nat) (lim s p : Nat) (o must : Bool) (seen : Sre.Seen) : ({ stAt text lim s o must seen with pc := p, answer := some false } : M).step =
    if s < lim then stAt text lim (s + 1) false false seen else { stAt text lim s o must seen with answer := some false, frames := [], weight := 0 } := by
  show (if s < lim then _ else _) = _
  split <;> rfl
theorem run_step {m : M} {n : Nat} (h : m.outcome = none) : M.runFor (n + 1) m = M.runFor n m.step := by
  show (if m.outcome.isSome then m else _) = _
  rw [h]; rfl
theorem run_done {m : M} (h : m.outcome.isSome = true) : ∀ n, M.runFor n m = m
  | 0 => rfl
  | n + 1 => by show (if m.outcome.isSome then m else _) = _; rw [if_pos h]
theorem run_add : ∀ (a b : Nat) (m : M), M.runFor (a + b) m = M.runFor b (M.runFor a m)
  | 0, b, m => by rw [Nat.zero_add]; rfl
  | a + 1, b, m => by
    by_cases h : m.outcome.isSome = true
    · rw [run_done h, run_done h, run_done h]
    · have hn : m.outcome = none := by cases e : m.outcome with | none => rfl | some x => rw [e] at h; exact absurd rfl h
      rw [show a + 1 + b = (a + b) + 1 by omega, run_step hn, run_step hn]
      exact run_add a b _
def hitAt (text : Array Nat) (lim s : Nat) : Bool := (s == 0 || text.getD (s - 1) 0 == 10) && (decide (s < lim) && text.getD s 0 == 46)
def Found (text : Array Nat) (lim s : Nat) (m : M) : Prop :=
  (∃ s', s ≤ s' ∧ s' < lim ∧ hitAt text lim s' = true ∧ (∀ q, s ≤ q → q < s' → hitAt text lim q = false) ∧ m.outcome = some .matched ∧ m.start = s' ∧ m.handed = s' + 1) ∨
  ((∀ q, s ≤ q → q < lim → hitAt text lim q = false) ∧ m.outcome = some .failed)
theorem Found.skip {text : Array Nat} {lim s : Nat} {m : M} (h : Found text lim (s + 1) m) (hs : hitAt text lim s = false) : Found text lim s m := by
  rcases h with ⟨s', h1, h2, h3, h4, h5⟩ | ⟨h1, h2⟩
  · refine .inl ⟨s', by omega, h2, h3, fun q hq hq' => ?_, h5⟩
    by_cases e : q = s
    · rw [e]; exact hs
    · exact h4 q (by omega) hq'
  · refine .inr ⟨fun q hq hq' => ?_, h2⟩
    by_cases e : q = s
    · rw [e]; exact hs
    · exact h1 q (by omega) hq'
theorem fail_end (text : Array Nat) (lim s p : Nat) (o must : Bool) (seen : Sre.Seen) (h : ¬ s < lim) : ∃ N, 1 ≤ N ∧ N ≤ 8 ∧ Found text lim s (M.runFor N { stAt text lim s o must seen with pc := p, answer := some false }) := by
  refine ⟨2, by omega, by omega, .inr ⟨fun q h1 h2 => absurd (Nat.lt_of_le_of_lt h1 h2) h, ?_⟩⟩
  rw [run_step rfl, step6, if_neg h, run_step rfl, step5 _ false rfl rfl rfl]
  rfl
theorem search_run (text : Array Nat) (lim : Nat) : ∀ (d s : Nat) (o must : Bool) (seen : Sre.Seen), lim - s = d → ∃ N, 1 ≤ N ∧ N ≤ 8 * d + 16 ∧ Found text lim s (M.runFor N (stAt text lim s o must seen))
  | d, s, o, must, seen, hd => by
    by_cases h1 : (s == 0 || text.getD (s - 1) 0 == 10) = true
    · by_cases h2 : s ≥ lim
      · obtain ⟨N, a, b, c⟩ := fail_end text lim s 7 o must (((seen.add 6).add 44).add 16) (by omega)
        refine ⟨N + 1 + 1, by omega, by omega, ?_⟩
        rw [run_step rfl, step1, if_pos h1, run_step rfl, step2, if_pos h2]
        exact c
      · by_cases h3 : (text.getD s 0 == 46) = true
        · have hhit : hitAt text lim s = true := by simp only [hitAt, h1, h3, Bool.and_true, Bool.true_and, decide_eq_true_eq]; omega
          obtain ⟨m', e4, o4, a4, f4, s4, h4⟩ := step4 { stAt text lim s o must ((((seen.add 6).add 44).add 16).add 1) with pc := 9, pos := s + 1, handed := s + 1, answer := some true } _ rfl rfl rfl rfl
          refine ⟨5, by omega, by omega, .inl ⟨s, Nat.le_refl _, by omega, hhit, fun q hq hq' => absurd hq (Nat.not_le.mpr hq'), ?_⟩⟩
          rw [run_step rfl, step1, if_pos h1, run_step rfl, step2, if_neg h2, if_pos h3, run_step rfl, step3, run_step rfl, e4, run_step o4, step5 m' true o4 a4 f4]
          exact ⟨rfl, s4, h4⟩
        · have hno : hitAt text lim s = false := by simp only [Bool.not_eq_true] at h3; unfold hitAt; rw [h3, Bool.and_false, Bool.and_false]
          obtain ⟨N, a, b, c⟩ := search_run text lim (lim - (s + 1)) (s + 1) false false (((seen.add 6).add 44).add 16) rfl
          refine ⟨N + 1 + 1 + 1, by omega, by omega, ?_⟩
          rw [run_step rfl, step1, if_pos h1, run_step rfl, step2, if_neg h2, if_neg h3, run_step rfl, step6, if_pos (by omega)]
          exact c.skip hno
    · have hno : hitAt text lim s = false := by simp only [Bool.not_eq_true] at h1; unfold hitAt; rw [h1]; rfl
      by_cases h2 : s < lim
      · obtain ⟨N, a, b, c⟩ := search_run text lim (lim - (s + 1)) (s + 1) false false ((seen.add 6).add 44) rfl
        refine ⟨N + 1 + 1, by omega, by omega, ?_⟩
        rw [run_step rfl, step1, if_neg h1, run_step rfl]
        have := step6 text lim s 5 o must ((seen.add 6).add 44)
        rw [show ({ stAt text lim s o must ((seen.add 6).add 44) with answer := some false } : M) = { stAt text lim s o must ((seen.add 6).add 44) with pc := 5, answer := some false } from rfl, this, if_pos h2]
        exact c.skip hno
      · obtain ⟨N, a, b, c⟩ := fail_end text lim s 5 o must ((seen.add 6).add 44) h2
        refine ⟨N + 1, by omega, by omega, ?_⟩
        rw [run_step rfl, step1, if_neg h1]
        exact c
end Mine
namespace Mine
set_option maxRecDepth 100000
open PySem.Sre (M)
def startM (text : Array Nat) (lim pos : Nat) (must : Bool) : M := Sre.forSearch qCode text 0 pos lim must
theorem startM_lt {text : Array Nat} {lim pos : Nat} {must : Bool} (h : pos < lim) : ∃ seen, startM text lim pos must = stAt text lim pos true must seen := by
  refine ⟨({} : Sre.Seen).add 14, ?_⟩
  show (if (decide (pos > lim) || decide (lim - pos < 1)) = true then _ else _) = _
  rw [if_neg (by simp; omega)]
  rfl
theorem startM_ge {text : Array Nat} {lim pos : Nat} {must : Bool} (h : lim ≤ pos) : (startM text lim pos must).outcome = none ∧ (startM text lim pos must).answer = some false ∧ (startM text lim pos must).frames = [] := by
  have e : startM text lim pos must = if (decide (pos > lim) || decide (lim - pos < 1)) = true then (_ : M) else _ := rfl
  rw [e, if_pos (by simp; omega)]
  exact ⟨rfl, rfl, rfl⟩
theorem found_run (text : Array Nat) (lim pos : Nat) (must : Bool) : ∃ N, 1 ≤ N ∧ N ≤ 8 * lim + 16 ∧ Found text lim pos (M.runFor N (startM text lim pos must)) := by
  by_cases h : pos < lim
  · obtain ⟨seen, e⟩ := startM_lt (text := text) (must := must) h
    obtain ⟨N, a, b, c⟩ := search_run text lim (lim - pos) pos true must seen rfl
    exact ⟨N, a, by omega, by rw [e]; exact c⟩
  · obtain ⟨ho, ha, hf⟩ := startM_ge (text := text) (must := must) (Nat.not_lt.mp h)
    refine ⟨1, by omega, by omega, .inr ⟨fun q h1 h2 => absurd (Nat.lt_of_le_of_lt h1 h2) h, ?_⟩⟩
    rw [run_step ho, step5 _ false ho ha hf]
    rfl
section
variable {prog : Program} {w : World} {A : Around} {E : Value → Shared → Prop} {s : Shared}
theorem wpAny_reDrive {Mo : Model} : ∀ (turns N : Nat) (m : M) {Q : M → Shared → Prop}, 1 ≤ N → N ≤ 4 * turns → (M.runFor N m).outcome.isSome = true → Q (M.runFor N m) s → wpAny Mo A (Builtin.Re.reDrive turns m) Q E s
  | 0, N, m, Q, h1, h2, _, _ => absurd h2 (by omega)
  | t + 1, N, m, Q, h1, h2, h3, h => by
    show wpAny Mo A (if (m.runFor 4).outcome.isSome = true then pure (m.runFor 4) else (rule "sre.turn" >>= fun _ => Builtin.Re.reDrive t (m.runFor 4))) Q E s
    by_cases h4 : (m.runFor 4).outcome.isSome = true
    · rw [if_pos h4]
      have e : M.runFor N m = M.runFor 4 m := by
        by_cases hN : N ≤ 4
        · obtain ⟨k, hk⟩ := Nat.exists_eq_add_of_le hN
          rw [hk, run_add, run_done h3]
        · obtain ⟨k, hk⟩ := Nat.exists_eq_add_of_le (show 4 ≤ N by omega)
          rw [hk, run_add, run_done h4]
      exact wpAny_pure (e ▸ h)
    · rw [if_neg h4]
      have hN : 4 < N := by
        refine Nat.lt_of_not_le fun hle => h4 ?_
        obtain ⟨k, hk⟩ := Nat.exists_eq_add_of_le hle
        rw [hk, run_add, run_done h3]; exact h3
      obtain ⟨k, rfl⟩ := Nat.exists_eq_add_of_lt hN
      have e : M.runFor (4 + k + 1) m = M.runFor (k + 1) (M.runFor 4 m) := by rw [show 4 + k + 1 = 4 + (k + 1) by omega, run_add]
      rw [e] at h3 h
      exact wpAny_bind (wpAny_rule (wpAny_reDrive t (k + 1) _ (by omega) (by omega) h3 h))
theorem forIn_skip {Mo : Model} {α β : Type} {f : α → β → Sem (ForInStep β)} {b : β} {Q : β → Shared → Prop} (hf : ∀ i (Q' : ForInStep β → Shared → Prop), Q' (.yield b) s → wpAny Mo A (f i b) Q' E s) (h : Q b s) : ∀ l : List α, wpAny Mo A (forIn l b f) Q E s
  | [] => by rw [List.forIn_nil]; exact wpAny_pure h
  | x :: r => by rw [List.forIn_cons]; exact wpAny_bind (hf x _ (forIn_skip hf h r))
theorem wpAny_reRunToEnd {Mo : Model} {text : Array Nat} {lim pos : Nat} {must : Bool} {Q : Option M → Shared → Prop} (hz : lim ≤ 100000)
    (h1 : ∀ m s', pos ≤ s' → s' < lim → hitAt text lim s' = true → (∀ q, pos ≤ q → q < s' → hitAt text lim q = false) → m.start = s' → m.handed = s' + 1 → Q (some m) s)
    (h2 : (∀ q, pos ≤ q → q < lim → hitAt text lim q = false) → Q none s) : wpAny Mo A (Builtin.Re.reRunToEnd (Sre.forSearch qCode text 0 pos lim must)) Q E s := by
  obtain ⟨N, a, b, c⟩ := found_run text lim pos must
  unfold Builtin.Re.reRunToEnd
  refine wpAny_bind (wpAny_reDrive _ N _ a (by omega) ?_ ?_)
  · rcases c with ⟨s', _, _, _, _, ho, _⟩ | ⟨_, ho⟩
    · show (M.runFor N (startM text lim pos must)).outcome.isSome = true
      rw [ho]; rfl
    · show (M.runFor N (startM text lim pos must)).outcome.isSome = true
      rw [ho]; rfl
  refine wpAny_bind (forIn_skip (fun i Q' hq => ?_) ?_ _)
  · split
    · exact wpAny_bind (wpAny_rule (wpAny_pure hq))
    · exact wpAny_pure hq
  · rcases c with ⟨s', p1, p2, p3, p4, ho, p5, p6⟩ | ⟨p1, ho⟩
    · have ho : (M.runFor N (Sre.forSearch qCode text 0 pos lim must)).outcome = some .matched := ho
      rw [ho]
      exact wpAny_pure (h1 _ s' p1 p2 p3 p4 p5 p6)
    · have ho : (M.runFor N (Sre.forSearch qCode text 0 pos lim must)).outcome = some .failed := ho
      rw [ho]
      exact wpAny_pure (h2 p1)
end
end Mine
namespace Mine
set_option maxRecDepth 100000
theorem by_slot_join : Slot "bytes" "join" "bytes.join" :=
  .of (owner := "bytes") (n := "join") (by rw [typeLookup_type, builtinLookup_eq_fast]; kernel_rfl) (by decide +kernel) (by decide +kernel) (by decide +kernel)
    (by first | exact .inl (by decide +kernel) | exact .inr (by decide +kernel)) (by rw [isSubtype_type]; kernel_rfl)
theorem by_entry_join : entryFor table "bytes.join" = some Builtin.«bytes.join» := by first | exact entryFor_of_fast (by kernel_rfl) | exact entryFor_of_tree (by kernel_rfl)
theorem by_args_join (a b : Value) : argsOk "bytes.join" ⟨[a, b], []⟩ := by
  unfold argsOk; rw [signature?_of (id := "bytes.join") (n := ['n', 'i', 'o', 'j']) (o := ['s', 'e', 't', 'y', 'b']) (by kernel_rfl) PySem.W.FB.owner_bytes]; kernel_rfl
section
variable {prog : Program} {w : World} {A : Around} {E : Value → Shared → Prop} {s : Shared}
theorem ownRelease_by {b : Array UInt8} {t : Tok} {Q : Bool → Shared → Prop} (h : Q false s) : wpAny (model prog w) A (Builtin.Bytes.ownRelease (.bytes b t)) Q E s := by
  unfold Builtin.Bytes.ownRelease Builtin.Bytes.slotIsOwn
  exact wpAny_bind (wpAny_bind (wpAny_specialOf (typeIs_bytes s b t) KBy.look_release (wpAny_pure (wpAny_pure h))))
theorem own_buffer_by {b : Array UInt8} {t : Tok} {Q : Bool → Shared → Prop} (h : Q true s) : wpAny (model prog w) A (Builtin.Bytes.slotIsOwn (.bytes b t) "__buffer__") Q E s := by
  unfold Builtin.Bytes.slotIsOwn
  refine wpAny_bind (wpAny_specialOf (typeIs_bytes s b t) KBy.look_buffer ?_)
  dsimp only
  refine bm_if_false (by decide +kernel) ?_
  exact wpAny_isInstance (b := true) (typeIs_bytes s b t) (by rw [isSubtype_type]; kernel_rfl) h
theorem payload_by {b : Array UInt8} {t : Tok} {Q : Array UInt8 → Shared → Prop} (h : Q b s) : wpAny (model prog w) A (Builtin.Bytes.payload (.bytes b t)) Q E s := by
  unfold Builtin.Bytes.payload Builtin.Bytes.payload?
  exact wpAny_bind (wpAny_pure (wpAny_pure h))
theorem buffer_by {id : String} {f : Bool} {b : Array UInt8} {t : Tok} {Q : Option (Array UInt8) → Shared → Prop} (h : Q (some b) s) : wpAny (model prog w) A (Builtin.Bytes.buffer? id (.bytes b t) f) Q E s := by
  unfold Builtin.Bytes.buffer?
  refine wpAny_bind (wpAny_specialOf (typeIs_bytes s b t) KBy.look_buffer ?_)
  dsimp only
  refine wpAny_bind (own_buffer_by ?_)
  refine bm_if_false rfl ?_
  refine wpAny_bind (wpAny_specialOf (typeIs_bytes s b t) KBy.look_buffer ?_)
  show wpAny _ _ (Builtin.Bytes.ownRelease (.bytes b t) >>= _) _ _ _
  refine wpAny_bind (ownRelease_by ?_)
  refine bm_if_false rfl ?_
  exact wpAny_bind (payload_by (wpAny_pure h))
theorem bufferQuiet_by {id : String} {b : Array UInt8} {t : Tok} {Q : Option (Array UInt8) → Shared → Prop} (h : Q (some b) s) : wpAny (model prog w) A (Builtin.Bytes.bufferQuiet? id (.bytes b t)) Q E s := by
  unfold Builtin.Bytes.bufferQuiet?
  exact wpAny_bind (wpAny_attempt (buffer_by (wpAny_pure h)))
theorem takeQuiet_by {id : String} {b : Array UInt8} {t : Tok} {Q : Option (Array UInt8 × Option Value) → Shared → Prop} (h : Q (some (b, none)) s) : wpAny (model prog w) A (Builtin.Bytes.takeBufferQuiet? id (.bytes b t) 0) Q E s := by
  unfold Builtin.Bytes.takeBufferQuiet?
  refine wpAny_bind (wpAny_attempt ?_)
  unfold Builtin.Bytes.takeBuffer?
  refine wpAny_bind (wpAny_specialOf (typeIs_bytes s b t) KBy.look_buffer ?_)
  dsimp only
  refine wpAny_bind (own_buffer_by ?_)
  refine bm_if_false rfl ?_
  refine wpAny_bind (wpAny_specialOf (typeIs_bytes s b t) KBy.look_buffer ?_)
  show wpAny _ _ (Builtin.Bytes.buffer? id (.bytes b t) _ >>= _) _ _ _
  exact wpAny_bind (buffer_by (wpAny_pure (wpAny_pure h)))
end
inductive BytesAre : List Value → List (Array UInt8) → Prop
  | nil : BytesAre [] []
  | cons {vs : List Value} {xs : List (Array UInt8)} (b : Array UInt8) (t : Tok) : BytesAre vs xs → BytesAre (.bytes b t :: vs) (b :: xs)
theorem BytesAre.length : ∀ {vs xs}, BytesAre vs xs → vs.length = xs.length
  | _, _, .nil => rfl
  | _, _, .cons _ _ h => by simp [h.length]
theorem BytesAre.append : ∀ {vs xs vs' xs'}, BytesAre vs xs → BytesAre vs' xs' → BytesAre (vs ++ vs') (xs ++ xs')
  | _, _, _, _, .nil, h => h
  | _, _, _, _, .cons b t r, h => .cons b t (r.append h)
theorem BytesAre.at : ∀ {vs xs}, BytesAre vs xs → ∀ {i : Nat}, i < xs.length → ∃ b t, xs[i]? = some b ∧ vs[i]? = some (.bytes b t)
  | _, _, .nil, _, h => absurd h (Nat.not_lt_zero _)
  | _, _, .cons b t r, 0, _ => ⟨b, t, rfl, rfl⟩
  | _, _, .cons b t r, i + 1, h => r.at (i := i) (Nat.lt_of_succ_lt_succ h)
end Mine
namespace Mine
set_option maxRecDepth 100000
section
variable {prog : Program} {w : World} {A : Around} {E : Value → Shared → Prop} {s : Shared}
theorem letGo_flat : ∀ (l keep : List (Value)) {s : Shared} {Q : Unit → Shared → Prop}, Q () s → wpAny (model prog w) A (letGo l keep) Q E s
  | [], _, _, _, h => wpAny_pure h
  | _ :: r, keep, s, Q, h => wpAny_bind (wpAny_holding (wpAny_point (letGo_flat r keep h)))
theorem joinLetGo_flat : ∀ (l : List Value) (keep : List Value) {s : Shared} {Q : Unit → Shared → Prop}, Q () s → wpAny (model prog w) A (Builtin.Bytes.joinLetGo (l.map fun v => (v, none)) keep) Q E s
  | [], _, _, _, h => wpAny_pure h
  | _ :: r, keep, s, Q, h => by
    show wpAny _ _ (letGo _ _ >>= fun _ => _) _ _ _
    exact wpAny_bind (letGo_flat _ _ (joinLetGo_flat r keep h))
theorem forIn_inv {β : Type} {f : Nat → β → Sem (ForInStep β)} (P : Nat → β → Prop) (n : Nat) {Q : β → Shared → Prop} (hf : ∀ i b, i < n → P i b → ∀ Q' : ForInStep β → Shared → Prop, (∀ b', P (i + 1) b' → Q' (.yield b') s) → wpAny (model prog w) A (f i b) Q' E s)
    (hQ : ∀ b', P n b' → Q b' s) : ∀ k i b, i + k = n → P i b → wpAny (model prog w) A (forIn (List.range' i k 1) b f) Q E s
  | 0, i, b, h, hp => by rw [List.range'_zero, List.forIn_nil]; exact wpAny_pure (hQ b (by rw [← h]; exact hp))
  | k + 1, i, b, h, hp => by
    rw [List.range'_succ, List.forIn_cons]
    exact wpAny_bind (hf i b (by omega) hp _ fun b' hb' => forIn_inv P n hf hQ k (i + 1) b' (by omega) hb')
def JoinP (vs : List Value) (xs : List (Array UInt8)) (i : Nat) (b : Array (Array UInt8) × List (Value × Option Value)) : Prop := b.1 = (xs.take i).toArray ∧ b.2 = (vs.take i).map fun v => (v, none)
theorem BytesAre.heap : ∀ {vs xs}, BytesAre vs xs → ∀ v ∈ vs, v.onHeap = false
  | _, _, .nil, _, h => nomatch h
  | _, _, .cons b t r, v, h => by
    rcases List.mem_cons.mp h with rfl | h
    · rfl
    · exact r.heap v h
theorem getD_of {vs : List Value} {i : Nat} {v : Value} (h : vs[i]? = some v) : vs.toArray.getD i Value.none = v := by simp [h]
theorem any_heap {vs : List Value} {xs : List (Array UInt8)} {i : Nat} {p : List (Value × Option Value)} (hv : BytesAre vs xs) (h : p = (vs.take i).map fun v => (v, none)) : (p.any fun x => x.1.onHeap) = false := by
  rw [h, List.any_map]
  exact any_off fun v hv' => hv.heap v (List.mem_of_mem_take hv')
theorem take_push {xs : List (Array UInt8)} {i : Nat} {a : Array (Array UInt8)} {p : Array UInt8} (h : a = (xs.take i).toArray) (hx : xs[i]? = some p) : a.push p = (xs.take (i + 1)).toArray := by rw [h, List.take_add_one, hx]; simp
theorem take_snoc {vs : List Value} {i : Nat} {a : List (Value × Option Value)} {v : Value} (h : a = (vs.take i).map fun v => (v, none)) (hx : vs[i]? = some v) : a ++ [(v, none)] = (vs.take (i + 1)).map fun v => (v, none) := by rw [h, List.take_add_one, hx]; simp
theorem take_all1 {xs : List (Array UInt8)} {vs : List Value} {a : Array (Array UInt8)} (h : a = (xs.take vs.toArray.size).toArray) (hl : vs.length = xs.length) : a = xs.toArray := by rw [h, show vs.toArray.size = xs.length by simpa using hl, List.take_length]
theorem take_all2 {vs : List Value} {a : List (Value × Option Value)} (h : a = (vs.take vs.toArray.size).map fun v => (v, none)) : a = vs.map fun v => (v, none) := by rw [h, List.take_of_length_le (by simp)]
theorem join_main {sep : Array UInt8} {t : Tok} {l : Addr} {vs : List Value} {xs : List (Array UInt8)} {Q : Fin → Shared → Prop} (hl : s.heap.IsList l vs.toArray) (hv : BytesAre vs xs)
    (htl : Builtin.Bytes.tooLong (xs.toArray.foldl (· + ·.size) (sep.size * (xs.toArray.size - 1))) = false) (hsz : (Builtin.Bytes.joined sep xs).size ≤ sizeLine) (h1 : ∀ x, xs = [x] → Builtin.Bytes.joined sep xs = x)
    (hQ : ∀ t' k, Q (.done (.ret (.bytes (Builtin.Bytes.joined sep xs) t'))) { s with toks := k }) : wpAny (model prog w) A (Builtin.«bytes.join» ⟨[.bytes sep t, .ref l], []⟩) Q E s := by
  obtain ⟨ol, hol, hoc, nl, hod⟩ := id hl
  have hlen := hv.length
  unfold Builtin.«bytes.join» Builtin.Bytes.joinM
  refine wpAny_bind (wpAny_of_eq (a := (.bytes sep t, .ref l)) rfl ?_)
  dsimp only
  refine bm_if_true (by decide) ?_
  refine wpAny_bind ?_
  unfold Builtin.Bytes.joinItems
  refine wpAny_bind (wpAny_typeOf hl.typeIs ?_)
  refine bm_if_true (by decide) (wpAny_pure ?_)
  refine wpAny_bind (wpAny_seqItems hol hod ?_)
  dsimp only
  refine bm_if_true (by decide) ?_
  have loop : ∀ (K : Array (Array UInt8) × List (Value × Option Value) → Sem Fin) (f : Nat → Array (Array UInt8) × List (Value × Option Value) → Sem (ForInStep (Array (Array UInt8) × List (Value × Option Value)))),
      (∀ i b, i < vs.toArray.size → JoinP vs xs i b → ∀ Q' : ForInStep _ → Shared → Prop, (∀ b', JoinP vs xs (i + 1) b' → Q' (.yield b') s) → wpAny (model prog w) A (f i b) Q' E s) →
      (∀ b, JoinP vs xs vs.toArray.size b → wpAny (model prog w) A (K b) Q E s) → wpAny (model prog w) A (forIn [:vs.toArray.size] (#[], []) f >>= K) Q E s := by
    intro K f hf hK
    rw [KPc.range_list]
    exact wpAny_bind (forIn_inv (JoinP vs xs) vs.toArray.size hf hK _ 0 _ (by simp) ⟨by simp, by simp⟩)
  cases hv with
  | nil =>
    have hv : BytesAre [] [] := .nil
    refine loop _ _ (fun i b hi hP Q' hq => ?_) (fun b hP => ?_)
    · obtain ⟨pb, tb, hxb, hvb⟩ := hv.at (i := i) (by rw [← hlen]; simpa using hi)
      refine wpAny_bind (wpAny_seqItems hol hod ?_)
      dsimp only
      have hg := getD_of hvb
      rw [hg]
      have hany := any_heap hv hP.2
      refine bm_if_false (by rw [hany]; rfl) ?_
      refine wpAny_bind (wpAny_holding (takeQuiet_by ?_))
      dsimp only
      refine wpAny_bind (wpAny_seqItems hol hod ?_)
      dsimp only
      exact bm_if_false (by simp) (wpAny_pure (hq _ ⟨take_push hP.1 hxb, take_snoc hP.2 hvb⟩))
    · have e1 := take_all1 hP.1 hlen
      have e2 := take_all2 hP.2
      refine wpAny_bind (payload_by ?_)
      rw [e1, e2]
      refine bm_if_false htl ?_
      refine wpAny_bind (wpAny_mkBytes ?_ hsz)
      refine wpAny_bind (wpAny_holding (wpAny_point ?_))
      refine wpAny_bind (joinLetGo_flat _ _ ?_)
      exact wpAny_pure (hQ _ _)
  | cons b0 t0 h0 =>
   cases h0 with
   | nil =>
      refine wpAny_bind (wpAny_typeOf (typeIs_bytes s b0 t0) ?_)
      refine bm_if_true (by decide) (wpAny_bind (wpAny_rule ?_))
      have := hQ t0 s.toks
      rw [h1 b0 rfl] at this
      exact wpAny_pure this
   | cons b2 t2 h2 =>
    have hv := BytesAre.cons b0 t0 (BytesAre.cons b2 t2 h2)
    refine loop _ _ (fun i b hi hP Q' hq => ?_) (fun b hP => ?_)
    · obtain ⟨pb, tb, hxb, hvb⟩ := hv.at (i := i) (by rw [← hlen]; simpa using hi)
      refine wpAny_bind (wpAny_seqItems hol hod ?_)
      dsimp only
      have hg := getD_of hvb
      rw [hg]
      have hany := any_heap hv hP.2
      refine bm_if_false (by rw [hany]; rfl) ?_
      refine wpAny_bind (wpAny_holding (takeQuiet_by ?_))
      dsimp only
      refine wpAny_bind (wpAny_seqItems hol hod ?_)
      dsimp only
      exact bm_if_false (by simp) (wpAny_pure (hq _ ⟨take_push hP.1 hxb, take_snoc hP.2 hvb⟩))
    · have e1 := take_all1 hP.1 hlen
      have e2 := take_all2 hP.2
      refine wpAny_bind (payload_by ?_)
      rw [e1, e2]
      refine bm_if_false htl ?_
      refine wpAny_bind (wpAny_mkBytes ?_ hsz)
      refine wpAny_bind (wpAny_holding (wpAny_point ?_))
      refine wpAny_bind (joinLetGo_flat _ _ ?_)
      exact wpAny_pure (hQ _ _)
theorem call_join {sep : Array UInt8} {t : Tok} {l : Addr} {vs : List Value} {xs : List (Array UInt8)} {Q : Value → Shared → Prop} (hl : s.heap.IsList l vs.toArray) (hv : BytesAre vs xs)
    (htl : Builtin.Bytes.tooLong (xs.toArray.foldl (· + ·.size) (sep.size * (xs.toArray.size - 1))) = false) (hsz : (Builtin.Bytes.joined sep xs).size ≤ sizeLine) (h1 : ∀ x, xs = [x] → Builtin.Bytes.joined sep xs = x)
    (hQ : ∀ t' k, Q (.bytes (Builtin.Bytes.joined sep xs) t') { s with toks := k }) : wpAny (model prog w) A (call (.builtin "bytes.join") [.bytes sep t, .ref l]) Q E s :=
  wpAny_call_entry by_slot_join (typeIs_bytes s sep t) by_entry_join (join_main hl hv htl hsz h1 fun t' k => ⟨_, rfl, hQ t' k⟩) (by_args_join _ _)
end
def flatB (xs : List (Array UInt8)) : Array UInt8 := (xs.flatMap Array.toList).toArray
theorem joined_fold (xs : List (Array UInt8)) : ∀ (k : Nat) (acc : Array UInt8), (xs.zipIdx k).foldl (fun out (p : Array UInt8 × Nat) => (if p.2 > 0 then out ++ (#[] : Array UInt8) else out) ++ p.1) acc = acc ++ flatB xs := by
  induction xs with
  | nil => intro k acc; simp [flatB]
  | cons x r ih =>
    intro k acc
    rw [List.zipIdx_cons, List.foldl_cons, ih]
    have e : (if k > 0 then acc ++ (#[] : Array UInt8) else acc) = acc := by split <;> simp
    rw [e, Array.append_assoc]
    congr 1
    apply Array.toList_inj.mp
    simp [flatB]
theorem joined_flat (xs : List (Array UInt8)) : Builtin.Bytes.joined #[] xs = flatB xs := by
  have := joined_fold xs 0 #[]
  rw [Array.empty_append] at this
  exact this
theorem flat_size (xs : List (Array UInt8)) (k : Nat) : xs.toArray.foldl (fun a p => a + p.size) k = k + (flatB xs).size := by
  rw [List.foldl_toArray]
  show _ = k + (xs.flatMap Array.toList).toArray.size
  rw [List.size_toArray]
  induction xs generalizing k with
  | nil => simp
  | cons x r ih =>
    rw [List.foldl_cons, ih]
    simp only [List.flatMap_cons, List.length_append, Array.length_toList]
    omega
section
variable {prog : Program} {w : World} {A : Around} {E : Value → Shared → Prop} {s : Shared}
theorem call_join0 {t : Tok} {l : Addr} {vs : List Value} {xs : List (Array UInt8)} {Q : Value → Shared → Prop} (hl : s.heap.IsList l vs.toArray) (hv : BytesAre vs xs)
    (hsz : (flatB xs).size ≤ 100000) (hQ : ∀ t' k, Q (.bytes (flatB xs) t') { s with toks := k }) : wpAny (model prog w) A (call (.builtin "bytes.join") [.bytes #[] t, .ref l]) Q E s := by
  refine call_join hl hv ?_ (by rw [joined_flat, sizeLine_eq]; omega) (fun x hx => ?_) (fun t' k => by rw [joined_flat]; exact hQ t' k)
  · rw [flat_size]
    simp [Builtin.Bytes.tooLong, sizeLine_eq]
    omega
  · subst hx; rw [joined_flat]; simp [flatB]
end
end Mine
namespace Mine
open PyProof.V
set_option maxRecDepth 100000
section
variable {prog : Program} {w : World} {A : Around} {E : Value → Shared → Prop} {s : Shared} {env : Env} {h₀ : Heap} {body : List Stmt} {Q : Flow → Shared → Prop}
theorem iter_itemsD {a b : Str} {pa pb pos : Pos} {kk : Nat} {d vw : Addr} {c : List (Str × Int)} {m₀ : Str → Option Value} {news : List (Addr × Obj)} (J : Nat → (Str → Option Value) → List (Addr × Obj) → Prop)
    (hh : A.handled = none) (F : Fr h₀ env.locals s.heap m₀) (N : News h₀ env.locals s.heap news) (hvw : ∃ ov, s.heap.get? vw = some ov ∧ ov.cls = .type "dict_items" ∧ ov.data = .fields #[.ref d]) (T : StrTab prog w h₀ d (kdpD c))
    (ha : env.kindOf a = some .local) (hb : env.kindOf b = some .local) (hp : (env.scope.kind == .class || (env.scope.kind == .module && env.locals != env.globals)) = false) (hj : J 0 m₀ news)
    (turn : ∀ i p t t' m₁ nx h tk own, c[i]? = some p → nx.map (·.1) = news.map (·.1) → OwnOff own (news.map (·.1)) → J i m₁ nx → Fr h₀ env.locals h (fun z => if z = b then some (.int p.2 t') else if z = a then some (.str p.1 t) else m₁ z) → News h₀ env.locals h (nx ++ own) →
      wpAny (model prog w) A (execs body env) (InvPostN h₀ env.locals (J (i + 1)) own (news.map (·.1)) { s with heap := h, toks := tk } Q) E { s with heap := h, toks := tk })
    (done : ∀ m₁ nx h tk, J c.length m₁ nx → Fr h₀ env.locals h m₁ → News h₀ env.locals h nx → Q .next { s with heap := h, toks := tk }) :
    wpAny (model prog w) A (pyIter (.ref vw)) (fun it s₂ => TurnsAt prog w A h₀ env (.Tuple [.Name a pa, .Name b pb] kk pos) body Q E it s₂) E s := by
  obtain ⟨od, hod⟩ := T.old
  have hdlt : d < h₀.objs.size := Heap.lt_size hod
  obtain ⟨_, kvs, hdo, hf⟩ := T.keep F.keep
  obtain ⟨ep, hat⟩ := hdo.dictAt
  have hne : d ≠ s.heap.objs.size := Nat.ne_of_lt hat.lt_size
  have hlen : kvs.length = c.length := by have := hf.length; rw [kdpD, List.length_map] at this; omega
  refine wpAny_pyIter_items hvw hat ?_
  let J' : Nat → (Str → Option Value) → List (Addr × Obj) → Prop := fun i m₁ news₁ => news₁.map (·.1) = news.map (·.1) ∧ J i m₁ news₁
  have hI0 : ∀ p ∈ news, p.1 ≠ s.heap.objs.size := fun p hp => Nat.ne_of_lt (Heap.lt_size (N p hp).1)
  refine ⟨_, _, _, _, _, _, _, m₀, news, J', rfl, kti_itemsTurns (knd := strKind prog w) hh s.heap.objs.size d hne kvs ep, ?_, ?_, ?_, ?_, F.push _, (fun p hp => ⟨Heap.get?_push_of_some _ (N p hp).1, (N p hp).2⟩), ⟨rfl, hj⟩, ?_, ?_⟩
  · intro hI
    rcases List.mem_cons.mp hI with e | e
    · exact absurd F.ns.lt (e ▸ Nat.lt_irrefl _)
    · exact absurd (Nat.lt_of_lt_of_le hdlt F.above) ((List.mem_singleton.mp e) ▸ Nat.lt_irrefl _)
  · intro x hx
    rw [List.mem_singleton.mp hx]
    exact next_is_new F
  · intro p hp hI
    exact hI0 p hp (List.mem_singleton.mp hI)
  · exact ⟨⟨.none, .none, Heap.get?_push_size _ rfl⟩, hat.push _⟩
  · rintro i v m₁ nx h₁ tk₁ own hi ⟨T', key, k, x, rfl, hx, hkey, hT⟩ ⟨hadr, hJ⟩ hoff hown hown1 hown2 hst F₁ N₁
    obtain ⟨dv, hD, hfl⟩ := hf.at hx
    rw [kdpD, List.getElem?_map] at hD
    obtain ⟨p, hp', he⟩ := Option.map_eq_some_iff.mp hD
    cases he
    obtain ⟨t, rfl⟩ := Value.isStrOf_shape hkey
    obtain ⟨t', rfl⟩ := PyProof.V.Flat.int_inv hfl
    have hsep : OwnOff own (news.map (·.1)) := by
      intro q hq y hy e
      obtain ⟨z, hz, rfl⟩ := List.mem_map.mp hy
      rcases List.mem_cons.mp (hown q hq) with h1 | h1
      · exact hI0 z hz (e.symm.trans h1)
      · have h2 : h₀.get? q.1 = none := (N₁ q (List.mem_append_left _ hq)).2.2
        rw [List.mem_singleton.mp h1, hod] at h2; cases h2
    refine kcp_assign hh hT ha hb hp F₁.ns fun h₂ tk₂ hn₂ hk₂ => ?_
    have F₂ : Fr h₀ env.locals h₂ (fun z => if z = b then some (.int p.2 t') else if z = a then some (.str p.1 t) else m₁ z) :=
      ⟨hn₂, fun y o e => hk₂ y o (fun q => absurd (Heap.lt_size (q ▸ e)) (Nat.not_lt.mpr F₁.above)) (F₁.keep y o e), F₁.above⟩
    have N₂ : News h₀ env.locals h₂ (nx ++ own) := fun q hq => by
      have := N₁ q ((List.mem_append.mp hq).elim (fun h => List.mem_append.mpr (.inr h)) fun h => List.mem_append.mpr (.inl h))
      exact ⟨hk₂ _ _ this.2.1 this.1, this.2⟩
    refine wpAny_mono (turn i p t t' m₁ nx h₂ tk₂ own hp' hadr hsep hJ F₂ N₂) (fun f s₂ q => ?_) fun _ _ e => e
    have fin : InvEndN h₀ env.locals (J (i + 1)) own (news.map (·.1)) { s with heap := h₂, toks := tk₂ } s₂ → LoopStepU h₀ env.locals [s.heap.objs.size] own (J' (i + 1)) { s with heap := h₁, toks := tk₁ } .next s₂ := by
      rintro ⟨h', tk, m', news', nx', e, F', N', hn, ho, ha, hm⟩
      refine ⟨rfl, h', tk, m', nx', e, F', fun p hp => N' p ((List.mem_append.mp hp).elim (ho p) (hn p)), fun p hp hq => ?_, ha, hm⟩
      have h1 : p.1 ∈ nx'.map (·.1) := List.mem_map.mpr ⟨p, hp, rfl⟩
      rw [ha] at h1
      obtain ⟨q, hq1, hq2⟩ := List.mem_map.mp h1
      exact hI0 q hq1 (by rw [hq2]; exact List.mem_singleton.mp hq)
    cases f with
    | ret v => exact .ret q
    | brk => exact .brk q
    | next => exact .next (fin q)
    | cont => exact .cont (fin q)
  · rintro h' tk m' news' F' N' _ ⟨_, hJ⟩
    rw [hlen] at hJ
    exact done m' news' h' tk hJ F' N'
end
theorem apartN {h₀ h : Heap} {L b c : Addr} {o : Obj} {news : List (Addr × Obj)} (N : News h₀ L h news) (hb : h.get? b = none) (hc : (c, o) ∈ news) : b ≠ c := fun q => by
  have := (N _ hc).1
  rw [← q, hb] at this
  cases this
theorem newAt {h₀ h h9 : Heap} {L d : Addr} {m : Str → Option Value} {o : Obj} (F : Fr h₀ L h m) (hd : h.get? d = none) (ho : h9.get? d = some o) : h9.get? d = some o ∧ d ≠ L ∧ h₀.get? d = none := by
  refine ⟨ho, fun q => ?_, ?_⟩
  · obtain ⟨_, _, _, hL, _⟩ := F.ns
    rw [q, hL] at hd; cases hd
  · cases e : h₀.get? d with
    | none => rfl
    | some x => rw [F.keep _ _ e] at hd; cases hd
end Mine
namespace Mine
set_option maxRecDepth 100000
/-! what the substitution writes -/
def piece (text : Array Nat) (lim i : Nat) : List UInt8 := if hitAt text lim i = true then [46, 46] else [(text.getD i 0).toUInt8]
def outTo (text : Array Nat) (lim k : Nat) : List UInt8 := (List.range k).flatMap (piece text lim)
theorem outTo_succ (text : Array Nat) (lim k : Nat) : outTo text lim (k + 1) = outTo text lim k ++ piece text lim k := by simp [outTo, List.range_succ]
def sliceB (text : Array Nat) (b e : Nat) : Array UInt8 := (text.extract b e).map (·.toUInt8)
theorem slice_snoc {text : Array Nat} {k e : Nat} (h : k ≤ e) (he : e < text.size) : (sliceB text k (e + 1)).toList = (sliceB text k e).toList ++ [(text.getD e 0).toUInt8] := by
  have : text.extract k (e + 1) = (text.extract k e).push text[e] := by
    apply Array.ext
    · simp; omega
    · intro i h1 h2
      rw [Array.getElem_push]
      split
      · simp
      · simp at h1 ⊢
        congr 1
        simp at *
        omega
  unfold sliceB
  rw [this, Array.map_push, Array.toList_push]
  have e : text.getD e 0 = text[e] := by simp [Array.getD, he]
  rw [e]
theorem outTo_skip {text : Array Nat} {lim k : Nat} : ∀ (n : Nat), k + n ≤ text.size → (∀ q, k ≤ q → q < k + n → hitAt text lim q = false) → outTo text lim (k + n) = outTo text lim k ++ (sliceB text k (k + n)).toList
  | 0, _, _ => by simp [sliceB]
  | n + 1, h, hn => by
    rw [← Nat.add_assoc, outTo_succ, outTo_skip n (by omega) (fun q h1 h2 => hn q h1 (by omega)), slice_snoc (by omega) (by omega), List.append_assoc]
    unfold piece
    rw [hn (k + n) (by omega) (by omega)]
    simp
theorem flatB_list (xs : List (Array UInt8)) : (flatB xs).toList = xs.flatMap Array.toList := by simp [flatB]
section
variable {prog : Program} {w : World} {A : Around} {E : Value → Shared → Prop} {s : Shared}
theorem asStr_by {b : Array UInt8} {t : Tok} {Q : Option Str → Shared → Prop} (h : Q none s) : wpAny (model prog w) A (asStr? (.bytes b t)) Q E s := wpAny_pure h
theorem reSlice_by {text : Array Nat} {b e : Nat} {Q : Value → Shared → Prop} (hz : text.size ≤ 100000) (h : Q (.bytes (sliceB text b e) s.toks) { s with toks := s.toks + 1 }) : wpAny (model prog w) A (Builtin.Re.reSlice text 1 b e) Q E s := by
  unfold Builtin.Re.reSlice
  exact wpAny_mkBytes h (by rw [sizeLine_eq]; simp; omega)
theorem target_by {b : Array UInt8} {t : Tok} {p c : Addr} {op oc : Obj} {fs its : Array Value} {n : Nat} {Q : Builtin.Re.ReTarget → Shared → Prop}
    (hp : s.heap.get? p = some op) (hpd : op.data = .fields fs) (hc : s.heap.get? c = some oc) (hcd : oc.data = .seq its n)
    (h5 : fs.getD 5 .none = .ref c) (h6 : Builtin.Re.reRawNat (fs.getD 6 .none) = 1) (h2 : Builtin.Re.reRawNat (fs.getD 2 .none) = 0) (hq : (its.map Builtin.Re.reRawOf).map (·.toNat) = qCode)
    (h : Q { pattern := .ref p, string := .bytes b t, code := qCode, text := b.map (·.toNat), kind := 1, groups := 0, pos := 0, lim := (b.map (·.toNat)).size } s) :
    wpAny (model prog w) A (Builtin.Re.reWholeTarget (.ref p) (.bytes b t)) Q E s := by
  unfold Builtin.Re.reWholeTarget
  refine wpAny_bind (wpAny_fieldsOf hp hpd ?_)
  refine wpAny_bind (m := Builtin.Re.reTextOf (.bytes b t)) ?_
  unfold Builtin.Re.reTextOf
  refine wpAny_bind (asStr_by ?_)
  dsimp only
  refine wpAny_bind (bufferQuiet_by ?_)
  refine wpAny_pure ?_
  dsimp only
  rw [h6]
  refine bm_if_false rfl ?_
  refine bm_if_false rfl ?_
  refine wpAny_bind (m := Builtin.Re.reNoCollectionInside (.bytes b t) 1) ?_
  unfold Builtin.Re.reNoCollectionInside
  refine bm_if_true rfl ?_
  refine wpAny_bind (wpAny_isInstance (b := true) (typeIs_bytes s b t) (by rw [isSubtype_type]; kernel_rfl) ?_)
  refine wpAny_pure ?_
  refine wpAny_bind (m := Builtin.Re.reRawItems _) ?_
  rw [h5, h2]
  unfold Builtin.Re.reRawItems
  refine wpAny_bind (wpAny_seqItems hc hcd (wpAny_pure ?_))
  refine wpAny_pure ?_
  show Q { pattern := .ref p, string := .bytes b t, code := (its.map Builtin.Re.reRawOf).map (·.toNat), text := _, kind := _, groups := _, pos := _, lim := _ } s
  rw [hq]
  exact h
end
end Mine
namespace Mine
set_option maxRecDepth 100000
theorem entry_subloop : entryFor table "re.Pattern.sub.loop" = some Builtin.«re.Pattern.sub.loop» := by first | exact entryFor_of_fast (by kernel_rfl) | exact entryFor_of_tree (by kernel_rfl)
theorem plain_subloop : plainId "re.Pattern.sub.loop" = true := by decide +kernel
theorem BytesAre.snoc {vs : List Value} {xs : List (Array UInt8)} (h : BytesAre vs xs) (b : Array UInt8) (t : Tok) : BytesAre (vs ++ [.bytes b t]) (xs ++ [b]) := h.append (.cons b t .nil)
section
variable {prog : Program} {w : World} {A : Around} {E : Value → Shared → Prop} {s : Shared}
theorem push_led {ld : Addr} {its : Array Value} {n : Nat} {x : Value} {Q : Unit → Shared → Prop} (ho : s.heap.get? ld = some { cls := .type "list", data := .seq its n })
    (h : ∀ h', Heap.SameBut ld s.heap h' → h'.get? ld = some { cls := .type "list", data := .seq (its.push x) (n + 1) } → Q () { s with heap := h' })
    (hsz : its.size ≤ sizeLine := by size_fits) : wpAny (model prog w) A (updateSeq ld (·.push x)) Q E s := by
  refine wpAny_updateSeq ho rfl (h _ (Heap.SameBut.update ..) ?_)
  rw [Heap.get?_update_self _ ho (by rw [mapSeq_push]; rfl), mapSeq_push]
structure PatAt (h : Heap) (p : Addr) : Prop where
  ex : ∃ op oc c fs its n, h.get? p = some op ∧ op.data = .fields fs ∧ h.get? c = some oc ∧ oc.data = .seq its n ∧ fs.getD 5 .none = .ref c ∧ Builtin.Re.reRawNat (fs.getD 6 .none) = 1 ∧ Builtin.Re.reRawNat (fs.getD 2 .none) = 0 ∧ (its.map Builtin.Re.reRawOf).map (·.toNat) = qCode
theorem PatAt.keep {h h' : Heap} {p : Addr} (P : PatAt h p) (k : ∀ b o, h.get? b = some o → h'.get? b = some o) : PatAt h' p := by
  obtain ⟨op, oc, c, fs, its, n, a1, a2, a3, a4, a5⟩ := P.ex
  exact ⟨op, oc, c, fs, its, n, k _ _ a1, a2, k _ _ a3, a4, a5⟩
theorem target_pat {b : Array UInt8} {t : Tok} {p : Addr} {Q : Builtin.Re.ReTarget → Shared → Prop} (P : PatAt s.heap p)
    (h : Q { pattern := .ref p, string := .bytes b t, code := qCode, text := b.map (·.toNat), kind := 1, groups := 0, pos := 0, lim := (b.map (·.toNat)).size } s) :
    wpAny (model prog w) A (Builtin.Re.reWholeTarget (.ref p) (.bytes b t)) Q E s := by
  obtain ⟨op, oc, c, fs, its, n, a1, a2, a3, a4, a5, a6, a7, a8⟩ := P.ex
  exact target_by a1 a2 a3 a4 a5 a6 a7 a8 h
theorem push_slice {α : Type} {K : Sem α} {ld : Addr} {vs : List Value} {xs : List (Array UInt8)} {n k e : Nat} {text : Array Nat} {Q : α → Shared → Prop} (hz : text.size ≤ 1000) (ho : s.heap.get? ld = some (W.listOf vs.toArray n)) (hv : BytesAre vs xs) (hlen : vs.length ≤ 2000) (hk : k ≤ e)
    (h : ∀ h' tk n' vs' xs', Heap.SameBut ld s.heap h' → h'.get? ld = some (W.listOf vs'.toArray n') → BytesAre vs' xs' → (flatB xs').toList = (flatB xs).toList ++ (sliceB text k e).toList → vs'.length ≤ vs.length + (e - k) → wpAny (model prog w) A K Q E { s with heap := h', toks := tk }) :
    wpAny (model prog w) A (if k < e then Builtin.Re.reSlice text 1 k e >>= fun v => updateSeq ld (·.push v) >>= fun _ => K else K) Q E s := by
  by_cases hlt : k < e
  · rw [if_pos hlt]
    refine wpAny_bind (reSlice_by (by omega) ?_)
    refine wpAny_bind (push_led ho (fun h' hs hg => ?_) (by rw [sizeLine_eq]; simp; omega))
    refine h h' _ (n + 1) (vs ++ [.bytes (sliceB text k e) s.toks]) (xs ++ [sliceB text k e]) hs (by rw [hg]; simp [W.listOf]) (hv.snoc _ _) ?_ ?_
    · simp [flatB]
    · simp; omega
  · rw [if_neg hlt]
    have : k = e := by omega
    subst this
    exact h _ _ n vs xs (Heap.SameBut.refl _ _) ho hv (by simp [sliceB]) (by omega)
theorem sub_loop {b : Array UInt8} {t t2 : Tok} {p ld : Addr} {h₀ : Heap} {R : Result → Shared → Prop} (hz : b.size ≤ 1000) (P : PatAt h₀ p) (hld : h₀.get? ld = none)
    (hR : ∀ s' t', (∀ b o, h₀.get? b = some o → s'.heap.get? b = some o) → (∃ h' tk, s' = { s with heap := h', toks := tk }) → R (.ok (.ret (.bytes (outTo (b.map (·.toNat)) b.size b.size).toArray t'))) s') :
    ∀ (d k i : Nat) (s' : Shared) (vs : List Value) (xs : List (Array UInt8)) (n : Nat), b.size - k = d → k ≤ b.size → (∀ b o, h₀.get? b = some o → s'.heap.get? b = some o) → (∃ h' tk, s' = { s with heap := h', toks := tk }) → s'.heap.get? ld = some (W.listOf vs.toArray n) → BytesAre vs xs →
      (flatB xs).toList = outTo (b.map (·.toNat)) b.size k → vs.length ≤ 2 * k →
      codeAny (model prog w) A (.builtin "re.Pattern.sub.loop" ⟨[.ref p, .bytes b t, .bytes #[46, 46] t2, rawInt 0, rawInt 0, rawInt i, rawInt k, rawInt k, .bool false, .ref ld, .bool false], []⟩) R s' := by
  intro d
  induction d using Nat.strongRecOn with
  | ind d ih =>
  intro k i s' vs xs n hd hk hkeep hs' ho hv hf hlen
  refine codeAny_builtin entry_subloop ?_
  rw [Around.under_plainId plain_subloop]
  unfold Builtin.«re.Pattern.sub.loop»
  dsimp only [rawInt]
  refine wpAny_bind (target_pat (P.keep hkeep) ?_)
  refine bm_if_true rfl ?_
  refine wpAny_bind (m := Builtin.Re.reLiteralCannotBeTurned _) ?_
  unfold Builtin.Re.reLiteralCannotBeTurned
  refine wpAny_bind (asStr_by ?_)
  refine bm_if_true rfl ?_
  refine wpAny_bind (wpAny_isInstance (b := true) (typeIs_bytes s' _ t2) (by rw [isSubtype_type]; kernel_rfl) ?_)
  refine wpAny_pure ?_
  have hts : (b.map (·.toNat)).size = b.size := by simp
  refine wpAny_bind ?_
  rw [if_neg (by simp)]
  unfold Builtin.Re.reNextFound
  dsimp only
  rw [Int.toNat_natCast, hts]
  refine wpAny_reRunToEnd (by omega) (fun m e h1 h2 h3 h4 h5 h6 => ?_) (fun hno => ?_)
  · dsimp only
    rw [h5, h6]
    refine push_slice (by omega) ho hv (by omega) h1 fun h' tk n' vs' xs' hsb hg hv' hf' hl' => ?_
    refine bm_if_true rfl ?_
    refine wpAny_bind (wpAny_pure ?_)
    refine bm_if_true rfl ?_
    refine wpAny_bind (push_led hg (fun h2' hsb2 hg2 => ?_) (by rw [sizeLine_eq]; simp; omega))
    refine wpAny_pure ⟨plainId_quiet plain_subloop _, ?_⟩
    have hne : (e + 1 == e) = false := by simp
    rw [hne]
    have hk2 : ∀ b o, h₀.get? b = some o → h2'.get? b = some o := fun q o hq =>
      hsb2.extBut q o (fun e => by rw [e, hld] at hq; cases hq) (hsb.extBut q o (fun e => by rw [e, hld] at hq; cases hq) (hkeep q o hq))
    obtain ⟨ha, tka, rfl⟩ := hs'
    refine ih (b.size - (e + 1)) (by omega) (e + 1) (i + 1) _ (vs' ++ [.bytes #[46, 46] t2]) (xs' ++ [#[46, 46]]) (n' + 1) rfl (by omega) hk2 ⟨_, _, rfl⟩ (by rw [hg2]; simp [W.listOf]) (hv'.snoc _ _) ?_ (by simp; omega)
    have hsk := outTo_skip (text := b.map (·.toNat)) (lim := b.size) (k := k) (e - k) (by simp; omega) (fun q q1 q2 => h4 q q1 (by omega))
    rw [show k + (e - k) = e by omega] at hsk
    rw [outTo_succ, hsk, ← hf, ← hf']
    unfold piece
    rw [if_pos h3]
    simp [flatB]
  · dsimp only
    refine push_slice (by omega) ho hv (by omega) hk fun h' tk n' vs' xs' hsb hg hv' hf' hl' => ?_
    refine wpAny_bind (reSlice_by (by omega) ?_)
    refine wpAny_bind (wpAny_seqItems hg rfl ?_)
    have hk2 : ∀ b o, h₀.get? b = some o → h'.get? b = some o := fun q o hq => hsb.extBut q o (fun e => by rw [e, hld] at hq; cases hq) (hkeep q o hq)
    obtain ⟨ha, tka, rfl⟩ := hs'
    have hsk := outTo_skip (text := b.map (·.toNat)) (lim := b.size) (k := k) (b.size - k) (by simp; omega) (fun q q1 q2 => hno q q1 (by omega))
    rw [show k + (b.size - k) = b.size by omega] at hsk
    have hout : (flatB xs').toList = outTo (b.map (·.toNat)) b.size b.size := by rw [hsk, ← hf, ← hf']
    have hout' : flatB xs' = (outTo (b.map (·.toNat)) b.size b.size).toArray := by rw [← hout]
    have h0 : sliceB (b.map (·.toNat)) 0 0 = #[] := by simp [sliceB]
    rw [h0]
    by_cases hem : vs' = []
    · subst hem
      refine bm_if_true rfl ?_
      refine wpAny_bind (wpAny_pure ?_)
      refine bm_if_false rfl (wpAny_pure ?_)
      cases hv'
      have := hR { s with heap := h', toks := tk + 1 } tk hk2 ⟨_, _, rfl⟩
      rw [← hout'] at this
      exact this
    · refine bm_if_false (by simpa using hem) ?_
      rw [show (if ((1 : Nat) == 0) = true then "str.join" else "bytes.join") = "bytes.join" from rfl]
      have hbs : (flatB xs').size ≤ 100000 := by
        have e1 : (flatB xs').size = (outTo (b.map (·.toNat)) b.size b.size).length := by rw [hout']; simp
        rw [e1]
        have : ∀ k, (outTo (b.map (·.toNat)) b.size k).length ≤ 2 * k := fun k => by
          induction k with
          | zero => simp [outTo]
          | succ k ihk =>
            rw [outTo_succ, List.length_append]
            have : (piece (b.map (·.toNat)) b.size k).length ≤ 2 := by unfold piece; split <;> simp
            omega
        have := this b.size
        omega
      refine wpAny_bind (call_join0 ⟨_, hg, rfl, _, rfl⟩ hv' hbs fun t' k' => ?_)
      refine bm_if_false rfl (wpAny_pure ?_)
      have := hR { s with heap := h', toks := k' } t' hk2 ⟨_, _, rfl⟩
      rw [← hout'] at this
      exact this
end
end Mine
namespace Mine
set_option maxRecDepth 100000
theorem by_call : typeLookup (.type "bytes") "__call__" = pure none := by rw [typeLookup_type, builtinLookup_eq_fast]; kernel_rfl
theorem entry_sub : entryFor table "re.Pattern.sub" = some Builtin.«re.Pattern.sub» := by first | exact entryFor_of_fast (by kernel_rfl) | exact entryFor_of_tree (by kernel_rfl)
theorem slot_sub : Slot "re.Pattern" "sub" "re.Pattern.sub" :=
  .of (owner := "re.Pattern") (n := "sub") (by rw [typeLookup_type, builtinLookup_eq_fast]; kernel_rfl) (by decide +kernel) (by decide +kernel) (by decide +kernel)
    (by first | exact .inl (by decide +kernel) | exact .inr (by decide +kernel)) (by rw [isSubtype_type]; kernel_rfl)
theorem args_sub (a b c : Value) : argsOk "re.Pattern.sub" ⟨[a, b, c], []⟩ := by
  unfold argsOk
  rfl
section
variable {prog : Program} {w : World} {A : Around} {E : Value → Shared → Prop} {s : Shared}
theorem sub_main {b : Array UInt8} {t t2 : Tok} {p : Addr} {R : Result → Shared → Prop} (hz : b.size ≤ 1000) (P : PatAt s.heap p)
    (hR : ∀ h' tk t', (∀ b o, s.heap.get? b = some o → h'.get? b = some o) → R (.ok (.ret (.bytes (outTo (b.map (·.toNat)) b.size b.size).toArray t'))) { s with heap := h', toks := tk }) :
    wpAny (model prog w) A.in1 (Builtin.«re.Pattern.sub» ⟨[.ref p, .bytes #[46, 46] t2, .bytes b t], []⟩) (fun fin s' => match fin with | .done f => R (.ok f) s' | .again c' => c'.quiet = true ∧ codeAny (model prog w) A c' R s') (fun e s' => R (.error e) s') s := by
  unfold Builtin.«re.Pattern.sub» Builtin.Re.reSubstitute
  dsimp only
  refine wpAny_bind (wpAny_of_eq (a := [some (.bytes #[46, 46] t2), some (.bytes b t), none]) rfl ?_)
  dsimp only
  refine wpAny_bind (wpAny_pure ?_)
  refine wpAny_bind (wpAny_specialOf (typeIs_bytes s _ t2) by_call ?_)
  refine bm_if_false rfl ?_
  refine wpAny_bind (asStr_by ?_)
  dsimp only
  refine wpAny_bind (bufferQuiet_by ?_)
  dsimp only
  refine wpAny_bind (wpAny_pure ?_)
  refine bm_if_false rfl ?_
  refine bm_if_true (by decide +kernel) ?_
  refine wpAny_bind (wpAny_pure ?_)
  refine wpAny_bind (wpAny_holding (target_pat P ?_))
  refine bm_if_false rfl ?_
  refine wpAny_bind (wpAny_newList ?_ (by simp))
  refine wpAny_pure ⟨plainId_quiet plain_subloop _, ?_⟩
  have hk : ∀ b o, s.heap.get? b = some o → (s.heap.push (({ cls := .type "list", data := .seq #[] } : Obj))).get? b = some o := fun b o h => Heap.get?_push_of_some _ h
  refine sub_loop (h₀ := s.heap) (s := s) hz P ?_ (fun s' t' h1 h2 => ?_) b.size 0 0 _ [] [] 0 (by omega) (by omega) hk ⟨_, _, rfl⟩ ?_ .nil rfl (by simp)
  · cases e : s.heap.get? s.heap.objs.size with
    | none => rfl
    | some o => exact absurd (Heap.lt_size e) (Nat.lt_irrefl _)
  · obtain ⟨h', tk, e⟩ := h2
    subst e; exact hR _ _ _ h1
  · exact Heap.get?_push_size (o := { cls := .type "list", data := .seq #[] }) _ rfl
theorem call_sub {b : Array UInt8} {t t2 : Tok} {p : Addr} {Q : Value → Shared → Prop} (hT : s.TypeIs (.ref p) "re.Pattern") (hz : b.size ≤ 1000) (P : PatAt s.heap p)
    (hR : ∀ h' tk t', (∀ b o, s.heap.get? b = some o → h'.get? b = some o) → Q (.bytes (outTo (b.map (·.toNat)) b.size b.size).toArray t') { s with heap := h', toks := tk }) :
    wpAny (model prog w) A (call (.builtin "re.Pattern.sub") [.ref p, .bytes #[46, 46] t2, .bytes b t]) Q E s :=
  wpAny_call (codeAny_call_builtin slot_sub.plain entry_sub (slot_sub.check _ _ _ _ _ _ _ _ hT (args_sub _ _ _) (sub_main (R := fun r s' => match r with | .ok (.ret v) => Q v s' | .ok _ => False | .error e => E e s') hz P hR)))
end
end Mine
namespace Mine
theorem fresh_FRow : True := by w_top off; trivial

local macro_rules | `(tactic| ktn_open) => `(tactic| repeat' (first | (k_unfold; (try dsimp only)) | ((fail_if_success (with_reducible show wpAny _ _ (exec (Stmt.For _ _ _ _ _) _) _ _ _)); (fail_if_success (with_reducible show wpAny _ _ (pyIter (Value.ref _)) _ _ _)); (fail_if_success (with_reducible show InvPostN _ _ _ _ _ _ _ _ _)); first | walk1 | (dsimp only; walk1) | (leave1; walk_say "STEP leave1"; try dsimp only))))
local macro_rules | `(tactic| units_room) => `(tactic| (dsimp only [Around.deeper, Around.in1, Around.mark, AA]; omega))
local macro_rules | `(tactic| walk_at "setItem ref int") => `(tactic| ((with_reducible show wpAny _ _ (setItem (Value.ref _) (Value.int _ _) _) _ _ _); with_reducible rename IntsAre _ _ => iL; k_dflt (refine' setLed ?F ?N ?U iL ?h0 ?h1 ?h2 ?_; (case F => k_asm); (case N => k_asm); (case U => first | exact UpdF.head (by k_all) | exact UpdF.head (by assumption)); (case h0 => omega); (case h1 => omega); (case h2 => omega); k_whole); intro h' its' F' N' I'))
def rowIn (last one : Int) (r : List Int) (other : Int) : List Int := if one + other ≤ last then r.set (one + other).toNat 10 else r
def rowZero (last : Int) : List Int := List.flatten (List.replicate (Int.toNat (last + 1)) [46])
def rowOf (ns1 ns2 : List Int) (last : Int) : List Int := ns1.foldl (fun r one => ns2.foldl (rowIn last one) r) (rowZero last)
def JR (l : Addr) (own : List (Addr × Obj)) (n : Nat) (P : (Str → Option Value) → Prop) (r : List Int) (m : Str → Option Value) (nx : List (Addr × Obj)) : Prop :=
  ∃ its : List Value, nx = (l, listOf its.toArray 0) :: own ∧ IntsAre its r ∧ r.length = n ∧ P m
def Off1 (x : Str) (m₀ m : Str → Option Value) : Prop := ∀ z, z ≠ x → m z = m₀ z
def Off2 (x y : Str) (m₀ m : Str → Option Value) : Prop := ∀ z, z ≠ x → z ≠ y → m z = m₀ z
theorem memL {a b p : Addr × Obj} {xs ys : List (Addr × Obj)} (h : p ∈ a :: b :: ([] ++ xs)) : p ∈ a :: b :: ([] ++ xs ++ ys) := by
  simp only [List.mem_cons, List.nil_append, List.mem_append] at h ⊢
  rcases h with h | h | h <;> simp [h]
theorem offL {h₀ h : Heap} {L : Addr} {o : Obj} {x : Addr × Obj} {own own' : List (Addr × Obj)} {d : Addr} (_N : News h₀ L h ((d, o) :: x :: ([] ++ own ++ own'))) (h1 : x.1 < d) (h2 : ∀ p ∈ own, p.1 ≠ d) (h3 : ∀ p ∈ own', p.1 ≠ d) : ∀ p ∈ x :: ([] ++ own ++ own'), p.1 ≠ d := by
  intro p hp
  rcases List.mem_cons.mp hp with rfl | hp
  · exact Nat.ne_of_lt h1
  · rcases List.mem_append.mp hp with hp | hp
    · exact h2 p hp
    · exact h3 p hp
theorem map_skip {x y : Str} {m₁ m₀ : Str → Option Value} {v : Value} (hm : ∀ z, z ≠ x → z ≠ y → m₁ z = m₀ z) : (fun z => if z = x then some v else m₁ z) = fun z => if z = x then some v else if z = y then m₁ y else m₀ z := by
  funext z
  by_cases h1 : z = x
  · simp [h1]
  · simp only [if_neg h1]
    by_cases h2 : z = y
    · subst h2; simp
    · simp only [if_neg h2]; exact hm z h1 h2
theorem done_skip {x y : Str} {m₁ m₀ : Str → Option Value} (hm : ∀ z, z ≠ x → z ≠ y → m₁ z = m₀ z) : (fun z => if z = x then m₁ x else if z = y then m₁ y else m₀ z) = m₁ := by
  funext z
  by_cases h1 : z = x
  · simp [h1]
  · simp only [if_neg h1]
    by_cases h2 : z = y
    · subst h2; simp
    · simp only [if_neg h2]; exact (hm z h1 h2).symm
set_option maxRecDepth 100000 in
set_option maxHeartbeats 8000000 in
theorem row_con {w : World} {dp un : Nat} {gd : Option (List Code)} {fr : Option (List Env)} {s : Shared} {mean : ExcName → Option Value} {mg mb : Str → Option Value}
  (X : (hd.heap_39 w.params).In s.heap) (T : Top hd.view_39 (looseW hd.view_39 [Str.ofString "_twin_re_1"]) mean mg mb s.heap)
  (hdp : dp + 5 < recursionLimit) (hun : un + 300 < cLine) {l1 l2 : Addr} {vs1 vs2 : List Value} {ns1 ns2 : List Int} {last : Int} {tl : Tok} (hl1 : s.heap.IsList l1 vs1.toArray) (hi1 : IntsAre vs1 ns1) (hl2 : s.heap.IsList l2 vs2.toArray) (hi2 : IntsAre vs2 ns2) (hp1 : ∀ n ∈ ns1, 0 ≤ n) (hp2 : ∀ n ∈ ns2, 0 ≤ n) (hla0 : 0 ≤ last) (hla1 : last ≤ 100) {R : Result → Shared → Prop}
  (hR : ∀ l (its : List Value) h' tk, (∀ b o, s.heap.get? b = some o → h'.get? b = some o) → s.heap.get? l = none → h'.get? l = some (listOf its.toArray 0) → IntsAre its (rowOf ns1 ns2 last) → R (.ok (.ret (.ref l))) { s with heap := h', toks := tk }) :
  codeAny (model Challenge.rw_zn0005_01.row.prog w) (AA dp un gd fr) (.call (.ref 111) ⟨[.ref l1, .ref l2, .int last tl], []⟩) R s := by
  revert X; k_fill; intro X
  k_dflt (refine' enterP (binds := [(Str.ofString "ones", .ref l1), (Str.ofString "others", .ref l2), (Str.ofString "last", .int last tl)]) ?k1 ?k2 ?k6 ?k7 ?k8 ?k9 ?kB ?_ ?c2 ?c3 ?c4 ?kN; (case k1 => k_asm); (case k2 => k_asm); (case k6 => k_is); (case k7 => k_is); (case k8 => (show dp < _; omega)); (case k9 => exact BindsTo.of_eq rfl); (case kB => exact locs rfl); (case kN => decide); (case c2 => exact rfl); (case c3 => exact rfl); (case c4 => exact rfl); k_whole)
  intro L h₁ F N
  (try dsimp only)
  (try k_unmd); k_fold
  ktn_open
  rename _ < _ => hlt; rename IntsAre (List.flatten _) _ => I0; rename Fr _ _ _ _ => F0; rename News _ _ _ _ => N0
  refine For_invVF F0 rfl rfl ?_
  ktn_open
  refine iter_listS (JR _ _ (last + 1).toNat (Off2 (Str.ofString "one") (Str.ofString "other") _)) (fun r one => ns2.foldl (rowIn last one) r) (rowZero last) rfl hl1 hi1 F0 N0 ⟨_, rfl, I0, by simp [rowZero], fun _ _ _ => rfl⟩ ?_ ?_
  · rintro k t r m₁ nx h tk own hk hoff ⟨its, rfl, hi', hlen, hm⟩ F' N'
    rw [map_skip hm] at F'
    simp only [List.cons_append] at N'
    have hk0 := hp1 k hk
    clear hm
    (try dsimp only); (try k_unmd); k_fold
    ktn_open
    refine For_invVF F' rfl rfl ?_
    ktn_open
    refine iter_listS (JR _ _ (last + 1).toNat (Off1 (Str.ofString "other") _)) (rowIn last k) r rfl hl2 hi2 F' N' ⟨_, rfl, hi', hlen, fun _ _ => rfl⟩ ?_ ?_
    · rintro j t' r' m₂ nx' h tk own' hj hoff' ⟨its', rfl, hi'', hlen', hm'⟩ F'' N''
      rw [map_none hm'] at F''
      simp only [List.cons_append] at N''
      have hj0 := hp2 j hj
      clear hm'
      have hU := offL N'' hlt (hoff.ne (.head _)) (hoff'.ne (.head _))
      (try dsimp only); (try k_unmd); k_fold
      ktn_open
      rename IntsAre _ _ => iL
      refine' setLed F'' N'' (UpdF.head hU) iL ?h0 ?h1 ?h2 (fun h' its9 F9 N9 I9 => ?_) <;> first | omega | skip
      ktn_open
      · rename Fr _ _ _ _ => F9; rename News _ _ _ _ => N9; rename IntsAre _ _ => I9
        refine ⟨_, _, _, _, _, rfl, F9, N9, ?_, ?_, ?_, ⟨_, rfl, by rw [rowIn, if_pos ‹_›]; exact I9, by rw [rowIn, if_pos ‹_›, List.length_set]; exact hlen', fun z hz => if_neg hz⟩⟩
        · exact fun p hp => memL hp
        · intro p hp; simp [hp]
        · rfl
      · refine ⟨_, _, _, _, _, rfl, F'', N'', ?_, ?_, ?_, ⟨_, rfl, by rw [rowIn, if_neg ‹_›]; exact hi'', by rw [rowIn, if_neg ‹_›]; exact hlen', fun z hz => if_neg hz⟩⟩
        · exact fun p hp => memL hp
        · intro p hp; simp [hp]
        · rfl
    · rintro m₂ nx' h tk ⟨its', rfl, hi'', hlen', hm'⟩ F'' N''
      rw [← done_none hm'] at F''
      clear hm'
      (try dsimp only); (try k_unmd)
      ktn_open
      refine ⟨_, _, _, _, _, rfl, F'', N'', ?_, ?_, ?_, ⟨its', rfl, hi'', hlen', ?_⟩⟩
      · exact fun p hp => memL hp
      · intro p hp; simp [hp]
      · rfl
      · intro z h1 h2
        simp only [if_neg h1, if_neg h2]
  · rintro m₁ nx h tk ⟨its, rfl, hi', hlen, hm⟩ F' N'
    rw [← done_skip hm] at F'
    (try dsimp only); (try k_unmd)
    ktn_open
    refine hR _ _ _ _ F'.keep (N' _ (.head _)).2.2 (N' _ (.head _)).1 hi'
end Mine
namespace Mine
theorem fresh_FQuote : True := by w_top off; trivial

local macro_rules | `(tactic| ktn_open) => `(tactic| repeat' (first | (k_unfold; (try dsimp only)) | ((fail_if_success (with_reducible show wpAny _ _ (exec (Stmt.For _ _ _ _ _) _) _ _ _)); (fail_if_success (with_reducible show wpAny _ _ (pyIter (Value.ref _)) _ _ _)); (fail_if_success (with_reducible show wpAny _ _ (getMethod (Value.ref _) _ _) _ _ _)); (fail_if_success (with_reducible show wpAny _ _ (call (Value.builtin _) (Value.ref _ :: _)) _ _ _)); (fail_if_success (with_reducible show InvPostN _ _ _ _ _ _ _ _ _)); first | walk1 | (dsimp only; walk1) | (leave1; walk_say "STEP leave1"; try dsimp only))))
local macro_rules | `(tactic| units_room) => `(tactic| (dsimp only [Around.deeper, Around.in1, Around.mark, AA]; omega))
def quoteB (b : Array UInt8) : Array UInt8 := (outTo (b.map (·.toNat)) b.size b.size).toArray
theorem pat36 (w : World) : ∃ op, (hd.heap_39 w.params).lookup 36 = some op ∧ op.cls = .type "re.Pattern" ∧ op.dict = none ∧ ∃ oc fs its n, op.data = .fields fs ∧ (hd.heap_39 w.params).lookup 35 = some oc ∧ oc.data = .seq its n ∧ fs.getD 5 .none = .ref 35 ∧ Builtin.Re.reRawNat (fs.getD 6 .none) = 1 ∧ Builtin.Re.reRawNat (fs.getD 2 .none) = 0 ∧ (its.map Builtin.Re.reRawOf).map (·.toNat) = qCode :=
  ⟨_, by with_unfolding_all rfl, rfl, rfl, _, _, _, _, rfl, by with_unfolding_all rfl, rfl, rfl, rfl, rfl, by simp [Builtin.Re.reRawOf, qCode]⟩
theorem plainAttrs_pat : PlainAttrs "re.Pattern" :=
  ⟨⟨"object.__getattribute__", by rw [typeLookup_type, builtinLookup_eq_fast]; kernel_rfl, by decide +kernel⟩, by rw [typeLookup_type, builtinLookup_eq_fast]; kernel_rfl⟩
theorem type_pat_sub : typeOf (.builtin "re.Pattern.sub") = pure (.type "method_descriptor") := by show builtinType _ = _; rw [builtinType_eq_fast]; kernel_rfl
set_option maxRecDepth 100000 in
set_option maxHeartbeats 8000000 in
theorem quote_con {w : World} {dp un : Nat} {gd : Option (List Code)} {fr : Option (List Env)} {s : Shared} {mean : ExcName → Option Value} {mg mb : Str → Option Value}
  (X : (hd.heap_39 w.params).In s.heap) (T : Top hd.view_39 (looseW hd.view_39 [Str.ofString "_twin_re_1"]) mean mg mb s.heap)
  (hdp : dp + 5 < recursionLimit) (hun : un + 300 < cLine) {b : Array UInt8} {tb : Tok} (hz : b.size ≤ 1000) {R : Result → Shared → Prop}
  (hR : ∀ t h' tk, (∀ b o, s.heap.get? b = some o → h'.get? b = some o) → R (.ok (.ret (.bytes (quoteB b) t))) { s with heap := h', toks := tk }) :
  codeAny (model Challenge.rw_zn0005_01.row.prog w) (AA dp un gd fr) (.call (.ref 43) ⟨[.bytes b tb], []⟩) R s := by
  obtain ⟨op, p1, p2, p3, oc, fs, its, n, p4, p5, p6, p7, p8, p9, p10⟩ := pat36 w
  have hp := X _ _ p1
  have hT : s.TypeIs (.ref 36) "re.Pattern" := ⟨_, hp, p2⟩
  have P : PatAt s.heap 36 := ⟨op, oc, 35, fs, its, n, hp, p4, X _ _ p5, p6, p7, p8, p9, p10⟩
  revert X; k_fill; intro X
  k_dflt (refine' enterP (binds := [(Str.ofString "bindata", .bytes b tb)]) ?k1 ?k2 ?k6 ?k7 ?k8 ?k9 ?kB ?_ ?c2 ?c3 ?c4 ?kN; (case k1 => k_asm); (case k2 => k_asm); (case k6 => k_is); (case k7 => k_is); (case k8 => (show dp < _; omega)); (case k9 => exact BindsTo.of_eq rfl); (case kB => exact locs rfl); (case kN => decide); (case c2 => exact rfl); (case c3 => exact rfl); (case c4 => exact rfl); k_whole)
  intro L h₁ F N
  (try dsimp only)
  (try k_unmd); k_fold
  ktn_open
  refine getMethod_builtin (T := "re.Pattern") ⟨_, F.keep _ _ hp, p2⟩ plainAttrs_pat slot_sub type_pat_sub (fun a e => ?_) ?_
  · cases e; exact ⟨_, F.keep _ _ hp, p3⟩
  dsimp only
  refine callWith_method1 ?_ rfl rfl
  ktn_open
  refine call_sub ⟨_, F.keep _ _ hp, p2⟩ hz (P.keep F.keep) fun h' tk t' hk => ?_
  exact hR _ _ _ fun b o e => hk _ _ (F.keep b o e)
end Mine
namespace Mine

theorem compTurn2_0 (elt target iter target2 iter2 : Expr) (scope : Scope) (pos : Pos) (it acc : Value) (env : Env) :
    compTurn (.ListComp elt [⟨target, iter, [], 0⟩, ⟨target2, iter2, [], 0⟩] scope pos) 0 it acc env = (standAt iter.pos >>= fun _ => pyNext it >>= fun r => match r with
      | none => pure (.done .next)
      | some v => letOwnedTupleGo target it v >>= fun _ => assign target env v >>= fun _ =>
        eval iter2 env >>= fun x => standAt iter2.pos >>= fun _ => foldedSetIterable iter2 env x >>= fun x => holding [x] (pyIter x) >>= fun j =>
          runOwn (.compStart (.ListComp elt [⟨target, iter, [], 0⟩, ⟨target2, iter2, [], 0⟩] scope pos) 1 j acc env) env >>= fun _ =>
          again (.compLoop (.ListComp elt [⟨target, iter, [], 0⟩, ⟨target2, iter2, [], 0⟩] scope pos) 0 it acc env)) := by rfl
theorem compTurn2_1 (elt target iter target2 iter2 : Expr) (scope : Scope) (pos : Pos) (it acc : Value) (env : Env) :
    compTurn (.ListComp elt [⟨target, iter, [], 0⟩, ⟨target2, iter2, [], 0⟩] scope pos) 1 it acc env = (standAt iter2.pos >>= fun _ => pyNext it >>= fun r => match r with
      | none => pure (.done .next)
      | some v => letOwnedTupleGo target2 it v >>= fun _ => assign target2 env v >>= fun _ =>
        (eval elt env >>= fun x => call (.builtin "list.append") [acc, x] >>= fun _ => pure ()) >>= fun _ =>
          again (.compLoop (.ListComp elt [⟨target, iter, [], 0⟩, ⟨target2, iter2, [], 0⟩] scope pos) 1 it acc env)) := by rfl

/-- what holds between the turns of a two-clause comprehension -/
structure C2 (h₀ : Heap) (L : Addr) (m : Str → Option Value) (news : List (Addr × Obj)) (C D : Addr) (h : Heap) (ys : List Value) (mc : Str → Option Value) : Prop where
  fr : Fr h₀ L h m
  nw : News h₀ L h news
  d : h.get? D = some (LCg.lst ys)
  c : h.Ns C mc

/-- the places of a two-clause comprehension lie apart -/
structure C2Off (h₀ : Heap) (L : Addr) (news : List (Addr × Obj)) (C D : Addr) : Prop where
  cd : C ≠ D
  cl : C ≠ L
  dl : D ≠ L
  c0 : h₀.get? C = none
  d0 : h₀.get? D = none
  cn : ∀ p ∈ news, p.1 ≠ C
  dn : ∀ p ∈ news, p.1 ≠ D

structure C2New (h₀ : Heap) (L : Addr) (news : List (Addr × Obj)) (C D I : Addr) : Prop where
  ic : I ≠ C
  id : I ≠ D
  il : I ≠ L
  i0 : h₀.get? I = none
  iN : ∀ p ∈ news, p.1 ≠ I

section
variable {h₀ h h' : Heap} {L C D I : Addr} {m mc mc' : Str → Option Value} {news : List (Addr × Obj)} {ys ys' : List Value}
theorem C2.keep (x : C2 h₀ L m news C D h ys mc) (k : ∀ b o, h.get? b = some o → h'.get? b = some o) : C2 h₀ L m news C D h' ys mc :=
  ⟨x.fr.keeps k, x.nw.grown k, k _ _ x.d, x.c.at' fun o e => k _ o e⟩
theorem C2.but (x : C2 h₀ L m news C D h ys mc) (o : C2New h₀ L news C D I) (k : ∀ b o, b ∉ [I] → h.get? b = some o → h'.get? b = some o) : C2 h₀ L m news C D h' ys mc :=
  ⟨LCg.fr_but x.fr k (Ne.symm o.il) o.i0, LCg.news_but x.nw k o.iN, k _ _ (by simpa using Ne.symm o.id) x.d, x.c.at' fun q e => k _ q (by simpa using Ne.symm o.ic) e⟩
theorem C2.store (x : C2 h₀ L m news C D h ys mc) (o : C2Off h₀ L news C D) (hn : h'.Ns C mc') (hs : Heap.SameBut C h h') : C2 h₀ L m news C D h' ys mc' :=
  ⟨x.fr.change hs o.cl o.c0, fun p hp => ⟨hs.extBut _ _ (o.cn p hp) (x.nw p hp).1, (x.nw p hp).2⟩, hs.extBut _ _ (Ne.symm o.cd) x.d, hn⟩
theorem C2.append (x : C2 h₀ L m news C D h ys mc) (o : C2Off h₀ L news C D) {y : Value} (hd : h'.get? D = some (LCg.lst (ys ++ [y]))) (hs : Heap.SameBut D h h') : C2 h₀ L m news C D h' (ys ++ [y]) mc :=
  ⟨x.fr.change hs o.dl o.d0, fun p hp => ⟨hs.extBut _ _ (o.dn p hp) (x.nw p hp).1, (x.nw p hp).2⟩, hd, x.c.sameBut hs o.cd⟩
theorem C2New.of (F : C2 h₀ L m news C D h ys mc) (o : C2Off h₀ L news C D) (hI : h.objs.size ≤ I) : C2New h₀ L news C D I := by
  have lt : ∀ b, b < h.objs.size → I ≠ b := fun b hb => Nat.ne_of_gt (Nat.lt_of_lt_of_le hb hI)
  refine ⟨lt _ F.c.lt, lt _ (Heap.lt_size F.d), lt _ F.fr.ns.lt, ?_, fun p hp => Ne.symm (lt _ (Heap.lt_size (F.nw p hp).1))⟩
  cases e : h₀.get? I with
  | none => rfl
  | some x => exact absurd (Heap.lt_size (F.fr.keep _ _ e)) (Nat.not_lt.mpr hI)
end

abbrev LC2 (elt iter iter2 : Expr) (x y : Str) (px py : Pos) (scope : Scope) (pos : Pos) : Expr := .ListComp elt [⟨.Name x px, iter, [], 0⟩, ⟨.Name y py, iter2, [], 0⟩] scope pos

section
variable {prog : Program} {w : World} {A : Around} {E : Value → Shared → Prop} {s : Shared} {h₀ : Heap} {L C D I J : Addr} {m : Str → Option Value} {news : List (Addr × Obj)} {env : Env}
  {elt iter iter2 : Expr} {x y : Str} {px py pos : Pos} {scope : Scope} {cl : List (Str × Addr)} {n1 n2 : Nat} {f : Int → Int → Int}

/-- one element: read with both letters bound -/
def Elt2 (prog : Program) (w : World) (A : Around) (h₀ : Heap) (L : Addr) (m : Str → Option Value) (news : List (Addr × Obj)) (cenv : Env) (elt : Expr) (x y : Str) (n1 n2 : Nat) (f : Int → Int → Int) : Prop :=
  ∀ (s : Shared) (mc : Str → Option Value) (E : Value → Shared → Prop) (i j : Int) (t t' : Tok), Fr h₀ L s.heap m → News h₀ L s.heap news → s.heap.Ns cenv.locals mc → mc x = some (.int i t) → mc y = some (.int j t') → 0 ≤ i → i < n1 → 0 ≤ j → j < n2 →
    wpAny (model prog w) A (eval elt cenv) (fun v s' => (∃ u, v = .int (f i j) u) ∧ Keeps s s') E s
def Src2 (prog : Program) (w : World) (A : Around) (h₀ : Heap) (L : Addr) (m : Str → Option Value) (news : List (Addr × Obj)) (cenv : Env) (iter2 : Expr) (x : Str) (n1 n2 : Nat) : Prop :=
  ∀ (s : Shared) (mc : Str → Option Value) (E : Value → Shared → Prop) (i : Int) (t : Tok), Fr h₀ L s.heap m → News h₀ L s.heap news → s.heap.Ns cenv.locals mc → mc x = some (.int i t) → 0 ≤ i → i < n1 →
    wpAny (model prog w) A (eval iter2 cenv) (fun v s' => (∃ r b t u w, v = .ref r ∧ IsRange s'.heap r 0 b 1 t u w ∧ Builtin.Range.small 0 b 1 = true ∧ Builtin.Range.rangeSize 0 b 1 = (n2 : Int)) ∧ Keeps s s') E s

theorem ints_snoc {ys : List Value} {ns : List Int} {k : Int} {t : Tok} (h : IntsAre ys ns) : IntsAre (ys ++ [.int k t]) (ns ++ [k]) := h.append (.cons k t .nil)

theorem inner2 (hh : A.handled = none) (o : C2Off h₀ L news C D) (oJ : C2New h₀ L news C D J) (hCx : (compEnvC scope cl C env).kindOf y = some .local) (hxy : x ≠ y)
    (hp : ((compEnvC scope cl C env).scope.kind == .class || ((compEnvC scope cl C env).scope.kind == .module && (compEnvC scope cl C env).locals != (compEnvC scope cl C env).globals)) = false)
    (helt : Elt2 prog w A h₀ L m news (compEnvC scope cl C env) elt x y n1 n2 f) {ys : List Value} {ns : List Int} {mc : Str → Option Value} {i : Int} {t : Tok} (hi0 : 0 ≤ i) (hi1 : i < n1) (hx : mc x = some (.int i t))
    (X : C2 h₀ L m news C D s.heap ys mc) (hys : IntsAre ys ns) (hJ : IsRangeIter s.heap J 0 (n2 : Int) 1) (hcap : ns.length + n2 ≤ 100000) {R : Result → Shared → Prop}
    (hR : ∀ h' tk ys' mc', C2 h₀ L m news C D h' ys' mc' → IntsAre ys' (ns ++ (List.range n2).map fun (j : Nat) => f i j) → (∀ I oI, I ≠ J → I ≠ C → I ≠ D → s.heap.get? I = some oI → h'.get? I = some oI) → R (.ok .next) { s with heap := h', toks := tk }) :
    codeAny (model prog w) A (.compLoop (LC2 elt iter iter2 x y px py scope pos) 1 (.ref J) (.ref D) (compEnvC scope cl C env)) R s := by
  have W := LCg.range_walks (prog := prog) (w := w) (A := A) (I := J) hh 0 n2
  refine codeAny_loop rfl (fun k s' => ∃ h' tk j ys' mc', s' = { s with heap := h', toks := tk } ∧ j ≤ n2 ∧ k = n2 + 1 - j ∧ C2 h₀ L m news C D h' ys' mc' ∧ IntsAre ys' (ns ++ (List.range j).map fun (j : Nat) => f i j) ∧ mc' x = some (.int i t) ∧
    IsRangeIter h' J (0 + (j : Nat) * 1) ((n2 : Int) - (j : Nat)) 1 ∧ (∀ I oI, I ≠ J → I ≠ C → I ≠ D → s.heap.get? I = some oI → h'.get? I = some oI)) ?_ (n2 + 1)
    ⟨s.heap, s.toks, 0, ys, mc, rfl, Nat.zero_le _, rfl, X, by simpa using hys, hx, by simpa using hJ, fun _ _ _ _ _ e => e⟩
  rintro k s' ⟨h', tk, j, ys', mc', rfl, hj, rfl, X', hys', hx', hst', hoth⟩
  show wpAny _ _ ((compTurn (LC2 elt iter iter2 x y px py scope pos) 1 (.ref J) (.ref D) (compEnvC scope cl C env)).onRaise (fun x => do noteFrame x (compEnvC scope cl C env); theTreesLotGoes x)) _ _ _
  refine wpAny_noted ?_
  rw [compTurn2_1]
  refine wpAny_bind (wpAny_standAt (wpAny_bind ?_))
  by_cases hlt : j < n2
  · refine W.item j _ _ _ hlt hst' fun v h₂ tk₂ hPv hst₂ hk₂ => ?_
    obtain ⟨tj, rfl⟩ := hPv
    have X₂ := X'.but oJ hk₂
    refine wpAny_bind (wpAny_of_eq (show letOwnedTupleGo (.Name y py) (.ref J) (.int (0 + (j : Int)) tj) = pure () from rfl) ?_)
    refine wpAny_bind (wpAny_assign_Name (wpAny_storeName_local hCx X₂.c (fun h₃ hn₃ hs₃ => ?_) hp))
    have X₃ := X₂.store o hn₃ hs₃
    have hst₃ := W.frame _ _ h₃ hst₂ fun b hb ob e => hs₃.extBut b ob (fun q => oJ.ic (by rw [← List.mem_singleton.mp hb]; exact q)) e
    refine wpAny_bind (wpAny_bind (wpAny_mono (helt _ _ _ i (0 + (j : Int)) t tj X₃.fr X₃.nw X₃.c (by rw [if_neg hxy]; exact hx') (by rw [if_pos rfl]) hi0 hi1 (by omega) (by omega)) (fun v s₄ h₄ => ?_) fun _ _ e => e))
    obtain ⟨⟨u, rfl⟩, h₄, tk₄, rfl, k₄⟩ := h₄
    have X₄ := X₃.keep k₄
    have hst₄ := W.frame _ _ h₄ hst₃ fun b _ ob e => k₄ b ob e
    have hlen := hys'.length
    rw [List.length_append, List.length_map, List.length_range] at hlen
    refine wpAny_bind (append_at X₄.d (fun h₅ hs₅ hD₅ => ?_) (by rw [List.size_toArray, sizeLine_eq]; omega))
    refine wpAny_pure (wpAny_pure ⟨rfl, n2 + 1 - (j + 1), by omega, h₅, _, j + 1, _, _, rfl, hlt, rfl, X₄.append o (hD₅.trans (congrArg some (LCg.lst_snoc ys' _))) hs₅, ?_, by rw [if_neg hxy]; exact hx', ?_, fun I oI h1 h2 h3 e => ?_⟩)
    · have := ints_snoc (k := f i (0 + (j : Int))) (t := u) hys'
      rw [List.range_succ, List.map_append, ← List.append_assoc]
      simpa using this
    · exact W.frame _ _ h₅ hst₄ fun b hb ob e => hs₅.extBut b ob (fun q => oJ.id (by rw [← List.mem_singleton.mp hb]; exact q)) e
    · exact hs₅.extBut _ _ h3 (k₄ _ _ (hs₃.extBut _ _ h2 (hk₂ _ _ (by simpa using h1) (hoth I oI h1 h2 h3 e))))
  · obtain rfl : j = n2 := Nat.le_antisymm hj (Nat.not_lt.mp hlt)
    refine W.done _ _ _ hst' fun h₂ tk₂ hk₂ => ?_
    exact wpAny_pure (hR _ _ _ _ (X'.but oJ hk₂) hys' fun I oI h1 h2 h3 e => hk₂ _ _ (by simpa using h1) (hoth I oI h1 h2 h3 e))

theorem compStart2_1 {R : Result → Shared → Prop} {it acc : Value} {cenv : Env}
    (h0 : codeAny (model prog w) A (.compLoop (LC2 elt iter iter2 x y px py scope pos) 1 it acc cenv) R s)
    (h : wpAny (model prog w) A (pyIter it) (fun it' s' => codeAny (model prog w) A (.compLoop (LC2 elt iter iter2 x y px py scope pos) 1 it' acc cenv) R s')
      (notedBy (model prog w) A cenv fun x s' => R (.error x) s') s) :
    codeAny (model prog w) A (.compStart (LC2 elt iter iter2 x y px py scope pos) 1 it acc cenv) R s := by
  refine codeAny_of_tree ?_
  show wpAny _ _ ((compStart (LC2 elt iter iter2 x y px py scope pos) 1 it acc cenv).onRaise (fun x => do noteFrame x cenv; standAt theWindowsPlace)) _ _ s
  refine wpAny_notedAt ?_
  unfold compStart
  show wpAny _ _ (ask >>= _) _ _ s
  refine wpAny_bind (wpAny_askSetting (wpAny_ite ?_))
  split
  · first
      | exact wpAny_bind (wpAny_pure (wpAny_pure (And.intro rfl h0)))
      | exact wpAny_pure (And.intro rfl h0)
  · first
      | exact wpAny_bind (wpAny_rule (wpAny_bind (wpAny_standAt (wpAny_bind (wpAny_mono h (fun it' s' h' => wpAny_pure (And.intro rfl h')) fun _ _ x => x)))))
      | (refine wpAny_bind (wpAny_rule ?_); show wpAny _ _ (standAt iter2.pos >>= _) _ _ s; exact wpAny_bind (wpAny_standAt (wpAny_bind (wpAny_mono h (fun it' s' h' => wpAny_pure (And.intro rfl h')) fun _ _ x => x))))

def Out2 (h₀ : Heap) (L : Addr) (m : Str → Option Value) (news : List (Addr × Obj)) (C D I : Addr) (s : Shared) (n1 n2 : Nat) (f : Int → Int → Int) (k : Nat) (s' : Shared) : Prop :=
  ∃ h' tk i ys' mc', s' = { s with heap := h', toks := tk } ∧ i ≤ n1 ∧ k = n1 + 1 - i ∧ C2 h₀ L m news C D h' ys' mc' ∧ IntsAre ys' ((List.range i).flatMap fun (i : Nat) => (List.range n2).map fun (j : Nat) => f i j) ∧
    IsRangeIter h' I (0 + (i : Nat) * 1) ((n1 : Int) - (i : Nat)) 1

theorem outer2 (hh : A.handled = none) (o : C2Off h₀ L news C D) (oI : C2New h₀ L news C D I) (hCx : (compEnvC scope cl C env).kindOf x = some .local) (hCy : (compEnvC scope cl C env).kindOf y = some .local) (hxy : x ≠ y)
    (hp : ((compEnvC scope cl C env).scope.kind == .class || ((compEnvC scope cl C env).scope.kind == .module && (compEnvC scope cl C env).locals != (compEnvC scope cl C env).globals)) = false)
    (hs : ∀ x, foldedSetIterable iter2 (compEnvC scope cl C env) x = pure x)
    (hsrc : Src2 prog w A h₀ L m news (compEnvC scope cl C env) iter2 x n1 n2)
    (helt : Elt2 prog w A h₀ L m news (compEnvC scope cl C env) elt x y n1 n2 f) {mc : Str → Option Value}
    (X : C2 h₀ L m news C D s.heap [] mc) (hI : IsRangeIter s.heap I 0 (n1 : Int) 1) (hcap : n1 * n2 ≤ 10000) {R : Result → Shared → Prop}
    (hR : ∀ h' tk ys' mc', C2 h₀ L m news C D h' ys' mc' → IntsAre ys' ((List.range n1).flatMap fun (i : Nat) => (List.range n2).map fun (j : Nat) => f i j) → R (.ok .next) { s with heap := h', toks := tk }) :
    codeAny (model prog w) A (.compLoop (LC2 elt iter iter2 x y px py scope pos) 0 (.ref I) (.ref D) (compEnvC scope cl C env)) R s := by
  have W := LCg.range_walks (prog := prog) (w := w) (A := A) (I := I) hh 0 n1
  have flen : ∀ i : Nat, ((List.range i).flatMap fun (i : Nat) => (List.range n2).map fun (j : Nat) => f i j).length = i * n2 := by
    intro i
    induction i with
    | zero => simp
    | succ i ih => rw [List.range_succ, List.flatMap_append, List.length_append, ih]; simp [Nat.succ_mul]
  refine codeAny_loop rfl (Out2 h₀ L m news C D I s n1 n2 f) ?_ (n1 + 1)
    ⟨s.heap, s.toks, 0, [], mc, rfl, Nat.zero_le _, rfl, X, .nil, by simpa using hI⟩
  rintro k s' ⟨h', tk, i, ys', mc', rfl, hi, rfl, X', hys', hst'⟩
  show wpAny _ _ ((compTurn (LC2 elt iter iter2 x y px py scope pos) 0 (.ref I) (.ref D) (compEnvC scope cl C env)).onRaise (fun x => do noteFrame x (compEnvC scope cl C env); theTreesLotGoes x)) _ _ _
  refine wpAny_noted ?_
  rw [compTurn2_0]
  refine wpAny_bind (wpAny_standAt (wpAny_bind ?_))
  by_cases hlt : i < n1
  · refine W.item i _ _ _ hlt hst' fun v h₂ tk₂ hPv hst₂ hk₂ => ?_
    obtain ⟨ti, rfl⟩ := hPv
    have X₂ := X'.but oI hk₂
    refine wpAny_bind (wpAny_of_eq (show letOwnedTupleGo (.Name x px) (.ref I) (.int (0 + (i : Int)) ti) = pure () from rfl) ?_)
    refine wpAny_bind (wpAny_assign_Name (wpAny_storeName_local hCx X₂.c (fun h₃ hn₃ hs₃ => ?_) hp))
    have X₃ := X₂.store o hn₃ hs₃
    have hst₃ := W.frame _ _ h₃ hst₂ fun b hb ob e => hs₃.extBut b ob (fun q => oI.ic (by rw [← List.mem_singleton.mp hb]; exact q)) e
    refine wpAny_bind (wpAny_mono (hsrc _ _ _ (0 + (i : Int)) ti X₃.fr X₃.nw X₃.c (by rw [if_pos rfl]) (by omega) (by omega)) (fun v s₄ h₄ => ?_) fun _ _ e => e)
    obtain ⟨⟨r, b₀, t, u, q, rfl, hr, hsm, hsz⟩, h₄, tk₄, rfl, k₄⟩ := h₄
    have X₄ := X₃.keep k₄
    have hst₄ := W.frame _ _ h₄ hst₃ fun b _ ob e => k₄ b ob e
    refine wpAny_bind (wpAny_standAt (wpAny_bind (wpAny_of_eq (hs _) (wpAny_bind (wpAny_holding (wpAny_pyIter_range hr hsm ?_))))))
    have k₅ : ∀ b ob, h₄.get? b = some ob → (h₄.push { cls := .type "range_iterator", data := .fields #[rawInt 0, rawInt (Builtin.Range.rangeSize 0 b₀ 1), rawInt 1] }).get? b = some ob := fun b ob e => Heap.get?_push_of_some _ e
    have X₅ := X₄.keep k₅
    have hst₅ := W.frame _ _ _ hst₄ fun b _ ob e => k₅ b ob e
    have oJ := C2New.of X₄ o (Nat.le_refl _)
    have hlen := hys'.length
    rw [flen] at hlen
    have hin : i * n2 + n2 ≤ n1 * n2 := by rw [← Nat.succ_mul]; exact Nat.mul_le_mul_right _ hlt
    have hIJ : I ≠ h₄.objs.size := Nat.ne_of_lt (Heap.lt_size (show h₄.get? I = some _ from hst₄))
    have loop : ∀ s₅ : Shared, s₅ = { s with heap := h₄.push { cls := .type "range_iterator", data := .fields #[rawInt 0, rawInt (Builtin.Range.rangeSize 0 b₀ 1), rawInt 1] }, toks := tk₄ } →
        codeAny (model prog w) A (.compLoop (LC2 elt iter iter2 x y px py scope pos) 1 (.ref h₄.objs.size) (.ref D) (compEnvC scope cl C env)) (fun r s' => match r with | .ok _ => (∃ k, k < n1 + 1 - i ∧ Out2 h₀ L m news C D I s n1 n2 f k s') | .error e => cameBackBy (model prog w) A (compEnvC scope cl C env) (notedBy (model prog w) A (compEnvC scope cl C env) fun e s' => R (.error e) s') e s') s₅ := by
      rintro s₅ rfl
      refine inner2 hh o oJ hCy hxy hp helt (i := 0 + (i : Int)) (by omega) (by omega) (by rw [if_pos rfl]) X₅ hys' (by show IsRangeIter _ _ _ _ _; rw [← hsz]; exact Heap.get?_push_size _ rfl) (by rw [flen]; omega) fun h₆ tk₆ ys₆ mc₆ X₆ hys₆ hoth => ?_
      refine ⟨n1 + 1 - (i + 1), by omega, h₆, tk₆, i + 1, ys₆, mc₆, rfl, hlt, rfl, X₆, ?_, ?_⟩
      · rw [List.range_succ, List.flatMap_append]
        simpa using hys₆
      · exact hoth I _ hIJ oI.ic oI.id (show _ = some _ from hst₅)
    have start := compStart2_1 (loop _ rfl) (wpAny_pyIter_rangeiter (show IsRangeIter _ _ _ _ _ from Heap.get?_push_size _ rfl) (loop _ rfl))
    refine wpAny_bind (wpAny_runOwn (codeAny_mono start fun r s' h => ?_))
    cases r with
    | ok fl =>
      obtain ⟨k, hk, ho⟩ := h
      exact wpAny_pure ⟨rfl, k, hk, ho⟩
    | error e => exact h
  · obtain rfl : i = n1 := Nat.le_antisymm hi (Nat.not_lt.mp hlt)
    refine W.done _ _ _ hst' fun h₂ tk₂ hk₂ => ?_
    exact wpAny_pure (hR _ _ _ _ (X'.but oI hk₂) hys')

def It2 (prog : Program) (w : World) (A : Around) (h₀ : Heap) (L : Addr) (m : Str → Option Value) (news : List (Addr × Obj)) (env : Env) (elt iter2 : Expr) (x y : Str) (scope : Scope) (cl : List (Str × Addr)) (n1 n2 : Nat) (f : Int → Int → Int) (Q : Value → Shared → Prop) (xv : Value) (s₁ : Shared) : Prop :=
  ∃ r b t u v, xv = .ref r ∧ Fr h₀ L s₁.heap m ∧ News h₀ L s₁.heap news ∧ IsRange s₁.heap r 0 b 1 t u v ∧ Builtin.Range.small 0 b 1 = true ∧ Builtin.Range.rangeSize 0 b 1 = (n1 : Int) ∧
      (∀ C, Src2 prog w A h₀ L m news (compEnvC scope cl C env) iter2 x n1 n2) ∧ (∀ C, Elt2 prog w A h₀ L m news (compEnvC scope cl C env) elt x y n1 n2 f) ∧
      ∀ D ys h tk, Fr h₀ L h m → News h₀ L h ((D, LCg.lst ys) :: news) → (∀ p ∈ news, p.1 ≠ D) → IntsAre ys ((List.range n1).flatMap fun (i : Nat) => (List.range n2).map fun (j : Nat) => f i j) → Q (.ref D) { s₁ with heap := h, toks := tk }
theorem listComp2 {Q : Value → Shared → Prop} (_F₀ : Fr h₀ L s.heap m) (_N₀ : News h₀ L s.heap news) (hh : A.handled = none) (hclos : closureFor scope env = pure cl) (hcell : ∀ z ∈ scope.names, z.2 ≠ .cell) (hkind : scope.kind = .function)
    (hnames : ∀ z ∈ scope.names, z.2 = .local → scope.names.lookup z.1 = some .local) (hx : scope.names.lookup x = some .local) (hy : scope.names.lookup y = some .local) (hxy : x ≠ y)
    (hs2 : ∀ C x, foldedSetIterable iter2 (compEnvC scope cl C env) x = pure x) (hcap : n1 * n2 ≤ 10000)
    (h : wpAny (model prog w) A (eval iter env) (It2 prog w A h₀ L m news env elt iter2 x y scope cl n1 n2 f Q) E s)
    (hs : ∀ x, foldedSetIterable iter env x = pure x := by intro _; rfl) :
    wpAny (model prog w) A (eval (LC2 elt iter iter2 x y px py scope pos) env) Q E s := by
  rw [eval_ListComp]
  refine wpAny_comprehension_free (use := none) rfl hs hclos hkind hnames (wpAny_mono h (fun xv s₁ h₁ => ?_) fun _ _ e => e)
  obtain ⟨r, b₀, t, u, v, rfl, F, N, hr, hsm, hsz, hsrc, helt, hQ⟩ := h₁
  refine wpAny_pyIter_range hr hsm ?_
  have k₂ : ∀ b ob, s₁.heap.get? b = some ob → (s₁.heap.push { cls := .type "range_iterator", data := .fields #[rawInt 0, rawInt (Builtin.Range.rangeSize 0 b₀ 1), rawInt 1] }).get? b = some ob := fun b ob e => Heap.get?_push_of_some _ e
  have hI₂ : IsRangeIter (s₁.heap.push { cls := .type "range_iterator", data := .fields #[rawInt 0, rawInt (Builtin.Range.rangeSize 0 b₀ 1), rawInt 1] }) s₁.heap.objs.size 0 (n1 : Int) 1 := by
    show Heap.get? _ _ = some _; rw [hsz]; exact Heap.get?_push_size _ rfl
  generalize hH : s₁.heap.push { cls := .type "range_iterator", data := .fields #[rawInt 0, rawInt (Builtin.Range.rangeSize 0 b₀ 1), rawInt 1] } = H at k₂ hI₂ ⊢
  have hHs : H.objs.size = s₁.heap.objs.size + 1 := by rw [← hH, Heap.size_push]
  refine wpAny_newObj_type (wpAny_newFunctionEnv hcell (by intro y hy; simp at hy) (fun h₃ hns₃ hsb₃ => ?_) hkind)
  dsimp only at hns₃ hsb₃ ⊢
  have kD : ∀ b ob, H.get? b = some ob → (H.push { cls := .type "list", dict := none, data := .seq ([] : List Value).toArray }).get? b = some ob := fun b ob e => Heap.get?_push_of_some _ e
  have hDg : (H.push { cls := .type "list", dict := none, data := .seq ([] : List Value).toArray }).get? H.objs.size = some (LCg.lst []) := Heap.get?_push_size _ rfl
  generalize hH2 : H.push { cls := .type "list", dict := none, data := .seq ([] : List Value).toArray } = H2 at hns₃ hsb₃ kD hDg ⊢
  have hC : H2.objs.size = H.objs.size + 1 := by rw [← hH2, Heap.size_push]
  have lt1 : ∀ b ob, s₁.heap.get? b = some ob → b < s₁.heap.objs.size := fun b ob e => Heap.lt_size e
  have k₃ : ∀ b ob, H2.get? b = some ob → h₃.get? b = some ob := fun b ob e => hsb₃.extBut b ob (Nat.ne_of_lt (Heap.lt_size e)) (Heap.get?_push_of_some _ e)
  have k₁₃ : ∀ b ob, s₁.heap.get? b = some ob → h₃.get? b = some ob := fun b ob e => k₃ _ _ (kD _ _ (k₂ _ _ e))
  have fresh₀ : ∀ a, s₁.heap.objs.size ≤ a → h₀.get? a = none := fun a ha => by
    cases e : h₀.get? a with
    | none => rfl
    | some o' => exact absurd (Heap.lt_size (F.keep a o' e)) (Nat.not_lt.mpr ha)
  have ltL : @LT.lt Nat _ L s₁.heap.objs.size := F.ns.lt
  have ltN : ∀ p ∈ news, @LT.lt Nat _ p.1 s₁.heap.objs.size := fun p hp => Heap.lt_size (N p hp).1
  have o : C2Off h₀ L news H2.objs.size H.objs.size := ⟨by rw [hC]; exact Nat.succ_ne_self _, by rw [hC, hHs]; exact neN (by omega), by rw [hHs]; exact neN (by omega), fresh₀ _ (by rw [hC, hHs]; omega), fresh₀ _ (by rw [hHs]; omega),
    fun p hp => by have := ltN p hp; rw [hC, hHs]; exact neN (by omega), fun p hp => by have := ltN p hp; rw [hHs]; exact neN (by omega)⟩
  have oI : C2New h₀ L news H2.objs.size H.objs.size s₁.heap.objs.size := ⟨by rw [hC, hHs]; exact neN (by omega), by rw [hHs]; exact neN (by omega), Nat.ne_of_gt ltL, fresh₀ _ (Nat.le_refl _), fun p hp => Nat.ne_of_lt (ltN p hp)⟩
  have X : C2 h₀ L m news H2.objs.size H.objs.size h₃ [] _ := ⟨F.keeps k₁₃, N.grown k₁₃, k₃ _ _ hDg, hns₃⟩
  have hp : ((compEnvC scope cl H2.objs.size env).scope.kind == .class || ((compEnvC scope cl H2.objs.size env).scope.kind == .module && (compEnvC scope cl H2.objs.size env).locals != (compEnvC scope cl H2.objs.size env).globals)) = false := by
    simp [compEnvC, relabel, hkind]
  have loop : ∀ s₃ : Shared, s₃ = { s₁ with heap := h₃, toks := s₁.toks + ([] : List (Str × Value)).length } →
      codeAny (model prog w) A (.compLoop (LC2 elt iter iter2 x y px py scope pos) 0 (.ref s₁.heap.objs.size) (.ref H.objs.size) (compEnvC scope cl H2.objs.size env))
        (compPost (model prog w) A E none Q (.ref H.objs.size) H2.objs.size) s₃ := by
    rintro s₃ rfl
    refine outer2 hh o oI (lookup_relabel_local hx) (lookup_relabel_local hy) hxy hp (hs2 _) (hsrc _) (helt _) X (show IsRangeIter _ _ _ _ _ from k₃ _ _ (kD _ _ hI₂)) hcap fun h' tk ys' mc' X' hys' => ?_
    refine ⟨mc', X'.c, fun h'' hs'' => hQ _ ys' h'' tk (X'.fr.change hs'' o.cl o.c0) (fun p hp => ?_) o.dn hys'⟩
    rcases List.mem_cons.mp hp with rfl | hp
    · exact ⟨hs''.extBut _ _ (Ne.symm o.cd) X'.d, o.dl, o.d0⟩
    · exact ⟨hs''.extBut _ _ (o.cn p hp) (X'.nw p hp).1, (X'.nw p hp).2⟩
  exact codeAny_compStart_list (loop _ rfl) (wpAny_pyIter_rangeiter (show IsRangeIter _ _ _ _ _ from k₃ _ _ (kD _ _ hI₂)) (loop _ rfl))
end
end Mine
namespace Mine
set_option maxRecDepth 100000
abbrev LC1 (elt iter : Expr) (x : Str) (px : Pos) (scope : Scope) (pos : Pos) : Expr := .ListComp elt [⟨.Name x px, iter, [], 0⟩] scope pos
def AllAt (V : Nat → Value → Prop) (n : Nat) (ys : List Value) : Prop := ys.length = n ∧ ∀ i v, ys[i]? = some v → V i v
theorem AllAt.nil {V : Nat → Value → Prop} : AllAt V 0 [] := ⟨rfl, fun _ _ h => by simp at h⟩
theorem AllAt.snoc {V : Nat → Value → Prop} {n : Nat} {ys : List Value} {v : Value} (h : AllAt V n ys) (hv : V n v) : AllAt V (n + 1) (ys ++ [v]) := by
  refine ⟨by simp [h.1], fun i u hu => ?_⟩
  rw [List.getElem?_append] at hu
  split at hu
  · exact h.2 i u hu
  · rename_i hlt
    have : i < (ys ++ [v]).length := by
      rw [List.length_append, List.length_singleton]
      have : i - ys.length < 1 := by
        have := (List.getElem?_eq_some_iff.mp hu).1
        simpa using this
      omega
    have hin : i = n := by rw [List.length_append, List.length_singleton, h.1] at this; rw [h.1] at hlt; omega
    subst hin
    rw [h.1] at hu
    simp at hu
    exact hu ▸ hv
section
variable {prog : Program} {w : World} {A : Around} {E : Value → Shared → Prop} {s : Shared} {h₀ : Heap} {L C D I : Addr} {m : Str → Option Value} {news : List (Addr × Obj)} {env : Env}
  {elt iter : Expr} {x : Str} {px pos : Pos} {scope : Scope} {cl : List (Str × Addr)} {n : Nat} {P V : Nat → Value → Prop} {St : Nat → Heap → Prop} {fp : List Addr}
def EltEnd (h₀ : Heap) (L : Addr) (m : Str → Option Value) (nw : List (Addr × Obj)) (V : Nat → Value → Prop) (i : Nat) (s : Shared) (u : Value) (s' : Shared) : Prop :=
  V i u ∧ ∃ h' tk, s' = { s with heap := h', toks := tk } ∧ Fr h₀ L h' m ∧ News h₀ L h' nw
def Elt1 (prog : Program) (w : World) (A : Around) (h₀ : Heap) (L : Addr) (m : Str → Option Value) (news : List (Addr × Obj)) (cenv : Env) (elt : Expr) (x : Str) (n : Nat) (P V : Nat → Value → Prop) : Prop :=
  ∀ (s : Shared) (mc : Str → Option Value) (own : List (Addr × Obj)) (E : Value → Shared → Prop) (i : Nat) (v : Value), Fr h₀ L s.heap m → News h₀ L s.heap (news ++ own) → s.heap.Ns cenv.locals mc → mc x = some v → i < n → P i v →
    wpAny (model prog w) A (eval elt cenv) (EltEnd h₀ L m (news ++ own) V i s) E s

theorem loop1 (W : Walks prog w A I fp [I] n P St) (o : C2Off h₀ L news C D) (oI : C2New h₀ L news C D I) (hfC : C ∉ fp) (hfD : D ∉ fp) (hfN : ∀ b ∈ fp, b ≠ I → ∃ o, (b, o) ∈ news) (hSt : ∀ i h, St i h → ∃ o, h.get? I = some o) (hCx : (compEnvC scope cl C env).kindOf x = some .local)
    (hp : ((compEnvC scope cl C env).scope.kind == .class || ((compEnvC scope cl C env).scope.kind == .module && (compEnvC scope cl C env).locals != (compEnvC scope cl C env).globals)) = false)
    (helt : Elt1 prog w A h₀ L m news (compEnvC scope cl C env) elt x n P V) {mc : Str → Option Value}
    (X : C2 h₀ L m news C D s.heap [] mc) (hI : St 0 s.heap) (hcap : n ≤ 10000) {R : Result → Shared → Prop}
    (hR : ∀ h' tk ys' mc', C2 h₀ L m news C D h' ys' mc' → AllAt V n ys' → R (.ok .next) { s with heap := h', toks := tk }) :
    codeAny (model prog w) A (.compLoop (LC1 elt iter x px scope pos) 0 (.ref I) (.ref D) (compEnvC scope cl C env)) R s := by
  refine codeAny_loop rfl (fun k s' => ∃ h' tk i ys' mc', s' = { s with heap := h', toks := tk } ∧ i ≤ n ∧ k = n + 1 - i ∧ C2 h₀ L m news C D h' ys' mc' ∧ AllAt V i ys' ∧ St i h') ?_ (n + 1)
    ⟨s.heap, s.toks, 0, [], mc, rfl, Nat.zero_le _, rfl, X, .nil, hI⟩
  rintro k s' ⟨h', tk, i, ys', mc', rfl, hi, rfl, X', hys', hst'⟩
  show wpAny _ _ ((compTurn (LC1 elt iter x px scope pos) 0 (.ref I) (.ref D) (compEnvC scope cl C env)).onRaise (fun x => do noteFrame x (compEnvC scope cl C env); theTreesLotGoes x)) _ _ _
  refine wpAny_noted ?_
  rw [PySem.compTurn_list1]
  refine wpAny_bind (wpAny_standAt (wpAny_bind ?_))
  by_cases hlt : i < n
  · refine W.item i _ _ _ hlt hst' fun v h₂ tk₂ hPv hst₂ hk₂ => ?_
    have X₂ := X'.but oI hk₂
    refine wpAny_bind (wpAny_of_eq (show letOwnedTupleGo (.Name x px) (.ref I) v = pure () from rfl) ?_)
    refine wpAny_bind (wpAny_assign_Name (wpAny_storeName_local hCx X₂.c (fun h₃ hn₃ hs₃ => ?_) hp))
    have X₃ := X₂.store o hn₃ hs₃
    have hst₃ := W.frame _ _ h₃ hst₂ fun b hb ob e => hs₃.extBut b ob (fun q => hfC (show C ∈ fp by have q : b = C := q; exact q ▸ hb)) e
    obtain ⟨oJ, hoJ⟩ := hSt _ _ hst₃
    obtain ⟨oC, hoC⟩ : ∃ oC, h₃.get? C = some oC := by obtain ⟨oC, _, _, hL, _⟩ := X₃.c; exact ⟨oC, hL⟩
    have N₃ : News h₀ L h₃ (news ++ [(C, oC), (D, LCg.lst ys'), (I, oJ)]) := fun p hp => by
      rcases List.mem_append.mp hp with h | h
      · exact X₃.nw p h
      · simp only [List.mem_cons, List.not_mem_nil, or_false] at h
        rcases h with rfl | rfl | rfl
        · exact ⟨hoC, o.cl, o.c0⟩
        · exact ⟨X₃.d, o.dl, o.d0⟩
        · exact ⟨hoJ, oI.il, oI.i0⟩
    refine wpAny_bind (wpAny_bind (wpAny_mono (helt _ _ _ _ i v X₃.fr N₃ X₃.c (by rw [if_pos rfl]) hlt hPv) (fun v s₄ h₄ => ?_) fun _ _ e => e))
    obtain ⟨hV, h₄, tk₄, rfl, F₄, N₄⟩ := h₄
    have X₄ : C2 h₀ L m news C D h₄ ys' _ := ⟨F₄, fun p hp => N₄ p (List.mem_append_left _ hp), (N₄ _ (List.mem_append_right _ (.tail _ (.head _)))).1, X₃.c.at' fun ob e => by
      rw [hoC] at e; cases e; exact (N₄ _ (List.mem_append_right _ (.head _))).1⟩
    have hst₄ := W.frame _ _ h₄ hst₃ fun b hb ob e => by
      by_cases hbI : b = I
      · subst hbI; rw [hoJ] at e; cases e; exact (N₄ _ (List.mem_append_right _ (.tail _ (.tail _ (.head _))))).1
      · obtain ⟨q, hq⟩ := hfN b hb hbI
        have := (X₃.nw _ hq).1
        rw [e] at this; cases this
        exact (N₄ _ (List.mem_append_left _ hq)).1
    have hlen := hys'.1
    refine wpAny_bind (append_at X₄.d (fun h₅ hs₅ hD₅ => ?_) (by rw [List.size_toArray, sizeLine_eq]; omega))
    refine wpAny_pure (wpAny_pure ⟨rfl, n + 1 - (i + 1), by omega, h₅, _, i + 1, _, _, rfl, hlt, rfl, X₄.append o (hD₅.trans (congrArg some (LCg.lst_snoc ys' _))) hs₅, hys'.snoc hV, ?_⟩)
    exact W.frame _ _ h₅ hst₄ fun b hb ob e => hs₅.extBut b ob (fun q => hfD (by have q : b = D := q; exact q ▸ hb)) e
  · obtain rfl : i = n := Nat.le_antisymm hi (Nat.not_lt.mp hlt)
    refine W.done _ _ _ hst' fun h₂ tk₂ hk₂ => ?_
    exact wpAny_pure (hR _ _ _ _ (X'.but oI hk₂) hys')

def FinL (h₀ : Heap) (L : Addr) (m : Str → Option Value) (news : List (Addr × Obj)) (n : Nat) (V : Nat → Value → Prop) (Q : Value → Shared → Prop) (s₁ : Shared) : Prop :=
  ∀ D ys h tk, Fr h₀ L h m → News h₀ L h ((D, LCg.lst ys) :: news) → (∀ p ∈ news, p.1 ≠ D) → AllAt V n ys → Q (.ref D) { s₁ with heap := h, toks := tk }
def FinB (h₀ : Heap) (L : Addr) (m : Str → Option Value) (news : List (Addr × Obj)) (n : Nat) (V : Nat → Value → Prop) (y : Str) (Q : Flow → Shared → Prop) (s₁ : Shared) : Prop :=
  ∀ D ys h tk, Fr h₀ L h (fun z => if z = y then some (.ref D) else m z) → News h₀ L h ((D, LCg.lst ys) :: news) → (∀ p ∈ news, p.1 ≠ D) → AllAt V n ys → Q .next { s₁ with heap := h, toks := tk }
def It1 (prog : Program) (w : World) (A : Around) (h₀ : Heap) (L : Addr) (m : Str → Option Value) (news : List (Addr × Obj)) (env : Env) (elt : Expr) (x : Str) (scope : Scope) (cl : List (Str × Addr)) (n : Nat) (V : Nat → Value → Prop) (Fin : Shared → Prop) (xv : Value) (s₁ : Shared) : Prop :=
  ∃ fp P St, Fr h₀ L s₁.heap m ∧ News h₀ L s₁.heap news ∧ Walks prog w A s₁.heap.objs.size fp [s₁.heap.objs.size] n P St ∧ (∀ b ∈ fp, b ≤ s₁.heap.objs.size) ∧ (∀ b ∈ fp, b ≠ s₁.heap.objs.size → ∃ o, (b, o) ∈ news) ∧ (∀ i h, St i h → ∃ o, h.get? s₁.heap.objs.size = some o) ∧
    (∀ (Q' : Value → Shared → Prop) (E' : Value → Shared → Prop), (∀ H, (∀ b ob, s₁.heap.get? b = some ob → H.get? b = some ob) → H.objs.size = s₁.heap.objs.size + 1 → St 0 H → Q' (.ref s₁.heap.objs.size) { s₁ with heap := H }) → wpAny (model prog w) A (pyIter xv) Q' E' s₁) ∧
    (∀ C, Elt1 prog w A h₀ L m news (compEnvC scope cl C env) elt x n P V) ∧ n ≤ 10000 ∧ Fin s₁
theorem block1 {H : Heap} {s₁ : Shared} {use : Option (Value → Sem Unit)} {Q : Value → Shared → Prop} (hcell : ∀ z ∈ scope.names, z.2 ≠ .cell) (hkind : scope.kind = .function) (hx : scope.names.lookup x = some .local)
    (F : Fr h₀ L s₁.heap m) (N : News h₀ L s₁.heap news) (W : Walks prog w A s₁.heap.objs.size fp [s₁.heap.objs.size] n P St) (hfp : ∀ b ∈ fp, b ≤ s₁.heap.objs.size) (hfN : ∀ b ∈ fp, b ≠ s₁.heap.objs.size → ∃ o, (b, o) ∈ news) (hSt : ∀ i h, St i h → ∃ o, h.get? s₁.heap.objs.size = some o)
    (helt : ∀ C, Elt1 prog w A h₀ L m news (compEnvC scope cl C env) elt x n P V) (hcap : n ≤ 10000) (k₂ : ∀ b ob, s₁.heap.get? b = some ob → H.get? b = some ob) (hHs : H.objs.size = s₁.heap.objs.size + 1) (hI₂ : St 0 H)
    (fin : ∀ C D h' tk ys' mc', C2Off h₀ L news C D → C2 h₀ L m news C D h' ys' mc' → AllAt V n ys' → compPost (model prog w) A E use Q (.ref D) C (.ok .next) { s₁ with heap := h', toks := tk }) :
    wpAny (model prog w) A (newList []) (fun acc s₃ => wpAny (model prog w) A (newFunctionEnv scope env.globals cl [] env.qual none .none (some env)) (fun cenv s₄ =>
        codeAny (model prog w) A (.compStart (LC1 elt iter x px scope pos) 0 (.ref s₁.heap.objs.size) acc { cenv with scope := relabel scope env }) (compPost (model prog w) A E use Q acc cenv.locals) s₄) E s₃) E { s₁ with heap := H } := by
  refine wpAny_newObj_type (wpAny_newFunctionEnv hcell (by intro y hy; simp at hy) (fun h₃ hns₃ hsb₃ => ?_) hkind)
  dsimp only at hns₃ hsb₃ ⊢
  have kD : ∀ b ob, H.get? b = some ob → (H.push { cls := .type "list", dict := none, data := .seq ([] : List Value).toArray }).get? b = some ob := fun b ob e => Heap.get?_push_of_some _ e
  have hDg : (H.push { cls := .type "list", dict := none, data := .seq ([] : List Value).toArray }).get? H.objs.size = some (LCg.lst []) := Heap.get?_push_size _ rfl
  generalize hH2 : H.push { cls := .type "list", dict := none, data := .seq ([] : List Value).toArray } = H2 at hns₃ hsb₃ kD hDg ⊢
  have hC : H2.objs.size = H.objs.size + 1 := by rw [← hH2, Heap.size_push]
  have k₃ : ∀ b ob, H2.get? b = some ob → h₃.get? b = some ob := fun b ob e => hsb₃.extBut b ob (Nat.ne_of_lt (Heap.lt_size e)) (Heap.get?_push_of_some _ e)
  have k₁₃ : ∀ b ob, s₁.heap.get? b = some ob → h₃.get? b = some ob := fun b ob e => k₃ _ _ (kD _ _ (k₂ _ _ e))
  have fresh₀ : ∀ a, s₁.heap.objs.size ≤ a → h₀.get? a = none := fun a ha => by
    cases e : h₀.get? a with
    | none => rfl
    | some o' => exact absurd (Heap.lt_size (F.keep a o' e)) (Nat.not_lt.mpr ha)
  have ltL : @LT.lt Nat _ L s₁.heap.objs.size := F.ns.lt
  have ltN : ∀ p ∈ news, @LT.lt Nat _ p.1 s₁.heap.objs.size := fun p hp => Heap.lt_size (N p hp).1
  have o : C2Off h₀ L news H2.objs.size H.objs.size := ⟨by rw [hC]; exact Nat.succ_ne_self _, by rw [hC, hHs]; exact neN (by omega), by rw [hHs]; exact neN (by omega), fresh₀ _ (by rw [hC, hHs]; omega), fresh₀ _ (by rw [hHs]; omega),
    fun p hp => by have := ltN p hp; rw [hC, hHs]; exact neN (by omega), fun p hp => by have := ltN p hp; rw [hHs]; exact neN (by omega)⟩
  have oI : C2New h₀ L news H2.objs.size H.objs.size s₁.heap.objs.size := ⟨by rw [hC, hHs]; exact neN (by omega), by rw [hHs]; exact neN (by omega), Nat.ne_of_gt ltL, fresh₀ _ (Nat.le_refl _), fun p hp => Nat.ne_of_lt (ltN p hp)⟩
  have X : C2 h₀ L m news H2.objs.size H.objs.size h₃ [] _ := ⟨F.keeps k₁₃, N.grown k₁₃, k₃ _ _ hDg, hns₃⟩
  have hp : ((compEnvC scope cl H2.objs.size env).scope.kind == .class || ((compEnvC scope cl H2.objs.size env).scope.kind == .module && (compEnvC scope cl H2.objs.size env).locals != (compEnvC scope cl H2.objs.size env).globals)) = false := by
    simp [compEnvC, relabel, hkind]
  have hfC : H2.objs.size ∉ fp := fun hb => by have h1 : @LE.le Nat _ H2.objs.size s₁.heap.objs.size := hfp _ hb; rw [hC, hHs] at h1; omega
  have hfD : H.objs.size ∉ fp := fun hb => by have h1 : @LE.le Nat _ H.objs.size s₁.heap.objs.size := hfp _ hb; rw [hHs] at h1; omega
  have hst : St 0 h₃ := W.frame _ _ _ hI₂ fun b _ ob e => k₃ _ _ (kD _ _ e)
  have loop : ∀ s₃ : Shared, s₃ = { s₁ with heap := h₃, toks := s₁.toks + ([] : List (Str × Value)).length } →
      codeAny (model prog w) A (.compLoop (LC1 elt iter x px scope pos) 0 (.ref s₁.heap.objs.size) (.ref H.objs.size) (compEnvC scope cl H2.objs.size env))
        (compPost (model prog w) A E use Q (.ref H.objs.size) H2.objs.size) s₃ := by
    rintro s₃ rfl
    exact loop1 W o oI hfC hfD hfN hSt (lookup_relabel_local hx) hp (helt _) X hst hcap fun h' tk ys' mc' X' hys' => fin _ _ _ _ _ _ o X' hys'
  exact codeAny_compStart_list (loop _ rfl) (W.self 0 _ _ _ hst (loop _ rfl))
theorem listComp1 (V : Nat → Value → Prop) (n : Nat) {Q : Value → Shared → Prop} (_F₀ : Fr h₀ L s.heap m) (_N₀ : News h₀ L s.heap news) (hclos : closureFor scope env = pure cl) (hcell : ∀ z ∈ scope.names, z.2 ≠ .cell) (hkind : scope.kind = .function)
    (hnames : ∀ z ∈ scope.names, z.2 = .local → scope.names.lookup z.1 = some .local) (hx : scope.names.lookup x = some .local)
    (h : wpAny (model prog w) A (eval iter env) (It1 prog w A h₀ L m news env elt x scope cl n V (FinL h₀ L m news n V Q)) E s)
    (hs : ∀ x, foldedSetIterable iter env x = pure x := by intro _; rfl) :
    wpAny (model prog w) A (eval (LC1 elt iter x px scope pos) env) Q E s := by
  rw [eval_ListComp]
  refine wpAny_comprehension_free (use := none) rfl hs hclos hkind hnames (wpAny_mono h (fun xv s₁ h₁ => ?_) fun _ _ e => e)
  obtain ⟨fp, P, St, F, N, W, hfp, hfN, hSt, hiter, helt, hcap, hQ⟩ := h₁
  refine hiter _ _ fun H k₂ hHs hI₂ => block1 hcell hkind hx F N W hfp hfN hSt helt hcap k₂ hHs hI₂ fun C D h' tk ys' mc' o X' hys' => ?_
  refine ⟨mc', X'.c, fun h'' hs'' => hQ _ ys' h'' tk (X'.fr.change hs'' o.cl o.c0) (fun p hp => ?_) o.dn hys'⟩
  rcases List.mem_cons.mp hp with rfl | hp
  · exact ⟨hs''.extBut _ _ (Ne.symm o.cd) X'.d, o.dl, o.d0⟩
  · exact ⟨hs''.extBut _ _ (o.cn p hp) (X'.nw p hp).1, (X'.nw p hp).2⟩
theorem asgComp1 (V : Nat → Value → Prop) (n : Nat) {y : Str} {py spos : Pos} {Q : Flow → Shared → Prop} (_F₀ : Fr h₀ L s.heap m) (_N₀ : News h₀ L s.heap news) (hLe : env.locals = L)
    (hsw : swapsWith (LC1 elt iter x px scope pos) (some (.Name y py)) spos.line env = pure true)
    (hclos : closureFor scope env = pure cl) (hcell : ∀ z ∈ scope.names, z.2 ≠ .cell) (hkind : scope.kind = .function)
    (hnames : ∀ z ∈ scope.names, z.2 = .local → scope.names.lookup z.1 = some .local) (hx : scope.names.lookup x = some .local)
    (hy : env.kindOf y = some .local) (hp : (env.scope.kind == .class || (env.scope.kind == .module && env.locals != env.globals)) = false)
    (h : wpAny (model prog w) A (eval iter env) (It1 prog w A h₀ L m news env elt x scope cl n V (FinB h₀ L m news n V y Q)) E s)
    (hs : ∀ x, foldedSetIterable iter env x = pure x := by intro _; rfl) :
    wpAny (model prog w) A (exec (.Assign [.Name y py] (LC1 elt iter x px scope pos) spos) env) Q E s := by
  subst hLe
  rw [exec_Assign_Name_used _ _ _ _ hsw]
  refine wpAny_bind (wpAny_standAt (wpAny_bind ?_))
  show wpAny _ A (do let _ ← comprehension (LC1 elt iter x px scope pos) scope env _ (newList []) false (eval iter env) (some (assign (.Name y py) env))) _ _ s
  refine wpAny_bind (wpAny_mono (wpAny_comprehension_free (use := some (assign (.Name y py) env)) (Q := fun _ s' => Q .next s') rfl hs hclos hkind hnames
    (wpAny_mono h (fun xv s₁ h₁ => ?_) fun _ _ e => e)) (fun _ s' hq => wpAny_pure (wpAny_pure hq)) fun _ _ e => e)
  obtain ⟨fp, P, St, F, N, W, hfp, hfN, hSt, hiter, helt, hcap, hQ⟩ := h₁
  refine hiter _ _ fun H k₂ hHs hI₂ => block1 hcell hkind hx F N W hfp hfN hSt helt hcap k₂ hHs hI₂ fun C D h' tk ys' mc' o X' hys' => ?_
  show wpAny _ A (assign (.Name y py) env (.ref D)) _ _ _
  refine wpAny_assign_Name (wpAny_storeName_local hy X'.fr.ns (fun h₂ hn₂ hs₂ => ?_) hp)
  have hL₀ : h₀.get? env.locals = none := Heap.get?_none_of_le X'.fr.above
  have F₂ : Fr h₀ env.locals h₂ (fun z => if z = y then some (.ref D) else m z) := ⟨hn₂, fun b o e => hs₂.extBut b o (fun q => by rw [q, hL₀] at e; cases e) (X'.fr.keep b o e), X'.fr.above⟩
  refine ⟨mc', X'.c.sameBut hs₂ o.cl, fun h'' hs'' => hQ D ys' h'' _ (F₂.change hs'' o.cl o.c0) (fun p hp => ?_) o.dn hys'⟩
  rcases List.mem_cons.mp hp with rfl | hp
  · exact ⟨hs''.extBut _ _ (Ne.symm o.cd) (hs₂.extBut _ _ o.dl X'.d), o.dl, o.d0⟩
  · exact ⟨hs''.extBut _ _ (o.cn p hp) (hs₂.extBut _ _ (X'.nw p hp).2.1 (X'.nw p hp).1), (X'.nw p hp).2⟩

theorem It1.range {V : Nat → Value → Prop} {Fin : Shared → Prop} {r : Addr} {b : Int} {t u v : Tok} (hh : A.handled = none) (F : Fr h₀ L s.heap m) (N : News h₀ L s.heap news) (hr : IsRange s.heap r 0 b 1 t u v) (hsm : Builtin.Range.small 0 b 1 = true) (hsz : Builtin.Range.rangeSize 0 b 1 = (n : Int))
    (hcap : n ≤ 10000) (helt : ∀ C, Elt1 prog w A h₀ L m news (compEnvC scope cl C env) elt x n (fun i v => ∃ t, v = .int (i : Int) t) V)
    (hQ : Fin s) :
    It1 prog w A h₀ L m news env elt x scope cl n V Fin (.ref r) s := by
  refine ⟨_, _, _, F, N, LCg.range_walks hh 0 n, fun b hb => Nat.le_of_eq (List.mem_singleton.mp hb), fun b hb hne => absurd (List.mem_singleton.mp hb) hne, fun i h st => ⟨_, st⟩, fun Q' E' hq => ?_, fun C => ?_, hcap, hQ⟩
  · refine wpAny_pyIter_range hr hsm (hq _ (fun _ _ e => Heap.get?_push_of_some _ e) (Heap.size_push _ _) ?_)
    show Heap.get? _ _ = some _
    rw [hsz]
    simpa using Heap.get?_push_size (o := { cls := .type "range_iterator", data := .fields #[rawInt 0, rawInt (n : Int), rawInt 1] }) _ rfl
  · intro s mc own E i v F N hn hx hi ⟨t, e⟩
    exact helt C s mc own E i v F N hn hx hi ⟨t, by rw [e, Int.zero_add]⟩
theorem It1.list {V : Nat → Value → Prop} {Fin : Shared → Prop} {l : Addr} {items : Array Value} (hh : A.handled = none) (F : Fr h₀ L s.heap m) (N : News h₀ L s.heap news) {ol : Obj} (hm : (l, ol) ∈ news) (hl : s.heap.IsList l items)
    (hcap : items.size ≤ 10000) (helt : ∀ C, Elt1 prog w A h₀ L m news (compEnvC scope cl C env) elt x items.size (fun i v => items[i]? = some v) V)
    (hQ : Fin s) :
    It1 prog w A h₀ L m news env elt x scope cl items.size V Fin (.ref l) s := by
  have hlt : l < s.heap.objs.size := by obtain ⟨_, e, _⟩ := hl; exact Heap.lt_size e
  refine ⟨_, _, _, F, N, Walks.list hh _ l (Nat.ne_of_lt hlt) items, fun b hb => ?_, fun b hb hne => ?_, fun i h st => by obtain ⟨o, e, _⟩ := st.1; exact ⟨o, e⟩, fun Q' E' hq => ?_, helt, hcap, hQ⟩
  · rcases List.mem_cons.mp hb with rfl | hb
    · exact Nat.le_refl _
    · rw [List.mem_singleton.mp hb]; exact Nat.le_of_lt hlt
  · rcases List.mem_cons.mp hb with rfl | hb
    · exact absurd rfl hne
    · rw [List.mem_singleton.mp hb]; exact ⟨_, hm⟩
  · exact wpAny_pyIter_list hl (hq _ (fun _ _ e => Heap.get?_push_of_some _ e) (Heap.size_push _ _) ⟨⟨_, Heap.get?_push_size _ rfl, rfl, rfl⟩, hl.push _⟩)
end
end Mine
namespace Mine
theorem fresh_FHeaps : True := by w_top off; trivial

local macro_rules | `(tactic| ktn_open) => `(tactic| repeat' (first | (k_unfold; (try dsimp only)) | ((fail_if_success (with_reducible show wpAny _ _ (pyIter (Value.ref _)) _ _ _)); first | walk1 | (dsimp only; walk1) | (leave1; walk_say "STEP leave1"; try dsimp only))))
def J1 (l : Addr) (m₀ : Str → Option Value) (i : Nat) (m : Str → Option Value) (nx : List (Addr × Obj)) : Prop :=
  ∃ (its : List Value) (ns : List Int), nx = [(l, listOf its.toArray 0)] ∧ IntsAre its ns ∧ ns.length = 5 ∧ (∀ x ∈ ns, 0 ≤ x ∧ x ≤ 10 + 1000000 * (i : Int)) ∧ ∀ z, z ≠ Str.ofString "k" → m z = m₀ z

theorem J1_step {l : Addr} {m₀ m' : Str → Option Value} {its : List Value} {ns : List Int} {i : Nat} {j : Nat} {v : Int} (hi : IntsAre its (ns.set j v)) (hl : ns.length = 5) (hb : ∀ x ∈ ns, 0 ≤ x ∧ x ≤ 10 + 1000000 * (i : Int))
    (hv : ∃ x y, v = x + y ∧ (0 ≤ x ∧ x ≤ 10 + 1000000 * (i : Int)) ∧ 0 ≤ y ∧ y < 1000000) (hm : ∀ z, z ≠ Str.ofString "k" → m' z = m₀ z) : J1 l m₀ (i + 1) m' [(l, listOf its.toArray 0)] := by
  refine ⟨its, _, rfl, hi, by simp [hl], ?_, hm⟩
  intro x hx
  rcases List.mem_or_eq_of_mem_set hx with h | rfl
  · have := hb x h; constructor
    · omega
    · have := this.2; push_cast; omega
  · obtain ⟨a, b, rfl, h1, h2, h3⟩ := hv
    push_cast; omega
theorem getD_mem5 {ns : List Int} {P : Int → Prop} (h : ∀ x ∈ ns, P x) {j : Nat} (hj : j < ns.length) : P (ns.getD j 0) := by
  rw [List.getD_eq_getElem?_getD, List.getElem?_eq_getElem hj]
  exact h _ (List.getElem_mem hj)
theorem heaps_small {n : Nat} (h : n ≤ 63) : Builtin.Range.small 0 (if 60 < (n : Int) then 60 else (n : Int)) 1 = true := by
  have h1 : (if 60 < (n : Int) then 60 else (n : Int)) = ((min n 60 : Nat) : Int) := by split <;> omega
  rw [h1]
  have h2 : min n 60 ≤ 60 := by omega
  generalize min n 60 = k at h2
  have : ∀ k ≤ 60, Builtin.Range.small 0 ((k : Nat) : Int) 1 = true := by decide +kernel
  exact this k h2
theorem heaps_mod (x : Int) : 0 ≤ Int.fmod x (10 ^ Int.toNat 6) ∧ Int.fmod x (10 ^ Int.toNat 6) < 1000000 := by
  have e : (10 : Int) ^ Int.toNat 6 = 1000000 := by decide
  rw [e]
  exact ⟨Int.fmod_nonneg_of_pos _ (by decide), Int.fmod_lt_of_pos _ (by decide)⟩
local macro_rules | `(tactic| walk_at "getItem ref int") => `(tactic| ((with_reducible show wpAny _ _ (getItem (Value.ref _) (Value.int _ _)) _ _ _); with_reducible rename IntsAre _ _ => iL; k_dflt (refine' getLed ?N ?hm iL ?h0 ?h1 ?h2 ?_; (case N => k_asm); (case hm => exact List.Mem.head _); (case h0 => omega); (case h1 => omega); (case h2 => omega); k_whole); intro _))
local macro_rules | `(tactic| walk_at "setItem ref int") => `(tactic| ((with_reducible show wpAny _ _ (setItem (Value.ref _) (Value.int _ _) _) _ _ _); with_reducible rename IntsAre _ _ => iL; k_dflt (refine' setLed ?F ?N ?U iL ?h0 ?h1 ?h2 ?_; (case F => k_asm); (case N => k_asm); (case U => exact UpdF.head (by k_all)); (case h0 => omega); (case h1 => omega); (case h2 => omega); k_whole); intro h' its' F' N' I'))
set_option maxRecDepth 100000 in
set_option maxHeartbeats 8000000 in
theorem heaps_con {w : World} {dp un : Nat} {gd : Option (List Code)} {fr : Option (List Env)} {s : Shared} {mean : ExcName → Option Value} {mg mb : Str → Option Value}
  (X : (hd.heap_39 w.params).In s.heap) (T : Top hd.view_39 (looseW hd.view_39 [Str.ofString "_twin_re_1"]) mean mg mb s.heap)
  (hdp : dp + 5 < recursionLimit) (hun : un + 300 < cLine) {l : Addr} {vs : List Value} {ns : List Int} (hl : s.heap.IsList l vs.toArray) (hi : IntsAre vs ns) (hn : ns.length ≤ 63) {R : Result → Shared → Prop}
  (hR : ∀ l (its : List Value) (hs : List Int) h' tk, (∀ b o, s.heap.get? b = some o → h'.get? b = some o) → s.heap.get? l = none → h'.get? l = some (listOf its.toArray 0) → IntsAre its hs → hs.length = 5 → (∀ x ∈ hs, 0 ≤ x ∧ x < 10 ^ 9) → R (.ok (.ret (.ref l))) { s with heap := h', toks := tk }) :
  codeAny (model Challenge.rw_zn0005_01.row.prog w) (AA dp un gd fr) (.call (.ref 92) ⟨[.ref l], []⟩) R s := by
  revert X; k_fill; intro X
  k_dflt (refine' enterP (binds := [(Str.ofString "script", .ref l)]) ?k1 ?k2 ?k6 ?k7 ?k8 ?k9 ?kB ?_ ?c2 ?c3 ?c4 ?kN; (case k1 => k_asm); (case k2 => k_asm); (case k6 => k_is); (case k7 => k_is); (case k8 => (show dp < _; omega)); (case k9 => exact BindsTo.of_eq rfl); (case kB => exact locs rfl); (case kN => decide); (case c2 => exact rfl); (case c3 => exact rfl); (case c4 => exact rfl); k_whole)
  intro L h₁ F N
  (try dsimp only)
  (try k_unmd); k_fold
  ktn_open
  rename IsRange _ _ _ _ _ _ _ _ => R'; rename Fr _ _ _ _ => lF'; rename News _ _ _ _ => lN'
  refine kpr_invN (J1 _ _) rfl R' (heaps_small hn) (range_size _) lF' lN' ⟨_, _, rfl, .cons _ _ (.cons _ _ (.cons _ _ (.cons _ _ (.cons _ _ .nil)))), rfl, by decide, fun _ _ => rfl⟩ ?_ ?_
  · rintro i k t m₁ nx h tk own hk hoff ⟨its, ns', rfl, hi', hlen, hb, hm⟩ F' N'
    rw [map_none hm] at F'
    simp only [List.cons_append, List.nil_append] at N'
    have hkb := mem_rangeKs (List.mem_of_getElem? hk)
    clear hm
    (try dsimp only); (try k_unmd); k_fold
    ktn_open
    rename Fr _ _ _ _ => F9; rename News _ _ _ _ => N9; rename IntsAre _ _ => I9
    refine ⟨_, _, _, _, _, rfl, F9, N9, ?_, ?_, ?_, J1_step I9 hlen hb ⟨_, _, rfl, ?_, ?_⟩ ?_⟩
    · intro p hp; rw [List.mem_singleton.mp hp]; exact .head _
    · exact fun p hp => .tail _ hp
    · rfl
    · have h5 := Int.fmod_lt_of_pos k (show (0:Int) < 5 by decide); have h6 := Int.fmod_nonneg_of_pos k (show (0:Int) < 5 by decide); exact getD_mem5 hb (by omega)
    · exact heaps_mod (ns.getD k.toNat 0)
    · intro z hz; exact if_neg hz
  · rintro m₁ nx h tk ⟨its, ns', rfl, hi', hlen, hb, hm⟩ F' N'
    rw [← done_none hm] at F'
    (try dsimp only); (try k_unmd)
    ktn_open
    refine hR _ _ _ _ _ F'.keep (N' _ (.head _)).2.2 (N' _ (.head _)).1 hi' hlen (fun x hx => ?_)
    have := hb x hx
    rw [rangeKs_length] at this
    have : ((if 60 < (ns.length : Int) then 60 else (ns.length : Int)) - 0).toNat ≤ 60 := by split <;> omega
    omega
end Mine
namespace Mine
theorem fresh_FSizes : True := by w_top off; trivial

local macro_rules | `(tactic| ktn_open) => `(tactic| repeat' (first | (k_unfold; (try dsimp only)) | ((fail_if_success (with_reducible show wpAny _ _ (pyIter (Value.ref _)) _ _ _)); (fail_if_success (with_reducible show WhlIf _ _ _)); first | walk1 | (dsimp only; walk1) | (leave1; walk_say "STEP leave1"; try dsimp only))))
local macro_rules | `(tactic| k_ne) => `(tactic| (refine neN ?_; (try dsimp only); first | ((fail_if_success (fail_if_success omega)); (with_reducible (first | assumption | (simp only [*, ne_eq, not_false_eq_true]; done)))) | omega))
local macro_rules | `(tactic| units_room) => `(tactic| (dsimp only [Around.deeper, Around.in1, Around.mark, AA]; omega))
def both (a b : Int) : List Int := List.foldl (fun l' k' => if Int.fmod a k' = 0 ∧ Int.fmod b k' = 0 then l' ++ [k'] else if Int.fmod a k' = 0 ∧ ¬ Int.fmod b k' = 0 then l' else l') [] (rangeKs 2 (Int.toNat (a + 1 - 2)))
theorem iteWhl {P : Prop} {T F : Prop} [Decidable P] (h1 : P → F) (h2 : ¬ P → T) : WhlIf (!decide P) T F := by
  by_cases hp : P
  · exact WhlIf.no (by simp [hp]) (h1 hp)
  · exact WhlIf.yes (by simp [hp]) (h2 hp)
theorem sizes_cases {x y : Int} {P : Int → Int → Prop} (h : ∀ u < 4, ∀ v < 6, P (2 + ((u : Nat) : Int)) (3 + ((v : Nat) : Int))) : P (2 + Int.fmod x 4) (3 + Int.fmod y 6) := by
  have h1 := Int.fmod_nonneg_of_pos x (show (0:Int) < 4 by decide)
  have h2 := Int.fmod_lt_of_pos x (show (0:Int) < 4 by decide)
  have h3 := Int.fmod_nonneg_of_pos y (show (0:Int) < 6 by decide)
  have h4 := Int.fmod_lt_of_pos y (show (0:Int) < 6 by decide)
  obtain ⟨u, hu⟩ := Int.eq_ofNat_of_zero_le h1
  obtain ⟨v, hv⟩ := Int.eq_ofNat_of_zero_le h3
  rw [hu, hv]
  exact h u (by omega) v (by omega)
def sizesOk : Bool := (List.range 4).all fun u => (List.range 6).all fun v =>
  let a : Int := 2 + (u : Int); let b : Int := 3 + (v : Int)
  if both a b = [] then pairs.contains (a, b) else decide (both a (b + 1) = []) && pairs.contains (a, b + 1)
theorem sizes_ok {u v : Nat} (hu : u < 4) (hv : v < 6) : (if both (2 + (u : Int)) (3 + (v : Int)) = [] then pairs.contains (2 + (u : Int), 3 + (v : Int)) else decide (both (2 + (u : Int)) (3 + (v : Int) + 1) = []) && pairs.contains (2 + (u : Int), 3 + (v : Int) + 1)) = true := by
  have h : sizesOk = true := by decide +kernel
  exact List.all_eq_true.mp (List.all_eq_true.mp h u (List.mem_range.mpr hu)) v (List.mem_range.mpr hv)
theorem sizes_one (x y : Int) : both (2 + Int.fmod x 4) (3 + Int.fmod y 6) = [] → (2 + Int.fmod x 4, 3 + Int.fmod y 6) ∈ pairs := sizes_cases (P := fun a b => both a b = [] → (a, b) ∈ pairs) (fun u hu v hv h => by have := sizes_ok hu hv; rw [if_pos h] at this; simpa using this)
theorem sizes_two (x y : Int) : ¬ both (2 + Int.fmod x 4) (3 + Int.fmod y 6) = [] → both (2 + Int.fmod x 4) (3 + Int.fmod y 6 + 1) = [] ∧ (2 + Int.fmod x 4, 3 + Int.fmod y 6 + 1) ∈ pairs := sizes_cases (P := fun a b => ¬ both a b = [] → both a (b + 1) = [] ∧ (a, b + 1) ∈ pairs) (fun u hu v hv h => by have := sizes_ok hu hv; rw [if_neg h] at this; simpa using this)
theorem sizes_end {s : Shared} {L d : Addr} {h' : Heap} {tk : Nat} {a b : Int} {ta tb : Tok} {m : Str → Option Value} {news : List (Addr × Obj)} {R : Result → Shared → Prop}
    (hR : ∀ l ta tb (a b : Int) h' tk, (∀ b o, s.heap.get? b = some o → h'.get? b = some o) → s.heap.get? l = none → h'.get? l = some ⟨.type "tuple", none, .seq #[.int a ta, .int b tb] 0, #[]⟩ → (a, b) ∈ pairs → R (.ok (.ret (.ref l))) { s with heap := h', toks := tk })
    (F : Fr s.heap L h' m) (N : News s.heap L h' ((d, ⟨.type "tuple", none, .seq #[.int a ta, .int b tb] 0, #[]⟩) :: news)) (hp : (a, b) ∈ pairs) : R (.ok (.ret (.ref d))) { s with heap := h', toks := tk } :=
  hR _ _ _ _ _ _ _ F.keep (N _ (.head _)).2.2 (N _ (.head _)).1 hp
set_option maxRecDepth 100000 in
set_option maxHeartbeats 8000000 in
theorem sizes_con {w : World} {dp un : Nat} {gd : Option (List Code)} {fr : Option (List Env)} {s : Shared} {mean : ExcName → Option Value} {mg mb : Str → Option Value}
  (X : (hd.heap_39 w.params).In s.heap) (T : Top hd.view_39 (looseW hd.view_39 [Str.ofString "_twin_re_1"]) mean mg mb s.heap)
  (hdp : dp + 5 < recursionLimit) (hun : un + 300 < cLine) {l : Addr} {vs : List Value} {ns : List Int} (hl : s.heap.IsList l vs.toArray) (hi : IntsAre vs ns) (hn : ns.length = 5) {R : Result → Shared → Prop}
  (hR : ∀ l ta tb (a b : Int) h' tk, (∀ b o, s.heap.get? b = some o → h'.get? b = some o) → s.heap.get? l = none → h'.get? l = some ⟨.type "tuple", none, .seq #[.int a ta, .int b tb] 0, #[]⟩ → (a, b) ∈ pairs → R (.ok (.ret (.ref l))) { s with heap := h', toks := tk }) :
  codeAny (model Challenge.rw_zn0005_01.row.prog w) (AA dp un gd fr) (.call (.ref 97) ⟨[.ref l], []⟩) R s := by
  revert X; k_fill; intro X
  k_dflt (refine' enterC (binds := [(Str.ofString "heaps", .ref l)]) ?k1 ?k2 ?k6 ?k7 ?k8 ?k9 ?kB ?kN ?_ ?c2 ?c3 ?c4; (case k1 => k_asm); (case k2 => k_asm); (case k6 => k_is); (case k7 => k_is); (case k8 => (show dp < _; omega)); (case k9 => exact BindsTo.of_eq rfl); (case kB => exact rfl); (case kN => decide); (case c2 => exact rfl); (case c3 => exact rfl); (case c4 => exact rfl); k_whole)
  intro L h₁ tk cells F N Y
  have hY := CellsAre.two Y; obtain ⟨o', o2', hE', d1', d2'⟩ := hY; subst hE'; clear Y
  (try dsimp only)
  (try k_unmd); k_fold
  ktn_open
  refine iteWhl (P := both (2 + Int.fmod (ns.getD (Int.toNat 0) 0) 4) (3 + Int.fmod (ns.getD (Int.toNat 1) 0) 6) = []) (fun hc => ?_) (fun hc => ?_)
  · have hp := sizes_one _ _ hc
    ktn_open
    exact sizes_end (s := s) hR (by assumption) (by assumption) hp
  · obtain ⟨hc', hp⟩ := sizes_two _ _ hc
    ktn_open
    refine WhlIf.no (b := !decide (both _ _ = [])) (by rw [hc']; rfl) ?_
    ktn_open
    exact sizes_end (s := s) hR (by assumption) (by assumption) hp
end Mine
namespace Mine
theorem fresh_FHooks : True := by w_top off; trivial

local macro_rules | `(tactic| ktn_open) => `(tactic| repeat' (first | (k_unfold; (try dsimp only)) | ((fail_if_success (with_reducible show wpAny _ _ (pyIter (Value.ref _)) _ _ _)); (fail_if_success (with_reducible show wpAny _ _ (subscriptTail _ _ (Value.ref _) (Value.int _ _)) _ _ _)); (fail_if_success (with_reducible show wpAny _ _ (eval (Expr.ListComp _ [_, _] _ _) _) _ _ _)); first | walk1 | (dsimp only; walk1) | (leave1; walk_say "STEP leave1"; try dsimp only))))
local macro_rules | `(tactic| k_ne) => `(tactic| (refine neN ?_; (try dsimp only); first | ((fail_if_success (fail_if_success omega)); (with_reducible (first | assumption | (simp only [*, ne_eq, not_false_eq_true]; done)))) | omega))
local macro_rules | `(tactic| units_room) => `(tactic| (dsimp only [Around.deeper, Around.in1, Around.mark, AA]; omega))
def hookXs (a b d : Int) : List Int := List.foldl (fun l' k' => if Int.fmod (k' * a - d) b = 0 then l' ++ [k'] else l') [] (rangeKs 0 (Int.toNat (b - 0)))
def hookX (a b d : Int) : Int := (hookXs a b d).getD (Int.toNat 0) 0
def hookY (a b d : Int) : Int := if Int.fdiv (hookX a b d * a - d) b > 0 then Int.fdiv (hookX a b d * a - d) b else 0
def hooks (a b d : Int) : List Int := (List.range (b - hookX a b d - 0).toNat).flatMap fun (i : Nat) => (List.range (hookY a b d - 0).toNat).map fun (j : Nat) => (i : Int) * a + (j : Int) * b
def hooksOk : Bool := pairs.all fun p => (List.range 31).all fun d => (hookXs p.1 p.2 d).length == 1 && (decide (0 ≤ hookX p.1 p.2 d) && (decide (hookX p.1 p.2 d < p.2) && decide (hookY p.1 p.2 d ≤ 20)))
theorem hooks_ok {a b d : Int} (hab : (a, b) ∈ pairs) (h0 : 0 ≤ d) (h1 : d ≤ 30) : (hookXs a b d).length = 1 ∧ 0 ≤ hookX a b d ∧ hookX a b d < b ∧ hookY a b d ≤ 20 := by
  have h : hooksOk = true := by decide +kernel
  obtain ⟨n, rfl⟩ := Int.eq_ofNat_of_zero_le h0
  have := List.all_eq_true.mp (List.all_eq_true.mp h (a, b) hab) n (List.mem_range.mpr (by omega))
  simpa using this
theorem hookY_pos (a b d : Int) : 0 ≤ hookY a b d := by unfold hookY; split <;> omega
set_option maxRecDepth 100000 in
set_option maxHeartbeats 8000000 in
theorem hooks_con {w : World} {dp un : Nat} {gd : Option (List Code)} {fr : Option (List Env)} {s : Shared} {mean : ExcName → Option Value} {mg mb : Str → Option Value}
  (X : (hd.heap_39 w.params).In s.heap) (T : Top hd.view_39 (looseW hd.view_39 [Str.ofString "_twin_re_1"]) mean mg mb s.heap)
  (hdp : dp + 5 < recursionLimit) (hun : un + 300 < cLine) {a b d : Int} {ta tb td : Tok} (hab : (a, b) ∈ pairs) (hd0 : 0 ≤ d) (hd1 : d ≤ 30) {R : Result → Shared → Prop}
  (hR : ∀ l (its : List Value) h' tk, (∀ b o, s.heap.get? b = some o → h'.get? b = some o) → s.heap.get? l = none → h'.get? l = some (listOf its.toArray its.length) → IntsAre its (hooks a b d) → R (.ok (.ret (.ref l))) { s with heap := h', toks := tk }) :
  codeAny (model Challenge.rw_zn0005_01.row.prog w) (AA dp un gd fr) (.call (.ref 116) ⟨[.int a ta, .int b tb, .int d td], []⟩) R s := by
  revert X; k_fill; intro X
  k_dflt (refine' enterC (binds := [(Str.ofString "a", .int a ta), (Str.ofString "b", .int b tb), (Str.ofString "distance", .int d td)]) ?k1 ?k2 ?k6 ?k7 ?k8 ?k9 ?kB ?kN ?_ ?c2 ?c3 ?c4; (case k1 => k_asm); (case k2 => k_asm); (case k6 => k_is); (case k7 => k_is); (case k8 => (show dp < _; omega)); (case k9 => exact BindsTo.of_eq rfl); (case kB => exact rfl); (case kN => decide); (case c2 => exact rfl); (case c3 => exact rfl); (case c4 => exact rfl); k_whole)
  intro L h₁ tk cells F N Y
  have hY := CellsAre.four Y; obtain ⟨o', o2', o3', o4', hE', d1', d2', d3', d4'⟩ := hY; subst hE'; clear Y
  (try dsimp only)
  (try k_unmd); k_fold
  obtain ⟨ha1, ha2, hb1, hb2⟩ := pairs_in hab
  obtain ⟨hk1, hk2, hk3, hk4⟩ := hooks_ok hab hd0 hd1
  have hk5 := hookY_pos a b d
  ktn_open
  rename IntsAre _ _ => I9; rename News _ _ _ _ => N9
  refine itemLed N9 (.head _) I9 (by decide) (show (0 : Int) < ((hookXs a b d).length : Nat) by rw [hk1]; decide) (show (hookXs a b d).length < _ by rw [hk1]; decide) (fun t => ?_)
  ktn_open
  rename Fr _ _ _ _ => F8; rename News _ _ _ _ => N8; rename (_ : Obj).data = _ => d8
  refine listComp2 (n1 := (b - hookX a b d - 0).toNat) (n2 := (hookY a b d - 0).toNat) (f := fun i j => i * a + j * b) F8 N8 rfl rfl (by decide) rfl (by decide) rfl rfl (by decide) (fun _ _ => rfl) ?_ ?_
  · have e1 : (b - hookX a b d - 0).toNat ≤ 9 := by omega
    have e2 : (hookY a b d - 0).toNat ≤ 20 := by omega
    exact Nat.le_trans (Nat.mul_le_mul e1 e2) (by decide)
  ktn_open
  rename Fr _ _ _ _ => F7; rename News _ _ _ _ => N7; rename IsRange _ _ _ _ _ _ _ _ => R7
  refine ⟨_, _, _, _, _, rfl, F7, N7, R7, small_nn (show 0 ≤ b - hookX a b d by omega) (show b - hookX a b d ≤ 100 by omega), range_size (b - hookX a b d), fun C => ?_, fun C => ?_, fun D ys h tk F N hD hi => ?_⟩
  · intro s₅ mc E i t F N hn hx h0 h1
    refine Call_ (range_name F X T (by k_is) rfl rfl rfl rfl ?_)
    refine Pv.callWith_type1 (Calls.spliced_cons (wpAny_Name (wpAny_loadName_cell (c := L + 1 + 1 + 1 + 1) rfl rfl rfl ⟨_, N.get (.tail _ (.head _)), d8⟩ (Calls.spliced_nil (call_range_1 ?_))) (by decide)))
    exact ⟨⟨_, _, _, _, _, rfl, IsRange.new .., small_nn (show 0 ≤ hookY a b d by omega) (show hookY a b d ≤ 100 by omega), range_size (hookY a b d)⟩, _, _, rfl, fun _ _ e => Heap.get?_push_of_some _ e⟩
  · intro s₅ mc E i j t t' F N hn hx hy h0 h1 h2 h3
    refine wpAny_BinOp (wpAny_BinOp (wpAny_Name (wpAny_loadName_local rfl rfl hn hx (wpAny_Name (wpAny_loadName_cell (c := L + 1) rfl rfl rfl ⟨_, N.get (.tail _ (.tail _ (.tail _ (.tail _ (.head _))))), d4'⟩ ?_) (by decide))) (by decide)))
    refine mul_int ?_
    refine wpAny_BinOp (wpAny_Name (wpAny_loadName_local rfl rfl hn hy (wpAny_Name (wpAny_loadName_cell (c := L + 1 + 1) rfl rfl rfl ⟨_, N.get (.tail _ (.tail _ (.tail _ (.head _)))), d3'⟩ ?_) (by decide))) (by decide))
    refine mul_int ?_
    refine add_int ?_
    exact ⟨⟨_, rfl⟩, _, _, rfl, fun _ _ e => e⟩
  · exact hR _ _ _ _ F.keep (N _ (.head _)).2.2 (N _ (.head _)).1 hi
end Mine
namespace Mine
open Sem (wp)
section
variable {prog : Program} {w : World} {A : Around} {R : GenEnd} {Y : Protocol} {n : Nat} {s₀ : Shared} {c : Code} {fs : List Frame} {s : Shared} {env : Env}
  {K : Flow → Sem Fin} {H : Value → Sem Fin} {gd : Bool → Bool} {lv : List Value → List Value}

theorem seg_stmt {st : Stmt}
    (h : wpAny (model prog w) (A.over c fs) (exec st env) (fun f s' => Seg (model prog w) A R Y n s₀ c (K f) fs s') (fun _ _ => False) s) :
    Seg (model prog w) A R Y n s₀ c ((exec st env).wrap K H gd lv) fs s := seg_wrap (wpAny_mono h (fun _ _ x => x) fun _ _ x => x.elim)

theorem seg_If {test : Expr} {body orelse : List Stmt} {pos : Pos}
    (h : wpAny (model prog w) (A.over c fs) (isTrue test env (eval test env)) (fun b s' => if b = true then Seg (model prog w) A R Y n s₀ c ((execs body env).wrap K H gd lv) fs s' else Seg (model prog w) A R Y n s₀ c ((execs orelse env).wrap K H gd lv) fs s') (fun _ _ => False) s) :
    Seg (model prog w) A R Y n s₀ c ((exec (.If test body orelse pos) env).wrap K H gd lv) fs s := by
  rw [exec_If]
  refine seg_bind_wrap (wpAny_standAt ?_)
  refine seg_bind_wrap (wpAny_mono h (fun b s' hb => ?_) fun _ _ x => x.elim)
  cases b with
  | true => simpa using hb
  | false => simpa using hb

theorem seg_For {target iter : Expr} {body orelse : List Stmt} {pos : Pos}
    (h : wpAny (model prog w) (A.over c fs) (eval iter env) (fun x s₁ => wpAny (model prog w) (A.over c fs) (pyIter x) (fun it s₂ =>
      ∀ k p, Seg (model prog w) A R Y n s₀ (.forLoop target it body orelse env) ((model prog w).den (.forLoop target it body orelse env)) (.ret k none (gd false) (lv []) c p [] :: fs) s₂) (fun _ _ => False) s₁) (fun _ _ => False) s)
    (hs : ∀ x, foldedSetIterable iter env x = pure x := by intro _; rfl) :
    Seg (model prog w) A R Y n s₀ c ((exec (.For target iter body orelse pos) env).wrap K H gd lv) fs s := by
  rw [exec_For]
  refine seg_bind_wrap (wpAny_standAt ?_)
  refine seg_bind_wrap (wpAny_mono h (fun x s₁ h₁ => ?_) fun _ _ x => x.elim)
  refine seg_bind_wrap (wpAny_of_eq (hs x) ?_)
  refine seg_bind_wrap (wpAny_standAt ?_)
  refine seg_bind_wrap (wpAny_holding (wpAny_mono h₁ (fun it s₂ h₂ => ?_) fun _ _ x => x.elim))
  exact seg_call (h₂ _)

theorem seg_While' {test : Expr} {body orelse : List Stmt} {pos : Pos}
    (h : ∀ k p, Seg (model prog w) A R Y n s₀ (.whileLoop test body orelse env) ((model prog w).den (.whileLoop test body orelse env)) (.ret k none (gd false) (lv []) c p [] :: fs) s) :
    Seg (model prog w) A R Y n s₀ c ((exec (.While test body orelse pos) env).wrap K H gd lv) fs s := seg_While (h _)

theorem seg_forLoop {x : Str} {px : Pos} {it : Value} {body orelse : List Stmt}
    (h : wpAny (model prog w) (A.over (.forLoop (.Name x px) it body orelse env) fs) (pyNext it) (fun r s' => ∃ v, r = some v ∧
      wpAny (model prog w) (A.over (.forLoop (.Name x px) it body orelse env) fs) (storeName env x v) (fun _ s'' => ∀ H, Seg (model prog w) A R Y n s₀ (.forLoop (.Name x px) it body orelse env) ((execs body env).wrap (fun f => match f with
            | .next | .cont => .pure (.again (.forLoop (.Name x px) it body orelse env))
            | .brk => .pure (.done .next)
            | .ret v => .pure (.done (.ret v))) H id id) fs s'') (fun _ _ => False) s') (fun _ _ => False) s) :
    Seg (model prog w) A R Y n s₀ (.forLoop (.Name x px) it body orelse env) ((model prog w).den (.forLoop (.Name x px) it body orelse env)) fs s := by
  show Seg _ A R Y n s₀ _ ((forTurn (.Name x px) it body orelse env).onRaise (fun x => do noteFrame x env; theTreesLotGoes x)) fs s
  rw [Sem.onRaise_eq_wrap]
  unfold forTurn
  refine seg_bind_wrap (wpAny_standAt ?_)
  refine seg_bind_wrap (wpAny_onRaise (wpAny_mono h (fun r s' h' => ?_) fun _ _ x => x.elim))
  obtain ⟨v, rfl, h'⟩ := h'
  refine seg_bind_wrap (wpAny_of_eq (show letOwnedTupleGo (.Name x px) it v = pure () from rfl) ?_)
  refine seg_bind_wrap (wpAny_assign_Name (wpAny_mono h' (fun _ s'' h'' => ?_) fun _ _ x => x.elim))
  rw [Sem.bind_eq_wrap', Sem.wrap_wrap]
  rw [Sem.wrap_congr (execs body env) _ _ (K' := fun f => match f with
            | .next | .cont => .pure (.again (.forLoop (.Name x px) it body orelse env))
            | .brk => .pure (.done .next)
            | .ret v => .pure (.done (.ret v))) (fun f => by cases f <;> rfl) (fun e => rfl)]
  exact h'' _

theorem seg_whileLoop' {test : Expr} {body orelse : List Stmt}
    (h : wpAny (model prog w) (A.over (.whileLoop test body orelse env) fs) (isTrue test env (eval test env)) (fun b s' => b = true ∧
          ∀ H, Seg (model prog w) A R Y n s₀ (.whileLoop test body orelse env) ((execs body env).wrap (fun f => match f with
            | .next | .cont => .pure (.again (.whileLoop test body orelse env))
            | .brk => .pure (.done .next)
            | .ret v => .pure (.done (.ret v))) H id id) fs s') (fun _ _ => False) s) :
    Seg (model prog w) A R Y n s₀ (.whileLoop test body orelse env) ((model prog w).den (.whileLoop test body orelse env)) fs s := by
  refine seg_whileLoop (wpAny_mono h (fun b s' hb => ?_) fun _ _ x => x.elim)
  obtain ⟨rfl, hb⟩ := hb
  rw [if_pos rfl]
  exact hb _
end

section
variable {prog : Program} {w : World} {A : Around} {E : Value → Shared → Prop} {s : Shared} {env : Env}
def NextO (I : Nat → Shared → Prop) (n : Nat) (s : Shared) : Prop := ∃ m, m < n ∧ I m s
/-- a loop over any iterator: the turns count down -/
def LoopO (prog : Program) (w : World) (A : Around) (env : Env) (x : Str) (body : List Stmt) (Q : Flow → Shared → Prop) (E : Value → Shared → Prop) (it : Value) (s₂ : Shared) : Prop :=
  ∃ (I : Nat → Shared → Prop) (n : Nat), I n s₂ ∧ ∀ n s, I n s → wpAny (model prog w) A (pyNext it) (fun r s₁ => match r with
    | none => Q .next s₁
    | some v => wpAny (model prog w) A (storeName env x v) (fun _ s₂ => wpAny (model prog w) A (execs body env) (fun f s₃ => match f with
          | .next | .cont => NextO I n s₃
          | .brk => Q .next s₃
          | .ret v => Q (.ret v) s₃) E s₂) E s₁) E s
theorem For_own {x : Str} {px pos : Pos} {iter : Expr} {body : List Stmt} {Q : Flow → Shared → Prop}
    (h : wpAny (model prog w) A (eval iter env) (fun xv s₁ => wpAny (model prog w) A (pyIter xv) (fun it s₂ => LoopO prog w A env x body Q E it s₂) E s₁) E s)
    (hs : ∀ x, foldedSetIterable iter env x = pure x := by intro _; rfl)
    (hE : PassesOwn (model prog w) A env E := by passes_own) :
    wpAny (model prog w) A (exec (.For (.Name x px) iter body [] pos) env) Q E s := by
  refine wpAny_For (wpAny_mono h (fun xv s₁ h₁ => wpAny_mono h₁ (fun it s₂ h₂ => ?_) fun _ _ e => e) fun _ _ e => e) hs
  obtain ⟨I, n, h0, step⟩ := h₂
  refine codeAny_forLoop (R := fun r s' => match r with | .ok f => Q f s' | .error e => cameBackBy (model prog w) A env E e s') I (fun n s hI => ?_) n h0
  refine wpAny_mono (step n s hI) (fun r s₁ h₁ => ?_) hE
  cases r with
  | none => exact wpAny_execs_nil h₁
  | some v => 
    refine wpAny_assign_Name (wpAny_mono h₁ (fun _ s₂ h₂ => ?_) hE)
    refine wpAny_mono h₂ (fun f s₃ h₃ => ?_) hE
    cases f <;> exact h₃
end
end Mine
namespace Mine
section
variable {prog : Program} {w : World} {A : Around} {s : Shared} {K : Frag} {p : Program} {loose : List Str} {mean : ExcName → Option Value} {mg mb : Str → Option Value}
  {R : Result → Shared → Prop} {name qual : Str} {params : Arguments} {body : List Stmt} {scope : Scope} {dV kV doc pm cdv ct oc : Value} {an od : Option Addr} {osl : Array (Option Value)} {f : Addr} {args : Args} {binds : List (Str × Value)}

theorem enterG {hB : Heap} (X : K.In hB) (T : Top p loose mean mg mb hB) (hkp : ∀ b o, hB.get? b = some o → s.heap.get? b = some o)
    (ho : K.lookup f = some ⟨oc, od, .func (fnOf name qual params body scope dV kV doc pm an cdv ct), osl⟩) (hcd : codeIn K cdv qual = true) (hroom : A.depth < recursionLimit)
    (hbind : BindsTo s (fnOf name qual params body scope dV kV doc pm an cdv ct) args binds) (hloc : ∀ y ∈ binds, scope.names.lookup y.1 = some .local)
    (h : ∀ L h₁ tk G, h₁.Ns L (fun y => binds.reverse.lookup y) → (∀ b o, s.heap.get? b = some o → h₁.get? b = some o) → s.heap.objs.size ≤ L → L < G → h₁.objs.size = G + 1 → h₁.IsGen G s.gens.size →
      R (.ok (.ret (.ref G))) { s with gens := s.gens.push (.fresh (.func body (envOf qual scope L f cdv))), heap := h₁, toks := tk })
    (hco : scope.isCoroutine = false) (hgen : scope.isGenerator = true) (hk : scope.kind = .function)
    (hcell : ∀ x ∈ scope.names, x.2 ≠ .cell) : codeAny (model prog w) A (.call (.ref f) args) R s := by
  refine codeAny_call_generator hroom (hkp _ _ (X _ _ ho)) rfl hco hgen rfl ((codeRec_of X hcd).keeps hkp) (hbind _ _ _ _ ?_)
  refine wpAny_newFunctionEnv hcell hloc (fun h₀ hns₀ hsb₀ => ?_) hk
  have hk₀ : ∀ b o, s.heap.get? b = some o → h₀.get? b = some o := fun b o e => hsb₀.extBut b o (Nat.ne_of_lt (Heap.lt_size e)) (Heap.get?_push_of_some _ e)
  refine ⟨(T.nolimit.keeps hkp).keeps hk₀, h s.heap.objs.size _ _ h₀.objs.size (hns₀.push _) (fun b o e => Heap.get?_push_of_some _ (hk₀ b o e)) (Nat.le_refl _) hns₀.lt (by rw [Heap.size_push]) ⟨_, _, _, Heap.get?_push_size _ rfl, rfl, rfl, rfl⟩⟩
end

def genR : GenEnd := fun _ _ r _ => r = .ok .next ∧ False
def genY (hB : Heap) (Lg I l : Addr) (lo : Obj) (size : Int) : Protocol := fun m s₀ v s κ =>
  (∃ t, v = .int size t) ∧ (∃ h' tk, s = { s₀ with heap := h', toks := tk } ∧ ∀ b o, b ≠ Lg → b ≠ I → s₀.heap.get? b = some o → h'.get? b = some o) ∧
  (∃ oL, s.heap.get? Lg = some oL) ∧ (∃ oI, s.heap.get? I = some oI) ∧ (m ≠ 0 → ∀ s'', (∀ b o, hB.get? b = some o → s''.heap.get? b = some o) → (∀ o, s.heap.get? Lg = some o → s''.heap.get? Lg = some o) → (∀ o, s.heap.get? I = some o → s''.heap.get? I = some o) → s''.heap.get? l = some lo → κ (.send .none) s'')

/-- between the steps of the generator -/
structure GSt (hB : Heap) (Lg I l : Addr) (lo : Obj) (j : Nat) (mm : Str → Option Value) (s₀ s : Shared) : Prop where
  ns : s.heap.Ns Lg mm
  kp : ∀ b o, hB.get? b = some o → s.heap.get? b = some o
  ls : s.heap.get? l = some lo
  it : s.heap.IsListIter I l j
  since : ∃ h' tk, s = { s₀ with heap := h', toks := tk } ∧ ∀ b o, b ≠ Lg → b ≠ I → s₀.heap.get? b = some o → h'.get? b = some o

section
variable {hB : Heap} {Lg I l : Addr} {lo : Obj} {j : Nat} {mm mm' : Str → Option Value} {s₀ s : Shared}
theorem GSt.store (x : GSt hB Lg I l lo j mm s₀ s) {h' : Heap} {tk : Nat} (hn : h'.Ns Lg mm') (hs : Heap.SameBut Lg s.heap h') (h0 : hB.get? Lg = none) (h1 : l ≠ Lg) (h2 : I ≠ Lg) : GSt hB Lg I l lo j mm' s₀ { s with heap := h', toks := tk } := by
  obtain ⟨ns, kp, ls, it, h₁, tk₁, rfl, hk⟩ := x
  have ne : ∀ b o, hB.get? b = some o → b ≠ Lg := fun b o e q => by rw [q, h0] at e; cases e
  exact ⟨hn, fun b o e => hs.extBut b o (ne b o e) (kp b o e), hs.extBut _ _ h1 ls, it.at fun o e => hs.extBut _ _ h2 e, h', tk, rfl, fun b o hb hi e => hs.extBut _ _ hb (hk b o hb hi e)⟩
theorem GSt.next (x : GSt hB Lg I l lo j mm s₀ s) {h' : Heap} (hi : h'.IsListIter I l (j + 1)) (hs : Heap.SameBut I s.heap h') (h0 : hB.get? I = none) (h1 : l ≠ I) (h2 : I ≠ Lg) : GSt hB Lg I l lo (j + 1) mm s₀ { s with heap := h' } := by
  obtain ⟨ns, kp, ls, it, h₁, tk₁, rfl, hk⟩ := x
  have ne : ∀ b o, hB.get? b = some o → b ≠ I := fun b o e q => by rw [q, h0] at e; cases e
  exact ⟨ns.at' fun o e => hs.extBut _ _ (Ne.symm h2) e, fun b o e => hs.extBut b o (ne b o e) (kp b o e), hs.extBut _ _ h1 ls, hi, h', tk₁, rfl, fun b o hb hb' e => hs.extBut _ _ hb' (hk b o hb hb' e)⟩
theorem GSt.tok (x : GSt hB Lg I l lo j mm s₀ s) (tk : Nat) : GSt hB Lg I l lo j mm s₀ { s with toks := tk } := by
  obtain ⟨ns, kp, ls, it, h₁, tk₁, rfl, hk⟩ := x
  exact ⟨ns, kp, ls, it, h₁, tk, rfl, hk⟩
theorem GSt.again (x : GSt hB Lg I l lo j mm s₀ s) {s'' : Shared} (h1 : ∀ b o, hB.get? b = some o → s''.heap.get? b = some o) (h2 : ∀ o, s.heap.get? Lg = some o → s''.heap.get? Lg = some o) (h3 : ∀ o, s.heap.get? I = some o → s''.heap.get? I = some o) (h4 : s''.heap.get? l = some lo) :
    GSt hB Lg I l lo j mm s'' s'' := ⟨x.ns.at' h2, h1, h4, x.it.at h3, s''.heap, s''.toks, rfl, fun _ _ _ _ e => e⟩
end

section
variable {prog : Program} {w : World} {A : Around} {c : Code} {fs : List Frame} {env : Env} {hB : Heap} {Lg I l : Addr} {lo : Obj} {size : Int} {K : Flow → Sem Fin} {H : Value → Sem Fin} {x y : Str}

theorem split_ret {k : Result → Sem Fin} {h : Option Value} {g : Bool} {l : List Value} {c : Code} {p : Pos} {kp} {fs : List Frame} (hfs : splitAtGen fs = none) : splitAtGen (.ret k h g l c p kp :: fs) = none := by
  show (splitAtGen fs).map _ = none
  rw [hfs]; rfl
theorem gen_yield {p₁ p₂ p₃ : Pos} {n j : Nat} {mm : Str → Option Value} {s₀ s : Shared} {t : Tok} (hfs : splitAtGen fs = none) (hfg : fs.any Frame.guarded = false) (hL : env.locals = Lg) (hk : env.scope.kind = .function) (hx : env.kindOf x = some .local)
    (G : GSt hB Lg I l lo j mm s₀ s) (hv : mm x = some (.int size t))
    (hn : ∀ m s'', n = m + 1 → GSt hB Lg I l lo j mm s'' s'' → Seg (model prog w) A genR (genY hB Lg I l lo size) (m + 1) s'' c (K .next) fs s'') (hco : env.scope.isCoroutine = false) (hi : interactive env = false) (hy : (x == Str.ofString "__debug__") = false) :
    Seg (model prog w) A genR (genY hB Lg I l lo size) (n + 1) s₀ c ((exec (.Expr (.Yield (some (.Name x p₁)) p₂) p₃) env).wrap K H id id) fs s := by
  subst hL
  refine seg_Expr_Yield hfs rfl hfg (wpAny_Name (wpAny_loadName_local hk hx G.ns hv fun κ hκ => ?_) hy) hco hi
  refine ⟨⟨_, rfl⟩, G.since, (let ⟨_, _, _, ho, _⟩ := G.ns; ⟨_, ho⟩), (let ⟨_, ho, _⟩ := G.it; ⟨_, ho⟩), fun hm s'' h1 h2 h3 h4 => hκ _ _ ?_⟩
  obtain ⟨m, rfl⟩ : ∃ m, n = m + 1 := ⟨n - 1, by have : n ≠ 0 := hm; omega⟩
  exact hn m s'' rfl (G.again h1 h2 h3 h4)

theorem gen_while {p₁ p₂ p₃ p₄ : Pos} (hfs : splitAtGen fs = none) (hfg : fs.any Frame.guarded = false) (hL : env.locals = Lg) (hk : env.scope.kind = .function) (hx : env.kindOf x = some .local) (hco : env.scope.isCoroutine = false) (hi : interactive env = false) (hy : (x == Str.ofString "__debug__") = false)
    {kk : Nat} (test : Expr) (htest : test = .Constant (.bool true) kk p₄) : ∀ (n : Nat) {j : Nat} {mm : Str → Option Value} {s₀ s : Shared} {t : Tok} (_ : GSt hB Lg I l lo j mm s₀ s) (_ : mm x = some (.int size t)),
    Seg (model prog w) A genR (genY hB Lg I l lo size) (n + 1) s₀ (.whileLoop test [.Expr (.Yield (some (.Name x p₁)) p₂) p₃] [] env) ((model prog w).den (.whileLoop test [.Expr (.Yield (some (.Name x p₁)) p₂) p₃] [] env)) fs s := by
  subst htest
  intro n
  induction n with
  | zero =>
    intro j mm s₀ s t G hv
    refine seg_whileLoop' (isTrue_plain (wpAny_Constant_bool (wpAny_truthy_bool ⟨rfl, fun H => ?_⟩)))
    refine seg_execs_cons (gen_yield hfs hfg hL hk hx G hv (fun m s'' e => by cases e) hco hi hy)
  | succ n ih =>
    intro j mm s₀ s t G hv
    refine seg_whileLoop' (isTrue_plain (wpAny_Constant_bool (wpAny_truthy_bool ⟨rfl, fun H => ?_⟩)))
    refine seg_execs_cons (gen_yield hfs hfg hL hk hx G hv (fun m s'' e G' => ?_) hco hi hy)
    obtain rfl : n = m := by omega
    exact seg_execs_nil (seg_again rfl (ih G' hv))

theorem gen_for {px p₁ p₂ p₃ p₄ p₅ p₆ p₇ p₈ p₉ q₁ q₂ q₃ q₄ : Pos} {t1 t2 : Expr} {r1 st3 : Stmt} {kk : Nat} {x y : Str} {its : List Value} {cc cnt : Nat} {z : Int} (hi : IntsAre its (List.replicate (cnt + 1) size ++ [0, z])) (hlo : lo = listOf its.toArray cc) (h0 : 2 ≤ size) (h1 : size ≤ 9) (hl : hB.get? l = none)
    (hI : hB.get? I = none) (hLn : hB.get? Lg = none) (e1 : l ≠ Lg) (e2 : I ≠ Lg) (e3 : l ≠ I) (hyx : y ≠ x)
    (hfs : splitAtGen fs = none) (hfg : fs.any Frame.guarded = false) (hL : env.locals = Lg) (hk : env.scope.kind = .function) (hx : env.kindOf x = some .local) (hy : env.kindOf y = some .local) (hco : env.scope.isCoroutine = false) (hint : interactive env = false) (hx' : (x == Str.ofString "__debug__") = false) (hy' : (y == Str.ofString "__debug__") = false)
    (hp : (env.scope.kind == .class || (env.scope.kind == .module && env.locals != env.globals)) = false)
    (hsw : swapsWith (.Name x q₁) (some (.Name y q₂)) q₃.line env = pure false)
    (T1 : ∀ (A' : Around) (s : Shared) (E : Value → Shared → Prop) (mm : Str → Option Value) (k : Int) (t : Tok), s.heap.Ns Lg mm → mm x = some (.int k t) → (∀ b o, hB.get? b = some o → s.heap.get? b = some o) →
      wpAny (model prog w) A' (isTrue t1 env (eval t1 env)) (fun b s' => b = decide (k = 127) ∧ ∃ tk, s' = { s with toks := tk }) E s)
    (T2 : ∀ (A' : Around) (s : Shared) (E : Value → Shared → Prop) (mm : Str → Option Value) (k : Int) (t : Tok), s.heap.Ns Lg mm → mm x = some (.int k t) →
      wpAny (model prog w) A' (isTrue t2 env (eval t2 env)) (fun b s' => b = decide (k = 0) ∧ ∃ tk, s' = { s with toks := tk }) E s)
    (T3 : ∀ (A' : Around) (s : Shared) (E : Value → Shared → Prop) (mm : Str → Option Value) (k : Int) (t : Tok), s.heap.Ns Lg mm → mm y = some (.int k t) →
      wpAny (model prog w) A' (exec st3 env) (fun f s' => f = .next ∧ ∃ tk, s' = { s with toks := tk }) E s) : ∀ (d j n : Nat) (mm : Str → Option Value) (s₀ s : Shared), d + j = cnt + 1 → GSt hB Lg I l lo j mm s₀ s → (0 < j → ∃ t, mm y = some (.int size t)) →
    Seg (model prog w) A genR (genY hB Lg I l lo size) (n + 1) s₀ (.forLoop (.Name x px) (.ref I) [.If t1 [r1] [] p₁, .If t2 [st3, .While (.Constant (.bool true) kk p₄) [.Expr (.Yield (some (.Name y p₅)) p₆) p₇] [] p₂] [] p₃, .Expr (.Yield (some (.Name x p₈)) p₉) q₄, .Assign [.Name y q₂] (.Name x q₁) q₃] [] env)
      ((model prog w).den (.forLoop (.Name x px) (.ref I) [.If t1 [r1] [] p₁, .If t2 [st3, .While (.Constant (.bool true) kk p₄) [.Expr (.Yield (some (.Name y p₅)) p₆) p₇] [] p₂] [] p₃, .Expr (.Yield (some (.Name x p₈)) p₉) q₄, .Assign [.Name y q₂] (.Name x q₁) q₃] [] env)) fs s := by
  subst hlo
  intro d
  induction d with
  | zero =>
    intro j n mm s₀ s hj G hlast
    obtain rfl : j = cnt + 1 := by omega
    obtain ⟨tl, hlast⟩ := hlast (Nat.succ_pos _)
    have hit : (List.replicate (cnt + 1) size ++ [0, z])[cnt + 1]? = some 0 := by
      rw [List.getElem?_append_right (by simp)]; simp
    obtain ⟨t, ht⟩ := hi.get _ _ hit
    refine seg_forLoop (wpAny_pyNext_list_item G.it ⟨_, G.ls, rfl, cc, rfl⟩ (x := .int 0 t) (by simpa using ht) fun h' hi' hs' => ⟨_, rfl, ?_⟩)
    have G1 := G.next hi' hs' hI e3 e2
    refine wpAny_storeName_local hx (hL ▸ G1.ns) (fun h₂ hn₂ hs₂ H => ?_) hp
    have G2 := G1.store (tk := s.toks + 1) (hL ▸ hn₂) (hL ▸ hs₂) hLn e1 e2
    refine seg_execs_cons (seg_If (wpAny_mono (T1 _ _ _ _ 0 t G2.ns (if_pos rfl) G2.kp) (fun b s₃ h₃ => ?_) fun _ _ e => e))
    obtain ⟨rfl, tk₃, rfl⟩ := h₃
    rw [if_neg (by decide)]
    refine seg_execs_nil (seg_execs_cons (seg_If (wpAny_mono (T2 _ _ _ _ 0 t G2.ns (if_pos rfl)) (fun b s₄ h₄ => ?_) fun _ _ e => e)))
    obtain ⟨rfl, tk₄, rfl⟩ := h₄
    rw [if_pos (by decide)]
    refine seg_execs_cons (seg_stmt (wpAny_mono (T3 _ _ _ _ size tl G2.ns ((if_neg hyx).trans hlast)) (fun f s₅ h₅ => ?_) fun _ _ e => e))
    obtain ⟨rfl, tk₅, rfl⟩ := h₅
    refine seg_execs_cons (seg_While' fun k p => ?_)
    exact gen_while (split_ret hfs) (by exact hfg) hL hk hy hco hint hy' _ rfl n (G2.tok tk₅) ((if_neg hyx).trans hlast)
  | succ d ih =>
    intro j n mm s₀ s hj G hlast
    have hit : (List.replicate (cnt + 1) size ++ [0, z])[j]? = some size := by
      rw [List.getElem?_append_left (by simp; omega), List.getElem?_replicate, if_pos (by omega)]
    obtain ⟨t, ht⟩ := hi.get _ _ hit
    refine seg_forLoop (wpAny_pyNext_list_item G.it ⟨_, G.ls, rfl, cc, rfl⟩ (x := .int size t) (by simpa using ht) fun h' hi' hs' => ⟨_, rfl, ?_⟩)
    have G1 := G.next hi' hs' hI e3 e2
    refine wpAny_storeName_local hx (hL ▸ G1.ns) (fun h₂ hn₂ hs₂ H => ?_) hp
    have G2 := G1.store (tk := s.toks + 1) (hL ▸ hn₂) (hL ▸ hs₂) hLn e1 e2
    refine seg_execs_cons (seg_If (wpAny_mono (T1 _ _ _ _ size t G2.ns (if_pos rfl) G2.kp) (fun b s₃ h₃ => ?_) fun _ _ e => e))
    obtain ⟨rfl, tk₃, rfl⟩ := h₃
    rw [if_neg (by simp; omega)]
    refine seg_execs_nil (seg_execs_cons (seg_If (wpAny_mono (T2 _ _ _ _ size t G2.ns (if_pos rfl)) (fun b s₄ h₄ => ?_) fun _ _ e => e)))
    obtain ⟨rfl, tk₄, rfl⟩ := h₄
    rw [if_neg (by simp; omega)]
    refine seg_execs_nil (seg_execs_cons (gen_yield hfs hfg hL hk hx (G2.tok tk₄) (if_pos rfl) (fun m s'' e G' => ?_) hco hint hx'))
    refine seg_execs_cons (seg_stmt (wpAny_Assign_Name (wpAny_Name (wpAny_loadName_local hk hx (hL ▸ G'.ns) (if_pos rfl) (wpAny_storeName_local hy (hL ▸ G'.ns) (fun h₆ hn₆ hs₆ => ?_) hp)) hx') hsw))
    have G3 := G'.store (tk := s''.toks + 1) (hL ▸ hn₆) (hL ▸ hs₆) hLn e1 e2
    exact seg_execs_nil (seg_again rfl (ih (j + 1) m _ _ _ (by omega) G3 fun _ => ⟨t, if_pos rfl⟩))
end
end Mine
namespace Mine
theorem fresh_FGen : True := by w_top off; trivial

set_option maxRecDepth 100000 in
set_option maxHeartbeats 8000000 in
theorem gen_con {w : World} {dp un : Nat} {gd : Option (List Code)} {fr : Option (List Env)} {s : Shared} {hB : Heap} {mean : ExcName → Option Value} {mg mb : Str → Option Value}
  (X : (hd.heap_39 w.params).In hB) (T : Top hd.view_39 (looseW hd.view_39 [Str.ofString "_twin_re_1"]) mean mg mb hB) (hkp : ∀ b o, hB.get? b = some o → s.heap.get? b = some o)
  (hdp : dp + 5 < recursionLimit) {l : Addr} {its : List Value} {c : Nat} {size z : Int} {cnt : Nat} (hl : s.heap.get? l = some (listOf its.toArray c)) (hi : IntsAre its (List.replicate (cnt + 1) size ++ [0, z])) (h0 : 2 ≤ size) (h1 : size ≤ 9) (hlB : hB.get? l = none)
  {R : Result → Shared → Prop}
  (hR : ∀ L h₁ tk G c', (∀ b o, s.heap.get? b = some o → h₁.get? b = some o) → s.heap.objs.size ≤ L → L < G → h₁.objs.size = G + 1 → h₁.IsGen G s.gens.size → (∃ oL, h₁.get? L = some oL) →
     (∀ (A : Around) n s', s'.heap.objs.size = G + 1 → (∀ b o, hB.get? b = some o → s'.heap.get? b = some o) → s'.heap.get? l = some (listOf its.toArray c) → (∀ o, h₁.get? L = some o → s'.heap.get? L = some o) →
        Seg (model Challenge.rw_zn0005_01.row.prog w) A genR (genY hB L (G + 1) l (listOf its.toArray c) size) (n + 1) s' c' ((model Challenge.rw_zn0005_01.row.prog w).den c') [] s') →
      R (.ok (.ret (.ref G))) { s with gens := s.gens.push (.fresh c'), heap := h₁, toks := tk }) :
  codeAny (model Challenge.rw_zn0005_01.row.prog w) (AA dp un gd fr) (.call (.ref 50) ⟨[.ref l], []⟩) R s := by
  revert X; k_fill; intro X
  k_dflt (refine' enterG (binds := [(Str.ofString "grouping", .ref l)]) X T hkp ?k6 ?k7 ?k8 ?k9 ?kB ?_ ?c2 ?c3 ?c4 ?kN; (case k6 => k_is); (case k7 => k_is); (case k8 => (show dp < _; omega)); (case k9 => exact BindsTo.of_eq rfl); (case kB => exact locs rfl); (case kN => decide); (case c2 => exact rfl); (case c3 => exact rfl); (case c4 => exact rfl); k_whole)
  intro L h₁ tk G hn hk hL hG hs hg
  refine hR L h₁ tk G _ hk hL hG hs hg (let ⟨_, _, _, ho, _⟩ := hn; ⟨_, ho⟩) fun A n s' e1 e2 e3 e4 => ?_
  have hlt : l < s.heap.objs.size := Heap.lt_size hl
  have nB : ∀ b, s.heap.objs.size ≤ b → hB.get? b = none := fun b hb => by
    cases e : hB.get? b with
    | none => rfl
    | some o' => exact absurd (Heap.lt_size (hkp _ _ e)) (Nat.not_lt.mpr hb)
  have hn' := hn.at' e4
  refine seg_func (seg_execs_cons (seg_stmt (wpAny_Assign_Name (wpAny_Constant_none (wpAny_storeName_local rfl hn' (fun h₂ hn₂ hs₂ => ?_) rfl)))))
  refine seg_execs_cons (seg_For (wpAny_Name (wpAny_loadName_local rfl rfl hn₂ (v := .ref l) rfl (wpAny_pyIter_list (items := its.toArray) ⟨_, hs₂.extBut _ _ ?_ e3, rfl, c, rfl⟩ fun k p => ?_)) rfl))
  · exact Nat.ne_of_lt (Nat.lt_of_lt_of_le hlt hL)
  have hsz : h₂.objs.size = G + 1 := hs₂.1.trans e1
  have hne : ∀ b o, hB.get? b = some o → b ≠ L := fun b o e q => by rw [q, nB _ hL] at e; cases e
  dsimp only
  rw [hsz]
  have G0 : GSt hB L (G + 1) l (listOf its.toArray c) 0 _ s' { s' with heap := h₂.push { cls := .type "list_iterator", data := .fields #[.ref l, .int 0 0] }, toks := s'.toks + 1 } :=
    ⟨hn₂.push _, fun b o e => Heap.get?_push_of_some _ (hs₂.extBut b o (hne b o e) (e2 b o e)), Heap.get?_push_of_some _ (hs₂.extBut _ _ (Nat.ne_of_lt (Nat.lt_of_lt_of_le hlt hL)) e3), ⟨_, by rw [← hsz]; exact Heap.get?_push_size _ rfl, rfl, rfl⟩,
      _, _, rfl, fun b o hb _ e => Heap.get?_push_of_some _ (hs₂.extBut b o hb e)⟩
  refine gen_for hi rfl h0 h1 hlB (nB _ (Nat.le_trans (Nat.le_trans hL (Nat.le_of_lt hG)) (Nat.le_succ _))) (nB _ hL) (Nat.ne_of_lt (Nat.lt_of_lt_of_le hlt hL)) (Nat.ne_of_gt (Nat.lt_succ_of_lt hG)) (Nat.ne_of_lt (Nat.lt_of_lt_of_le hlt (Nat.le_trans hL (Nat.le_of_lt (Nat.lt_succ_of_lt hG))))) ?hyx ?r0 ?r1 ?r2 ?r3 ?r4 ?r5 ?r6 ?r7 ?r8 ?r9 ?r10 ?r11 ?T1 ?T2 ?T3 (cnt + 1) 0 n _ _ _ rfl G0 (fun h => absurd h (Nat.lt_irrefl _))
  case hyx => decide
  case r0 => rfl
  case r1 => rfl
  case r2 => rfl
  case r3 => rfl
  case r4 => rfl
  case r5 => rfl
  case r6 => rfl
  case r7 => rfl
  case r8 => rfl
  case r9 => rfl
  case r10 => rfl
  case r11 => rfl
  case T1 =>
    intro A' s E mm k t hn hv hk
    refine wpAny_isTrue_Compare1 (wpAny_Name (wpAny_loadName_local rfl rfl hn hv (Name_function_global rfl rfl (loadGlobal_global (T.g.keeps hk) (mg_of X T.g (by k_is)) ?_))))
    exact eq_int (wpAny_truthy_bool ⟨by simp [BEq.beq], _, rfl⟩)
  case T2 =>
    intro A' s E mm k t hn hv
    refine wpAny_isTrue_Compare1 (wpAny_Name (wpAny_loadName_local rfl rfl hn hv (wpAny_Constant_int (eq_int (wpAny_truthy_bool ⟨by simp [BEq.beq], _, rfl⟩)))))
  case T3 =>
    intro A' s E mm k t hn hv
    refine wpAny_If (wpAny_isTrue_Compare1 (wpAny_Name (wpAny_loadName_local rfl rfl hn hv (wpAny_Constant_none (is_none_gen (wpAny_truthy_bool ?_))))))
    exact wpAny_execs_nil ⟨rfl, _, rfl⟩
end Mine
namespace Mine
theorem fresh_FMarks : True := by w_top off; trivial

theorem flat_one (n : Nat) (x : Int) : List.flatten (List.replicate n [x]) = List.replicate n x := by
  induction n with
  | zero => rfl
  | succ k ih => rw [List.replicate_succ, List.flatten_cons, ih]; rfl
theorem marks_cnt (x size : Int) : List.flatten (List.replicate (Int.toNat (1 + Int.fmod x 3)) [size]) = List.replicate ((Int.fmod x 3).toNat + 1) size := by
  have h := Int.fmod_nonneg_of_pos x (show (0:Int) < 3 by decide)
  generalize Int.fmod x 3 = y at h ⊢
  rw [show Int.toNat (1 + y) = y.toNat + 1 by omega, flat_one]
theorem setGen_get {s : Shared} {g : Nat} {x y : GenState} (h : s.gens[g]? = some x) : (s.setGen g y).gens[g]? = some y := setGen_self h
def ItAt (oI : Option Obj) (h : Heap) (I : Addr) : Prop := match oI with | some o => h.get? I = some o | none => h.objs.size = I
/-- the generator is ready for n more steps -/
def GR (M : Model) (A : Around) (hB : Heap) (Lg I l : Addr) (lo : Obj) (size : Int) (n : Nat) (gst : GenState) (oL : Obj) (oI : Option Obj) : Prop :=
  ∀ s' : Shared, (∀ b o, hB.get? b = some o → s'.heap.get? b = some o) → s'.heap.get? l = some lo → s'.heap.get? Lg = some oL → ItAt oI s'.heap I →
    gst.Goes M A genR (genY hB Lg I l lo size) (n + 1) (.send .none) s'
section
variable {prog : Program} {w : World} {A : Around} {E : Value → Shared → Prop} {s : Shared} {hB : Heap} {Lg I l G L : Addr} {lo : Obj} {size : Int} {m : Str → Option Value} {news : List (Addr × Obj)}
theorem gen_next {n g : Nat} {gst : GenState} {oL : Obj} {oI : Option Obj} {Q : Option Value → Shared → Prop} (hh : A.handled = none) (hl : s.heap.NoLimit) (hroom : A.depth < recursionLimit) (hg : s.heap.IsGen G g) (hgs : s.gens[g]? = some gst)
    (R : GR (model prog w) A.in1 hB Lg I l lo size (n + 1) gst oL oI) (hB' : ∀ b o, hB.get? b = some o → s.heap.get? b = some o) (hl' : s.heap.get? l = some lo) (hoL : s.heap.get? Lg = some oL) (hoI : ItAt oI s.heap I)
    (hQ : ∀ t h' tk gens gst' oL' oI', (∀ b o, b ≠ Lg → b ≠ I → s.heap.get? b = some o → h'.get? b = some o) → h'.get? Lg = some oL' → h'.get? I = some oI' → gens[g]? = some gst' → ((∀ y ∈ s.gens, y.bare = true) → ∀ y ∈ gens, y.bare = true) → GR (model prog w) A.in1 hB Lg I l lo size n gst' oL' (some oI') →
      Q (some (.int size t)) { s with heap := h', gens := gens, toks := tk }) : wpAny (model prog w) A (pyNext (.ref G)) Q E s := by
  have hgo := R (s.setGen g .running) hB' hl' hoL hoI
  refine wpAny_pyNext_genexpQ (P := fun _ _ _ => False) hh hl hroom hg hgs hgo (fun v s₁ gs' hb hv => ?_) (fun s₁ hp => hp.elim)
  obtain ⟨⟨t, rfl⟩, ⟨h', tk, rfl, hk⟩, ⟨oL', hoL'⟩, ⟨oI', hoI'⟩, hκ⟩ := hv
  refine hQ t h' tk _ gs' oL' oI' hk hoL' hoI' (setGen_self (gs := .running) (setGen_self hgs)) ?_ fun s' h1 h2 h3 h4 => hκ (Nat.succ_ne_zero _) s' h1 (fun o e => ?_) (fun o e => ?_) h2
  · exact fun ha => GenOnlyQ.bare (GenOnlyQ.of ((GenOnly.setGen s g .running).trans (GenOnly.setGen _ g gs')) (setGen_self (gs := .running) (setGen_self hgs)) hb) ha
  · rw [hoL'] at e; cases e; exact h3
  · rw [hoI'] at e; cases e; exact h4
theorem _root_.PyProof.Rows.Fr.offs {h h' : Heap} (F : Fr hB L h m) (hk : ∀ b o, b ≠ Lg → b ≠ I → h.get? b = some o → h'.get? b = some o) (h1 : L ≠ Lg) (h2 : L ≠ I) (h3 : hB.get? Lg = none) (h4 : hB.get? I = none) : Fr hB L h' m :=
  ⟨F.ns.at' fun o e => hk _ o h1 h2 e, fun b o e => hk b o (fun q => by rw [q, h3] at e; cases e) (fun q => by rw [q, h4] at e; cases e) (F.keep b o e), F.above⟩
theorem storeFr {env : Env} {x : Str} {v : Value} {Q : Unit → Shared → Prop} (F : Fr hB L s.heap m) (N : News hB L s.heap news) (hx : env.kindOf x = some .local) (hL : env.locals = L)
    (h : ∀ h', Fr hB L h' (fun y => if y = x then some v else m y) → News hB L h' news → Q () { s with heap := h', toks := s.toks + 1 })
    (hp : (env.scope.kind == .class || (env.scope.kind == .module && env.locals != env.globals)) = false) : wpAny (model prog w) A (storeName env x v) Q E s := by
  subst hL
  refine wpAny_storeName_local hx F.ns (fun h' hn hs => h h' ⟨hn, fun b o e => hs.extBut b o (fun q => ?_) (F.keep b o e), F.above⟩ (N.set hs)) hp
  exact absurd (Heap.lt_size (q ▸ e)) (Nat.not_lt.mpr F.above)
end
theorem LoopO.of {prog : Program} {w : World} {A : Around} {E : Value → Shared → Prop} {s₂ : Shared} {env : Env} {x : Str} {body : List Stmt} {Q : Flow → Shared → Prop} {it : Value} (J : Model → Around → Nat → Shared → Prop) (n : Nat) (h0 : J (model prog w) A n s₂)
    (step : ∀ n s, J (model prog w) A n s → wpAny (model prog w) A (pyNext it) (fun r s₁ => match r with
    | none => Q .next s₁
    | some v => wpAny (model prog w) A (storeName env x v) (fun _ s₂ => wpAny (model prog w) A (execs body env) (fun f s₃ => match f with
          | .next | .cont => NextO (J (model prog w) A) n s₃
          | .brk => Q .next s₃
          | .ret v => Q (.ret v) s₃) E s₂) E s₁) E s) : LoopO prog w A env x body Q E it s₂ := ⟨J _ _, n, h0, step⟩
def mult (size : Int) (k : Nat) : List Int := (List.range k).map fun (i : Nat) => (i : Int) * size
theorem mult_last (size : Int) (i : Nat) : (mult size (i + 1))[i]? = some ((i : Int) * size) := by simp [mult]
theorem mult_len (size : Int) (k : Nat) : (mult size k).length = k := by simp [mult]
theorem mult_succ (size : Int) (k : Nat) : mult size (k + 1) = mult size k ++ [(k : Int) * size] := by simp [mult, List.range_succ]
theorem lastLed {prog : Program} {w : World} {A : Around} {E : Value → Shared → Prop} {s : Shared} {h₀ : Heap} {L : Addr} {news : List (Addr × Obj)} {value slice : PySem.Expr} {l : Addr} {its : List Value} {c i : Nat} {size : Int} {tk : Tok} {Q : Value → Shared → Prop}
    (N : News h₀ L s.heap news) (hm : (l, listOf its.toArray c) ∈ news) (hi : IntsAre its (mult size (i + 1))) (h2 : i < 1000000)
    (h : ∀ t, Q (.int ((i : Int) * size) t) s) (hs : subscripted slice false (.ref l) (.int (-1) tk) = operate [.ref l, .int (-1) tk] (getItem (.ref l) (.int (-1) tk)) := by with_unfolding_all rfl) :
    wpAny (model prog w) A (subscriptTail value slice (.ref l) (.int (-1) tk)) Q E s := by
  have hl : s.heap.IsList l its.toArray := ⟨_, (N _ hm).1, rfl, c, rfl⟩
  have hlen := hi.length
  rw [mult_len] at hlen
  obtain ⟨t, ht⟩ := hi.get i _ (mult_last size i)
  refine tail_any hl.typeIs slot_list_getitem.lookup (wpAny_getItem_list_neg hl (by decide) (by simp; omega) (by decide) (x := .int ((i : Int) * size) t) ?_ (h t)) hs
  have : ((-1 : Int) + (its.toArray.size : Int)).toNat = i := by simp; omega
  rw [this]; simpa using ht
def MJ (M : Model) (A : Around) (s : Shared) (L lM D Lg G : Addr) (lo oG : Obj) (size last : Int) (m₀ : Str → Option Value) (g n : Nat) (s' : Shared) : Prop :=
  ∃ h gens tk m its c i gst oL oI, s' = { s with heap := h, gens := gens, toks := tk } ∧ Fr s.heap L h m ∧ Off1 (Str.ofString "step") m₀ m ∧ News s.heap L h ((lM, listOf (List.toArray its) c) :: (D, lo) :: (Lg, oL) :: (G, oG) :: (oI.toList.map fun o => (G + 1, o))) ∧ IntsAre its (mult size (i + 1)) ∧ n + i = last.toNat + 2 ∧ (i : Int) * size ≤ last ∧
    gens[g]? = some gst ∧ ((∀ y ∈ s.gens, y.bare = true) → ∀ y ∈ gens, y.bare = true) ∧ (oI = none → h.objs.size = G + 1) ∧ GR M A.in1 s.heap Lg (G + 1) D lo size n gst oL oI
abbrev MJF {h₀ hx : Heap} {LL : Addr} {m₀ : Str → Option Value} (_F : Fr h₀ LL hx m₀) (M : Model) (A : Around) (s : Shared) (L lM D Lg G : Addr) (lo oG : Obj) (size last : Int) (g n : Nat) (s' : Shared) : Prop := MJ M A s L lM D Lg G lo oG size last m₀ g n s'
local macro_rules | `(tactic| ktn_open) => `(tactic| repeat' (first | (k_unfold; (try dsimp only)) | ((fail_if_success (with_reducible show wpAny _ _ (exec (Stmt.For _ _ _ _ _) _) _ _ _)); (fail_if_success (with_reducible show wpAny _ _ (call (Value.ref 50) _) _ _ _)); (fail_if_success (with_reducible show wpAny _ _ (pyIter (Value.ref _)) _ _ _)); (fail_if_success (with_reducible show wpAny _ _ (subscriptTail _ _ (Value.ref _) (Value.int (-1) _)) _ _ _)); (fail_if_success (with_reducible show InvPostN _ _ _ _ _ _ _ _ _)); first | walk1 | (dsimp only; walk1) | (leave1; walk_say "STEP leave1"; try dsimp only))))
local macro_rules | `(tactic| units_room) => `(tactic| (dsimp only [Around.deeper, Around.in1, Around.mark, AA]; omega))
set_option maxRecDepth 100000 in
set_option maxHeartbeats 8000000 in
theorem marks_con {w : World} {dp un : Nat} {gd : Option (List Code)} {fr : Option (List Env)} {s : Shared} {mean : ExcName → Option Value} {mg mb : Str → Option Value}
  (X : (hd.heap_39 w.params).In s.heap) (T : Top hd.view_39 (looseW hd.view_39 [Str.ofString "_twin_re_1"]) mean mg mb s.heap)
  (hdp : dp + 10 < recursionLimit) (hun : un + 300 < cLine) {l : Addr} {vs : List Value} {ns : List Int} {size last : Int} {ts tl : Tok} (hl : s.heap.IsList l vs.toArray) (hi : IntsAre vs ns) (hn : ns.length = 5) (hz0 : 2 ≤ size) (hz1 : size ≤ 9) (hla0 : 0 ≤ last) (hla1 : last ≤ 100) {R : Result → Shared → Prop}
  (hR : ∀ l (its : List Value) c (i : Nat) h' g' tk, (∀ b o, s.heap.get? b = some o → h'.get? b = some o) → s.heap.get? l = none → h'.get? l = some (listOf its.toArray c) → IntsAre its (mult size (i + 1)) → (i : Int) * size ≤ last → last < (i : Int) * size + size → ((∀ y ∈ s.gens, y.bare = true) → ∀ y ∈ g', y.bare = true) → R (.ok (.ret (.ref l))) { s with heap := h', gens := g', toks := tk }) :
  codeAny (model Challenge.rw_zn0005_01.row.prog w) (AA dp un gd fr) (.call (.ref 104) ⟨[.int size ts, .ref l, .int last tl], []⟩) R s := by
  revert X; k_fill; intro X
  k_dflt (refine' enterP (binds := [(Str.ofString "size", .int size ts), (Str.ofString "heaps", .ref l), (Str.ofString "last", .int last tl)]) ?k1 ?k2 ?k6 ?k7 ?k8 ?k9 ?kB ?_ ?c2 ?c3 ?c4 ?kN; (case k1 => k_asm); (case k2 => k_asm); (case k6 => k_is); (case k7 => k_is); (case k8 => (show dp < _; omega)); (case k9 => exact BindsTo.of_eq rfl); (case kB => exact locs rfl); (case kN => decide); (case c2 => exact rfl); (case c3 => exact rfl); (case c4 => exact rfl); k_whole)
  intro L h₁ F N
  (try dsimp only)
  (try k_unmd); k_fold
  ktn_open
  rename Fr _ _ _ _ => F0; rename News _ _ _ _ => N0
  refine For_own ?_
  ktn_open
  rename IntsAre _ _ => I9; rename Fr _ _ _ _ => F9; rename News _ _ _ _ => N9
  have hlo := (N9 _ (.head _)).1
  rw [marks_cnt] at I9
  refine wpAny_call (gen_con X T F9.keep (by show dp + 1 + 5 < _; omega) hlo I9 hz0 hz1 (N9 _ (.head _)).2.2 ?_)
  rename Heap => h9
  intro Lg h₁ tk₁ G c' hk₁ hL₁ hG₁ hs₁ hg₁ hoL ready
  show wpAny _ _ (pyIter (.ref G)) _ _ _
  refine wpAny_pyIter_gen (g := s.gens.size) hg₁ ?_
  obtain ⟨oG, nm, qn, hoG, hcG, hdG, hsG⟩ := id hg₁
  obtain ⟨oL, hoL⟩ := hoL
  have fresh : ∀ b, h9.objs.size ≤ b → s.heap.get? b = none := fun b hb => by
    cases e : s.heap.get? b with
    | none => rfl
    | some o => exact absurd (Heap.lt_size (F9.keep _ _ e)) (Nat.not_lt.mpr hb)
  have I0 : ∀ t, IntsAre [.int 0 t] (mult size (0 + 1)) := fun t => by rw [show mult size (0 + 1) = [0] by simp [mult]]; exact .cons 0 t .nil
  have hlM := Nat.lt_of_lt_of_le (Heap.lt_size (N9 _ (.tail _ (.tail _ (.tail _ (.tail _ (.head _)))))).1) hL₁
  have hlD := Nat.lt_of_lt_of_le (Heap.lt_size (N9 _ (.head _)).1) hL₁
  have hlL := Nat.lt_of_lt_of_le F9.ns.lt hL₁
  have neD := Nat.ne_of_gt (‹_ < _ ∧ _ < _ ∧ _ < _ ∧ _ < _›).2.2.2
  have hI0 : s.heap.get? (G + 1) = none := fresh _ (Nat.le_of_lt (Nat.lt_of_le_of_lt hL₁ (Nat.lt_succ_of_lt hG₁)))
  have F8 := F9.keeps hk₁
  have N8 : News s.heap L h₁ ((_, _) :: (_, _) :: (Lg, oL) :: (G, oG) :: ((none : Option Obj).toList.map fun o => (G + 1, o))) := List.forall_mem_cons.mpr ⟨N9.grown hk₁ _ (.tail _ (.tail _ (.tail _ (.tail _ (.head _))))), List.forall_mem_cons.mpr ⟨N9.grown hk₁ _ (.head _), List.forall_mem_cons.mpr ⟨⟨hoL, Nat.ne_of_gt (Nat.lt_of_lt_of_le F9.ns.lt hL₁), fresh _ hL₁⟩, List.forall_mem_cons.mpr ⟨⟨hoG, Nat.ne_of_gt (Nat.lt_trans (Nat.lt_of_lt_of_le F9.ns.lt hL₁) hG₁), fresh _ (Nat.le_of_lt (Nat.lt_of_le_of_lt hL₁ hG₁))⟩, List.forall_mem_nil _⟩⟩⟩⟩
  refine LoopO.of (fun M A => MJF F8 M A s L _ _ Lg G _ oG size last s.gens.size) (last.toNat + 2) ⟨h₁, _, _, _, _, _, 0, _, oL, none, rfl, F8, fun _ _ => rfl, N8, I0 _, by omega, by simpa using hla0, Array.getElem?_push_size .., ?_, fun _ => hs₁, ?_⟩ ?_
  · intro ha y hy
    rcases Array.mem_push.mp hy with h | rfl
    · exact ha y h
    · rfl
  · exact fun s' h1 h2 h3 h4 => ⟨rfl, ready _ _ _ h4 h1 h2 fun o e => by rw [hoL] at e; cases e; exact h3⟩
  · rintro n s₁ ⟨h, gens, tk, m, its, c, i, gst, pL, pI, rfl, F, hm, N, hI, hni, hil, hgst, hb, hpI, hGR⟩
    have hlo1 := (N _ (.tail _ (.head _))).1
    have hoL1 := (N _ (.tail _ (.tail _ (.head _)))).1
    have hoG1 := (N _ (.tail _ (.tail _ (.tail _ (.head _))))).1
    obtain ⟨n, rfl⟩ : ∃ n', n = n' + 1 := ⟨n - 1, by have h1 : (i : Int) * 2 ≤ i * size := Int.mul_le_mul_of_nonneg_left hz0 (by omega); omega⟩
    refine gen_next rfl ((T.nolimit).keeps F.keep) (by show dp + 1 < _; omega) ⟨oG, nm, qn, hoG1, hcG, hdG, hsG⟩ hgst hGR F.keep hlo1 hoL1 ?_ ?_
    · cases pI with
      | none => exact hpI rfl
      | some o => exact (N _ (.tail _ (.tail _ (.tail _ (.tail _ (.head _)))))).1
    intro t h' tk' gens' gst' oL' oI' hk' hL' hI' hg' hb' hGR'
    have F' : Fr s.heap L h' m := F.offs (fun b o h1 h2 e => hk' b o h1 h2 e) (Nat.ne_of_lt hlL) (Nat.ne_of_lt (Nat.lt_trans hlL (Nat.lt_succ_of_lt hG₁))) (fresh _ hL₁) hI0
    have N' : News s.heap L h' ((_, listOf its.toArray c) :: (_, _) :: (Lg, oL') :: (G, oG) :: (G + 1, oI') :: []) := List.forall_mem_cons.mpr ⟨⟨hk' _ _ (Nat.ne_of_lt hlM) (Nat.ne_of_lt (Nat.lt_trans hlM (Nat.lt_succ_of_lt hG₁))) (N _ (.head _)).1, (N _ (.head _)).2⟩,
      List.forall_mem_cons.mpr ⟨⟨hk' _ _ (Nat.ne_of_lt hlD) (Nat.ne_of_lt (Nat.lt_trans hlD (Nat.lt_succ_of_lt hG₁))) hlo1, (N _ (.tail _ (.head _))).2⟩,
      List.forall_mem_cons.mpr ⟨⟨hL', (N _ (.tail _ (.tail _ (.head _)))).2⟩,
      List.forall_mem_cons.mpr ⟨⟨hk' _ _ (Nat.ne_of_gt hG₁) (Nat.ne_of_lt (Nat.lt_succ_self _)) hoG1, (N _ (.tail _ (.tail _ (.tail _ (.head _))))).2⟩,
      List.forall_mem_cons.mpr ⟨⟨hI', Nat.ne_of_gt (Nat.lt_trans hlL (Nat.lt_succ_of_lt hG₁)), hI0⟩, List.forall_mem_nil _⟩⟩⟩⟩⟩
    dsimp only
    refine storeFr F' N' rfl rfl (fun h2 F2 N2 => ?_) rfl
    rw [map_none hm] at F2
    have hDM := neD
    have hG2 : Lg < G + 1 := Nat.lt_succ_of_lt hG₁
    have hlG := Nat.lt_trans hlM hG₁
    have hlG2 := Nat.lt_trans hlM hG2
    clear N N' F F' hpI hGR hgst ready N8 hoG1 hL' hI' hk' hoL1 hlo1
    (try dsimp only); (try k_unmd); k_fold
    ktn_open
    have hi9 : i < 1000000 := by have h1 : (i : Int) * 2 ≤ i * size := Int.mul_le_mul_of_nonneg_left hz0 (by omega); omega
    refine lastLed N2 (.head _) hI hi9 (fun t2 => ?_)
    ktn_open
    · exact hR _ _ _ i _ _ _ F2.keep (N2 _ (.head _)).2.2 (N2 _ (.head _)).1 hI hil ‹_ < _› (fun ha => hb' (hb ha))
    · refine lastLed N2 (.head _) hI hi9 (fun t2 => ?_)
      ktn_open
      refine append_at (N2 _ (.head _)).1 (fun h3 hs3 hd3 => ?_) (by rw [List.size_toArray, sizeLine_eq, hI.length, mult_len]; omega)
      have F3 := F2.change hs3 (N2 _ (.head _)).2.1 (N2 _ (.head _)).2.2
      have N3 := N2.setHead (o' := listOf (its ++ [Value.int ((i : Int) * size + size) _]).toArray (c + 1)) (List.forall_mem_cons.mpr ⟨hDM, List.forall_mem_cons.mpr ⟨Nat.ne_of_gt hlM, List.forall_mem_cons.mpr ⟨Nat.ne_of_gt hlG, List.forall_mem_cons.mpr ⟨Nat.ne_of_gt hlG2, List.forall_mem_nil _⟩⟩⟩⟩) hs3 (hd3.trans (by rw [List.push_toArray]))
      refine wpAny_execs_nil ⟨n, Nat.lt_succ_self _, h3, gens', _, _, _, _, i + 1, gst', oL', some oI', rfl, F3, fun z hz => if_neg hz, N3, ?_, by omega, ?_, hg', fun ha => hb' (hb ha), fun e => (nomatch e), hGR'⟩
      · rw [mult_succ, show (((i + 1 : Nat) : Int) * size) = (i : Int) * size + size by rw [Int.natCast_add, Int.add_mul]; simp]
        exact hI.append (.cons _ _ .nil)
      · rw [show (((i + 1 : Nat) : Int) * size) = (i : Int) * size + size by rw [Int.natCast_add, Int.add_mul]; simp]
        omega
end Mine
namespace Mine
theorem fresh_FSwap : True := by w_top off; trivial

theorem boot_bytearray : bootBuiltins (Str.ofString "bytearray") = some (.type "bytearray") := by decide +kernel
theorem type_name {prog : Program} {w : World} {A : Around} {E : Value → Shared → Prop} {s : Shared} {h₀ : Heap} {L : Addr} {m mg mb : Str → Option Value} {K : Frag} {p : Program} {loose : List Str} {mean : ExcName → Option Value} {env : Env} {pos : Pos} {x : Str} {v : Value} {Q : Value → Shared → Prop}
    (F : Fr h₀ L s.heap m) (X : K.In h₀) (T : Top p loose mean mg mb h₀) (e : nsIn K mainGlobals x = some none) (hv : bootBuiltins x = some v) (hg : env.globals = mainGlobals) (hb : env.builtins = builtinsNs) (hk : env.scope.kind = .function) (hx : env.kindOf x = some .globalImplicit) (hd : (x == ("__debug__" : Str)) = false) (h0 : x ≠ "__name__") (h : Q v s) :
    wpAny (model prog w) A (eval (.Name x pos) env) Q E s :=
  Name_function_global hk hx (loadGlobal_builtin (by rw [hg]; exact T.g.keeps F.keep) (mg_none_of X T.g e) (by rw [hb]; exact T.b.keeps F.keep) ((T.builtins _ h0).trans hv) h) hd
def baObj (b : Array UInt8) : Obj := { cls := .type "bytearray", data := .bytearray b }
theorem one_turn {n : Int} (h0 : 2 ≤ n) (h1 : n ≤ 100) : Builtin.Range.small 0 n n = true ∧ Builtin.Range.rangeSize 0 n n = ((1 : Nat) : Int) := by
  obtain ⟨k, rfl⟩ := Int.eq_ofNat_of_zero_le (show 0 ≤ n by omega)
  have h : ∀ k ≤ 100, 2 ≤ k → Builtin.Range.small 0 ((k : Nat) : Int) ((k : Nat) : Int) = true ∧ Builtin.Range.rangeSize 0 ((k : Nat) : Int) ((k : Nat) : Int) = 1 := by decide +kernel
  exact h k (by omega) (by omega)
def RevTo (xs : List UInt8) (i : Nat) (b : Array UInt8) : Prop := b.size = xs.length ∧ ∀ q, q < i → b[xs.length - 1 - q]? = xs[q]?
theorem RevTo.step {xs : List UInt8} {i : Nat} {b : Array UInt8} (h : RevTo xs i b) (hi : i < xs.length) : RevTo xs (i + 1) (b.setIfInBounds (xs.length - 1 - i) (xs.getD i 0)) := by
  refine ⟨by simp [h.1], fun q hq => ?_⟩
  by_cases e : q = i
  · subst e
    have : xs.length - 1 - q < b.size := by rw [h.1]; omega
    simp [Array.getElem?_setIfInBounds, this, List.getD_eq_getElem?_getD, hi]
  · rw [Array.getElem?_setIfInBounds_ne (by omega)]
    exact h.2 q (by omega)
theorem RevTo.done {xs : List UInt8} {b : Array UInt8} (h : RevTo xs xs.length b) : b = xs.reverse.toArray := by
  refine Array.ext_getElem? fun p => ?_
  by_cases hp : p < xs.length
  · have := h.2 (xs.length - 1 - p) (by omega)
    rw [show xs.length - 1 - (xs.length - 1 - p) = p by omega] at this
    rw [this]
    simp [List.getElem?_reverse hp]
  · rw [Array.getElem?_eq_none (by rw [h.1]; omega), Array.getElem?_eq_none (by simp; omega)]
def JO (d : Addr) (xs : List UInt8) (m₀ : Str → Option Value) (i : Nat) (m : Str → Option Value) (nx : List (Addr × Obj)) : Prop :=
  ∃ b, nx = [(d, baObj b)] ∧ RevTo xs (if i = 0 then 0 else xs.length) b ∧ Off2 (Str.ofString "i") (Str.ofString "j") m₀ m
def JI (d : Addr) (xs : List UInt8) (own : List (Addr × Obj)) (m₀ : Str → Option Value) (i : Nat) (m : Str → Option Value) (nx : List (Addr × Obj)) : Prop :=
  ∃ b, nx = (d, baObj b) :: own ∧ RevTo xs i b ∧ Off1 (Str.ofString "j") m₀ m
local macro_rules | `(tactic| ktn_open) => `(tactic| repeat' (first | (k_unfold; (try dsimp only)) | ((fail_if_success (with_reducible show wpAny _ _ (exec (Stmt.For _ _ _ _ _) _) _ _ _)); (fail_if_success (with_reducible show wpC _ _ _ _ _ _)); (fail_if_success (with_reducible show wpAny _ _ (pyIter (Value.ref _)) _ _ _)); (fail_if_success (with_reducible show wpAny _ _ (setItem (Value.ref _) _ _) _ _ _)); (fail_if_success (with_reducible show wpAny _ _ (call (Value.type "bytes") [Value.ref _]) _ _ _)); (fail_if_success (with_reducible show InvPostN _ _ _ _ _ _ _ _ _)); first | walk1 | (dsimp only; walk1) | (leave1; walk_say "STEP leave1"; try dsimp only))))
local macro_rules | `(tactic| units_room) => `(tactic| (dsimp only [Around.deeper, Around.in1, Around.mark, AA]; omega))
set_option maxRecDepth 100000 in
set_option maxHeartbeats 8000000 in
theorem bs_con {w : World} {dp un : Nat} {gd : Option (List Code)} {fr : Option (List Env)} {s : Shared} {mean : ExcName → Option Value} {mg mb : Str → Option Value}
  (X : (hd.heap_39 w.params).In s.heap) (T : Top hd.view_39 (looseW hd.view_39 [Str.ofString "_twin_re_1"]) mean mg mb s.heap)
  (hdp : dp + 5 < recursionLimit) (hun : un + 300 < cLine) {xs : List UInt8} {n : Int} {ta tb : Tok} (hn : (xs.length : Int) = n) (h0 : 2 ≤ n) (h1 : n ≤ 100) {R : Result → Shared → Prop}
  (hR : ∀ t h' tk, (∀ b o, s.heap.get? b = some o → h'.get? b = some o) → R (.ok (.ret (.bytes xs.reverse.toArray t))) { s with heap := h', toks := tk }) :
  codeC (model Challenge.rw_zn0005_01.row.prog w) (AA dp un gd fr) (.call (.ref 85) ⟨[.bytes xs.toArray ta, .int n tb], []⟩) R s := by
  revert X; k_fill; intro X
  k_dflt (refine' codeC_enter (binds := [(Str.ofString "data", .bytes xs.toArray ta), (Str.ofString "width", .int n tb)]) ?k1 ?k2 ?k6 ?k7 ?k8 ?k9 ?kB ?_ ?c2 ?c3 ?c4 ?kN; (case k1 => k_asm); (case k2 => k_asm); (case k6 => k_is); (case k7 => k_is); (case k8 => (show dp < _; omega)); (case k9 => exact BindsTo.of_eq rfl); (case kB => exact locs rfl); (case kN => decide); (case c2 => exact rfl); (case c3 => exact rfl); (case c4 => exact rfl); k_whole)
  intro L h₁ F N
  (try dsimp only)
  refine wpC_execs_cons (wpC_Assign_Name (wpC_Call_ ?_) ?_)
  · refine type_name F X T (by k_is) boot_bytearray rfl rfl rfl rfl rfl (by decide) ?_
    refine wpC_callWith_type1 ?_
    refine args_cons ?_
    ktn_open
    refine call_ba (by simp; omega) (by simp; omega) fun h₂ ho hk => ?_
    have F2 := F.keeps hk
    have hnone : s.heap.get? h₁.objs.size = none := by
      cases e : s.heap.get? h₁.objs.size with
      | none => rfl
      | some o => exact absurd (Heap.lt_size (F.keep _ _ e)) (Nat.lt_irrefl _)
    have N2 : News s.heap L h₂ [(h₁.objs.size, baObj (Array.replicate ((xs.toArray.size : Int)).toNat 0))] := List.forall_mem_cons.mpr ⟨⟨ho, Nat.ne_of_gt F.ns.lt, hnone⟩, List.forall_mem_nil _⟩
    generalize h₁.objs.size = d at F2 N2 ⊢
    refine storeFr F2 N2 rfl rfl (fun h3 F3 N3 => ?_) rfl
    clear ho hk F2 N2 F N hnone
    refine wpC_of ?_
    (try dsimp only); (try k_unmd); k_fold
    ktn_open
    rename Fr _ _ _ _ => F4; rename News _ _ _ _ => N4
    refine For_invVF F4 rfl rfl ?_
    ktn_open
    rename Fr _ _ _ _ => F5; rename News _ _ _ _ => N5; rename IsRange _ _ _ _ _ _ _ _ => R5
    have h0' : (xs.length : Int) = (xs.toArray.size : Int) := by simp
    rw [← h0', hn] at R5
    obtain ⟨hsm, hsz⟩ := one_turn h0 h1
    refine wpAny_pyIter_range R5 hsm ?_
    refine loop_invN (JO d xs _) (Walks.range rfl _ 0 n 1) ?_ ?_ ?_ ?_ (by show IsRangeIter _ _ _ _ _; rw [hsz]; simpa using Heap.get?_push_size _ rfl) (F5.push _) (fun p hp => ⟨Heap.get?_push_of_some _ (N5 p hp).1, (N5 p hp).2⟩) ⟨_, rfl, ⟨by simp, fun q hq => absurd hq (Nat.not_lt_zero _)⟩, fun _ _ _ => rfl⟩ ?_ ?_
    · intro hm
      exact absurd F5.ns.lt ((List.mem_singleton.mp hm) ▸ Nat.lt_irrefl _)
    · intro b hb
      rw [List.mem_singleton.mp hb]
      exact next_is_new F5
    · intro p hp hI
      exact absurd (Heap.lt_size (N5 p hp).1) ((List.mem_singleton.mp hI) ▸ Nat.lt_irrefl _)
    · intro p hp hI
      exact absurd (Heap.lt_size (N5 p hp).1) ((List.mem_singleton.mp hI) ▸ Nat.lt_irrefl _)
    · rintro i v m₁ nx h tk own hi ⟨t, rfl⟩ hadr hoff ⟨b, rfl, hb, hm⟩ F' N'
      obtain rfl : i = 0 := by omega
      rw [map_skip hm, show (0 + ((0 : Nat) : Int) * n) = 0 by simp] at F'
      simp only [List.cons_append, List.nil_append] at N'
      clear hm
      (try dsimp only); (try k_unmd); k_fold
      ktn_open
      refine For_invVF F' rfl rfl ?_
      ktn_open
      rename Fr _ _ _ _ => F6; rename News _ _ _ _ => N6; rename IsRange _ _ _ _ _ _ _ _ => R6
      refine kpr_invN (JI d xs own _) rfl R6 (small_nn (by omega) h1) (range_size n) F6 N6 ⟨b, rfl, hb, fun _ _ => rfl⟩ ?_ ?_
      · rintro j k t' m₂ nx h tk own' hk hoff' ⟨b', rfl, hb', hm'⟩ F'' N''
        rw [map_none hm'] at F''
        simp only [List.cons_append] at N''
        have hkb := mem_rangeKs (List.mem_of_getElem? hk)
        have hkj : k = 0 + (j : Int) ∧ j < (n - 0).toNat := by
          rw [rangeKs, List.getElem?_map] at hk
          obtain ⟨q, hq, rfl⟩ := Option.map_eq_some_iff.mp hk
          obtain ⟨h1, h2⟩ := List.getElem?_eq_some_iff.mp hq
          simp at h1 h2; omega
        clear hm' hk
        (try dsimp only); (try k_unmd); k_fold
        ktn_open
        obtain ⟨rfl, hjn⟩ := hkj
        have hjl : j < xs.length := by omega
        have e1 : (0 + (0 + (j : Int))).toNat = j := by omega
        rw [e1]
        have hlt := (xs.getD j 0).toNat_lt
        refine setItem_ba (N'' _ (.head _)).1 (by omega) (by rw [hb'.1]; omega) (by rw [hb'.1]; omega) (by omega) (by omega) (fun h3 ho3 hs3 => ?_)
        have e2 : ((0 : Int) + n - 1 - (0 + (j : Int))).toNat = xs.length - 1 - j := by omega
        rw [e2, Int.toNat_natCast, show (xs.getD j 0).toNat.toUInt8 = xs.getD j 0 by simp] at ho3
        have F9 := F''.change hs3 (N'' _ (.head _)).2.1 (N'' _ (.head _)).2.2
        have N9 := N''.setHead (o' := baObj (b'.setIfInBounds (xs.length - 1 - j) (xs.getD j 0))) (fun p hp => ?_) hs3 ho3
        · refine wpAny_execs_nil ⟨_, _, _, _, (d, baObj (b'.setIfInBounds (xs.length - 1 - j) (xs.getD j 0))) :: own, rfl, F9, N9, ?_, ?_, ?_, ⟨_, rfl, hb'.step hjl, fun z hz => if_neg hz⟩⟩
          · intro p hp; simp only [List.mem_cons, List.mem_append] at hp ⊢; rcases hp with h | h <;> simp [h]
          · intro p hp; simp [hp]
          · rfl
        · rcases List.mem_append.mp hp with h | h
          · exact hoff.ne (.head _) p h
          · exact hoff'.ne (.head _) p h
      · rintro m₂ nx h tk ⟨b', rfl, hb', hm'⟩ F'' N''
        rw [← done_none hm'] at F''
        (try dsimp only); (try k_unmd)
        ktn_open
        rw [rangeKs_length, show (n - 0).toNat = xs.length by omega] at hb'
        refine ⟨_, _, _, _, [(d, baObj b')], rfl, F'', N'', ?_, ?_, ?_, ⟨b', rfl, by rw [if_neg (by decide)]; exact hb', ?_⟩⟩
        · intro p hp; rw [List.mem_singleton.mp hp]; exact .head _
        · exact fun p hp => .tail _ hp
        · rfl
        · intro z h1 h2
          simp only [if_neg h1, if_neg h2]
    · rintro m₁ nx h tk ⟨b, rfl, hb, hm⟩ F' N'
      rw [← done_skip hm] at F'
      (try dsimp only); (try k_unmd)
      ktn_open
      rw [if_neg (by decide)] at hb
      refine call_bytes_ba (N' _ (.head _)).1 (by rw [hb.1]; omega) fun t k => ?_
      rw [hb.done]
      exact hR _ _ _ F'.keep
  · rfl
end Mine
namespace Mine
theorem fresh_FCount : True := by w_top off; trivial

local macro_rules | `(tactic| ktn_open) => `(tactic| repeat' (first | (k_unfold; (try dsimp only)) | ((fail_if_success (with_reducible show wpAny _ _ (exec (Stmt.For _ _ _ _ _) _) _ _ _)); (fail_if_success (with_reducible show wpAny _ _ (pyIter (Value.ref _)) _ _ _)); (fail_if_success (with_reducible show wpAny _ _ (getMethod (Value.ref _) _ _) _ _ _)); (fail_if_success (with_reducible show InvPostN _ _ _ _ _ _ _ _ _)); first | walk1 | (dsimp only; walk1) | (leave1; walk_say "STEP leave1"; try dsimp only))))
local macro_rules | `(tactic| units_room) => `(tactic| (dsimp only [Around.deeper, Around.in1, Around.mark, AA]; omega))
def sumC (c : List (Str × Int)) : Int := c.foldl (fun n p => n + p.2) 0
def JS (c : List (Str × Int)) (news : List (Addr × Obj)) (m₀ : Str → Option Value) (i : Nat) (m : Str → Option Value) (nx : List (Addr × Obj)) : Prop :=
  nx = news ∧ (∃ t, m (Str.ofString "nc") = some (.int ((c.take i).foldl (fun n p => n + p.2) 0) t)) ∧ Off2 (Str.ofString "calls") (Str.ofString "nc") m₀ m
theorem take_fold' {α β : Type} {g : β → α → β} {z : β} {c : List α} {i : Nat} {p : α} (h : c[i]? = some p) : (c.take (i + 1)).foldl g z = g ((c.take i).foldl g z) p := by
  rw [List.take_add_one, h]; simp
theorem map_sum {x y : Str} {m₁ m₀ : Str → Option Value} {v u : Value} (ha : m₁ y = some u) (hm : ∀ z, z ≠ x → z ≠ y → m₁ z = m₀ z) : (fun z => if z = x then some v else m₁ z) = fun z => if z = x then some v else if z = y then some u else m₀ z := map_one ha hm
set_option maxRecDepth 100000 in
set_option maxHeartbeats 8000000 in
theorem count_con {w : World} {dp un : Nat} {gd : Option (List Code)} {fr : Option (List Env)} {s : Shared} {mean : ExcName → Option Value} {mg mb : Str → Option Value}
  (X : (hd.heap_39 w.params).In s.heap) (T : Top hd.view_39 (looseW hd.view_39 [Str.ofString "_twin_re_1"]) mean mg mb s.heap)
  (hdp : dp + 5 < recursionLimit) (hun : un + 300 < cLine) {d : Addr} {c : List (Str × Int)} (D : StrTab Challenge.rw_zn0005_01.row.prog w s.heap d (kdpD c)) {R : Result → Shared → Prop}
  (hR : ∀ t h' tk, (∀ b o, s.heap.get? b = some o → h'.get? b = some o) → R (.ok (.ret (.int (sumC c) t))) { s with heap := h', toks := tk }) :
  codeAny (model Challenge.rw_zn0005_01.row.prog w) (AA dp un gd fr) (.call (.ref 78) ⟨[.ref d], []⟩) R s := by
  revert X; k_fill; intro X
  k_dflt (refine' enterP (binds := [(Str.ofString "callers", .ref d)]) ?k1 ?k2 ?k6 ?k7 ?k8 ?k9 ?kB ?_ ?c2 ?c3 ?c4 ?kN; (case k1 => k_asm); (case k2 => k_asm); (case k6 => k_is); (case k7 => k_is); (case k8 => (show dp < _; omega)); (case k9 => exact BindsTo.of_eq rfl); (case kB => exact locs rfl); (case kN => decide); (case c2 => exact rfl); (case c3 => exact rfl); (case c4 => exact rfl); k_whole)
  intro L h₁ F N
  (try dsimp only)
  (try k_unmd); k_fold
  ktn_open
  rename Fr _ _ _ _ => F0; rename News _ _ _ _ => N0
  refine For_invVF F0 rfl rfl ?_
  ktn_open
  refine getMethod_tab PySem.F.slot_dict_values PySem.F.type_dict_values (D.keep F0.keep) (callWith_method0 ?_)
  refine call_values_tab (D.keep F0.keep) F0 N0 fun h1 o1 hv1 F1 N1 => ?_
  obtain ⟨od, hod⟩ := D.old
  have hdlt : d < s.heap.objs.size := Heap.lt_size hod
  obtain ⟨_, kvs, hdo, hf⟩ := D.keep F1.keep
  obtain ⟨ep, hat⟩ := hdo.dictAt
  have hne : d ≠ h1.objs.size := Nat.ne_of_lt hat.lt_size
  refine wpAny_pyIter_values hv1 hat ?_
  refine loop_invN (JS c [] _) (Walks.dictValues rfl h1.objs.size d hne kvs ep) ?_ ?_ ?_ ?_ ⟨⟨_, Heap.get?_push_size _ rfl, rfl, rfl⟩, hat.push _⟩ (F1.push _) News.nil ⟨rfl, ⟨_, rfl⟩, fun _ _ _ => rfl⟩ ?_ ?_
  · intro hI
    rcases List.mem_cons.mp hI with e | e
    · exact absurd F1.ns.lt (e ▸ Nat.lt_irrefl _)
    · exact absurd (Nat.lt_of_lt_of_le hdlt F1.above) ((List.mem_singleton.mp e) ▸ Nat.lt_irrefl _)
  · intro x hx
    rw [List.mem_singleton.mp hx]
    exact next_is_new F1
  · exact fun _ h => nomatch h
  · exact fun _ h => nomatch h
  · rintro i v m₁ nx h tk own hi ⟨k, hx⟩ hadr hoff ⟨rfl, ⟨t, ha⟩, hm⟩ F' N'
    obtain ⟨dv, hD, hfl⟩ := hf.at hx
    rw [kdpD, List.getElem?_map] at hD
    obtain ⟨p, hp', he⟩ := Option.map_eq_some_iff.mp hD
    cases he
    obtain ⟨t', rfl⟩ := PyProof.V.Flat.int_inv hfl
    rw [map_sum ha hm] at F'
    clear hm ha
    (try dsimp only); (try k_unmd); k_fold
    ktn_open
    rename Fr _ _ _ _ => F9; rename News _ _ _ _ => N9
    refine ⟨_, _, _, _, [], rfl, F9, N9, (fun _ h => nomatch h), ?_, rfl, ⟨rfl, ⟨_, by rw [take_fold' hp']; rfl⟩, fun z h1 h2 => by simp only [if_neg h1, if_neg h2]⟩⟩
    exact fun q hq => hq
  · rintro m₁ nx h tk ⟨rfl, ⟨t, ha⟩, hm⟩ F' N'
    have hlen : kvs.length = c.length := by have := hf.length; rw [kdpD, List.length_map] at this; omega
    rw [hlen, List.take_length] at ha
    rw [← done_one ha hm] at F'
    (try dsimp only); (try k_unmd)
    ktn_open
    exact hR _ _ _ F'.keep
end Mine
namespace Mine
theorem fresh_FAddC : True := by w_top off; trivial

local macro_rules | `(tactic| ktn_open) => `(tactic| repeat' (first | (k_unfold; (try dsimp only)) | ((fail_if_success (with_reducible show wpAny _ _ (exec (Stmt.For _ _ _ _ _) _) _ _ _)); (fail_if_success (with_reducible show wpAny _ _ (pyIter (Value.ref _)) _ _ _)); (fail_if_success (with_reducible show wpAny _ _ (setItem (Value.ref _) _ _) _ _ _)); (fail_if_success (with_reducible show wpAny _ _ (getItem (Value.ref _) _) _ _ _)); (fail_if_success (with_reducible show wpAny _ _ (compareOp CmpOp.In _ (Value.ref _)) _ _ _)); (fail_if_success (with_reducible show wpAny _ _ (getMethod (Value.ref _) _ _) _ _ _)); (fail_if_success (with_reducible show InvPostN _ _ _ _ _ _ _ _ _)); first | walk1 | (dsimp only; walk1) | (leave1; walk_say "STEP leave1"; try dsimp only))))
local macro_rules | `(tactic| units_room) => `(tactic| (dsimp only [Around.deeper, Around.in1, Around.mark, AA]; omega))
theorem map_2 {x y : Str} {m₁ m₀ : Str → Option Value} {v u : Value} (hm : ∀ z, z ≠ x → z ≠ y → m₁ z = m₀ z) : (fun z => if z = y then some v else if z = x then some u else m₁ z) = fun z => if z = y then some v else if z = x then some u else m₀ z := by
  funext z
  by_cases h1 : z = y
  · simp [h1]
  · simp only [if_neg h1]
    by_cases h2 : z = x
    · simp [h2]
    · simp only [if_neg h2]; exact hm z h2 h1
def putC (n : List (Str × Int)) (p : Str × Int) : List (Str × Int) := kdpPut n p.1 p.2
def addP (n : List (Str × Int)) (p : Str × Int) : List (Str × Int) := kdpPut n p.1 (if kdpHas n p.1 = true then kdpLook n p.1 0 + p.2 else p.2)
def addC (c1 c2 : List (Str × Int)) : List (Str × Int) := c2.foldl addP (c1.foldl putC [])
theorem fold_len {g : List (Str × Int) → Str × Int → List (Str × Int)} (hg : ∀ n p, (g n p).length ≤ n.length + 1) (c n : List (Str × Int)) : (c.foldl g n).length ≤ n.length + c.length := by
  induction c generalizing n with
  | nil => simp
  | cons p r ih => have := ih (g n p); have := hg n p; simp only [List.foldl_cons, List.length_cons]; omega
theorem putC_len (n : List (Str × Int)) (p : Str × Int) : (putC n p).length ≤ n.length + 1 := kdpPut_len _ _ _
theorem addP_len (n : List (Str × Int)) (p : Str × Int) : (addP n p).length ≤ n.length + 1 := kdpPut_len _ _ _
theorem take_fold {α β : Type} {g : β → α → β} {z : β} {c : List α} {i : Nat} {p : α} (h : c[i]? = some p) : (c.take (i + 1)).foldl g z = g ((c.take i).foldl g z) p := by
  rw [List.take_add_one, h]; simp
def JD (prog : Program) (w : World) (d : Addr) (g : List (Str × Int) → Str × Int → List (Str × Int)) (z c : List (Str × Int)) (m₀ : Str → Option Value) (i : Nat) (m : Str → Option Value) (nx : List (Addr × Obj)) : Prop :=
  ∃ o kvs, nx = [(d, o)] ∧ o.IsDictOf (strKind prog w) kvs ∧ PyProof.V.FlatPairs PyData.str kvs (kdpD ((c.take i).foldl g z)) ∧ Off2 (Str.ofString "func") (Str.ofString "caller") m₀ m
set_option maxRecDepth 100000 in
set_option maxHeartbeats 8000000 in
theorem addc_con {w : World} {dp un : Nat} {gd : Option (List Code)} {fr : Option (List Env)} {s : Shared} {mean : ExcName → Option Value} {mg mb : Str → Option Value}
  (X : (hd.heap_39 w.params).In s.heap) (T : Top hd.view_39 (looseW hd.view_39 [Str.ofString "_twin_re_1"]) mean mg mb s.heap)
  (hdp : dp + 5 < recursionLimit) (hun : un + 300 < cLine) {d1 d2 : Addr} {c1 c2 : List (Str × Int)} (D1 : StrTab Challenge.rw_zn0005_01.row.prog w s.heap d1 (kdpD c1)) (D2 : StrTab Challenge.rw_zn0005_01.row.prog w s.heap d2 (kdpD c2)) (hz1 : c1.length ≤ 100000) (hz2 : c2.length ≤ 100000) {R : Result → Shared → Prop}
  (hR : ∀ d o kvs h' tk, (∀ b o, s.heap.get? b = some o → h'.get? b = some o) → s.heap.get? d = none → h'.get? d = some o → (d == sysModules) = false → o.IsDictOf (strKind Challenge.rw_zn0005_01.row.prog w) kvs → PyProof.V.FlatPairs PyData.str kvs (kdpD (addC c1 c2)) → R (.ok (.ret (.ref d))) { s with heap := h', toks := tk }) :
  codeAny (model Challenge.rw_zn0005_01.row.prog w) (AA dp un gd fr) (.call (.ref 71) ⟨[.ref d1, .ref d2], []⟩) R s := by
  revert X; k_fill; intro X
  k_dflt (refine' enterP (binds := [(Str.ofString "target", .ref d1), (Str.ofString "source", .ref d2)]) ?k1 ?k2 ?k6 ?k7 ?k8 ?k9 ?kB ?_ ?c2 ?c3 ?c4 ?kN; (case k1 => k_asm); (case k2 => k_asm); (case k6 => k_is); (case k7 => k_is); (case k8 => (show dp < _; omega)); (case k9 => exact BindsTo.of_eq rfl); (case kB => exact locs rfl); (case kN => decide); (case c2 => exact rfl); (case c3 => exact rfl); (case c4 => exact rfl); k_whole)
  intro L h₁ F N
  (try dsimp only)
  (try k_unmd); k_fold
  ktn_open
  rename Fr _ _ _ _ => F0; rename News _ _ _ _ => N0
  refine For_turns F0 ?_
  ktn_open
  refine getMethod_tab PySem.F.slot_dict_items PySem.F.type_dict_items (D1.keep F0.keep) (callWith_method0 ?_)
  refine call_items_tab (D1.keep F0.keep) F0 N0 fun h1 o1 hv1 F1 N1 => ?_
  have N1 : News _ _ _ [_] := kti_tail N1
  refine iter_itemsD (JD _ w _ putC [] c1 _) rfl F1 N1 hv1 D1 rfl rfl rfl ⟨_, _, rfl, ‹Obj.IsDictOf (strKind _ _) _ []›, .nil, fun _ _ _ => rfl⟩ ?_ ?_
  · rintro i p t t' m₁ nx h tk own hp hadr hoff ⟨o, kvs, rfl, ho, hf, hm⟩ F' N'
    rw [map_2 hm] at F'
    simp only [List.cons_append, List.nil_append] at N'
    clear hm
    (try dsimp only); (try k_unmd); k_fold
    ktn_open
    refine kdp_setItem F' N' (UpdF.head (hoff.ne (.head _))) ho hf ?_ fun h' o' kvs' F9 N9 ho' hf' => ?_
    · have := fold_len putC_len (c1.take i) []; simp only [List.length_take, List.length_nil] at this; omega
    refine wpAny_execs_nil ⟨_, _, _, _, [(_, o')], rfl, F9, N9, ?_, ?_, rfl, ⟨o', kvs', rfl, ho', by rw [take_fold hp]; exact hf', fun z h1 h2 => by simp only [if_neg h1, if_neg h2]⟩⟩
    · intro q hq; rw [List.mem_singleton.mp hq]; exact .head _
    · exact fun q hq => .tail _ hq
  · rintro m₁ nx h tk ⟨o, kvs, rfl, ho, hf, hm⟩ F' N'
    rw [← done_skip hm] at F'
    rw [List.take_length] at hf
    (try dsimp only); (try k_unmd)
    ktn_open
    refine For_turns F' ?_
    ktn_open
    refine getMethod_tab PySem.F.slot_dict_items PySem.F.type_dict_items (D2.keep F'.keep) (callWith_method0 ?_)
    refine call_items_tab (D2.keep F'.keep) F' N' fun h2 o2 hv2 F2 N2 => ?_
    have N2 : News _ _ _ [_] := kti_tail N2
    refine iter_itemsD (JD _ w _ addP (c1.foldl putC []) c2 _) rfl F2 N2 hv2 D2 rfl rfl rfl ⟨_, _, rfl, ho, hf, fun _ _ _ => rfl⟩ ?_ ?_
    · rintro i p t t' m₂ nx h tk own hp hadr hoff ⟨o, kvs, rfl, ho, hf, hm⟩ F' N'
      rw [map_2 hm] at F'
      simp only [List.cons_append, List.nil_append] at N'
      clear hm
      (try dsimp only); (try k_unmd); k_fold
      ktn_open
      have TT : StrTab _ w _ _ _ := TabAt.ofNews N' (.head _) ‹(_ == sysModules) = false› ho hf
      refine kdp_in TT ?_
      have hlen := fold_len addP_len (c2.take i) (c1.foldl putC [])
      have hlen1 := fold_len putC_len c1 []
      simp only [List.length_take, List.length_nil] at hlen hlen1
      cases hb : kdpHas ((c2.take i).foldl addP (c1.foldl putC [])) p.1 with
      | true =>
        ktn_open
        refine kdp_getItem TT hb fun t2 => ?_
        ktn_open
        refine kdp_setItem F' N' (UpdF.head (hoff.ne (.head _))) ho hf (by omega) fun h' o' kvs' F9 N9 ho' hf' => ?_
        ktn_open
        refine ⟨_, _, _, _, [(_, o')], rfl, F9, N9, ?_, ?_, rfl, ⟨o', kvs', rfl, ho', by rw [take_fold hp, addP, if_pos hb]; exact hf', fun z h1 h2 => by simp only [if_neg h1, if_neg h2]⟩⟩
        · intro q hq; rw [List.mem_singleton.mp hq]; exact .head _
        · exact fun q hq => .tail _ hq
      | false =>
        ktn_open
        refine kdp_setItem F' N' (UpdF.head (hoff.ne (.head _))) ho hf (by omega) fun h' o' kvs' F9 N9 ho' hf' => ?_
        ktn_open
        refine ⟨_, _, _, _, [(_, o')], rfl, F9, N9, ?_, ?_, rfl, ⟨o', kvs', rfl, ho', by rw [take_fold hp, addP, if_neg (by rw [hb]; decide)]; exact hf', fun z h1 h2 => by simp only [if_neg h1, if_neg h2]⟩⟩
        · intro q hq; rw [List.mem_singleton.mp hq]; exact .head _
        · exact fun q hq => .tail _ hq
    · rintro m₂ nx h tk ⟨o, kvs, rfl, ho, hf, hm⟩ F' N'
      rw [List.take_length] at hf
      rw [← done_skip hm] at F'
      (try dsimp only); (try k_unmd)
      ktn_open
      exact hR _ _ _ _ _ F'.keep (N' _ (.head _)).2.2 (N' _ (.head _)).1 ‹(_ == sysModules) = false› ho hf
end Mine
namespace Mine
theorem fresh_FAddS : True := by w_top off; trivial

def tup5 (a b c d : Int) (ta tb tc td : Tok) (x : Addr) : Obj := ⟨.type "tuple", none, .seq #[.int a ta, .int b tb, .int c tc, .int d td, .ref x] 0, #[]⟩
local macro_rules | `(tactic| ktn_open) => `(tactic| repeat' (first | (k_unfold; (try dsimp only)) | ((fail_if_success (with_reducible show wpAny _ _ (call (Value.ref 71) _) _ _ _)); first | walk1 | (dsimp only; walk1) | (leave1; walk_say "STEP leave1"; try dsimp only))))
local macro_rules | `(tactic| units_room) => `(tactic| (dsimp only [Around.deeper, Around.in1, Around.mark, AA]; omega))
set_option maxRecDepth 100000 in
set_option maxHeartbeats 8000000 in
theorem adds_con {w : World} {dp un : Nat} {gd : Option (List Code)} {fr : Option (List Env)} {s : Shared} {mean : ExcName → Option Value} {mg mb : Str → Option Value}
  (X : (hd.heap_39 w.params).In s.heap) (T : Top hd.view_39 (looseW hd.view_39 [Str.ofString "_twin_re_1"]) mean mg mb s.heap)
  (hdp : dp + 10 < recursionLimit) (hun : un + 320 < cLine) {t1 t2 d1 d2 : Addr} {a1 b1 e1 f1 a2 b2 e2 f2 : Int} {k1 k2 k3 k4 k5 k6 k7 k8 : Tok} {c1 c2 : List (Str × Int)} (h1 : IsTup s.heap t1 #[.int a1 k1, .int b1 k2, .int e1 k3, .int f1 k4, .ref d1]) (h2 : IsTup s.heap t2 #[.int a2 k5, .int b2 k6, .int e2 k7, .int f2 k8, .ref d2]) (D1 : StrTab Challenge.rw_zn0005_01.row.prog w s.heap d1 (kdpD c1)) (D2 : StrTab Challenge.rw_zn0005_01.row.prog w s.heap d2 (kdpD c2)) (hz1 : c1.length ≤ 100000) (hz2 : c2.length ≤ 100000) {R : Result → Shared → Prop}
  (hR : ∀ l d o kvs ka kb kc kd h' tk, (∀ b o, s.heap.get? b = some o → h'.get? b = some o) → s.heap.get? l = none → h'.get? l = some (tup5 (a2 + a1) (b2 + b1) (e2 + e1) (f2 + f1) ka kb kc kd d) → s.heap.get? d = none → h'.get? d = some o → (d == sysModules) = false → o.IsDictOf (strKind Challenge.rw_zn0005_01.row.prog w) kvs → PyProof.V.FlatPairs PyData.str kvs (kdpD (addC c1 c2)) → R (.ok (.ret (.ref l))) { s with heap := h', toks := tk }) :
  codeAny (model Challenge.rw_zn0005_01.row.prog w) (AA dp un gd fr) (.call (.ref 64) ⟨[.ref t1, .ref t2], []⟩) R s := by
  revert X; k_fill; intro X
  k_dflt (refine' enterP (binds := [(Str.ofString "target", .ref t1), (Str.ofString "source", .ref t2)]) ?k1 ?k2 ?k6 ?k7 ?k8 ?k9 ?kB ?_ ?c2 ?c3 ?c4 ?kN; (case k1 => k_asm); (case k2 => k_asm); (case k6 => k_is); (case k7 => k_is); (case k8 => (show dp < _; omega)); (case k9 => exact BindsTo.of_eq rfl); (case kB => exact locs rfl); (case kN => decide); (case c2 => exact rfl); (case c3 => exact rfl); (case c4 => exact rfl); k_whole)
  intro L h₁ F N
  (try dsimp only)
  (try k_unmd); k_fold
  ktn_open
  rename Fr _ _ _ _ => F0; rename News _ _ _ _ => N0
  refine wpAny_call (addc_con (X.keeps F0.keep) (T.keeps F0.keep) (by show dp + 1 + 5 < _; omega) ?_ (D1.keep F0.keep) (D2.keep F0.keep) hz1 hz2 ?_)
  · show un + 3 + 300 < _; omega
  intro d o kvs h9 tk9 hk9 hd9 ho9 lo9 hi9 hf9
  have F9 := F0.keeps hk9
  have N9 : News s.heap L h9 [(d, o)] := List.forall_mem_cons.mpr ⟨newAt F0 hd9 ho9, List.forall_mem_nil _⟩
  dsimp only
  ktn_open
  rename Fr _ _ _ _ => F8; rename News _ _ _ _ => N8
  exact hR _ _ _ _ _ _ _ _ _ _ F8.keep (N8 _ (.head _)).2.2 (N8 _ (.head _)).1 (N8 _ (.tail _ (.head _))).2.2 (N8 _ (.tail _ (.head _))).1 lo9 hi9 hf9
end Mine
namespace Mine
set_option maxRecDepth 100000
section
variable {prog : Program} {w : World} {A : Around} {E : Value → Shared → Prop} {s : Shared} {h₀ : Heap} {L : Addr} {m : Str → Option Value} {news : List (Addr × Obj)}
theorem sliceApplied_2 {sl : Addr} {u : Tok} {Q : Int × Int × Nat → Shared → Prop} (hs : s.heap.IsSliceOf sl .none (.int 2 u) .none) (h : Q (0, 1, 2) s) :
    wpAny (model prog w) A (Builtin.Slice.sliceApplied (.ref sl) (pure ((3 : Nat) : Int))) Q E s := by
  obtain ⟨os, hos, hcs, hds⟩ := id hs
  unfold Builtin.Slice.sliceApplied Builtin.Slice.sliceFields
  refine wpAny_bind (wpAny_bind (wpAny_field hos hds (x := .none) rfl (wpAny_bind (wpAny_field hos hds (x := .int 2 u) rfl (wpAny_bind (wpAny_field hos hds (x := .none) rfl (wpAny_pure ?_)))))))
  refine wpAny_bind (slicePart_none ?_)
  show wpAny _ _ (if ((1 : Int) == 0) = true then _ else _) _ _ s
  rw [if_neg (by decide)]
  refine wpAny_bind (slicePart_none (wpAny_bind (slicePart_int (wpAny_bind (wpAny_pure ?_)))))
  exact wpAny_pure h
theorem getItem_tuple_2 {t sl : Addr} {a b c : Value} {u : Tok} {Q : Value → Shared → Prop} (ht : IsTup s.heap t #[a, b, c]) (hs : s.heap.IsSliceOf sl .none (.int 2 u) .none)
    (h : Q (.ref s.heap.objs.size) { s with heap := s.heap.push { cls := .type "tuple", data := .seq #[a, b] } }) : wpAny (model prog w) A (getItem (.ref t) (.ref sl)) Q E s := by
  obtain ⟨os, hos, hcs, hds⟩ := id hs
  have hTs : s.TypeIs (.ref sl) "slice" := ⟨os, hos, hcs⟩
  unfold getItem
  try with_reducible refine wpAny_holding ?_
  first | refine wpAny_bind (wpAny_pure ?_) | skip
  refine wpAny_bind (wpAny_sequenceKey ht.typeIs (by decide) ?_)
  refine wpAny_bind (wpAny_callSpecial?_slot (name := Str.ofString "__getitem__") ht.typeIs slot_tuple_getitem
    (wpAny_call_entry slot_tuple_getitem ht.typeIs entry_tuple_getitem ?_ (args_tuple_getitem _ _)))
  show wpAny _ _ (Builtin.Tuple.tupleItemsOf (.ref t) >>= _) _ _ s
  refine wpAny_bind (tupleItemsOf_ ht ?_)
  refine wpAny_bind (wpAny_typeOf hTs ?_)
  rw [if_pos (by decide)]
  refine wpAny_bind (sliceApplied_2 hs ?_)
  show wpAny _ _ (if ((0 : Int) == 0 && (1 : Int) == 1 && 2 == 3) = true then _ else _) _ _ s
  rw [if_neg (by decide)]
  first
    | exact wpAny_bind (m := Builtin.Tuple.tupleExact _) (wpAny_newObj_type (wpAny_pure ⟨_, rfl, wpAny_pure h⟩) (by show 2 ≤ sizeLine; decide))
    | exact wpAny_bind (m := Builtin.Tuple.tupleExact _) (wpAny_newObj_type (wpAny_bind (wpAny_pure (wpAny_pure ⟨_, rfl, wpAny_pure h⟩))) (by show 2 ≤ sizeLine; decide))
    | exact wpAny_bind (wpAny_bind (m := Builtin.Tuple.tupleExact _) (wpAny_newObj_type (wpAny_pure (wpAny_pure ⟨_, rfl, wpAny_pure h⟩)) (by show 2 ≤ sizeLine; decide)))
    | exact wpAny_bind (wpAny_bind (m := Builtin.Tuple.tupleExact _) (wpAny_newObj_type (wpAny_pure ⟨_, rfl, wpAny_pure h⟩) (by show 2 ≤ sizeLine; decide)))
theorem slice_tuple_2 {value slice : Expr} {t : Addr} {a b c : Value} {u : Tok} {Q : Value → Shared → Prop}
    (F : Fr h₀ L s.heap m) (N : News h₀ L s.heap news) (ht : IsTup s.heap t #[a, b, c])
    (h : ∀ d h', d = s.heap.objs.size + 1 → Fr h₀ L h' m → News h₀ L h' ((d, { cls := .type "tuple", data := .seq #[a, b] }) :: news) → Q (.ref d) { s with heap := h' })
    (hs : subscripted slice false (.ref t) (.ref s.heap.objs.size) = operate [.ref s.heap.objs.size, .ref t] (getItem (.ref t) (.ref s.heap.objs.size)) := by with_unfolding_all rfl)
    (hg : ∀ r, letTemporaryGo value (.ref t) r = pure () := by intro _; with_unfolding_all rfl) :
    wpAny (model prog w) A (subscriptTail value slice (.ref t) (.ref s.heap.objs.size)) Q E { s with heap := s.heap.push { cls := .type "slice", data := .fields #[.none, .int 2 u, .none] } } := by
  have ht' : IsTup (s.heap.push { cls := .type "slice", data := .fields #[.none, .int 2 u, .none] }) t #[a, b, c] := ht.keeps fun _ _ e => Heap.get?_push_of_some _ e
  refine subscriptTail_ops (s := { s with heap := s.heap.push { cls := .type "slice", data := .fields #[.none, .int 2 u, .none] } }) ht'.typeIs slot_tuple_getitem.lookup
    (getItem_tuple_2 ht' (Heap.IsSliceOf.new ..) ?_) hs hg
  have N1 := News.push (F.push { cls := .type "slice", data := .fields #[.none, .int 2 u, .none] }) (N.grown fun _ _ e => Heap.get?_push_of_some _ e) { cls := .type "tuple", data := .seq #[a, b] }
  rw [Heap.size_push] at N1
  show Q (.ref (s.heap.push _).objs.size) _
  rw [Heap.size_push]
  exact h _ _ rfl ((F.push _).push _) N1
end
end Mine
namespace Mine
theorem fresh_FStd : True := by w_top off; trivial

local macro_rules | `(tactic| ktn_open) => `(tactic| repeat' (first | (k_unfold; (try dsimp only)) | ((fail_if_success (with_reducible show wpAny _ _ (binaryOp Operator.Mod _ (Value.ref _)) _ _ _)); (fail_if_success (with_reducible show wpAny _ _ (subscriptTail _ (PySem.Expr.Slice none _ _ _) _ _) _ _ _)); first | walk1 | (dsimp only; walk1) | (leave1; walk_say "STEP leave1"; try dsimp only))))
local macro_rules | `(tactic| units_room) => `(tactic| (dsimp only [Around.deeper, Around.in1, Around.mark, AA]; omega))
def stdName (p : Int) : Str := if p = 0 then Str.ofString "{" ++ Txt.slice (Str.ofString "<reached>") (some 1) (some (-1)) ++ Str.ofString "}" else Str.ofString "~" ++ Str.ofString ":" ++ Str.ofString (toString p) ++ Str.ofString "(" ++ Str.ofString "<reached>" ++ Str.ofString ")"
set_option maxRecDepth 100000 in
set_option maxHeartbeats 8000000 in
theorem std_con {w : World} {dp un : Nat} {gd : Option (List Code)} {fr : Option (List Env)} {s : Shared} {mean : ExcName → Option Value} {mg mb : Str → Option Value}
  (X : (hd.heap_39 w.params).In s.heap) (T : Top hd.view_39 (looseW hd.view_39 [Str.ofString "_twin_re_1"]) mean mg mb s.heap)
  (hdp : dp + 5 < recursionLimit) (hun : un + 300 < cLine) {tp : Addr} {p : Int} {k1 k2 k3 : Tok} (ht0 : s.heap.get? tp = some { cls := .type "tuple", data := .seq #[.str (Str.ofString "~") k1, .int p k2, .str (Str.ofString "<reached>") k3] }) (h0 : 0 ≤ p) (h1 : p ≤ 100) {R : Result → Shared → Prop}
  (hR : ∀ x t h' tk, x = stdName p → (∀ b o, s.heap.get? b = some o → h'.get? b = some o) → R (.ok (.ret (.str x t))) { s with heap := h', toks := tk }) :
  codeAny (model Challenge.rw_zn0005_01.row.prog w) (AA dp un gd fr) (.call (.ref 57) ⟨[.ref tp], []⟩) R s := by
  revert X; k_fill; intro X
  k_dflt (refine' enterP (binds := [(Str.ofString "func_name", .ref tp)]) ?k1 ?k2 ?k6 ?k7 ?k8 ?k9 ?kB ?_ ?c2 ?c3 ?c4 ?kN; (case k1 => k_asm); (case k2 => k_asm); (case k6 => k_is); (case k7 => k_is); (case k8 => (show dp < _; omega)); (case k9 => exact BindsTo.of_eq rfl); (case kB => exact locs rfl); (case kN => decide); (case c2 => exact rfl); (case c3 => exact rfl); (case c4 => exact rfl); k_whole)
  intro L h₁ F N
  (try dsimp only)
  (try k_unmd); k_fold
  have ht : IsTup s.heap tp #[.str (Str.ofString "~") k1, .int p k2, .str (Str.ofString "<reached>") k3] := ⟨_, ht0, rfl, _, rfl⟩
  ktn_open
  k_dflt (refine slice_tuple_2 (s := { s with heap := h₁, toks := _ }) F N (ht.keeps F.keep) (fun d h' hd' F' N' => ?_))
  ktn_open
  · rename Fr _ _ _ _ => F9
    exact hR _ _ _ _ (if_pos ‹p = 0›).symm F9.keep
  · rename Fr _ _ _ _ => F9
    have N9 : News ({} : Heap) (tp + 1) _ [(tp, { cls := .type "tuple", data := .seq #[.str (Str.ofString "~") k1, .int p k2, .str (Str.ofString "<reached>") k3] })] := List.forall_mem_cons.mpr ⟨⟨F9.keep _ _ ht0, Nat.ne_of_lt (Nat.lt_succ_self _), rfl⟩, List.forall_mem_nil _⟩
    k_dflt (refine' KPt.mod_tuple N9 (.head _) ?kptF ?kptm ?_; (case kptF => kpt_eq); (case kptm => kpt_run))
    intro t' k'
    exact hR _ _ _ _ (if_neg ‹p ≠ 0›).symm F9.keep
end Mine
namespace Mine
theorem fresh_FProf : True := by w_top off; trivial

/-- what the profile's loop carries -/
structure PS where
  x : Int
  y : Int
  z : Int
  q : Int
  c : List (Str × Int)
  a : List (Str × Int)
def PS.step (σ : PS) (p : Int × Int) : PS := if p.2 = 10 then { σ with a := kdpPut σ.a (stdName p.1) 1 } else ⟨1 + σ.x, (σ.a.length : Nat) + σ.y, p.1 + σ.z, p.1 * p.1 + σ.q, addC σ.c σ.a, σ.a⟩
def places (ns : List Int) : List (Int × Int) := ((List.range ns.length).map fun (i : Nat) => (i : Int)).zip ns
def profOf (ns : List Int) : PS := (places ns).foldl PS.step ⟨0, 0, 0, 0, [], []⟩
abbrev σof (ns : List Int) (i : Nat) : PS := ((places ns).take i).foldl PS.step ⟨0, 0, 0, 0, [], []⟩
def rgObj (i n : Nat) : Obj := { cls := .type "range_iterator", data := .fields #[rawInt (i : Int), rawInt ((n : Int) - (i : Int)), rawInt 1] }
structure PK (prog : Program) (w : World) (s : Shared) (L I : Addr) (m₀ : Str → Option Value) (ns : List Int) (σ : PS) (i : Nat) (h : Heap) (m : Str → Option Value) (kx ky kz kq : Tok) (tE dE : Addr) (oE : Obj) (kE : List (Str × Value)) (dA : Addr) (oA : Obj) (kA : List (Str × Value)) : Prop where
  F : Fr s.heap L h m
  mE : m (Str.ofString "entry") = some (.ref tE)
  mA : m (Str.ofString "ahead") = some (.ref dA)
  m0 : ∀ z, z ≠ Str.ofString "entry" → z ≠ Str.ofString "ahead" → z ≠ Str.ofString "place" → m z = m₀ z
  N : News s.heap L h [(tE, tup5 σ.x σ.y σ.z σ.q kx ky kz kq dE), (dE, oE), (dA, oA), (I, rgObj i ns.length)]
  hE : oE.IsDictOf (strKind prog w) kE
  fE : PyProof.V.FlatPairs PyData.str kE (kdpD σ.c)
  loE : (dE == sysModules) = false
  hA : oA.IsDictOf (strKind prog w) kA
  fA : PyProof.V.FlatPairs PyData.str kA (kdpD σ.a)
  loA : (dA == sysModules) = false
  ne1 : tE ≠ dA
  ne2 : dE ≠ dA
  ne3 : tE ≠ I
  ne4 : dE ≠ I
  ne5 : dA ≠ I
def PJ (prog : Program) (w : World) (s : Shared) (L I : Addr) (m₀ : Str → Option Value) (ns : List Int) (n : Nat) (s' : Shared) : Prop :=
  ∃ i h tk m kx ky kz kq tE dE oE kE dA oA kA, s' = { s with heap := h, toks := tk } ∧ n + i = ns.length + 1 ∧ i ≤ ns.length ∧ PK prog w s L I m₀ ns (σof ns i) i h m kx ky kz kq tE dE oE kE dA oA kA
theorem PJ.start {prog : Program} {w : World} {s : Shared} {L : Addr} {h : Heap} {m₀ : Str → Option Value} {ns : List Int} {kx ky kz kq : Tok} {tE dE : Addr} {oE : Obj} {dA : Addr} {oA : Obj} {tk : Nat} {g : Array GenState} {d : Drawn} {os : OsState} (hg : g = s.gens) (hd : d = s.drawn) (ho : os = s.os)
    (F : Fr s.heap L h m₀) (N : News s.heap L h [(dA, oA), (tE, ⟨.type "tuple", none, .seq #[.int 0 kx, .int 0 ky, .int 0 kz, .int 0 kq, .ref dE] 0, #[]⟩), (dE, oE)]) (hE : oE.IsDictOf (strKind prog w) []) (loE : (dE == sysModules) = false) (hA : oA.IsDictOf (strKind prog w) []) (loA : (dA == sysModules) = false) (lt : tE < dA ∧ dE < dA)
    (mE : m₀ (Str.ofString "entry") = some (.ref tE)) (mA : m₀ (Str.ofString "ahead") = some (.ref dA)) :
    PJ prog w s L h.objs.size m₀ ns (ns.length + 1) ⟨h.push { cls := .type "range_iterator", data := .fields #[rawInt 0, rawInt (Builtin.Range.rangeSize 0 (ns.length : Int) 1), rawInt 1] }, g, d, tk, os⟩ := by
  subst hg hd ho
  have nI : ∀ b o, h.get? b = some o → b ≠ h.objs.size := fun b o e => Nat.ne_of_lt (Heap.lt_size e)
  have hI0 : s.heap.get? h.objs.size = none := by
    cases e : s.heap.get? h.objs.size with
    | none => rfl
    | some x => exact absurd rfl (nI _ _ (F.keep _ _ e))
  have hsz : Builtin.Range.rangeSize 0 (ns.length : Int) 1 = ((ns.length : Nat) : Int) - ((0 : Nat) : Int) := by rw [range_size]; simp
  have N' := N.grown fun b o e => Heap.get?_push_of_some { cls := .type "range_iterator", data := .fields #[rawInt 0, rawInt (Builtin.Range.rangeSize 0 (ns.length : Int) 1), rawInt 1] } e
  refine ⟨0, _, _, m₀, kx, ky, kz, kq, tE, dE, oE, [], dA, oA, [], rfl, by omega, Nat.zero_le _, F.push _, mE, mA, fun _ _ _ _ => rfl, ?_, hE, .nil, loE, hA, .nil, loA, Nat.ne_of_lt lt.1, Nat.ne_of_lt lt.2, nI _ _ (N _ (.tail _ (.head _))).1, nI _ _ (N _ (.tail _ (.tail _ (.head _)))).1, nI _ _ (N _ (.head _)).1⟩
  refine List.forall_mem_cons.mpr ⟨N' _ (.tail _ (.head _)), List.forall_mem_cons.mpr ⟨N' _ (.tail _ (.tail _ (.head _))), List.forall_mem_cons.mpr ⟨N' _ (.head _), List.forall_mem_cons.mpr ⟨⟨?_, Nat.ne_of_gt F.ns.lt, hI0⟩, List.forall_mem_nil _⟩⟩⟩⟩
  rw [hsz]
  exact Heap.get?_push_size _ rfl
theorem PJ.next {prog : Program} {w : World} {s : Shared} {L I : Addr} {m₀ : Str → Option Value} {ns : List Int} {n i : Nat} {σ : PS} {h : Heap} {tk : Nat} {m : Str → Option Value} {kx ky kz kq : Tok} {tE dE : Addr} {oE : Obj} {kE : List (Str × Value)} {dA : Addr} {oA : Obj} {kA : List (Str × Value)}
    (hni : n + i = ns.length + 1) (hlt : i < ns.length) (hσ : σof ns (i + 1) = σ) (K : PK prog w s L I m₀ ns σ (i + 1) h m kx ky kz kq tE dE oE kE dA oA kA) : NextO (PJ prog w s L I m₀ ns) n { s with heap := h, toks := tk } :=
  ⟨n - 1, by omega, i + 1, h, tk, m, kx, ky, kz, kq, tE, dE, oE, kE, dA, oA, kA, rfl, by omega, hlt, hσ ▸ K⟩
theorem places_get {ns : List Int} {i : Nat} {v : Int} (h : ns[i]? = some v) : (places ns)[i]? = some ((i : Int), v) := by
  obtain ⟨hi, he⟩ := List.getElem?_eq_some_iff.mp h
  rw [places, List.getElem?_zip_eq_some]
  exact ⟨by simp [hi], h⟩
theorem σof_succ {ns : List Int} {i : Nat} {v : Int} (h : ns[i]? = some v) : σof ns (i + 1) = (σof ns i).step ((i : Int), v) := take_fold (places_get h)
theorem σof_len (ns : List Int) : σof ns ns.length = profOf ns := by
  have : (places ns).length = ns.length := by simp [places]
  rw [σof, ← this, List.take_length, profOf]
local macro_rules | `(tactic| ktn_open) => `(tactic| repeat' (first | (k_unfold; (try dsimp only)) | ((fail_if_success (with_reducible show wpAny _ _ (exec (Stmt.For _ _ _ _ _) _) _ _ _)); (fail_if_success (with_reducible show wpAny _ _ (call (Value.ref _) _) _ _ _)); (fail_if_success (with_reducible show wpAny _ _ (pyIter (Value.ref _)) _ _ _)); (fail_if_success (with_reducible show wpAny _ _ (setItem (Value.ref _) _ _) _ _ _)); (fail_if_success (with_reducible show wpAny _ _ (call (Value.builtin "len") [Value.ref _]) _ _ _)); first | walk1 | (dsimp only; walk1) | (leave1; walk_say "STEP leave1"; try dsimp only))))
theorem PS.step_len (σ : PS) (p : Int × Int) : (σ.step p).a.length ≤ σ.a.length + 1 ∧ (σ.step p).c.length ≤ σ.c.length + σ.a.length := by
  unfold PS.step
  split
  · exact ⟨kdpPut_len _ _ _, Nat.le_add_right _ _⟩
  · refine ⟨Nat.le_succ _, ?_⟩
    have h1 := fold_len putC_len σ.c []
    have h2 := fold_len addP_len σ.a (σ.c.foldl putC [])
    simp only [List.length_nil] at h1
    show (addC σ.c σ.a).length ≤ _
    unfold addC
    omega
theorem σ_len {ns : List Int} : ∀ i, i ≤ ns.length → (σof ns i).a.length ≤ i ∧ (σof ns i).c.length ≤ i * i
  | 0, _ => by simp [σof]
  | i + 1, hi => by
    obtain ⟨h1, h2⟩ := σ_len i (Nat.le_of_succ_le hi)
    rw [σof_succ (List.getElem?_eq_getElem hi)]
    obtain ⟨h3, h4⟩ := PS.step_len (σof ns i) ((i : Int), ns[i])
    refine ⟨by omega, ?_⟩
    have e : (i + 1) * (i + 1) = i * i + i + i + 1 := by rw [Nat.succ_mul, Nat.mul_succ]; omega
    omega
theorem map_prof {m m₀ : Str → Option Value} {v a e : Value} (hE : m (Str.ofString "entry") = some e) (hA : m (Str.ofString "ahead") = some a) (h0 : ∀ z, z ≠ Str.ofString "entry" → z ≠ Str.ofString "ahead" → z ≠ Str.ofString "place" → m z = m₀ z) :
    (fun y => if y = Str.ofString "place" then some v else m y) = fun y => if y = Str.ofString "place" then some v else if y = Str.ofString "ahead" then some a else if y = Str.ofString "entry" then some e else m₀ y := by
  funext y
  by_cases h1 : y = Str.ofString "place"
  · simp [h1]
  · simp only [if_neg h1]
    by_cases h2 : y = Str.ofString "ahead"
    · simp [h2, hA]
    · simp only [if_neg h2]
      by_cases h3 : y = Str.ofString "entry"
      · simp [h3, hE]
      · simp only [if_neg h3]; exact h0 y h3 h2 h1
local macro_rules | `(tactic| units_room) => `(tactic| (dsimp only [Around.deeper, Around.in1, Around.mark, AA]; omega))
set_option maxRecDepth 100000 in
set_option maxHeartbeats 8000000 in
theorem prof_con {w : World} {dp un : Nat} {gd : Option (List Code)} {fr : Option (List Env)} {s : Shared} {mean : ExcName → Option Value} {mg mb : Str → Option Value}
  (X : (hd.heap_39 w.params).In s.heap) (T : Top hd.view_39 (looseW hd.view_39 [Str.ofString "_twin_re_1"]) mean mg mb s.heap)
  (hdp : dp + 20 < recursionLimit) (hun : un + 340 < cLine) {l : Addr} {vs : List Value} {ns : List Int} (hl : s.heap.IsList l vs.toArray) (hi : IntsAre vs ns) (hn : ns.length ≤ 100) {R : Result → Shared → Prop}
  (hR : ∀ tE dE oE kE kx ky kz kq h' tk, (∀ b o, s.heap.get? b = some o → h'.get? b = some o) → s.heap.get? tE = none → h'.get? tE = some (tup5 (profOf ns).x (profOf ns).y (profOf ns).z (profOf ns).q kx ky kz kq dE) → s.heap.get? dE = none → h'.get? dE = some oE → (dE == sysModules) = false → oE.IsDictOf (strKind Challenge.rw_zn0005_01.row.prog w) kE → PyProof.V.FlatPairs PyData.str kE (kdpD (profOf ns).c) → R (.ok (.ret (.ref tE))) { s with heap := h', toks := tk }) :
  codeAny (model Challenge.rw_zn0005_01.row.prog w) (AA dp un gd fr) (.call (.ref 123) ⟨[.ref l], []⟩) R s := by
  revert X; k_fill; intro X
  k_dflt (refine' enterP (binds := [(Str.ofString "row", .ref l)]) ?k1 ?k2 ?k6 ?k7 ?k8 ?k9 ?kB ?_ ?c2 ?c3 ?c4 ?kN; (case k1 => k_asm); (case k2 => k_asm); (case k6 => k_is); (case k7 => k_is); (case k8 => (show dp < _; omega)); (case k9 => exact BindsTo.of_eq rfl); (case kB => exact locs rfl); (case kN => decide); (case c2 => exact rfl); (case c3 => exact rfl); (case c4 => exact rfl); k_whole)
  intro L h₁ F N
  (try dsimp only)
  (try k_unmd); k_fold
  ktn_open
  rename Fr _ _ _ _ => F0; rename News _ _ _ _ => N0
  refine For_own ?_
  repeat' (first | (k_unfold; (try dsimp only)) | ((fail_if_success (with_reducible show wpAny _ _ (exec (Stmt.For _ _ _ _ _) _) _ _ _)); (fail_if_success (with_reducible show wpAny _ _ (pyIter (Value.ref _)) _ _ _)); first | walk1 | (dsimp only; walk1) | (leave1; walk_say "STEP leave1"; try dsimp only)))
  rename Fr _ _ _ _ => F1; rename News _ _ _ _ => N1; rename IsRange _ _ _ _ _ _ _ _ => R1
  refine wpAny_pyIter_range R1 (small_nn (by omega) (by omega)) ?_
  refine ⟨PJ Challenge.rw_zn0005_01.row.prog w s L _ _ ns, ns.length + 1, PJ.start rfl rfl rfl F1 N1 ?_ ?_ ?_ ?_ ?_ rfl rfl, ?_⟩
  · assumption
  · assumption
  · assumption
  · assumption
  · assumption
  rintro n s₁ ⟨i, h, tk, m, kx, ky, kz, kq, tE, dE, oE, kE, dA, oA, kA, rfl, hni, hil, K⟩
  have RI : IsRangeIter h _ _ _ _ := (K.N _ (.tail _ (.tail _ (.tail _ (.head _))))).1
  by_cases hlt : i < ns.length
  · refine wpAny_pyNext_range_item RI (by omega) fun h1 hit hs => ?_
    have e1 : ((i : Int) + 1) = ((i + 1 : Nat) : Int) := by omega
    have e2 : ((ns.length : Int) - (i : Int)) - 1 = (ns.length : Int) - ((i + 1 : Nat) : Int) := by omega
    rw [e1, e2] at hit
    have F2 := K.F.change hs (K.N _ (.tail _ (.tail _ (.tail _ (.head _))))).2.1 (K.N _ (.tail _ (.tail _ (.tail _ (.head _))))).2.2
    have N2 : News s.heap L h1 [(tE, _), (dE, oE), (dA, oA), (_, rgObj (i + 1) ns.length)] := List.forall_mem_cons.mpr ⟨⟨hs.extBut _ _ K.ne3 (K.N _ (.head _)).1, (K.N _ (.head _)).2⟩, List.forall_mem_cons.mpr ⟨⟨hs.extBut _ _ K.ne4 (K.N _ (.tail _ (.head _))).1, (K.N _ (.tail _ (.head _))).2⟩,
      List.forall_mem_cons.mpr ⟨⟨hs.extBut _ _ K.ne5 (K.N _ (.tail _ (.tail _ (.head _)))).1, (K.N _ (.tail _ (.tail _ (.head _)))).2⟩, List.forall_mem_cons.mpr ⟨⟨hit, (K.N _ (.tail _ (.tail _ (.tail _ (.head _))))).2⟩, List.forall_mem_nil _⟩⟩⟩⟩
    dsimp only
    refine storeFr F2 N2 rfl rfl (fun h3 F3 N3 => ?_) rfl
    rw [map_prof K.mE K.mA K.m0] at F3
    obtain ⟨hla, hlc⟩ := σ_len i hil
    have hii : i * i ≤ 100 * 100 := Nat.mul_le_mul (by omega) (by omega)
    have hge : ns[i]? = some ns[i] := List.getElem?_eq_getElem hlt
    obtain ⟨hE, fE, loE, hA, fA, loA, ne1, ne2, ne3, ne4, ne5⟩ : _ ∧ _ ∧ _ ∧ _ ∧ _ ∧ _ ∧ _ ∧ _ ∧ _ ∧ _ ∧ _ := ⟨K.hE, K.fE, K.loE, K.hA, K.fA, K.loA, K.ne1, K.ne2, K.ne3, K.ne4, K.ne5⟩
    clear K F2 N2 hs hit RI F1 N1 R1
    (try dsimp only); (try k_unmd)
    ktn_open
    · have hv : ns[i] = 10 := by have := ‹ns.getD (Int.toNat (i : Int)) 0 = 10›; rw [Int.toNat_natCast, List.getD_eq_getElem?_getD, hge] at this; exact this
      rename Fr _ _ _ _ => F4; rename News _ _ _ _ => N4
      refine wpAny_call (std_con (X.keeps F4.keep) (T.keeps F4.keep) (by show dp + 1 + 5 < _; omega) (by show un + 3 + 300 < _; omega) (N4 _ (.head _)).1 (by omega) (by omega) ?_)
      intro x t h5 tk5 hx hk5
      subst hx
      have F5 := F4.keeps hk5
      have N5 := (kti_tail N4).grown hk5
      dsimp only
      refine kdp_setItem F5 N5 (UpdF.tail ne1 (UpdF.tail ne2 (UpdF.head (List.forall_mem_cons.mpr ⟨Ne.symm ne5, List.forall_mem_nil _⟩)))) hA fA (by omega) fun h6 oA' kA' F6 N6 hA' fA' => ?_
      ktn_open
      exact PJ.next (σ := { σof ns i with a := kdpPut (σof ns i).a (stdName (i : Int)) 1 }) hni hlt (by rw [σof_succ hge]; unfold PS.step; rw [if_pos hv]) ⟨F6, rfl, rfl, fun z h1 h2 h3 => by simp only [if_neg h1, if_neg h2, if_neg h3], N6, hE, fE, loE, hA', fA', loA, ne1, ne2, ne3, ne4, ne5⟩
    · have hv : ns[i] ≠ 10 := by have := ‹¬ ns.getD (Int.toNat (i : Int)) 0 = 10›; rw [Int.toNat_natCast, List.getD_eq_getElem?_getD, hge] at this; exact this
      rename Fr _ _ _ _ => F4; rename News _ _ _ _ => N4
      refine kdp_len (TabAt.ofNews N4 (.tail _ (.tail _ (.head _))) loA hA fA) (by omega) ?_
      ktn_open
      rename Fr _ _ _ _ => F5; rename News _ _ _ _ => N5
      refine wpAny_call (adds_con (X.keeps F5.keep) (T.keeps F5.keep) (by show dp + 1 + 10 < _; omega) (by show un + 3 + 320 < _; omega) ⟨_, (N5 _ (.tail _ (.head _))).1, rfl, _, rfl⟩ ⟨_, (N5 _ (.head _)).1, rfl, _, rfl⟩ (TabAt.ofNews N5 (.tail _ (.tail _ (.head _))) loE hE fE) (TabAt.ofNews N5 (.tail _ (.tail _ (.tail _ (.head _)))) loA hA fA) (by omega) (by omega) ?_)
      intro l' d' o' kvs' ka kb kc kd h6 tk6 hk6 hl6 hol6 hd6 hod6 lo6 hI6 hf6
      have F6 := F5.keeps hk6
      have g5 := N5.grown hk6
      have N6 : News s.heap L h6 [(l', _), (d', o'), (dA, oA), (_, rgObj (i + 1) ns.length)] := List.forall_mem_cons.mpr ⟨newAt F5 hl6 hol6, List.forall_mem_cons.mpr ⟨newAt F5 hd6 hod6, List.forall_mem_cons.mpr ⟨g5 _ (.tail _ (.tail _ (.tail _ (.head _)))), List.forall_mem_cons.mpr ⟨g5 _ (.tail _ (.tail _ (.tail _ (.tail _ (.head _))))), List.forall_mem_nil _⟩⟩⟩⟩
      have n1 : l' ≠ dA := apartN N5 hl6 (.tail _ (.tail _ (.tail _ (.head _))))
      have n2 : d' ≠ dA := apartN N5 hd6 (.tail _ (.tail _ (.tail _ (.head _))))
      have n3 := apartN N5 hl6 (.tail _ (.tail _ (.tail _ (.tail _ (.head _)))))
      have n4 := apartN N5 hd6 (.tail _ (.tail _ (.tail _ (.tail _ (.head _)))))
      clear g5 N5 F5
      dsimp only
      ktn_open
      rename Fr _ _ _ _ => F9; rename News _ _ _ _ => N9
      exact PJ.next (σ := ⟨1 + (σof ns i).x, ((σof ns i).a.length : Nat) + (σof ns i).y, (i : Int) + (σof ns i).z, (i : Int) * (i : Int) + (σof ns i).q, addC (σof ns i).c (σof ns i).a, (σof ns i).a⟩) hni hlt (by rw [σof_succ hge]; unfold PS.step; rw [if_neg hv]) ⟨F9, rfl, rfl, fun z h1 h2 h3 => by simp only [if_neg h1, if_neg h2, if_neg h3], N9, hI6, hf6, lo6, hA, fA, loA, n1, n2, n3, n4, ne5⟩
  · obtain rfl : i = ns.length := by omega
    refine wpAny_pyNext_range_end rfl RI (by omega) fun h1 he => ?_
    have F2 : Fr s.heap L h1 m := K.F.offs (Lg := _) (fun b o hb _ e => he b o hb e) (Ne.symm (K.N _ (.tail _ (.tail _ (.tail _ (.head _))))).2.1) (Ne.symm (K.N _ (.tail _ (.tail _ (.tail _ (.head _))))).2.1) (K.N _ (.tail _ (.tail _ (.tail _ (.head _))))).2.2 (K.N _ (.tail _ (.tail _ (.tail _ (.head _))))).2.2
    have hσ := σof_len ns
    have NE := K.N _ (.head _)
    have ND := K.N _ (.tail _ (.head _))
    rw [hσ] at NE
    have hf := K.fE
    rw [hσ] at hf
    have hmE := K.mE
    dsimp only
    refine wpAny_execs_cons (wpAny_Return_some (wpAny_Name (wpAny_loadName_local rfl rfl F2.ns hmE ?_)))
    exact hR _ _ _ _ _ _ _ _ _ _ F2.keep NE.2.2 (he _ _ K.ne3 NE.1) ND.2.2 (he _ _ K.ne4 ND.1) K.loE K.hE hf
end Mine
namespace Mine
theorem fresh_FDue : True := by w_top off; trivial

def dueName (p : Int) : Str := if p = 0 then Str.ofString "{reached}" else Str.ofString "~:" ++ Str.ofString (toString p) ++ Str.ofString "(<reached>)"
def dueStep (ds : List Int) (last : Int) (n : List (Str × Int)) (p : Int) : List (Str × Int) := if ds.getD p.toNat 0 = 10 then kdpPut n (dueName p) ((ds.take (last - p).toNat).count 10 : Nat) else n
def dueNames (ds : List Int) : List (Str × Int) := (rangeKs 0 (ds.length - 1)).foldl (dueStep ds ((ds.length : Int) - 1)) []
theorem dueStep_len (ds : List Int) (last : Int) (n : List (Str × Int)) (p : Int) : (dueStep ds last n p).length ≤ n.length + 1 := by
  unfold dueStep
  split
  · exact kdpPut_len _ _ _
  · exact Nat.le_succ _
theorem fold_len' {g : List (Str × Int) → Int → List (Str × Int)} (hg : ∀ n p, (g n p).length ≤ n.length + 1) (c : List Int) (n : List (Str × Int)) : (c.foldl g n).length ≤ n.length + c.length := by
  induction c generalizing n with
  | nil => simp
  | cons p r ih => have := ih (g n p); have := hg n p; simp only [List.foldl_cons, List.length_cons]; omega
def JN (prog : Program) (w : World) (d : Addr) (ds : List Int) (m₀ : Str → Option Value) (i : Nat) (m : Str → Option Value) (nx : List (Addr × Obj)) : Prop :=
  ∃ o kvs, nx = [(d, o)] ∧ o.IsDictOf (strKind prog w) kvs ∧ PyProof.V.FlatPairs PyData.str kvs (kdpD (((rangeKs 0 (ds.length - 1)).take i).foldl (dueStep ds ((ds.length : Int) - 1)) [])) ∧ Off2 (Str.ofString "place") (Str.ofString "name") m₀ m
local macro_rules | `(tactic| ktn_open) => `(tactic| repeat' (first | (k_unfold; (try dsimp only)) | ((fail_if_success (with_reducible show wpAny _ _ (exec (Stmt.For _ _ _ _ _) _) _ _ _)); (fail_if_success (with_reducible show wpAny _ _ (pyIter (Value.ref _)) _ _ _)); (fail_if_success (with_reducible show wpAny _ _ (setItem (Value.ref _) _ _) _ _ _)); (fail_if_success (with_reducible show InvPostN _ _ _ _ _ _ _ _ _)); first | walk1 | (dsimp only; walk1) | (leave1; walk_say "STEP leave1"; try dsimp only))))
local macro_rules | `(tactic| units_room) => `(tactic| (dsimp only [Around.deeper, Around.in1, Around.mark, AA]; omega))
set_option maxRecDepth 100000 in
set_option maxHeartbeats 8000000 in
theorem due_con {w : World} {dp un : Nat} {gd : Option (List Code)} {fr : Option (List Env)} {s : Shared} {mean : ExcName → Option Value} {mg mb : Str → Option Value}
  (X : (hd.heap_39 w.params).In s.heap) (T : Top hd.view_39 (looseW hd.view_39 [Str.ofString "_twin_re_1"]) mean mg mb s.heap)
  (hdp : dp + 5 < recursionLimit) (hun : un + 300 < cLine) {a b : Int} {ka kb : Tok} {l : Addr} {vs : List Value} {ds : List Int} (hab : (a, b) ∈ pairs) (hl : s.heap.IsList l vs.toArray) (hi : IntsAre vs ds) (hn : ds.length ≤ 100) (hn1 : 1 ≤ ds.length) {R : Result → Shared → Prop}
  (hR : ∀ tE dE oE kE kx ky kz kq h' tk, (∀ b o, s.heap.get? b = some o → h'.get? b = some o) → s.heap.get? tE = none → h'.get? tE = some (tup5 (Int.fdiv ((a - 1) * (b - 1)) 2) (Int.fdiv ((a * a - 1) * (b * b - 1)) 24) (Int.fdiv ((a - 1) * (b - 1) * (2 * a * b - a - b - 1)) 12) (Int.fdiv ((a - 1) * (b - 1) * a * b * ((ds.length : Int) - 1)) 12) kx ky kz kq dE) → s.heap.get? dE = none → h'.get? dE = some oE → (dE == sysModules) = false → oE.IsDictOf (strKind Challenge.rw_zn0005_01.row.prog w) kE → PyProof.V.FlatPairs PyData.str kE (kdpD (dueNames ds)) → R (.ok (.ret (.ref tE))) { s with heap := h', toks := tk }) :
  codeAny (model Challenge.rw_zn0005_01.row.prog w) (AA dp un gd fr) (.call (.ref 130) ⟨[.int a ka, .int b kb, .ref l], []⟩) R s := by
  revert X; k_fill; intro X
  k_dflt (refine' enterP (binds := [(Str.ofString "a", .int a ka), (Str.ofString "b", .int b kb), (Str.ofString "due", .ref l)]) ?k1 ?k2 ?k6 ?k7 ?k8 ?k9 ?kB ?_ ?c2 ?c3 ?c4 ?kN; (case k1 => k_asm); (case k2 => k_asm); (case k6 => k_is); (case k7 => k_is); (case k8 => (show dp < _; omega)); (case k9 => exact BindsTo.of_eq rfl); (case kB => exact locs rfl); (case kN => decide); (case c2 => exact rfl); (case c3 => exact rfl); (case c4 => exact rfl); k_whole)
  intro L h₁ F N
  (try dsimp only)
  (try k_unmd); k_fold
  obtain ⟨ha1, ha2, hb1, hb2⟩ := pairs_in hab
  ktn_open
  rename Fr _ _ _ _ => F0; rename News _ _ _ _ => N0
  refine For_invVF F0 rfl rfl ?_
  ktn_open
  rename IsRange _ _ _ _ _ _ _ _ => R1; rename Fr _ _ _ _ => F1; rename News _ _ _ _ => N1
  have hr := range_size ((ds.length : Int) - 1)
  rw [show ((ds.length : Int) - 1 - 0).toNat = ds.length - 1 by omega] at hr
  refine kpr_invN (JN _ w _ ds _) rfl R1 (small_nn (by omega) (by omega)) hr F1 N1 ⟨_, _, rfl, ‹Obj.IsDictOf (strKind _ _) _ []›, .nil, fun _ _ _ => rfl⟩ ?_ ?_
  · rintro i k t m₁ nx h tk own hk hoff ⟨o, kvs, rfl, ho, hf, hm⟩ F' N'
    rw [map_skip hm] at F'
    simp only [List.cons_append, List.nil_append] at N'
    clear hm
    have hkb := mem_rangeKs (List.mem_of_getElem? hk)
    have hlen := fold_len' (dueStep_len ds ((ds.length : Int) - 1)) ((rangeKs 0 (ds.length - 1)).take i) []
    simp only [List.length_take, List.length_nil, rangeKs_length] at hlen
    (try dsimp only); (try k_unmd); k_fold
    ktn_open
    · rename Fr _ _ _ _ => F9; rename News _ _ _ _ => N9
      rename (@LT.lt Nat _ _ _ ∧ AllLt _ _) => lq
      refine kdp_setItem F9 N9 (UpdF.tail (Nat.ne_of_gt lq.1) (UpdF.head (hoff.ne (.head _)))) ho hf (by omega) fun h' o' kvs' F8 N8 ho' hf' => ?_
      ktn_open
      refine ⟨_, _, _, _, [(_, o')], rfl, F8, N8, ?_, ?_, rfl, ⟨o', kvs', rfl, ho', by rw [take_fold hk, dueStep, if_pos ‹ds.getD (Int.toNat k) 0 = 10›, dueName, if_pos ‹k = 0›]; exact hf', fun z h1 h2 => by simp only [if_neg h1, if_neg h2]⟩⟩
      · intro q hq; rw [List.mem_singleton.mp hq]; exact .tail _ (.head _)
      · exact fun q hq => .tail _ (.tail _ hq)
    · rename Fr _ _ _ _ => F9; rename News _ _ _ _ => N9
      rename (@LT.lt Nat _ _ _ ∧ AllLt _ _) => lq
      refine kdp_setItem F9 N9 (UpdF.tail (Nat.ne_of_gt lq.1) (UpdF.head (hoff.ne (.head _)))) ho hf (by omega) fun h' o' kvs' F8 N8 ho' hf' => ?_
      ktn_open
      refine ⟨_, _, _, _, [(_, o')], rfl, F8, N8, ?_, ?_, rfl, ⟨o', kvs', rfl, ho', by rw [take_fold hk, dueStep, if_pos ‹ds.getD (Int.toNat k) 0 = 10›, dueName, if_neg ‹k ≠ 0›]; exact hf', fun z h1 h2 => by simp only [if_neg h1, if_neg h2]⟩⟩
      · intro q hq; rw [List.mem_singleton.mp hq]; exact .tail _ (.head _)
      · exact fun q hq => .tail _ (.tail _ hq)
    · rename Fr _ _ _ _ => F9; rename News _ _ _ _ => N9
      refine ⟨_, _, _, _, [(_, o)], rfl, F9, N9, ?_, ?_, rfl, ⟨o, kvs, rfl, ho, by rw [take_fold hk, dueStep, if_neg ‹¬ ds.getD (Int.toNat k) 0 = 10›]; exact hf, fun z h1 h2 => by simp only [if_neg h1, if_neg h2]⟩⟩
      · intro q hq; rw [List.mem_singleton.mp hq]; exact .head _
      · exact fun q hq => .tail _ hq
  · rintro m₁ nx h tk ⟨o, kvs, rfl, ho, hf, hm⟩ F' N'
    rw [← done_skip hm] at F'
    (try dsimp only); (try k_unmd)
    ktn_open
    have hL : (rangeKs 0 (ds.length - 1)).length = ds.length - 1 := rangeKs_length _ _
    rw [List.take_length] at hf
    rename Fr _ _ _ _ => F9; rename News _ _ _ _ => N9
    exact hR _ _ _ _ _ _ _ _ _ _ F9.keep (N9 _ (.head _)).2.2 (N9 _ (.head _)).1 (N9 _ (.tail _ (.head _))).2.2 (N9 _ (.tail _ (.head _))).1 ‹(_ == sysModules) = false› ho hf
end Mine
namespace Mine
set_option maxRecDepth 100000
def lastOf (a b : Int) : Int := a * b - a - b
def dueAt (a b : Int) (i : Nat) : Int := if hooks a b (i : Int) = [] then 10 else 46
def dueL (a b : Int) : List Int := (List.range (lastOf a b + 1).toNat).map (dueAt a b)
theorem mult_idx {a l : Int} {i : Nat} (ha : 2 ≤ a) (h1 : (i : Int) * a ≤ l) (h2 : l < (i : Int) * a + a) : i = (l / a).toNat := by
  have : l / a = (i : Int) := by
    apply Int.le_antisymm
    · exact Int.lt_add_one_iff.mp ((Int.ediv_lt_iff_lt_mul (by omega)).mpr (by rw [Int.add_mul, Int.one_mul]; exact h2))
    · exact (Int.le_ediv_iff_mul_le (by omega)).mpr h1
  rw [this]; rfl
def rowOk : Bool := pairs.all fun p => decide (rowOf (mult p.1 ((lastOf p.1 p.2 / p.1).toNat + 1)) (mult p.2 ((lastOf p.1 p.2 / p.2).toNat + 1)) (lastOf p.1 p.2) = dueL p.1 p.2)
theorem rowOk_ok : rowOk = true := by decide +kernel
theorem row_due {a b : Int} (h : (a, b) ∈ pairs) {i j : Nat} (h1 : (i : Int) * a ≤ a * b - a - b) (h2 : a * b - a - b < (i : Int) * a + a) (h3 : (j : Int) * b ≤ a * b - a - b) (h4 : a * b - a - b < (j : Int) * b + b) :
    rowOf (mult a (i + 1)) (mult b (j + 1)) (a * b - a - b) = dueL a b := by
  obtain ⟨ha1, ha2, hb1, hb2⟩ := pairs_in h
  have this : rowOf (mult a ((lastOf a b / a).toNat + 1)) (mult b ((lastOf a b / b).toNat + 1)) (lastOf a b) = dueL a b := of_decide_eq_true (List.all_eq_true.mp rowOk_ok _ h)
  rw [lastOf, ← mult_idx ha1 h1 h2, ← mult_idx (by omega) h3 h4] at this
  exact this
theorem dueL_len {a b : Int} : (dueL a b).length = (lastOf a b + 1).toNat := by simp [dueL]
theorem dueAt_in (a b : Int) (i : Nat) : dueAt a b i = 10 ∨ dueAt a b i = 46 := by unfold dueAt; split <;> simp
theorem dueL_in {a b n : Int} (h : n ∈ dueL a b) : n = 10 ∨ n = 46 := by
  obtain ⟨i, _, rfl⟩ := List.mem_map.mp h
  exact dueAt_in a b i
abbrev u8 (n : Int) : UInt8 := n.toNat.toUInt8
def turnOk : Bool := pairs.all fun p => decide (((dueL p.1 p.2).map u8).reverse = ((dueL p.1 p.2).map fun n => 56 - n).map u8)
theorem turnOk_ok : turnOk = true := by decide +kernel
theorem turn_due {a b : Int} (h : (a, b) ∈ pairs) : ((dueL a b).map u8).reverse = ((dueL a b).map fun n => 56 - n).map u8 :=
  of_decide_eq_true (List.all_eq_true.mp turnOk_ok _ h)
/-! the texts -/
def qGo (p : Bool) (l : List UInt8) : List UInt8 := l.foldr (fun c k p => (if (p && c == 46) = true then [46, 46] else [c]) ++ k (c == 10)) (fun _ => []) p
theorem qGo_nil (p : Bool) : qGo p [] = [] := rfl
theorem u8_eq (c d : UInt8) : (c.toNat == d.toNat) = (c == d) := by
  rw [Bool.eq_iff_iff]; simp [UInt8.toNat_inj]
theorem out_go (l : List UInt8) : ∀ k, k ≤ l.length → outTo (l.toArray.map (·.toNat)) l.length k ++ qGo (k == 0 || l.getD (k - 1) 0 == 10) (l.drop k) = qGo true l
  | 0, _ => by simp [outTo]
  | k + 1, h => by
    have ih := out_go l k (by omega)
    rw [outTo_succ, List.append_assoc, ← ih]
    congr 1
    have hk : k < l.length := by omega
    rw [List.drop_eq_getElem_cons hk]
    have e1 : ∀ q, q < l.length → (l.toArray.map (·.toNat)).getD q 0 = (l.getD q 0).toNat := fun q hq => by simp [Array.getD, hq]
    have e2 : l.getD k 0 = l[k] := by simp [hk]
    have e3 : ((k + 1 == 0) || l.getD (k + 1 - 1) 0 == 10) = (l[k] == 10) := by rw [Nat.add_sub_cancel, e2]; simp
    rw [e3]
    show _ = _ ++ _
    congr 1
    have hh : hitAt (l.toArray.map (·.toNat)) l.length k = ((k == 0 || l.getD (k - 1) 0 == 10) && l[k] == 46) := by
      unfold hitAt
      rw [e1 k hk, e2, show (l[k].toNat == 46) = (l[k] == 46) from u8_eq _ 46]
      have : decide (k < l.length) = true := by simpa using hk
      rw [this, Bool.true_and]
      congr 1
      by_cases h0 : k = 0
      · subst h0; rfl
      · rw [e1 (k - 1) (by omega), show ((l.getD (k - 1) 0).toNat == 10) = (l.getD (k - 1) 0 == 10) from u8_eq _ 10]
    unfold piece
    rw [hh, e1 k hk, e2]
    congr 1
    simp
theorem quote_go (l : List UInt8) : quoteB l.toArray = (qGo true l).toArray := by
  have := out_go l l.length (Nat.le_refl _)
  rw [List.drop_length, qGo_nil, List.append_nil] at this
  unfold quoteB
  rw [List.size_toArray, this]
def pairL (a b : Int) (d i : Nat) : List UInt8 := [45, u8 ((dueL a b).getD i 0), u8 ((dueL a b).getD (i + d) 0)]
def toldL (a b : Int) (d i : Nat) : List UInt8 := if (hooks a b (d : Int)).contains (i : Int) = true then [45, 10, 46, 46] else pairL a b d i
def textN (a b : Int) (d : Nat) : Nat := (lastOf a b + 1 - d).toNat
def textOk (p : Int × Int) : Bool := (List.range (lastOf p.1 p.2 + 2).toNat).all fun k => decide (qGo true ((List.range (textN p.1 p.2 (k + 1))).flatMap (pairL p.1 p.2 (k + 1))) = (List.range (textN p.1 p.2 (k + 1))).flatMap (toldL p.1 p.2 (k + 1)))
theorem textOk_0 : textOk (2, 3) = true := by decide +kernel
theorem textOk_1 : textOk (2, 5) = true := by decide +kernel
theorem textOk_2 : textOk (2, 7) = true := by decide +kernel
theorem textOk_3 : textOk (2, 9) = true := by decide +kernel
theorem textOk_4 : textOk (3, 4) = true := by decide +kernel
theorem textOk_5 : textOk (3, 5) = true := by decide +kernel
theorem textOk_6 : textOk (3, 7) = true := by decide +kernel
theorem textOk_7 : textOk (3, 8) = true := by decide +kernel
theorem textOk_8 : textOk (4, 3) = true := by decide +kernel
theorem textOk_9 : textOk (4, 5) = true := by decide +kernel
theorem textOk_10 : textOk (4, 7) = true := by decide +kernel
theorem textOk_11 : textOk (4, 9) = true := by decide +kernel
theorem textOk_12 : textOk (5, 3) = true := by decide +kernel
theorem textOk_13 : textOk (5, 4) = true := by decide +kernel
theorem textOk_14 : textOk (5, 6) = true := by decide +kernel
theorem textOk_15 : textOk (5, 7) = true := by decide +kernel
theorem textOk_16 : textOk (5, 8) = true := by decide +kernel
theorem text_told {a b : Int} (h : (a, b) ∈ pairs) {d : Nat} (h1 : 1 ≤ d) (h2 : (d : Int) ≤ lastOf a b + 2) :
    quoteB (flatB ((List.range (textN a b d)).map fun i => (pairL a b d i).toArray)) = flatB ((List.range (textN a b d)).map fun i => (toldL a b d i).toArray) := by
  have hf : ∀ (g : Nat → List UInt8) (l : List Nat), flatB (l.map fun i => (g i).toArray) = (l.flatMap g).toArray := fun g l => by
    unfold flatB; rw [List.flatMap_map]
  have hall : ∀ p ∈ pairs, textOk p = true := by
    intro p hp
    simp only [pairs, List.mem_cons, List.not_mem_nil, or_false] at hp
    rcases hp with rfl | rfl | rfl | rfl | rfl | rfl | rfl | rfl | rfl | rfl | rfl | rfl | rfl | rfl | rfl | rfl | rfl
    · exact textOk_0
    · exact textOk_1
    · exact textOk_2
    · exact textOk_3
    · exact textOk_4
    · exact textOk_5
    · exact textOk_6
    · exact textOk_7
    · exact textOk_8
    · exact textOk_9
    · exact textOk_10
    · exact textOk_11
    · exact textOk_12
    · exact textOk_13
    · exact textOk_14
    · exact textOk_15
    · exact textOk_16
  have := of_decide_eq_true (List.all_eq_true.mp (hall _ h) (d - 1) (List.mem_range.mpr (by show d - 1 < (lastOf a b + 2).toNat; omega)))
  rw [Nat.sub_add_cancel h1] at this
  rw [hf, hf, quote_go]
  exact congrArg List.toArray this
/-! the profile -/
def profOk (p : Int × Int) : Bool :=
  let σ := profOf (dueL p.1 p.2)
  decide (σ.x = Int.fdiv ((p.1 - 1) * (p.2 - 1)) 2 ∧ σ.y = Int.fdiv ((p.1 * p.1 - 1) * (p.2 * p.2 - 1)) 24 ∧ σ.z = Int.fdiv ((p.1 - 1) * (p.2 - 1) * (2 * p.1 * p.2 - p.1 - p.2 - 1)) 12 ∧ σ.q = Int.fdiv ((p.1 - 1) * (p.2 - 1) * p.1 * p.2 * (((dueL p.1 p.2).length : Int) - 1)) 12 ∧ σ.c = dueNames (dueL p.1 p.2) ∧ sumC σ.c = σ.y)
theorem profOk_0 : profOk (2, 3) = true := by decide +kernel
theorem profOk_1 : profOk (2, 5) = true := by decide +kernel
theorem profOk_2 : profOk (2, 7) = true := by decide +kernel
theorem profOk_3 : profOk (2, 9) = true := by decide +kernel
theorem profOk_4 : profOk (3, 4) = true := by decide +kernel
theorem profOk_5 : profOk (3, 5) = true := by decide +kernel
theorem profOk_6 : profOk (3, 7) = true := by decide +kernel
theorem profOk_7 : profOk (3, 8) = true := by decide +kernel
theorem profOk_8 : profOk (4, 3) = true := by decide +kernel
theorem profOk_9 : profOk (4, 5) = true := by decide +kernel
theorem profOk_10 : profOk (4, 7) = true := by decide +kernel
theorem profOk_11 : profOk (4, 9) = true := by decide +kernel
theorem profOk_12 : profOk (5, 3) = true := by decide +kernel
theorem profOk_13 : profOk (5, 4) = true := by decide +kernel
theorem profOk_14 : profOk (5, 6) = true := by decide +kernel
theorem profOk_15 : profOk (5, 7) = true := by decide +kernel
theorem profOk_16 : profOk (5, 8) = true := by decide +kernel
theorem prof_due {a b : Int} (h : (a, b) ∈ pairs) : (profOf (dueL a b)).x = Int.fdiv ((a - 1) * (b - 1)) 2 ∧ (profOf (dueL a b)).y = Int.fdiv ((a * a - 1) * (b * b - 1)) 24 ∧ (profOf (dueL a b)).z = Int.fdiv ((a - 1) * (b - 1) * (2 * a * b - a - b - 1)) 12 ∧
    (profOf (dueL a b)).q = Int.fdiv ((a - 1) * (b - 1) * a * b * (((dueL a b).length : Int) - 1)) 12 ∧ (profOf (dueL a b)).c = dueNames (dueL a b) ∧ sumC (profOf (dueL a b)).c = (profOf (dueL a b)).y := by
  have hall : ∀ p ∈ pairs, profOk p = true := by
    intro p hp
    simp only [pairs, List.mem_cons, List.not_mem_nil, or_false] at hp
    rcases hp with rfl | rfl | rfl | rfl | rfl | rfl | rfl | rfl | rfl | rfl | rfl | rfl | rfl | rfl | rfl | rfl | rfl
    · exact profOk_0
    · exact profOk_1
    · exact profOk_2
    · exact profOk_3
    · exact profOk_4
    · exact profOk_5
    · exact profOk_6
    · exact profOk_7
    · exact profOk_8
    · exact profOk_9
    · exact profOk_10
    · exact profOk_11
    · exact profOk_12
    · exact profOk_13
    · exact profOk_14
    · exact profOk_15
    · exact profOk_16
  have t := hall _ h
  simp only [profOk, decide_eq_true_eq] at t
  exact t
end Mine
namespace Mine
set_option maxRecDepth 100000
def rowsOk (Db : List (PyData × PyData)) (Da : List (PyData × PyData)) : Bool := Da.all fun p => match Spec.lookup p.1 Db with | some u => PyData.eqv p.2 u | none => false
theorem rows_of {Db : List (PyData × PyData)} : ∀ {Da : List (PyData × PyData)}, rowsOk Db Da = true → KeqRows Db Da true
  | [], _ => .nil
  | (k, v) :: r, h => by
    unfold rowsOk at h
    rw [List.all_cons, Bool.and_eq_true] at h
    obtain ⟨h1, h2⟩ := h
    cases e : Spec.lookup k Db with
    | none => simp only [e] at h1; cases h1
    | some u =>
      simp only [e] at h1
      have := KeqRows.hit (v := v) e (rows_of h2)
      rwa [h1, Bool.true_and] at this
def rowsAll (p : Int × Int) : Bool := rowsOk (kdpD (dueNames (dueL p.1 p.2))) (kdpD (dueNames (dueL p.1 p.2)))
theorem rowsAll_ok : pairs.all rowsAll = true := by decide +kernel
end Mine
namespace Mine
set_option maxRecDepth 100000
section
variable {prog : Program} {w : World} {A : Around} {E : Value → Shared → Prop} {s : Shared}
theorem tup_eq_all {l b : Addr} {items items2 : Array Value} {n n2 : Nat} {Q : Value → Shared → Prop} (hl : s.heap.get? l = some { cls := .type "tuple", data := .seq items n }) (hb : s.heap.get? b = some { cls := .type "tuple", data := .seq items2 n2 })
    (hsz : items.size = items2.size) (hu : A.units < cLine) (he : ∀ j (h1 : j < items.size) (h2 : j < items2.size) (E : Value → Shared → Prop) (Q : Bool → Shared → Prop), Q true s → wpAny (model prog w) A.in1 (eqBool items[j] items2[j]) Q E s)
    (h : Q (.bool true) s) : wpAny (model prog w) A (compareOp .Eq (.ref l) (.ref b)) Q E s := by
  refine wpAny_richCompare_same_room (op := .Eq) (T := "tuple") ⟨_, hl, rfl⟩ ⟨_, hb, rfl⟩ PySem.F.slot_tuple_eq (wpAny_call_entry PySem.F.slot_tuple_eq ⟨_, hl, rfl⟩ PySem.F.entry_tuple_eq ?_ (PySem.F.args_tuple_eq_2 _ _)) hu
  obtain ⟨hp, g, d, tk, os⟩ := s
  have f2 := AutoSeq1.sub_tuple_tuple
  have hZ : (items.toList.zip items2.toList).length = items.size := by simp [hsz]
  wp_walk using wpAny_loadPart' hl, wpAny_loadPart' hb, wpAny_forIn_list _ (fun rest b s' => b.1 = none ∧ s' = ⟨hp, g, d, tk, os⟩ ∧ ∃ i, rest = (items.toList.zip items2.toList).drop i) _
  case turn =>
    rintro ⟨y, x⟩ rest b' s' ⟨hb', rfl, i, hz⟩
    have hlt : i < (items.toList.zip items2.toList).length := by
      rcases Nat.lt_or_ge i (items.toList.zip items2.toList).length with h' | h'
      · exact h'
      · rw [List.drop_of_length_le h'] at hz; cases hz
    have h1 : i < items.size := hZ ▸ hlt
    have h2 : i < items2.size := hsz ▸ h1
    rw [List.drop_eq_getElem_cons hlt] at hz
    injection hz with hyx hrest
    have hy : y = items[i] := by have := congrArg Prod.fst hyx; simpa using this
    have hx : x = items2[i] := by have := congrArg Prod.snd hyx; simpa using this
    subst hy hx
    refine wpAny_bind (he i h1 h2 _ _ ?_)
    refine wpAny_pure ?_
    exact ⟨rfl, rfl, i + 1, hrest⟩
  case fin =>
    rintro ⟨b1, b2⟩ s' ⟨hb', rfl, i, hz⟩
    simp only at hb'
    subst hb'
    refine wpAny_pure ⟨_, rfl, ?_⟩
    simpa [Builtin.Tuple.tupleCompareSizes, hsz] using h
  case h =>
    exact ⟨rfl, rfl, 0, rfl⟩
theorem eqB_int {a : Int} {t u : Tok} {Q : Bool → Shared → Prop} (h : Q true s) : wpAny (model prog w) A (eqBool (.int a t) (.int a u)) Q E s := by
  have := (SeqAt.EqAt.int_int (A := A) (s := s) a t a u) prog w E Q
  rw [beq_self_eq_true] at this
  exact this h
theorem eqB_refs {l b : Addr} {Q : Bool → Shared → Prop} (hne : l ≠ b) (h : wpAny (model prog w) A (compareOp .Eq (.ref l) (.ref b)) (fun v s' => v = .bool true ∧ Q true s') E s) : wpAny (model prog w) A (eqBool (.ref l) (.ref b)) Q E s := by
  unfold eqBool
  refine wpAny_holding ?_
  refine wpAny_ite_split (fun hab => absurd (by have := eq_of_beq hab; injection this) hne) (fun _ => ?_)
  exact wpAny_bind (wpAny_mono h (fun v s' hv => by obtain ⟨rfl, hq⟩ := hv; exact wpAny_truthy_bool hq) fun _ _ x => x)
end
end Mine
namespace Mine
theorem fresh_FLaw : True := by w_top off; trivial

local macro_rules | `(tactic| ktn_open) => `(tactic| repeat' (first | (k_unfold; (try dsimp only)) | ((fail_if_success (with_reducible show wpAny _ _ (exec (Stmt.For _ _ _ _ _) _) _ _ _)); (fail_if_success (with_reducible show wpC _ _ _ _ _ _)); (fail_if_success (with_reducible show wpAny _ _ (pyIter (Value.ref _)) _ _ _)); (fail_if_success (with_reducible show wpAny _ _ (getMethod (Value.ref _) _ _) _ _ _)); (fail_if_success (with_reducible show wpAny _ _ (call (Value.ref _) _) _ _ _)); (fail_if_success (with_reducible show wpAny _ _ (exec (Stmt.Assign [Expr.Name (Str.ofString "told") _] _ _) _) _ _ _)); (fail_if_success (with_reducible show wpAny _ _ (compareOp CmpOp.In _ _) _ _ _)); (fail_if_success (with_reducible show wpAny _ _ (compareOp CmpOp.Eq (Value.ref _) (Value.ref _)) _ _ _)); (fail_if_success (with_reducible show wpAny _ _ (call (Value.builtin "bytes.join") _) _ _ _)); (fail_if_success (with_reducible show wpAny _ _ (subscriptTail _ _ (Value.ref _) (Value.int _ _)) _ _ _)); (fail_if_success (with_reducible show wpAny _ _ (call (Value.type "bytes") _) _ _ _)); (fail_if_success (with_reducible show wpAny _ _ (eval (Expr.ListComp _ _ _ _) _) _ _ _)); (fail_if_success (with_reducible show InvPostN _ _ _ _ _ _ _ _ _)); first | walk1 | (dsimp only; walk1) | (leave1; walk_say "STEP leave1"; try dsimp only))))
local macro_rules | `(tactic| k_all) => `(tactic| assumption)
local macro_rules | `(tactic| k_ne) => `(tactic| (refine neN ?_; (try dsimp only); first | ((fail_if_success (fail_if_success omega)); (with_reducible (first | assumption | (simp only [*, ne_eq, not_false_eq_true]; done)))) | omega))
local macro_rules | `(tactic| units_room) => `(tactic| (dsimp only [Around.deeper, Around.in1, Around.mark, AA]; omega))
theorem last_in {a b : Int} (h : (a, b) ∈ pairs) : 1 ≤ a * b - a - b ∧ a * b - a - b ≤ 27 := by
  have : pairs.all (fun p => decide (1 ≤ p.1 * p.2 - p.1 - p.2 ∧ p.1 * p.2 - p.1 - p.2 ≤ 27)) = true := by decide +kernel
  exact of_decide_eq_true (List.all_eq_true.mp this _ h)
theorem mult_pos {a : Int} {k : Nat} (h : 0 ≤ a) : ∀ n ∈ mult a k, 0 ≤ n := by
  intro n hn
  obtain ⟨i, _, rfl⟩ := List.mem_map.mp hn
  exact Int.mul_nonneg (by omega) h
theorem range_size0 (b : Int) : Builtin.Range.rangeSize 0 b 1 = ((Int.toNat b : Nat) : Int) := by
  have := range_size b
  rwa [Int.sub_zero] at this
def JL (pre : List (Addr × Obj)) (c6 c5 c4 : Addr) (post : List (Addr × Obj)) (m₀ : Str → Option Value) (_i : Nat) (m : Str → Option Value) (nx : List (Addr × Obj)) : Prop :=
  ∃ oh op od x y z, nx = pre ++ (c6, oh) :: (c5, op) :: (c4, od) :: post ∧ oh.data = .cell x ∧ op.data = .cell y ∧ od.data = .cell z ∧ Off2 (Str.ofString "heap") (Str.ofString "told") m₀ m
theorem map_opt {x y : Str} {m₁ m₀ : Str → Option Value} {v : Value} (hm : Off2 x y m₀ m₁) : (fun z => if z = x then some v else m₁ z) = fun z => if z = x then some v else if z = y then m₁ y else m₀ z := by
  funext z
  by_cases h1 : z = x
  · simp [h1]
  · by_cases h2 : z = y
    · subst h2; simp [h1]
    · simp only [if_neg h1, if_neg h2]; exact hm z h1 h2
theorem allLt_ne {d : Nat} {l : List (Addr × Obj)} (h : AllLt d l) {p : Addr × Obj} (hp : p ∈ l) : p.1 ≠ d := by
  induction l with
  | nil => cases hp
  | cons q r ih =>
    rcases List.mem_cons.mp hp with rfl | hp
    · exact Nat.ne_of_lt h.1
    · exact ih h.2 hp
theorem dist_in {l : Int} (k : Int) (h : 1 ≤ l) : ∃ d : Nat, 1 + Int.fmod k (l + 2) = (d : Int) ∧ 1 ≤ d ∧ (d : Int) ≤ l + 2 := by
  have h1 := Int.fmod_nonneg_of_pos k (show (0 : Int) < l + 2 by omega)
  have h2 := Int.fmod_lt_of_pos k (show (0 : Int) < l + 2 by omega)
  exact ⟨(1 + Int.fmod k (l + 2)).toNat, by omega, by omega, by omega⟩
theorem small_any {b : Int} (h0 : -1 ≤ b) (h1 : b ≤ 100) : Builtin.Range.small 0 b 1 = true := by
  by_cases h : 0 ≤ b
  · exact small_nn h h1
  · have : b = -1 := by omega
    subst this; decide +kernel
theorem dueL_getD {a b : Int} {i : Nat} : (dueL a b).getD i 0 = 0 ∨ (dueL a b).getD i 0 = 10 ∨ (dueL a b).getD i 0 = 46 := by
  rw [List.getD_eq_getElem?_getD]
  cases h : (dueL a b)[i]? with
  | none => exact .inl rfl
  | some n => exact .inr (dueL_in (List.mem_of_getElem? h))
theorem any_contains (ns : List Int) (k : Int) : ns.any (· == k) = ns.contains k := by
  induction ns with
  | nil => rfl
  | cons n r ih => rw [List.any_cons, List.contains_cons, ih, Bool.beq_comm]
theorem itemBytes {prog : Program} {w : World} {A : Around} {E : Value → Shared → Prop} {s : Shared} {h₀ : Heap} {L : Addr} {news : List (Addr × Obj)} {value slice : PySem.Expr} {l : Addr} {its : List Value} {xs : List (Array UInt8)} {k : Nat} {tk : Tok} {Q : Value → Shared → Prop}
    (N : News h₀ L s.heap news) (hm : (l, LCg.lst its) ∈ news) (hi : BytesAre its xs) (h1 : k < xs.length) (h2 : xs.length < 1000000)
    (h : ∀ b t, xs[k]? = some b → Q (.bytes b t) s) (hs : subscripted slice false (.ref l) (.int (k : Int) tk) = operate [.ref l, .int (k : Int) tk] (getItem (.ref l) (.int (k : Int) tk)) := by with_unfolding_all rfl) :
    wpAny (model prog w) A (subscriptTail value slice (.ref l) (.int (k : Int) tk)) Q E s := by
  have hl : s.heap.IsList l its.toArray := ⟨_, (N _ hm).1, rfl, _, rfl⟩
  obtain ⟨b, t, hb, hv⟩ := hi.at h1
  have hlen := hi.length
  refine tail_any hl.typeIs slot_list_getitem.lookup (wpAny_getItem_list hl (by omega) (by omega) (x := .bytes b t) (by simpa using hv) (h b t hb)) hs
theorem flat_le {f : Nat → List UInt8} (h : ∀ i, (f i).length ≤ 4) (n : Nat) : (flatB ((List.range n).map fun i => (f i).toArray)).size ≤ 4 * n := by
  unfold flatB
  rw [List.size_toArray]
  induction n with
  | zero => simp
  | succ k ih =>
    rw [List.range_succ, List.map_append, List.flatMap_append, List.length_append]
    have := h k
    simp at ih ⊢
    omega
theorem type_by_join : typeOf (.builtin "bytes.join") = pure (.type "method_descriptor") := by show builtinType _ = _; rw [builtinType_eq_fast]; kernel_rfl
def AllNe (a : Nat) (l : List (Addr × Obj)) : Prop := l.foldr (fun p q => @Ne Nat a p.1 ∧ q) True
theorem allNe_nil (a : Nat) : AllNe a [] = True := rfl
theorem allNe_cons (a : Nat) (p : Addr × Obj) (r : List (Addr × Obj)) : AllNe a (p :: r) = (@Ne Nat a p.1 ∧ AllNe a r) := rfl
theorem allNe_of {h₀ h : Heap} {L b : Addr} {news : List (Addr × Obj)} (N : News h₀ L h news) (hb : h.get? b = none) : AllNe b news := by
  induction news with
  | nil => trivial
  | cons p r ih => exact ⟨apartN N hb (.head _), ih (kti_tail N)⟩
theorem allNe_of' {b : Addr} {o : Obj} {h₀ h : Heap} {L : Addr} {news : List (Addr × Obj)} (_N : News h₀ L h ((b, o) :: news)) (hb : ∀ p ∈ news, p.1 ≠ b) : AllNe b news := by
  clear _N
  induction news with
  | nil => trivial
  | cons p r ih => exact ⟨fun e => hb p (.head _) e.symm, ih fun q hq => hb q (.tail _ hq)⟩
theorem ints_of_all : ∀ {n : Nat} {f : Nat → Int} {ys : List Value}, AllAt (fun i v => ∃ t, v = .int (f i) t) n ys → IntsAre ys ((List.range n).map f)
  | 0, f, ys, h => by have := List.length_eq_zero_iff.mp h.1; subst this; exact .nil
  | n + 1, f, [], h => absurd h.1 (by simp)
  | n + 1, f, v :: r, h => by
    obtain ⟨t, rfl⟩ := h.2 0 v rfl
    rw [List.range_succ_eq_map, List.map_cons, List.map_map]
    exact .cons _ t (ints_of_all (n := n) (f := f ∘ Nat.succ) ⟨by simpa using h.1, fun i u hu => h.2 (i + 1) u hu⟩)
theorem ints_at {vs : List Value} {ns : List Int} (h : IntsAre vs ns) {i : Nat} {v : Value} (hv : vs[i]? = some v) : ∃ k t, ns.getD i 0 = k ∧ v = .int k t := by
  have hlt : i < ns.length := by rw [← h.length]; exact (List.getElem?_eq_some_iff.mp hv).1
  obtain ⟨t, ht⟩ := h.get i _ (List.getElem?_eq_getElem hlt)
  rw [hv] at ht
  cases ht
  exact ⟨_, t, by simp [hlt], rfl⟩
theorem ints_map {vs : List Value} {ns : List Int} {ys : List Value} {f : Int → Int} (h : IntsAre vs ns) (hy : AllAt (fun i v => ∃ t, v = .int (f (ns.getD i 0)) t) vs.toArray.size ys) : IntsAre ys (ns.map f) := by
  have := ints_of_all hy
  have e : (List.range vs.toArray.size).map (fun i => f (ns.getD i 0)) = ns.map f := by
    apply List.ext_getElem
    · simp [h.length]
    · intro i h1 h2
      have : i < ns.length := by simpa using h2
      simp [this]
  rwa [e] at this
theorem bytes_of_all : ∀ {n : Nat} {f : Nat → Array UInt8} {ys : List Value}, AllAt (fun i v => ∃ t, v = .bytes (f i) t) n ys → BytesAre ys ((List.range n).map f)
  | 0, f, ys, h => by have := List.length_eq_zero_iff.mp h.1; subst this; exact .nil
  | n + 1, f, [], h => absurd h.1 (by simp)
  | n + 1, f, v :: r, h => by
    obtain ⟨t, rfl⟩ := h.2 0 v rfl
    rw [List.range_succ_eq_map, List.map_cons, List.map_map]
    exact .cons _ t (bytes_of_all (n := n) (f := f ∘ Nat.succ) ⟨by simpa using h.1, fun i u hu => h.2 (i + 1) u hu⟩)
set_option maxRecDepth 100000 in
set_option maxHeartbeats 8000000 in
theorem law_con {w : World} {dp un : Nat} {gd : Option (List Code)} {fr : Option (List Env)} {s : Shared} {mean : ExcName → Option Value} {mg mb : Str → Option Value}
  (X : (hd.heap_39 w.params).In s.heap) (T : Top hd.view_39 (looseW hd.view_39 [Str.ofString "_twin_re_1"]) mean mg mb s.heap)
  (hdp : dp + 30 < recursionLimit) (hun : un + 500 < cLine) {l : Addr} {vs : List Value} {ns : List Int} (hl : s.heap.IsList l vs.toArray) (hi : IntsAre vs ns) (hn : vs.length ≤ 63) (hgs : s.gens = #[]) {R : Result → Shared → Prop}
  (hR : ∀ h' tk gens, (∀ b o, s.heap.get? b = some o → h'.get? b = some o) → (∀ y ∈ gens, y.bare = true) → R (.ok (.ret (.bool true))) { s with heap := h', toks := tk, gens := gens }) :
  codeC (model Challenge.rw_zn0005_01.row.prog w) (AA dp un gd fr) (.call (.ref 135) ⟨[.ref l], []⟩) R s := by
  revert X; k_fill; intro X
  k_dflt (refine' codeC_enterC (binds := [(Str.ofString "script", .ref l)]) ?k1 ?k2 ?k6 ?k7 ?k8 ?k9 ?kB ?kN ?_ ?c2 ?c3 ?c4; (case k1 => k_asm); (case k2 => k_asm); (case k6 => k_is); (case k7 => k_is); (case k8 => (show dp < _; omega)); (case k9 => exact BindsTo.of_eq rfl); (case kB => exact rfl); (case kN => decide); (case c2 => exact rfl); (case c3 => exact rfl); (case c4 => exact rfl); k_whole)
  intro L h₁ tk cells F N Y
  have hY := kc_six Y; obtain ⟨o', o2', o3', o4', o5', o6', hE', d1', d2', d3', d4', d5', d6'⟩ := hY; subst hE'; clear Y
  (try dsimp only)
  refine wpC_execs_cons (wpC_of ?_)
  ktn_open
  refine wpAny_call (heaps_con (X.keeps F.keep) (T.keeps F.keep) (by show dp + 1 + 5 < _; omega) (by show un + 3 + 300 < _; omega) (hl.at fun o e => F.keep _ _ e) hi (by rw [← hi.length]; exact hn) ?_)
  intro lh itsH hs h2 tk2 hk2 hl2 hol2 hIH hlenH hbd
  have F2 := F.keeps hk2
  have N2 : News s.heap L h2 ((lh, _) :: _) := List.forall_mem_cons.mpr ⟨newAt F hl2 hol2, N.grown hk2⟩
  have e1 := allNe_of N hl2
  simp only [allNe_cons, allNe_nil, and_true] at e1
  obtain ⟨_, _, _, _, _, _⟩ := e1
  clear F N hk2 hl2 hol2 hl hi hn
  dsimp only
  ktn_open
  refine wpC_execs_cons (wpC_of ?_)
  ktn_open
  rename Fr _ _ _ _ => F1; rename News _ _ _ _ => N1
  refine wpAny_call (sizes_con (X.keeps F1.keep) (T.keeps F1.keep) (by show dp + 1 + 5 < _; omega) (by show un + 3 + 300 < _; omega) ⟨_, (N1 _ (.head _)).1, rfl, _, rfl⟩ hIH hlenH ?_)
  intro lt ta tb a b h3 tk3 hk3 hl3 hol3 hab
  have F2 := F1.keeps hk3
  have N2 : News s.heap L h3 ((lt, _) :: _) := List.forall_mem_cons.mpr ⟨newAt F1 hl3 hol3, N1.grown hk3⟩
  have e2 := allNe_of N1 hl3
  simp only [allNe_cons, allNe_nil, and_true] at e2
  clear F1 N1 hk3 hl3 hol3
  dsimp only
  ktn_open
  rename Fr _ _ _ _ => F1; rename News _ _ _ _ => N0
  have N1 := kti_tail N0
  clear N0 e2
  refine wpC_execs_cons (wpC_of ?_)
  obtain ⟨hl0, hl1⟩ := last_in hab
  obtain ⟨ha1, ha2, hb1, hb2⟩ := pairs_in hab
  ktn_open
  refine wpC_execs_cons (wpC_of ?_)
  ktn_open
  rename Fr _ _ _ _ => F2; rename News _ _ _ _ => N2
  refine wpAny_call (marks_con (X.keeps F2.keep) (T.keeps F2.keep) (by show dp + 1 + 10 < _; omega) (by show un + 3 + 300 < _; omega) ⟨_, (N2 _ (.head _)).1, rfl, _, rfl⟩ hIH hlenH (by omega) (by omega) (by omega) (by omega) ?_)
  intro lA itsA cA iA h3 gA tk3 hk3 hl3 hol3 hIA hA1 hA2 hgA
  have F3 := F2.keeps hk3
  have N3 : News s.heap L h3 ((lA, _) :: _) := List.forall_mem_cons.mpr ⟨newAt F2 hl3 hol3, N2.grown hk3⟩
  have e3 := allNe_of N2 hl3
  simp only [allNe_cons, allNe_nil, and_true] at e3
  have hgA' := hgA (by rw [hgs]; intro y hy; simp at hy)
  clear F2 N2 hk3 hl3 hol3 hgA
  dsimp only
  ktn_open
  refine wpAny_call (marks_con (X.keeps F3.keep) (T.keeps F3.keep) (by show dp + 1 + 10 < _; omega) (by show un + 3 + 300 < _; omega) ⟨_, (N3 _ (.tail _ (.head _))).1, rfl, _, rfl⟩ hIH hlenH (by omega) (by omega) (by omega) (by omega) ?_)
  intro lB itsB cB iB h4 gB tk4 hk4 hl4 hol4 hIB hB1 hB2 hgB
  have F4 := F3.keeps hk4
  have N4 : News s.heap L h4 ((lB, _) :: _) := List.forall_mem_cons.mpr ⟨newAt F3 hl4 hol4, N3.grown hk4⟩
  have hgB' := hgB hgA'
  clear F3 N3 hk4 hl4 hol4 hgB hgA'
  dsimp only
  ktn_open
  refine wpAny_call (row_con (X.keeps F4.keep) (T.keeps F4.keep) (by show dp + 1 + 5 < _; omega) (by show un + 3 + 300 < _; omega) ⟨_, (N4 _ (.tail _ (.head _))).1, rfl, _, rfl⟩ hIA ⟨_, (N4 _ (.head _)).1, rfl, _, rfl⟩ hIB (mult_pos (by omega)) (mult_pos (by omega)) (by omega) (by omega) ?_)
  intro lR itsR h5 tk5 hk5 hl5 hol5 hIR
  rw [row_due hab hA1 hA2 hB1 hB2] at hIR
  have N5 := kti_tail (kti_tail N4)
  have e5 := allNe_of N5 (show Heap.get? _ lR = none from hl5)
  simp only [allNe_cons, allNe_nil, and_true] at e5
  obtain ⟨_, _, _, _, _, _, _⟩ := e5
  have F5 := F4.keeps hk5
  have N6 : News s.heap L h5 ((lR, _) :: _) := List.forall_mem_cons.mpr ⟨newAt F4 hl5 hol5, N5.grown hk5⟩
  clear F4 N4 N5 hk5 hl5 hol5 hIA hIB hA1 hA2 hB1 hB2 e3
  dsimp only
  ktn_open
  refine wpC_execs_cons (wpC_of ?_)
  rename Fr _ _ _ _ => F7; rename News _ _ _ _ => N7
  rename (_ : Obj).data = Data.cell (some (Value.int a _)) => da; rename (_ : Obj).data = Data.cell (some (Value.int b _)) => db; rename (_ : Obj).data = Data.cell (some (Value.ref lR)) => dr
  refine asgComp1 (fun i v => ∃ t, v = .int (dueAt a b i) t) (lastOf a b + 1).toNat F7 N7 rfl rfl rfl (by decide) rfl (by decide) rfl rfl rfl ?_
  ktn_open
  rename Fr _ _ _ _ => F8; rename News _ _ _ _ => N8; rename IsRange _ _ _ _ _ _ _ _ => R8
  refine It1.range rfl F8 N8 R8 (small_nn (by omega) (by omega)) (range_size0 _) (by unfold lastOf; omega) (fun C => ?_) ?_
  · intro s5 mc own E5 i v F N hn hx hin hP
    obtain ⟨t, rfl⟩ := hP
    have hi30 : (i : Int) ≤ 30 := by unfold lastOf at hin; omega
    refine wpAny_IfExp ?_
    simp only [List.cons_append, List.nil_append] at N ⊢
    ktn_open
    refine wpAny_call (hooks_con (X.keeps F.keep) (T.keeps F.keep) (by show dp + 1 + 5 < _; omega) (by show un + 3 + 300 < _; omega) hab (by omega) hi30 ?_)
    intro lk itsk h6 tk6 hk6 hl6 hol6 hIk
    have F6 := F.keeps hk6
    have N6 : News s.heap L h6 ((lk, _) :: _) := List.forall_mem_cons.mpr ⟨newAt F hl6 hol6, N.grown hk6⟩
    clear F N hk6 hl6 hol6 hn hx
    dsimp only
    ktn_open
    · rename Fr _ _ _ _ => F9; rename News _ _ _ _ => N9; rename decide _ = true => hc
      exact ⟨⟨_, by rw [dueAt, if_pos (of_decide_eq_true hc)]⟩, _, _, rfl, F9, kti_tail (kti_tail N9)⟩
    · rename Fr _ _ _ _ => F9; rename News _ _ _ _ => N9; rename decide _ = false => hc
      exact ⟨⟨_, by rw [dueAt, if_neg (of_decide_eq_false hc)]⟩, _, _, rfl, F9, kti_tail (kti_tail N9)⟩
  · intro lD itsD h6 tk6 F9 N9 hD hys
    have hID : IntsAre itsD (dueL a b) := ints_of_all hys
    have e9 := allNe_of' N9 hD
    simp only [allNe_cons, allNe_nil, and_true] at e9
    obtain ⟨_, _, _, _, _, _, _, _⟩ := e9
    clear F8 N8 R8 hD hys
    dsimp only
    have N8 : News s.heap L h6 ((lD, listOf itsD.toArray itsD.length) :: _) := N9
    clear N9
    refine wpC_execs_cons (wpC_Assign_Name (wpC_Call_ ?_))
    ktn_open
    refine wpC_callWith_K X (by k_is) ?_
    ktn_open
    rename Fr _ _ _ _ => F7; rename News _ _ _ _ => N7
    have hlenD : (dueL a b).length = (lastOf a b + 1).toNat := dueL_len
    refine bytes_K F7 N7 ⟨_, (N7 _ (.tail _ (.head _))).1, rfl, _, rfl⟩ hIR (fun n hn => by rcases dueL_in hn with rfl | rfl <;> omega) (by rw [hIR.length, hlenD, sizeLine_eq]; unfold lastOf; omega) rfl ?_
    intro h7 tB kB F8 N8 _
    dsimp only
    ktn_open
    rename Fr _ _ _ _ => F9; rename News _ _ _ _ => N9
    refine wpC_call (bs_con (X.keeps F9.keep) (T.keeps F9.keep) (by show dp + 1 + 5 < _; omega) (by show un + 3 + 300 < _; omega) (by rw [List.length_map, hlenD]; unfold lastOf; omega) (by omega) (by omega) ?_)
    rw [turn_due hab]
    intro tT h8 tk8 hk8
    have F6 := F9.keeps hk8
    have N6 := N9.grown hk8
    clear F9 N9 hk8
    dsimp only
    ktn_open
    refine wpC_execs_cons (wpC_of ?_)
    ktn_open
    rename Fr _ _ _ _ => F9; rename News _ _ _ _ => N9
    refine listComp1 (fun i v => ∃ t, v = .int (56 - (dueL a b).getD i 0) t) itsD.toArray.size F9 N9 rfl (by decide) rfl (by decide) rfl ?_
    ktn_open
    refine It1.list rfl F9 N9 (.head _) ⟨_, (N9 _ (.head _)).1, rfl, _, rfl⟩ (by rw [List.size_toArray, hID.length, hlenD]; unfold lastOf; omega) (fun C => ?_) ?_
    · intro s5 mc own E5 i v F N hn hx hin hP
      obtain ⟨k, t, hk, rfl⟩ := ints_at hID (by simpa using hP)
      simp only [List.cons_append, List.nil_append] at N ⊢
      ktn_open
      exact ⟨⟨_, by rw [hk]⟩, _, _, rfl, F, N⟩
    intro l5 its5 h9 tk9 F5 N5 hD5 hys5
    have hI5 : IntsAre its5 ((dueL a b).map fun n => 56 - n) := ints_map hID hys5
    clear F9 N9 hys5 hD5
    dsimp only
    ktn_open
    refine bytes_K F5 N5 ⟨_, (N5 _ (.head _)).1, rfl, _, rfl⟩ hI5 (fun n hn => by obtain ⟨k, hk, rfl⟩ := List.mem_map.mp hn; rcases dueL_in hk with rfl | rfl <;> omega) (by rw [hI5.length, List.length_map, hlenD, sizeLine_eq]; unfold lastOf; omega) rfl ?_
    intro h10 tB5 kB5 F6 N6 _
    have N7 := kti_tail N6
    clear F5 N5 N6 hI5
    dsimp only
    ktn_open
    · rename (_ != _) = true => hc
      exact absurd hc (by simp [u8])
    rename Fr _ _ _ _ => F5; rename News _ _ _ _ => N5
    refine wpC_of ?_
    (try dsimp only); (try k_unmd); k_fold
    ktn_open
    rename Fr _ _ _ _ => F6; rename News _ _ _ _ => N6
    refine For_invVF F6 rfl rfl ?_
    ktn_open
    rename Fr _ _ _ _ => F5; rename News _ _ _ _ => N5; rename IntsAre _ (List.drop 2 hs) => hIS; rename (@LT.lt Nat _ _ _ ∧ _) => l1
    rename (_ : Obj).data = Data.cell (some (Value.ref lR)) => dr
    have hlS := N5 _ (.head _)
    have N6 := kti_tail N5
    refine wpAny_pyIter_list ⟨_, hlS.1, rfl, _, rfl⟩ ?_
    refine loop_invN (JL [(lD, _), (lR, _), (lh, _)] (L + 1 + 1 + 1 + 1 + 1 + 1) (L + 1 + 1 + 1 + 1 + 1) (L + 1 + 1 + 1 + 1) [(_, _), (_, _), (_, _)] _) (Walks.list rfl _ _ (Nat.ne_of_lt (Heap.lt_size hlS.1)) _) ?_ ?_ ?_ ?_ ⟨⟨_, Heap.get?_push_size _ rfl, rfl, rfl⟩, ⟨_, Heap.get?_push_of_some _ hlS.1, rfl, _, rfl⟩⟩ (F5.push _) (fun p hp => ⟨Heap.get?_push_of_some _ (N6 p hp).1, (N6 p hp).2⟩) ⟨_, _, _, _, _, _, rfl, d1', d2', d3', fun _ _ _ => rfl⟩ ?_ ?_
    · intro hm
      rcases List.mem_cons.mp hm with e | e
      · exact absurd F5.ns.lt (e ▸ Nat.lt_irrefl _)
      · exact absurd (List.mem_singleton.mp e).symm hlS.2.1
    · intro b hb
      rw [List.mem_singleton.mp hb]
      exact next_is_new F5
    · intro p hp hI
      exact absurd (Heap.lt_size (N6 p hp).1) ((List.mem_singleton.mp hI) ▸ Nat.lt_irrefl _)
    · intro p hp hI
      rcases List.mem_cons.mp hI with e | e
      · exact absurd (Heap.lt_size (N6 p hp).1) (e ▸ Nat.lt_irrefl _)
      · have e := List.mem_singleton.mp e
        refine allLt_ne ?_ hp e
        simp only [AllLt, and_true]
        exact l1
    · rintro i v m₁ nx h tk own hi hP hadr hoff ⟨oh, op, od, x, y, z, rfl, ch, cp, cd, hm⟩ F' N'
      obtain ⟨k, t, hk, rfl⟩ := ints_at hIS (by simpa using hP)
      rw [map_opt hm] at F'
      simp only [List.cons_append, List.nil_append] at N'
      have o6 : ∀ p ∈ own, p.1 ≠ L + 1 + 1 + 1 + 1 + 1 + 1 := hoff.ne (by simp)
      have o5 : ∀ p ∈ own, p.1 ≠ L + 1 + 1 + 1 + 1 + 1 := hoff.ne (by simp)
      have o4 : ∀ p ∈ own, p.1 ≠ L + 1 + 1 + 1 + 1 := hoff.ne (by simp)
      generalize m₁ (Str.ofString "told") = mt at F'
      clear hm N5 N6 F5 hlS
      (try dsimp only); (try k_unmd); k_fold
      ktn_open
      obtain ⟨dN, hdN, hd1, hd2⟩ := dist_in k hl0
      rename (_ : Obj).data = Data.cell (some (Value.int (1 + _) _)) => dd
      rw [hdN] at dd
      rename Fr _ _ _ _ => F7; rename News _ _ _ _ => N7
      refine listComp1 (fun i v => ∃ t, v = .bytes (pairL a b dN i).toArray t) (textN a b dN) F7 N7 rfl (by decide) rfl (by decide) rfl ?_
      ktn_open
      rename Fr _ _ _ _ => F8; rename News _ _ _ _ => N8; rename IsRange _ _ _ _ _ _ _ _ => R8
      refine It1.range rfl F8 N8 R8 (small_any (by omega) (by omega)) (range_size0 _) (by unfold textN lastOf; omega) (fun C => ?_) ?_
      · intro s5 mc own5 E5 q v F N hn hx hin hP
        obtain ⟨t5, rfl⟩ := hP
        have hq1 : (q : Int) + dN < (dueL a b).length := by rw [hlenD]; unfold textN lastOf at hin; unfold lastOf; omega
        simp only [List.cons_append, List.nil_append] at N ⊢
        ktn_open
        refine itemLed N (.tail _ (.head _)) hIR (by omega) (by omega) (by rw [hlenD]; unfold lastOf; omega) (fun t6 => ?_)
        ktn_open
        refine itemLed N (.tail _ (.head _)) hIR (by omega) (by omega) (by rw [hlenD]; unfold lastOf; omega) (fun t7 => ?_)
        ktn_open
        rename Fr _ _ _ _ => F4; rename News _ _ _ _ => N4
        refine bytes_K (ns := [45, (dueL a b).getD (Int.toNat (q : Int)) 0, (dueL a b).getD (Int.toNat ((q : Int) + (dN : Int))) 0]) F4 N4 ⟨_, (N4 _ (.head _)).1, rfl, _, rfl⟩ (.cons _ _ (.cons _ _ (.cons _ _ .nil))) ?_ (by rw [sizeLine_eq]; simp) rfl ?_
        · intro n hn
          simp only [List.mem_cons, List.not_mem_nil, or_false] at hn
          rcases hn with rfl | rfl | rfl
          · omega
          · rcases dueL_getD (a := a) (b := b) (i := Int.toNat (q : Int)) with h | h | h <;> omega
          · rcases dueL_getD (a := a) (b := b) (i := Int.toNat ((q : Int) + (dN : Int))) with h | h | h <;> omega
        intro h10 t8 k8 F3 N3 _
        refine ⟨⟨t8, ?_⟩, _, _, rfl, F3, kti_tail N3⟩
        have e : Int.toNat ((q : Int) + (dN : Int)) = q + dN := by omega
        rw [e, Int.toNat_natCast]
        rfl
      intro lP itsP h9 tk9 F9 N9 hD9 hys9
      have hIP : BytesAre itsP _ := bytes_of_all hys9
      have e8 := allNe_of' N9 hD9
      clear R8 hys9 hD9
      (try clear F8 N8)
      simp only [allNe_cons, allNe_nil, and_true, List.cons_append, List.nil_append] at e8 N9
      obtain ⟨_, _, _, _, _, _, _, _, _, _⟩ := e8
      dsimp only
      ktn_open
      rename Fr _ _ _ _ => F4; rename News _ _ _ _ => N4
      refine wpAny_call (hooks_con (X.keeps F4.keep) (T.keeps F4.keep) (by show dp + 1 + 5 < _; omega) (by show un + 3 + 300 < _; omega) hab (by omega) (by omega) ?_)
      intro lk itsk h10 tk10 hk10 hl10 hol10 hIk
      generalize itsk.length = ck at hol10
      have e10 := allNe_of N4 hl10
      simp only [allNe_cons, allNe_nil, and_true] at e10
      obtain ⟨_, _, _, _, _, _, _, _, _, _, _⟩ := e10
      have F3 := F4.keeps hk10
      have N3 : News s.heap L h10 ((lk, _) :: _) := List.forall_mem_cons.mpr ⟨newAt F4 hl10 hol10, N4.grown hk10⟩
      clear F4 N4 hk10 hl10 hol10
      dsimp only
      ktn_open
      rename Fr _ _ _ _ => F5; rename News _ _ _ _ => N5
      rename (_ : Obj).data = Data.cell (some (Value.ref lk)) => dk; rename (_ : Obj).data = Data.cell (some (Value.ref lP)) => dp5
      refine asgComp1 (fun i v => ∃ t, v = .bytes (toldL a b dN i).toArray t) (textN a b dN) F5 N5 rfl rfl rfl (by decide) rfl (by decide) rfl rfl rfl ?_
      ktn_open
      rename Fr _ _ _ _ => F8; rename News _ _ _ _ => N8; rename IsRange _ _ _ _ _ _ _ _ => R8
      refine It1.range rfl F8 N8 R8 (small_any (by omega) (by omega)) (range_size0 _) (by unfold textN lastOf; omega) (fun C => ?_) ?_
      · intro s5 mc own5 E5 q v F N hn hx hin hP
        obtain ⟨t5, rfl⟩ := hP
        refine wpAny_IfExp ?_
        simp only [List.cons_append, List.nil_append] at N ⊢
        ktn_open
        refine in_list_ints ⟨_, (N _ (.head _)).1, rfl, _, rfl⟩ hIk ?_
        rw [any_contains]
        ktn_open
        · rename List.contains _ _ = true => hc
          exact ⟨⟨_, by unfold toldL; rw [if_pos hc]⟩, _, _, rfl, F, N⟩
        · rename List.contains _ _ = false => hc
          refine itemBytes N (.tail _ (.head _)) hIP (by simpa using hin) (by simp; unfold textN lastOf; omega) (fun b5 t6 hb => ?_)
          refine ⟨⟨t6, ?_⟩, _, _, rfl, F, N⟩
          rw [List.getElem?_map, List.getElem?_range hin] at hb
          cases hb
          unfold toldL
          rw [hc]
          rfl
      intro lT itsT h11 tk11 F9 N9 hD9 hys9
      have hIT : BytesAre itsT _ := bytes_of_all hys9
      clear R8 hys9 hD9
      (try simp only [List.cons_append, List.nil_append] at N9)
      dsimp only
      ktn_open
      have hz1 : (flatB ((List.range (textN a b dN)).map fun i => (pairL a b dN i).toArray)).size ≤ 1000 := Nat.le_trans (flat_le (fun i => by simp [pairL]) _) (by unfold textN lastOf; omega)
      have hz2 : (flatB ((List.range (textN a b dN)).map fun i => (toldL a b dN i).toArray)).size ≤ 1000 := Nat.le_trans (flat_le (fun i => by unfold toldL; split <;> simp [pairL]) _) (by unfold textN lastOf; omega)
      refine getMethod_builtin (T := "bytes") (typeIs_bytes _ _ _) PySem.W.FB.plainAttrs_bytes by_slot_join type_by_join (fun a e => nomatch e) ?_
      dsimp only
      refine callWith_method1 ?_ rfl rfl
      ktn_open
      rename Fr _ _ _ _ => F5; rename News _ _ _ _ => N5
      refine call_join0 ⟨_, (N5 _ (.tail _ (.tail _ (.head _)))).1, rfl, _, rfl⟩ hIP (by omega) fun t12 k12 => ?_
      ktn_open
      refine wpAny_call (quote_con (X.keeps F5.keep) (T.keeps F5.keep) (by show dp + 1 + 5 < _; omega) (by show un + 3 + 300 < _; omega) hz1 ?_)
      intro t13 h13 tk13 hk13
      rw [text_told hab hd1 hd2]
      have F6 := F5.keeps hk13
      have N6 := N5.grown hk13
      clear F5 N5 hk13
      dsimp only
      ktn_open
      refine getMethod_builtin (T := "bytes") (typeIs_bytes _ _ _) PySem.W.FB.plainAttrs_bytes by_slot_join type_by_join (fun a e => nomatch e) ?_
      dsimp only
      refine callWith_method1 ?_ rfl rfl
      ktn_open
      refine call_join0 ⟨_, (N6 _ (.head _)).1, rfl, _, rfl⟩ hIT (by omega) fun t14 k14 => ?_
      ktn_open
      · rename (_ != _) = true => hc
        exact absurd hc (by simp)
      rename Fr _ _ _ _ => F7; rename News _ _ _ _ => N7
      refine ⟨_, _, _, _, [(lD, _), (lR, _), (lh, _), (_, _), (_, _), (_, _), (_, _), (_, _), (_, _)], rfl, F7, N7, ?_, ?_, ?_, ⟨_, _, _, _, _, _, rfl, dk, dp5, dd, fun z h1 h2 => by simp only [if_neg h1, if_neg h2]⟩⟩
      · exact fun p hp => .tail _ (.tail _ (.tail _ (List.mem_append_left own hp)))
      · exact fun p hp => by simp [hp]
      · rfl
    · rintro m₁ nx h tk ⟨oh, op, od, x, y, z, rfl, ch, cp, cd, hm⟩ F' N'
      rw [← done_skip hm] at F'
      simp only [List.cons_append, List.nil_append] at N'
      generalize m₁ (Str.ofString "told") = u1 at F'
      generalize m₁ (Str.ofString "heap") = u2 at F'
      clear hm N5 N6 F5 hlS
      (try dsimp only); (try k_unmd)
      ktn_open
      rename Fr _ _ _ _ => F5; rename News _ _ _ _ => N5
      refine wpAny_call (prof_con (X.keeps F5.keep) (T.keeps F5.keep) (by show dp + 1 + 20 < _; omega) (by show un + 3 + 340 < _; omega) ⟨_, (N5 _ (.tail _ (.head _))).1, rfl, _, rfl⟩ hIR (by rw [hlenD]; unfold lastOf; omega) ?_)
      intro tE dE oE kE kx ky kz kq h12 tk12 hk12 ht12 hot12 hd12 hod12 lo12 hD12 hf12
      have e12 := allNe_of N5 ht12
      have e13 := allNe_of N5 hd12
      simp only [allNe_cons, allNe_nil, and_true] at e12 e13
      obtain ⟨_, _, _, _, _, _, _, _, _⟩ := e12
      obtain ⟨_, _, _, _, _, _, _, _, _⟩ := e13
      have F6 := F5.keeps hk12
      have N6 : News s.heap L h12 ((tE, _) :: (dE, oE) :: _) := List.forall_mem_cons.mpr ⟨newAt F5 ht12 hot12, List.forall_mem_cons.mpr ⟨newAt F5 hd12 hod12, N5.grown hk12⟩⟩
      clear F5 N5 hk12 ht12 hot12 hd12 hod12
      dsimp only
      ktn_open
      rename Fr _ _ _ _ => F5; rename News _ _ _ _ => N5
      refine wpAny_call (due_con (X.keeps F5.keep) (T.keeps F5.keep) (by show dp + 1 + 5 < _; omega) (by show un + 3 + 300 < _; omega) hab ⟨_, (N5 _ (.tail _ (.tail _ (.head _)))).1, rfl, _, rfl⟩ hID (by rw [hlenD]; unfold lastOf; omega) (by rw [hlenD]; unfold lastOf; omega) ?_)
      intro tU dU oU kU jx jy jz jq h13 tk13 hk13 ht13 hot13 hd13 hod13 lo13 hD13 hf13
      obtain ⟨q1, q2, q3, q4, q5, q6⟩ := prof_due hab
      rw [← q1, ← q2, ← q3, ← q4] at hot13
      rw [← q5] at hf13
      have F6 := F5.keeps hk13
      have N6 : News s.heap L h13 ((tU, _) :: (dU, oU) :: _) := List.forall_mem_cons.mpr ⟨newAt F5 ht13 hot13, List.forall_mem_cons.mpr ⟨newAt F5 hd13 hod13, N5.grown hk13⟩⟩
      have hne : dU ≠ dE := apartN N5 hd13 (.tail _ (.head _))
      clear F5 N5 hk13 ht13 hot13 hd13 hod13
      dsimp only
      ktn_open
      rename Fr _ _ _ _ => F7; rename News _ _ _ _ => N7
      have TU := TabAt.ofNews N7 (.tail _ (.head _)) lo13 hD13 hf13
      have TE := TabAt.ofNews N7 (.tail _ (.tail _ (.tail _ (.head _)))) lo12 hD12 hf12
      refine tup_eq_all (N7 _ (.tail _ (.tail _ (.head _)))).1 (N7 _ (.head _)).1 rfl (by units_room) (fun j h1 h2 E1 Q1 hq => ?_) ?_
      · have hj : j = 0 ∨ j = 1 ∨ j = 2 ∨ j = 3 ∨ j = 4 := by simp at h1; omega
        rcases hj with rfl | rfl | rfl | rfl | rfl
        · exact eqB_int hq
        · exact eqB_int hq
        · exact eqB_int hq
        · exact eqB_int hq
        · exact eqB_refs (fun q => hne q.symm) (keq_tabs PyProof.V.same_str TE TU rfl (by units_room) (rows_of (by rw [q5]; exact List.all_eq_true.mp rowsAll_ok _ hab)) ⟨rfl, hq⟩)
      ktn_open
      refine item_tupleT (News.isTup N7 (.tail _ (.tail _ (.head _)))) (by decide) (by decide) rfl rfl ?_
      ktn_open
      refine wpAny_call (count_con (X.keeps F7.keep) (T.keeps F7.keep) (by show dp + 1 + 5 < _; omega) (by show un + 3 + 300 < _; omega) TE ?_)
      rw [q6]
      intro tC h14 tk14 hk14
      have F8 := F7.keeps hk14
      have N8 := N7.grown hk14
      clear F7 N7 TE TU hk14
      dsimp only
      ktn_open
      refine item_tupleT (News.isTup N8 (.tail _ (.tail _ (.head _)))) (by decide) (by decide) rfl rfl ?_
      ktn_open
      rw [beq_self_eq_true]
      exact hR _ _ _ F8.keep hgB'
end Mine
set_option maxRecDepth 100000 in
set_option maxHeartbeats 8000000 in
theorem PySem.Challenge.cw_zn0005_01_holds : PySem.Challenge.rw_zn0005_01.Holds := by
  refine Mine.hd ?_
  k_fill
  intro w s₀ s₁ mg mb G Y fa o pm cd doc dV kV ho hd hcd hD hmg hg args vals as hpre hlay hrd hwl hlo
  have KX := kIn_of Y
  have X := (Ground.X G).1
  have V := (Ground.X G).2
  refine Ground.open G ?_
  intro T B D TE TW
  wrow_args hpre hlay hrd hwl hlo
  have e135 : fa = 135 := by
    have := mg_of (n := Str.ofString "law") (v := .ref 135) KX T.g (by kernel_rfl)
    have q : mg (Str.ofString "law") = some (.ref fa) := hmg
    rw [q] at this
    exact Value.ref.inj (Option.some.inj this)
  subst e135
  rename IntsAre _ _ => hI
  rename Heap.IsList _ _ _ => hL
  rename ¬ ((63 : Nat) : Int) < _ => h63
  rename List Int => ns
  have good : ∀ (h' : Heap) (tk : Nat) (gens : Array GenState), (∀ b o, s₁.heap.get? b = some o → h'.get? b = some o) → (∀ y ∈ gens, y.bare = true) → GoodWG Challenge.rw_zn0005_01.row.claim (classAt s₀.heap) (ExcName.means s₀.heap) [ofPy (PyData.list (ns.map PyData.int))] s₁ (.ok (.ret (.bool true))) { s₁ with heap := h', toks := tk, gens := gens } := fun h' tk gens hk hb =>
    ⟨.inl ⟨_, _, [], rfl, fun _ => rfl, ReadsW.bool true, by first | rfl | wrow_post, fun _ => ⟨List.nodup_nil, fun _ hm => (nomatch hm)⟩⟩, .of_keep hk, rfl, hb⟩
  refine Mine.onClean_any (Mine.wpC_call (Mine.law_con KX T (by decide) (by decide) hL hI (by rw [hI.length]; omega) hg fun h' tk gens hk hb => good h' tk gens hk hb)) (good _ _ _ (fun _ _ e => e) (by rw [hg]; intro y hy; simp at hy))

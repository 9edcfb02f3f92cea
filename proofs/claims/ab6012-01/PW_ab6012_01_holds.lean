import PyProof.Rows.All
import Wide.All
import OpenK.AllK
import Wide.FinOn
import PySem.Challenge.RW_ab6012_01
set_option Elab.async false
set_option linter.unusedVariables false
set_option linter.unusedSimpArgs false
set_option linter.unusedSectionVars false

section
open PySem PySem.W PyProof.Rows
namespace Mine
set_option maxRecDepth 100000 in
set_option maxHeartbeats 8000000 in
open_top hd for PySem.Challenge.rw_ab6012_01
end Mine

end

section
open PySem PySem.W PyProof.Rows PySem.Calls
set_option maxRecDepth 100000
namespace Mine
theorem calm_base : True := by
  w_top off
  trivial

/-- what a call of the text's own def gives: every object that stood stays as it was -/
def Calls (k : Nat) (w : World) (f : Addr) (vs : List Value) (P : Heap → Prop) (R : Heap → Heap → Value → Prop) : Prop :=
  ∀ (p : Program) (loose : List Str) (mean : ExcName → Option Value) (mg mb : Str → Option Value) (dp un : Nat) (gd : Option (List Code)) (cn : Str) (cs : Scope) (a : Addr) (ccd : Value) (cl : List (Str × Addr)) (outer : List Env)
    (A₀ : Around) (base h₀ : Heap) (L : Addr) (m : Str → Option Value) (s : Shared) (Q : Value → Shared → Prop),
    Below A₀ base outer h₀ → Fr h₀ L s.heap m → (hd.heap_39 w.params).In h₀ → Top p loose mean mg mb h₀ → cs.kind = .function → dp + k < recursionLimit → un + 10 * k < cLine → P s.heap →
    (∀ v h' tk', s.heap.StaysIn h' → R s.heap h' v → Q v { s with heap := h', toks := tk' }) →
    wpAny (model PySem.Challenge.rw_ab6012_01.row.prog w) (ktrTop dp un gd cn cs L a ccd cl outer) (call (.ref f) vs) Q (fun _ _ => False) s

theorem fr_stays {h₀ h h' : Heap} {L : Addr} {m : Str → Option Value} (F : Fr h₀ L h m) (k : h.StaysIn h') : Fr h₀ L h' m :=
  ⟨F.ns.at' fun o e => k _ o e, fun b o e => k b o (F.keep b o e), F.above⟩
theorem news_stays {h₀ h h' : Heap} {L : Addr} {news : List (Addr × Obj)} (N : News h₀ L h news) (k : h.StaysIn h') : News h₀ L h' news :=
  fun p hp => ⟨k _ _ (N p hp).1, (N p hp).2⟩
/-- d is none of the addresses of a ledger -/
def AllNe (d : Addr) : List (Addr × Obj) → Prop
  | [] => True
  | p :: r => @Ne Nat p.1 d ∧ AllNe d r
theorem allNe_of {d : Addr} : ∀ {l : List (Addr × Obj)}, (∀ p ∈ l, p.1 ≠ d) → AllNe d l
  | [], _ => trivial
  | p :: _, h => ⟨h p (.head _), allNe_of fun q hq => h q (.tail _ hq)⟩
theorem AllNe.mem {d : Addr} {l : List (Addr × Obj)} (h : AllNe d l) : ∀ p ∈ l, p.1 ≠ d := by
  induction l with
  | nil => intro p hp; cases hp
  | cons q r ih =>
    intro p hp
    rcases List.mem_cons.mp hp with e | hp
    · rw [e]; exact h.1
    · exact ih h.2 p hp
/-- a new object that a call has made goes onto the ledger -/
theorem news_new {h₀ g h' : Heap} {L a : Addr} {m : Str → Option Value} {news : List (Addr × Obj)} {o : Obj} (F : Fr h₀ L g m) (N : News h₀ L g news) (N' : News h₀ L h' news) (hn : g.get? a = none) (ho : h'.get? a = some o) :
    News h₀ L h' ((a, o) :: news) ∧ AllNe a news := by
  refine ⟨fun p hp => ?_, allNe_of fun p hp e => ?_⟩
  · rcases List.mem_cons.mp hp with rfl | hp
    · refine ⟨ho, fun e => ?_, ?_⟩
      · obtain ⟨oL, _, _, q, _⟩ := F.ns
        have e' : a = L := e
        rw [e', q] at hn; cases hn
      · cases q : h₀.get? a with
        | none => rfl
        | some o' => rw [F.keep _ _ q] at hn; cases hn
    · exact N' p hp
  · have := (N p hp).1; rw [e, hn] at this; cases this

section
variable {prog : Program} {w : World} {A₀ A : Around} {s : Shared} {base h₀ : Heap} {outer : List Env} {L : Addr} {m : Str → Option Value} {env : Env} {K : Frag}
  {R : Result → Shared → Prop} {name qual : Str} {params : Arguments} {body : List Stmt} {scope : Scope} {dV kV doc pm cdv ct oc : Value} {an od : Option Addr} {osl : Array (Option Value)} {f : Addr} {args : Args} {binds : List (Str × Value)}
  {p : Program} {loose : List Str} {mean : ExcName → Option Value} {mg mb : Str → Option Value}
def retOf : Flow → Value
  | .ret v => v
  | _ => .none
theorem enterP (B : Below A₀ base outer h₀) (F : Fr h₀ L s.heap m) (X₀ : K.In h₀) (T : Top p loose mean mg mb h₀) (hA : A.frames = some (env :: outer)) (hf : env.frame = some L) (hke : env.scope.kind = .function)
    (ho : K.lookup f = some ⟨oc, od, .func (fnOf name qual params body scope dV kV doc pm an cdv ct), osl⟩) (hcd : codeIn K cdv qual = true) (hroom : A.depth < recursionLimit)
    (hbind : BindsTo s (fnOf name qual params body scope dV kV doc pm an cdv ct) args binds) (hloc : ∀ y ∈ binds, scope.names.lookup y.1 = some .local)
    (h : ∀ g L' h₁, g = s.heap → Fr g L' h₁ (fun y => binds.reverse.lookup y) → News g L' h₁ [] → Below A base (env :: outer) g → K.In g → Top p loose mean mg mb g →
      wpAny (model prog w) (A.deeper (envOf qual scope L' f cdv)) (execs body (envOf qual scope L' f cdv))
        (fun fl s' => R (.ok (.ret (retOf fl))) s') (fun _ _ => False)
        { s with heap := h₁, toks := s.toks + binds.length })
    (hco : scope.isCoroutine = false) (hgen : scope.isGenerator = false) (hk : scope.kind = .function)
    (hcell : ∀ x ∈ scope.names, x.2 ≠ .cell) : codeAny (model prog w) A (.call (.ref f) args) R s := by
  have X : K.In s.heap := X₀.keeps F.keep
  refine codeAny_call_def (fd := fnOf name qual params body scope dV kV doc pm an cdv ct) (body := body) (binds := binds) hroom (X _ _ ho) rfl (T.nolimit.keeps F.keep) (codeRec_of X hcd) rfl hbind hcell hloc (fun h₁ hns hk₁ => ?_) hco hgen hk
  refine wpAny_mono (h s.heap s.heap.objs.size h₁ rfl ⟨hns, hk₁, Nat.le_refl _⟩ News.nil (pushX B F hf hke |> fun b => ⟨hA, b.stays, b.frames⟩) X (T.keeps F.keep)) (fun fl s' hl => ?_) fun _ _ y => y.elim
  cases fl <;> exact hl
theorem enterC (B : Below A₀ base outer h₀) (F : Fr h₀ L s.heap m) (X₀ : K.In h₀) (T : Top p loose mean mg mb h₀) (hA : A.frames = some (env :: outer)) (hf : env.frame = some L) (hke : env.scope.kind = .function)
    (ho : K.lookup f = some ⟨oc, od, .func (fnOf name qual params body scope dV kV doc pm an cdv ct), osl⟩) (hcd : codeIn K cdv qual = true) (hroom : A.depth < recursionLimit)
    (hbind : BindsTo s (fnOf name qual params body scope dV kV doc pm an cdv ct) args binds) (hkind : (binds.all fun y => scope.names.lookup y.1 == some .local || scope.names.lookup y.1 == some .cell) = true)
    (hnd : ((cellsFrom 0 scope.names []).map (·.1)).Nodup)
    (h : ∀ g L' h₁ tk cells, g = s.heap → Fr g L' h₁ (bindL (envOfC qual scope L' f cdv).kindOf binds fun _ => none) → News g L' h₁ cells →
      CellsAre (bindC (envOfC qual scope L' f cdv).kindOf binds fun _ => none) (cellsFrom (L' + 1) scope.names []) cells → Below A base (env :: outer) g → K.In g → Top p loose mean mg mb g →
      wpAny (model prog w) (A.deeper (envOfC qual scope L' f cdv)) (execs body (envOfC qual scope L' f cdv))
        (fun fl s' => R (.ok (.ret (retOf fl))) s') (fun _ _ => False)
        { s with heap := h₁, toks := tk })
    (hco : scope.isCoroutine = false) (hgen : scope.isGenerator = false) (hk : scope.kind = .function) : codeAny (model prog w) A (.call (.ref f) args) R s := by
  have X : K.In s.heap := X₀.keeps F.keep
  refine codeAny_call_function hroom (X _ _ ho) rfl hco hgen rfl (codeRec_of X hcd) (hbind _ _ _ _ ?_)
  refine wpAny_newFunctionEnv_cells hk ((kindsX hkind) _) fun env' he s' x => ?_
  subst he
  refine ⟨(T.nolimit.keeps F.keep).keeps x.toInCall.keep, codeAny_func ?_⟩
  obtain ⟨h₁, tk, rfl, _⟩ := x.done
  have hk₁ := x.toInCall.keep
  obtain ⟨cells, NC, Y⟩ := Cl.news (h₀ := s.heap) (Nat.le_refl _) fun n c hm => ⟨x.cell n c (lookup_of_mem_nodup (cellsFrom_names scope.names 0 (s.heap.objs.size + 1) [] [] rfl ▸ hnd) hm), x.above n c hm⟩
  refine wpAny_mono (h s.heap s.heap.objs.size h₁ tk cells rfl ⟨x.toInCall.ns, hk₁, Nat.le_refl _⟩ NC Y (pushX B F hf hke |> fun b => ⟨hA, b.stays, b.frames⟩) X (T.keeps F.keep)) (fun fl s' hl => ?_) fun _ _ y => y.elim
  cases fl <;> exact hl
theorem wp_peek_push {α : Type} {K : Frag} {M : Model} {A : Around} {E : Value → Shared → Prop} {Q : α → Shared → Prop} {s : Shared} {o : Obj} {r : Addr → α}
    (X : K.In s.heap) (q : Q (r s.heap.objs.size) { s with heap := s.heap.push o }) :
    ∀ (t : Sem α) (g : Addr → Option α), peek1 K ⟨M.prog, M.w.params⟩ t = some (o, g) → (∀ D, g D = some (r D)) → wpAny M A t Q E s := by
  intro t
  induction t with
  | rule _ k ih => intro g e hg Γ p hΓ; exact ih () g e hg Γ p hΓ
  | point _ k ih => intro g e hg Γ p hΓ; exact ih () g e hg Γ p hΓ
  | ask k ih => intro g e hg Γ p hΓ; exact ih _ g e hg Γ p hΓ
  | load a _ k ih =>
    intro g e hg Γ p hΓ
    simp only [peek1] at e
    split at e
    · rename_i ob ho; exact ⟨ob, X _ _ ho, ih ob g e hg Γ p hΓ⟩
    · cases e
  | alloc ob k _ =>
    intro g e hg
    have e : some (ob, fun D => peek K ⟨M.prog, M.w.params⟩ (k D)) = some (o, g) := e
    obtain ⟨e1, e2⟩ := Prod.mk.inj (Option.some.inj e)
    subst e1
    subst e2
    have X' : K.In (s.heap.push ob) := X.keeps fun b x hb => Heap.get?_push_of_some _ hb
    show wpAny M A (alloc ob >>= k) Q E s
    refine wpAny_bind (wpAny_alloc ?_)
    exact (Looks.of_peek (M := M) (h := s.heap.push ob) X' (hg s.heap.objs.size)).here (s := { s with heap := s.heap.push ob }) q
  | _ => intro g e; cases e
theorem enterR {vs : List Value} {g₁ : Addr → Option (List (Str × Value))} {bindD : Addr → List (Str × Value)} (B : Below A₀ base outer h₀) (F : Fr h₀ L s.heap m) (X₀ : K.In h₀) (T : Top p loose mean mg mb h₀) (hA : A.frames = some (env :: outer)) (hf : env.frame = some L) (hke : env.scope.kind = .function)
    (ho : K.lookup f = some ⟨oc, od, .func (fnOf name qual params body scope dV kV doc pm an cdv ct), osl⟩) (hcd : codeIn K cdv qual = true) (hroom : A.depth < recursionLimit)
    (hv : args.pos.drop (params.posonlyargs.length + params.args.length) = vs)
    (hp : peek1 K ⟨prog, w.params⟩ (bindArgs (fnOf name qual params body scope dV kV doc pm an cdv ct) args) = some (({ cls := .type "tuple", data := .seq vs.toArray } : Obj), g₁))
    (hg : ∀ D, g₁ D = some (bindD D)) (hloc : ∀ D, ∀ y ∈ bindD D, scope.names.lookup y.1 = some .local)
    (h : ∀ D g L' h₁ tk, g = s.heap → Fr g L' h₁ (fun y => (bindD D).reverse.lookup y) → News g L' h₁ [(D, ({ cls := .type "tuple", data := .seq vs.toArray } : Obj))] → Below A base (env :: outer) g → K.In g → Top p loose mean mg mb g →
      wpAny (model prog w) (A.deeper (envOf qual scope L' f cdv)) (execs body (envOf qual scope L' f cdv))
        (fun fl s' => R (.ok (.ret (retOf fl))) s') (fun _ _ => False)
        { s with heap := h₁, toks := tk })
    (hco : scope.isCoroutine = false) (hgen : scope.isGenerator = false) (hk : scope.kind = .function)
    (hcell : ∀ x ∈ scope.names, x.2 ≠ .cell) : codeAny (model prog w) A (.call (.ref f) args) R s := by
  have _ := hv
  have X : K.In s.heap := X₀.keeps F.keep
  refine codeAny_call_function (fd := fnOf name qual params body scope dV kV doc pm an cdv ct) (body := body) hroom (X _ _ ho) rfl hco hgen rfl (codeRec_of X hcd) ?_
  refine wp_peek_push (o := ({ cls := .type "tuple", data := .seq vs.toArray } : Obj)) X (r := bindD) ?_ _ g₁ hp hg
  refine wpAny_newFunctionEnv hcell (hloc _) (fun h₁ hns hsb => ⟨((T.nolimit.keeps F.keep).keeps fun b o e => Heap.get?_push_of_some _ e).fresh _ hsb, codeAny_func ?_⟩) hk
  have hk₁ : ∀ b o, s.heap.get? b = some o → h₁.get? b = some o := fun b o e => hsb.extBut b o (by rw [Heap.size_push]; exact Nat.ne_of_lt (Nat.lt_succ_of_lt (Heap.lt_size e))) (Heap.get?_push_of_some _ (Heap.get?_push_of_some _ e))
  have hD : h₁.get? s.heap.objs.size = some ({ cls := .type "tuple", data := .seq vs.toArray } : Obj) := hsb.extBut _ _ (by rw [Heap.size_push]; exact Nat.ne_of_lt (Nat.lt_succ_self _)) (Heap.get?_push_of_some _ (Heap.get?_push_size _ rfl))
  refine wpAny_mono (h s.heap.objs.size s.heap (s.heap.push ({ cls := .type "tuple", data := .seq vs.toArray } : Obj)).objs.size h₁ _ rfl ⟨hns, hk₁, by rw [Heap.size_push]; exact Nat.le_succ _⟩ (fun p hp => ?_) (pushX B F hf hke |> fun b => ⟨hA, b.stays, b.frames⟩) X (T.keeps F.keep)) (fun fl s' hl => ?_) fun _ _ y => y.elim
  · rcases List.mem_cons.mp hp with rfl | hp
    · exact ⟨hD, by rw [Heap.size_push]; exact Nat.ne_of_lt (Nat.lt_succ_self _), Heap.get?_none_of_le (Nat.le_refl _)⟩
    · cases hp
  · cases fl <;> exact hl
end

section
variable {k : Nat} {w : World} {f : Addr} {vs : List Value} {P : Heap → Prop} {R : Heap → Heap → Value → Prop} {h₀ : Heap}
  {p : Program} {loose : List Str} {mean : ExcName → Option Value} {mg mb : Str → Option Value} {dp un : Nat} {gd : Option (List Code)} {cn : Str} {cs : Scope} {a : Addr} {ccd : Value} {cl : List (Str × Addr)} {outer : List Env}
    {A₀ : Around} {base : Heap} {L : Addr} {m : Str → Option Value} {news : List (Addr × Obj)} {s : Shared} {Q E : Value → Shared → Prop}
theorem useC (C : Calls k w f vs P R) (B : Below A₀ base outer h₀) (F : Fr h₀ L s.heap m) (X : (hd.heap_39 w.params).In h₀) (N : News h₀ L s.heap news) (T : Top p loose mean mg mb h₀) (hk : cs.kind = .function)
    (hd : dp + k < recursionLimit) (hu : un + 10 * k < cLine) (hP : P s.heap) (h : ∀ v h' tk', s.heap.StaysIn h' → Fr h₀ L h' m → News h₀ L h' news → R s.heap h' v → Q v { s with heap := h', toks := tk' }) :
    wpAny (model PySem.Challenge.rw_ab6012_01.row.prog w) (ktrTop dp un gd cn cs L a ccd cl outer) (call (.ref f) vs) Q E s :=
  wpAny_noRaise (C p loose mean mg mb dp un gd cn cs a ccd cl outer A₀ base h₀ L m s Q B F X T hk hd hu hP fun v h' tk' st r => h v h' tk' st (fr_stays F st) (news_stays N st) r)
end
end Mine

end

section
open PySem PySem.W PyProof.Rows PySem.Calls
set_option maxRecDepth 100000
namespace Mine
theorem calm_s1 : True := by
  w_top off
  trivial
local macro_rules | `(tactic| walk_at "mine.room") => `(tactic| first
  | omega
  | ((try simp only [depth_under_make, depth_under_kw, depth_in1, depth_deeper, depth_caller]); (try dsimp only [ktrTop]); omega)
  | ((have hcL9 := cLine_is); (try simp only [units_in1, units_deeper, Around.mark_units, units_caller] at *); (try dsimp only [ktrTop] at *); omega))
local macro_rules | `(tactic| k_all) => `(tactic| first | assumption | exact AllNe.mem (by assumption))
theorem kind_isn : builtinKind "issubclass.nested" = none := by decide +kernel
theorem plain_isn : plainId "issubclass.nested" = true := by decide +kernel
theorem args_isn (a b c : Value) : argsOk "issubclass.nested" ⟨[a, b, c], []⟩ := by unfold argsOk; kernel_rfl

theorem isn_one {X Y : String} {v : Bool} (hm : kitMeta Y = true) (hs : subIn [] (.type X) (.type Y) = some v) (dep : Int) (tk : Tok) :
    Meets (Builtin.«issubclass.nested» ⟨[.type X, .type Y, .int dep tk], []⟩) (fun _ R s => ∀ tk', R (.ok (.ret (.bool v))) { s with toks := tk' }) := by
  intro prog w A R s hs'
  obtain ⟨h, g, d, tt, os⟩ := s
  have hsub : Looks (model prog w) h (isSubtype (.type X) (.type Y)) v := looks_subIn (K := []) (fun _ _ e => by cases e) hs
  have hty := kitMeta_of hm
  unfold Builtin.«issubclass.nested»
  dsimp only
  rw [hty]
  refine wpAny_bind (wpAny_pure ?_)
  rw [if_pos (by decide)]
  k_delta "plainIsSubclass"
  refine wpAny_bind (wpAny_bind (m := isType (.type X)) (wpAny_pure ?_))
  refine (wpAny_bind (m := isType (.type Y)) (wpAny_pure ?_))
  simp only [Bool.and_self, if_true]
  refine hsub.at ?_
  exact wpAny_pure (hs' _)

def isnAny (X : String) : List String → Option Bool
  | [] => some false
  | Y :: r => if kitMeta Y then (match subIn [] (.type X) (.type Y) with
    | some true => some true
    | some false => isnAny X r
    | none => none) else none

theorem isn_items {prog : Program} {w : World} {A : Around} {E : Value → Shared → Prop} {X : String} {dep : Int} : ∀ (cs : List String) (b : Bool) (s : Shared) (Q : Option Fin × Unit → Shared → Prop),
    isnAny X cs = some b → (∀ tk, Q (if b then some (.done (.ret (.bool true))) else none, ()) { s with toks := tk }) →
    wpAny (model prog w) A (forIn (cs.map Value.type) ((none : Option Fin), ()) fun c _ => do
      if ← truthy (← call (.builtin "issubclass.nested") [.type X, c, rawInt (dep + 1)]) then
        let r ← ret (.bool true)
        pure (ForInStep.done (some r, ()))
      else pure (ForInStep.yield (none, ()))) Q E s
  | [], b, s, Q, e, h => by
    have e' : some false = some b := e
    cases e'
    exact wpAny_pure (h s.toks)
  | c :: cs, b, s, Q, e, h => by
    rw [List.map_cons, List.forIn_cons]
    unfold isnAny at e
    split at e
    · rename_i hm
      split at e
      · rename_i q
        cases e
        refine wpAny_bind (wpAny_bind (call_function_meets kind_isn plain_isn F.entry_issubclass_nested (args_isn _ _ _) (isn_one hm q _ _) fun tk' => ?_))
        show wpAny _ _ (truthy (.bool true) >>= _) _ _ _
        refine wpAny_bind (m := truthy (.bool true)) (wpAny_pure ?_)
        exact wpAny_bind (wpAny_pure (wpAny_pure (wpAny_pure (h tk'))))
      · rename_i q
        refine wpAny_bind (wpAny_bind (call_function_meets kind_isn plain_isn F.entry_issubclass_nested (args_isn _ _ _) (isn_one hm q _ _) fun tk' => ?_))
        show wpAny _ _ (truthy (.bool false) >>= _) _ _ _
        refine wpAny_bind (m := truthy (.bool false)) (wpAny_pure ?_)
        exact wpAny_pure (isn_items cs b _ Q e fun tk => h tk)
      · cases e
    · cases e

theorem isn_tuple {tp : Addr} {dd : Option Addr} {X : String} {cs : List String} {n : Nat} {sl : Array (Option Value)} {b : Bool} (e : isnAny X cs = some b) (tk : Tok) :
    Meets (Builtin.«issubclass.nested» ⟨[.type X, .ref tp, .int 0 tk], []⟩)
      (fun _ R s => s.heap.get? tp = some ⟨.type "tuple", dd, .seq (cs.map Value.type).toArray n, sl⟩ ∧ ∀ tk', R (.ok (.ret (.bool b))) { s with toks := tk' }) := by
  intro prog w A R s hs
  obtain ⟨h, g, d, tt, os⟩ := s
  obtain ⟨htp, hq⟩ := hs
  have hT2 : (⟨h, g, d, tt, os⟩ : Shared).TypeIs (.ref tp) "tuple" := ⟨_, htp, rfl⟩
  have f1 := F.isi_sub_tuple
  unfold Builtin.«issubclass.nested»
  repeat (any_goals (first | assumption | wp_step))
  refine wpAny_arrayLoop ?_
  simp only [Option.getD_some, List.toList_toArray]
  refine isn_items (dep := 0) cs b _ _ e fun tk' => ?_
  cases b with
  | true =>
    simp only [if_true]
    repeat (any_goals (first | assumption | wp_step))
    exact hq tk'
  | false =>
    simp only [Bool.false_eq_true, if_false]
    repeat (any_goals (first | assumption | wp_step))
    exact hq tk'

section
variable {prog : Program} {w : World} {A : Around} {E : Value → Shared → Prop} {s : Shared} {Q : Value → Shared → Prop} {b : Bool}
theorem isn_call {tp : Addr} {dd : Option Addr} {X : String} {cs : List String} {n : Nat} {sl : Array (Option Value)} (htp : s.heap.get? tp = some ⟨.type "tuple", dd, .seq (cs.map Value.type).toArray n, sl⟩)
    (e : isnAny X cs = some b) (h : ∀ tk, Q (.bool b) { s with toks := tk }) : wpAny (model prog w) A (call (.builtin "issubclass") [.type X, .ref tp]) Q E s :=
  call_issubclass (S := fun _ R s => s.heap.get? tp = some ⟨.type "tuple", dd, .seq (cs.map Value.type).toArray n, sl⟩ ∧ ∀ tk, R (.ok (.ret (.bool b))) { s with toks := tk })
    (fun prog w A R s hs => issubclass_outer (isn_tuple e _ prog w A R s hs)) ⟨htp, h⟩
end
theorem isn_str : isnAny "str" ["str", "bytes"] = some true := by decide +kernel
theorem isn_bytes : isnAny "bytes" ["str", "bytes"] = some true := by decide +kernel

local macro_rules | `(tactic| walk_at "call builtin:issubclass") => `(tactic| (k_here; k_dflt (refine' isn_call (cs := ["str", "bytes"]) ?N ?e ?_; (case N => exact News.get (by k_asm) (by k_mem)); (case e => first | exact isn_str | exact isn_bytes); k_whole; intro _)))
local macro_rules | `(tactic| walk_at "call type:type") => `(tactic| (k_here; (with_reducible show wpAny _ _ (call _ [Value.bytes _ _]) _ _ _); refine call_type_of (Tx := "bytes") rfl (by decide +kernel) ?_))
set_option maxHeartbeats 4000000 in
theorem fspath_str (w : World) (x : Str) (t : Tok) : Calls 10 w 94 [.str x t] (fun _ => True) (fun _ _ v => v = .str x t) := by
  unfold Calls
  k_fill
  intro p loose mean mg mb dp un gd cn cs a ccd cl outer A₀ base h₀ L m s Q B F X T hk hd hu hP hret
  refine wpAny_call ?_
  k_dflt (refine' enterP ?k1 ?k2 ?k3 ?k5 ?kA ?kF ?kK ?k6 ?k7 ?k8 ?k9 ?kB ?_ ?c2 ?c3 ?c4 ?c5; (case kA => exact rfl); (case kF => exact rfl); (case kK => assumption); (case k1 => exact B); (case k2 => exact F); (case k3 => exact X); (case k5 => exact T); (case k6 => k_is); (case k7 => k_is); (case k8 => ktr_room); (case k9 => exact BindsTo.of_eq rfl); (case c5 => decide); (case kB => exact locs rfl); (case c2 => exact rfl); (case c3 => exact rfl); (case c4 => exact rfl); k_whole)
  intro g L₁ h₁ eg F₁ N₁ B₁ X₁ T₁
  (try rw [← eg] at hP)
  clear F X T B
  (try dsimp only)
  k_fold
  k_steps
  refine hret _ _ _ (by rw [← eg]; exact Fr.keep (by k_asm)) ?_
  rfl
set_option maxHeartbeats 4000000 in
theorem fspath_bytes (w : World) (x : Array UInt8) (t : Tok) : Calls 10 w 94 [.bytes x t] (fun _ => True) (fun _ _ v => v = .bytes x t) := by
  unfold Calls
  k_fill
  intro p loose mean mg mb dp un gd cn cs a ccd cl outer A₀ base h₀ L m s Q B F X T hk hd hu hP hret
  refine wpAny_call ?_
  k_dflt (refine' enterP ?k1 ?k2 ?k3 ?k5 ?kA ?kF ?kK ?k6 ?k7 ?k8 ?k9 ?kB ?_ ?c2 ?c3 ?c4 ?c5; (case kA => exact rfl); (case kF => exact rfl); (case kK => assumption); (case k1 => exact B); (case k2 => exact F); (case k3 => exact X); (case k5 => exact T); (case k6 => k_is); (case k7 => k_is); (case k8 => ktr_room); (case k9 => exact BindsTo.of_eq rfl); (case c5 => decide); (case kB => exact locs rfl); (case c2 => exact rfl); (case c3 => exact rfl); (case c4 => exact rfl); k_whole)
  intro g L₁ h₁ eg F₁ N₁ B₁ X₁ T₁
  (try rw [← eg] at hP)
  clear F X T B
  (try dsimp only)
  k_fold
  k_steps
  refine hret _ _ _ (by rw [← eg]; exact Fr.keep (by k_asm)) ?_
  rfl
set_option maxHeartbeats 4000000 in
theorem getsep_str (w : World) (x : Str) (t : Tok) : Calls 10 w 115 [.str x t] (fun _ => True) (fun _ _ v => ∃ t, v = .str (Str.ofString "/") t) := by
  unfold Calls
  k_fill
  intro p loose mean mg mb dp un gd cn cs a ccd cl outer A₀ base h₀ L m s Q B F X T hk hd hu hP hret
  refine wpAny_call ?_
  k_dflt (refine' enterP ?k1 ?k2 ?k3 ?k5 ?kA ?kF ?kK ?k6 ?k7 ?k8 ?k9 ?kB ?_ ?c2 ?c3 ?c4 ?c5; (case kA => exact rfl); (case kF => exact rfl); (case kK => assumption); (case k1 => exact B); (case k2 => exact F); (case k3 => exact X); (case k5 => exact T); (case k6 => k_is); (case k7 => k_is); (case k8 => ktr_room); (case k9 => exact BindsTo.of_eq rfl); (case c5 => decide); (case kB => exact locs rfl); (case c2 => exact rfl); (case c3 => exact rfl); (case c4 => exact rfl); k_whole)
  intro g L₁ h₁ eg F₁ N₁ B₁ X₁ T₁
  (try rw [← eg] at hP)
  clear F X T B
  (try dsimp only)
  k_fold
  k_steps
  refine hret _ _ _ (by rw [← eg]; exact Fr.keep (by k_asm)) ?_
  exact ⟨_, rfl⟩
set_option maxHeartbeats 4000000 in
theorem getsep_bytes (w : World) (x : Array UInt8) (t : Tok) : Calls 10 w 115 [.bytes x t] (fun _ => True) (fun _ _ v => ∃ t, v = .bytes #[47] t) := by
  unfold Calls
  k_fill
  intro p loose mean mg mb dp un gd cn cs a ccd cl outer A₀ base h₀ L m s Q B F X T hk hd hu hP hret
  refine wpAny_call ?_
  k_dflt (refine' enterP ?k1 ?k2 ?k3 ?k5 ?kA ?kF ?kK ?k6 ?k7 ?k8 ?k9 ?kB ?_ ?c2 ?c3 ?c4 ?c5; (case kA => exact rfl); (case kF => exact rfl); (case kK => assumption); (case k1 => exact B); (case k2 => exact F); (case k3 => exact X); (case k5 => exact T); (case k6 => k_is); (case k7 => k_is); (case k8 => ktr_room); (case k9 => exact BindsTo.of_eq rfl); (case c5 => decide); (case kB => exact locs rfl); (case c2 => exact rfl); (case c3 => exact rfl); (case c4 => exact rfl); k_whole)
  intro g L₁ h₁ eg F₁ N₁ B₁ X₁ T₁
  (try rw [← eg] at hP)
  clear F X T B
  (try dsimp only)
  k_fold
  k_steps
  refine hret _ _ _ (by rw [← eg]; exact Fr.keep (by k_asm)) ?_
  exact ⟨_, rfl⟩
end Mine

end

section
open PySem PySem.W PyProof.Rows PySem.Calls
set_option maxRecDepth 100000
namespace Mine
theorem calm_lp : True := by
  w_top off
  trivial

theorem letGo_listiter {prog : Program} {w : World} {A : Around} {E : Value → Shared → Prop} {target : Expr} {I t : Addr} {i : Nat} {v : Value} {Q' : Unit → Shared → Prop} {s' : Shared} (hit : s'.heap.IsListIter I t i) (h : Q' () s') :
    wpAny (model prog w) A (letOwnedTupleGo target (.ref I) v) Q' E s' := by
  obtain ⟨o, ho, hc, hd⟩ := hit
  unfold letOwnedTupleGo
  cases target <;> first
    | exact wpAny_pure h
    | (cases v <;> first
        | exact wpAny_pure h
        | (refine wpAny_bind (wpAny_load ho ?_)
           rw [hc, hd]
           exact wpAny_pure h))
theorem letGo_rangeiter {prog : Program} {w : World} {A : Around} {E : Value → Shared → Prop} {target : Expr} {I : Addr} {x l st : Int} {v : Value} {Q' : Unit → Shared → Prop} {s' : Shared} (hit : IsRangeIter s'.heap I x l st) (h : Q' () s') :
    wpAny (model prog w) A (letOwnedTupleGo target (.ref I) v) Q' E s' := by
  unfold letOwnedTupleGo
  cases target <;> first
    | exact wpAny_pure h
    | (cases v <;> first
        | exact wpAny_pure h
        | (refine wpAny_bind (wpAny_load hit ?_)
           exact wpAny_pure h))

section
variable {prog : Program} {w : World} {A : Around} {s : Shared} {env : Env} {h₀ : Heap} {L : Addr}

theorem news_step {h h' : Heap} {m : Str → Option Value} {news : List (Addr × Obj)} {I : Addr} (F : Fr h₀ L h m) (N : News h₀ L h news) (off : ∀ p ∈ news, p.1 ≠ I) (hIL : I ≠ L) (hI0 : h₀.get? I = none)
    (k : ∀ b o, b ≠ I → h.get? b = some o → h'.get? b = some o) : Fr h₀ L h' m ∧ News h₀ L h' news :=
  ⟨⟨F.ns.at' fun o e => k _ o (Ne.symm hIL) e, fun b o e => k b o (fun q => by rw [q, hI0] at e; cases e) (F.keep b o e), F.above⟩,
   fun p hp => ⟨k _ _ (off p hp) (N p hp).1, (N p hp).2⟩⟩

theorem loopW {I : Addr} {fp : List Addr} {n : Nat} {P : Nat → Value → Prop} {St : Nat → Heap → Prop} {target : Expr} {body : List Stmt} {R : Result → Shared → Prop} {m₀ : Str → Option Value} {news₀ : List (Addr × Obj)}
    (W : Walks prog w A I fp [I] n P St)
    (stI : ∀ i h, St i h → ∃ o, h.get? I = some o)
    (go : ∀ i (s' : Shared) v (Q' : Unit → Shared → Prop), St i s'.heap → Q' () s' → wpAny (model prog w) A (letOwnedTupleGo target (.ref I) v) Q' (fun _ _ => False) s')
    (J : Nat → (Str → Option Value) → List (Addr × Obj) → Prop)
    (src : ∀ b ∈ fp, b ≠ I → ∃ o, h₀.get? b = some o ∨ ∀ i m news, J i m news → (b, o) ∈ news)
    (hI0 : h₀.get? I = none) (hIL : I ≠ L)
    (st0 : St 0 s.heap) (F : Fr h₀ L s.heap m₀) (N : News h₀ L s.heap news₀) (off : ∀ p ∈ news₀, p.1 ≠ I) (h0 : J 0 m₀ news₀)
    (turn : ∀ i v m news oI h tk, i < n → P i v → J i m news → (∀ p ∈ news, p.1 ≠ I) → Fr h₀ L h m → News h₀ L h ((I, oI) :: news) →
      wpAny (model prog w) A (assign target env v) (fun _ s' => wpAny (model prog w) A (execs body env)
        (UnrPost h₀ L s I oI (J (i + 1)) (fun f s'' => R (.ok f) s'')) (fun _ _ => False) s') (fun _ _ => False) { s with heap := h, toks := tk })
    (done : ∀ m news h tk, J n m news → Fr h₀ L h m → News h₀ L h news → R (.ok .next) { s with heap := h, toks := tk }) :
    codeAny (model prog w) A (.forLoop target (.ref I) body [] env) R s := by
  refine codeAny_forLoop_any
    (fun k s' => ∃ h' tk m' news' i, s' = { s with heap := h', toks := tk } ∧ St i h' ∧ Fr h₀ L h' m' ∧ News h₀ L h' news' ∧ (∀ p ∈ news', p.1 ≠ I) ∧ J i m' news' ∧ i ≤ n ∧ k = n + 1 - i) ?_ (n + 1)
    ⟨s.heap, s.toks, m₀, news₀, 0, rfl, st0, F, N, off, h0, Nat.zero_le _, rfl⟩
  rintro k s' ⟨h', tk, m', news', i, rfl, hst', F', N', off', hJ, hi, rfl⟩
  by_cases hlt : i < n
  · refine W.item i _ _ _ hlt hst' fun v h₁ tk₁ hP hst₁ hk₁ => ?_
    have hk : ∀ b o, b ≠ I → h'.get? b = some o → h₁.get? b = some o := fun b o hb e => hk₁ b o (fun q => hb (List.mem_singleton.mp q)) e
    obtain ⟨F₁, N₁⟩ := news_step F' N' off' hIL hI0 hk
    obtain ⟨oI, hoI⟩ := stI _ _ hst₁
    refine wpAny_noRaise (go (i + 1) _ v _ hst₁ ?_)
    have NI : News h₀ L h₁ ((I, oI) :: news') := fun p hp => by
      rcases List.mem_cons.mp hp with rfl | hp
      · exact ⟨hoI, hIL, hI0⟩
      · exact N₁ p hp
    refine wpAny_noRaise (wpAny_mono (turn i v m' news' oI h₁ tk₁ hlt hP hJ off' F₁ NI) (fun _ s₂ h₂ => ?_) fun _ _ e => e.elim)
    refine wpAny_noRaise (wpAny_mono h₂ (fun f s₃ h₃ => ?_) fun _ _ e => e.elim)
    have fin : (∃ h' tk' m' news', s₃ = { s with heap := h', toks := tk' } ∧ Fr h₀ L h' m' ∧ News h₀ L h' ((I, oI) :: news') ∧ (∀ p ∈ news', p.1 ≠ I) ∧ J (i + 1) m' news') →
        ∃ m_1, m_1 < n + 1 - i ∧ ∃ h' tk m' news' j, s₃ = { s with heap := h', toks := tk } ∧ St j h' ∧ Fr h₀ L h' m' ∧ News h₀ L h' news' ∧ (∀ p ∈ news', p.1 ≠ I) ∧ J j m' news' ∧ j ≤ n ∧ m_1 = n + 1 - j := by
      rintro ⟨h₃', tk₃, m₃, news₃, rfl, F₃, N₃, off₃, hJ₃⟩
      refine ⟨n + 1 - (i + 1), by omega, h₃', tk₃, m₃, news₃, i + 1, rfl, ?_, F₃, (fun p hp => N₃ p (List.mem_cons_of_mem _ hp)), off₃, hJ₃, hlt, rfl⟩
      refine W.frame _ _ _ hst₁ fun b hb o e => ?_
      by_cases hbI : b = I
      · subst hbI
        rw [hoI] at e; cases e
        exact (N₃ _ (List.mem_cons_self ..)).1
      · obtain ⟨o₀, q⟩ := src b hb hbI
        rcases q with q | q
        · have := F₁.keep b o₀ q
          rw [e] at this; cases this
          exact F₃.keep b _ q
        · have := (N₁ _ (q i m' news' hJ)).1
          rw [e] at this; cases this
          exact (N₃ _ (List.mem_cons_of_mem _ (q (i + 1) m₃ news₃ hJ₃))).1
    cases f with
    | ret v => exact h₃
    | brk => exact h₃
    | next => exact fin h₃
    | cont => exact fin h₃
  · have hin : i = n := by omega
    subst hin
    refine W.done _ _ _ hst' fun h₁ tk₁ hk₁ => wpAny_execs_nil ?_
    obtain ⟨F₁, N₁⟩ := news_step F' N' off' hIL hI0 fun b o hb e => hk₁ b o (fun q => hb (List.mem_singleton.mp q)) e
    exact done m' news' h₁ tk₁ hJ F₁ N₁

/-- what a loop runs over: a list of the base, or one of the ledger that no turn changes -/
def SrcAt (h₀ : Heap) (J : Nat → (Str → Option Value) → List (Addr × Obj) → Prop) (l : Addr) (T : String) (items : Array Value) : Prop :=
  ∃ o, o.cls = .type T ∧ (∃ n, o.data = .seq items n) ∧ (h₀.get? l = some o ∨ ∀ i m news, J i m news → (l, o) ∈ news)
theorem SrcAt.get {J : Nat → (Str → Option Value) → List (Addr × Obj) → Prop} {l : Addr} {T : String} {items : Array Value} {h : Heap} {m m₀ : Str → Option Value} {news : List (Addr × Obj)} {i : Nat} (x : SrcAt h₀ J l T items) (F : Fr h₀ L h m) (N : News h₀ L h news) (hJ : J i m₀ news) :
    ∃ o, h.get? l = some o ∧ o.cls = .type T ∧ ∃ n, o.data = .seq items n := by
  obtain ⟨o, hc, hd, q⟩ := x
  exact ⟨o, q.elim (fun e => F.keep _ _ e) (fun e => (N _ (e i m₀ news hJ)).1), hc, hd⟩

theorem iter_list {l : Addr} {items : Array Value} {target : Expr} {body : List Stmt} {R : Result → Shared → Prop} {m₀ : Str → Option Value} {news₀ : List (Addr × Obj)}
    (J : Nat → (Str → Option Value) → List (Addr × Obj) → Prop) (hh : A.handled = none)
    (src : SrcAt h₀ J l "list" items) (F : Fr h₀ L s.heap m₀) (N : News h₀ L s.heap news₀) (h0 : J 0 m₀ news₀)
    (turn : ∀ I i v m news oI h tk, (∀ p ∈ news₀, p.1 < I) → items[i]? = some v → J i m news → (∀ p ∈ news, p.1 ≠ I) → Fr h₀ L h m → News h₀ L h ((I, oI) :: news) →
      wpAny (model prog w) A (assign target env v) (fun _ s' => wpAny (model prog w) A (execs body env)
        (UnrPost h₀ L s I oI (J (i + 1)) (fun f s'' => R (.ok f) s'')) (fun _ _ => False) s') (fun _ _ => False) { s with heap := h, toks := tk })
    (done : ∀ m news h tk, J items.size m news → Fr h₀ L h m → News h₀ L h news → R (.ok .next) { s with heap := h, toks := tk }) :
    wpAny (model prog w) A (pyIter (.ref l)) (fun it s₂ => codeAny (model prog w) A (.forLoop target it body [] env) R s₂) (fun _ _ => False) s := by
  have hl : s.heap.IsList l items := src.get F N h0
  refine wpAny_pyIter_list hl ?_
  have hlt : l < s.heap.objs.size := by obtain ⟨_, e, _⟩ := hl; exact Heap.lt_size e
  have W := Walks.list (prog := prog) (w := w) hh s.heap.objs.size l (Nat.ne_of_lt hlt) items
  have hI0 : h₀.get? s.heap.objs.size = none := Heap.get?_none_of_le (Nat.le_of_lt (Nat.lt_of_le_of_lt F.above F.ns.lt))
  refine loopW (s := { s with heap := s.heap.push { cls := .type "list_iterator", data := .fields #[.ref l, .int 0 0] } }) W (fun i h st => let ⟨o, e, _⟩ := st.1; ⟨o, e⟩) (fun i s' v Q' st hQ' => letGo_listiter st.1 hQ') J ?_ hI0 (Nat.ne_of_gt F.ns.lt)
    ⟨⟨_, Heap.get?_push_size _ rfl, rfl, rfl⟩, hl.at fun o e => Heap.get?_push_of_some _ e⟩ (F.push _) (fun p hp => ⟨Heap.get?_push_of_some _ (N p hp).1, (N p hp).2⟩) (fun p hp => Nat.ne_of_lt (Heap.lt_size (N p hp).1)) h0 ?_ ?_
  · intro b hb hbI
    simp only [List.mem_cons, List.not_mem_nil, or_false] at hb
    rcases hb with hb | hb
    · exact absurd hb hbI
    · subst hb
      obtain ⟨o, _, _, q⟩ := src
      exact ⟨o, q⟩
  · intro i v m news oI h tk _ hP hJ hoff F₁ N₁
    exact turn _ i v m news oI h tk (fun p hp => Heap.lt_size (N p hp).1) hP hJ hoff F₁ N₁
  · exact done

theorem iter_tuple {l : Addr} {items : Array Value} {target : Expr} {body : List Stmt} {R : Result → Shared → Prop} {m₀ : Str → Option Value} {news₀ : List (Addr × Obj)}
    (J : Nat → (Str → Option Value) → List (Addr × Obj) → Prop) (hh : A.handled = none)
    (src : SrcAt h₀ J l "tuple" items) (F : Fr h₀ L s.heap m₀) (N : News h₀ L s.heap news₀) (h0 : J 0 m₀ news₀)
    (turn : ∀ I i v m news oI h tk, (∀ p ∈ news₀, p.1 < I) → items[i]? = some v → J i m news → (∀ p ∈ news, p.1 ≠ I) → Fr h₀ L h m → News h₀ L h ((I, oI) :: news) →
      wpAny (model prog w) A (assign target env v) (fun _ s' => wpAny (model prog w) A (execs body env)
        (UnrPost h₀ L s I oI (J (i + 1)) (fun f s'' => R (.ok f) s'')) (fun _ _ => False) s') (fun _ _ => False) { s with heap := h, toks := tk })
    (done : ∀ m news h tk, J items.size m news → Fr h₀ L h m → News h₀ L h news → R (.ok .next) { s with heap := h, toks := tk }) :
    wpAny (model prog w) A (pyIter (.ref l)) (fun it s₂ => codeAny (model prog w) A (.forLoop target it body [] env) R s₂) (fun _ _ => False) s := by
  have hl : s.heap.IsTuple l items := src.get F N h0
  refine wpAny_pyIter_tuple hl ?_
  have hlt : l < s.heap.objs.size := by obtain ⟨_, e, _⟩ := hl; exact Heap.lt_size e
  have W := Walks.tuple (prog := prog) (w := w) hh s.heap.objs.size l (Nat.ne_of_lt hlt) items
  have hI0 : h₀.get? s.heap.objs.size = none := Heap.get?_none_of_le (Nat.le_of_lt (Nat.lt_of_le_of_lt F.above F.ns.lt))
  refine loopW (s := { s with heap := s.heap.push { cls := .type "tuple_iterator", data := .fields #[.ref l, .int 0 0] } }) W (fun i h st => let ⟨o, e, _⟩ := st.1; ⟨o, e⟩) (fun i s' v Q' st hQ' => letGo_tupleiter st.1 hQ') J ?_ hI0 (Nat.ne_of_gt F.ns.lt)
    ⟨⟨_, Heap.get?_push_size _ rfl, rfl, rfl⟩, hl.at fun o e => Heap.get?_push_of_some _ e⟩ (F.push _) (fun p hp => ⟨Heap.get?_push_of_some _ (N p hp).1, (N p hp).2⟩) (fun p hp => Nat.ne_of_lt (Heap.lt_size (N p hp).1)) h0 ?_ ?_
  · intro b hb hbI
    simp only [List.mem_cons, List.not_mem_nil, or_false] at hb
    rcases hb with hb | hb
    · exact absurd hb hbI
    · subst hb
      obtain ⟨o, _, _, q⟩ := src
      exact ⟨o, q⟩
  · intro i v m news oI h tk _ hP hJ hoff F₁ N₁
    exact turn _ i v m news oI h tk (fun p hp => Heap.lt_size (N p hp).1) hP hJ hoff F₁ N₁
  · exact done

theorem iter_range {r : Addr} {a₀ b₀ : Int} {t₀ u₀ v₀ : Tok} {n : Nat} {target : Expr} {body : List Stmt} {R : Result → Shared → Prop} {m₀ : Str → Option Value} {news₀ : List (Addr × Obj)}
    (J : Nat → (Str → Option Value) → List (Addr × Obj) → Prop) (hh : A.handled = none)
    (hr : IsRange s.heap r a₀ b₀ 1 t₀ u₀ v₀) (hsmall : Builtin.Range.small a₀ b₀ 1 = true) (hn : Builtin.Range.rangeSize a₀ b₀ 1 = (n : Int)) (F : Fr h₀ L s.heap m₀) (N : News h₀ L s.heap news₀) (h0 : J 0 m₀ news₀)
    (turn : ∀ I i t m news oI h tk, (∀ p ∈ news₀, p.1 < I) → i < n → J i m news → (∀ p ∈ news, p.1 ≠ I) → Fr h₀ L h m → News h₀ L h ((I, oI) :: news) →
      wpAny (model prog w) A (assign target env (.int (a₀ + (i : Int)) t)) (fun _ s' => wpAny (model prog w) A (execs body env)
        (UnrPost h₀ L s I oI (J (i + 1)) (fun f s'' => R (.ok f) s'')) (fun _ _ => False) s') (fun _ _ => False) { s with heap := h, toks := tk })
    (done : ∀ m news h tk, J n m news → Fr h₀ L h m → News h₀ L h news → R (.ok .next) { s with heap := h, toks := tk }) :
    wpAny (model prog w) A (pyIter (.ref r)) (fun it s₂ => codeAny (model prog w) A (.forLoop target it body [] env) R s₂) (fun _ _ => False) s := by
  refine wpAny_pyIter_range hr hsmall ?_
  have W := Walks.range (prog := prog) (w := w) hh s.heap.objs.size a₀ 1 n
  have hI0 : h₀.get? s.heap.objs.size = none := Heap.get?_none_of_le (Nat.le_of_lt (Nat.lt_of_le_of_lt F.above F.ns.lt))
  have st0 : IsRangeIter (s.heap.push { cls := .type "range_iterator", data := .fields #[rawInt a₀, rawInt (Builtin.Range.rangeSize a₀ b₀ 1), rawInt 1] }) s.heap.objs.size (a₀ + ((0 : Nat) : Int) * 1) ((n : Int) - ((0 : Nat) : Int)) 1 := by
    rw [hn]; simpa [IsRangeIter] using Heap.get?_push_size _ rfl
  refine loopW (s := { s with heap := s.heap.push _ }) W (fun i h st => ⟨_, st⟩) (fun i s' v Q' st hQ' => letGo_rangeiter st hQ') J ?_ hI0 (Nat.ne_of_gt F.ns.lt)
    st0 (F.push _) (fun p hp => ⟨Heap.get?_push_of_some _ (N p hp).1, (N p hp).2⟩) (fun p hp => Nat.ne_of_lt (Heap.lt_size (N p hp).1)) h0 ?_ ?_
  · intro b hb hbI
    exact absurd (List.mem_singleton.mp hb) hbI
  · rintro i v m news oI h tk hi ⟨t, rfl⟩ hJ hoff F₁ N₁
    have := turn s.heap.objs.size i t m news oI h tk (fun p hp => Heap.lt_size (N p hp).1) hi hJ hoff F₁ N₁
    rw [Int.mul_one]
    exact this
  · exact done

/-- the turns that are left, one by one -/
def SeqRest (prog : Program) (w : World) (A : Around) (h₀ : Heap) (L : Addr) (env : Env) (target : Expr) (body : List Stmt) (R : Result → Shared → Prop) (s : Shared) (I : Addr) (lp : Addr × Obj) : List Value → (Str → Option Value) → List (Addr × Obj) → Prop
  | [], m, news => ∀ h tk, Fr h₀ L h m → News h₀ L h news → R (.ok .next) { s with heap := h, toks := tk }
  | v :: r, m, news => ∀ it h tk, Fr h₀ L h m → News h₀ L h ((I, it) :: news) →
      wpAny (model prog w) A (assign target env v) (fun _ s' => wpAny (model prog w) A (execs body env)
        (UnrPost h₀ L s I it (fun m' n' => lp ∈ n' ∧ SeqRest prog w A h₀ L env target body R s I lp r m' n') (fun f s'' => R (.ok f) s'')) (fun _ _ => False) s') (fun _ _ => False) { s with heap := h, toks := tk }
/-- the same over a list of the base -/
def SeqRest0 (prog : Program) (w : World) (A : Around) (h₀ : Heap) (L : Addr) (env : Env) (target : Expr) (body : List Stmt) (R : Result → Shared → Prop) (s : Shared) (I : Addr) : List Value → (Str → Option Value) → List (Addr × Obj) → Prop
  | [], m, news => ∀ h tk, Fr h₀ L h m → News h₀ L h news → R (.ok .next) { s with heap := h, toks := tk }
  | v :: r, m, news => ∀ it h tk, Fr h₀ L h m → News h₀ L h ((I, it) :: news) →
      wpAny (model prog w) A (assign target env v) (fun _ s' => wpAny (model prog w) A (execs body env)
        (UnrPost h₀ L s I it (fun m' n' => SeqRest0 prog w A h₀ L env target body R s I r m' n') (fun f s'' => R (.ok f) s'')) (fun _ _ => False) s') (fun _ _ => False) { s with heap := h, toks := tk }

theorem drop_cons {items : Array Value} {i : Nat} {v : Value} (h : items[i]? = some v) : items.toList.drop i = v :: items.toList.drop (i + 1) := by
  obtain ⟨hi, e⟩ := Array.getElem?_eq_some_iff.mp h
  rw [← e, List.drop_eq_getElem_cons (by simpa using hi)]
  simp
theorem unr_tuple {l : Addr} {items : List Value} {n : Nat} {d : Option Addr} {sl : Array (Option Value)} {target : Expr} {body : List Stmt} {R : Result → Shared → Prop} {m₀ : Str → Option Value} {news₀ : List (Addr × Obj)}
    (hh : A.handled = none) (F : Fr h₀ L s.heap m₀) (N : News h₀ L s.heap news₀) (hm : (l, (⟨.type "tuple", d, .seq items.toArray n, sl⟩ : Obj)) ∈ news₀)
    (rest : ∀ I : Addr, (∀ p ∈ news₀, p.1 < I) → SeqRest prog w A h₀ L env target body R s I (l, ⟨.type "tuple", d, .seq items.toArray n, sl⟩) items m₀ news₀) :
    wpAny (model prog w) A (pyIter (.ref l)) (fun it s₂ => codeAny (model prog w) A (.forLoop target it body [] env) R s₂) (fun _ _ => False) s := by
  have hl : s.heap.IsTuple l items.toArray := ⟨_, (N _ hm).1, rfl, n, rfl⟩
  have lts : ∀ p ∈ news₀, p.1 < s.heap.objs.size := fun p hp => Heap.lt_size (N p hp).1
  have rest' := rest s.heap.objs.size lts
  refine wpAny_pyIter_tuple hl ?_
  have hlt : l < s.heap.objs.size := lts _ hm
  have W := Walks.tuple (prog := prog) (w := w) hh s.heap.objs.size l (Nat.ne_of_lt hlt) items.toArray
  have hI0 : h₀.get? s.heap.objs.size = none := Heap.get?_none_of_le (Nat.le_of_lt (Nat.lt_of_le_of_lt F.above F.ns.lt))
  refine loopW (s := { s with heap := s.heap.push { cls := .type "tuple_iterator", data := .fields #[.ref l, .int 0 0] } }) W (fun i h st => let ⟨o, e, _⟩ := st.1; ⟨o, e⟩) (fun i s' v Q' st hQ' => letGo_tupleiter st.1 hQ')
    (fun i m news => (l, (⟨.type "tuple", d, .seq items.toArray n, sl⟩ : Obj)) ∈ news ∧ SeqRest prog w A h₀ L env target body R s s.heap.objs.size (l, ⟨.type "tuple", d, .seq items.toArray n, sl⟩) (items.drop i) m news) ?_ hI0 (Nat.ne_of_gt F.ns.lt)
    ⟨⟨_, Heap.get?_push_size _ rfl, rfl, rfl⟩, hl.at fun o e => Heap.get?_push_of_some _ e⟩ (F.push _) (fun p hp => ⟨Heap.get?_push_of_some _ (N p hp).1, (N p hp).2⟩) (fun p hp => Nat.ne_of_lt (lts p hp)) ⟨hm, rest'⟩ ?_ ?_
  · intro b hb hbI
    simp only [List.mem_cons, List.not_mem_nil, or_false] at hb
    rcases hb with hb | hb
    · exact absurd hb hbI
    · subst hb
      exact ⟨_, .inr fun i m news q => q.1⟩
  · intro i v m news oI h tk _ hP hJ hoff F₁ N₁
    obtain ⟨_, q⟩ := hJ
    rw [drop_cons (items := items.toArray) hP] at q
    exact q oI h tk F₁ N₁
  · intro m news h tk hJ F₁ N₁
    obtain ⟨_, q⟩ := hJ
    rw [List.drop_eq_nil_of_le (by simp)] at q
    exact q h tk F₁ N₁

theorem unr_list0 {l : Addr} {items : List Value} {target : Expr} {body : List Stmt} {R : Result → Shared → Prop} {m₀ : Str → Option Value} {news₀ : List (Addr × Obj)}
    (hh : A.handled = none) (F : Fr h₀ L s.heap m₀) (N : News h₀ L s.heap news₀) (hl₀ : h₀.IsList l items.toArray)
    (rest : ∀ I : Addr, (∀ p ∈ news₀, p.1 < I) → SeqRest0 prog w A h₀ L env target body R s I items m₀ news₀) :
    wpAny (model prog w) A (pyIter (.ref l)) (fun it s₂ => codeAny (model prog w) A (.forLoop target it body [] env) R s₂) (fun _ _ => False) s := by
  have hl : s.heap.IsList l items.toArray := hl₀.at fun o e => F.keep _ _ e
  have lts : ∀ p ∈ news₀, p.1 < s.heap.objs.size := fun p hp => Heap.lt_size (N p hp).1
  have rest' := rest s.heap.objs.size lts
  refine wpAny_pyIter_list hl ?_
  have hlt : l < s.heap.objs.size := by obtain ⟨_, e, _⟩ := hl; exact Heap.lt_size e
  have W := Walks.list (prog := prog) (w := w) hh s.heap.objs.size l (Nat.ne_of_lt hlt) items.toArray
  have hI0 : h₀.get? s.heap.objs.size = none := Heap.get?_none_of_le (Nat.le_of_lt (Nat.lt_of_le_of_lt F.above F.ns.lt))
  refine loopW (s := { s with heap := s.heap.push { cls := .type "list_iterator", data := .fields #[.ref l, .int 0 0] } }) W (fun i h st => let ⟨o, e, _⟩ := st.1; ⟨o, e⟩) (fun i s' v Q' st hQ' => letGo_listiter st.1 hQ')
    (fun i m news => SeqRest0 prog w A h₀ L env target body R s s.heap.objs.size (items.drop i) m news) ?_ hI0 (Nat.ne_of_gt F.ns.lt)
    ⟨⟨_, Heap.get?_push_size _ rfl, rfl, rfl⟩, hl.at fun o e => Heap.get?_push_of_some _ e⟩ (F.push _) (fun p hp => ⟨Heap.get?_push_of_some _ (N p hp).1, (N p hp).2⟩) (fun p hp => Nat.ne_of_lt (lts p hp)) rest' ?_ ?_
  · intro b hb hbI
    simp only [List.mem_cons, List.not_mem_nil, or_false] at hb
    rcases hb with hb | hb
    · exact absurd hb hbI
    · subst hb
      obtain ⟨o, e, _⟩ := hl₀
      exact ⟨o, .inl e⟩
  · intro i v m news oI h tk _ hP hJ hoff F₁ N₁
    rw [drop_cons (items := items.toArray) hP] at hJ
    exact hJ oI h tk F₁ N₁
  · intro m news h tk hJ F₁ N₁
    rw [List.drop_eq_nil_of_le (by simp)] at hJ
    exact hJ h tk F₁ N₁
end
end Mine

end

section
open PySem PySem.W PyProof.Rows PySem.Calls
set_option maxRecDepth 100000
namespace Mine
theorem calm_by : True := by
  w_top off
  trivial
namespace By
open Builtin
theorem slot_rfind : Slot "bytes" "rfind" "bytes.rfind" :=
  .of (owner := "bytes") (n := "rfind") (by rw [typeLookup_type, builtinLookup_eq_fast]; kernel_rfl) (by decide +kernel) (by decide +kernel) (by decide +kernel)
    (by first | exact .inl (by decide +kernel) | exact .inr (by decide +kernel)) (by rw [isSubtype_type]; kernel_rfl)
theorem type_rfind : typeOf (.builtin "bytes.rfind") = pure (.type "method_descriptor") := by show builtinType _ = _; rw [builtinType_eq_fast]; kernel_rfl
theorem entry_rfind : entryFor table "bytes.rfind" = some Builtin.«bytes.rfind» := entryFor_of_tree (by kernel_rfl)
theorem args_rfind (a b : Value) : argsOk "bytes.rfind" ⟨[a, b], []⟩ := by
  unfold argsOk; rw [signature?_of (id := "bytes.rfind") (n := ['d', 'n', 'i', 'f', 'r']) (o := ['s', 'e', 't', 'y', 'b']) (by kernel_rfl) FB.owner_bytes]; kernel_rfl
theorem slot_rstrip : Slot "bytes" "rstrip" "bytes.rstrip" :=
  .of (owner := "bytes") (n := "rstrip") (by rw [typeLookup_type, builtinLookup_eq_fast]; kernel_rfl) (by decide +kernel) (by decide +kernel) (by decide +kernel)
    (by first | exact .inl (by decide +kernel) | exact .inr (by decide +kernel)) (by rw [isSubtype_type]; kernel_rfl)
theorem type_rstrip : typeOf (.builtin "bytes.rstrip") = pure (.type "method_descriptor") := by show builtinType _ = _; rw [builtinType_eq_fast]; kernel_rfl
theorem entry_rstrip : entryFor table "bytes.rstrip" = some Builtin.«bytes.rstrip» := entryFor_of_tree (by kernel_rfl)
theorem args_rstrip (a b : Value) : argsOk "bytes.rstrip" ⟨[a, b], []⟩ := by
  unfold argsOk; rw [signature?_of (id := "bytes.rstrip") (n := ['p', 'i', 'r', 't', 's', 'r']) (o := ['s', 'e', 't', 'y', 'b']) (by kernel_rfl) FB.owner_bytes]; kernel_rfl
section
variable {b c : Array UInt8} {t u : Tok}
theorem sub_bytes_tuple : isSubtype (.type "bytes") (.type "tuple") = pure false := by rw [isSubtype_type]; kernel_rfl
theorem not_tuple : isInstance (.bytes c u) (.type "tuple") = pure false := by
  have e : isInstance (.bytes c u) (.type "tuple") = isSubtype (.type "bytes") (.type "tuple") := rfl
  rw [e, sub_bytes_tuple]
theorem window_eq (n : Nat) : Bytes.window n none none = (0, (n : Int)) := by
  unfold Bytes.window
  simp only [Option.getD_none]
  have h1 : ¬ ((0 : Int) < 0) := by decide
  have h2 : ¬ ((n : Int) < 0) := by omega
  rw [if_neg h1, if_neg h2, Int.min_self]
def starts (b c : Array UInt8) : Bool := if (b.size : Int) - 0 < c.size then false else b.extract 0 (0 + c.size) == c
def ends (b c : Array UInt8) : Bool := if (b.size : Int) - 0 < c.size then false else b.extract (b.size - c.size) b.size == c
theorem gives_startswith : Gives («bytes.startswith» ⟨[.bytes b t, .bytes c u], []⟩) (.val (.bool (starts b c))) := by
  refine .of_wp fun M A E s Q hq => ?_
  unfold «bytes.startswith» Bytes.tailMatchM
  refine wpAny_bind (wpAny_of_eq (a := (Value.bytes b t, [Value.bytes c u])) rfl ?_)
  refine wpAny_bind (wpAny_of_eq (a := none) rfl ?_)
  refine wpAny_bind (wpAny_of_eq (a := none) rfl ?_)
  refine wpAny_bind (wpAny_of_eq (a := b) rfl ?_)
  rw [window_eq]
  refine wpAny_bind (wpAny_of_eq (a := false) not_tuple ?_)
  rw [if_neg Bool.false_ne_true]
  refine wpAny_bind (wpAny_of_eq (a := some c) KBy.buffer_eq ?_)
  exact wpAny_pure ⟨_, rfl, hq⟩
theorem gives_endswith : Gives («bytes.endswith» ⟨[.bytes b t, .bytes c u], []⟩) (.val (.bool (ends b c))) := by
  refine .of_wp fun M A E s Q hq => ?_
  unfold «bytes.endswith» Bytes.tailMatchM
  refine wpAny_bind (wpAny_of_eq (a := (Value.bytes b t, [Value.bytes c u])) rfl ?_)
  refine wpAny_bind (wpAny_of_eq (a := none) rfl ?_)
  refine wpAny_bind (wpAny_of_eq (a := none) rfl ?_)
  refine wpAny_bind (wpAny_of_eq (a := b) rfl ?_)
  rw [window_eq]
  refine wpAny_bind (wpAny_of_eq (a := false) not_tuple ?_)
  rw [if_neg Bool.false_ne_true]
  refine wpAny_bind (wpAny_of_eq (a := some c) KBy.buffer_eq ?_)
  exact wpAny_pure ⟨_, rfl, hq⟩
def rfind (b c : Array UInt8) : Int :=
  match (if (b.size : Int) - 0 < c.size then none else Bytes.rfind? b c 0 b.size) with
  | some i => (i : Int)
  | none => -1
theorem args_eq (name : String) : Bytes.searchArgs .bytes name ⟨[.bytes b t, .bytes c u], []⟩ = pure (b, c, if (b.size : Int) - 0 < c.size then none else some (0, b.size)) := by
  unfold Bytes.searchArgs
  show (pure (Value.bytes b t, [Value.bytes c u]) >>= fun x => _) = _
  rw [pure_bind]
  show (pure none >>= fun x => _) = _
  rw [pure_bind]
  show (pure none >>= fun x => _) = _
  rw [pure_bind]
  show (Bytes.buffer? _ (Value.bytes c u) >>= fun x => _) = _
  rw [KBy.buffer_eq, pure_bind]
  show (pure c >>= fun x => _) = _
  rw [pure_bind]
  show (pure b >>= fun x => _) = _
  rw [pure_bind]
  have h2 : ¬ ((b.size : Int) < 0) := by omega
  have key : ∀ p : Int × Int, p = (0, (b.size : Int)) → (pure (b, c, if p.2 - p.1 < c.size then none else some (p.1.toNat, p.2.toNat)) : Sem (Array UInt8 × Array UInt8 × Option (Nat × Nat))) = pure (b, c, if (b.size : Int) - 0 < c.size then none else some (0, b.size)) := by
    rintro p rfl
    rfl
  exact key (Bytes.window b.size none none) (window_eq b.size)
theorem meets_rfind : Meets («bytes.rfind» ⟨[.bytes b t, .bytes c u], []⟩) (fun _ R s => R (.ok (.ret (.int (rfind b c) s.toks))) { s with toks := s.toks + 1 }) := by
  refine .of_wp fun prog w A R s hq => ?_
  unfold «bytes.rfind» Bytes.searchM
  refine wpAny_bind (wpAny_of_eq (args_eq _) ?_)
  show wpAny _ _ (match (if (b.size : Int) - 0 < c.size then none else some (0, b.size)).bind fun x => Bytes.rfind? b c x.1 x.2 with | some i => _ | none => _) _ _ _
  have e : ((if (b.size : Int) - 0 < c.size then none else some (0, b.size)).bind fun x : Nat × Nat => Bytes.rfind? b c x.1 x.2) = (if (b.size : Int) - 0 < c.size then none else Bytes.rfind? b c 0 b.size) := by
    split <;> rfl
  rw [e]
  unfold rfind at hq
  split
  · rename_i i hi
    rw [hi] at hq
    exact wpAny_bind (wpAny_mkInt (wpAny_pure ⟨_, rfl, hq⟩))
  · rename_i hi
    rw [hi] at hq
    refine wpAny_bind (wpAny_rule ?_)
    simp only [Bool.false_eq_true, if_false]
    exact wpAny_bind (wpAny_mkInt (wpAny_pure ⟨_, rfl, hq⟩))
def rstrip (b c : Array UInt8) : Array UInt8 := ((b.toList.reverse.dropWhile c.contains).reverse).toArray
theorem like_eq {id : String} : Bytes.bytesLike id (.bytes b t) = pure b := by
  unfold Bytes.bytesLike
  rw [KBy.buffer_eq]
  rfl
theorem same_eq : Bytes.Kind.same .bytes (.bytes b t) = pure (.bytes b t) := by
  rfl
theorem rstrip_same (h : (b.toList.reverse.dropWhile c.contains).reverse.length = b.size) : rstrip b c = b := by
  have h1 : (b.toList.reverse.dropWhile c.contains) <:+ b.toList.reverse := List.dropWhile_suffix _
  have h2 : (b.toList.reverse.dropWhile c.contains) = b.toList.reverse := h1.eq_of_length (by simpa using h)
  unfold rstrip
  rw [h2]
  simp
theorem meets_rstrip (hsz : b.size ≤ sizeLine) : Meets («bytes.rstrip» ⟨[.bytes b t, .bytes c u], []⟩) (fun _ R s => ∀ t' k, R (.ok (.ret (.bytes (rstrip b c) t'))) { s with toks := k }) := by
  refine .of_wp fun prog w A R s hq => ?_
  unfold «bytes.rstrip» Bytes.stripM
  refine wpAny_bind (wpAny_of_eq (a := (Value.bytes b t, [Value.bytes c u])) rfl ?_)
  refine wpAny_bind (wpAny_of_eq (a := c) like_eq ?_)
  refine wpAny_bind (wpAny_of_eq (a := c.contains) rfl ?_)
  refine wpAny_bind (wpAny_of_eq (a := b) rfl ?_)
  simp only [Bool.false_eq_true, if_false, if_true]
  split
  · rename_i h
    refine wpAny_bind (wpAny_rule ?_)
    refine wpAny_bind (wpAny_of_eq same_eq ?_)
    have h' := hq t s.toks
    rw [rstrip_same (by simpa using h)] at h'
    exact wpAny_pure ⟨_, rfl, h'⟩
  · refine wpAny_bind (m := mkBytes _) (wpAny_mkBytes (wpAny_pure ⟨_, rfl, hq _ _⟩) ?_)
    refine Nat.le_trans ?_ hsz
    have h1 : (b.toList.reverse.dropWhile c.contains) <:+ b.toList.reverse := List.dropWhile_suffix _
    have := h1.length_le
    simpa using this
end
section
variable {prog : Program} {w : World} {A : Around} {E : Value → Shared → Prop} {s : Shared} {b c : Array UInt8} {t u : Tok} {Q : Value → Shared → Prop}
theorem call_startswith (h : Q (.bool (starts b c)) s) : wpAny (model prog w) A (call (.builtin "bytes.startswith") [.bytes b t, .bytes c u]) Q E s :=
  call_gives FB.slot_bytes_startswith (typeIs_bytes _ _ _) FB.entry_bytes_startswith (FB.args_bytes_startswith_2 _ _) gives_startswith h
theorem call_endswith (h : Q (.bool (ends b c)) s) : wpAny (model prog w) A (call (.builtin "bytes.endswith") [.bytes b t, .bytes c u]) Q E s :=
  call_gives FB.slot_bytes_endswith (typeIs_bytes _ _ _) FB.entry_bytes_endswith (FB.args_bytes_endswith_2 _ _) gives_endswith h
theorem call_rfind (h : Q (.int (rfind b c) s.toks) { s with toks := s.toks + 1 }) : wpAny (model prog w) A (call (.builtin "bytes.rfind") [.bytes b t, .bytes c u]) Q E s :=
  call_meets slot_rfind (typeIs_bytes _ _ _) entry_rfind (args_rfind _ _) meets_rfind h
theorem call_rstrip (hsz : b.size ≤ sizeLine) (h : ∀ t' k, Q (.bytes (rstrip b c) t') { s with toks := k }) : wpAny (model prog w) A (call (.builtin "bytes.rstrip") [.bytes b t, .bytes c u]) Q E s :=
  call_meets slot_rstrip (typeIs_bytes _ _ _) entry_rstrip (args_rstrip _ _) (meets_rstrip hsz) h
theorem m_startswith {M : Model} {pl : Sem Bool} {Q : Value × List Value → Shared → Prop} (h : Q (.builtin "bytes.startswith", [.bytes b t]) s) : wpAny M A (getMethod (.bytes b t) "startswith" pl) Q E s := by
  with_reducible exact KBd.method_of (.bytes b t) (typeIs_bytes _ _ _) FB.slot_bytes_startswith FB.type_bytes_startswith KBd.noRef h
theorem m_endswith {M : Model} {pl : Sem Bool} {Q : Value × List Value → Shared → Prop} (h : Q (.builtin "bytes.endswith", [.bytes b t]) s) : wpAny M A (getMethod (.bytes b t) "endswith" pl) Q E s := by
  with_reducible exact KBd.method_of (.bytes b t) (typeIs_bytes _ _ _) FB.slot_bytes_endswith FB.type_bytes_endswith KBd.noRef h
theorem m_rfind {M : Model} {pl : Sem Bool} {Q : Value × List Value → Shared → Prop} (h : Q (.builtin "bytes.rfind", [.bytes b t]) s) : wpAny M A (getMethod (.bytes b t) "rfind" pl) Q E s := by
  with_reducible exact KBd.method_of (.bytes b t) (typeIs_bytes _ _ _) slot_rfind type_rfind KBd.noRef h
theorem m_rstrip {M : Model} {pl : Sem Bool} {Q : Value × List Value → Shared → Prop} (h : Q (.builtin "bytes.rstrip", [.bytes b t]) s) : wpAny M A (getMethod (.bytes b t) "rstrip" pl) Q E s := by
  with_reducible exact KBd.method_of (.bytes b t) (typeIs_bytes _ _ _) slot_rstrip type_rstrip KBd.noRef h
end
section
variable {prog : Program} {w : World} {A : Around} {E : Value → Shared → Prop} {s : Shared} {b c : Array UInt8} {t u : Tok} {Q : Value → Shared → Prop} {value slice : PySem.Expr} {h₀ : Heap} {L : Addr} {m : PySem.Str → Option Value} {news : List (Addr × Obj)} {l : Value} {lo hi : Option Int}
theorem noI_add : typeLookup (.type "bytes") (dunderI "add") = pure none := by rw [typeLookup_type, builtinLookup_eq_fast]; kernel_rfl
theorem iadd (hsz : b.size + c.size ≤ 16777216) (h : ∀ t' k, (b ++ c).size = b.size + c.size → Q (.bytes (b ++ c) t') { s with toks := k }) : wpAny (model prog w) A (inplaceOp .Add (.bytes b t) (.bytes c u)) Q E s := by
  have h := fun t' k => h t' k Array.size_append
  refine iconcat_gives (typeIs_bytes s b t) (typeIs_bytes s c u) noI_add KBy.noFill_bytes_add KBy.seq_bytes_add FB.slot_bytes_add FB.entry_bytes_add (FB.args_bytes_add_2 _ _) (KBy.gives_bytes_add (KBy.tooLong_not hsz)) ?_
  by_cases hb : b.isEmpty = true
  · rw [if_pos hb]
    have e : b = #[] := Array.isEmpty_iff.1 hb
    have h' := h u s.toks
    rw [e, Array.empty_append] at h'
    exact h'
  · rw [if_neg hb]
    by_cases hc : c.isEmpty = true
    · rw [if_pos hc]
      have e : c = #[] := Array.isEmpty_iff.1 hc
      have h' := h t s.toks
      rw [e, Array.append_empty] at h'
      exact h'
    · rw [if_neg hc]
      exact ⟨by rw [Array.size_append, sizeLine_eq]; exact hsz, h s.toks (s.toks + 1)⟩
theorem add (hsz : b.size + c.size ≤ 16777216) (h : ∀ t' k, (b ++ c).size = b.size + c.size → Q (.bytes (b ++ c) t') { s with toks := k }) : wpAny (model prog w) A (binaryOp .Add (.bytes b t) (.bytes c u)) Q E s :=
  KBy.add_bytes hsz fun t' k => h t' k Array.size_append
theorem slice_B (hF : Fr h₀ L s.heap m) (hN : News h₀ L s.heap news) (hl : IsPart l lo) (hu : IsPart v hi) (hz : b.size ≤ 16777216)
    (h : ∀ h' t' k, Fr h₀ L h' m → News h₀ L h' news → (KBy.picked b lo hi).size ≤ b.size → Q (.bytes (KBy.picked b lo hi) t') { s with heap := h', toks := k })
    (hs : subscripted slice false (.bytes b t) (.ref s.heap.objs.size) = operate [.ref s.heap.objs.size, .bytes b t] (getItem (.bytes b t) (.ref s.heap.objs.size)) := by with_unfolding_all rfl)
    (ht : ∀ r, letTemporaryGo value (.bytes b t) r = pure () := by intro _; with_unfolding_all rfl) :
    wpAny (model prog w) A (subscriptTail value slice (.bytes b t) (.ref s.heap.objs.size)) Q E { s with heap := s.heap.push { cls := .type "slice", data := .fields #[l, v, .none] } } :=
  tail_of_ItemOn ⟨"bytes", _, FB.slot_bytes_getitem.lookup, typeIs_bytes _ _ _, getItem_meets (typeIs_bytes _ _ _) (by decide) FB.slot_bytes_getitem FB.entry_bytes_getitem (FB.args_bytes_getitem_2 _ _) (KBc.meets_slice2 b t _ hl hu)
    ⟨Heap.IsSliceOf.new _ _ _ _, Nat.le_trans (KBc.size_picked_le b lo hi) (by rw [sizeLine_eq]; exact hz), fun t' k => h _ _ _ (hF.push _) (News.pushKeep hN _) (KBc.size_picked_le b lo hi)⟩⟩ hs ht
end
end By
end Mine

end

section
open PySem PySem.W PyProof.Rows PySem.Calls
set_option maxRecDepth 100000
namespace Mine
theorem calm_pf : True := by
  w_top off
  trivial
local macro_rules | `(tactic| walk_at "mine.room") => `(tactic| first
  | omega
  | ((try simp only [depth_under_make, depth_under_kw, depth_in1, depth_deeper, depth_caller]); (try dsimp only [ktrTop]); omega)
  | ((have hcL9 := cLine_is); (try simp only [units_in1, units_deeper, Around.mark_units, units_caller] at *); (try dsimp only [ktrTop] at *); omega))
local macro_rules | `(tactic| k_all) => `(tactic| first | assumption | exact AllNe.mem (by assumption))
local macro_rules | `(tactic| walk_at "call ref") => `(tactic| (k_here; (with_reducible show wpAny _ _ (call (Value.ref 94) _) _ _ _); k_dflt (first
  | (refine' useC (fspath_str _ _ _) ?B ?F ?X ?N ?T ?hk ?hd ?hu ?hP ?_; (case B => k_asm); (case F => k_asm); (case X => k_asm); (case N => k_asm); (case T => k_asm); (case hk => first | exact rfl | assumption); (case hd => walk_at "mine.room"); (case hu => walk_at "mine.room"); (case hP => exact trivial); intro v' h' tk' st' F' N' r'; (try dsimp only at r'); subst r'; (try dsimp only))
  | (refine' useC (fspath_bytes _ _ _) ?B ?F ?X ?N ?T ?hk ?hd ?hu ?hP ?_; (case B => k_asm); (case F => k_asm); (case X => k_asm); (case N => k_asm); (case T => k_asm); (case hk => first | exact rfl | assumption); (case hd => walk_at "mine.room"); (case hu => walk_at "mine.room"); (case hP => exact trivial); intro v' h' tk' st' F' N' r'; (try dsimp only at r'); subst r'; (try dsimp only)))))
local macro_rules | `(tactic| walk_at "call ref") => `(tactic| (k_here; (with_reducible show wpAny _ _ (call (Value.ref 115) _) _ _ _); k_dflt (first
  | (refine' useC (getsep_str _ _ _) ?B ?F ?X ?N ?T ?hk ?hd ?hu ?hP ?_; (case B => k_asm); (case F => k_asm); (case X => k_asm); (case N => k_asm); (case T => k_asm); (case hk => first | exact rfl | assumption); (case hd => walk_at "mine.room"); (case hu => walk_at "mine.room"); (case hP => exact trivial); intro v' h' tk' st' F' N' r'; (try dsimp only at r'); obtain ⟨t9, r9⟩ := r'; subst r9; (try dsimp only))
  | (refine' useC (getsep_bytes _ _ _) ?B ?F ?X ?N ?T ?hk ?hd ?hu ?hP ?_; (case B => k_asm); (case F => k_asm); (case X => k_asm); (case N => k_asm); (case T => k_asm); (case hk => first | exact rfl | assumption); (case hd => walk_at "mine.room"); (case hu => walk_at "mine.room"); (case hP => exact trivial); intro v' h' tk' st' F' N' r'; (try dsimp only at r'); obtain ⟨t9, r9⟩ := r'; subst r9; (try dsimp only)))))
local macro_rules | `(tactic| walk_at "getMethod bytes") => `(tactic| (k_here; first | (with_reducible refine By.m_startswith ?_) | (with_reducible refine By.m_endswith ?_) | (with_reducible refine By.m_rfind ?_) | (with_reducible refine By.m_rstrip ?_)))
local macro_rules | `(tactic| walk_at "call builtin:bytes.startswith") => `(tactic| (k_here; refine By.call_startswith ?_))
local macro_rules | `(tactic| walk_at "call builtin:bytes.endswith") => `(tactic| (k_here; refine By.call_endswith ?_))
local macro_rules | `(tactic| walk_at "call builtin:bytes.rfind") => `(tactic| (k_here; refine By.call_rfind ?_))
local macro_rules | `(tactic| walk_at "call builtin:bytes.rstrip") => `(tactic| (k_here; refine By.call_rstrip (by rw [sizeLine_eq]; omega) ?_; intro t' k'))
local macro_rules | `(tactic| walk_at "mine.size") => `(tactic| first | omega | (simp only [List.size_toArray, List.length_cons, List.length_nil] at *; omega))
local macro_rules | `(tactic| walk_at "binaryOp Add bytes bytes") => `(tactic| (k_here; refine By.add (by walk_at "mine.size") ?_; intro t' k' a'))
local macro_rules | `(tactic| walk_at "inplaceOp Add bytes bytes") => `(tactic| (refine By.iadd (by walk_at "mine.size") ?_; intro t' k' a'))
local macro_rules | `(tactic| walk_at "call builtin:len") => `(tactic| (k_here; (with_reducible show wpAny _ _ (call (Value.builtin "len") [Value.bytes _ _]) _ _ _); (refine len_bytes (by walk_at "mine.size") ?_)))
local macro_rules | `(tactic| walk_at "subscriptTail") => `(tactic| (k_here; (with_reducible show wpAny _ _ (subscriptTail _ (Expr.Slice _ _ none _) (Value.bytes _ _) (Value.ref _)) _ _ _); (with_reducible rename Fr _ _ _ _ => F'); (with_reducible rename News _ _ _ _ => N'); (refine By.slice_B (s := ⟨_, _, _, _, _⟩) F' N' (by constructor) (by constructor) (by walk_at "mine.size") ?_); clear F' N'; intro h' t' k' F' N' a'))

def baseT (x : Str) : Str := Txt.slice x (some (Txt.rfind x (Str.ofString "/") + 1)) none
set_option maxHeartbeats 4000000 in
theorem basename_str (w : World) (x : Str) (t : Tok) (hx : x.length ≤ 1000) :
    Calls 20 w 129 [.str x t] (fun _ => True) (fun _ _ v => ∃ t, v = .str (baseT x) t) := by
  unfold Calls
  k_fill
  intro p loose mean mg mb dp un gd cn cs a ccd cl outer A₀ base h₀ L m s Q B F X T hk hd hu hP hret
  refine wpAny_call ?_
  k_dflt (refine' enterP ?k1 ?k2 ?k3 ?k5 ?kA ?kF ?kK ?k6 ?k7 ?k8 ?k9 ?kB ?_ ?c2 ?c3 ?c4 ?c5; (case kA => exact rfl); (case kF => exact rfl); (case kK => assumption); (case k1 => exact B); (case k2 => exact F); (case k3 => exact X); (case k5 => exact T); (case k6 => k_is); (case k7 => k_is); (case k8 => ktr_room); (case k9 => exact BindsTo.of_eq rfl); (case c5 => decide); (case kB => exact locs rfl); (case c2 => exact rfl); (case c3 => exact rfl); (case c4 => exact rfl); k_whole)
  intro g L₁ h₁ eg F₁ N₁ B₁ X₁ T₁
  (try rw [← eg] at hP)
  clear F X T B
  (try dsimp only)
  k_fold
  k_steps
  refine hret _ _ _ (by rw [← eg]; exact Fr.keep (by k_asm)) ?_
  exact ⟨_, rfl⟩

def dirHead (head : Str) : Str :=
  if (head.length : Int) = 0 then head else if (head != Txt.mul (Str.ofString "/") (head.length : Int)) = true then Txt.rstripChars head (Str.ofString "/") else head
def dirT (x : Str) : Str := dirHead (Txt.slice x none (some (Txt.rfind x (Str.ofString "/") + 1)))
set_option maxHeartbeats 4000000 in
theorem dirname_str (w : World) (x : Str) (t : Tok) (hx : x.length ≤ 1000) :
    Calls 20 w 136 [.str x t] (fun _ => True) (fun _ _ v => ∃ t, v = .str (dirT x) t) := by
  unfold Calls
  k_fill
  intro p loose mean mg mb dp un gd cn cs a ccd cl outer A₀ base h₀ L m s Q B F X T hk hd hu hP hret
  refine wpAny_call ?_
  k_dflt (refine' enterP ?k1 ?k2 ?k3 ?k5 ?kA ?kF ?kK ?k6 ?k7 ?k8 ?k9 ?kB ?_ ?c2 ?c3 ?c4 ?c5; (case kA => exact rfl); (case kF => exact rfl); (case kK => assumption); (case k1 => exact B); (case k2 => exact F); (case k3 => exact X); (case k5 => exact T); (case k6 => k_is); (case k7 => k_is); (case k8 => ktr_room); (case k9 => exact BindsTo.of_eq rfl); (case c5 => decide); (case kB => exact locs rfl); (case c2 => exact rfl); (case c3 => exact rfl); (case c4 => exact rfl); k_whole)
  intro g L₁ h₁ eg F₁ N₁ B₁ X₁ T₁
  (try rw [← eg] at hP)
  clear F X T B
  (try dsimp only)
  k_fold
  k_steps
  all_goals (refine hret _ _ _ (by rw [← eg]; exact Fr.keep (by k_asm)) ?_; refine ⟨_, congrArg (fun z => Value.str z _) ?_⟩; unfold dirT dirHead; first
    | rw [if_pos (by assumption)]
    | rw [if_neg (by assumption), if_pos (by assumption)]
    | rw [if_neg (by assumption), if_neg (Bool.eq_false_iff.mp (by assumption))])

def joinT (x y : Str) : Str := if Txt.endswith x (Str.ofString "/") = true then x ++ y else x ++ (Str.ofString "/" ++ y)
set_option maxHeartbeats 4000000 in
theorem join_str (w : World) (x y : Str) (t u : Tok) (hx : x.length ≤ 1000) (hy : y.length ≤ 1000) (hx0 : 0 < x.length) (hs : Txt.startswith y (Str.ofString "/") = false) :
    Calls 20 w 122 [.str x t, .str y u] (fun _ => True) (fun _ _ v => ∃ t, v = .str (joinT x y) t) := by
  unfold Calls
  k_fill
  intro p loose mean mg mb dp un gd cn cs a ccd cl outer A₀ base h₀ L m s Q B F X T hk hd hu hP hret
  refine wpAny_call ?_
  k_dflt (refine' enterR ?k1 ?k2 ?k3 ?k5 ?kA ?kF ?kK ?k6 ?k7 ?k8 ?kV ?kP ?kG ?kB ?_ ?c2 ?c3 ?c4 ?c5; (case kA => exact rfl); (case kF => exact rfl); (case kK => assumption); (case k1 => exact B); (case k2 => exact F); (case k3 => exact X); (case k5 => exact T); (case k6 => k_is); (case k7 => k_is); (case k8 => ktr_room); (case kV => kl_lit); (case kP => exact rfl); (case kG => exact fun _ => rfl); (case kB => exact fun _ => locs rfl); (case c5 => decide); (case c2 => exact rfl); (case c3 => exact rfl); (case c4 => exact rfl); k_whole)
  intro D₁ g L₁ h₁ tk₁ eg F₁ N₁ B₁ X₁ T₁
  (try rw [← eg] at hP)
  clear F X T B
  (try dsimp only)
  k_fold
  k_steps
  all_goals first
    | (exfalso; omega)
    | (refine hret _ _ _ (by rw [← eg]; exact Fr.keep (by k_asm)) ?_; refine ⟨_, congrArg (fun z => Value.str z _) ?_⟩; unfold joinT; first
      | rw [if_pos (by assumption)]
      | rw [if_neg (Bool.eq_false_iff.mp (by assumption))])

def baseB (x : Array UInt8) : Array UInt8 := KBy.picked x (some (By.rfind x #[47] + 1)) none
set_option maxHeartbeats 4000000 in
theorem basename_bytes (w : World) (x : Array UInt8) (t : Tok) (hx : x.size ≤ 1000) :
    Calls 20 w 129 [.bytes x t] (fun _ => True) (fun _ _ v => ∃ t, v = .bytes (baseB x) t) := by
  unfold Calls
  k_fill
  intro p loose mean mg mb dp un gd cn cs a ccd cl outer A₀ base h₀ L m s Q B F X T hk hd hu hP hret
  refine wpAny_call ?_
  k_dflt (refine' enterP ?k1 ?k2 ?k3 ?k5 ?kA ?kF ?kK ?k6 ?k7 ?k8 ?k9 ?kB ?_ ?c2 ?c3 ?c4 ?c5; (case kA => exact rfl); (case kF => exact rfl); (case kK => assumption); (case k1 => exact B); (case k2 => exact F); (case k3 => exact X); (case k5 => exact T); (case k6 => k_is); (case k7 => k_is); (case k8 => ktr_room); (case k9 => exact BindsTo.of_eq rfl); (case c5 => decide); (case kB => exact locs rfl); (case c2 => exact rfl); (case c3 => exact rfl); (case c4 => exact rfl); k_whole)
  intro g L₁ h₁ eg F₁ N₁ B₁ X₁ T₁
  (try rw [← eg] at hP)
  clear F X T B
  (try dsimp only)
  k_fold
  k_steps
  refine hret _ _ _ (by rw [← eg]; exact Fr.keep (by k_asm)) ?_
  exact ⟨_, rfl⟩

def dirHeadB (h : Array UInt8) : Array UInt8 :=
  if (h.size : Int) = 0 then h else if (h.toList != (List.replicate ((h.size : Int)).toNat [47]).flatten.toArray.toList) = true then By.rstrip h #[47] else h
def dirB (x : Array UInt8) : Array UInt8 := dirHeadB (KBy.picked x none (some (By.rfind x #[47] + 1)))
set_option maxHeartbeats 4000000 in
theorem dirname_bytes (w : World) (x : Array UInt8) (t : Tok) (hx : x.size ≤ 1000) :
    Calls 20 w 136 [.bytes x t] (fun _ => True) (fun _ _ v => ∃ t, v = .bytes (dirB x) t) := by
  unfold Calls
  k_fill
  intro p loose mean mg mb dp un gd cn cs a ccd cl outer A₀ base h₀ L m s Q B F X T hk hd hu hP hret
  refine wpAny_call ?_
  k_dflt (refine' enterP ?k1 ?k2 ?k3 ?k5 ?kA ?kF ?kK ?k6 ?k7 ?k8 ?k9 ?kB ?_ ?c2 ?c3 ?c4 ?c5; (case kA => exact rfl); (case kF => exact rfl); (case kK => assumption); (case k1 => exact B); (case k2 => exact F); (case k3 => exact X); (case k5 => exact T); (case k6 => k_is); (case k7 => k_is); (case k8 => ktr_room); (case k9 => exact BindsTo.of_eq rfl); (case c5 => decide); (case kB => exact locs rfl); (case c2 => exact rfl); (case c3 => exact rfl); (case c4 => exact rfl); k_whole)
  intro g L₁ h₁ eg F₁ N₁ B₁ X₁ T₁
  (try rw [← eg] at hP)
  clear F X T B
  (try dsimp only)
  k_fold
  k_steps
  all_goals (refine hret _ _ _ (by rw [← eg]; exact Fr.keep (by k_asm)) ?_; refine ⟨_, congrArg (fun z => Value.bytes z _) ?_⟩; unfold dirB dirHeadB; first
    | rw [if_pos (by assumption)]
    | rw [if_neg (by assumption), if_pos (by assumption)]
    | rw [if_neg (by assumption), if_neg (Bool.eq_false_iff.mp (by assumption))])

def joinB (x y : Array UInt8) : Array UInt8 := if By.ends x #[47] = true then x ++ y else x ++ (#[47] ++ y)
set_option maxHeartbeats 4000000 in
theorem join_bytes (w : World) (x y : Array UInt8) (t u : Tok) (hx : x.size ≤ 1000) (hy : y.size ≤ 1000) (hx0 : 0 < x.size) (hs : By.starts y #[47] = false) :
    Calls 20 w 122 [.bytes x t, .bytes y u] (fun _ => True) (fun _ _ v => ∃ t, v = .bytes (joinB x y) t) := by
  unfold Calls
  k_fill
  intro p loose mean mg mb dp un gd cn cs a ccd cl outer A₀ base h₀ L m s Q B F X T hk hd hu hP hret
  refine wpAny_call ?_
  k_dflt (refine' enterR ?k1 ?k2 ?k3 ?k5 ?kA ?kF ?kK ?k6 ?k7 ?k8 ?kV ?kP ?kG ?kB ?_ ?c2 ?c3 ?c4 ?c5; (case kA => exact rfl); (case kF => exact rfl); (case kK => assumption); (case k1 => exact B); (case k2 => exact F); (case k3 => exact X); (case k5 => exact T); (case k6 => k_is); (case k7 => k_is); (case k8 => ktr_room); (case kV => kl_lit); (case kP => exact rfl); (case kG => exact fun _ => rfl); (case kB => exact fun _ => locs rfl); (case c5 => decide); (case c2 => exact rfl); (case c3 => exact rfl); (case c4 => exact rfl); k_whole)
  intro D₁ g L₁ h₁ tk₁ eg F₁ N₁ B₁ X₁ T₁
  (try rw [← eg] at hP)
  clear F X T B
  (try dsimp only)
  k_fold
  k_steps
  all_goals first
    | (exfalso; omega)
    | (refine hret _ _ _ (by rw [← eg]; exact Fr.keep (by k_asm)) ?_; refine ⟨_, congrArg (fun z => Value.bytes z _) ?_⟩; unfold joinB; first
      | rw [if_pos (by assumption)]
      | rw [if_neg (Bool.eq_false_iff.mp (by assumption))])
end Mine

end

section
open PySem PySem.W PyProof.Rows PySem.Calls PyProof.Rows.LCg
set_option maxRecDepth 100000
namespace Mine
theorem calm_cp : True := by
  w_top off
  trivial
section
variable {prog : Program} {w : World} {A : Around} {E : Value → Shared → Prop} {s : Shared} {h₀ : Heap} {L : Addr} {m : Str → Option Value} {env : Env}

theorem CompEnd.mono {m : Str → Option Value} {s₁ : Shared} {I C D : Addr} {oI oC oD : Obj} {S : List (Addr × Obj) → Prop} {rest rest' : Value → List (Addr × Obj) → Prop} {y : Value} {s₂ : Shared}
    (h : CompEnd h₀ L m s₁ I oI C oC D oD S rest y s₂) (k : ∀ y n, rest y n → rest' y n) : CompEnd h₀ L m s₁ I oI C oC D oD S rest' y s₂ := by
  obtain ⟨h', tk, news', e, F, N, o, hS, r⟩ := h
  exact ⟨h', tk, news', e, F, N, o, hS, k _ _ r⟩

/-- the turns of a comprehension by an invariant of what is made and of the ledger -/
theorem rest_of {elt : Expr} {x : Str} {scope : Scope} {cl : List (Str × Addr)} {S : List (Addr × Obj) → Prop} {P : Nat → Value → Prop} {Fin : List Value → List (Addr × Obj) → Prop} {n : Nat}
    (J : Nat → List Value → List (Addr × Obj) → Prop) (fin : ∀ ys news, J n ys news → Fin ys news)
    (step : ∀ i ys news, i < n → J i ys news → ∀ v I oI C oC D m₂ h tk, P i v → NsObj oC m₂ → m₂ x = some v → Fr h₀ L h m → News h₀ L h ((I, oI) :: (C, oC) :: (D, lst ys) :: news) → Off3 I C D news → ((@Ne Nat I C) ∧ (@Ne Nat I D) ∧ (@Ne Nat C D)) →
      wpAny (model prog w) A (eval elt (compEnvC scope cl C env)) (CompEnd h₀ L m { s with heap := h, toks := tk } I oI C oC D (lst ys) S (fun y news' => J (i + 1) (ys ++ [y]) news')) (fun _ _ => False) { s with heap := h, toks := tk }) :
    ∀ k i ys news, i + k = n → J i ys news → CompRest prog w A h₀ L m env elt x scope cl s S P Fin k i ys news
  | 0, i, ys, news, e, hJ => fin ys news (by rw [← e, Nat.add_zero]; exact hJ)
  | k + 1, i, ys, news, e, hJ => fun v I oI C oC D m₂ h tk E' hP hC hx F N o ne =>
    wpAny_noRaise (wpAny_mono (step i ys news (by omega) hJ v I oI C oC D m₂ h tk hP hC hx F N o ne)
      (fun y s' r => CompEnd.mono r fun y n hj => rest_of J fin step k (i + 1) (ys ++ [y]) n (by omega) hj) fun _ _ e => e)

theorem restT_of {ct elt : Expr} {x : Str} {scope : Scope} {cl : List (Str × Addr)} {S : List (Addr × Obj) → Prop} {P : Nat → Value → Prop} {Fin : List Value → List (Addr × Obj) → Prop} {n : Nat}
    (J : Nat → List Value → List (Addr × Obj) → Prop) (fin : ∀ ys news, J n ys news → Fin ys news)
    (step : ∀ i ys news, i < n → J i ys news → ∀ v I oI C oC D m₂ h tk, P i v → NsObj oC m₂ → m₂ x = some v → Fr h₀ L h m → News h₀ L h ((I, oI) :: (C, oC) :: (D, lst ys) :: news) → Off3 I C D news → ((@Ne Nat I C) ∧ (@Ne Nat I D) ∧ (@Ne Nat C D)) →
      wpAny (model prog w) A (isTrue ct (compEnvC scope cl C env) (eval ct (compEnvC scope cl C env))) (fun ok s' => if ok = true then
        wpAny (model prog w) A (eval elt (compEnvC scope cl C env)) (CompEnd h₀ L m { s with heap := h, toks := tk } I oI C oC D (lst ys) S (fun y news' => J (i + 1) (ys ++ [y]) news')) (fun _ _ => False) s'
        else CompEnd h₀ L m { s with heap := h, toks := tk } I oI C oC D (lst ys) S (fun _ news' => J (i + 1) ys news') Value.none s') (fun _ _ => False) { s with heap := h, toks := tk }) :
    ∀ k i ys news, i + k = n → J i ys news → LCt.CompRestT prog w A h₀ L m env ct elt x scope cl s S P Fin k i ys news
  | 0, i, ys, news, e, hJ => fin ys news (by rw [← e, Nat.add_zero]; exact hJ)
  | k + 1, i, ys, news, e, hJ => fun v I oI C oC D m₂ h tk E' hP hC hx F N o ne =>
    wpAny_noRaise (wpAny_mono (step i ys news (by omega) hJ v I oI C oC D m₂ h tk hP hC hx F N o ne)
      (fun ok s' r => by
        cases ok with
        | true =>
          simp only [if_true] at r ⊢
          exact wpAny_mono r (fun y s' r => CompEnd.mono r fun y n hj => restT_of J fin step k (i + 1) (ys ++ [y]) n (by omega) hj) fun _ _ e => e.elim
        | false =>
          simp only [Bool.false_eq_true, if_false] at r ⊢
          exact CompEnd.mono r fun _ n hj => restT_of J fin step k (i + 1) ys n (by omega) hj) fun _ _ e => e)

def SrcS (prog : Program) (w : World) (A : Around) (h₀ : Heap) (L : Addr) (m : Str → Option Value) (env : Env) (elt : Expr) (x : Str) (scope : Scope) (cl : List (Str × Addr)) (Fin : Shared → List Value → List (Addr × Obj) → Prop) (xv : Value) (s₁ : Shared) : Prop :=
  ∃ y t news, xv = .str y t ∧ A.handled = none ∧ Fr h₀ L s₁.heap m ∧ News h₀ L s₁.heap news ∧ y.cps.size ≤ sizeLine ∧
    ∀ s₂ : Shared, (∃ h, s₂ = { s₁ with heap := h }) → CompRest prog w A h₀ L m env elt x scope cl s₂ (fun _ => True) (SignAt y) (Fin s₂) y.cps.size 0 [] news
def SrcB (prog : Program) (w : World) (A : Around) (h₀ : Heap) (L : Addr) (m : Str → Option Value) (env : Env) (elt : Expr) (x : Str) (scope : Scope) (cl : List (Str × Addr)) (Fin : Shared → List Value → List (Addr × Obj) → Prop) (xv : Value) (s₁ : Shared) : Prop :=
  ∃ b t news, xv = .bytes b t ∧ A.handled = none ∧ Fr h₀ L s₁.heap m ∧ News h₀ L s₁.heap news ∧ b.size ≤ sizeLine ∧
    ∀ s₂ : Shared, (∃ h, s₂ = { s₁ with heap := h }) → CompRest prog w A h₀ L m env elt x scope cl s₂ (fun _ => True) (fun i v => ∃ c u, b[i]? = some c ∧ v = .int (c.toNat : Int) u) (Fin s₂) b.size 0 [] news

theorem ListComp_S {elt iter : Expr} {x : Str} {px : Pos} {scope : Scope} {cl : List (Str × Addr)} {pos : Pos} {Q : Value → Shared → Prop} (F₀ : Fr h₀ L s.heap m)
    (hclos : closureFor scope env = pure cl) (hcell : ∀ y ∈ scope.names, y.2 ≠ .cell) (hkind : scope.kind = .function)
    (hnames : ∀ y ∈ scope.names, y.2 = .local → scope.names.lookup y.1 = some .local) (hx : scope.names.lookup x = some .local)
    (h : wpAny (model prog w) A (eval iter env) (SrcS prog w A h₀ L m env elt x scope cl (fun s₂ => FinE h₀ L m s₂ Q)) E s)
    (hs : ∀ x, foldedSetIterable iter env x = pure x := by intro _; rfl) :
    wpAny (model prog w) A (eval (.ListComp elt [⟨.Name x px, iter, [], 0⟩] scope pos) env) Q E s := by
  rw [eval_ListComp]
  refine wpAny_comprehension_free (use := none) rfl hs hclos hkind hnames (wpAny_mono h (fun xv s₁ h₁ => ?_) fun _ _ e => e)
  obtain ⟨y, t, news, rfl, hh, F, N, hsz, R⟩ := h₁
  have fin : ∀ (o : Obj) (ty : String) (W : Walks prog w A s₁.heap.objs.size [s₁.heap.objs.size] [s₁.heap.objs.size] y.cps.size (SignAt y) (fun i h => h.IsStrIter s₁.heap.objs.size ty y t i)), (s₁.heap.push o).IsStrIter s₁.heap.objs.size ty y t 0 →
      wpAny (model prog w) A (newList []) (fun acc s₃ => wpAny (model prog w) A (newFunctionEnv scope env.globals cl [] env.qual none .none (some env)) (fun cenv s₄ =>
        codeAny (model prog w) A (.compStart (.ListComp elt [⟨.Name x px, iter, [], 0⟩] scope pos) 0 (.ref s₁.heap.objs.size) acc { cenv with scope := relabel scope env }) (compPost (model prog w) A E none Q acc cenv.locals) s₄) E s₃) E { s₁ with heap := s₁.heap.push o } := by
    intro o ty W st
    refine block_U W hsz (fun i h st => by obtain ⟨o, e, _⟩ := st; exact ⟨o, e⟩) (fun i h h' o nw st e e' _ _ _ => by obtain ⟨o', q, r⟩ := st; rw [e] at q; cases q; exact ⟨o, e', r⟩) hcell hkind hx st (fun b hb => ?_)
      (F.keeps fun _ _ e => Heap.get?_push_of_some _ e) (N.grown fun _ _ e => Heap.get?_push_of_some _ e) (Nat.ne_of_lt F.ns.lt) (next_is_new F) (fun p hp => Nat.ne_of_lt (Heap.lt_size (N p hp).1)) trivial (R _ ⟨_, rfl⟩) ?_
    · rw [List.mem_singleton.mp hb]
      show s₁.heap.objs.size < (s₁.heap.push _).objs.size
      rw [Heap.size_push]; exact Nat.lt_succ_self _
    · intro D C h tk m' ys news' F' N' o1 hn hC₀ hD₀ hCL hDL hCD offC fin
      refine ⟨m', hn, fun h'' hs'' => fin D h'' tk (F'.change hs'' hCL hC₀) (fun p hp => ?_) o1⟩
      refine ⟨hs''.extBut _ _ ?_ (N' p hp).1, (N' p hp).2⟩
      rcases List.mem_cons.mp hp with rfl | hp
      · exact Ne.symm hCD
      · exact offC p hp
  cases ha : y.cps.all (· < 128)
  · exact wpAny_pyIter_wide ha (fin _ _ (Walks.strWide hh _ y t) ⟨_, Heap.get?_push_size _ rfl, rfl, rfl⟩)
  · exact wpAny_pyIter_ascii ha (fin _ _ (Walks.strAscii hh _ y t) ⟨_, Heap.get?_push_size _ rfl, rfl, rfl⟩)

theorem ListComp_B {elt iter : Expr} {x : Str} {px : Pos} {scope : Scope} {cl : List (Str × Addr)} {pos : Pos} {Q : Value → Shared → Prop} (F₀ : Fr h₀ L s.heap m)
    (hclos : closureFor scope env = pure cl) (hcell : ∀ y ∈ scope.names, y.2 ≠ .cell) (hkind : scope.kind = .function)
    (hnames : ∀ y ∈ scope.names, y.2 = .local → scope.names.lookup y.1 = some .local) (hx : scope.names.lookup x = some .local)
    (h : wpAny (model prog w) A (eval iter env) (SrcB prog w A h₀ L m env elt x scope cl (fun s₂ => FinE h₀ L m s₂ Q)) E s)
    (hs : ∀ x, foldedSetIterable iter env x = pure x := by intro _; rfl) :
    wpAny (model prog w) A (eval (.ListComp elt [⟨.Name x px, iter, [], 0⟩] scope pos) env) Q E s := by
  rw [eval_ListComp]
  refine wpAny_comprehension_free (use := none) rfl hs hclos hkind hnames (wpAny_mono h (fun xv s₁ h₁ => ?_) fun _ _ e => e)
  obtain ⟨b, t, news, rfl, hh, F, N, hsz, R⟩ := h₁
  refine KBw.pyIter_bytes ?_
  refine block_U (KBw.walks hh s₁.heap.objs.size b t) hsz (fun i h st => by obtain ⟨o, e, _⟩ := st; exact ⟨o, e⟩) (fun i h h' o nw st e e' _ _ _ => by obtain ⟨o', q, r⟩ := st; rw [e] at q; cases q; exact ⟨o, e', r⟩) hcell hkind hx ⟨_, Heap.get?_push_size _ rfl, rfl, rfl⟩ (fun b hb => ?_)
    (F.keeps fun _ _ e => Heap.get?_push_of_some _ e) (N.grown fun _ _ e => Heap.get?_push_of_some _ e) (Nat.ne_of_lt F.ns.lt) (next_is_new F) (fun p hp => Nat.ne_of_lt (Heap.lt_size (N p hp).1)) trivial (R _ ⟨_, rfl⟩) ?_
  · rw [List.mem_singleton.mp hb]
    show s₁.heap.objs.size < (s₁.heap.push _).objs.size
    rw [Heap.size_push]; exact Nat.lt_succ_self _
  · intro D C h tk m' ys news' F' N' o1 hn hC₀ hD₀ hCL hDL hCD offC fin
    refine ⟨m', hn, fun h'' hs'' => fin D h'' tk (F'.change hs'' hCL hC₀) (fun p hp => ?_) o1⟩
    refine ⟨hs''.extBut _ _ ?_ (N' p hp).1, (N' p hp).2⟩
    rcases List.mem_cons.mp hp with rfl | hp
    · exact Ne.symm hCD
    · exact offC p hp
end
end Mine

end

section
open PySem PySem.W PyProof.Rows PySem.Calls PyProof.Rows.LCg
set_option maxRecDepth 100000
namespace Mine
theorem calm_kt : True := by
  w_top off
  trivial
local macro_rules | `(tactic| walk_at "mine.room") => `(tactic| first
  | omega
  | ((try simp only [depth_under_make, depth_under_kw, depth_in1, depth_deeper, depth_caller]); (try dsimp only [ktrTop]); omega)
  | ((have hcL9 := cLine_is); (try simp only [units_in1, units_deeper, Around.mark_units, units_caller] at *); (try dsimp only [ktrTop] at *); omega))
local macro_rules | `(tactic| k_all) => `(tactic| first | assumption | exact AllNe.mem (by assumption))
local macro_rules | `(tactic| walk_at "call ref") => `(tactic| (k_here; (with_reducible show wpAny _ _ (call (Value.ref 94) _) _ _ _); k_dflt (first
  | (refine' useC (fspath_str _ _ _) ?B ?F ?X ?N ?T ?hk ?hd ?hu ?hP ?_; (case B => k_asm); (case F => k_asm); (case X => k_asm); (case N => k_asm); (case T => k_asm); (case hk => first | exact rfl | assumption); (case hd => walk_at "mine.room"); (case hu => walk_at "mine.room"); (case hP => exact trivial); intro v' h' tk' st' F' N' r'; (try dsimp only at r'); subst r'; (try dsimp only))
  | (refine' useC (fspath_bytes _ _ _) ?B ?F ?X ?N ?T ?hk ?hd ?hu ?hP ?_; (case B => k_asm); (case F => k_asm); (case X => k_asm); (case N => k_asm); (case T => k_asm); (case hk => first | exact rfl | assumption); (case hd => walk_at "mine.room"); (case hu => walk_at "mine.room"); (case hP => exact trivial); intro v' h' tk' st' F' N' r'; (try dsimp only at r'); subst r'; (try dsimp only)))))
local macro_rules | `(tactic| walk_at "call ref") => `(tactic| (k_here; (with_reducible show wpAny _ _ (call (Value.ref 115) _) _ _ _); k_dflt (first
  | (refine' useC (getsep_str _ _ _) ?B ?F ?X ?N ?T ?hk ?hd ?hu ?hP ?_; (case B => k_asm); (case F => k_asm); (case X => k_asm); (case N => k_asm); (case T => k_asm); (case hk => first | exact rfl | assumption); (case hd => walk_at "mine.room"); (case hu => walk_at "mine.room"); (case hP => exact trivial); intro v' h' tk' st' F' N' r'; (try dsimp only at r'); obtain ⟨t9, r9⟩ := r'; subst r9; (try dsimp only))
  | (refine' useC (getsep_bytes _ _ _) ?B ?F ?X ?N ?T ?hk ?hd ?hu ?hP ?_; (case B => k_asm); (case F => k_asm); (case X => k_asm); (case N => k_asm); (case T => k_asm); (case hk => first | exact rfl | assumption); (case hd => walk_at "mine.room"); (case hu => walk_at "mine.room"); (case hP => exact trivial); intro v' h' tk' st' F' N' r'; (try dsimp only at r'); obtain ⟨t9, r9⟩ := r'; subst r9; (try dsimp only)))))
local macro_rules | `(tactic| walk_at "getMethod bytes") => `(tactic| (k_here; first | (with_reducible refine By.m_startswith ?_) | (with_reducible refine By.m_endswith ?_) | (with_reducible refine By.m_rfind ?_) | (with_reducible refine By.m_rstrip ?_)))
local macro_rules | `(tactic| walk_at "call builtin:bytes.startswith") => `(tactic| (k_here; refine By.call_startswith ?_))
local macro_rules | `(tactic| walk_at "call builtin:bytes.endswith") => `(tactic| (k_here; refine By.call_endswith ?_))
local macro_rules | `(tactic| walk_at "call builtin:bytes.rfind") => `(tactic| (k_here; refine By.call_rfind ?_))
local macro_rules | `(tactic| walk_at "call builtin:bytes.rstrip") => `(tactic| (k_here; refine By.call_rstrip (by rw [sizeLine_eq]; omega) ?_; intro t' k'))
local macro_rules | `(tactic| walk_at "mine.size") => `(tactic| first | omega | (simp only [List.size_toArray, List.length_cons, List.length_nil] at *; omega))
local macro_rules | `(tactic| walk_at "binaryOp Add bytes bytes") => `(tactic| (k_here; refine By.add (by walk_at "mine.size") ?_; intro t' k' a'))
local macro_rules | `(tactic| walk_at "inplaceOp Add bytes bytes") => `(tactic| (refine By.iadd (by walk_at "mine.size") ?_; intro t' k' a'))
local macro_rules | `(tactic| walk_at "call builtin:len") => `(tactic| (k_here; (with_reducible show wpAny _ _ (call (Value.builtin "len") [Value.bytes _ _]) _ _ _); (refine len_bytes (by walk_at "mine.size") ?_)))
local macro_rules | `(tactic| walk_at "subscriptTail") => `(tactic| (k_here; (with_reducible show wpAny _ _ (subscriptTail _ (Expr.Slice _ _ none _) (Value.bytes _ _) (Value.ref _)) _ _ _); (with_reducible rename Fr _ _ _ _ => F'); (with_reducible rename News _ _ _ _ => N'); (refine By.slice_B (s := ⟨_, _, _, _, _⟩) F' N' (by constructor) (by constructor) (by walk_at "mine.size") ?_); clear F' N'; intro h' t' k' F' N' a'))
/-- the signs' bytes -/
def encB (x : Str) : Array UInt8 := (x.cps.toList.map fun c => c.toUInt8).toArray
theorem IntsAre.snoc {vs : List Value} {ns : List Int} (h : IntsAre vs ns) (n : Int) (t : Tok) : IntsAre (vs ++ [.int n t]) (ns ++ [n]) := IntsAre.append h (.cons n t .nil)
theorem strs_snoc {vs : List Value} {ns : List Str} (h : StrsAre vs ns) (n : Str) (t : Tok) : StrsAre (vs ++ [.str n t]) (ns ++ [n]) := by
  induction h with
  | nil => exact .cons n t .nil
  | cons x t _ ih => exact .cons x t ih
theorem take_snoc {α : Type} {l : List α} {i : Nat} {a : α} (h : l[i]? = some a) : l.take (i + 1) = l.take i ++ [a] := by
  rw [List.take_add_one, h]; rfl
/-- the bytes as signs -/
def decB (b : Array UInt8) : Str := ⟨(b.toList.map fun c => c.toNat).toArray⟩
theorem dec_signs (b : Array UInt8) : (b.toList.map fun c => (⟨#[c.toNat]⟩ : Str)) = signs (decB b) := by
  simp [signs, decB, Function.comp_def]
theorem sum_ones (l : List UInt8) : ((l.map fun c => (⟨#[c.toNat]⟩ : Str)).map (·.length)).sum = l.length := by
  induction l with
  | nil => rfl
  | cons c l ih =>
    simp only [List.map_cons, List.sum_cons, List.length_cons]
    rw [ih]
    show 1 + _ = _
    omega
theorem dec_join (b : Array UInt8) : Txt.join (Str.ofString "") (b.toList.map fun c => (⟨#[c.toNat]⟩ : Str)) = decB b := by
  have e : Str.ofString "" = ⟨#[]⟩ := rfl
  rw [e]
  rw [eq_of_beq (join_plain_closes _ _), dec_signs, join_nil_signs]
theorem dec_enc {x : Str} (hc : ∀ c ∈ x.cps.toList, c < 256) : decB (encB x) = x := by
  unfold decB encB
  apply Str.ext'
  apply Array.toList_inj.mp
  simp only [List.map_map]
  conv => rhs; rw [← List.map_id x.cps.toList]
  refine List.map_congr_left fun c hm => ?_
  have := hc c hm
  show (c.toUInt8).toNat = c
  simp
  omega
theorem byteArr_enc (x : Str) : byteArr (x.cps.toList.map (fun c : Nat => (c : Int))) = encB x := by
  unfold byteArr encB
  rw [List.map_map]
  congr 1
set_option maxHeartbeats 4000000 in
theorem kind_str (w : World) (x : Str) (t : Tok) :
    Calls 20 w 146 [.str x t, .bool false] (fun _ => True) (fun _ _ v => ∃ t, v = .str x t) := by
  unfold Calls
  k_fill
  intro p loose mean mg mb dp un gd cn cs a ccd cl outer A₀ base h₀ L m s Q B F X T hk hd hu hP hret
  refine wpAny_call ?_
  k_dflt (refine' enterP ?k1 ?k2 ?k3 ?k5 ?kA ?kF ?kK ?k6 ?k7 ?k8 ?k9 ?kB ?_ ?c2 ?c3 ?c4 ?c5; (case kA => exact rfl); (case kF => exact rfl); (case kK => assumption); (case k1 => exact B); (case k2 => exact F); (case k3 => exact X); (case k5 => exact T); (case k6 => k_is); (case k7 => k_is); (case k8 => ktr_room); (case k9 => exact BindsTo.of_eq rfl); (case c5 => decide); (case kB => exact locs rfl); (case c2 => exact rfl); (case c3 => exact rfl); (case c4 => exact rfl); k_whole)
  intro g L₁ h₁ eg F₁ N₁ B₁ X₁ T₁
  (try rw [← eg] at hP)
  clear F X T B
  (try dsimp only)
  k_fold
  k_steps
  refine hret _ _ _ (by rw [← eg]; exact Fr.keep (by k_asm)) ?_
  exact ⟨_, rfl⟩
section
local macro_rules | `(tactic| walk_at "eval ListComp") => `(tactic| (k_here; k_dflt (refine ListComp_S (F₀ := by k_asm) (by with_unfolding_all rfl) (by decide) (by rfl) (by decide) (by rfl) ?_)))
set_option maxHeartbeats 4000000 in
theorem kind_bytes (w : World) (x : Str) (t : Tok) (hx : x.length ≤ 1000) (hc : ∀ c ∈ x.cps.toList, c < 256) :
    Calls 20 w 146 [.str x t, .bool true] (fun _ => True) (fun _ _ v => ∃ t, v = .bytes (encB x) t) := by
  unfold Calls
  k_fill
  intro p loose mean mg mb dp un gd cn cs a ccd cl outer A₀ base h₀ L m s Q B F X T hk hd hu hP hret
  refine wpAny_call ?_
  k_dflt (refine' enterP ?k1 ?k2 ?k3 ?k5 ?kA ?kF ?kK ?k6 ?k7 ?k8 ?k9 ?kB ?_ ?c2 ?c3 ?c4 ?c5; (case kA => exact rfl); (case kF => exact rfl); (case kK => assumption); (case k1 => exact B); (case k2 => exact F); (case k3 => exact X); (case k5 => exact T); (case k6 => k_is); (case k7 => k_is); (case k8 => ktr_room); (case k9 => exact BindsTo.of_eq rfl); (case c5 => decide); (case kB => exact locs rfl); (case c2 => exact rfl); (case c3 => exact rfl); (case c4 => exact rfl); k_whole)
  intro g L₁ h₁ eg F₁ N₁ B₁ X₁ T₁
  (try rw [← eg] at hP)
  clear F X T B
  (try dsimp only)
  k_fold
  k_steps
  refine ⟨x, t, [], rfl, rfl, F₁, N₁, Nat.le_trans hx (by decide), ?_⟩
  rintro s₂ ⟨h₂, rfl⟩
  refine rest_of (n := x.cps.size) (fun i ys news => news = [] ∧ IntsAre ys ((x.cps.toList.take i).map (fun c : Nat => (c : Int)))) ?fin ?step _ 0 [] [] (Nat.zero_add _) ⟨rfl, by simpa using IntsAre.nil⟩
  case step =>
    rintro i ys news hi ⟨rfl, hys⟩ v I oI C oC D m₂ h tk hP hC hx F N o ne
    obtain ⟨c, u, hc, rfl⟩ := hP
    k_steps
    rw [take_snoc (a := c) (by rw [Array.getElem?_toList]; exact hc), List.map_append]
    exact IntsAre.snoc hys _ _
  case fin =>
    rintro ys news ⟨rfl, hys⟩
    intro D h tk F N o
    rw [List.take_of_length_le (by simp)] at hys
    k_steps
    refine KBa.make_K F N rfl (News.isList N (List.Mem.head _)) hys ?_ (by rw [List.length_map, Array.length_toList]; exact Nat.le_trans hx (by decide)) ?_
    · intro n hn
      obtain ⟨c, hc', rfl⟩ := List.mem_map.mp hn
      have := hc c hc'
      omega
    · intro h' t' k' F' N' _
      refine hret _ _ _ (by rw [← eg]; exact Fr.keep F') ?_
      rw [byteArr_enc]
      exact ⟨_, rfl⟩
end
set_option maxHeartbeats 4000000 in
theorem text_str (w : World) (x : Str) (t : Tok) :
    Calls 20 w 151 [.str x t] (fun _ => True) (fun _ _ v => ∃ t, v = .str x t) := by
  unfold Calls
  k_fill
  intro p loose mean mg mb dp un gd cn cs a ccd cl outer A₀ base h₀ L m s Q B F X T hk hd hu hP hret
  refine wpAny_call ?_
  k_dflt (refine' enterP ?k1 ?k2 ?k3 ?k5 ?kA ?kF ?kK ?k6 ?k7 ?k8 ?k9 ?kB ?_ ?c2 ?c3 ?c4 ?c5; (case kA => exact rfl); (case kF => exact rfl); (case kK => assumption); (case k1 => exact B); (case k2 => exact F); (case k3 => exact X); (case k5 => exact T); (case k6 => k_is); (case k7 => k_is); (case k8 => ktr_room); (case k9 => exact BindsTo.of_eq rfl); (case c5 => decide); (case kB => exact locs rfl); (case c2 => exact rfl); (case c3 => exact rfl); (case c4 => exact rfl); k_whole)
  intro g L₁ h₁ eg F₁ N₁ B₁ X₁ T₁
  (try rw [← eg] at hP)
  clear F X T B
  (try dsimp only)
  k_fold
  k_steps
  refine hret _ _ _ (by rw [← eg]; exact Fr.keep (by k_asm)) ?_
  exact ⟨_, rfl⟩
section
local macro_rules | `(tactic| walk_at "eval ListComp") => `(tactic| (k_here; k_dflt (refine ListComp_B (F₀ := by k_asm) (by with_unfolding_all rfl) (by decide) (by rfl) (by decide) (by rfl) ?_)))
set_option maxHeartbeats 4000000 in
theorem text_bytes (w : World) (b : Array UInt8) (t : Tok) (hx : b.size ≤ 1000) :
    Calls 20 w 151 [.bytes b t] (fun _ => True) (fun _ _ v => ∃ t, v = .str (decB b) t) := by
  unfold Calls
  k_fill
  intro p loose mean mg mb dp un gd cn cs a ccd cl outer A₀ base h₀ L m s Q B F X T hk hd hu hP hret
  refine wpAny_call ?_
  k_dflt (refine' enterP ?k1 ?k2 ?k3 ?k5 ?kA ?kF ?kK ?k6 ?k7 ?k8 ?k9 ?kB ?_ ?c2 ?c3 ?c4 ?c5; (case kA => exact rfl); (case kF => exact rfl); (case kK => assumption); (case k1 => exact B); (case k2 => exact F); (case k3 => exact X); (case k5 => exact T); (case k6 => k_is); (case k7 => k_is); (case k8 => ktr_room); (case k9 => exact BindsTo.of_eq rfl); (case c5 => decide); (case kB => exact locs rfl); (case c2 => exact rfl); (case c3 => exact rfl); (case c4 => exact rfl); k_whole)
  intro g L₁ h₁ eg F₁ N₁ B₁ X₁ T₁
  (try rw [← eg] at hP)
  clear F X T B
  (try dsimp only)
  k_fold
  k_steps
  refine ⟨b, t, [], rfl, rfl, F₁, N₁, Nat.le_trans hx (by decide), ?_⟩
  rintro s₂ ⟨h₂, rfl⟩
  refine rest_of (n := b.size) (fun i ys news => news = [] ∧ StrsAre ys ((b.toList.take i).map (fun c => (⟨#[c.toNat]⟩ : Str)))) ?fin ?step _ 0 [] [] (Nat.zero_add _) ⟨rfl, by simpa using StrsAre.nil⟩
  case step =>
    rintro i ys news hi ⟨rfl, hys⟩ v I oI C oC D m₂ h tk hP hC hx F N o ne
    obtain ⟨c, u, hc, rfl⟩ := hP
    have hcl := c.toNat_lt
    k_steps
    rw [take_snoc (a := c) (by rw [Array.getElem?_toList]; exact hc), List.map_append]
    exact strs_snoc hys _ _
  case fin =>
    rintro ys news ⟨rfl, hys⟩
    intro D h tk F N o
    rw [List.take_of_length_le (by simp)] at hys
    k_steps
    refine join_list (News.isList N (List.Mem.head _)) hys ?_ ?_
    · have e8 := sum_ones b.toList
      rw [e8]
      have e7 : (Str.ofString "").length = 0 := rfl
      rw [e7, Array.length_toList]
      omega
    · intro t' k
      rw [dec_join b]
      k_steps
      refine hret _ _ _ (by rw [← eg]; exact Fr.keep (by k_asm)) ?_
      exact ⟨_, rfl⟩
end
end Mine

end

section
open PySem PySem.W PyProof.Rows PySem.Calls PyProof.Rows.LCg
set_option maxRecDepth 100000
namespace Mine
theorem calm_nm : True := by
  w_top off
  trivial
local macro_rules | `(tactic| walk_at "mine.room") => `(tactic| first
  | omega
  | ((try simp only [depth_under_make, depth_under_kw, depth_in1, depth_deeper, depth_caller]); (try dsimp only [ktrTop]); omega)
  | ((have hcL9 := cLine_is); (try simp only [units_in1, units_deeper, Around.mark_units, units_caller] at *); (try dsimp only [ktrTop] at *); omega))
local macro_rules | `(tactic| k_all) => `(tactic| first | assumption | exact AllNe.mem (by assumption))
local macro_rules | `(tactic| walk_at "call ref") => `(tactic| (k_here; (with_reducible show wpAny _ _ (call (Value.ref 151) _) _ _ _); k_dflt (first
  | (refine' useC (text_str _ _ _) ?B ?F ?X ?N ?T ?hk ?hd ?hu ?hP ?_; (case B => k_asm); (case F => k_asm); (case X => k_asm); (case N => k_asm); (case T => k_asm); (case hk => first | exact rfl | assumption); (case hd => walk_at "mine.room"); (case hu => walk_at "mine.room"); (case hP => exact trivial); intro v' h' tk' st' F' N' r'; (try dsimp only at r'); obtain ⟨t9, r9⟩ := r'; subst r9; (try dsimp only))
  | (refine' useC (text_bytes _ _ _ (by first | assumption | omega)) ?B ?F ?X ?N ?T ?hk ?hd ?hu ?hP ?_; (case B => k_asm); (case F => k_asm); (case X => k_asm); (case N => k_asm); (case T => k_asm); (case hk => first | exact rfl | assumption); (case hd => walk_at "mine.room"); (case hu => walk_at "mine.room"); (case hP => exact trivial); intro v' h' tk' st' F' N' r'; (try dsimp only at r'); obtain ⟨t9, r9⟩ := r'; subst r9; (try dsimp only)))))

theorem decB_length (b : Array UInt8) : (decB b).length = b.size := by simp [decB, Str.length]
theorem slice_le (x : Str) (n : Nat) : (Txt.slice x (some (n : Int)) none).length ≤ x.length := by
  rcases Nat.lt_or_ge x.length n with h | h
  · rw [slice_from_beyond (by omega)]; exact Nat.zero_le _
  · rw [slice_from_eq (b := x.length) (by omega) (by omega) rfl]
    simp only [Str.length, List.size_toArray, List.length_take, List.length_drop, Array.length_toList]
    omega
theorem compEnd_at {h₀ : Heap} {L I C D : Addr} {m : Str → Option Value} {s₁ : Shared} {oI oC oD : Obj} {S : List (Addr × Obj) → Prop} {rest : Value → List (Addr × Obj) → Prop} {y : Value} {h' : Heap} {tk : Nat} {news' : List (Addr × Obj)}
    (F : Fr h₀ L h' m) (N : News h₀ L h' ((I, oI) :: (C, oC) :: (D, oD) :: news')) (off : Off3 I C D news') (hS : S news') (r : rest y news') :
    CompEnd h₀ L m s₁ I oI C oC D oD S rest y { s₁ with heap := h', toks := tk } := ⟨h', tk, news', rfl, F, N, off, hS, r⟩
/-- the non-empty pieces of a path's text behind its start -/
def namesT (x st : Str) : List Str := (Txt.split (Txt.slice x (some (st.length : Int)) none) (Str.ofString "/")).filter fun z => z != Str.empty
/-- a list of strs that a call has made: itself and nothing else -/
def NewStrs (ns : List Str) (g h' : Heap) (v : Value) : Prop := ∃ D ys k, v = .ref D ∧ g.get? D = none ∧ h'.get? D = some (listOf (List.toArray ys) k) ∧ StrsAre ys ns
local macro_rules | `(tactic| walk_at "eval ListComp") => `(tactic| (k_here; k_dflt (refine LCt.ListComp_T (F₀ := by k_asm) (by with_unfolding_all rfl) (by decide) (by rfl) (by decide) (by rfl) ?_)))

set_option maxHeartbeats 4000000 in
theorem names_str (w : World) (x st : Str) (t u : Tok) (hx : x.length ≤ 1000) (hst : st.length ≤ 10) :
    Calls 40 w 156 [.str x t, .str st u] (fun _ => True) (NewStrs (namesT x st)) := by
  unfold Calls
  k_fill
  intro p loose mean mg mb dp un gd cn cs a ccd cl outer A₀ base h₀ L m s Q B F X T hk hd hu hP hret
  refine wpAny_call ?_
  k_dflt (refine' enterP ?k1 ?k2 ?k3 ?k5 ?kA ?kF ?kK ?k6 ?k7 ?k8 ?k9 ?kB ?_ ?c2 ?c3 ?c4 ?c5; (case kA => exact rfl); (case kF => exact rfl); (case kK => assumption); (case k1 => exact B); (case k2 => exact F); (case k3 => exact X); (case k5 => exact T); (case k6 => k_is); (case k7 => k_is); (case k8 => ktr_room); (case k9 => exact BindsTo.of_eq rfl); (case c5 => decide); (case kB => exact locs rfl); (case c2 => exact rfl); (case c3 => exact rfl); (case c4 => exact rfl); k_whole)
  intro g L₁ h₁ eg F₁ N₁ B₁ X₁ T₁
  (try rw [← eg] at hP)
  clear F X T B
  (try dsimp only)
  k_fold
  k_steps
  with_reducible rename Fr _ _ _ _ => F2
  with_reducible rename News _ _ _ _ => N2
  with_reducible rename StrsAre _ _ => SA
  with_reducible rename List.map _ _ = Txt.split _ _ => EQ
  with_reducible rename List (Str × Tok) => l
  have hlen := len_le_of_split EQ
  have hsl := slice_le x st.length
  have hvl : (strValues l).length = l.length := by unfold strValues; rw [List.length_map]
  refine LCt.CompSrcT.ledger rfl F2 N2 (List.Mem.head _) (by rw [sizeLine_eq, List.size_toArray, hvl]; omega) ?_
  intro g₂
  refine restT_of (n := (strValues l).length) (fun i ys news => news = _ ∧ StrsAre ys (((l.map (·.1)).take i).filter fun z => z != Str.empty)) ?fin ?step _ 0 [] _ (by rw [Nat.zero_add, List.size_toArray]) ⟨rfl, StrsAre.nil⟩
  case step =>
    rintro i ys news hi ⟨rfl, hys⟩ v I oI C oC D m₂ h tk hP hC hx F N o ne
    rw [hvl] at hi
    have ei : (strValues l)[i]? = some (.str l[i].1 l[i].2) := by unfold strValues; simp [hi]
    rw [List.getElem?_toArray, ei] at hP
    cases hP
    have hti : ((l.map (·.1)).take (i + 1)) = ((l.map (·.1)).take i) ++ [l[i].1] := take_snoc (by simp [hi])
    rw [hti]
    generalize l[i] = lp at hx ⊢
    k_steps
    · refine compEnd_at F N o (.inr ⟨_, List.Mem.head _, rfl, _, rfl⟩) ⟨rfl, ?_⟩
      rw [List.filter_append]
      refine strsAre_append hys ?_
      rw [List.filter_cons_of_pos (by assumption), List.filter_nil]
      exact StrsAre.cons _ _ .nil
    · refine compEnd_at F N o (.inr ⟨_, List.Mem.head _, rfl, _, rfl⟩) ⟨rfl, ?_⟩
      rw [List.filter_append, List.filter_cons_of_neg (Bool.eq_false_iff.mp (by assumption)), List.filter_nil, List.append_nil]
      exact hys
  case fin =>
    rintro ys news ⟨rfl, hys⟩
    intro D h tk F N o
    rw [List.take_of_length_le (by simp [hvl])] at hys
    k_steps
    refine hret _ _ _ (by rw [← eg]; exact Fr.keep F) ?_
    have hD := N _ (List.Mem.head _)
    refine ⟨_, _, _, rfl, by rw [← eg]; exact hD.2.2, hD.1, ?_⟩
    rw [EQ] at hys
    exact hys

set_option maxHeartbeats 4000000 in
theorem names_bytes (w : World) (b : Array UInt8) (st : Str) (t u : Tok) (hx : b.size ≤ 1000) (hst : st.length ≤ 10) :
    Calls 40 w 156 [.bytes b t, .str st u] (fun _ => True) (NewStrs (namesT (decB b) st)) := by
  have hx' : (decB b).length ≤ 1000 := by rw [decB_length]; exact hx
  unfold Calls
  k_fill
  intro p loose mean mg mb dp un gd cn cs a ccd cl outer A₀ base h₀ L m s Q B F X T hk hd hu hP hret
  refine wpAny_call ?_
  k_dflt (refine' enterP ?k1 ?k2 ?k3 ?k5 ?kA ?kF ?kK ?k6 ?k7 ?k8 ?k9 ?kB ?_ ?c2 ?c3 ?c4 ?c5; (case kA => exact rfl); (case kF => exact rfl); (case kK => assumption); (case k1 => exact B); (case k2 => exact F); (case k3 => exact X); (case k5 => exact T); (case k6 => k_is); (case k7 => k_is); (case k8 => ktr_room); (case k9 => exact BindsTo.of_eq rfl); (case c5 => decide); (case kB => exact locs rfl); (case c2 => exact rfl); (case c3 => exact rfl); (case c4 => exact rfl); k_whole)
  intro g L₁ h₁ eg F₁ N₁ B₁ X₁ T₁
  (try rw [← eg] at hP)
  clear F X T B
  (try dsimp only)
  k_fold
  k_steps
  with_reducible rename Fr _ _ _ _ => F2
  with_reducible rename News _ _ _ _ => N2
  with_reducible rename StrsAre _ _ => SA
  with_reducible rename List.map _ _ = Txt.split _ _ => EQ
  with_reducible rename List (Str × Tok) => l
  have hlen := len_le_of_split EQ
  have hsl := slice_le (decB b) st.length
  have hvl : (strValues l).length = l.length := by unfold strValues; rw [List.length_map]
  refine LCt.CompSrcT.ledger rfl F2 N2 (List.Mem.head _) (by rw [sizeLine_eq, List.size_toArray, hvl]; omega) ?_
  intro g₂
  refine restT_of (n := (strValues l).length) (fun i ys news => news = _ ∧ StrsAre ys (((l.map (·.1)).take i).filter fun z => z != Str.empty)) ?fin ?step _ 0 [] _ (by rw [Nat.zero_add, List.size_toArray]) ⟨rfl, StrsAre.nil⟩
  case step =>
    rintro i ys news hi ⟨rfl, hys⟩ v I oI C oC D m₂ h tk hP hC hx F N o ne
    rw [hvl] at hi
    have ei : (strValues l)[i]? = some (.str l[i].1 l[i].2) := by unfold strValues; simp [hi]
    rw [List.getElem?_toArray, ei] at hP
    cases hP
    have hti : ((l.map (·.1)).take (i + 1)) = ((l.map (·.1)).take i) ++ [l[i].1] := take_snoc (by simp [hi])
    rw [hti]
    generalize l[i] = lp at hx ⊢
    k_steps
    · refine compEnd_at F N o (.inr ⟨_, List.Mem.head _, rfl, _, rfl⟩) ⟨rfl, ?_⟩
      rw [List.filter_append]
      refine strsAre_append hys ?_
      rw [List.filter_cons_of_pos (by assumption), List.filter_nil]
      exact StrsAre.cons _ _ .nil
    · refine compEnd_at F N o (.inr ⟨_, List.Mem.head _, rfl, _, rfl⟩) ⟨rfl, ?_⟩
      rw [List.filter_append, List.filter_cons_of_neg (Bool.eq_false_iff.mp (by assumption)), List.filter_nil, List.append_nil]
      exact hys
  case fin =>
    rintro ys news ⟨rfl, hys⟩
    intro D h tk F N o
    rw [List.take_of_length_le (by simp [hvl])] at hys
    k_steps
    refine hret _ _ _ (by rw [← eg]; exact Fr.keep F) ?_
    have hD := N _ (List.Mem.head _)
    refine ⟨_, _, _, rfl, by rw [← eg]; exact hD.2.2, hD.1, ?_⟩
    rw [EQ] at hys
    exact hys

end Mine

end

section
open PySem PySem.W PyProof.Rows PySem.Calls PyProof.Rows.LCg
set_option maxRecDepth 100000
set_option maxHeartbeats 4000000
namespace Mine
theorem calm_pt : True := by
  w_top off
  trivial
section
variable {prog : Program} {w : World} {A : Around} {E : Value → Shared → Prop} {s : Shared} {h₀ : Heap} {L : Addr} {m : Str → Option Value} {env : Env}

/-- one turn of a comprehension of pairs with a test, whose test and element leave the heap alone -/
def PtTurn (prog : Program) (w : World) (A : Around) (h₀ : Heap) (L : Addr) (m : Str → Option Value) (env : Env) (c elt : Expr) (a b : Str) (scope : Scope) (cl : List (Str × Addr)) (s : Shared) (news : List (Addr × Obj)) (J : Nat → List Value → Prop) (i : Nat) (v₁ v₂ : Value) : Prop :=
  ∀ ys, J i ys → ∀ I oI C oC D m₂ h tk, NsObj oC m₂ → m₂ a = some v₁ → m₂ b = some v₂ → Fr h₀ L h m → News h₀ L h ((I, oI) :: (C, oC) :: (D, lst ys) :: news) → Off3 I C D news → ((@Ne Nat I C) ∧ (@Ne Nat I D) ∧ (@Ne Nat C D)) →
    wpAny (model prog w) A (isTrue c (compEnvC scope cl C env) (eval c (compEnvC scope cl C env))) (fun ok s' => if ok = true then
      wpAny (model prog w) A (eval elt (compEnvC scope cl C env)) (fun y s'' => (∃ t, s'' = { s with heap := h, toks := t }) ∧ J (i + 1) (ys ++ [y])) (fun _ _ => False) s'
      else (∃ t, s' = { s with heap := h, toks := t }) ∧ J (i + 1) ys) (fun _ _ => False) { s with heap := h, toks := tk }

theorem pt_block {L : Nat} {elt iter c : Expr} {a b : Str} {pa pb tp : Pos} {kk : Nat} {scope : Scope} {cl : List (Str × Addr)} {pos : Pos} {s₂ : Shared} {I ax : Nat} {its : Array Value} {news : List (Addr × Obj)} {J : Nat → List Value → Prop}
    {RR : Value → Addr → Result → Shared → Prop} (hh : A.handled = none) (_hlt : ax < s₂.heap.objs.size) (haI : ax ≠ I) (hIlt : I < s₂.heap.objs.size) (hsz : its.size ≤ sizeLine) (hl : h₀.IsList ax its) (hI : s₂.heap.IsListIter I ax 0)
    (hcell : ∀ y ∈ scope.names, y.2 ≠ .cell) (hkind : scope.kind = .function) (hxa : scope.names.lookup a = some .local) (hxb : scope.names.lookup b = some .local) (hab : a ≠ b)
    (F : Fr h₀ L s₂.heap m) (N : News h₀ L s₂.heap news) (hIL : L ≠ I) (hI₀ : h₀.get? I = none) (off : ∀ p ∈ news, p.1 ≠ I)
    (hJ : J 0 [] ∧ ∀ i, i < its.size → ∃ t v₁ v₂, its[i]? = some (.ref t) ∧ IsTup h₀ t #[v₁, v₂] ∧ PtTurn prog w A h₀ L m env c elt a b scope cl s₂ news J i v₁ v₂)
    (hRR : ∀ D C h tk m' ys, Fr h₀ L h m → News h₀ L h ((D, lst ys) :: news) → Off1 D news → h.Ns C m' → h₀.get? C = none → h₀.get? D = none → C ≠ L → D ≠ L → C ≠ D → (∀ p ∈ news, p.1 ≠ C) → J its.size ys → RR (.ref D) C (.ok .next) { s₂ with heap := h, toks := tk }) :
    wpAny (model prog w) A (newList []) (fun acc s₃ => wpAny (model prog w) A (newFunctionEnv scope env.globals cl [] env.qual none .none (some env)) (fun cenv s₄ =>
      codeAny (model prog w) A (.compStart (.ListComp elt [⟨.Tuple [.Name a pa, .Name b pb] kk tp, iter, [c], 0⟩] scope pos) 0 (.ref I) acc { cenv with scope := relabel scope env }) (RR acc cenv.locals) s₄) E s₃) E s₂ := by
  refine wpAny_newObj_type (wpAny_newFunctionEnv hcell (by intro y hy; simp at hy) (fun h₁ hns₁ hsb₁ => ?_) hkind)
  dsimp only at hns₁ hsb₁ ⊢
  generalize hH : s₂.heap.push { cls := .type "list", dict := none, data := .seq ([] : List Value).toArray } = H at hns₁ hsb₁ ⊢
  generalize hDe : s₂.heap.objs.size = D at hIlt hns₁ hsb₁ ⊢
  have hC : H.objs.size = D + 1 := by rw [← hH, Heap.size_push, hDe]
  generalize hCe : H.objs.size = C at hns₁ hsb₁ hC ⊢
  have old : ∀ b o, s₂.heap.get? b = some o → h₁.get? b = some o := fun b o e => by
    have hb : @LT.lt Nat _ b D := by have := Heap.lt_size e; rw [hDe] at this; exact this
    exact hsb₁.extBut b o (Nat.ne_of_lt (by omega)) (Heap.get?_push_of_some _ (hH ▸ Heap.get?_push_of_some _ e))
  have hacc : h₁.get? D = some (lst []) := hsb₁.extBut _ _ (by show @Ne Nat D C; omega) (Heap.get?_push_of_some _ (by rw [← hH, ← hDe]; exact Heap.get?_push_size _ rfl))
  have fresh : ∀ a, D ≤ a → h₀.get? a = none := fun a ha => by
    cases e : h₀.get? a with
    | none => rfl
    | some o => exact absurd (Heap.lt_size (F.keep a o e)) (Nat.not_lt.mpr (by rw [hDe]; exact ha))
  have hL : L < D := by have := F.ns.lt; rw [hDe] at this; exact this
  have offN : ∀ p ∈ news, p.1 ≠ I ∧ p.1 ≠ C ∧ p.1 ≠ D := fun p hp => by
    have hpn : @LT.lt Nat _ p.1 D := by have := Heap.lt_size (N p hp).1; rw [hDe] at this; exact this
    exact ⟨off p hp, Nat.ne_of_lt (by omega), Nat.ne_of_lt hpn⟩
  have hCI : @Ne Nat C I := by omega
  have W := Walks.list (prog := prog) (w := w) hh I ax haI its
  have loop : ∀ s₃ : Shared, s₃ = { s₂ with heap := h₁, toks := s₂.toks + ([] : List (Str × Value)).length } →
      codeAny (model prog w) A (.compLoop (.ListComp elt [⟨.Tuple [.Name a pa, .Name b pb] kk tp, iter, [c], 0⟩] scope pos) 0 (.ref I) (.ref D) (compEnvC scope cl C env)) (RR (.ref D) C) s₃ := by
    rintro s₃ rfl
    refine kct_loop (fun k s' => ∃ h tk i ys m', s' = { s₂ with heap := h, toks := tk } ∧ i ≤ its.size ∧ k = its.size + 1 - i ∧ ys.length ≤ i ∧ h.IsListIter I ax i ∧ Fr h₀ L h m ∧ h.Ns C m' ∧ News h₀ L h ((D, lst ys) :: news) ∧ J i ys)
      ?_ (its.size + 1) ⟨h₁, _, 0, [], _, rfl, Nat.zero_le _, rfl, Nat.le_refl _, ?_, F.keeps old, hns₁, ?_, hJ.1⟩
    case refine_2 => obtain ⟨o, e, r⟩ := hI; exact ⟨o, old _ _ e, r⟩
    case refine_3 =>
      intro p hp
      rcases List.mem_cons.mp hp with rfl | hp
      · exact ⟨hacc, by show @Ne Nat D L; omega, fresh _ (Nat.le_refl _)⟩
      · exact ⟨old _ _ (N p hp).1, (N p hp).2⟩
    rintro k s' ⟨h, tk, i, ys, m', rfl, hi, rfl, hyl, hit, F', hn, N', j⟩
    by_cases hlt' : i < its.size
    · refine W.item i _ _ _ hlt' ⟨hit, F'.lst hl⟩ fun v h₂ tk₂ hPv st₂ hk₂ => ?_
      obtain ⟨t, v₁, v₂, e, ⟨ot, et, ct, nt, dt⟩, R⟩ := hJ.2 i hlt'
      rw [e] at hPv
      cases hPv
      have k2 : ∀ b o, b ≠ I → h.get? b = some o → h₂.get? b = some o := fun b o hb e => hk₂ b o (by simpa using hb) e
      have ht : h₂.IsTuple t #[v₁, v₂] := ⟨ot, k2 t ot (fun q => by rw [q, hI₀] at et; cases et) (F'.keep _ _ et), ct, nt, dt⟩
      obtain ⟨ho, hit₂, ci, di⟩ := st₂.1
      refine wpAny_letOwnedTupleGo_listiter ⟨ho, hit₂, ci, di⟩ ?_
      refine kcp_assign (env := compEnvC scope cl C env) hh ht (lookup_relabel_local hxa) (lookup_relabel_local hxb) (by simp [compEnvC, relabel, hkind]) (hn.at' fun o e => k2 _ o (by show @Ne Nat C I; omega) e) fun h₃ tk₃ hn₃ hs₃ => ?_
      have k3 : ∀ b o, b ≠ I → b ≠ C → h.get? b = some o → h₃.get? b = some o := fun b o q1 q2 e => hs₃ b o q2 (k2 b o q1 e)
      have hI3 : h₃.get? I = some ho := hs₃ _ _ (by show @Ne Nat I C; omega) hit₂
      obtain ⟨oC, heC, hoC⟩ := ns_obj hn₃
      have F₃ : Fr h₀ L h₃ m := ⟨F'.ns.at' fun o e => k3 _ o hIL (by omega) e, fun b o e => k3 b o (fun q => by rw [q, hI₀] at e; cases e) (fun q => by rw [q, fresh C (by omega)] at e; cases e) (F'.keep b o e), F'.above⟩
      have N₃ : News h₀ L h₃ ((I, ho) :: (C, oC) :: (D, lst ys) :: news) := fun p hp => by
        rcases List.mem_cons.mp hp with rfl | hp
        · exact ⟨hI3, Ne.symm hIL, hI₀⟩
        rcases List.mem_cons.mp hp with rfl | hp
        · exact ⟨heC, by show @Ne Nat C L; omega, fresh C (by omega)⟩
        · have z := N' p hp
          refine ⟨k3 _ _ ?_ ?_ z.1, z.2⟩
          · rcases List.mem_cons.mp hp with rfl | hp
            · show @Ne Nat D I; omega
            · exact (offN p hp).1
          · rcases List.mem_cons.mp hp with rfl | hp
            · show @Ne Nat D C; omega
            · exact (offN p hp).2.1
      have fin : ∀ ys' h₅ tk₅, ys'.length ≤ i + 1 → Fr h₀ L h₅ m → News h₀ L h₅ ((I, ho) :: (C, oC) :: (D, lst ys') :: news) → J (i + 1) ys' →
          ∃ q, q < its.size + 1 - i ∧ ∃ h tk i ys m', ({ s₂ with heap := h₅, toks := tk₅ } : Shared) = { s₂ with heap := h, toks := tk } ∧ i ≤ its.size ∧ q = its.size + 1 - i ∧ ys.length ≤ i ∧ h.IsListIter I ax i ∧ Fr h₀ L h m ∧ h.Ns C m' ∧ News h₀ L h ((D, lst ys) :: news) ∧ J i ys :=
        fun ys' h₅ tk₅ hl5 F₅ N₅ j5 => ⟨its.size + 1 - (i + 1), by omega, h₅, tk₅, i + 1, ys', _, rfl, hlt', rfl, hl5, ⟨ho, (N₅ _ (.head _)).1, ci, di⟩, F₅, hoC.ns (N₅ (C, oC) (.tail _ (.head _))).1, fun p hp => N₅ p (.tail _ (.tail _ hp)), j5⟩
      refine wpAny_mono (R ys j I ho C oC D _ h₃ _ hoC (by simp [hab]) (by simp) F₃ N₃ (Off3.of offN) ⟨by omega, by omega, by omega⟩) (fun ok s₅ h₅ => ?_) fun _ _ e => e.elim
      cases ok with
      | false =>
        simp only [Bool.false_eq_true, if_false] at h₅ ⊢
        obtain ⟨⟨t5, rfl⟩, j5⟩ := h₅
        exact fin ys h₃ t5 (Nat.le_succ_of_le hyl) F₃ N₃ j5
      | true =>
        simp only [if_true] at h₅ ⊢
        refine wpAny_mono h₅ (fun y s₆ h₆ => ?_) fun _ _ e => e.elim
        obtain ⟨⟨t5, rfl⟩, j5⟩ := h₆
        have zD := (N₃ (D, lst ys) (.tail _ (.tail _ (.head _)))).1
        refine append_at (hsz := by show ys.toArray.size ≤ sizeLine; rw [List.size_toArray]; omega) zD fun h₆ hs₆ hD₆ => ?_
        refine fin (ys ++ [y]) h₆ _ (by rw [List.length_append, List.length_singleton]; omega) (F₃.change hs₆ (by show @Ne Nat D L; omega) (fresh D (Nat.le_refl _))) (fun p hp => ?_) j5
        rcases List.mem_cons.mp hp with rfl | hp
        · exact ⟨hs₆.extBut _ _ (by show @Ne Nat I D; omega) hI3, Ne.symm hIL, hI₀⟩
        rcases List.mem_cons.mp hp with rfl | hp
        · exact ⟨hs₆.extBut _ _ (by show @Ne Nat C D; omega) heC, by show @Ne Nat C L; omega, fresh C (by omega)⟩
        rcases List.mem_cons.mp hp with rfl | hp
        · exact ⟨hD₆.trans (congrArg some (lst_snoc ys y)), by show @Ne Nat D L; omega, fresh D (Nat.le_refl _)⟩
        · have z := N₃ p (.tail _ (.tail _ (.tail _ hp)))
          exact ⟨hs₆.extBut _ _ (offN p hp).2.2 z.1, z.2⟩
    · obtain rfl : i = its.size := Nat.le_antisymm hi (Nat.not_lt.mp hlt')
      refine W.done _ _ _ ⟨hit, F'.lst hl⟩ fun h₂ tk₂ hk₂ => ?_
      exact hRR D C h₂ tk₂ _ ys (fr_but F' hk₂ hIL hI₀) (news_but N' hk₂ fun p hp => by
        rcases List.mem_cons.mp hp with rfl | hp
        · show @Ne Nat D I; omega
        · exact (offN p hp).1) (Off3.of offN).one (hn.at' fun o e => hk₂ _ o (by simpa using hCI) e) (fresh C (by show @LE.le Nat _ D C; omega)) (fresh D (Nat.le_refl _)) (by show @Ne Nat C L; omega) (by show @Ne Nat D L; omega) (by show @Ne Nat C D; omega) (fun p hp => (offN p hp).2.1) j
  have hst : h₁.IsListIter I ax 0 ∧ h₁.IsList ax its := by
    obtain ⟨o, e, r⟩ := hI
    exact ⟨⟨o, old _ _ e, r⟩, (F.keeps old).lst hl⟩
  exact codeAny_compStart_list (loop _ rfl) (W.self 0 _ _ _ hst (loop _ rfl))

/-- the source of such a comprehension: a list of the caller's, of tuples of the caller's -/
def PtSrc (prog : Program) (w : World) (A : Around) (h₀ : Heap) (L : Addr) (m : Str → Option Value) (env : Env) (c elt : Expr) (a b : Str) (scope : Scope) (cl : List (Str × Addr)) (Fin : Shared → List Value → List (Addr × Obj) → Prop) (xv : Value) (s₁ : Shared) : Prop :=
  ∃ ax its news, xv = .ref ax ∧ A.handled = none ∧ Fr h₀ L s₁.heap m ∧ News h₀ L s₁.heap news ∧ h₀.IsList ax its ∧ its.size ≤ sizeLine ∧ ∃ J : Nat → List Value → Prop,
    J 0 [] ∧ (∀ g, (∀ i, i < its.size → ∃ t v₁ v₂, its[i]? = some (.ref t) ∧ IsTup h₀ t #[v₁, v₂] ∧ PtTurn prog w A h₀ L m env c elt a b scope cl { s₁ with heap := g } news J i v₁ v₂) ∧ ∀ ys, J its.size ys → Fin { s₁ with heap := g } ys news)

theorem Assign_ListComp_PT {elt iter c : Expr} {a b y : Str} {pa pb tp py : Pos} {kk : Nat} {scope : Scope} {cl : List (Str × Addr)} {pos spos : Pos} {Q : Flow → Shared → Prop} (F₀ : Fr h₀ L s.heap m) (hLe : env.locals = L)
    (hsw : swapsWith (.ListComp elt [⟨.Tuple [.Name a pa, .Name b pb] kk tp, iter, [c], 0⟩] scope pos) (some (.Name y py)) spos.line env = pure true)
    (hclos : closureFor scope env = pure cl) (hcell : ∀ z ∈ scope.names, z.2 ≠ .cell) (hkind : scope.kind = .function)
    (hnames : ∀ z ∈ scope.names, z.2 = .local → scope.names.lookup z.1 = some .local) (hxa : scope.names.lookup a = some .local) (hxb : scope.names.lookup b = some .local) (hab : a ≠ b)
    (hy : env.kindOf y = some .local) (hp : (env.scope.kind == .class || (env.scope.kind == .module && env.locals != env.globals)) = false)
    (h : wpAny (model prog w) A (eval iter env) (PtSrc prog w A h₀ L m env c elt a b scope cl (fun s₂ => FinA h₀ L m s₂ y Q)) E s)
    (hs : ∀ x, foldedSetIterable iter env x = pure x := by intro _; rfl) :
    wpAny (model prog w) A (exec (.Assign [.Name y py] (.ListComp elt [⟨.Tuple [.Name a pa, .Name b pb] kk tp, iter, [c], 0⟩] scope pos) spos) env) Q E s := by
  subst hLe
  rw [exec_Assign_Name_used _ _ _ _ hsw]
  refine wpAny_bind (wpAny_standAt (wpAny_bind ?_))
  show wpAny _ A (do let _ ← comprehension (.ListComp elt [⟨.Tuple [.Name a pa, .Name b pb] kk tp, iter, [c], 0⟩] scope pos) scope env _ (newList []) false (eval iter env) (some (assign (.Name y py) env))) _ _ s
  refine wpAny_bind (wpAny_mono (wpAny_comprehension_free (use := some (assign (.Name y py) env)) (Q := fun _ s' => Q .next s') rfl hs hclos hkind hnames
    (wpAny_mono h (fun xv s₁ h₁ => ?_) fun _ _ e => e)) (fun _ s' hq => wpAny_pure (wpAny_pure hq)) fun _ _ e => e)
  obtain ⟨ax, its, news, rfl, hh, F, N, hl, hsz, J, J0, R⟩ := h₁
  have hl' := F.lst hl
  have hlt : ax < s₁.heap.objs.size := by obtain ⟨_, e, _⟩ := hl'; exact Heap.lt_size e
  refine wpAny_pyIter_list hl' ?_
  have up : ∀ b o, s₁.heap.get? b = some o → (s₁.heap.push { cls := .type "list_iterator", data := .fields #[.ref ax, .int 0 0] }).get? b = some o := fun b o e => Heap.get?_push_of_some _ e
  have R' := R (s₁.heap.push { cls := .type "list_iterator", data := .fields #[.ref ax, .int 0 0] })
  refine pt_block (I := s₁.heap.objs.size) (news := news) (J := J) hh (by rw [Heap.size_push]; exact Nat.lt_succ_of_lt hlt) (Nat.ne_of_lt hlt) (by rw [Heap.size_push]; exact Nat.lt_succ_self _) hsz hl ⟨_, Heap.get?_push_size _ rfl, rfl, rfl⟩ hcell hkind hxa hxb hab
    (F.keeps up) (N.grown up) (Nat.ne_of_lt F.ns.lt) (next_is_new F) (fun p hp => Nat.ne_of_lt (Heap.lt_size (N p hp).1)) ⟨J0, R'.1⟩ ?_
  intro D C h' tk m' ys F' N' o1 hn hC₀ hD₀ hCL hDL hCD offC fin
  show wpAny _ A (assign (.Name y py) env (.ref D)) _ _ _
  refine wpAny_assign_Name (wpAny_storeName_local hy F'.ns (fun h₂ hn₂ hs₂ => ?_) hp)
  have hL₀ : h₀.get? env.locals = none := Heap.get?_none_of_le F'.above
  have F₂ : Fr h₀ env.locals h₂ (fun z => if z = y then some (.ref D) else m z) := ⟨hn₂, fun b o e => hs₂.extBut b o (fun q => by rw [q, hL₀] at e; cases e) (F'.keep b o e), F'.above⟩
  refine ⟨m', hn.sameBut hs₂ hCL, fun h'' hs'' => R'.2 ys fin D h'' _ (F₂.change hs'' hCL hC₀) (fun p hp => ?_) o1⟩
  have z : h₂.get? p.1 = some p.2 := hs₂.extBut _ _ (N' p hp).2.1 (N' p hp).1
  refine ⟨hs''.extBut _ _ ?_ z, (N' p hp).2⟩
  rcases List.mem_cons.mp hp with rfl | hp
  · exact Ne.symm hCD
  · exact offC p hp
end
end Mine

end

section
open PySem PySem.W PyProof.Rows PySem.Calls PyProof.Rows.LCg
set_option maxRecDepth 100000
namespace Mine
theorem calm_nd : True := by
  w_top off
  trivial
local macro_rules | `(tactic| walk_at "mine.room") => `(tactic| first
  | omega
  | ((try simp only [depth_under_make, depth_under_kw, depth_in1, depth_deeper, depth_caller]); (try dsimp only [ktrTop]); omega)
  | ((have hcL9 := cLine_is); (try simp only [units_in1, units_deeper, Around.mark_units, units_caller] at *); (try dsimp only [ktrTop] at *); omega))
local macro_rules | `(tactic| k_all) => `(tactic| first | assumption | exact AllNe.mem (by assumption))

theorem srcAt_base {h₀ : Heap} {J : Nat → (Str → Option Value) → List (Addr × Obj) → Prop} {l : Addr} {items : Array Value} (h : h₀.IsList l items) : SrcAt h₀ J l "list" items :=
  let ⟨o, e, c, n, d⟩ := h; ⟨o, c, ⟨n, d⟩, .inl e⟩
section
variable {prog : Program} {w : World} {A : Around} {E : Value → Shared → Prop} {s : Shared}
theorem item_list {value slice : PySem.Expr} {l : Addr} {items : Array Value} {k : Int} {u : Tok} {x : Value} {Q : Value → Shared → Prop} (hl : s.heap.IsList l items) (h0 : 0 ≤ k) (hfit : k < 2 ^ 63) (hx : items[k.toNat]? = some x) (h : Q x s)
    (hs : subscripted slice false (.ref l) (.int k u) = operate [.ref l, .int k u] (getItem (.ref l) (.int k u))) : wpAny (model prog w) A (subscriptTail value slice (.ref l) (.int k u)) Q E s :=
  tail_any hl.typeIs slot_list_getitem.lookup (wpAny_getItem_list hl h0 hfit hx h) hs
theorem item_list_neg {value slice : PySem.Expr} {l : Addr} {items : Array Value} {k : Int} {u : Tok} {x : Value} {Q : Value → Shared → Prop} (hl : s.heap.IsList l items) (h0 : k < 0) (h1 : -(items.size : Int) ≤ k) (hfit : -(2 ^ 63) ≤ k) (hx : items[(k + items.size).toNat]? = some x) (h : Q x s)
    (hs : subscripted slice false (.ref l) (.int k u) = operate [.ref l, .int k u] (getItem (.ref l) (.int k u))) : wpAny (model prog w) A (subscriptTail value slice (.ref l) (.int k u)) Q E s :=
  tail_any hl.typeIs slot_list_getitem.lookup (wpAny_getItem_list_neg hl h0 h1 hfit hx h) hs
end
abbrev Wld := List (List (Str × Nat))
/-- the node to which a way leads -/
def nodeP (ws : Wld) : Nat → List Str → Option Nat
  | k, [] => some k
  | k, n :: r => match (ws.getD k []).find? (·.1 == n) with
    | none => none
    | some p => nodeP ws p.2 r
theorem nodeP_append (ws : Wld) : ∀ (l r : List Str) (a : Nat), nodeP ws a (l ++ r) = (nodeP ws a l).bind fun k => nodeP ws k r
  | [], _, _ => rfl
  | n :: l, r, a => by
    simp only [List.cons_append, nodeP]
    cases (ws.getD a []).find? (·.1 == n) with
    | none => rfl
    | some p => exact nodeP_append ws l r p.2
/-- a world of the heap -/
def IsWld (h : Heap) (W : Addr) (ws : Wld) : Prop :=
  ∃ its : Array Value, h.IsList W its ∧ its.size = ws.length ∧ ∀ (i : Nat) (es : List (Str × Nat)), ws[i]? = some es → ∃ (a : Addr) (ts : Array Value), its[i]? = some (Value.ref a) ∧ h.IsList a ts ∧ ts.size = es.length ∧ ∀ (j : Nat) (p : Str × Nat), es[j]? = some p → ∃ (b : Addr) (t1 t2 : Tok), ts[j]? = some (Value.ref b) ∧ IsTup h b #[.str p.1 t1, .int (p.2 : Int) t2]
/-- every target is a node -/
def WldOk (ws : Wld) : Prop := 0 < ws.length ∧ ws.length ≤ 5 ∧ ∀ es ∈ ws, es.length ≤ 2 ∧ ∀ p ∈ es, p.2 < ws.length
local macro_rules | `(tactic| walk_at "exec Assign cons ListComp") => `(tactic| (k_here; k_dflt (refine Assign_ListComp_PT (F₀ := by k_asm) (by rfl) (by with_unfolding_all rfl) (by with_unfolding_all rfl) (by decide) (by rfl) (by decide) (by rfl) (by rfl) (by decide) (by rfl) (by rfl) ?_)))
local macro_rules | `(tactic| walk_at "mine.look") => `(tactic| first | assumption | with_unfolding_all assumption)
local macro_rules | `(tactic| walk_at "eval Name") => `(tactic| (k_here; (with_reducible show wpAny _ _ (eval (Expr.Name _ _) _) _ _ _); k_dflt (refine' nameX_L ?k1 ?k2 ?_ ?k3 ?k4 ?k5; (case k3 => exact rfl); (case k4 => exact rfl); (case k5 => decide); (case k1 => k_asm); (case k2 => walk_at "mine.look"); k_whole)))

set_option maxHeartbeats 4000000 in
theorem node_at (w : World) (W l : Addr) (ws : Wld) (ns : List Str) (vs : List Value) (hns : StrsAre vs ns) (hw : WldOk ws) :
    Calls 40 w 161 [.ref W, .ref l] (fun g => IsWld g W ws ∧ g.IsList l (List.toArray vs)) (fun _ _ v => ∃ t, v = .int (match nodeP ws 0 ns with | some k => (k : Int) | none => -1) t) := by
  unfold Calls
  k_fill
  intro p loose mean mg mb dp un gd cn cs a ccd cl outer A₀ base h₀ L m s Q B F X T hk hd hu hP hret
  refine wpAny_call ?_
  k_dflt (refine' enterC ?k1 ?k2 ?k3 ?k5 ?kA ?kF ?kK ?k6 ?k7 ?k8 ?k9 ?kB ?kD ?_ ?c2 ?c3 ?c4; (case kA => exact rfl); (case kF => exact rfl); (case kK => assumption); (case k1 => exact B); (case k2 => exact F); (case k3 => exact X); (case k5 => exact T); (case k6 => k_is); (case k7 => k_is); (case k8 => ktr_room); (case k9 => exact BindsTo.of_eq rfl); (case kB => exact rfl); (case kD => decide +kernel); (case c2 => exact rfl); (case c3 => exact rfl); (case c4 => exact rfl); k_whole)
  intro g L₁ h₁ tk₁ cells eg F₁ N₁ Y₁ B₁ X₁ T₁
  (try rw [← eg] at hP)
  clear F X T B
  k_cells Y₁
  (try simp only [List.cons_append, List.nil_append] at N₁)
  (try dsimp only)
  (try k_fold)
  k_steps
  refine wpAny_noRaise (wpAny_For ?_)
  refine wpAny_noRaise ?_
  k_steps
  with_reducible rename Fr _ _ _ _ => F2
  with_reducible rename News _ _ _ _ => N2
  rename _ = Data.cell none => hcl
  have hlen : vs.length = ns.length := StrsAre.length hns
  refine iter_list (fun i m news => ∃ (k : Nat) (t : Tok) (oc : Obj) (z : Option Value), nodeP ws 0 (ns.take i) = some k ∧ k < ws.length ∧ m (Str.ofString "node") = some (.int (k : Int) t) ∧ m (Str.ofString "world") = some (.ref W) ∧ oc.data = Data.cell z ∧ news = [(L₁ + 1, oc)]) rfl (srcAt_base hP.2) F2 N2 ⟨0, _, _, none, rfl, hw.1, by rfl, by rfl, hcl, rfl⟩ ?turn ?done
  case done =>
    rintro m news h tk ⟨k, t, oc, z, hk, hkl, hm1, hm2, hoc, rfl⟩ F N
    rw [List.size_toArray, hlen, List.take_length] at hk
    k_steps
    refine hret _ _ _ (by rw [← eg]; exact Fr.keep F) ?_
    rw [hk]
    exact ⟨_, rfl⟩
  case turn =>
    rintro I i v m news oI h tk hI hi ⟨k, t, oc, z, hk, hkl, hm1, hm2, hoc, rfl⟩ off F N
    have hil : i < ns.length := by
      rw [List.getElem?_toArray] at hi
      obtain ⟨hi', _⟩ := List.getElem?_eq_some_iff.mp hi
      omega
    obtain ⟨t9, hv9⟩ := StrsAre.at hns (List.getElem?_eq_getElem hil)
    rw [List.getElem?_toArray, hv9] at hi
    cases hi
    have hIc : (L₁ + 1 : Addr) ≠ I := off _ (.head _)
    have hIc' : I ≠ (L₁ + 1 : Addr) := Ne.symm hIc
    have hti : ns.take (i + 1) = ns.take i ++ [ns[i]] := take_snoc (by simp [hil])
    generalize ns[i] = nm at hti hv9
    have hw5 := hw.2.1
    k_steps
    with_reducible rename Fr _ _ _ _ => F3
    with_reducible rename News _ _ _ _ => N3
    obtain ⟨its, hW, hsz, hI⟩ := hP.1
    have hes := List.getElem?_eq_getElem hkl
    have hesm : ws[k] ∈ ws := List.getElem_mem hkl
    generalize ws[k] = es at hes hesm
    obtain ⟨a₁, ts, ha, hta, hts, htj⟩ := hI k es hes
    have hes2 := (hw.2.2 es hesm).1
    refine item_list (F3.lst hW) (by omega) (by omega) (by simpa using ha) ?_ (by with_unfolding_all rfl)
    refine ⟨a₁, ts, _, rfl, rfl, F3, N3, hta, by rw [sizeLine_eq]; omega, fun i ys => IntsAre ys (((es.take i).filter (·.1 == nm)).map fun p => (p.2 : Int)), IntsAre.nil, fun g₂ => ⟨fun j hj => ?_, ?_⟩⟩
    · have hj' : j < es.length := by omega
      obtain ⟨b₁, t1, t2, e1, e2⟩ := htj j _ (List.getElem?_eq_getElem hj')
      refine ⟨b₁, _, _, e1, e2, ?_⟩
      have hte : es.take (j + 1) = es.take j ++ [es[j]] := take_snoc (by simp [hj'])
      generalize es[j] = pr at hte
      intro ys hys I' oI' C oC D m₃ h₃ tk₃ hC ha hb F4 N4 o4 ne4
      k_steps
      · show IntsAre _ _
        rw [hte, List.filter_append, List.filter_cons_of_pos (by assumption), List.filter_nil, List.map_append]
        exact IntsAre.snoc hys _ _
      · show IntsAre _ _
        rw [hte, List.filter_append, List.filter_cons_of_neg (Bool.eq_false_iff.mp (by assumption)), List.filter_nil, List.append_nil]
        exact hys
    · intro ys hys D h₄ tk₄ F5 N5 o5
      rw [List.take_of_length_le (by omega)] at hys
      have hgd : ws.getD k [] = es := by simp [List.getD, hes]
      have hfind : (es.filter (·.1 == nm)).head? = es.find? (·.1 == nm) := List.head?_filter
      cases hf : es.filter (·.1 == nm) with
      | nil =>
        rw [hf] at hys hfind
        simp only [List.map_nil] at hys
        have hnone : nodeP ws 0 ns = none := by
          rw [← List.take_append_drop (i + 1) ns, hti, List.append_assoc, nodeP_append, hk]
          show nodeP ws k (nm :: _) = none
          simp only [nodeP]
          rw [hgd, ← hfind]
          rfl
        k_steps
        · refine hret _ _ _ (by rw [← eg]; exact Fr.keep (by k_asm)) ?_
          rw [hnone]
          exact ⟨_, rfl⟩
        all_goals (rename _ = false => hab9; exfalso; simp at hab9; done)
      | cons pr r =>
        rw [hf] at hys hfind
        simp only [List.map_cons] at hys
        have hpr : pr ∈ es := by
          have : pr ∈ es.filter (·.1 == nm) := by rw [hf]; exact .head _
          exact (List.mem_filter.mp this).1
        have hsome : nodeP ws 0 (ns.take (i + 1)) = some pr.2 := by
          rw [hti, nodeP_append, hk]
          show nodeP ws k [nm] = _
          simp only [nodeP]
          rw [hgd, ← hfind]
          rfl
        k_steps
        · rename _ = true => hab9; exfalso; simp at hab9
        · with_reducible rename Fr _ _ _ _ => F6
          with_reducible rename News _ _ _ _ => N6
          refine UnrEnd.intro F6 N6 [(L₁ + 1, _)] ?_ (fun p hp => by rw [List.mem_singleton.mp hp]; exact hIc) ⟨pr.2, _, _, _, hsome, (hw.2.2 es hesm).2 pr hpr, by rfl, by walk_at "mine.look", by assumption, rfl⟩
          intro p hp
          rcases List.mem_cons.mp hp with rfl | hp
          · k_mem
          · rw [List.mem_singleton.mp hp]
            k_mem
end Mine

end

section
open PySem PySem.W PyProof.Rows PySem.Calls
open PySem.Builtin PySem.Builtin.ObjectAttr
set_option maxRecDepth 100000
namespace Mine.Bf
theorem calm_bf : True := by
  w_top off
  trivial

theorem slot_set : Slot "ValueError" "__setattr__" "object.__setattr__" :=
  .of (owner := "object") (n := "__setattr__") (by rw [typeLookup_type, builtinLookup_eq_fast]; kernel_rfl) (by decide +kernel) (by decide +kernel) (by decide +kernel)
    (by first | exact .inl (by decide +kernel) | exact .inr (by decide +kernel)) (by rw [isSubtype_type]; kernel_rfl)
theorem slot_get : Slot "ValueError" "__getattribute__" "BaseException.__getattribute__" :=
  .of (owner := "BaseException") (n := "__getattribute__") (by rw [typeLookup_type, builtinLookup_eq_fast]; kernel_rfl) (by decide +kernel) (by decide +kernel) (by decide +kernel)
    (by first | exact .inl (by decide +kernel) | exact .inr (by decide +kernel)) (by rw [isSubtype_type]; kernel_rfl)
theorem entry_set : entryFor table "object.__setattr__" = some Builtin.«object.__setattr__» := entryFor_of_tree (by kernel_rfl)
theorem entry_get : entryFor table "BaseException.__getattribute__" = some Builtin.«object.__getattribute__» :=
  entryFor_alias (id' := "object.__getattribute__") (by kernel_rfl) (by decide +kernel) (by decide +kernel) (by kernel_rfl)
theorem args_set (a b c : Value) : argsOk "object.__setattr__" ⟨[a, b, c], []⟩ := by
  unfold argsOk; kernel_rfl
theorem args_get (a b : Value) : argsOk "BaseException.__getattribute__" ⟨[a, b], []⟩ := by
  unfold argsOk; kernel_rfl
theorem mro_VE : mroOf (.type "ValueError") = pure [.type "ValueError", .type "Exception", .type "BaseException", .type "object"] := by kernel_rfl
theorem passes (self : Value) : refuseLoop self "__setattr__" [.type "ValueError", .type "Exception", .type "BaseException", .type "object"] = pure () := by
  have h1 : classOwn (.type "ValueError") "__setattr__" = pure none := by
    show (pure (builtinOwn "ValueError" "__setattr__") : Sem (Option Value)) = _
    rw [builtinOwn_eq_fast]; kernel_rfl
  have h2 : classOwn (.type "Exception") "__setattr__" = pure none := by
    show (pure (builtinOwn "Exception" "__setattr__") : Sem (Option Value)) = _
    rw [builtinOwn_eq_fast]; kernel_rfl
  have h3 : classOwn (.type "BaseException") "__setattr__" = pure none := by
    show (pure (builtinOwn "BaseException" "__setattr__") : Sem (Option Value)) = _
    rw [builtinOwn_eq_fast]; kernel_rfl
  have h4 := F.own_object_setattr
  unfold refuseLoop
  simp only [List.forIn_cons, List.forIn_nil]
  simp [h1, h2, h3, h4, isObjects]
theorem no_ino : typeLookup (.type "ValueError") "st_ino" = pure none := by rw [typeLookup_type, builtinLookup_eq_fast]; kernel_rfl
theorem no_dev : typeLookup (.type "ValueError") "st_dev" = pure none := by rw [typeLookup_type, builtinLookup_eq_fast]; kernel_rfl
theorem has_dict : typeHasDict (.type "ValueError") = true := by decide +kernel
theorem not_fin : finalisedInACycleAlone "ValueError" = false := by decide +kernel

section
variable {prog : Program} {w : World} {A : Around} {E : Value → Shared → Prop} {h : Heap} {g : Array GenState} {d : Drawn} {t : Nat} {os : OsState}
  {x : Addr} {o : Obj} {vs : Array Value} {name : Str} {v : Value} {mA : Str → Option Value}

theorem set_entry_new {tk : Tok} {Q : Fin → Shared → Prop} (hx : h.get? x = some o) (hc : o.cls = .type "ValueError") (hdat : o.data = .fields vs) (hd : o.dict = none)
    (hB : typeLookup (.type "ValueError") name = pure none)
    (hq : ∀ h' tk' dx, h.get? dx = none → h'.get? x = some { o with dict := some dx } → h'.Ns1 dx (fun y => if y = name then some v else none) → (∀ b o, b ≠ x → h.get? b = some o → h'.get? b = some o) → Q (.done (.ret .none)) ⟨h', g, d, tk', os⟩) :
    wpAny (model prog w) A (Builtin.«object.__setattr__» ⟨[.ref x, .str name tk, v], []⟩) Q E ⟨h, g, d, t, os⟩ := by
  have hT : ∀ tk', (⟨h, g, d, tk', os⟩ : Shared).TypeIs (.ref x) "ValueError" := fun _ => ⟨_, hx, hc⟩
  have hm := mro_VE
  have hpass := passes (.ref x)
  unfold Builtin.«object.__setattr__»
  repeat (first | rw [refuse_eq] | (rw [hpass]) | exact hT _ | (with_reducible refine wpAny_loadPart_at hx ?_; rw [hc]) | wp_step)
  rw [hd]
  dsimp only
  rw [if_neg (by rw [has_dict]; decide), hdat]
  dsimp only
  have hx₁ : (h.push { cls := .type "dict", data := .dict #[] }).get? x = some o := Heap.get?_push_of_some _ hx
  have hxs : x ≠ h.objs.size := Nat.ne_of_lt (Heap.lt_size hx)
  refine wpAny_bind (wpAny_bind (wpAny_alloc' ?_))
  refine wpAny_pure ?_
  refine wpAny_bind (wpAny_update' hx₁ ?_)
  have hdm : dictMade (.type "ValueError") x h.objs.size = pure (some h.objs.size) := by
    unfold dictMade
    simp only [not_fin]
    rfl
  rw [hdm]
  refine wpAny_pure ?_
  have hgd : ((h.push { cls := .type "dict", data := .dict #[] }).update x fun o => { cls := o.cls, dict := some h.objs.size, data := o.data, slots := o.slots }).get? h.objs.size
      = some { cls := .type "dict", data := .dict #[] } :=
    (Heap.get?_update_ne _ _ _ _ hxs.symm).trans (Heap.get?_push_at rfl rfl)
  have hnd : ((h.push { cls := .type "dict", data := .dict #[] }).update x fun o => { cls := o.cls, dict := some h.objs.size, data := o.data, slots := o.slots }).Ns h.objs.size (fun _ => none) :=
    ⟨_, #[], _, hgd, rfl, fun e he => absurd he (by simp), fun _ => rfl⟩
  show wpAny _ _ (storeInDict h.objs.size (.str name tk) name v) _ _ _
  unfold storeInDict newKeyGuard
  refine wpAny_bind (wpAny_pure (wpAny_bind (wpAny_nsSet1 (Heap.Ns1.of_empty hnd) fun h' hn' hs => ?_)))
  obtain ⟨oD, esD, epD, hoD, hdD, hcD⟩ := hn'.count (Within.cons name v Within.nil)
  refine wpAny_bind (wpAny_lookBehind hoD (by rw [hdD]; exact pastItsLine_dict (Nat.le_trans hcD (by rw [List.length_cons, List.length_nil, sizeLine_eq]; omega))) ?_)
  repeat wp_step
  refine hq h' _ h.objs.size (Heap.get?_none_of_le (Nat.le_refl _)) ?_ hn' fun b ob hbx hb => ?_
  · refine (hs.2 x hxs).trans ((Heap.get?_update_self _ hx₁ ?_))
    have hfr := (Heap.get?_some_iff.mp hx).2
    obtain ⟨oc, od, odt, osl⟩ := o
    cases odt <;> first | rfl | exact hfr
  · exact (hs.2 b (Nat.ne_of_lt (Heap.lt_size hb))).trans ((Heap.get?_update_ne _ _ _ _ hbx).trans (Heap.get?_push_of_some _ hb))

theorem set_entry_old {tk : Tok} {dx : Addr} {ns : List Str} {Q : Fin → Shared → Prop} (hx : h.get? x = some o) (hc : o.cls = .type "ValueError") (hd : o.dict = some dx) (hns : h.Ns1 dx mA) (hw : Within mA ns) (hsz : ns.length ≤ 100)
    (hB : typeLookup (.type "ValueError") name = pure none)
    (hq : ∀ h' tk', h'.Ns1 dx (fun y => if y = name then some v else mA y) → Heap.SameBut dx h h' → Q (.done (.ret .none)) ⟨h', g, d, tk', os⟩) :
    wpAny (model prog w) A (Builtin.«object.__setattr__» ⟨[.ref x, .str name tk, v], []⟩) Q E ⟨h, g, d, t, os⟩ := by
  have hT : ∀ tk', (⟨h, g, d, tk', os⟩ : Shared).TypeIs (.ref x) "ValueError" := fun _ => ⟨_, hx, hc⟩
  have hm := mro_VE
  have hpass := passes (.ref x)
  unfold Builtin.«object.__setattr__»
  repeat (first | rw [refuse_eq] | (rw [hpass]) | exact hT _ | (with_reducible refine wpAny_loadPart_at hx ?_; rw [hc]) | wp_step)
  rw [hd]
  refine wpAny_pure ?_
  show wpAny _ _ (storeInDict dx (.str name tk) name v) _ _ _
  unfold storeInDict newKeyGuard
  refine wpAny_bind (wpAny_pure (wpAny_bind (wpAny_nsSet1 hns fun h' hn' hs => ?_)))
  obtain ⟨oD, esD, epD, hoD, hdD, hcD⟩ := hn'.count (Within.cons name v hw)
  refine wpAny_bind (wpAny_lookBehind hoD (by rw [hdD]; exact pastItsLine_dict (Nat.le_trans hcD (by rw [List.length_cons, sizeLine_eq]; omega))) ?_)
  repeat wp_step
  exact hq h' _ hn' hs

set_option maxHeartbeats 4000000 in
theorem setAttr_of {Q : Unit → Shared → Prop} (hx : h.get? x = some o) (hc : o.cls = .type "ValueError")
    (hq : ∀ tk t', wpAny (model prog w) A.in1 (Builtin.«object.__setattr__» ⟨[.ref x, .str name tk, v], []⟩) (fun f s' => f = .done (.ret .none) ∧ Q () s') E ⟨h, g, d, t', os⟩) :
    wpAny (model prog w) A (setAttr (.ref x) name v) Q E ⟨h, g, d, t, os⟩ := by
  have hT : ∀ tk', (⟨h, g, d, tk', os⟩ : Shared).TypeIs (.ref x) "ValueError" := fun _ => ⟨_, hx, hc⟩
  have f1 := slot_set.lookup
  have f2 := slot_set.bind (.ref x)
  unfold setAttr callSpecial? specialOf
  repeat (first | exact hT _ | ((with_reducible show wpAny _ _ (call (Value.builtin "object.__setattr__") _) _ _ _); refine wpAny_call_entry slot_set (hT _) entry_set (wpAny_mono (hq _ _) (fun f s' hh => ?_) fun _ _ e => e) (args_set _ _ _); obtain ⟨rfl, hQ⟩ := hh; exact ⟨_, rfl, wpAny_pure (wpAny_pure hQ)⟩) | (with_reducible refine wpAny_loadPart_at hx ?_; rw [hc]) | wp_step)

theorem setAttr_new {Q : Unit → Shared → Prop} (hx : h.get? x = some o) (hc : o.cls = .type "ValueError") (hdat : o.data = .fields vs) (hd : o.dict = none) (hB : typeLookup (.type "ValueError") name = pure none)
    (hq : ∀ h' tk' dx, h.get? dx = none → h'.get? x = some { o with dict := some dx } → h'.Ns1 dx (fun y => if y = name then some v else none) → (∀ b o, b ≠ x → h.get? b = some o → h'.get? b = some o) → Q () ⟨h', g, d, tk', os⟩) :
    wpAny (model prog w) A (setAttr (.ref x) name v) Q E ⟨h, g, d, t, os⟩ :=
  setAttr_of hx hc fun _ _ => set_entry_new hx hc hdat hd hB fun h' tk' dx a b c e => ⟨rfl, hq h' tk' dx a b c e⟩
theorem setAttr_old {dx : Addr} {ns : List Str} {Q : Unit → Shared → Prop} (hx : h.get? x = some o) (hc : o.cls = .type "ValueError") (hd : o.dict = some dx) (hns : h.Ns1 dx mA) (hw : Within mA ns) (hsz : ns.length ≤ 100) (hB : typeLookup (.type "ValueError") name = pure none)
    (hq : ∀ h' tk', h'.Ns1 dx (fun y => if y = name then some v else mA y) → Heap.SameBut dx h h' → Q () ⟨h', g, d, tk', os⟩) :
    wpAny (model prog w) A (setAttr (.ref x) name v) Q E ⟨h, g, d, t, os⟩ :=
  setAttr_of hx hc fun _ _ => set_entry_old hx hc hd hns hw hsz hB fun h' tk' a b => ⟨rfl, hq h' tk' a b⟩

theorem get_entry {tk : Tok} {dx : Addr} {Q : Fin → Shared → Prop} (hx : h.get? x = some o) (hc : o.cls = .type "ValueError") (hdat : o.data = .fields vs) (hd : o.dict = some dx) (hns : h.Ns dx mA) (hv : mA name = some v)
    (hB : typeLookup (.type "ValueError") name = pure none) (hq : ∀ t', Q (.done (.ret v)) ⟨h, g, d, t', os⟩) :
    wpAny (model prog w) A (Builtin.«object.__getattribute__» ⟨[.ref x, .str name tk], []⟩) Q E ⟨h, g, d, t, os⟩ := by
  have hT : ∀ tk', (⟨h, g, d, tk', os⟩ : Shared).TypeIs (.ref x) "ValueError" := fun _ => ⟨_, hx, hc⟩
  unfold Builtin.«object.__getattribute__»
  repeat (first | exact hT _ | (with_reducible refine wpAny_loadPart_at hx ?_; rw [hc]) | (with_reducible refine wpAny_load hx ?_) | wp_step)
  rw [hdat]
  dsimp only
  have hn9 : copiedAttributeGuard name (.ref x) = copiedAttributeGuard name (.ref x) := rfl
  repeat (first | exact hT _ | (with_reducible refine wpAny_loadPart_at hx ?_; rw [hc]) | (with_reducible refine wpAny_load hx ?_) | wp_step)
  rw [hd]
  dsimp only
  refine wpAny_pure ?_
  show wpAny _ _ (nsGet dx name) _ _ _
  refine wpAny_nsGet hns ?_
  rw [hv]
  dsimp only
  repeat wp_step
  exact hq _

set_option maxHeartbeats 4000000 in
theorem getAttr_of {dx : Addr} {n : Int} {tn : Tok} {Q : Value → Shared → Prop} (hx : h.get? x = some o) (hc : o.cls = .type "ValueError") (hdat : o.data = .fields vs) (hd : o.dict = some dx) (hns : h.Ns dx mA) (hv : mA name = some (.int n tn))
    (hB : typeLookup (.type "ValueError") name = pure none) (hq : ∀ t', Q (.int n tn) ⟨h, g, d, t', os⟩) :
    wpAny (model prog w) A (getAttr (.ref x) name true) Q E ⟨h, g, d, t, os⟩ := by
  have hT : ∀ tk', (⟨h, g, d, tk', os⟩ : Shared).TypeIs (.ref x) "ValueError" := fun _ => ⟨_, hx, hc⟩
  have f1 := slot_get.lookup
  have f2 := slot_get.bind (.ref x)
  unfold getAttr getAttrBy
  repeat (first | exact hT _ | ((with_reducible show wpAny _ _ (call (Value.builtin "BaseException.__getattribute__") _) _ _ _); refine wpAny_call_entry slot_get (hT _) entry_get (get_entry hx hc hdat hd hns hv hB fun t' => ⟨_, rfl, ?_⟩) (args_get _ _)) | (with_reducible refine wpAny_loadPart_at hx ?_; rw [hc]) | wp_step)
  first | exact hq _ | (repeat wp_step; exact hq _)
end

section
variable {prog : Program} {w : World} {A : Around} {E : Value → Shared → Prop} {s : Shared}
/-- a new ValueError, which has no dict yet -/
theorem call_VE {Q : Value → Shared → Prop} (h : ∀ h' e o vs, s.heap.get? e = none → h'.get? e = some o → o.cls = .type "ValueError" → o.data = .fields vs → o.dict = none → (∀ b o, s.heap.get? b = some o → h'.get? b = some o) → Q (.ref e) { s with heap := h' }) :
    wpAny (model prog w) A (call (.type "ValueError") []) Q E s := by
  have hc := excClass_ValueError
  refine wpAny_call (codeAny_of_tree ?_)
  show wpAny _ _ (callAny (.type "ValueError") ⟨[], []⟩) _ _ s
  simp only [callAny]
  refine wpAny_pure ⟨Code.quiet_builtin _ (by decide +kernel), codeAny_builtin PySem.F.entry_type_call ?_⟩
  rw [Around.under_plain (weight_type_call "ValueError" _ _) (by first | rfl | kernel_rfl | decide +kernel)]
  unfold Builtin.«type.__call__»
  dsimp only
  rw [if_neg (by rw [hc.notType]; exact Bool.false_ne_true), if_neg (by rw [hc.canNew]; exact Bool.false_ne_true)]
  obtain ⟨l, hl, hle⟩ := hc.mro
  refine wpAny_bind (wpAny_of_eq (hc.typeCall []) (wpAny_bind (wpAny_of_eq hl ?_)))
  rw [if_neg (by rw [hle]; exact Bool.false_ne_true)]
  refine wpAny_bind (wpAny_of_eq hc.madeBy ?_)
  dsimp only
  have z : ([] : List Value).length ≤ sizeLine := Nat.zero_le _
  refine wpAny_bind (wpAny_pure (wpAny_bind (wpAny_holding (new_exc hc ?_ z))))
  refine wpAny_bind (wpAny_isInstance (T := "ValueError") ⟨_, Heap.get?_push_size _ rfl, rfl⟩ hc.self ?_)
  simp only [Bool.not_true, Bool.false_eq_true, if_false]
  refine wpAny_bind (wpAny_holding (wpAny_callSpecial?_slot (name := Str.ofString "__init__") (T := "ValueError") ⟨_, Heap.get?_push_size _ rfl, rfl⟩ hc.init
    (init_exc hc (Heap.get?_push_size _ rfl) rfl rfl rfl ?_ z)))
  dsimp only
  rw [if_neg (by simp)]
  refine wpAny_pure (h _ _ _ _ (Heap.get?_none_of_le (by simp)) (Heap.get?_update_self _ (Heap.get?_push_of_some _ (Heap.get?_push_size _ rfl)) (Obj.isFreed_of_fields (Obj.data_mapFields rfl _))) (Obj.cls_mapFields _ _) (by rw [Obj.data_mapFields rfl]) rfl fun b o hb => ?_)
  rw [Heap.get?_update_other _ _ (Nat.ne_of_gt (Nat.lt_of_lt_of_le (Heap.lt_size hb) (by simp)))]
  exact Heap.get?_push_of_some _ (Heap.get?_push_of_some _ (Heap.get?_push_of_some _ hb))
end
end Mine.Bf

end

section
open PySem PySem.W PyProof.Rows PySem.Calls PyProof.Rows.LCg
set_option maxRecDepth 100000
namespace Mine
theorem calm_bu : True := by
  w_top off
  trivial
local macro_rules | `(tactic| walk_at "mine.room") => `(tactic| first
  | omega
  | ((try simp only [depth_under_make, depth_under_kw, depth_in1, depth_deeper, depth_caller]); (try dsimp only [ktrTop]); omega)
  | ((have hcL9 := cLine_is); (try simp only [units_in1, units_deeper, Around.mark_units, units_caller] at *); (try dsimp only [ktrTop] at *); omega))
local macro_rules | `(tactic| k_all) => `(tactic| first | assumption | exact AllNe.mem (by assumption))

/-- the object is a dict of texts -/
def NsObj1 (od : Obj) (m : Str → Option Value) : Prop := ∃ es ep, od.data = .dict es ep ∧ StrKeys es ∧ UniqKeys es ∧ ∀ name, nsFind es name = m name
theorem ns1_obj {h : Heap} {a : Addr} {m : Str → Option Value} (x : h.Ns1 a m) : ∃ o, h.get? a = some o ∧ NsObj1 o m := let ⟨o, es, ep, e, r⟩ := x; ⟨o, e, es, ep, r⟩
theorem NsObj1.ns1 {h : Heap} {a : Addr} {o : Obj} {m : Str → Option Value} (x : NsObj1 o m) (e : h.get? a = some o) : h.Ns1 a m := let ⟨es, ep, r⟩ := x; ⟨o, es, ep, e, r⟩
/-- a buffer: the exception and its dict -/
def BufO (o od : Obj) (d : Addr) (k : Nat) : Prop :=
  o.cls = .type "ValueError" ∧ (∃ vs, o.data = .fields vs) ∧ o.dict = some d ∧ ∃ m t1 t2, NsObj1 od m ∧ m (Str.ofString "st_ino") = some (.int (10 ^ Int.toNat 9 * (Int.fdiv (k : Int) 2 + 1)) t1) ∧ m (Str.ofString "st_dev") = some (.int (10 ^ Int.toNat 9 * (Int.fmod (k : Int) 2 + 1)) t2)
section
variable {prog : Program} {w : World} {A : Around} {E : Value → Shared → Prop} {s : Shared} {h₀ : Heap} {L : Addr} {m : Str → Option Value}
theorem veF {Q : Value → Shared → Prop} (F : Fr h₀ L s.heap m) (h : ∀ h' e o vs, Fr h₀ L h' m → News h₀ L h' [(e, o)] → o.cls = .type "ValueError" → o.data = .fields vs → o.dict = none → Q (.ref e) { s with heap := h' }) :
    wpAny (model prog w) A (call (.type "ValueError") []) Q E s := by
  refine Bf.call_VE fun h' e o vs he ho hc hd hn k => ?_
  have k' : s.heap.StaysIn h' := fun b o e => k b o e
  refine h h' e o vs (fr_stays F k') (fun p hp => ?_) hc hd hn
  rw [List.mem_singleton.mp hp]
  refine ⟨ho, fun q => ?_, ?_⟩
  · obtain ⟨oL, _, _, qL, _⟩ := F.ns
    have q' : e = L := q
    rw [q', qL] at he; cases he
  · cases q : h₀.get? e with
    | none => rfl
    | some o' => rw [F.keep _ _ q] at he; cases he
theorem setNewF {e : Addr} {o : Obj} {vs : Array Value} {name : Str} {v : Value} {Q : Unit → Shared → Prop} (F : Fr h₀ L s.heap m) (N : News h₀ L s.heap [(e, o)]) (hc : o.cls = .type "ValueError") (hdat : o.data = .fields vs) (hn : o.dict = none) (hB : typeLookup (.type "ValueError") name = pure none)
    (h : ∀ h' tk' d o' od, Fr h₀ L h' m → News h₀ L h' [(d, od), (e, o')] → o'.cls = .type "ValueError" → o'.data = .fields vs → o'.dict = some d → e ≠ d → NsObj1 od (fun y => if y = name then some v else none) → Q () { s with heap := h', toks := tk' }) :
    wpAny (model prog w) A (setAttr (.ref e) name v) Q E s := by
  have he := (N _ (.head _)).1
  refine Bf.setAttr_new he hc hdat hn hB fun h' tk' d hd ho' hns k => ?_
  obtain ⟨od, hod, hN⟩ := ns1_obj hns
  have hde : e ≠ d := fun q => by rw [q, hd] at he; cases he
  have hdL : d ≠ L := fun q => by
    obtain ⟨oL, _, _, qL, _⟩ := F.ns
    rw [q, qL] at hd; cases hd
  have hd0 : h₀.get? d = none := by
    cases q : h₀.get? d with
    | none => rfl
    | some o' => rw [F.keep _ _ q] at hd; cases hd
  refine h h' tk' d { o with dict := some d } od ⟨F.ns.at' fun o q => k _ o (fun z => (N _ (.head _)).2.1 z.symm) q, fun b o q => k b o (fun z => ?_) (F.keep b o q), F.above⟩ (fun p hp => ?_) hc hdat rfl hde hN
  · rw [z, (N _ (.head _)).2.2] at q; cases q
  · rcases List.mem_cons.mp hp with rfl | hp
    · exact ⟨hod, hdL, hd0⟩
    · rw [List.mem_singleton.mp hp]
      exact ⟨ho', (N _ (.head _)).2⟩
theorem setOldF {e d : Addr} {o od : Obj} {name : Str} {v : Value} {mA : Str → Option Value} {ns : List Str} {Q : Unit → Shared → Prop} (F : Fr h₀ L s.heap m) (N : News h₀ L s.heap [(d, od), (e, o)]) (hc : o.cls = .type "ValueError") (hn : o.dict = some d) (hde : e ≠ d) (hN : NsObj1 od mA) (hw : Within mA ns) (hsz : ns.length ≤ 100)
    (hB : typeLookup (.type "ValueError") name = pure none)
    (h : ∀ h' tk' od', Fr h₀ L h' m → News h₀ L h' [(d, od'), (e, o)] → NsObj1 od' (fun y => if y = name then some v else mA y) → Q () { s with heap := h', toks := tk' }) :
    wpAny (model prog w) A (setAttr (.ref e) name v) Q E s := by
  have hd := N _ (.head _)
  have he := N _ (.tail _ (.head _))
  refine Bf.setAttr_old he.1 hc hn (hN.ns1 hd.1) hw hsz hB fun h' tk' hns hs => ?_
  obtain ⟨od', hod, hN'⟩ := ns1_obj hns
  refine h h' tk' od' (F.change hs hd.2.1 hd.2.2) (fun p hp => ?_) hN'
  rcases List.mem_cons.mp hp with rfl | hp
  · exact ⟨hod, hd.2⟩
  · rw [List.mem_singleton.mp hp]
    exact ⟨(hs.2 e hde).trans he.1, he.2⟩
end
local macro_rules | `(tactic| walk_at "call type:ValueError") => `(tactic| (k_here; refine veF (by k_asm) ?_; intro h' e' o' vs' F' N' c' d' n'))
local macro_rules | `(tactic| walk_at "call type:ValueError nil nil") => `(tactic| (k_here; refine veF (by k_asm) ?_; intro h' e' o' vs' F' N' c' d' n'))
local macro_rules | `(tactic| walk_at "setAttr ref") => `(tactic| (k_here; first
  | (refine setNewF (by k_asm) (by k_asm) (by assumption) (by assumption) (by assumption) Bf.no_ino ?_; intro h' tk' d' o' od' F' N' c' d' n' ne' ns')
  | (refine setOldF (by k_asm) (by k_asm) (by assumption) (by assumption) (by assumption) (by assumption) (Within.cons _ _ Within.nil) (by decide) Bf.no_dev ?_; intro h' tk' od' F' N' ns')))
theorem buf_keys {od : Obj} {a b : Int} {t1 t2 : Tok} (h : NsObj1 od (fun y => if y = Str.ofString "st_dev" then some (.int b t2) else (if y = Str.ofString "st_ino" then some (.int a t1) else none))) :
    ∃ m t1 t2, NsObj1 od m ∧ m (Str.ofString "st_ino") = some (.int a t1) ∧ m (Str.ofString "st_dev") = some (.int b t2) :=
  ⟨_, _, _, h, by rw [if_neg (by decide), if_pos rfl], by rw [if_pos rfl]⟩
/-- a buffer that a call has made -/
def NewBuf (k : Nat) (g h' : Heap) (v : Value) : Prop := ∃ b d o od, v = .ref b ∧ b ≠ d ∧ g.get? b = none ∧ g.get? d = none ∧ h'.get? b = some o ∧ h'.get? d = some od ∧ BufO o od d k

set_option maxHeartbeats 4000000 in
theorem buffer_at (w : World) (k : Nat) (t : Tok) (hk5 : k ≤ 10) :
    Calls 20 w 168 [.int (k : Int) t] (fun _ => True) (NewBuf k) := by
  unfold Calls
  k_fill
  intro p loose mean mg mb dp un gd cn cs a ccd cl outer A₀ base h₀ L m s Q B F X T hk hd hu hP hret
  refine wpAny_call ?_
  k_dflt (refine' enterP ?k1 ?k2 ?k3 ?k5 ?kA ?kF ?kK ?k6 ?k7 ?k8 ?k9 ?kB ?_ ?c2 ?c3 ?c4 ?c5; (case kA => exact rfl); (case kF => exact rfl); (case kK => assumption); (case k1 => exact B); (case k2 => exact F); (case k3 => exact X); (case k5 => exact T); (case k6 => k_is); (case k7 => k_is); (case k8 => ktr_room); (case k9 => exact BindsTo.of_eq rfl); (case c5 => decide); (case kB => exact locs rfl); (case c2 => exact rfl); (case c3 => exact rfl); (case c4 => exact rfl); k_whole)
  intro g L₁ h₁ eg F₁ N₁ B₁ X₁ T₁
  (try rw [← eg] at hP)
  clear F X T B
  (try dsimp only)
  k_fold
  k_steps
  with_reducible rename News _ _ _ _ => N9
  with_reducible rename Fr _ _ _ _ => F9
  rename NsObj1 _ _ => ns9
  rename Obj.dict _ = some _ => hd9
  rename Obj.data _ = .fields _ => hf9
  rename Obj.cls _ = .type "ValueError" => hc9
  refine hret _ _ _ (by rw [← eg]; exact Fr.keep F9) ?_
  have e1 := N9 _ (.head _)
  have e2 := N9 _ (.tail _ (.head _))
  refine ⟨_, _, _, _, rfl, by assumption, by rw [← eg]; exact e2.2.2, by rw [← eg]; exact e1.2.2, e2.1, e1.1, hc9, ⟨_, hf9⟩, hd9, buf_keys ns9⟩

/-- a buffer of the heap -/
def IsBuf (h : Heap) (b : Addr) (k : Nat) : Prop := ∃ d o od, h.get? b = some o ∧ h.get? d = some od ∧ BufO o od d k
section
variable {prog : Program} {w : World} {A : Around} {E : Value → Shared → Prop} {s : Shared} {h₀ : Heap} {L : Addr} {m : Str → Option Value}
theorem getInoF {b : Addr} {k : Nat} {Q : Value → Shared → Prop} (F : Fr h₀ L s.heap m) (B : IsBuf h₀ b k) (h : ∀ t tk', Q (.int (10 ^ Int.toNat 9 * (Int.fdiv (k : Int) 2 + 1)) t) { s with toks := tk' }) :
    wpAny (model prog w) A (getAttr (.ref b) (Str.ofString "st_ino") true) Q E s := by
  obtain ⟨d, o, od, ho, hod, hc, ⟨vs, hv⟩, hd, m9, t1, t2, hN, h1, h2⟩ := B
  exact Bf.getAttr_of (F.keep _ _ ho) hc hv hd (hN.ns1 (F.keep _ _ hod)).ns h1 Bf.no_ino fun t' => h _ t'
theorem getDevF {b : Addr} {k : Nat} {Q : Value → Shared → Prop} (F : Fr h₀ L s.heap m) (B : IsBuf h₀ b k) (h : ∀ t tk', Q (.int (10 ^ Int.toNat 9 * (Int.fmod (k : Int) 2 + 1)) t) { s with toks := tk' }) :
    wpAny (model prog w) A (getAttr (.ref b) (Str.ofString "st_dev") true) Q E s := by
  obtain ⟨d, o, od, ho, hod, hc, ⟨vs, hv⟩, hd, m9, t1, t2, hN, h1, h2⟩ := B
  exact Bf.getAttr_of (F.keep _ _ ho) hc hv hd (hN.ns1 (F.keep _ _ hod)).ns h2 Bf.no_dev fun t' => h _ t'
end
local macro_rules | `(tactic| walk_at "getAttr ref") => `(tactic| (k_here; first
  | (refine getInoF (by k_asm) (by assumption) ?_; intro t' tk')
  | (refine getDevF (by k_asm) (by assumption) ?_; intro t' tk')))
theorem same_key (k j : Nat) : ((10 : Int) ^ Int.toNat 9 * (Int.fdiv (k : Int) 2 + 1) = 10 ^ Int.toNat 9 * (Int.fdiv (j : Int) 2 + 1) ∧ (10 : Int) ^ Int.toNat 9 * (Int.fmod (k : Int) 2 + 1) = 10 ^ Int.toNat 9 * (Int.fmod (j : Int) 2 + 1)) ↔ k = j := by
  have e : (10 : Int) ^ Int.toNat 9 = 1000000000 := by decide
  rw [e, Int.fdiv_eq_ediv_of_nonneg _ (by decide), Int.fdiv_eq_ediv_of_nonneg _ (by decide), Int.fmod_eq_emod_of_nonneg _ (by decide), Int.fmod_eq_emod_of_nonneg _ (by decide)]
  omega
set_option maxHeartbeats 4000000 in
theorem samestat_at (w : World) (b₁ b₂ : Addr) (k₁ k₂ : Nat) :
    Calls 20 w 101 [.ref b₁, .ref b₂] (fun g => IsBuf g b₁ k₁ ∧ IsBuf g b₂ k₂) (fun _ _ v => v = .bool (decide (k₁ = k₂))) := by
  unfold Calls
  k_fill
  intro p loose mean mg mb dp un gd cn cs a ccd cl outer A₀ base h₀ L m s Q B F X T hk hd hu hP hret
  refine wpAny_call ?_
  k_dflt (refine' enterP ?k1 ?k2 ?k3 ?k5 ?kA ?kF ?kK ?k6 ?k7 ?k8 ?k9 ?kB ?_ ?c2 ?c3 ?c4 ?c5; (case kA => exact rfl); (case kF => exact rfl); (case kK => assumption); (case k1 => exact B); (case k2 => exact F); (case k3 => exact X); (case k5 => exact T); (case k6 => k_is); (case k7 => k_is); (case k8 => ktr_room); (case k9 => exact BindsTo.of_eq rfl); (case c5 => decide); (case kB => exact locs rfl); (case c2 => exact rfl); (case c3 => exact rfl); (case c4 => exact rfl); k_whole)
  intro g L₁ h₁ eg F₁ N₁ B₁ X₁ T₁
  (try rw [← eg] at hP)
  clear F X T B
  (try dsimp only)
  k_fold
  obtain ⟨hP₁, hP₂⟩ := hP
  k_steps
  · rename (_ : Int) = _ => hb9
    refine hret _ _ _ (by rw [← eg]; exact Fr.keep (by k_asm)) ?_
    show Value.bool _ = _
    congr 1
    have q := same_key k₁ k₂
    rw [hb9] at q
    simp only [true_and] at q
    rw [Bool.eq_iff_iff, beq_iff_eq, decide_eq_true_iff]
    exact q
  · rename ¬ (_ : Int) = _ => hb9
    refine hret _ _ _ (by rw [← eg]; exact Fr.keep (by k_asm)) ?_
    show Value.bool _ = _
    congr 1
    have q := same_key k₁ k₂
    have e1 : decide (k₁ = k₂) = false := decide_eq_false fun e => hb9 (q.mpr e).1
    rw [e1]
    exact beq_false_of_ne hb9
end Mine

end

section
open PySem PySem.W PyProof.Rows PySem.Calls
namespace Mine
theorem calm_mc : True := by
  w_top off
  trivial

/-- one line of work: the names of a way, and the nodes on it -/
abbrev Row := List Str × List Nat
structure St where
  work : List Row
  seen : List Nat
  listed : List (List Str)
  loops : List (List Str)
/-- one edge out of the last node of a line -/
def edge (all : Bool) (row : Row) (st : St) (e : Str × Nat) : St :=
  if e.2 ∈ (if all then st.seen else row.2) then { st with loops := st.loops ++ [row.1 ++ [e.1]] }
  else { st with work := (row.1 ++ [e.1], row.2 ++ [e.2]) :: st.work, seen := st.seen ++ [e.2] }
def outs (ws : Wld) (row : Row) : List (Str × Nat) := ws.getD (row.2.getLastD 0) []
/-- one turn: the top line leaves, its edges are looked at in order -/
def turn (ws : Wld) (all : Bool) (st : St) : St :=
  match st.work with
  | [] => st
  | row :: r => (outs ws row).foldl (edge all row) { st with work := r, listed := st.listed ++ [row.1] }
def run (ws : Wld) (all : Bool) : Nat → St → St
  | 0, st => st
  | n + 1, st => run ws all n (turn ws all st)
def st0 : St := ⟨[([], [0])], [0], [], []⟩
/-- what the walk ends with -/
def fin (ws : Wld) (all : Bool) : St := run ws all 31 st0

/-- the weight of one line: how many turns it can still cost -/
def wt1 (n : Nat) (row : Row) : Nat := 2 ^ (n + 1 - row.2.length) - 1
def wt (n : Nat) (l : List Row) : Nat := (l.map (wt1 n)).sum
def NameOk (x : Str) : Prop := x = Str.ofString "a" ∨ x = Str.ofString "ab" ∨ x = Str.ofString "b" ∨ x = Str.ofString ".b"
/-- the two names of one folder differ, and every name is one of the four -/
def WldNm (ws : Wld) : Prop := ∀ es ∈ ws, (es.map (·.1)).Nodup ∧ ∀ e ∈ es, NameOk e.1
structure RowOk (ws : Wld) (row : Row) : Prop where
  ne : row.2 ≠ []
  nd : row.2.Nodup
  lt : ∀ k ∈ row.2, k < ws.length
  len : row.1.length + 1 = row.2.length
  nm : ∀ x ∈ row.1, NameOk x
  way : nodeP ws 0 row.1 = some (row.2.getLastD 0)
structure StOk (ws : Wld) (st : St) : Prop where
  rows : ∀ row ∈ st.work, RowOk ws row
  sub : ∀ row ∈ st.work, ∀ k ∈ row.2, k ∈ st.seen
  seen : ∀ k ∈ st.seen, k < ws.length
  few : st.listed.length + wt ws.length st.work ≤ 31

theorem nodup_len : ∀ (n : Nat) (l : List Nat), l.Nodup → (∀ k ∈ l, k < n) → l.length ≤ n
  | 0, l, _, h => by
    cases l with
    | nil => exact Nat.le_refl _
    | cons a l => exact absurd (h a (.head _)) (Nat.not_lt_zero _)
  | n + 1, l, hn, h => by
    have h1 := nodup_len n (l.filter (· != n)) (hn.filter _) fun k hk => by
      have q := List.mem_filter.mp hk
      have a := h k q.1
      have b : k ≠ n := by simpa using q.2
      omega
    have h2 : l.length ≤ (l.filter (· != n)).length + 1 := by
      clear h h1
      induction l with
      | nil => simp
      | cons a l ih =>
        rw [List.nodup_cons] at hn
        by_cases e : a = n
        · subst e
          have : (a :: l).filter (· != a) = l.filter (· != a) := by simp
          rw [this]
          have z : l.filter (· != a) = l := List.filter_eq_self.mpr fun b hb => by
            have : b ≠ a := fun q => hn.1 (q ▸ hb)
            simpa using this
          rw [z]; simp
        · have : (a :: l).filter (· != n) = a :: l.filter (· != n) := by simp [e]
          rw [this]
          have := ih hn.2
          simp only [List.length_cons]
          omega
    omega

theorem wt_cons (n : Nat) (row : Row) (l : List Row) : wt n (row :: l) = wt1 n row + wt n l := by simp [wt]

theorem getLastD_snoc {α : Type} (l : List α) (a d : α) : (l ++ [a]).getLastD d = a := by simp

/-- an edge keeps the lines well-formed; a line that is pushed costs at most half -/
theorem edge_ok {ws : Wld} (hw : WldOk ws) (hm : WldNm ws) {all : Bool} {row : Row} (hr : RowOk ws row) {st : St} {e : Str × Nat} (he : e ∈ outs ws row)
    (h1 : ∀ r ∈ st.work, RowOk ws r) (h2 : ∀ r ∈ st.work, ∀ k ∈ r.2, k ∈ st.seen) (h3 : ∀ k ∈ st.seen, k < ws.length) (h4 : ∀ k ∈ row.2, k ∈ st.seen) (hu : (outs ws row).find? (·.1 == e.1) = some e) :
    (∀ r ∈ (edge all row st e).work, RowOk ws r) ∧ (∀ r ∈ (edge all row st e).work, ∀ k ∈ r.2, k ∈ (edge all row st e).seen) ∧ (∀ k ∈ (edge all row st e).seen, k < ws.length) ∧ (∀ k ∈ row.2, k ∈ (edge all row st e).seen) ∧
      (edge all row st e).listed = st.listed ∧ wt ws.length (edge all row st e).work ≤ wt ws.length st.work + (2 ^ (ws.length - row.2.length) - 1) := by
  have hlast : row.2.getLastD 0 ∈ row.2 := by
    have := hr.ne
    cases h : row.2 with
    | nil => exact absurd h this
    | cons a l => rw [List.getLastD_cons]; exact List.getLastD_mem_cons
  have hlt := hr.lt _ hlast
  have hes : outs ws row ∈ ws := by
    unfold outs
    rw [List.getD_eq_getElem?_getD, List.getElem?_eq_getElem hlt]
    exact List.getElem_mem hlt
  have het := (hw.2.2 _ hes).2 e he
  have hnm := (hm _ hes).2 e he
  by_cases hin : e.2 ∈ (if all then st.seen else row.2)
  · have e0 : edge all row st e = { st with loops := st.loops ++ [row.1 ++ [e.1]] } := if_pos hin
    rw [e0]
    exact ⟨h1, h2, h3, h4, rfl, Nat.le_add_right _ _⟩
  · have e0 : edge all row st e = { st with work := (row.1 ++ [e.1], row.2 ++ [e.2]) :: st.work, seen := st.seen ++ [e.2] } := if_neg hin
    rw [e0]
    have hnot : e.2 ∉ row.2 := fun q => hin (by cases all with | true => exact h4 _ q | false => exact q)
    refine ⟨?_, ?_, ?_, ?_, rfl, ?_⟩
    · intro r hr'
      rcases List.mem_cons.mp hr' with rfl | hr'
      · refine ⟨by simp, ?_, ?_, ?_, ?_, ?_⟩
        · rw [List.nodup_append]
          refine ⟨hr.nd, by simp, fun a ha b hb => ?_⟩
          rw [List.mem_singleton] at hb
          subst hb
          exact fun q => hnot (q ▸ ha)
        · intro k hk
          rcases List.mem_append.mp hk with hk | hk
          · exact hr.lt k hk
          · rw [List.mem_singleton.mp hk]; exact het
        · simp only [List.length_append, List.length_singleton]; rw [hr.len]
        · intro x hx
          rcases List.mem_append.mp hx with hx | hx
          · exact hr.nm x hx
          · rw [List.mem_singleton.mp hx]; exact hnm
        · rw [nodeP_append, hr.way, getLastD_snoc]
          show nodeP ws _ [e.1] = _
          simp only [nodeP]
          show (match (outs ws row).find? (·.1 == e.1) with | none => none | some p => some p.2) = _
          rw [hu]
      · exact h1 r hr'
    · intro r hr' k hk
      rcases List.mem_cons.mp hr' with rfl | hr'
      · rcases List.mem_append.mp hk with hk | hk
        · exact List.mem_append_left _ (h4 k hk)
        · exact List.mem_append_right _ hk
      · exact List.mem_append_left _ (h2 r hr' k hk)
    · intro k hk
      rcases List.mem_append.mp hk with hk | hk
      · exact h3 k hk
      · rw [List.mem_singleton.mp hk]; exact het
    · exact fun k hk => List.mem_append_left _ (h4 k hk)
    · rw [wt_cons]
      have : wt1 ws.length (row.1 ++ [e.1], row.2 ++ [e.2]) = 2 ^ (ws.length - row.2.length) - 1 := by
        unfold wt1
        simp only [List.length_append, List.length_singleton]
        rw [Nat.add_sub_add_right]
      rw [this]; omega

theorem find_self : ∀ {es : List (Str × Nat)}, (es.map (·.1)).Nodup → ∀ {e : Str × Nat}, e ∈ es → es.find? (·.1 == e.1) = some e
  | p :: es, hn, e, he => by
    simp only [List.map_cons, List.nodup_cons] at hn
    rcases List.mem_cons.mp he with rfl | he
    · simp
    · have : p.1 ≠ e.1 := fun q => hn.1 (q ▸ List.mem_map_of_mem (f := (·.1)) he)
      rw [List.find?_cons_of_neg (by simpa using this)]
      exact find_self hn.2 he

theorem fold_ok {ws : Wld} (hw : WldOk ws) (hm : WldNm ws) {all : Bool} {row : Row} (hr : RowOk ws row) (hfd : ∀ e ∈ outs ws row, (outs ws row).find? (·.1 == e.1) = some e) : ∀ (es : List (Str × Nat)) (st : St), (∀ e ∈ es, e ∈ outs ws row) →
    (∀ r ∈ st.work, RowOk ws r) → (∀ r ∈ st.work, ∀ k ∈ r.2, k ∈ st.seen) → (∀ k ∈ st.seen, k < ws.length) → (∀ k ∈ row.2, k ∈ st.seen) →
    (∀ r ∈ (es.foldl (edge all row) st).work, RowOk ws r) ∧ (∀ r ∈ (es.foldl (edge all row) st).work, ∀ k ∈ r.2, k ∈ (es.foldl (edge all row) st).seen) ∧ (∀ k ∈ (es.foldl (edge all row) st).seen, k < ws.length) ∧
      (es.foldl (edge all row) st).listed = st.listed ∧ wt ws.length (es.foldl (edge all row) st).work ≤ wt ws.length st.work + es.length * (2 ^ (ws.length - row.2.length) - 1)
  | [], st, _, h1, h2, h3, _ => ⟨h1, h2, h3, rfl, by simp⟩
  | e :: es, st, he, h1, h2, h3, h4 => by
    obtain ⟨g1, g2, g3, g4, g5, g6⟩ := edge_ok hw hm (all := all) hr (he e (.head _)) h1 h2 h3 h4 (hfd e (he e (.head _)))
    obtain ⟨f1, f2, f3, f5, f6⟩ := fold_ok hw hm hr hfd es (edge all row st e) (fun x hx => he x (.tail _ hx)) g1 g2 g3 g4
    refine ⟨f1, f2, f3, f5.trans g5, Nat.le_trans f6 ?_⟩
    rw [List.length_cons, Nat.succ_mul]
    omega

theorem RowOk.last {ws : Wld} {row : Row} (hr : RowOk ws row) : row.2.getLastD 0 ∈ row.2 ∧ row.2.getLastD 0 < ws.length := by
  have h : row.2.getLastD 0 ∈ row.2 := by
    have := hr.ne
    cases h : row.2 with
    | nil => exact absurd h this
    | cons a l => rw [List.getLastD_cons]; exact List.getLastD_mem_cons
  exact ⟨h, hr.lt _ h⟩
theorem outs_mem {ws : Wld} {row : Row} (hr : RowOk ws row) : ws[row.2.getLastD 0]? = some (outs ws row) ∧ outs ws row ∈ ws := by
  have hlt := hr.last.2
  have e : ws[row.2.getLastD 0]? = some (outs ws row) := by
    unfold outs
    rw [List.getD_eq_getElem?_getD, List.getElem?_eq_getElem hlt]
    rfl
  exact ⟨e, List.mem_of_getElem? e⟩
theorem RowOk.deep {ws : Wld} {row : Row} (hr : RowOk ws row) : 1 ≤ row.2.length ∧ row.2.length ≤ ws.length := by
  refine ⟨?_, nodup_len _ _ hr.nd hr.lt⟩
  have := hr.len
  omega

/-- a turn keeps the state well-formed, and the weight falls -/
theorem turn_ok {ws : Wld} (hw : WldOk ws) (hm : WldNm ws) {all : Bool} {st : St} (h : StOk ws st) {row : Row} {r : List Row} (e : st.work = row :: r) :
    StOk ws (turn ws all st) ∧ wt ws.length (turn ws all st).work < wt ws.length st.work ∧ (turn ws all st).listed = st.listed ++ [row.1] := by
  have hr := h.rows row (by rw [e]; exact .head _)
  have hes := outs_mem hr
  have hfd : ∀ e ∈ outs ws row, (outs ws row).find? (·.1 == e.1) = some e := fun e he => find_self (hm _ hes.2).1 he
  have et : turn ws all st = (outs ws row).foldl (edge all row) { st with work := r, listed := st.listed ++ [row.1] } := by
    unfold turn; rw [e]
  obtain ⟨f1, f2, f3, f5, f6⟩ := fold_ok hw hm (all := all) hr hfd (outs ws row) { st with work := r, listed := st.listed ++ [row.1] } (fun _ h => h) (fun x hx => h.rows x (by rw [e]; exact .tail _ hx)) (fun x hx => h.sub x (by rw [e]; exact .tail _ hx)) h.seen
    (h.sub row (by rw [e]; exact .head _))
  have h2 := (hw.2.2 _ hes.2).1
  have hd := hr.deep
  have hpow : 2 ^ (ws.length + 1 - row.2.length) = 2 * 2 ^ (ws.length - row.2.length) := by
    rw [show ws.length + 1 - row.2.length = (ws.length - row.2.length) + 1 by omega, Nat.pow_succ, Nat.mul_comm]
  have hpos : 1 ≤ 2 ^ (ws.length - row.2.length) := Nat.one_le_two_pow
  have hwt : wt ws.length st.work = (2 ^ (ws.length + 1 - row.2.length) - 1) + wt ws.length r := by rw [e, wt_cons]; rfl
  have hmul : (outs ws row).length * (2 ^ (ws.length - row.2.length) - 1) ≤ 2 * (2 ^ (ws.length - row.2.length) - 1) := Nat.mul_le_mul_right _ h2
  have hlt : wt ws.length (turn ws all st).work < wt ws.length st.work := by
    rw [et, hwt, hpow]
    have f6' : wt ws.length ((outs ws row).foldl (edge all row) { st with work := r, listed := st.listed ++ [row.1] }).work ≤ wt ws.length r + (outs ws row).length * (2 ^ (ws.length - row.2.length) - 1) := f6
    omega
  have hl : (turn ws all st).listed = st.listed ++ [row.1] := by rw [et]; exact f5
  refine ⟨⟨by rw [et]; exact f1, by rw [et]; exact f2, by rw [et]; exact f3, ?_⟩, hlt, hl⟩
  rw [hl, List.length_append, List.length_singleton]
  have := h.few
  omega

theorem st0_ok {ws : Wld} (hw : WldOk ws) : StOk ws st0 := by
  refine ⟨fun row hr => ?_, fun row hr k hk => ?_, fun k hk => ?_, ?_⟩
  · rw [show st0.work = [(([], [0]) : Row)] from rfl] at hr
    rw [List.mem_singleton.mp hr]
    refine ⟨by simp, by simp, fun k hk => ?_, rfl, fun x hx => by simp at hx, rfl⟩
    rw [List.mem_singleton.mp hk]; exact hw.1
  · rw [show st0.work = [(([], [0]) : Row)] from rfl] at hr
    rw [List.mem_singleton.mp hr] at hk
    exact hk
  · rw [show st0.seen = [0] from rfl] at hk
    rw [List.mem_singleton.mp hk]; exact hw.1
  · have : st0.listed.length + wt ws.length st0.work = 2 ^ ws.length - 1 := by
      show 0 + (2 ^ (ws.length + 1 - 1) - 1 + 0) = _
      rw [Nat.add_sub_cancel]; omega
    rw [this]
    have h5 := hw.2.1
    have : 2 ^ ws.length ≤ 2 ^ 5 := Nat.pow_le_pow_right (by decide) h5
    omega

theorem wt_pos {ws : Wld} {row : Row} {r : List Row} (hr : RowOk ws row) : 0 < wt ws.length (row :: r) := by
  rw [wt_cons]
  have hd := hr.deep
  have : 2 ^ 1 ≤ 2 ^ (ws.length + 1 - row.2.length) := Nat.pow_le_pow_right (by decide) (by omega)
  unfold wt1
  omega
/-- enough turns end the work, and more change nothing -/
theorem run_done (ws : Wld) (all : Bool) : ∀ (k : Nat) (st : St), st.work = [] → run ws all k st = st
  | 0, _, _ => rfl
  | k + 1, st, h => by
    have : turn ws all st = st := by unfold turn; rw [h]
    show run ws all k (turn ws all st) = st
    rw [this]
    exact run_done ws all k st h
theorem run_turn {ws : Wld} (hw : WldOk ws) (hm : WldNm ws) {all : Bool} : ∀ (k : Nat) (st : St), StOk ws st → wt ws.length st.work ≤ k → run ws all k (turn ws all st) = run ws all k st ∧ (run ws all k st).work = [] ∧ StOk ws (run ws all k st)
  | 0, st, h, hk => by
    cases e : st.work with
    | nil => exact ⟨by show turn ws all st = st; unfold turn; rw [e], e, h⟩
    | cons row r =>
      have := wt_pos (r := r) (h.rows row (by rw [e]; exact .head _))
      rw [e] at hk; omega
  | k + 1, st, h, hk => by
    cases e : st.work with
    | nil =>
      rw [run_done ws all _ st e]
      have : turn ws all st = st := by unfold turn; rw [e]
      rw [this, run_done ws all _ st e]
      exact ⟨rfl, e, h⟩
    | cons row r =>
      obtain ⟨h1, h2, _⟩ := turn_ok hw hm (all := all) h e
      have := run_turn hw hm (all := all) k (turn ws all st) h1 (by omega)
      exact ⟨this.1, this.2⟩

/-- each edge closes a way or pushes a line -/
theorem edge_count (all : Bool) (row : Row) (st : St) (e : Str × Nat) : (edge all row st e).loops.length + (edge all row st e).seen.length = st.loops.length + st.seen.length + 1 ∧ (edge all row st e).work.length + st.seen.length = st.work.length + (edge all row st e).seen.length := by
  by_cases h : e.2 ∈ (if all then st.seen else row.2)
  · have e0 : edge all row st e = { st with loops := st.loops ++ [row.1 ++ [e.1]] } := if_pos h
    rw [e0]
    refine ⟨?_, rfl⟩
    show (st.loops ++ [row.1 ++ [e.1]]).length + st.seen.length = st.loops.length + st.seen.length + 1
    rw [List.length_append, List.length_singleton]; omega
  · have e0 : edge all row st e = { st with work := (row.1 ++ [e.1], row.2 ++ [e.2]) :: st.work, seen := st.seen ++ [e.2] } := if_neg h
    rw [e0]
    refine ⟨?_, ?_⟩
    · show st.loops.length + (st.seen ++ [e.2]).length = st.loops.length + st.seen.length + 1
      rw [List.length_append, List.length_singleton]; omega
    · show (_ :: st.work).length + st.seen.length = st.work.length + (st.seen ++ [e.2]).length
      rw [List.length_append, List.length_singleton, List.length_cons]; omega
theorem fold_count (all : Bool) (row : Row) : ∀ (es : List (Str × Nat)) (st : St), (es.foldl (edge all row) st).loops.length + (es.foldl (edge all row) st).seen.length = st.loops.length + st.seen.length + es.length ∧ (es.foldl (edge all row) st).work.length + st.seen.length = st.work.length + (es.foldl (edge all row) st).seen.length
  | [], _ => ⟨rfl, rfl⟩
  | e :: es, st => by
    have h1 := edge_count all row st e
    have h2 := fold_count all row es (edge all row st e)
    rw [List.foldl_cons, List.length_cons]
    omega
/-- a bound of all lists of the walk -/
structure StSz (st : St) : Prop where
  sz : st.loops.length + st.seen.length ≤ 2 * st.listed.length + 1
  wk : st.work.length ≤ st.seen.length
theorem st0_sz : StSz st0 := ⟨by decide, by decide⟩
theorem turn_sz {ws : Wld} (hw : WldOk ws) {all : Bool} {st : St} (h : StOk ws st) (z : StSz st) {row : Row} {r : List Row} (e : st.work = row :: r) : StSz (turn ws all st) := by
  have et : turn ws all st = (outs ws row).foldl (edge all row) { st with work := r, listed := st.listed ++ [row.1] } := by
    unfold turn; rw [e]
  have hr := h.rows row (by rw [e]; exact .head _)
  have h2 := (hw.2.2 _ (outs_mem hr).2).1
  have c := fold_count all row (outs ws row) { st with work := r, listed := st.listed ++ [row.1] }
  have hl : ((outs ws row).foldl (edge all row) { st with work := r, listed := st.listed ++ [row.1] }).listed = st.listed ++ [row.1] := by
    have : ∀ (es : List (Str × Nat)) (s : St), (es.foldl (edge all row) s).listed = s.listed := by
      intro es
      induction es with
      | nil => intro s; rfl
      | cons a es ih =>
        intro s
        rw [List.foldl_cons, ih]
        unfold edge
        by_cases q : a.2 ∈ (if all then s.seen else row.2)
        · rw [if_pos q]
        · rw [if_neg q]
    rw [this]
  have q := z.sz
  have q2 := z.wk
  rw [e, List.length_cons] at q2
  dsimp only at c
  rw [et]
  refine ⟨?_, ?_⟩
  · rw [hl, List.length_append, List.length_singleton]; omega
  · omega
theorem edge_hit {all : Bool} {row : Row} {st : St} {e : Str × Nat} (h : e.2 ∈ (if all then st.seen else row.2)) : edge all row st e = { st with loops := st.loops ++ [row.1 ++ [e.1]] } := if_pos h
theorem edge_new {all : Bool} {row : Row} {st : St} {e : Str × Nat} (h : ¬ e.2 ∈ (if all then st.seen else row.2)) : edge all row st e = { st with work := (row.1 ++ [e.1], row.2 ++ [e.2]) :: st.work, seen := st.seen ++ [e.2] } := if_neg h
end Mine

end

section
open PySem PySem.W PyProof.Rows PySem.Calls
namespace Mine
theorem calm_dt : True := by
  w_top off
  trivial

/-- a goal set aside, so that the walker halts -/
structure Hold (p : Prop) : Prop where
  out : p
inductive All2 {α : Type} (R : Value → α → Prop) : List Value → List α → Prop
  | nil : All2 R [] []
  | cons {v : Value} {x : α} {vs : List Value} {xs : List α} : R v x → All2 R vs xs → All2 R (v :: vs) (x :: xs)
theorem All2.mono {α : Type} {R R' : Value → α → Prop} (k : ∀ v x, R v x → R' v x) : ∀ {vs : List Value} {xs : List α}, All2 R vs xs → All2 R' vs xs
  | _, _, .nil => .nil
  | _, _, .cons a r => .cons (k _ _ a) (r.mono k)
theorem All2.len {α : Type} {R : Value → α → Prop} : ∀ {vs : List Value} {xs : List α}, All2 R vs xs → vs.length = xs.length
  | _, _, .nil => rfl
  | _, _, .cons _ r => by rw [List.length_cons, List.length_cons, r.len]
theorem All2.append {α : Type} {R : Value → α → Prop} : ∀ {vs : List Value} {xs : List α} {us : List Value} {ys : List α}, All2 R vs xs → All2 R us ys → All2 R (vs ++ us) (xs ++ ys)
  | _, _, _, _, .nil, h => h
  | _, _, _, _, .cons a r, h => .cons a (r.append h)
theorem All2.snoc {α : Type} {R : Value → α → Prop} {vs : List Value} {xs : List α} {v : Value} {x : α} (h : All2 R vs xs) (a : R v x) : All2 R (vs ++ [v]) (xs ++ [x]) := h.append (.cons a .nil)
theorem All2.at {α : Type} {R : Value → α → Prop} : ∀ {vs : List Value} {xs : List α}, All2 R vs xs → ∀ {i : Nat} {x : α}, xs[i]? = some x → ∃ v, vs[i]? = some v ∧ R v x
  | _, _, .nil, i, x, e => by simp at e
  | _, _, .cons a r, 0, x, e => by simp at e; subst e; exact ⟨_, rfl, a⟩
  | _, _, .cons a r, i + 1, x, e => by simp at e ⊢; exact r.at e
theorem All2.nil_inv {α : Type} {R : Value → α → Prop} {vs : List Value} (h : All2 R vs []) : vs = [] := by cases h; rfl
theorem All2.cons_inv {α : Type} {R : Value → α → Prop} {vs : List Value} {x : α} {xs : List α} (h : All2 R vs (x :: xs)) : ∃ v us, vs = v :: us ∧ R v x ∧ All2 R us xs := by cases h with | cons a r => exact ⟨_, _, rfl, a, r⟩

abbrev Ledger := List (Addr × Obj)
/-- a list of strs, among the objects of a ledger -/
def StrsIn (rest : Ledger) (v : Value) (ns : List Str) : Prop := ∃ D vs k, v = .ref D ∧ (D, listOf (List.toArray vs) k) ∈ rest ∧ StrsAre vs ns
def IntsIn (rest : Ledger) (v : Value) (ks : List Nat) : Prop := ∃ D vs k, v = .ref D ∧ (D, listOf (List.toArray vs) k) ∈ rest ∧ IntsAre vs (ks.map fun x : Nat => (x : Int))
abbrev tup2 (a b : Value) (n : Nat) : Obj := { cls := .type "tuple", data := .seq #[a, b] n }
def RowIn (rest : Ledger) (v : Value) (row : Row) : Prop := ∃ T n a b, v = .ref T ∧ (T, tup2 a b n) ∈ rest ∧ StrsIn rest a row.1 ∧ IntsIn rest b row.2
/-- a list of lists of strs -/
def TextsIn (rest : Ledger) (v : Value) (l : List (List Str)) : Prop := ∃ D vs k, v = .ref D ∧ (D, listOf (List.toArray vs) k) ∈ rest ∧ All2 (StrsIn rest) vs l
section
variable {r r' : Ledger} (k : ∀ p ∈ r, p ∈ r')
include k
theorem StrsIn.mono {v : Value} {ns : List Str} (h : StrsIn r v ns) : StrsIn r' v ns := let ⟨D, vs, n, e, m, a⟩ := h; ⟨D, vs, n, e, k _ m, a⟩
theorem IntsIn.mono {v : Value} {ns : List Nat} (h : IntsIn r v ns) : IntsIn r' v ns := let ⟨D, vs, n, e, m, a⟩ := h; ⟨D, vs, n, e, k _ m, a⟩
theorem RowIn.mono {v : Value} {row : Row} (h : RowIn r v row) : RowIn r' v row := let ⟨T, n, a, b, e, m, x, y⟩ := h; ⟨T, n, a, b, e, k _ m, x.mono k, y.mono k⟩
theorem TextsIn.mono {v : Value} {l : List (List Str)} (h : TextsIn r v l) : TextsIn r' v l := let ⟨D, vs, n, e, m, a⟩ := h; ⟨D, vs, n, e, k _ m, a.mono fun _ _ x => x.mono k⟩
end
/-- objects that a call has made -/
def NewIn (g h' : Heap) (r : Ledger) : Prop := ∀ p ∈ r, g.get? p.1 = none ∧ h'.get? p.1 = some p.2
theorem News.newIn {g h : Heap} {L : Addr} {news r : Ledger} (N : News g L h news) (k : ∀ p ∈ r, p ∈ news) : NewIn g h r := fun p hp => ⟨(N p (k p hp)).2.2, (N p (k p hp)).1⟩
theorem news_app {h₀ g h' : Heap} {L : Addr} {m : Str → Option Value} {news r : Ledger} (F : Fr h₀ L g m) (N : News h₀ L g news) (N' : News h₀ L h' news) (k : NewIn g h' r) :
    News h₀ L h' (r ++ news) ∧ ∀ p ∈ news, ∀ q ∈ r, p.1 ≠ q.1 := by
  refine ⟨fun p hp => ?_, fun p hp q hq e => ?_⟩
  · rcases List.mem_append.mp hp with hp | hp
    · obtain ⟨hn, ho⟩ := k p hp
      refine ⟨ho, fun e => ?_, ?_⟩
      · obtain ⟨oL, _, _, q, _⟩ := F.ns
        rw [e, q] at hn; cases hn
      · cases q : h₀.get? p.1 with
        | none => rfl
        | some o' => rw [F.keep _ _ q] at hn; cases hn
    · exact N' p hp
  · have := (N p hp).1; rw [e, (k q hq).1] at this; cases this
theorem news_sub {h₀ h : Heap} {L : Addr} {news news' : Ledger} (N : News h₀ L h news) (k : ∀ p ∈ news', p ∈ news) : News h₀ L h news' := fun p hp => N p (k p hp)
theorem allNe_append {d : Addr} {a b : Ledger} (h1 : ∀ p ∈ a, p.1 ≠ d) (h2 : AllNe d b) : AllNe d (a ++ b) := allNe_of fun p hp => (List.mem_append.mp hp).elim (h1 p) (h2.mem p)
end Mine

end

section
open PySem PySem.W PyProof.Rows PySem.Calls PyProof.Rows.LCg
set_option maxRecDepth 100000
namespace Mine
theorem calm_rw : True := by
  w_top off
  trivial
local macro_rules | `(tactic| walk_at "mine.room") => `(tactic| first
  | omega
  | ((try simp only [depth_under_make, depth_under_kw, depth_in1, depth_deeper, depth_caller]); (try dsimp only [ktrTop]); omega)
  | ((have hcL9 := cLine_is); (try simp only [units_in1, units_deeper, Around.mark_units, units_caller] at *); (try dsimp only [ktrTop] at *); omega))
local macro_rules | `(tactic| k_all) => `(tactic| first | assumption | exact AllNe.mem (by assumption))
local macro_rules | `(tactic| walk_at "mine.tl") => `(tactic| first | assumption | exact List.Mem.head _ | (refine List.Mem.tail _ ?_; walk_at "mine.tl"))
local macro_rules | `(tactic| walk_at "mine.alln") => `(tactic| first | exact trivial | assumption | (refine And.intro ?_ ?_; (focus (k_ne; done)); walk_at "mine.alln"))
local macro_rules | `(tactic| walk_at "mine.look") => `(tactic| first | assumption | with_unfolding_all assumption)
local macro_rules | `(tactic| walk_at "eval Name") => `(tactic| (k_here; (with_reducible show wpAny _ _ (eval (Expr.Name _ _) _) _ _ _); k_dflt (refine' nameX_L ?k1 ?k2 ?_ ?k3 ?k4 ?k5; (case k3 => exact rfl); (case k4 => exact rfl); (case k5 => decide); (case k1 => k_asm); (case k2 => walk_at "mine.look"); k_whole)))
local macro_rules | `(tactic| walk_at "exec While") => `(tactic| (k_here; with_reducible refine Hold.out ?_))
local macro_rules | `(tactic| walk_at "exec While Compare") => `(tactic| (k_here; with_reducible refine Hold.out ?_))

section
variable {prog : Program} {w : World} {A : Around} {E : Value → Shared → Prop} {s : Shared}
/-- a list against the empty list -/
theorem ne_nil {a b : Addr} {xs : Array Value} {Q : Value → Shared → Prop} (ha : s.heap.IsList a xs) (hb : s.heap.IsList b #[]) (hu : A.units < cLine) (h : Q (.bool (xs.size != 0)) s) : wpAny (model prog w) A (compareOp .NotEq (.ref a) (.ref b)) Q E s := by
  by_cases e : xs.size = 0
  · have z := SeqAt.RcNeAt.lists (e := fun _ => true) ha hb (by simpa using e) hu (fun j h1 h2 => absurd h2 (by simp)) prog w E Q
    rw [e] at z h
    exact z h
  · refine SeqAt.RcNeAt.lists_lengths ha hb (by simpa using e) hu prog w E Q ?_
    have : (xs.size != 0) = true := by simpa using e
    rw [this] at h
    exact h
end
theorem last_int : ∀ (l : List Nat), l ≠ [] → (l.map fun x : Nat => (x : Int)).getD (Int.toNat (-1 + ((l.map fun x : Nat => (x : Int)).length : Int))) 0 = ((l.getLastD 0 : Nat) : Int) := by
  intro l h
  have hp : 0 < l.length := List.length_pos_iff.mpr h
  have e : Int.toNat (-1 + ((l.map fun x : Nat => (x : Int)).length : Int)) = l.length - 1 := by rw [List.length_map]; omega
  rw [e, List.getD_eq_getElem?_getD, List.getElem?_map, List.getElem?_eq_getElem (by omega), List.getLastD_eq_getLast?, List.getLast?_eq_getElem?, List.getElem?_eq_getElem (by omega)]
  rfl
theorem any_int (l : List Nat) (k : Nat) : ((l.map fun x : Nat => (x : Int)).any fun x => x == (k : Int)) = decide (k ∈ l) := by
  rw [List.any_map, Bool.eq_iff_iff, List.any_eq_true, decide_eq_true_iff]
  constructor
  · rintro ⟨x, hx, e⟩
    have : (x : Int) = (k : Int) := by simpa using e
    have : x = k := by omega
    exact this ▸ hx
  · intro h
    exact ⟨k, h, by simp⟩
/-- what the rows of a world are: the lines and the closing ways -/
def RowsNew (ws : Wld) (g h' : Heap) (v : Value) : Prop := ∃ r T n a b, NewIn g h' r ∧ v = .ref T ∧ (T, tup2 a b n) ∈ r ∧ TextsIn r a (fin ws false).listed ∧ TextsIn r b (fin ws false).loops
section
variable {prog : Program} {w : World} {A : Around} {E : Value → Shared → Prop} {s : Shared}
theorem ne_nilN {h₀ : Heap} {L a b : Addr} {news : Ledger} {xs : Array Value} {i j : Nat} {Q : Value → Shared → Prop} (N : News h₀ L s.heap news) (ma : (a, listOf xs i) ∈ news) (mb : (b, listOf #[] j) ∈ news) (hu : A.units < cLine) (h : Q (.bool (xs.size != 0)) s) :
    wpAny (model prog w) A (compareOp .NotEq (.ref a) (.ref b)) Q E s := ne_nil ⟨_, (N _ ma).1, rfl, _, rfl⟩ ⟨_, (N _ mb).1, rfl, _, rfl⟩ hu h
end
local macro_rules | `(tactic| walk_at "compareOp NotEq ref ref") => `(tactic| (k_here; k_dflt (refine' ne_nilN ?N ?ma ?mb ?hu ?_; (case N => k_asm); (case ma => k_mem); (case mb => k_mem); (case hu => walk_at "mine.room"))))
section
variable {prog : Program} {w : World} {A : Around} {E : Value → Shared → Prop} {s : Shared}
theorem add_N {h₀ : Heap} {L a b : Addr} {m : Str → Option Value} {news : Ledger} {vs us : List Value} {i j : Nat} {Q : Value → Shared → Prop} (F : Fr h₀ L s.heap m) (N : News h₀ L s.heap news) (ma : (a, listOf (List.toArray vs) i) ∈ news) (mb : (b, listOf (List.toArray us) j) ∈ news)
    (h : ∀ D h', Fr h₀ L h' m → News h₀ L h' ((D, listOf (List.toArray (vs ++ us)) 0) :: news) → (∀ p ∈ news, p.1 < D) → Q (.ref D) { s with heap := h' }) (hz : vs.length + us.length ≤ sizeLine) :
    wpAny (model prog w) A (binaryOp .Add (.ref a) (.ref b)) Q E s :=
  kmk_add_lit F N ⟨_, (N _ ma).1, rfl, _, rfl⟩ ⟨_, (N _ mb).1, rfl, _, rfl⟩ rfl h hz
end
local macro_rules | `(tactic| walk_at "binaryOp Add ref ref") => `(tactic| (k_here; k_dflt (refine' add_N ?F ?N ?ma ?mb ?_ ?hz; (case F => k_asm); (case N => k_asm); (case ma => k_mem); (case mb => k_mem); (case hz => ((simp only [List.length_cons, List.length_nil, sizeLine_eq]); omega))); intro D' h' F' N' l1; (try k_lt l1); (try k_sweep)))
/-- the heap of the rows' loop -/
def RowsJ (g : Heap) (L₁ : Addr) (s₀ : Shared) (W : Addr) (ws : Wld) (B Fo R : Addr) (n : Nat) (s' : Shared) : Prop :=
  ∃ h tk m vb kb vf kf vr kr rest st, s' = { s₀ with heap := h, toks := tk } ∧ Fr g L₁ h m ∧ News g L₁ h ((B, listOf (List.toArray vb) kb) :: (Fo, listOf (List.toArray vf) kf) :: (R, listOf (List.toArray vr) kr) :: rest) ∧
    AllNe B rest ∧ AllNe Fo rest ∧ AllNe R rest ∧ m (Str.ofString "world") = some (.ref W) ∧ m (Str.ofString "rows") = some (.ref R) ∧ m (Str.ofString "found") = some (.ref Fo) ∧ m (Str.ofString "back") = some (.ref B) ∧
    All2 (RowIn rest) vr.reverse st.work ∧ All2 (StrsIn rest) vf st.listed ∧ All2 (StrsIn rest) vb st.loops ∧ StOk ws st ∧ StSz st ∧ run ws false 31 st = fin ws false ∧ n = wt ws.length st.work

set_option maxHeartbeats 4000000 in
theorem rows_at (w : World) (W : Addr) (ws : Wld) (hw : WldOk ws) (hm : WldNm ws) :
    Calls 20 w 180 [.ref W] (fun g => IsWld g W ws) (RowsNew ws) := by
  unfold Calls
  k_fill
  intro p loose mean mg mb dp un gd cn cs a ccd cl outer A₀ base h₀ L m s Q B F X T hk hd hu hP hret
  refine wpAny_call ?_
  k_dflt (refine' enterP ?k1 ?k2 ?k3 ?k5 ?kA ?kF ?kK ?k6 ?k7 ?k8 ?k9 ?kB ?_ ?c2 ?c3 ?c4 ?c5; (case kA => exact rfl); (case kF => exact rfl); (case kK => assumption); (case k1 => exact B); (case k2 => exact F); (case k3 => exact X); (case k5 => exact T); (case k6 => k_is); (case k7 => k_is); (case k8 => ktr_room); (case k9 => exact BindsTo.of_eq rfl); (case c5 => decide); (case kB => exact locs rfl); (case c2 => exact rfl); (case c3 => exact rfl); (case c4 => exact rfl); k_whole)
  intro g L₁ h₁ eg F₁ N₁ B₁ X₁ T₁
  (try rw [← eg] at hP)
  clear F X T B
  (try dsimp only)
  k_fold
  k_steps
  refine Hold.mk ?_
  refine wpAny_noRaise (wpAny_While ?_)
  with_reducible rename Fr _ _ _ _ => F2
  with_reducible rename News _ _ _ _ => N2
  rename_i R _ _ _ _ Fo _ _ _ _ B _ _ _
  refine codeAny_whileLoop (RowsJ g L₁ s W ws B Fo R) ?turn _ ⟨_, _, _, [], _, [], _, [_], _, _, st0, rfl, F2, N2, ?a1, ?a2, ?a3, by rfl, by rfl, by rfl, by rfl, ?a4, .nil, .nil, st0_ok hw, st0_sz, rfl, rfl⟩
  case a1 => walk_at "mine.alln"
  case a2 => walk_at "mine.alln"
  case a3 => walk_at "mine.alln"
  case a4 => exact .cons ⟨_, _, _, _, rfl, .head _, ⟨_, [], _, rfl, .tail _ (.tail _ (.head _)), .nil⟩, ⟨_, [_], _, rfl, .tail _ (.head _), .cons _ _ .nil⟩⟩ .nil
  case turn =>
    rintro n s' ⟨h, tk, m, vb, kb, vf, kf, vr, kr, rest, st, rfl, F, N, hB, hF, hR, hm1, hm2, hm3, hm4, aR, aF, aB, ok, sz, hrun, hn⟩
    refine wpAny_noRaise ?_
    k_steps
    · with_reducible rename Fr _ _ _ _ => F3
      with_reducible rename News _ _ _ _ => N3
      rename (_ != _) = true => ht9
      obtain ⟨row, r, er⟩ : ∃ row r, st.work = row :: r := by
        cases e : st.work with
        | nil =>
          rw [e] at aR
          have := List.reverse_eq_nil_iff.mp aR.nil_inv
          subst this
          exact absurd ht9 (by decide)
        | cons a b => exact ⟨a, b, rfl⟩
      rw [er] at aR
      obtain ⟨v, us, ev, ⟨T, nT, a1, b1, rfl, mT, ⟨Na, vn, kn, rfl, mN, sN⟩, ⟨No, vo, ko, rfl, mO, iO⟩⟩, aR'⟩ := aR.cons_inv
      have evr : vr = us.reverse ++ [.ref T] := by rw [← List.reverse_reverse vr, ev, List.reverse_cons]
      subst evr
      clear ev ht9
      obtain ⟨ok', hlt', hlis'⟩ := turn_ok hw hm (all := false) ok er
      have sz' := turn_sz hw (all := false) ok sz er
      have hrow := ok.rows row (by rw [er]; exact .head _)
      have hous := outs_mem hrow
      have hdeep := hrow.deep
      have hw5 := hw.2.1
      have hfew := ok.few
      have hz1 := sz.sz
      have hz2 := sz.wk
      have hlr : us.length ≤ 62 := by
        have := aR'.len
        rw [er, List.length_cons] at hz2
        omega
      have hlf : vf.length ≤ 31 := by have := aF.len; omega
      have hlb : vb.length ≤ 63 := by have := aB.len; omega
      have hvn : vn.length ≤ 5 := by
        have := StrsAre.length sN
        have := hrow.len
        omega
      have hvo : vo.length ≤ 5 := by
        have := IntsAre.length iO
        rw [List.length_map] at this
        omega
      refine kl_pop F3 N3 (kpa_last _ _) (by k_upd) (by show (us.reverse ++ [Value.ref T]).length ≤ _; rw [List.length_append, List.length_reverse, List.length_singleton, sizeLine_eq]; omega) ?_
      intro h4 F4 N4
      have N5 : News g L₁ h4 ((B, listOf (List.toArray vb) kb) :: (Fo, listOf (List.toArray vf) kf) :: (R, listOf (List.toArray us.reverse) (kr + 1)) :: (T, tup2 (.ref Na) (.ref No) nT) :: (Na, listOf (List.toArray vn) kn) :: (No, listOf (List.toArray vo) ko) :: rest) := by
        refine news_sub N4 fun p hp => ?_
        simp only [List.mem_cons] at hp ⊢
        rcases hp with rfl | rfl | rfl | rfl | rfl | rfl | hp <;> simp_all
      have hB5 : AllNe B ((T, tup2 (.ref Na) (.ref No) nT) :: (Na, listOf (List.toArray vn) kn) :: (No, listOf (List.toArray vo) ko) :: rest) := ⟨hB.mem _ mT, hB.mem _ mN, hB.mem _ mO, hB⟩
      have hF5 : AllNe Fo ((T, tup2 (.ref Na) (.ref No) nT) :: (Na, listOf (List.toArray vn) kn) :: (No, listOf (List.toArray vo) ko) :: rest) := ⟨hF.mem _ mT, hF.mem _ mN, hF.mem _ mO, hF⟩
      have hR5 : AllNe R ((T, tup2 (.ref Na) (.ref No) nT) :: (Na, listOf (List.toArray vn) kn) :: (No, listOf (List.toArray vo) ko) :: rest) := ⟨hR.mem _ mT, hR.mem _ mN, hR.mem _ mO, hR⟩
      clear N4 N3 F3
      k_steps
      refine wpAny_noRaise (wpAny_For ?_)
      refine wpAny_noRaise ?_
      k_steps
      rw [last_int _ hrow.ne]
      with_reducible rename Fr _ _ _ _ => F6
      with_reducible rename News _ _ _ _ => N6
      obtain ⟨its, hW, hsz, hI⟩ := hP
      obtain ⟨a₁, ts, ha, hta, hts, htj⟩ := hI _ _ hous.1
      have hlast := hrow.last.2
      have hes2 := (hw.2.2 _ hous.2).1
      refine item_list (F6.lst hW) (by omega) (by omega) (by simpa using ha) ?_ (by with_unfolding_all rfl)
      refine iter_list (fun i m news => ∃ vb' kb' vr' kr' rest', news = (B, listOf (List.toArray vb') kb') :: (Fo, listOf (List.toArray (vf ++ [.ref Na])) (kf + 1)) :: (R, listOf (List.toArray vr') kr') :: rest' ∧ AllNe B rest' ∧ AllNe Fo rest' ∧ AllNe R rest' ∧
          m (Str.ofString "world") = some (.ref W) ∧ m (Str.ofString "rows") = some (.ref R) ∧ m (Str.ofString "found") = some (.ref Fo) ∧ m (Str.ofString "back") = some (.ref B) ∧ m (Str.ofString "names") = some (.ref Na) ∧ m (Str.ofString "nodes") = some (.ref No) ∧
          (∀ p ∈ (T, tup2 (.ref Na) (.ref No) nT) :: (Na, listOf (List.toArray vn) kn) :: (No, listOf (List.toArray vo) ko) :: rest, p ∈ rest') ∧
          All2 (RowIn rest') vr'.reverse (((outs ws row).take i).foldl (edge false row) { st with work := r, listed := st.listed ++ [row.1] }).work ∧ All2 (StrsIn rest') vb' (((outs ws row).take i).foldl (edge false row) { st with work := r, listed := st.listed ++ [row.1] }).loops)
        rfl (srcAt_base hta) F6 N6 ⟨_, _, _, _, _, rfl, hB5, hF5, hR5, by walk_at "mine.look", by walk_at "mine.look", by walk_at "mine.look", by walk_at "mine.look", by rfl, by rfl, fun _ h => h, ?r1, ?r2⟩ ?iturn ?idone
      case r1 => rw [List.reverse_reverse]; exact aR'.mono fun _ _ x => x.mono fun p hp => .tail _ (.tail _ (.tail _ hp))
      case r2 => exact aB.mono fun _ _ x => x.mono fun p hp => .tail _ (.tail _ (.tail _ hp))
      case idone =>
        rintro m news h tk ⟨vb', kb', vr', kr', rest', rfl, hB', hF', hR', j1, j2, j3, j4, j5, j6, hsub, bR, bB⟩ F N
        rw [hts, List.take_length] at bR bB
        have et : turn ws false st = (outs ws row).foldl (edge false row) { st with work := r, listed := st.listed ++ [row.1] } := by
          unfold turn; rw [er]
        rw [← et] at bR bB
        refine wpAny_execs_nil ?_
        refine ⟨wt ws.length (turn ws false st).work, by rw [hn]; exact hlt', _, _, m, vb', kb', vf ++ [.ref Na], kf + 1, vr', kr', rest', turn ws false st, rfl, F, N, hB', hF', hR', j1, j2, j3, j4, bR, ?_, bB, ok', sz', ?_, rfl⟩
        · rw [hlis']
          exact (aF.mono fun _ _ x => x.mono fun p hp => hsub _ (.tail _ (.tail _ (.tail _ hp)))).snoc ⟨Na, vn, kn, rfl, hsub _ (.tail _ (.head _)), sN⟩
        · exact ((run_turn hw hm 31 st ok (by omega)).1).trans hrun
      case iturn =>
        rintro I i v m news oI h tk hI hi ⟨vb', kb', vr', kr', rest', rfl, hB', hF', hR', j1, j2, j3, j4, j5, j6, hsub, bR, bB⟩ off F N
        have hil : i < (outs ws row).length := by
          obtain ⟨hi', _⟩ := Array.getElem?_eq_some_iff.mp hi
          omega
        obtain ⟨b₁, t1, t2, e1, e2⟩ := htj i _ (List.getElem?_eq_getElem hil)
        rw [e1] at hi
        cases hi
        have hfd : ∀ st : St, ((outs ws row).take (i + 1)).foldl (edge false row) st = edge false row (((outs ws row).take i).foldl (edge false row) st) (outs ws row)[i] := fun st => by
          rw [take_snoc (List.getElem?_eq_getElem hil), List.foldl_append]; rfl
        generalize (outs ws row)[i] = e at e2 hfd
        have mN' := hsub _ (.tail _ (.head _))
        have mO' := hsub _ (.tail _ (.tail _ (.head _)))
        have N' : News g L₁ h ((I, oI) :: (B, listOf (List.toArray vb') kb') :: (Fo, listOf (List.toArray (vf ++ [.ref Na])) (kf + 1)) :: (R, listOf (List.toArray vr') kr') :: (Na, listOf (List.toArray vn) kn) :: (No, listOf (List.toArray vo) ko) :: rest') := by
          refine news_sub N fun p hp => ?_
          simp only [List.mem_cons] at hp ⊢
          rcases hp with rfl | rfl | rfl | rfl | rfl | rfl | hp <;> simp_all
        have hB6 : AllNe B ((Na, listOf (List.toArray vn) kn) :: (No, listOf (List.toArray vo) ko) :: rest') := ⟨hB'.mem _ mN', hB'.mem _ mO', hB'⟩
        have hF6 : AllNe Fo ((Na, listOf (List.toArray vn) kn) :: (No, listOf (List.toArray vo) ko) :: rest') := ⟨hF'.mem _ mN', hF'.mem _ mO', hF'⟩
        have hR6 : AllNe R ((Na, listOf (List.toArray vn) kn) :: (No, listOf (List.toArray vo) ko) :: rest') := ⟨hR'.mem _ mN', hR'.mem _ mO', hR'⟩
        have hIB : @Ne Nat B I := off _ (.head _)
        have hIF : @Ne Nat Fo I := off _ (.tail _ (.head _))
        have hIR : @Ne Nat R I := off _ (.tail _ (.tail _ (.head _)))
        have hc9 : (((outs ws row).take i).foldl (edge false row) { st with work := r, listed := st.listed ++ [row.1] }).loops.length + (((outs ws row).take i).foldl (edge false row) { st with work := r, listed := st.listed ++ [row.1] }).seen.length = st.loops.length + st.seen.length + ((outs ws row).take i).length ∧
            (((outs ws row).take i).foldl (edge false row) { st with work := r, listed := st.listed ++ [row.1] }).work.length + st.seen.length = r.length + (((outs ws row).take i).foldl (edge false row) { st with work := r, listed := st.listed ++ [row.1] }).seen.length := fold_count false row ((outs ws row).take i) { st with work := r, listed := st.listed ++ [row.1] }
        have hfd9 := hfd { st with work := r, listed := st.listed ++ [row.1] }
        generalize ((outs ws row).take i).foldl (edge false row) { st with work := r, listed := st.listed ++ [row.1] } = stI at bR bB hc9 hfd9
        rw [List.length_take] at hc9
        have hrl : r.length ≤ 63 := by rw [er, List.length_cons] at hz2; omega
        have hlr' : vr'.length ≤ 200 := by
          have := bR.len
          rw [List.length_reverse] at this
          omega
        have hlb' : vb'.length ≤ 200 := by
          have := bB.len
          omega
        clear hc9
        clear N
        k_steps
        · with_reducible rename Fr _ _ _ _ => F7
          with_reducible rename News _ _ _ _ => N7
          rename (List.any _ _) = true => hin
          rename_i D9 _ l9 _
          rw [any_int, decide_eq_true_eq] at hin
          rw [List.push_toArray] at N7
          have hD9 : @Ne Nat D9 I := by omega
          refine UnrEnd.intro F7 N7 ((B, listOf (List.toArray (vb' ++ [.ref D9])) (kb' + 1)) :: (Fo, listOf (List.toArray (vf ++ [.ref Na])) (kf + 1)) :: (R, listOf (List.toArray vr') kr') :: (D9, listOf (List.toArray (vn ++ [.str e.1 t1])) 0) :: rest') ?sub ?off
            ⟨vb' ++ [.ref D9], _, vr', _, (D9, _) :: rest', rfl, ⟨by k_ne, hB'⟩, ⟨by k_ne, hF'⟩, ⟨by k_ne, hR'⟩, by walk_at "mine.look", by walk_at "mine.look", by walk_at "mine.look", by walk_at "mine.look", by walk_at "mine.look", by walk_at "mine.look", fun p hp => .tail _ (hsub p hp), ?_, ?_⟩
          case sub =>
            intro p hp
            rcases List.mem_cons.mp hp with rfl | hp
            · walk_at "mine.tl"
            rcases List.mem_cons.mp hp with rfl | hp
            · walk_at "mine.tl"
            rcases List.mem_cons.mp hp with rfl | hp
            · walk_at "mine.tl"
            rcases List.mem_cons.mp hp with rfl | hp
            · walk_at "mine.tl"
            rcases List.mem_cons.mp hp with rfl | hp
            · walk_at "mine.tl"
            walk_at "mine.tl"
          case off =>
            intro p hp
            rcases List.mem_cons.mp hp with rfl | hp
            · exact hIB
            rcases List.mem_cons.mp hp with rfl | hp
            · exact hIF
            rcases List.mem_cons.mp hp with rfl | hp
            · exact hIR
            rcases List.mem_cons.mp hp with rfl | hp
            · exact hD9
            exact off _ (.tail _ (.tail _ (.tail _ hp)))
          · rw [hfd9, edge_hit (by simpa using hin)]
            exact bR.mono fun _ _ x => x.mono fun p hp => .tail _ hp
          · rw [hfd9, edge_hit (by simpa using hin)]
            exact (bB.mono fun _ _ x => x.mono fun p hp => .tail _ hp).snoc ⟨D9, _, _, rfl, .head _, strsAre_append sN (.cons _ _ .nil)⟩
        · with_reducible rename Fr _ _ _ _ => F7
          with_reducible rename News _ _ _ _ => N7
          rename (List.any _ _) = false => hin
          rename_i Dn _ _ _ _ _ Do _ _ DT _ _ _
          rw [any_int, decide_eq_false_iff_not] at hin
          rw [List.push_toArray] at N7
          have hD1 : @Ne Nat Dn I := by omega
          have hD2 : @Ne Nat Do I := by omega
          have hD3 : @Ne Nat DT I := by omega
          refine UnrEnd.intro F7 N7 ((B, listOf (List.toArray vb') kb') :: (Fo, listOf (List.toArray (vf ++ [.ref Na])) (kf + 1)) :: (R, listOf (List.toArray (vr' ++ [.ref DT])) (kr' + 1)) :: (DT, tup2 (.ref Dn) (.ref Do) 0) :: (Dn, listOf (List.toArray (vn ++ [.str e.1 t1])) 0) :: (Do, listOf (List.toArray (vo ++ [.int (e.2 : Int) t2])) 0) :: rest') ?sub ?off
            ⟨vb', _, vr' ++ [.ref DT], _, (DT, _) :: (Dn, _) :: (Do, _) :: rest', rfl, ⟨by k_ne, by k_ne, by k_ne, hB'⟩, ⟨by k_ne, by k_ne, by k_ne, hF'⟩, ⟨by k_ne, by k_ne, by k_ne, hR'⟩, by walk_at "mine.look", by walk_at "mine.look", by walk_at "mine.look", by walk_at "mine.look", by walk_at "mine.look", by walk_at "mine.look", fun p hp => .tail _ (.tail _ (.tail _ (hsub p hp))), ?_, ?_⟩
          case sub =>
            intro p hp
            rcases List.mem_cons.mp hp with rfl | hp
            · walk_at "mine.tl"
            rcases List.mem_cons.mp hp with rfl | hp
            · walk_at "mine.tl"
            rcases List.mem_cons.mp hp with rfl | hp
            · walk_at "mine.tl"
            rcases List.mem_cons.mp hp with rfl | hp
            · walk_at "mine.tl"
            rcases List.mem_cons.mp hp with rfl | hp
            · walk_at "mine.tl"
            rcases List.mem_cons.mp hp with rfl | hp
            · walk_at "mine.tl"
            rcases List.mem_cons.mp hp with rfl | hp
            · walk_at "mine.tl"
            walk_at "mine.tl"
          case off =>
            intro p hp
            rcases List.mem_cons.mp hp with rfl | hp
            · exact hIB
            rcases List.mem_cons.mp hp with rfl | hp
            · exact hIF
            rcases List.mem_cons.mp hp with rfl | hp
            · exact hIR
            rcases List.mem_cons.mp hp with rfl | hp
            · exact hD3
            rcases List.mem_cons.mp hp with rfl | hp
            · exact hD1
            rcases List.mem_cons.mp hp with rfl | hp
            · exact hD2
            exact off _ (.tail _ (.tail _ (.tail _ hp)))
          · rw [hfd9, edge_new (by simpa using hin), List.reverse_append, List.reverse_singleton]
            refine .cons ⟨DT, 0, .ref Dn, .ref Do, rfl, .head _, ⟨Dn, _, _, rfl, .tail _ (.head _), strsAre_append sN (.cons _ _ .nil)⟩, ⟨Do, _, _, rfl, .tail _ (.tail _ (.head _)), ?_⟩⟩ (bR.mono fun _ _ x => x.mono fun p hp => .tail _ (.tail _ (.tail _ hp)))
            rw [List.map_append]
            exact IntsAre.snoc iO _ _
          · rw [hfd9, edge_new (by simpa using hin)]
            exact bB.mono fun _ _ x => x.mono fun p hp => .tail _ (.tail _ (.tail _ hp))
    · with_reducible rename Fr _ _ _ _ => F3
      with_reducible rename News _ _ _ _ => N3
      rename (_ != _) = false => ht9
      have hvr : vr = [] := by
        cases vr with
        | nil => rfl
        | cons a l => exact absurd ht9 (by simp)
      subst hvr
      have hwk : st.work = [] := by
        cases e : st.work with
        | nil => rfl
        | cons a l => rw [e] at aR; cases aR
      rw [run_done ws false 31 st hwk] at hrun
      refine hret _ _ _ (by rw [← eg]; exact Fr.keep F3) ?_
      rw [← eg]
      refine ⟨_, _, _, _, _, News.newIn N3 fun _ h => h, rfl, .head _, ?_, ?_⟩
      · rw [← hrun]
        exact ⟨Fo, vf, kf, rfl, by walk_at "mine.tl", aF.mono fun _ _ x => x.mono fun p hp => by walk_at "mine.tl"⟩
      · rw [← hrun]
        exact ⟨B, vb, kb, rfl, by walk_at "mine.tl", aB.mono fun _ _ x => x.mono fun p hp => by walk_at "mine.tl"⟩
end Mine

end

section
open PySem PySem.W PyProof.Rows PySem.Calls PyProof.Rows.LCg
set_option maxRecDepth 100000
namespace Mine
theorem calm_kj : True := by
  w_top off
  trivial

/-- a path, as text or as bytes -/
def PathV (oct : Bool) (x : Str) (v : Value) : Prop := if oct = true then ∃ t, v = .bytes (encB x) t else ∃ t, v = .str x t
def Low (x : Str) : Prop := ∀ c ∈ x.cps.toList, c < 256
theorem calls_mono {k : Nat} {w : World} {f : Addr} {vs : List Value} {P : Heap → Prop} {R R' : Heap → Heap → Value → Prop} (C : Calls k w f vs P R) (h : ∀ g h' v, R g h' v → R' g h' v) : Calls k w f vs P R' :=
  fun p loose mean mg mb dp un gd cn cs a ccd cl outer A₀ base h₀ L m s Q B F X T hk hd hu hP hret => C p loose mean mg mb dp un gd cn cs a ccd cl outer A₀ base h₀ L m s Q B F X T hk hd hu hP fun v h' tk' st r => hret v h' tk' st (h _ _ _ r)
theorem encB_size (x : Str) : (encB x).size = x.length := by simp [encB, Str.length]
theorem kind_at (w : World) (oct : Bool) (x : Str) (t : Tok) (hx : x.length ≤ 1000) (hc : Low x) : Calls 20 w 146 [.str x t, .bool oct] (fun _ => True) (fun _ _ v => PathV oct x v) := by
  cases oct with
  | false => exact calls_mono (kind_str w x t) fun _ _ v h => by show (if false = true then _ else _); simpa using h
  | true => exact calls_mono (kind_bytes w x t hx hc) fun _ _ v h => by show (if true = true then _ else _); simpa using h
theorem names_at (w : World) {oct : Bool} {x : Str} {v : Value} (hv : PathV oct x v) (st : Str) (u : Tok) (hx : x.length ≤ 1000) (hst : st.length ≤ 10) (hc : Low x) : Calls 40 w 156 [v, .str st u] (fun _ => True) (NewStrs (namesT x st)) := by
  cases oct with
  | false => obtain ⟨t, rfl⟩ : ∃ t, v = .str x t := by simpa [PathV] using hv
             exact names_str w x st t u hx hst
  | true =>
    obtain ⟨t, rfl⟩ : ∃ t, v = .bytes (encB x) t := by simpa [PathV] using hv
    have h := names_bytes w (encB x) st t u (by rw [encB_size]; exact hx) hst
    rw [dec_enc hc] at h
    exact h
theorem join_at (w : World) {oct : Bool} {x y : Str} {v u : Value} (hv : PathV oct x v) (hu : PathV oct y u) (hx : x.length ≤ 1000) (hy : y.length ≤ 1000) (hx0 : 0 < x.length) (hs : Txt.startswith y (Str.ofString "/") = false) (hs' : By.starts (encB y) #[47] = false)
    (hj : joinB (encB x) (encB y) = encB (joinT x y)) : Calls 20 w 122 [v, u] (fun _ => True) (fun _ _ v => PathV oct (joinT x y) v) := by
  cases oct with
  | false =>
    obtain ⟨t, rfl⟩ : ∃ t, v = .str x t := by simpa [PathV] using hv
    obtain ⟨t', rfl⟩ : ∃ t, u = .str y t := by simpa [PathV] using hu
    exact calls_mono (join_str w x y t t' hx hy hx0 hs) fun _ _ v h => by show (if false = true then _ else _); simpa using h
  | true =>
    obtain ⟨t, rfl⟩ : ∃ t, v = .bytes (encB x) t := by simpa [PathV] using hv
    obtain ⟨t', rfl⟩ : ∃ t, u = .bytes (encB y) t := by simpa [PathV] using hu
    exact calls_mono (join_bytes w (encB x) (encB y) t t' (by rw [encB_size]; exact hx) (by rw [encB_size]; exact hy) (by rw [encB_size]; exact hx0) hs') fun _ _ v h => by
      show (if true = true then _ else _)
      rw [hj] at h
      simpa using h
theorem base_at (w : World) {oct : Bool} {x : Str} {v : Value} (hv : PathV oct x v) (hx : x.length ≤ 1000) (hj : baseB (encB x) = encB (baseT x)) : Calls 20 w 129 [v] (fun _ => True) (fun _ _ v => PathV oct (baseT x) v) := by
  cases oct with
  | false =>
    obtain ⟨t, rfl⟩ : ∃ t, v = .str x t := by simpa [PathV] using hv
    exact calls_mono (basename_str w x t hx) fun _ _ v h => by show (if false = true then _ else _); simpa using h
  | true =>
    obtain ⟨t, rfl⟩ : ∃ t, v = .bytes (encB x) t := by simpa [PathV] using hv
    exact calls_mono (basename_bytes w (encB x) t (by rw [encB_size]; exact hx)) fun _ _ v h => by
      show (if true = true then _ else _)
      rw [hj] at h
      simpa using h
theorem dir_at (w : World) {oct : Bool} {x : Str} {v : Value} (hv : PathV oct x v) (hx : x.length ≤ 1000) (hj : dirB (encB x) = encB (dirT x)) : Calls 20 w 136 [v] (fun _ => True) (fun _ _ v => PathV oct (dirT x) v) := by
  cases oct with
  | false =>
    obtain ⟨t, rfl⟩ : ∃ t, v = .str x t := by simpa [PathV] using hv
    exact calls_mono (dirname_str w x t hx) fun _ _ v h => by show (if false = true then _ else _); simpa using h
  | true =>
    obtain ⟨t, rfl⟩ : ∃ t, v = .bytes (encB x) t := by simpa [PathV] using hv
    exact calls_mono (dirname_bytes w (encB x) t (by rw [encB_size]; exact hx)) fun _ _ v h => by
      show (if true = true then _ else _)
      rw [hj] at h
      simpa using h

/-- the path of a way -/
def pathT (st : Str) (ns : List Str) : Str := ns.foldl joinT st
def nms : List Str := [Str.ofString "a", Str.ofString "ab", Str.ofString "b", Str.ofString ".b"]
def sts : List Str := [Str.ofString "/", Str.ofString ".", Str.ofString "//", Str.ofString "r/s"]
def ways : Nat → List (List Str)
  | 0 => [[]]
  | n + 1 => (ways n).flatMap fun r => nms.map fun x => r ++ [x]
end Mine


end

section
open PySem PySem.W PyProof.Rows PySem.Calls PySem.StrLaws PySem.Builtin
set_option maxRecDepth 100000
namespace Mine
theorem calm_pp : True := by
  w_top off
  trivial
/-- a text's codes -/
abbrev cs (x : Str) : List Nat := x.cps.toList
theorem cs_ext {x y : Str} (h : cs x = cs y) : x = y := by
  cases x; cases y
  simp only [Str.mk.injEq]
  exact Array.toList_inj.mp h
theorem cs_app (x y : Str) : cs (x ++ y) = cs x ++ cs y := by
  show (x.cps ++ y.cps).toList = _
  rw [Array.toList_append]
theorem cs_len (x : Str) : (cs x).length = x.length := by simp [cs, Str.length]
theorem cs_slash : cs (Str.ofString "/") = [47] := by decide +kernel
theorem slash_mk : Str.ofString "/" = ⟨#[47]⟩ := cs_ext (by rw [cs_slash])
/-- pieces, with a slash between them -/
def gl : List (List Nat) → List Nat
  | [] => []
  | [x] => x
  | x :: r => x ++ 47 :: gl r
/-- a text cut at its slashes -/
def sp : List Nat → List (List Nat)
  | [] => [[]]
  | c :: l => if c = 47 then [] :: sp l else match sp l with
    | [] => [[c]]
    | p :: r => (c :: p) :: r
theorem sp_slash (l : List Nat) : sp (47 :: l) = [] :: sp l := if_pos rfl
theorem sp_other {c : Nat} (h : c ≠ 47) (l : List Nat) : sp (c :: l) = match sp l with
    | [] => [[c]]
    | p :: r => (c :: p) :: r := if_neg h
theorem sp_ne (l : List Nat) : sp l ≠ [] := by
  cases l with
  | nil => simp [sp]
  | cons c l =>
    unfold sp
    split
    · simp
    · split <;> simp
theorem sp_free {x : List Nat} (h : 47 ∉ x) : sp x = [x] := by
  induction x with
  | nil => rfl
  | cons c x ih =>
    have hc : c ≠ 47 := fun e => h (e ▸ .head _)
    rw [sp_other hc, ih fun q => h (.tail _ q)]
theorem sp_cons {x : List Nat} (h : 47 ∉ x) (l : List Nat) : sp (x ++ 47 :: l) = x :: sp l := by
  induction x with
  | nil => exact sp_slash l
  | cons c x ih =>
    have hc : c ≠ 47 := fun e => h (e ▸ .head _)
    show sp (c :: (x ++ 47 :: l)) = _
    rw [sp_other hc, ih fun q => h (.tail _ q)]
theorem sp_gl : ∀ {ps : List (List Nat)}, ps ≠ [] → (∀ p ∈ ps, 47 ∉ p) → sp (gl ps) = ps
  | [x], _, h => sp_free (h x (.head _))
  | x :: y :: r, _, h => by
    show sp (x ++ 47 :: gl (y :: r)) = _
    rw [sp_cons (h x (.head _)), sp_gl (by simp) fun p hp => h p (.tail _ hp)]
theorem cs_join : ∀ ps : List Str, cs (Str.join (Str.ofString "/") ps) = gl (ps.map cs)
  | [] => rfl
  | [x] => rfl
  | x :: y :: r => by
    show cs (x ++ Str.ofString "/" ++ Str.join (Str.ofString "/") (y :: r)) = _
    rw [cs_app, cs_app, cs_slash, cs_join (y :: r)]
    show _ = cs x ++ 47 :: gl _
    simp
theorem split_cs (x : Str) : (Txt.split x (Str.ofString "/")).map cs = sp (cs x) ∨ (Txt.split x (Str.ofString "/") = [] ∧ cs x = []) := by
  have hj := join_split x (Str.ofString "/")
  have hf : ∀ p ∈ Txt.split x (Str.ofString "/"), 47 ∉ cs p := by
    rw [slash_mk]; exact split_free x 47
  generalize Txt.split x (Str.ofString "/") = ps at hj hf
  cases ps with
  | nil => exact .inr ⟨rfl, by rw [← hj]; rfl⟩
  | cons p r =>
    refine .inl ?_
    rw [← hj, cs_join]
    refine (sp_gl (by simp) fun q hq => ?_).symm
    obtain ⟨z, hz, rfl⟩ := List.mem_map.mp hq
    exact hf z hz
/-- a run of places is a cut -/
theorem picks {α : Type} (l : List α) (a : Nat) : ∀ c, ((List.range c).map fun k : Nat => ((a : Int) + 1 * (k : Int)).toNat).filterMap (fun i => l[i]?) = (l.drop a).take c
  | 0 => by simp
  | c + 1 => by
    rw [List.range_succ, List.map_append, List.filterMap_append, picks l a c, List.take_add_one, List.getElem?_drop]
    congr 1
    simp only [List.map_cons, List.map_nil, List.filterMap_cons, List.filterMap_nil]
    rw [show ((a : Int) + 1 * (c : Int)).toNat = a + c by omega]
    cases l[a + c]? <;> rfl
theorem range_cut (a b : Nat) : sliceRange (a : Int) (b : Int) 1 = (List.range (b - a)).map fun k : Nat => ((a : Int) + 1 * (k : Int)).toNat := by
  unfold sliceRange
  simp only [show (1 : Int) > 0 by decide, if_true]
  congr 2
  split
  · rw [Int.ediv_one]; omega
  · omega
theorem slice_from (x : Str) {k : Nat} (h : k ≤ x.length) : cs (Txt.slice x (some (k : Int)) none) = (cs x).drop k := by
  have e : PySem.Builtin.Str.strSliceIndices (some (k : Int)) none 1 x.length = (List.range (x.length - k)).map fun j : Nat => ((k : Int) + 1 * (j : Int)).toNat := by
    rw [← range_cut]
    unfold PySem.Builtin.Str.strSliceIndices
    simp only [show (1 : Int) > 0 by decide, if_true]
    congr 1
    rw [if_neg (by omega)]
    omega
  have hp := picks (cs x) k (x.length - k)
  have hd : ((cs x).drop k).take (x.length - k) = (cs x).drop k := List.take_of_length_le (by rw [List.length_drop, cs_len]; exact Nat.le_refl _)
  rw [hd] at hp
  unfold Txt.slice
  rw [e]
  split
  · rename_i q
    simp only [beq_self_eq_true, Bool.true_and, beq_iff_eq, List.length_map, List.length_range] at q
    have : k = 0 ∨ x.length = 0 := by omega
    rcases this with rfl | z
    · rfl
    · have : cs x = [] := List.eq_nil_of_length_eq_zero (by rw [cs_len]; exact z)
      rw [this]; simp
  · rw [← hp]
    have ef : (fun i : Nat => x.cps[i]?) = fun i => (cs x)[i]? := funext fun i => Array.getElem?_toList.symm
    show ((List.map _ _).filterMap (fun i => x.cps[i]?)) = _
    rw [ef]
theorem slice_to (x : Str) {k : Nat} (h : k ≤ x.length) : cs (Txt.slice x none (some (k : Int))) = (cs x).take k := by
  have e : PySem.Builtin.Str.strSliceIndices none (some (k : Int)) 1 x.length = (List.range (k - 0)).map fun j : Nat => (((0 : Nat) : Int) + 1 * (j : Int)).toNat := by
    rw [← range_cut]
    unfold PySem.Builtin.Str.strSliceIndices
    simp only [show (1 : Int) > 0 by decide, if_true]
    congr 1
    rw [if_neg (by omega)]
    omega
  have hp := picks (cs x) 0 (k - 0)
  rw [List.drop_zero, Nat.sub_zero] at hp
  unfold Txt.slice
  rw [e]
  split
  · rename_i q
    simp only [beq_self_eq_true, Bool.true_and, beq_iff_eq, List.length_map, List.length_range, Nat.sub_zero] at q
    rw [List.take_of_length_le (by rw [cs_len]; omega)]
  · rw [← hp]
    have ef : (fun i : Nat => x.cps[i]?) = fun i => (cs x)[i]? := funext fun i => Array.getElem?_toList.symm
    show ((List.map _ _).filterMap (fun i => x.cps[i]?)) = _
    rw [ef, Nat.sub_zero]
/-- the last slash of a text -/
theorem rfind_cs {x : Str} {q n : List Nat} (h : cs x = q ++ 47 :: n) (hn : 47 ∉ n) : Txt.rfind x (Str.ofString "/") = (q.length : Int) := by
  rw [slash_mk]
  have at' : ∀ i, StrLaws.At x ⟨#[47]⟩ x.length i ↔ (cs x)[i]? = some 47 := fun i => subAt_one x 47 i
  have hq : (cs x)[q.length]? = some 47 := by rw [h]; simp
  rcases rfind_whole x ⟨#[47]⟩ with ⟨_, hno⟩ | ⟨i, e, hi, hno⟩
  · exact absurd ((at' _).mpr hq) (hno _)
  · rw [e]
    have h1 := (at' i).mp hi
    have : i = q.length := by
      rcases Nat.lt_trichotomy i q.length with z | z | z
      · exact absurd ((at' _).mpr hq) (hno _ z)
      · exact z
      · rw [h, List.getElem?_append_right (by omega)] at h1
        obtain ⟨j, hj⟩ : ∃ j, i - q.length = j + 1 := ⟨i - q.length - 1, by omega⟩
        rw [hj, List.getElem?_cons_succ] at h1
        exact absurd (List.mem_of_getElem? h1) hn
    rw [this]
/-- a text that ends with a slash -/
theorem ends_cs (x : Str) : Txt.endswith x (Str.ofString "/") = true ↔ (cs x).getLast? = some 47 := by
  rw [slash_mk]
  have := subAt_one x 47 (x.length - 1)
  unfold Txt.endswith
  rw [Bool.and_eq_true, decide_eq_true_eq, List.getLast?_eq_getElem?, cs_len]
  show (0 + 1 ≤ x.length ∧ _) ↔ _
  rw [← this]
  show _ ↔ (x.length - 1 + 1 ≤ x.length ∧ _)
  constructor
  · rintro ⟨a, b⟩; exact ⟨by omega, b⟩
  · rintro ⟨a, b⟩
    refine ⟨?_, b⟩
    by_cases z : x.length = 0
    · exfalso
      have := this.mp ⟨by show x.length - 1 + 1 ≤ x.length; exact a, b⟩
      rw [show x.cps.toList = [] from List.eq_nil_of_length_eq_zero (by rw [cs_len x]; exact z)] at this
      simp at this
    · omega

theorem repl_flat (k : Nat) : (List.replicate k (#[47] : Array Nat)).foldl (· ++ ·) #[] = (List.replicate k 47).toArray := by
  have h : ∀ (k : Nat) (a : Array Nat), (List.replicate k (#[47] : Array Nat)).foldl (· ++ ·) a = a ++ (List.replicate k 47).toArray := by
    intro k
    induction k with
    | zero => intro a; simp
    | succ k ih =>
      intro a
      rw [List.replicate_succ, List.foldl_cons, ih]
      apply Array.toList_inj.mp
      simp [List.replicate_succ]
  rw [h]; simp
theorem mul_cs (k : Nat) : cs (Txt.mul (Str.ofString "/") (k : Int)) = List.replicate k 47 := by
  unfold Txt.mul
  split
  · have : k = 0 := by omega
    subst this; rfl
  · split
    · rename_i q
      rw [Bool.or_eq_true, beq_iff_eq] at q
      rcases q with q | q
      · have : k = 1 := by omega
        subst this; exact cs_slash
      · exfalso
        have : (Str.ofString "/").length = 1 := by rw [← cs_len, cs_slash]; rfl
        rw [this] at q; cases q
    · rw [slash_mk]
      show ((List.replicate (k : Int).toNat (#[47] : Array Nat)).foldl (· ++ ·) #[]).toList = _
      rw [Int.toNat_natCast, repl_flat]
/-- a head's slashes at its end go -/
theorem rstrip_cs {x : Str} {l : List Nat} (h : cs x = l ++ [47]) (hl : l.getLast? ≠ some 47) : cs (Txt.rstripChars x (Str.ofString "/")) = l := by
  have hc : ∀ c, (Str.ofString "/").cps.contains c = (c == 47) := fun c => by
    rw [slash_mk]
    simp [Array.contains]
  have htw : (List.takeWhile (Str.ofString "/").cps.contains (cs x).reverse).length = 1 := by
    rw [h, List.reverse_append]
    show (List.takeWhile _ (47 :: l.reverse)).length = 1
    rw [List.takeWhile_cons_of_pos (by rw [hc]; rfl)]
    cases e : l.reverse with
    | nil => rfl
    | cons a r =>
      have : l.getLast? = some a := by rw [← List.head?_reverse, e]; rfl
      rw [List.takeWhile_cons_of_neg (by rw [hc]; intro q; exact hl (by rw [this, eq_of_beq q]))]
      rfl
  unfold Txt.rstripChars
  rw [PyProof.Rows.stripBy_eq]
  show (x.cps.extract _ _).toList = _
  have e0 : stripLo (Str.ofString "/").cps.contains false x = 0 := rfl
  have e1 : stripHi (Str.ofString "/").cps.contains true x 0 = l.length := by
    unfold stripHi
    rw [if_pos rfl, List.drop_zero, htw, ← cs_len, h]
    simp
  rw [e0, e1, Array.toList_extract]
  show ((cs x).drop 0).take (l.length - 0) = l
  rw [h, List.drop_zero, Nat.sub_zero, List.take_left]
/-- the head of a path -/
theorem dirHead_cs {x : Str} {l : List Nat} (h : cs x = l ++ [47]) (hl : l.getLast? ≠ some 47) (h0 : l ≠ []) : cs (dirHead x) = l := by
  have hx : x.length = l.length + 1 := by rw [← cs_len, h]; simp
  unfold dirHead
  rw [if_neg (by omega), if_pos, rstrip_cs h hl]
  rw [bne_iff_ne]
  intro e
  have : cs x = List.replicate x.length 47 := by
    conv => lhs; rw [e]
    exact mul_cs _
  rw [hx, h] at this
  have hm : ∀ c ∈ l ++ [47], c = 47 := by rw [this]; exact fun c hc => List.eq_of_mem_replicate hc
  refine hl ?_
  rw [List.getLast?_eq_some_getLast h0, hm _ (List.mem_append_left _ (List.getLast_mem h0))]
theorem dirHead_all {x : Str} {k : Nat} (h : cs x = List.replicate k 47) : dirHead x = x := by
  have hx : x.length = k := by rw [← cs_len, h, List.length_replicate]
  unfold dirHead
  split
  · rfl
  · rw [if_neg]
    rw [bne_iff_ne]
    intro q
    exact q (cs_ext (by rw [mul_cs, hx]; exact h))
theorem base_cs {x : Str} {q n : List Nat} (h : cs x = q ++ 47 :: n) (hn : 47 ∉ n) : cs (baseT x) = n := by
  have hl : x.length = q.length + 1 + n.length := by rw [← cs_len, h]; simp; omega
  unfold baseT
  rw [rfind_cs h hn, show (q.length : Int) + 1 = ((q.length + 1 : Nat) : Int) by omega, slice_from x (by omega), h]
  rw [show q ++ 47 :: n = (q ++ [47]) ++ n by simp, show q.length + 1 = (q ++ [47]).length by simp, List.drop_left]
theorem dirSl_cs {x : Str} {q n : List Nat} (h : cs x = q ++ 47 :: n) (hn : 47 ∉ n) : cs (Txt.slice x none (some (Txt.rfind x (Str.ofString "/") + 1))) = q ++ [47] := by
  have hl : x.length = q.length + 1 + n.length := by rw [← cs_len, h]; simp; omega
  rw [rfind_cs h hn, show (q.length : Int) + 1 = ((q.length + 1 : Nat) : Int) by omega, slice_to x (by omega), h]
  rw [show q ++ 47 :: n = (q ++ [47]) ++ n by simp, show q.length + 1 = (q ++ [47]).length by simp, List.take_left]

/-! bytes -/
theorem encB_list (x : Str) : (encB x).toList = (cs x).map fun c => c.toUInt8 := rfl
theorem encB_ext {x : Str} {b : Array UInt8} (h : b.toList = (cs x).map fun c => c.toUInt8) : b = encB x := Array.toList_inj.mp (by rw [h, encB_list])
theorem low_47 {l : List Nat} (h : ∀ c ∈ l, c < 256) : (47 : UInt8) ∈ l.map (fun c => c.toUInt8) ↔ 47 ∈ l := by
  constructor
  · intro q
    obtain ⟨c, hc, e⟩ := List.mem_map.mp q
    have hl := h c hc
    have : c = 47 := by
      have := congrArg UInt8.toNat e
      simp at this
      omega
    exact this ▸ hc
  · intro q
    exact List.mem_map.mpr ⟨47, q, rfl⟩
theorem byte_47 {c : Nat} (h : c < 256) : c.toUInt8 = 47 ↔ c = 47 := by
  constructor
  · intro e
    have := congrArg UInt8.toNat e
    simp at this
    omega
  · rintro rfl; rfl
theorem find_last (p : Nat → Bool) {i n : Nat} (hi : i < n) (h : p i = true) (hn : ∀ j, i < j → j < n → p j = false) : (List.range n).reverse.find? p = some i := by
  induction n with
  | zero => omega
  | succ n ih =>
    rw [List.range_succ, List.reverse_append]
    show (n :: (List.range n).reverse).find? p = some i
    by_cases e : i = n
    · subst e; rw [List.find?_cons_of_pos h]
    · rw [List.find?_cons_of_neg (by rw [hn n (by omega) (by omega)]; exact Bool.false_ne_true)]
      exact ih (by omega) fun j h1 h2 => hn j h1 (by omega)
theorem ext_one (b : Array UInt8) (i : Nat) : (b.extract i (i + (#[47] : Array UInt8).size) == #[47]) = true ↔ b.toList[i]? = some 47 := by
  rw [beq_iff_eq, ← Array.toList_inj, Array.toList_extract]
  show (b.toList.drop i).take (i + 1 - i) = [47] ↔ _
  rw [show i + 1 - i = 1 by omega]
  have e : b.toList[i]? = (b.toList.drop i)[0]? := by rw [List.getElem?_drop]; rfl
  rw [e]
  cases b.toList.drop i with
  | nil => simp
  | cons a r => simp
theorem rfind_by {b : Array UInt8} {q n : List UInt8} (h : b.toList = q ++ 47 :: n) (hn : 47 ∉ n) : By.rfind b #[47] = (q.length : Int) := by
  have hsz : b.size = q.length + 1 + n.length := by rw [← Array.length_toList, h]; simp; omega
  have hf : Bytes.rfind? b #[47] 0 b.size = some q.length := by
    unfold Bytes.rfind?
    rw [show (List.range (b.size + 1 - (0 + (#[47] : Array UInt8).size))).map (· + 0) = List.range (b.size + 1 - (0 + (#[47] : Array UInt8).size)) by simp]
    refine find_last _ (by show q.length < b.size + 1 - (0 + 1); omega) ?_ ?_
    · rw [ext_one, h]; simp
    · intro j h1 h2
      rw [Bool.eq_false_iff]
      intro z
      rw [ext_one, h, List.getElem?_append_right (by omega)] at z
      obtain ⟨k, hk⟩ : ∃ k, j - q.length = k + 1 := ⟨j - q.length - 1, by omega⟩
      rw [hk, List.getElem?_cons_succ] at z
      exact hn (List.mem_of_getElem? z)
  unfold By.rfind
  rw [if_neg (by show ¬ ((b.size : Int) - 0 < ((1 : Nat) : Int)); omega), hf]
theorem picked_from (b : Array UInt8) {k : Nat} (h : k ≤ b.size) : (KBy.picked b (some (k : Int)) none).toList = b.toList.drop k := by
  have e : sliceBounds (some (k : Int)) none none b.size = ((k : Int), (b.size : Int), 1) := by
    unfold sliceBounds
    simp only [Option.getD_none, show (1 : Int) > 0 by decide, if_true]
    rw [if_neg (by omega)]
    congr 1
    omega
  unfold KBy.picked Bytes.sliced
  rw [e, range_cut]
  have hp := picks b.toList k (b.size - k)
  rw [List.take_of_length_le (by rw [List.length_drop, Array.length_toList]; exact Nat.le_refl _)] at hp
  rw [← hp]
  have ef : (fun i : Nat => b[i]?) = fun i => b.toList[i]? := funext fun i => Array.getElem?_toList.symm
  show ((List.map _ _).filterMap (fun i => b[i]?)) = _
  rw [ef]
theorem picked_to (b : Array UInt8) {k : Nat} (h : k ≤ b.size) : (KBy.picked b none (some (k : Int))).toList = b.toList.take k := by
  have e : sliceBounds none (some (k : Int)) none b.size = (((0 : Nat) : Int), (k : Int), 1) := by
    unfold sliceBounds
    simp only [Option.getD_none, show (1 : Int) > 0 by decide, if_true]
    rw [if_neg (by omega)]
    congr 2
    omega
  unfold KBy.picked Bytes.sliced
  rw [e, range_cut]
  have hp := picks b.toList 0 (k - 0)
  rw [List.drop_zero, Nat.sub_zero] at hp
  rw [← hp, Nat.sub_zero]
  have ef : (fun i : Nat => b[i]?) = fun i => b.toList[i]? := funext fun i => Array.getElem?_toList.symm
  show ((List.map _ _).filterMap (fun i => b[i]?)) = _
  rw [ef]
theorem base_by {b : Array UInt8} {q n : List UInt8} (h : b.toList = q ++ 47 :: n) (hn : 47 ∉ n) : (baseB b).toList = n := by
  have hl : b.size = q.length + 1 + n.length := by rw [← Array.length_toList, h]; simp; omega
  unfold baseB
  rw [rfind_by h hn, show (q.length : Int) + 1 = ((q.length + 1 : Nat) : Int) by omega, picked_from b (by omega), h]
  rw [show q ++ 47 :: n = (q ++ [47]) ++ n by simp, show q.length + 1 = (q ++ [47]).length by simp, List.drop_left]
theorem dirSl_by {b : Array UInt8} {q n : List UInt8} (h : b.toList = q ++ 47 :: n) (hn : 47 ∉ n) : (KBy.picked b none (some (By.rfind b #[47] + 1))).toList = q ++ [47] := by
  have hl : b.size = q.length + 1 + n.length := by rw [← Array.length_toList, h]; simp; omega
  rw [rfind_by h hn, show (q.length : Int) + 1 = ((q.length + 1 : Nat) : Int) by omega, picked_to b (by omega), h]
  rw [show q ++ 47 :: n = (q ++ [47]) ++ n by simp, show q.length + 1 = (q ++ [47]).length by simp, List.take_left]
theorem flat_47 (k : Nat) : (List.replicate k [(47 : UInt8)]).flatten.toArray.toList = List.replicate k 47 := by
  show (List.replicate k [(47 : UInt8)]).flatten = _
  induction k with
  | zero => rfl
  | succ k ih => rw [List.replicate_succ, List.flatten_cons, ih]; rfl
theorem dirHead_by {b : Array UInt8} {l : List UInt8} (h : b.toList = l ++ [47]) (hl : l.getLast? ≠ some 47) (h0 : l ≠ []) : (dirHeadB b).toList = l := by
  have hx : b.size = l.length + 1 := by rw [← Array.length_toList, h]; simp
  unfold dirHeadB
  rw [if_neg (by omega), if_pos]
  · unfold By.rstrip
    show (List.dropWhile _ b.toList.reverse).reverse = l
    rw [h, List.reverse_append]
    show (List.dropWhile _ (47 :: l.reverse)).reverse = l
    rw [List.dropWhile_cons_of_pos (by simp [Array.contains])]
    cases e : l.reverse with
    | nil => exact absurd (List.reverse_eq_nil_iff.mp e) h0
    | cons a r =>
      have : l.getLast? = some a := by rw [← List.head?_reverse, e]; rfl
      rw [List.dropWhile_cons_of_neg, ← e, List.reverse_reverse]
      intro q
      have : a = 47 := by simpa [Array.contains] using q
      exact hl (by rw [‹l.getLast? = some a›, this])
  · rw [bne_iff_ne, flat_47, Int.toNat_natCast, hx, h]
    intro e
    have hm : ∀ c ∈ l ++ [47], c = 47 := by rw [e]; exact fun c hc => List.eq_of_mem_replicate hc
    refine hl ?_
    rw [List.getLast?_eq_some_getLast h0, hm _ (List.mem_append_left _ (List.getLast_mem h0))]
theorem dirHead_ball {b : Array UInt8} {k : Nat} (h : b.toList = List.replicate k 47) : dirHeadB b = b := by
  have hx : b.size = k := by rw [← Array.length_toList, h, List.length_replicate]
  unfold dirHeadB
  split
  · rfl
  · rw [if_neg]
    rw [bne_iff_ne, flat_47, Int.toNat_natCast, hx, h]
    exact fun q => q rfl
theorem ends_by (b : Array UInt8) (h0 : 0 < b.size) : By.ends b #[47] = true ↔ b.toList.getLast? = some 47 := by
  unfold By.ends
  rw [if_neg (by show ¬ ((b.size : Int) - 0 < ((1 : Nat) : Int)); omega)]
  have := ext_one b (b.size - 1)
  rw [show b.size - 1 + (#[47] : Array UInt8).size = b.size by show b.size - 1 + 1 = _; omega] at this
  rw [List.getLast?_eq_getElem?, Array.length_toList]
  exact this

/-! the paths of the ways -/
theorem name_cs {n : Str} (h : NameOk n) : 47 ∉ cs n ∧ cs n ≠ [] ∧ (cs n).length ≤ 2 ∧ ∀ c ∈ cs n, c < 256 := by
  have h1 : cs (Str.ofString "a") = [97] := by decide +kernel
  have h2 : cs (Str.ofString "ab") = [97, 98] := by decide +kernel
  have h3 : cs (Str.ofString "b") = [98] := by decide +kernel
  have h4 : cs (Str.ofString ".b") = [46, 98] := by decide +kernel
  rcases h with rfl | rfl | rfl | rfl
  · rw [h1]; decide
  · rw [h2]; decide
  · rw [h3]; decide
  · rw [h4]; decide
theorem start_cs {st : Str} (h : st ∈ sts) : ((∃ k, cs st = List.replicate (k + 1) 47) ∨ (cs st).getLast? ≠ some 47) ∧ cs st ≠ [] ∧ (cs st).length ≤ 3 ∧ ∀ c ∈ cs st, c < 256 := by
  have h1 : cs (Str.ofString "/") = [47] := by decide +kernel
  have h2 : cs (Str.ofString ".") = [46] := by decide +kernel
  have h3 : cs (Str.ofString "//") = [47, 47] := by decide +kernel
  have h4 : cs (Str.ofString "r/s") = [114, 47, 115] := by decide +kernel
  simp only [sts, List.mem_cons, List.not_mem_nil, or_false] at h
  rcases h with rfl | rfl | rfl | rfl
  · rw [h1]; exact ⟨.inl ⟨0, rfl⟩, by decide⟩
  · rw [h2]; exact ⟨.inr (by decide), by decide⟩
  · rw [h3]; exact ⟨.inl ⟨1, rfl⟩, by decide⟩
  · rw [h4]; exact ⟨.inr (by decide), by decide⟩
theorem join_cs (p n : Str) : cs (joinT p n) = if (cs p).getLast? = some 47 then cs p ++ cs n else cs p ++ 47 :: cs n := by
  unfold joinT
  by_cases h : (cs p).getLast? = some 47
  · rw [if_pos ((ends_cs p).mpr h), if_pos h, cs_app]
  · rw [if_neg (fun q => h ((ends_cs p).mp q)), if_neg h, cs_app, cs_app, cs_slash]; rfl
theorem last_free {l n : List Nat} (h0 : n ≠ []) (h : 47 ∉ n) : (l ++ n).getLast? ≠ some 47 := by
  rw [List.getLast?_append, List.getLast?_eq_some_getLast h0, Option.some_or]
  intro q
  exact h ((Option.some.inj q) ▸ List.getLast_mem h0)
theorem join_last {p n : Str} (h : NameOk n) : (cs (joinT p n)).getLast? ≠ some 47 := by
  have f := name_cs h
  rw [join_cs]
  split
  · exact last_free f.2.1 f.1
  · rw [show cs p ++ 47 :: cs n = (cs p ++ [47]) ++ cs n by simp]
    exact last_free f.2.1 f.1
def tl (ns : List Str) : List Nat := (ns.map fun n => 47 :: cs n).flatten
theorem pathT_cons (p n : Str) (ns : List Str) : pathT p (n :: ns) = pathT (joinT p n) ns := rfl
theorem path_tl : ∀ {ns : List Str} {p : Str}, (cs p).getLast? ≠ some 47 → (∀ x ∈ ns, NameOk x) → cs (pathT p ns) = cs p ++ tl ns
  | [], p, _, _ => by simp [pathT, tl]
  | n :: ns, p, h, hn => by
    rw [pathT_cons, path_tl (join_last (hn n (.head _))) fun x hx => hn x (.tail _ hx), join_cs, if_neg h]
    simp [tl]
theorem path_sl {n : Str} {ns : List Str} {p : Str} (h : (cs p).getLast? = some 47) (hn : ∀ x ∈ n :: ns, NameOk x) : cs (pathT p (n :: ns)) = cs p ++ (cs n ++ tl ns) := by
  rw [pathT_cons, path_tl (join_last (hn n (.head _))) fun x hx => hn x (.tail _ hx), join_cs, if_pos h]
  simp
theorem sp_tl : ∀ {ns : List Str} {n : Str}, (∀ x ∈ n :: ns, NameOk x) → sp (cs n ++ tl ns) = (n :: ns).map cs
  | [], n, h => by
    rw [show tl [] = [] from rfl, List.append_nil]
    exact sp_free (name_cs (h n (.head _))).1
  | m :: ns, n, h => by
    have : tl (m :: ns) = 47 :: (cs m ++ tl ns) := by simp [tl]
    rw [this, sp_cons (name_cs (h n (.head _))).1, sp_tl fun x hx => h x (.tail _ hx)]
    rfl
theorem cs_inj : ∀ {a b : List Str}, a.map cs = b.map cs → a = b
  | [], [], _ => rfl
  | [], _ :: _, h => by simp at h
  | _ :: _, [], h => by simp at h
  | x :: a, y :: b, h => by
    simp only [List.map_cons, List.cons.injEq] at h
    rw [cs_ext h.1, cs_inj h.2]
theorem filt_names {ns : List Str} (h : ∀ x ∈ ns, NameOk x) : ns.filter (fun z => z != Str.empty) = ns := List.filter_eq_self.mpr fun x hx => by
  rw [bne_iff_ne]
  intro q
  exact (name_cs (h x hx)).2.1 (by rw [q]; rfl)
theorem names_of {T : Str} {ns : List Str} (h : ∀ x ∈ ns, NameOk x) (hs : sp (cs T) = [] :: ns.map cs ∨ (ns ≠ [] ∧ sp (cs T) = ns.map cs)) : (Txt.split T (Str.ofString "/")).filter (fun z => z != Str.empty) = ns := by
  rcases split_cs T with q | ⟨q, q0⟩
  · rcases hs with e | ⟨_, e⟩
    · rw [e] at q
      cases hps : Txt.split T (Str.ofString "/") with
      | nil => rw [hps] at q; simp at q
      | cons p r =>
        rw [hps] at q
        simp only [List.map_cons, List.cons.injEq] at q
        have hp : p = Str.empty := cs_ext q.1
        rw [hp, List.filter_cons_of_neg (by simp), cs_inj q.2]
        exact filt_names h
    · rw [e] at q
      rw [cs_inj q]
      exact filt_names h
  · rw [q]
    rw [q0] at hs
    rcases hs with e | ⟨hne, e⟩
    · have : ns.map cs = [] := by
        have : ([[]] : List (List Nat)) = [] :: ns.map cs := e
        simpa using this.symm
      rw [List.map_eq_nil_iff.mp this]; rfl
    · cases ns with
      | nil => exact absurd rfl hne
      | cons n r =>
        have : ([[]] : List (List Nat)) = cs n :: r.map cs := e
        simp only [List.cons.injEq] at this
        exact absurd this.1.symm (name_cs (h n (.head _))).2.1
theorem names_path {st : Str} (hst : st ∈ sts) {ns : List Str} (h : ∀ x ∈ ns, NameOk x) : namesT (pathT st ns) st = ns := by
  have hs := start_cs hst
  unfold namesT
  have cut : ∀ {l : List Nat}, cs (pathT st ns) = cs st ++ l → cs (Txt.slice (pathT st ns) (some (st.length : Int)) none) = l := by
    intro l e
    rw [slice_from _ (by rw [← cs_len, ← cs_len, e, List.length_append]; omega), e, ← cs_len, List.drop_left]
  by_cases he : (cs st).getLast? = some 47
  · cases ns with
    | nil => exact names_of h (.inl (by rw [cut (l := []) (by simp [pathT])]; rfl))
    | cons n r => exact names_of h (.inr ⟨by simp, by rw [cut (path_sl he h), sp_tl h]⟩)
  · refine names_of h (.inl ?_)
    rw [cut (path_tl he h)]
    cases ns with
    | nil => rfl
    | cons n r =>
      have : tl (n :: r) = 47 :: (cs n ++ tl r) := by simp [tl]
      rw [this, sp_slash, sp_tl h]
theorem path_end {st : Str} (hst : st ∈ sts) {ns : List Str} (h : ∀ x ∈ ns, NameOk x) : (cs (pathT st ns)).getLast? ≠ some 47 ∨ ∃ k, cs (pathT st ns) = List.replicate (k + 1) 47 := by
  rcases List.eq_nil_or_concat ns with rfl | ⟨r, m, rfl⟩
  · rcases (start_cs hst).1 with q | q
    · exact .inr q
    · exact .inl q
  · refine .inl ?_
    rw [List.concat_eq_append] at h ⊢
    have : pathT st (r ++ [m]) = joinT (pathT st r) m := by unfold pathT; rw [List.foldl_append]; rfl
    rw [this]
    exact join_last (h m (List.mem_append_right _ (.head _)))
theorem path_len : ∀ {ns : List Str} {p : Str}, (∀ x ∈ ns, NameOk x) → (cs p).length ≤ (cs (pathT p ns)).length ∧ (cs (pathT p ns)).length ≤ (cs p).length + 3 * ns.length ∧ ((∀ c ∈ cs p, c < 256) → ∀ c ∈ cs (pathT p ns), c < 256)
  | [], p, _ => ⟨Nat.le_refl _, Nat.le_refl _, fun h => h⟩
  | n :: ns, p, h => by
    have f := name_cs (h n (.head _))
    obtain ⟨h1, h2, h3⟩ := path_len (ns := ns) (p := joinT p n) fun x hx => h x (.tail _ hx)
    rw [pathT_cons]
    have hj := join_cs p n
    have hl : (cs p).length ≤ (cs (joinT p n)).length ∧ (cs (joinT p n)).length ≤ (cs p).length + 3 := by
      rw [hj]
      split
      · rw [List.length_append]; omega
      · rw [List.length_append, List.length_cons]; omega
    refine ⟨by omega, by rw [List.length_cons]; omega, fun hp => h3 fun c hc => ?_⟩
    rw [hj] at hc
    split at hc
    · rcases List.mem_append.mp hc with hc | hc
      · exact hp c hc
      · exact f.2.2.2 c hc
    · rcases List.mem_append.mp hc with hc | hc
      · exact hp c hc
      · rcases List.mem_cons.mp hc with rfl | hc
        · decide
        · exact f.2.2.2 c hc
theorem low_path {st : Str} (hst : st ∈ sts) {ns : List Str} (h : ∀ x ∈ ns, NameOk x) (hl : ns.length ≤ 5) : Low (pathT st ns) ∧ 0 < (pathT st ns).length ∧ (pathT st ns).length ≤ 1000 := by
  have s := start_cs hst
  obtain ⟨h1, h2, h3⟩ := path_len (p := st) h
  have h0 := List.length_pos_iff.mpr s.2.1
  have hs := s.2.2.1
  rw [← cs_len]
  exact ⟨h3 s.2.2.2, by omega, by omega⟩
theorem last_map {l : List Nat} (h : ∀ c ∈ l, c < 256) : (l.map fun c => c.toUInt8).getLast? = some 47 ↔ l.getLast? = some 47 := by
  rw [List.getLast?_map]
  cases e : l.getLast? with
  | none => simp
  | some c =>
    have hc : c ∈ l := List.mem_of_getLast? e
    simp only [Option.map_some, Option.some.injEq]
    exact byte_47 (h c hc)
theorem joinB_path {p n : Str} (hp : Low p) (h0 : 0 < p.length) : joinB (encB p) (encB n) = encB (joinT p n) := by
  have hz : 0 < (encB p).size := by rw [encB_size]; exact h0
  have key : By.ends (encB p) #[47] = true ↔ (cs p).getLast? = some 47 := by rw [ends_by _ hz, encB_list, last_map hp]
  refine encB_ext ?_
  rw [join_cs]
  unfold joinB
  by_cases q : (cs p).getLast? = some 47
  · rw [if_pos (key.mpr q), if_pos q, Array.toList_append, encB_list, encB_list, List.map_append]
  · rw [if_neg (fun z => q (key.mp z)), if_neg q, Array.toList_append, Array.toList_append, encB_list, encB_list, List.map_append]
    rfl
/-- the parts of a path that ends with a name -/
theorem parts {p n : Str} (hpe : (cs p).getLast? ≠ some 47 ∨ ∃ k, cs p = List.replicate (k + 1) 47) : ∃ q, cs (joinT p n) = q ++ 47 :: cs n ∧ ((q = cs p ∧ (cs p).getLast? ≠ some 47) ∨ (q ++ [47] = cs p ∧ ∃ k, cs p = List.replicate (k + 1) 47)) := by
  rw [join_cs]
  rcases hpe with h | ⟨k, hk⟩
  · rw [if_neg h]
    exact ⟨cs p, rfl, .inl ⟨rfl, h⟩⟩
  · have hs : List.replicate (k + 1) 47 = List.replicate k 47 ++ [47] := by rw [List.replicate_succ']
    rw [if_pos (by rw [hk, hs]; simp), hk, hs]
    exact ⟨List.replicate k 47, by simp, .inr ⟨rfl, k, by rw [hs]⟩⟩
theorem base_path {p n : Str} (hpe : (cs p).getLast? ≠ some 47 ∨ ∃ k, cs p = List.replicate (k + 1) 47) (hn : NameOk n) : baseT (joinT p n) = n ∧ baseB (encB (joinT p n)) = encB n := by
  have f := name_cs hn
  obtain ⟨q, e, _⟩ := parts (n := n) hpe
  refine ⟨cs_ext (base_cs e f.1), encB_ext ?_⟩
  have eb : (encB (joinT p n)).toList = q.map (fun c => c.toUInt8) ++ 47 :: (cs n).map fun c => c.toUInt8 := by rw [encB_list, e]; simp
  exact base_by eb fun z => f.1 ((low_47 f.2.2.2).mp z)
theorem dir_path {p n : Str} (hpe : (cs p).getLast? ≠ some 47 ∨ ∃ k, cs p = List.replicate (k + 1) 47) (hn : NameOk n) (hlow : Low p) (h0 : 0 < p.length) : dirT (joinT p n) = p ∧ dirB (encB (joinT p n)) = encB p := by
  have f := name_cs hn
  obtain ⟨q, e, hq⟩ := parts (n := n) hpe
  have eb : (encB (joinT p n)).toList = q.map (fun c => c.toUInt8) ++ 47 :: (cs n).map fun c => c.toUInt8 := by rw [encB_list, e]; simp
  have s1 := dirSl_cs e f.1
  have s2 := dirSl_by eb fun z => f.1 ((low_47 f.2.2.2).mp z)
  rcases hq with ⟨rfl, hl⟩ | ⟨hq, k, hk⟩
  · have hne : cs p ≠ [] := List.length_pos_iff.mp (by rw [cs_len]; exact h0)
    refine ⟨cs_ext (dirHead_cs s1 hl hne), encB_ext ?_⟩
    exact dirHead_by s2 (fun z => hl ((last_map hlow).mp z)) (by simpa using hne)
  · refine ⟨?_, encB_ext ?_⟩
    · unfold dirT
      rw [hq] at s1
      rw [dirHead_all (s1.trans hk)]
      exact cs_ext s1
    · unfold dirB
      have s3 : (KBy.picked (encB (joinT p n)) none (some (By.rfind (encB (joinT p n)) #[47] + 1))).toList = (cs p).map fun c => c.toUInt8 := by
        rw [s2, ← hq]; simp
      rw [dirHead_ball (k := k + 1) (by rw [s3, hk]; simp)]
      exact s3
end Mine

end

section
open PySem PySem.W PyProof.Rows PySem.Calls
set_option maxRecDepth 100000
namespace Mine
theorem calm_pl : True := by
  w_top off
  trivial
def WayOk (k : Nat) (ns : List Str) : Prop := (∀ x ∈ ns, NameOk x) ∧ ns.length ≤ k
theorem pathT_snoc (st : Str) (ns : List Str) (n : Str) : pathT st (ns ++ [n]) = joinT (pathT st ns) n := by
  unfold pathT; rw [List.foldl_append]; rfl
theorem name_facts {n : Str} (h : NameOk n) : Low n ∧ n.length ≤ 1000 ∧ Txt.startswith n (Str.ofString "/") = false ∧ By.starts (encB n) #[47] = false := by
  rcases h with rfl | rfl | rfl | rfl
  all_goals refine ⟨?_, ?_, ?_, ?_⟩
  all_goals first | (unfold Low; decide +kernel) | decide +kernel
theorem path_names {st : Str} (hst : st ∈ sts) {ns : List Str} (h : WayOk 5 ns) : namesT (pathT st ns) st = ns := names_path hst h.1
theorem path_low {st : Str} (hst : st ∈ sts) {ns : List Str} (h : WayOk 5 ns) : Low (pathT st ns) ∧ 0 < (pathT st ns).length ∧ (pathT st ns).length ≤ 1000 := low_path hst h.1 h.2
theorem path_joinB {st : Str} (hst : st ∈ sts) {ns : List Str} (n : Str) (h : WayOk 4 ns) : joinB (encB (pathT st ns)) (encB n) = encB (joinT (pathT st ns) n) := by
  have hl := low_path hst h.1 (Nat.le_succ_of_le h.2)
  exact joinB_path hl.1 hl.2.1
theorem path_base {st : Str} (hst : st ∈ sts) {ns : List Str} {n : Str} (h : WayOk 3 ns) (hn : NameOk n) : baseT (pathT st (ns ++ [n])) = n ∧ baseB (encB (pathT st (ns ++ [n]))) = encB n := by
  rw [pathT_snoc]
  exact base_path (path_end hst h.1) hn
theorem path_dir {st : Str} (hst : st ∈ sts) {ns : List Str} {n : Str} (h : WayOk 3 ns) (hn : NameOk n) : dirT (pathT st (ns ++ [n])) = pathT st ns ∧ dirB (encB (pathT st (ns ++ [n]))) = encB (pathT st ns) := by
  rw [pathT_snoc]
  have hl := low_path hst h.1 (Nat.le_trans h.2 (by decide))
  exact dir_path (path_end hst h.1) hn hl.1 hl.2.1
theorem start_facts {st : Str} (hst : st ∈ sts) : st.length ≤ 10 ∧ Low st := by
  simp only [sts, List.mem_cons, List.not_mem_nil, or_false] at hst
  rcases hst with rfl | rfl | rfl | rfl
  all_goals refine ⟨?_, ?_⟩
  all_goals first | (unfold Low; decide +kernel) | decide +kernel
theorem WayOk.snoc {k : Nat} {ns : List Str} {n : Str} (h : WayOk k ns) (hn : NameOk n) : WayOk (k + 1) (ns ++ [n]) :=
  ⟨fun x hx => (List.mem_append.mp hx).elim (h.1 x) fun q => by rw [List.mem_singleton.mp q]; exact hn, by rw [List.length_append, List.length_singleton]; exact Nat.succ_le_succ h.2⟩
theorem WayOk.mono {k j : Nat} {ns : List Str} (h : WayOk k ns) (hk : k ≤ j) : WayOk j ns := ⟨h.1, Nat.le_trans h.2 hk⟩

theorem names_way (w : World) {oct : Bool} {st : Str} {ns : List Str} {v : Value} (hv : PathV oct (pathT st ns) v) (hst : st ∈ sts) (h : WayOk 5 ns) (u : Tok) : Calls 40 w 156 [v, .str st u] (fun _ => True) (NewStrs ns) := by
  have hl := path_low hst h
  have := names_at w hv st u hl.2.2 (start_facts hst).1 hl.1
  rw [path_names hst h] at this
  exact this
theorem kind_name (w : World) {n : Str} (oct : Bool) (t : Tok) (hn : NameOk n) : Calls 20 w 146 [.str n t, .bool oct] (fun _ => True) (fun _ _ v => PathV oct n v) :=
  kind_at w oct n t (name_facts hn).2.1 (name_facts hn).1
theorem kind_start (w : World) {st : Str} (oct : Bool) (t : Tok) (hst : st ∈ sts) : Calls 20 w 146 [.str st t, .bool oct] (fun _ => True) (fun _ _ v => PathV oct st v) :=
  kind_at w oct st t (Nat.le_trans (start_facts hst).1 (by decide)) (start_facts hst).2
theorem join_way (w : World) {oct : Bool} {st : Str} {ns : List Str} {n : Str} {v u : Value} (hv : PathV oct (pathT st ns) v) (hu : PathV oct n u) (hst : st ∈ sts) (h : WayOk 4 ns) (hn : NameOk n) :
    Calls 20 w 122 [v, u] (fun _ => True) (fun _ _ v => PathV oct (pathT st (ns ++ [n])) v) := by
  have hl := path_low hst (h.mono (by decide))
  have f := name_facts hn
  have := join_at w hv hu hl.2.2 f.2.1 hl.2.1 f.2.2.1 f.2.2.2 (path_joinB hst n h)
  rw [← pathT_snoc] at this
  exact this
theorem base_way (w : World) {oct : Bool} {st : Str} {ns : List Str} {n : Str} {v : Value} (hv : PathV oct (pathT st (ns ++ [n])) v) (hst : st ∈ sts) (h : WayOk 3 ns) (hn : NameOk n) :
    Calls 20 w 129 [v] (fun _ => True) (fun _ _ v => PathV oct n v) := by
  have hl := path_low hst ((h.snoc hn).mono (by decide))
  have q := path_base hst h hn
  have := base_at w hv hl.2.2 (by rw [q.1]; exact q.2)
  rw [q.1] at this
  exact this
theorem dir_way (w : World) {oct : Bool} {st : Str} {ns : List Str} {n : Str} {v : Value} (hv : PathV oct (pathT st (ns ++ [n])) v) (hst : st ∈ sts) (h : WayOk 3 ns) (hn : NameOk n) :
    Calls 20 w 136 [v] (fun _ => True) (fun _ _ v => PathV oct (pathT st ns) v) := by
  have hl := path_low hst ((h.snoc hn).mono (by decide))
  have q := path_dir hst h hn
  have := dir_at w hv hl.2.2 (by rw [q.1]; exact q.2)
  rw [q.1] at this
  exact this
theorem node_way (w : World) (W l : Addr) (ws : Wld) (ns : List Str) (vs : List Value) (hns : StrsAre vs ns) (hw : WldOk ws) (k : Nat) (hk : nodeP ws 0 ns = some k) :
    Calls 40 w 161 [.ref W, .ref l] (fun g => IsWld g W ws ∧ g.IsList l (List.toArray vs)) (fun _ _ v => ∃ t, v = .int (k : Int) t) := by
  have := node_at w W l ws ns vs hns hw
  rw [hk] at this
  exact this

section
variable {k : Nat} {w : World} {f : Addr} {vs : List Value} {P : Heap → Prop} {h₀ : Heap}
  {p : Program} {loose : List Str} {mean : ExcName → Option Value} {mg mb : Str → Option Value} {dp un : Nat} {gd : Option (List Code)} {cn : Str} {cs : Scope} {a : Addr} {ccd : Value} {cl : List (Str × Addr)} {outer : List Env}
    {A₀ : Around} {base : Heap} {L : Addr} {m : Str → Option Value} {news : List (Addr × Obj)} {s : Shared} {Q E : Value → Shared → Prop}
theorem useStrs {ns : List Str} (C : Calls k w f vs P (NewStrs ns)) (B : Below A₀ base outer h₀) (F : Fr h₀ L s.heap m) (X : (hd.heap_39 w.params).In h₀) (N : News h₀ L s.heap news) (T : Top p loose mean mg mb h₀) (hk : cs.kind = .function)
    (hd : dp + k < recursionLimit) (hu : un + 10 * k < cLine) (hP : P s.heap) (h : ∀ D ys j h' tk', Fr h₀ L h' m → News h₀ L h' ((D, listOf (List.toArray ys) j) :: news) → AllNe D news → StrsAre ys ns → Q (.ref D) { s with heap := h', toks := tk' }) :
    wpAny (model PySem.Challenge.rw_ab6012_01.row.prog w) (ktrTop dp un gd cn cs L a ccd cl outer) (call (.ref f) vs) Q E s :=
  useC C B F X N T hk hd hu hP fun v h' tk' st F' N' r => by
    obtain ⟨D, ys, j, rfl, hn, ho, hs⟩ := r
    have q := news_new F N N' hn ho
    exact h D ys j h' tk' F' q.1 q.2 hs
theorem useBuf {j : Nat} (C : Calls k w f vs P (NewBuf j)) (B : Below A₀ base outer h₀) (F : Fr h₀ L s.heap m) (X : (hd.heap_39 w.params).In h₀) (N : News h₀ L s.heap news) (T : Top p loose mean mg mb h₀) (hk : cs.kind = .function)
    (hd : dp + k < recursionLimit) (hu : un + 10 * k < cLine) (hP : P s.heap) (h : ∀ b d o od h' tk', Fr h₀ L h' m → News h₀ L h' ((b, o) :: (d, od) :: news) → AllNe b news → AllNe d news → @Ne Nat b d → BufO o od d j → Q (.ref b) { s with heap := h', toks := tk' }) :
    wpAny (model PySem.Challenge.rw_ab6012_01.row.prog w) (ktrTop dp un gd cn cs L a ccd cl outer) (call (.ref f) vs) Q E s :=
  useC C B F X N T hk hd hu hP fun v h' tk' st F' N' r => by
    obtain ⟨b, d, o, od, rfl, bd, gb, gd', hb, hd', BO⟩ := r
    have q1 := news_new F N N' gd' hd'
    have q2 := news_new F N N' gb hb
    refine h b d o od h' tk' F' (fun p hp => ?_) q2.2 q1.2 bd BO
    rcases List.mem_cons.mp hp with rfl | hp
    · exact q2.1 _ (.head _)
    · exact q1.1 p hp
end
theorem IsWld.keeps {g h : Heap} {W : Addr} {ws : Wld} (H : IsWld g W ws) (k : ∀ b o, g.get? b = some o → h.get? b = some o) : IsWld h W ws := by
  obtain ⟨its, ⟨o, e, r⟩, hs, hI⟩ := H
  refine ⟨its, ⟨o, k _ _ e, r⟩, hs, fun i es he => ?_⟩
  obtain ⟨a, ts, h1, ⟨o2, e2, r2⟩, h3, h4⟩ := hI i es he
  refine ⟨a, ts, h1, ⟨o2, k _ _ e2, r2⟩, h3, fun j p hp => ?_⟩
  obtain ⟨b, t1, t2, q1, o3, e3, r3⟩ := h4 j p hp
  exact ⟨b, t1, t2, q1, o3, k _ _ e3, r3⟩
end Mine

end

section
open PySem PySem.W PyProof.Rows PySem.Calls PyProof.Rows.LCg
set_option maxRecDepth 100000
namespace Mine
theorem calm_wk : True := by
  w_top off
  trivial
local macro_rules | `(tactic| walk_at "mine.room") => `(tactic| first
  | omega
  | ((try simp only [depth_under_make, depth_under_kw, depth_in1, depth_deeper, depth_caller]); (try dsimp only [ktrTop]); omega)
  | ((have hcL9 := cLine_is); (try simp only [units_in1, units_deeper, Around.mark_units, units_caller] at *); (try dsimp only [ktrTop] at *); omega))
local macro_rules | `(tactic| k_all) => `(tactic| first | assumption | exact AllNe.mem (by assumption))
local macro_rules | `(tactic| walk_at "mine.tl") => `(tactic| first | assumption | exact List.Mem.head _ | (refine List.Mem.tail _ ?_; walk_at "mine.tl"))
local macro_rules | `(tactic| walk_at "mine.alln") => `(tactic| first | exact trivial | assumption | (refine And.intro ?_ ?_; (focus (k_ne; done)); walk_at "mine.alln"))
local macro_rules | `(tactic| k_ne) => `(tactic| (refine neN ?_; (try dsimp only); first
  | with_reducible assumption
  | (refine Nat.ne_of_lt ?_; (simp only [*]); done)
  | (refine Nat.ne_of_gt ?_; (simp only [*]); done)
  | ((simp only [ne_eq, not_false_eq_true, *]); done)
  | (refine Ne.symm ?_; (simp only [ne_eq, not_false_eq_true, *]); done)))
local macro_rules | `(tactic| walk_at "mine.look") => `(tactic| first | with_reducible assumption | exact if_pos rfl | (refine (if_neg (by decide)).trans ?_; walk_at "mine.look") | exact rfl)
local macro_rules | `(tactic| walk_at "eval Name") => `(tactic| (k_here; (with_reducible show wpAny _ _ (eval (Expr.Name _ _) _) _ _ _); k_dflt (refine' nameX_L ?k1 ?k2 ?_ ?k3 ?k4 ?k5; (case k3 => exact rfl); (case k4 => exact rfl); (case k5 => decide); (case k1 => k_asm); (case k2 => walk_at "mine.look"); k_whole)))
local macro_rules | `(tactic| walk_at "exec While") => `(tactic| (k_here; with_reducible refine Hold.out ?_))
local macro_rules | `(tactic| walk_at "exec While Compare") => `(tactic| (k_here; with_reducible refine Hold.out ?_))

theorem bufN {h₀ h : Heap} {L b d : Addr} {news : Ledger} {o od : Obj} {k : Nat} (N : News h₀ L h news) (m1 : (b, o) ∈ news) (x : BufO o od d k) (m2 : (d, od) ∈ news) : IsBuf h b k := ⟨d, o, od, (N _ m1).1, (N _ m2).1, x⟩
theorem isListN {h₀ h : Heap} {L D : Addr} {news : Ledger} {its : Array Value} {k : Nat} (N : News h₀ L h news) (m : (D, listOf its k) ∈ news) : h.IsList D its := ⟨_, (N _ m).1, rfl, _, rfl⟩
theorem sub_nil {l : Ledger} : ∀ p ∈ ([] : Ledger), p ∈ l := fun _ h => by cases h
theorem sub_cons {a : Addr × Obj} {r l : Ledger} (h1 : a ∈ l) (h2 : ∀ p ∈ r, p ∈ l) : ∀ p ∈ a :: r, p ∈ l := fun p hp => by
  rcases List.mem_cons.mp hp with rfl | hp
  · exact h1
  · exact h2 p hp
theorem sub_up {a : Addr × Obj} {r l : Ledger} (h : ∀ p ∈ r, p ∈ l) : ∀ p ∈ r, p ∈ a :: l := fun p hp => .tail _ (h p hp)
theorem off_nil {I : Addr} : ∀ p ∈ ([] : Ledger), p.1 ≠ I := fun _ h => by cases h
theorem off_cons {I : Addr} {a : Addr × Obj} {r : Ledger} (h1 : @Ne Nat a.1 I) (h2 : ∀ p ∈ r, p.1 ≠ I) : ∀ p ∈ a :: r, p.1 ≠ I := fun p hp => by
  rcases List.mem_cons.mp hp with rfl | hp
  · exact h1
  · exact h2 p hp
local macro_rules | `(tactic| walk_at "mine.memr") => `(tactic| first | with_reducible assumption | with_reducible exact List.mem_cons_self | ((with_reducible refine List.mem_cons_of_mem _ ?_); walk_at "mine.memr"))
local macro_rules | `(tactic| walk_at "mine.mem") => `(tactic| first | walk_at "mine.memr" | k_mem | walk_at "mine.tl")
local macro_rules | `(tactic| walk_at "mine.up") => `(tactic| first | with_reducible exact fun _ h => h | with_reducible assumption | ((with_reducible refine sub_up ?_); walk_at "mine.up"))
local macro_rules | `(tactic| walk_at "mine.sub") => `(tactic| first | with_reducible exact sub_nil | ((with_reducible refine sub_cons ?_ ?_); (focus (walk_at "mine.mem"; done)); walk_at "mine.sub") | walk_at "mine.up")
local macro_rules | `(tactic| walk_at "mine.off2") => `(tactic| first | exact off_nil | exact AllNe.mem (by with_reducible assumption) | (refine off_cons ?_ ?_; (focus (k_ne; done)); walk_at "mine.off2"))
local macro_rules | `(tactic| walk_at "mine.off") => `(tactic| first | exact off_nil | (refine off_cons ?_ ?_; (focus ((try dsimp only); omega; done)); walk_at "mine.off") | assumption | exact AllNe.mem (by with_reducible assumption))

def BufIn (rest : Ledger) (v : Value) (k : Nat) : Prop := ∃ b d o od, v = .ref b ∧ (b, o) ∈ rest ∧ (d, od) ∈ rest ∧ BufO o od d k
def LineIn (rest : Ledger) (v : Value) (ks : List Nat) : Prop := ∃ D vs k, v = .ref D ∧ (D, listOf (List.toArray vs) k) ∈ rest ∧ All2 (BufIn rest) vs ks
def WorkIn (st : Str) (oct : Bool) (rest : Ledger) (v : Value) (row : Row) : Prop := ∃ T n a b, v = .ref T ∧ (T, tup2 a b n) ∈ rest ∧ PathV oct (pathT st row.1) a ∧ LineIn rest b row.2
section
variable {r r' : Ledger} (k : ∀ p ∈ r, p ∈ r')
include k
theorem BufIn.mono {v : Value} {n : Nat} (h : BufIn r v n) : BufIn r' v n := let ⟨b, d, o, od, e, m1, m2, x⟩ := h; ⟨b, d, o, od, e, k _ m1, k _ m2, x⟩
theorem LineIn.mono {v : Value} {ks : List Nat} (h : LineIn r v ks) : LineIn r' v ks := let ⟨D, vs, n, e, m, a⟩ := h; ⟨D, vs, n, e, k _ m, a.mono fun _ _ x => x.mono k⟩
theorem WorkIn.mono {st : Str} {oct : Bool} {v : Value} {row : Row} (h : WorkIn st oct r v row) : WorkIn st oct r' v row := let ⟨T, n, a, b, e, m, x, y⟩ := h; ⟨T, n, a, b, e, k _ m, x, y.mono k⟩
end
/-- what a walk of a world gives -/
def WalkNew (ws : Wld) (all : Bool) (st : Str) (oct : Bool) (g h' : Heap) (v : Value) : Prop := ∃ r T n a b c D vs k, NewIn g h' r ∧ v = .ref T ∧ (T, ({ cls := .type "tuple", data := .seq #[a, b, c] n } : Obj)) ∈ r ∧ TextsIn r a (fin ws all).listed ∧ TextsIn r b (fin ws all).loops ∧
  c = .ref D ∧ (D, listOf (List.toArray vs) k) ∈ r ∧ All2 (fun v ns => PathV oct (pathT st ns) v) vs (fin ws all).listed

/-- the heap of a walk's loop -/
def WalkJ (g : Heap) (L₁ : Addr) (s₀ : Shared) (W : Addr) (ws : Wld) (all : Bool) (st : Str) (oct : Bool) (Lo Sp Li Se Wo : Addr) (n : Nat) (s' : Shared) : Prop :=
  ∃ h tk m vlo klo vsp ksp vli kli vse kse vwo kwo oc z rest S t, s' = { s₀ with heap := h, toks := tk } ∧ Fr g L₁ h m ∧
    News g L₁ h ((Lo, listOf (List.toArray vlo) klo) :: (Sp, listOf (List.toArray vsp) ksp) :: (Li, listOf (List.toArray vli) kli) :: (Se, listOf (List.toArray vse) kse) :: (Wo, listOf (List.toArray vwo) kwo) :: (L₁ + 1, oc) :: rest) ∧
    AllNe Lo rest ∧ AllNe Sp rest ∧ AllNe Li rest ∧ AllNe Se rest ∧ AllNe Wo rest ∧ AllNe (L₁ + 1) rest ∧ oc.data = Data.cell z ∧
    m (Str.ofString "world") = some (.ref W) ∧ m (Str.ofString "text") = some (.str st t) ∧ m (Str.ofString "octets") = some (.bool oct) ∧ m (Str.ofString "keep_all") = some (.bool all) ∧
    m (Str.ofString "loops") = some (.ref Lo) ∧ m (Str.ofString "spelled") = some (.ref Sp) ∧ m (Str.ofString "listed") = some (.ref Li) ∧ m (Str.ofString "seen") = some (.ref Se) ∧ m (Str.ofString "work") = some (.ref Wo) ∧
    All2 (WorkIn st oct rest) vwo.reverse S.work ∧ All2 (BufIn rest) vse S.seen ∧ All2 (StrsIn rest) vli S.listed ∧ All2 (StrsIn rest) vlo S.loops ∧ All2 (fun v ns => PathV oct (pathT st ns) v) vsp S.listed ∧
    StOk ws S ∧ StSz S ∧ run ws all 31 S = fin ws all ∧ n = wt ws.length S.work
local macro_rules | `(tactic| walk_at "call ref") => `(tactic| (k_here; first
  | ((with_reducible show wpAny _ _ (call (Value.ref 168) _) _ _ _); k_dflt (refine' useBuf (buffer_at _ _ _ (by first | decide | omega)) ?B ?F ?X ?N ?T ?hk ?hd ?hu ?hP ?_; (case B => k_asm); (case F => k_asm); (case X => k_asm); (case N => k_asm); (case T => k_asm); (case hk => first | exact rfl | assumption); (case hd => walk_at "mine.room"); (case hu => walk_at "mine.room"); (case hP => exact trivial)); intro b' d' o' od' h' tk' F' N' n1' n2' ne' bo'; (try simp only [AllNe, and_true] at n1' n2'); (try dsimp only))))
local macro_rules | `(tactic| walk_at "call ref") => `(tactic| (k_here; first
  | ((with_reducible show wpAny _ _ (call (Value.ref 146) _) _ _ _); k_dflt (refine' useC (kind_name _ _ _ (by with_reducible assumption)) ?B ?F ?X ?N ?T ?hk ?hd ?hu ?hP ?_; (case B => k_asm); (case F => k_asm); (case X => k_asm); (case N => k_asm); (case T => k_asm); (case hk => first | exact rfl | assumption); (case hd => walk_at "mine.room"); (case hu => walk_at "mine.room"); (case hP => exact trivial)); intro v' h' tk' st' F' N' r'; (try dsimp only at r'); (try dsimp only))
  | ((with_reducible show wpAny _ _ (call (Value.ref 146) _) _ _ _); k_dflt (refine' useC (kind_start _ _ _ (by with_reducible assumption)) ?B ?F ?X ?N ?T ?hk ?hd ?hu ?hP ?_; (case B => k_asm); (case F => k_asm); (case X => k_asm); (case N => k_asm); (case T => k_asm); (case hk => first | exact rfl | assumption); (case hd => walk_at "mine.room"); (case hu => walk_at "mine.room"); (case hP => exact trivial)); intro v' h' tk' st' F' N' r'; (try dsimp only at r'); (try dsimp only))))
local macro_rules | `(tactic| walk_at "call ref") => `(tactic| (k_here; first
  | ((with_reducible show wpAny _ _ (call (Value.ref 156) _) _ _ _); k_dflt (refine' useStrs (names_way _ (by with_reducible assumption) (by with_reducible assumption) (by with_reducible assumption) _) ?B ?F ?X ?N ?T ?hk ?hd ?hu ?hP ?_; (case B => k_asm); (case F => k_asm); (case X => k_asm); (case N => k_asm); (case T => k_asm); (case hk => first | exact rfl | assumption); (case hd => walk_at "mine.room"); (case hu => walk_at "mine.room"); (case hP => exact trivial)); intro D' ys' j' h' tk' F' N' n1' sa'; (try simp only [AllNe, and_true] at n1'); (try dsimp only))))
local macro_rules | `(tactic| walk_at "call ref") => `(tactic| (k_here; first
  | ((with_reducible show wpAny _ _ (call (Value.ref 122) _) _ _ _); k_dflt (refine' useC (join_way _ (by with_reducible assumption) (by with_reducible assumption) (by with_reducible assumption) (by with_reducible assumption) (by with_reducible assumption)) ?B ?F ?X ?N ?T ?hk ?hd ?hu ?hP ?_; (case B => k_asm); (case F => k_asm); (case X => k_asm); (case N => k_asm); (case T => k_asm); (case hk => first | exact rfl | assumption); (case hd => walk_at "mine.room"); (case hu => walk_at "mine.room"); (case hP => exact trivial)); intro v' h' tk' st' F' N' r'; (try dsimp only at r'); (try dsimp only))))
local macro_rules | `(tactic| walk_at "call ref") => `(tactic| (k_here; first
  | ((with_reducible show wpAny _ _ (call (Value.ref 161) _) _ _ _); (with_reducible rename Fr _ _ _ _ => F9); (with_reducible rename News _ _ _ _ => N9); k_dflt (refine' useC (node_way _ _ _ _ _ _ ?hns (by with_reducible assumption) _ ?hk9) ?B F9 ?X N9 ?T ?hk ?hd ?hu ⟨IsWld.keeps (by with_reducible assumption) F9.keep, isListN N9 ?mem⟩ ?_; (case B => k_asm); (case X => k_asm); (case T => k_asm); (case hk => first | exact rfl | assumption); (case hd => walk_at "mine.room"); (case hu => walk_at "mine.room"); (case mem => k_mem); (case hns => with_reducible assumption); (case hk9 => with_reducible assumption)); clear F9 N9; intro v' h' tk' st' F' N' r'; obtain ⟨t9, r9⟩ := r'; subst r9; (try dsimp only))))
section
variable {prog : Program} {w : World} {A : Around} {E : Value → Shared → Prop} {s : Shared}
theorem lenN {h₀ : Heap} {L D : Addr} {news : Ledger} {vs : List Value} {k : Nat} {Q : Value → Shared → Prop} (N : News h₀ L s.heap news) (m : (D, listOf (List.toArray vs) k) ∈ news) (hz : vs.length ≤ 1000) (h : ∀ t k, Q (.int (vs.length : Int) t) { s with toks := k }) :
    wpAny (model prog w) A (call (.builtin "len") [.ref D]) Q E s :=
  call_len_list (isListN N m) (by rw [List.size_toArray]; omega) (by rw [List.size_toArray]; exact h _ _)
end
local macro_rules | `(tactic| walk_at "call builtin:len") => `(tactic| (k_here; (with_reducible show wpAny _ _ (call (Value.builtin "len") [Value.ref _]) _ _ _); k_dflt (refine' lenN ?N ?ma ?hz ?_; (case N => k_asm); (case ma => k_mem); (case hz => omega)); intro t' k'))
local macro_rules | `(tactic| walk_at "exec Assign cons ListComp") => `(tactic| (k_here; k_dflt (refine LCt.Assign_ListComp_T (F₀ := by k_asm) (by rfl) (by with_unfolding_all rfl) (by with_unfolding_all rfl) (by decide) (by rfl) (by decide) (by rfl) (by rfl) (by rfl) ?_)))
local macro_rules | `(tactic| walk_at "compareOp NotEq ref ref") => `(tactic| (k_here; k_dflt (refine' ne_nilN ?N ?ma ?mb ?hu ?_; (case N => k_asm); (case ma => k_mem); (case mb => k_mem); (case hu => walk_at "mine.room"))))
local macro_rules | `(tactic| walk_at "binaryOp Add ref ref") => `(tactic| (k_here; k_dflt (refine' add_N ?F ?N ?ma ?mb ?_ ?hz; (case F => k_asm); (case N => k_asm); (case ma => k_mem); (case mb => k_mem); (case hz => ((simp only [List.length_cons, List.length_nil, sizeLine_eq]); omega))); intro D' h' F' N' l1; (try k_lt l1); (try k_sweep)))

set_option maxHeartbeats 40000000 in
theorem walk_false (w : World) (W : Addr) (ws : Wld) (st : Str) (t : Tok) (oct : Bool) (hst : st ∈ sts) (hw : WldOk ws) (hm : WldNm ws) :
    Calls 80 w 173 [.ref W, .str st t, .bool oct, .bool false] (fun g => IsWld g W ws) (WalkNew ws false st oct) := by
  unfold Calls
  k_fill
  intro p loose mean mg mb dp un gd cn cs a ccd cl outer A₀ base h₀ L m s Q B F X T hk hd hu hP hret
  refine wpAny_call ?_
  k_dflt (refine' enterC ?k1 ?k2 ?k3 ?k5 ?kA ?kF ?kK ?k6 ?k7 ?k8 ?k9 ?kB ?kD ?_ ?c2 ?c3 ?c4; (case kA => exact rfl); (case kF => exact rfl); (case kK => assumption); (case k1 => exact B); (case k2 => exact F); (case k3 => exact X); (case k5 => exact T); (case k6 => k_is); (case k7 => k_is); (case k8 => ktr_room); (case k9 => exact BindsTo.of_eq rfl); (case kB => exact rfl); (case kD => decide +kernel); (case c2 => exact rfl); (case c3 => exact rfl); (case c4 => exact rfl); k_whole)
  intro g L₁ h₁ tk₁ cells eg F₁ N₁ Y₁ B₁ X₁ T₁
  (try rw [← eg] at hP)
  clear F X T B
  k_cells Y₁
  (try simp only [List.cons_append, List.nil_append] at N₁)
  (try dsimp only)
  (try k_fold)
  k_steps
  refine Hold.mk ?_
  refine wpAny_noRaise (wpAny_While ?_)
  with_reducible rename Fr _ _ _ _ => F2
  with_reducible rename News _ _ _ _ => N2
  rename _ = Data.cell _ => hcl
  rename BufO _ _ _ _ => hbo
  rename PathV _ _ _ => hpv
  rename_i oc b1 d1 o1 od1 _ _ _ _ _ _ _ v1 _ _ _ l5 _ _ D1 _ _ Wo _ _ _ _ Se _ _ _ _ Li _ _ _ _ Sp _ _ _ _ Lo _ _ _
  refine codeAny_whileLoop (WalkJ g L₁ s W ws false st oct Lo Sp Li Se Wo) ?turn _ ⟨_, _, _, [], 0, [], 0, [], 0, [.ref b1], 0, [.ref D1], 0, oc, _, [(D1, tup2 v1 (.ref l5) 0), (l5, listOf (List.toArray [.ref b1]) 0), (b1, o1), (d1, od1)], st0, t, rfl, F2, news_sub N2 ?n0, ?a1, ?a2, ?a3, ?a4, ?a5, ?a6, hcl, by rfl, by rfl, by rfl, by rfl, by rfl, by rfl, by rfl, by rfl, by rfl, ?b1, ?b2, .nil, .nil, .nil, st0_ok hw, st0_sz, rfl, rfl⟩
  case n0 => walk_at "mine.sub"
  case a1 => walk_at "mine.alln"
  case a2 => walk_at "mine.alln"
  case a3 => walk_at "mine.alln"
  case a4 => walk_at "mine.alln"
  case a5 => walk_at "mine.alln"
  case a6 => walk_at "mine.alln"
  case b1 =>
    refine .cons ⟨D1, 0, v1, .ref l5, rfl, .head _, hpv, ⟨l5, [.ref b1], 0, rfl, .tail _ (.head _), .cons ⟨b1, d1, o1, od1, rfl, ?_, ?_, hbo⟩ .nil⟩⟩ .nil
    · walk_at "mine.mem"
    · walk_at "mine.mem"
  case b2 =>
    refine .cons ⟨b1, d1, o1, od1, rfl, ?_, ?_, hbo⟩ .nil
    · walk_at "mine.mem"
    · walk_at "mine.mem"
  clear F2 N2 hcl hbo hpv
  case turn =>
    rintro n s' ⟨h, tk, m, vlo, klo, vsp, ksp, vli, kli, vse, kse, vwo, kwo, oc, z, rest, S, t, rfl, F, N, hLo, hSp, hLi, hSe, hWo, hCb, hcl, hm1, hm2, hm3, hm4, hm5, hm6, hm7, hm8, hm9, aW, aS, aL, aO, aP, ok, sz, hrun, hn⟩
    refine wpAny_noRaise ?_
    k_steps
    · with_reducible rename Fr _ _ _ _ => F3
      with_reducible rename News _ _ _ _ => N3
      rename (_ != _) = true => ht9
      obtain ⟨row, r, er⟩ : ∃ row r, S.work = row :: r := by
        cases e : S.work with
        | nil =>
          rw [e] at aW
          have := List.reverse_eq_nil_iff.mp aW.nil_inv
          subst this
          exact absurd ht9 (by decide)
        | cons a b => exact ⟨a, b, rfl⟩
      rw [er] at aW
      obtain ⟨v, us, ev, ⟨T, nT, pv, lv, rfl, mT, hpv, ⟨Ln, vl, kl, rfl, mL, aLn⟩⟩, aW'⟩ := aW.cons_inv
      have evr : vwo = us.reverse ++ [.ref T] := by rw [← List.reverse_reverse vwo, ev, List.reverse_cons]
      subst evr
      clear ev ht9
      obtain ⟨ok', hlt', hlis'⟩ := turn_ok hw hm (all := false) ok er
      have sz' := turn_sz hw (all := false) ok sz er
      have hrow := ok.rows row (by rw [er]; exact .head _)
      have hous := outs_mem hrow
      have hdeep := hrow.deep
      have hw5 := hw.2.1
      have hfew := ok.few
      have hz1 := sz.sz
      have hz2 := sz.wk
      have hlr : us.length ≤ 62 := by
        have := aW'.len
        rw [er, List.length_cons] at hz2
        omega
      have hlli : vli.length ≤ 31 := by have := aL.len; omega
      have hllo : vlo.length ≤ 63 := by have := aO.len; omega
      have hlsp : vsp.length ≤ 31 := by have := aP.len; omega
      have hlse : vse.length ≤ 63 := by have := aS.len; omega
      have hlvl : vl.length ≤ 5 := by have := aLn.len; omega
      have hrlen := hrow.len
      have hway : WayOk 4 row.1 := ⟨hrow.nm, by omega⟩
      have hway5 : WayOk 5 row.1 := hway.mono (by decide)
      have hnode := hrow.way
      refine kl_pop F3 N3 (kpa_last _ _) (by k_upd) (by show (us.reverse ++ [Value.ref T]).length ≤ _; rw [List.length_append, List.length_reverse, List.length_singleton, sizeLine_eq]; omega) ?_
      intro h4 F4 N4
      have N5 : News g L₁ h4 ((Lo, listOf (List.toArray vlo) klo) :: (Sp, listOf (List.toArray vsp) ksp) :: (Li, listOf (List.toArray vli) kli) :: (Se, listOf (List.toArray vse) kse) :: (Wo, listOf (List.toArray us.reverse) (kwo + 1)) :: (L₁ + 1, oc) :: (T, tup2 pv (.ref Ln) nT) :: (Ln, listOf (List.toArray vl) kl) :: rest) := by
        refine news_sub N4 ?_
        have m1 : (T, tup2 pv (.ref Ln) nT) ∈ rest := mT
        have m2 := mL
        walk_at "mine.sub"
      have qLo : AllNe Lo ((T, tup2 pv (.ref Ln) nT) :: (Ln, listOf (List.toArray vl) kl) :: rest) := ⟨hLo.mem _ mT, hLo.mem _ mL, hLo⟩
      have qSp : AllNe Sp ((T, tup2 pv (.ref Ln) nT) :: (Ln, listOf (List.toArray vl) kl) :: rest) := ⟨hSp.mem _ mT, hSp.mem _ mL, hSp⟩
      have qLi : AllNe Li ((T, tup2 pv (.ref Ln) nT) :: (Ln, listOf (List.toArray vl) kl) :: rest) := ⟨hLi.mem _ mT, hLi.mem _ mL, hLi⟩
      have qSe : AllNe Se ((T, tup2 pv (.ref Ln) nT) :: (Ln, listOf (List.toArray vl) kl) :: rest) := ⟨hSe.mem _ mT, hSe.mem _ mL, hSe⟩
      have qWo : AllNe Wo ((T, tup2 pv (.ref Ln) nT) :: (Ln, listOf (List.toArray vl) kl) :: rest) := ⟨hWo.mem _ mT, hWo.mem _ mL, hWo⟩
      have qCb : AllNe (L₁ + 1) ((T, tup2 pv (.ref Ln) nT) :: (Ln, listOf (List.toArray vl) kl) :: rest) := ⟨hCb.mem _ mT, hCb.mem _ mL, hCb⟩
      clear N4 N3 F3
      k_steps
      refine wpAny_noRaise (wpAny_For ?_)
      refine wpAny_noRaise ?_
      k_steps
      with_reducible rename Fr _ _ _ _ => F6
      with_reducible rename News _ _ _ _ => N6
      rename StrsAre _ _ => sNm
      rename_i Nm yN jN _ _ n1 _ _ _ _ _ _ _ _ _ _ _ _ _ _
      obtain ⟨its, hW, hsz, hI⟩ := id hP
      obtain ⟨a₁, ts, ha, hta, hts, htj⟩ := hI _ _ hous.1
      have hlast := hrow.last.2
      have hes2 := (hw.2.2 _ hous.2).1
      have hfd : ∀ e ∈ outs ws row, (outs ws row).find? (·.1 == e.1) = some e := fun e he => find_self (hm _ hous.2).1 he
      have hnames := (hm _ hous.2).2
      refine item_list (F6.lst hW) (by omega) (by omega) (by simpa using ha) ?_ (by with_unfolding_all rfl)
      refine iter_list (fun i m news => ∃ vlo' klo' vse' kse' vwo' kwo' oc' z' rest', news = (Lo, listOf (List.toArray vlo') klo') :: (Sp, listOf (List.toArray (vsp ++ [pv])) (ksp + 1)) :: (Li, listOf (List.toArray (vli ++ [.ref Nm])) (kli + 1)) :: (Se, listOf (List.toArray vse') kse') :: (Wo, listOf (List.toArray vwo') kwo') :: (L₁ + 1, oc') :: rest' ∧
          AllNe Lo rest' ∧ AllNe Sp rest' ∧ AllNe Li rest' ∧ AllNe Se rest' ∧ AllNe Wo rest' ∧ AllNe (L₁ + 1) rest' ∧ oc'.data = Data.cell z' ∧
          m (Str.ofString "world") = some (.ref W) ∧ m (Str.ofString "text") = some (.str st t) ∧ m (Str.ofString "octets") = some (.bool oct) ∧ m (Str.ofString "keep_all") = some (.bool false) ∧
          m (Str.ofString "loops") = some (.ref Lo) ∧ m (Str.ofString "spelled") = some (.ref Sp) ∧ m (Str.ofString "listed") = some (.ref Li) ∧ m (Str.ofString "seen") = some (.ref Se) ∧ m (Str.ofString "work") = some (.ref Wo) ∧ m (Str.ofString "path") = some pv ∧ m (Str.ofString "line") = some (.ref Ln) ∧
          (∀ p ∈ (Nm, listOf (List.toArray yN) jN) :: (T, tup2 pv (.ref Ln) nT) :: (Ln, listOf (List.toArray vl) kl) :: rest, p ∈ rest') ∧
          All2 (WorkIn st oct rest') vwo'.reverse (((outs ws row).take i).foldl (edge false row) { S with work := r, listed := S.listed ++ [row.1] }).work ∧
          All2 (BufIn rest') vse' (((outs ws row).take i).foldl (edge false row) { S with work := r, listed := S.listed ++ [row.1] }).seen ∧
          All2 (StrsIn rest') vlo' (((outs ws row).take i).foldl (edge false row) { S with work := r, listed := S.listed ++ [row.1] }).loops)
        rfl (srcAt_base hta) F6 (news_sub N6 ?n1) ⟨vlo, klo, vse, kse, us.reverse, kwo + 1, oc, z, (Nm, listOf (List.toArray yN) jN) :: (T, tup2 pv (.ref Ln) nT) :: (Ln, listOf (List.toArray vl) kl) :: rest, rfl, ?c1, ?c2, ?c3, ?c4, ?c5, ?c6, hcl,
          by walk_at "mine.look", by walk_at "mine.look", by walk_at "mine.look", by walk_at "mine.look", by walk_at "mine.look", by walk_at "mine.look", by walk_at "mine.look", by walk_at "mine.look", by walk_at "mine.look", by rfl, by rfl, fun _ h => h, ?r1, ?r2, ?r3⟩ ?iturn ?idone
      case n1 => walk_at "mine.sub"
      case c1 => walk_at "mine.alln"
      case c2 => walk_at "mine.alln"
      case c3 => walk_at "mine.alln"
      case c4 => walk_at "mine.alln"
      case c5 => walk_at "mine.alln"
      case c6 => walk_at "mine.alln"
      case r1 => rw [List.reverse_reverse]; exact aW'.mono fun _ _ x => x.mono (by walk_at "mine.up")
      case r2 => exact aS.mono fun _ _ x => x.mono (by walk_at "mine.up")
      case r3 => exact aO.mono fun _ _ x => x.mono (by walk_at "mine.up")
      case idone =>
        rintro m news h tk ⟨vlo', klo', vse', kse', vwo', kwo', oc', z', rest', rfl, d1, d2, d3, d4, d5, d6, hcl', j1, j2, j3, j4, j5, j6, j7, j8, j9, j10, j11, hsub, bW, bS, bO⟩ F N
        rw [hts, List.take_length] at bW bS bO
        have et : turn ws false S = (outs ws row).foldl (edge false row) { S with work := r, listed := S.listed ++ [row.1] } := by
          unfold turn; rw [er]
        rw [← et] at bW bS bO
        refine wpAny_execs_nil ?_
        refine ⟨wt ws.length (turn ws false S).work, by rw [hn]; exact hlt', _, _, m, vlo', klo', vsp ++ [pv], ksp + 1, vli ++ [.ref Nm], kli + 1, vse', kse', vwo', kwo', oc', z', rest', turn ws false S, t, rfl, F, N, d1, d2, d3, d4, d5, d6, hcl', j1, j2, j3, j4, j5, j6, j7, j8, j9, bW, bS, ?_, bO, ?_, ok', sz', ?_, rfl⟩
        · rw [hlis']
          exact (aL.mono fun _ _ x => x.mono fun p hp => hsub _ (.tail _ (.tail _ (.tail _ hp)))).snoc ⟨Nm, yN, jN, rfl, hsub _ (.head _), sNm⟩
        · rw [hlis']
          exact aP.snoc hpv
        · exact ((run_turn hw hm 31 S ok (by omega)).1).trans hrun
      case iturn =>
        rintro I i v m news oI h tk hIlt hi ⟨vlo', klo', vse', kse', vwo', kwo', oc', z', rest', rfl, d1, d2, d3, d4, d5, d6, hcl', j1, j2, j3, j4, j5, j6, j7, j8, j9, j10, j11, hsub, bW, bS, bO⟩ off F N
        have hil : i < (outs ws row).length := by
          obtain ⟨hi', _⟩ := Array.getElem?_eq_some_iff.mp hi
          omega
        obtain ⟨b₁, t1, t2, e1, e2⟩ := htj i _ (List.getElem?_eq_getElem hil)
        rw [e1] at hi
        cases hi
        have hfd8 : ∀ st : St, ((outs ws row).take (i + 1)).foldl (edge false row) st = edge false row (((outs ws row).take i).foldl (edge false row) st) (outs ws row)[i] := fun st => by
          rw [take_snoc (List.getElem?_eq_getElem hil), List.foldl_append]; rfl
        have he : (outs ws row)[i] ∈ outs ws row := List.getElem_mem hil
        generalize (outs ws row)[i] = e at e2 hfd8 he
        have hc9 : (((outs ws row).take i).foldl (edge false row) { S with work := r, listed := S.listed ++ [row.1] }).loops.length + (((outs ws row).take i).foldl (edge false row) { S with work := r, listed := S.listed ++ [row.1] }).seen.length = S.loops.length + S.seen.length + ((outs ws row).take i).length ∧
            (((outs ws row).take i).foldl (edge false row) { S with work := r, listed := S.listed ++ [row.1] }).work.length + S.seen.length = r.length + (((outs ws row).take i).foldl (edge false row) { S with work := r, listed := S.listed ++ [row.1] }).seen.length := fold_count false row ((outs ws row).take i) { S with work := r, listed := S.listed ++ [row.1] }
        have hfd9 := hfd8 { S with work := r, listed := S.listed ++ [row.1] }
        clear hfd8
        generalize ((outs ws row).take i).foldl (edge false row) { S with work := r, listed := S.listed ++ [row.1] } = SI at bW bS bO hc9 hfd9
        rw [List.length_take] at hc9
        have hrl : r.length ≤ 63 := by rw [er, List.length_cons] at hz2; omega
        have hlwo' : vwo'.length ≤ 200 := by
          have := bW.len
          rw [List.length_reverse] at this
          omega
        have hllo' : vlo'.length ≤ 200 := by
          have := bO.len
          omega
        have hlse' : vse'.length ≤ 200 := by
          have := bS.len
          omega
        clear hc9
        have hne := hnames e he
        have hwc : WayOk 5 (row.1 ++ [e.1]) := hway.snoc hne
        have hat : nodeP ws 0 (row.1 ++ [e.1]) = some e.2 := by
          rw [nodeP_append, hnode]
          show nodeP ws _ [e.1] = _
          simp only [nodeP]
          show (match (outs ws row).find? (·.1 == e.1) with | none => none | some p => some p.2) = _
          rw [hfd e he]
        have he5 : e.2 ≤ 10 := by have := (hw.2.2 _ hous.2).2 e he; omega
        have mLn := hsub _ (.tail _ (.tail _ (.head _)))
        have N' : News g L₁ h ((I, oI) :: (Lo, listOf (List.toArray vlo') klo') :: (Sp, listOf (List.toArray (vsp ++ [pv])) (ksp + 1)) :: (Li, listOf (List.toArray (vli ++ [.ref Nm])) (kli + 1)) :: (Se, listOf (List.toArray vse') kse') :: (Wo, listOf (List.toArray vwo') kwo') :: (L₁ + 1, oc') :: (Ln, listOf (List.toArray vl) kl) :: rest') := by
          refine news_sub N ?_
          walk_at "mine.sub"
        have q1 : AllNe Lo ((Ln, listOf (List.toArray vl) kl) :: rest') := ⟨d1.mem _ mLn, d1⟩
        have q2 : AllNe Sp ((Ln, listOf (List.toArray vl) kl) :: rest') := ⟨d2.mem _ mLn, d2⟩
        have q3 : AllNe Li ((Ln, listOf (List.toArray vl) kl) :: rest') := ⟨d3.mem _ mLn, d3⟩
        have q4 : AllNe Se ((Ln, listOf (List.toArray vl) kl) :: rest') := ⟨d4.mem _ mLn, d4⟩
        have q5 : AllNe Wo ((Ln, listOf (List.toArray vl) kl) :: rest') := ⟨d5.mem _ mLn, d5⟩
        have q6 : AllNe (L₁ + 1) ((Ln, listOf (List.toArray vl) kl) :: rest') := ⟨d6.mem _ mLn, d6⟩
        have i1 : @Ne Nat Lo I := off _ (.head _)
        have i2 : @Ne Nat Sp I := off _ (.tail _ (.head _))
        have i3 : @Ne Nat Li I := off _ (.tail _ (.tail _ (.head _)))
        have i4 : @Ne Nat Se I := off _ (.tail _ (.tail _ (.tail _ (.head _))))
        have i5 : @Ne Nat Wo I := off _ (.tail _ (.tail _ (.tail _ (.tail _ (.head _)))))
        have i6 : @Ne Nat (L₁ + 1) I := off _ (.tail _ (.tail _ (.tail _ (.tail _ (.tail _ (.head _))))))
        have i7 : AllNe I rest' := allNe_of fun p hp => off _ (.tail _ (.tail _ (.tail _ (.tail _ (.tail _ (.tail _ hp))))))
        have i8 : @Ne Nat Ln I := i7.mem _ mLn
        clear N
        k_steps
        with_reducible rename Fr _ _ _ _ => F7
        with_reducible rename News _ _ _ _ => N7
        rename StrsAre _ _ => sD
        rename BufO _ _ _ _ => hbo
        rename _ = Data.cell _ => hcl2
        rename_i Dn yD jD _ _ nD _ _ _ _ _ _ _ _ _ bb dd ob od _ _ nb nd nbd _ oc2
        obtain ⟨XS, aX, hXS⟩ : ∃ XS : List Nat, All2 (BufIn rest') (vl) XS ∧ (XS = if false then SI.seen else row.2) := ⟨_, aLn.mono fun _ _ x => x.mono fun p hp => hsub _ (.tail _ (.tail _ (.tail _ hp))), rfl⟩
        refine LCt.CompSrcT.ledger rfl F7 N7 (by walk_at "mine.mem") (by rw [List.size_toArray, sizeLine_eq]; omega) ?_
        intro g₂
        refine restT_of (n := (vl).length) (fun i ys news => news = _ ∧ (ys.length = 0 ↔ e.2 ∉ XS.take i)) ?fin ?step _ 0 [] _ (by rw [Nat.zero_add, List.size_toArray]) ⟨rfl, by simp⟩
        case step =>
          rintro i₂ ys news hi₂ ⟨rfl, hys⟩ v I₂ oI₂ C oC D m₂ h tk hP₂ hC hx F N o ne
          have hil₂ : i₂ < XS.length := by rw [← aX.len]; exact hi₂
          obtain ⟨v₂, hv₂, b₂, d₂, o₂, od₂, rfl, mb₃, md₃, hbo₂⟩ := aX.at (List.getElem?_eq_getElem hil₂)
          rw [List.getElem?_toArray, hv₂] at hP₂
          cases hP₂
          have hti : XS.take (i₂ + 1) = XS.take i₂ ++ [XS[i₂]] := take_snoc (List.getElem?_eq_getElem hil₂)
          generalize XS[i₂] = k₂ at hbo₂ hti
          k_steps
          refine useC (samestat_at _ _ _ e.2 k₂) (by k_asm) (by k_asm) (by k_asm) (by k_asm) (by k_asm) (by first | exact rfl | assumption) (by walk_at "mine.room") (by walk_at "mine.room") ⟨bufN N (by walk_at "mine.mem") hbo (by walk_at "mine.mem"), bufN N (by walk_at "mine.mem") hbo₂ (by walk_at "mine.mem")⟩ ?_
          intro v' h' tk' st' F' N' r'
          subst r'
          k_steps
          · rename e.2 = k₂ => hek
            refine compEnd_at F' N' o (.inr ⟨_, by walk_at "mine.mem", rfl, _, rfl⟩) ⟨rfl, ?_⟩
            rw [hti, hek]
            simp
          · rename ¬ e.2 = k₂ => hek
            refine compEnd_at F' N' o (.inr ⟨_, by walk_at "mine.mem", rfl, _, rfl⟩) ⟨rfl, ?_⟩
            rw [hti, hys]
            simp [hek]
        case fin =>
          rintro ys news ⟨rfl, hys⟩
          intro D h tk F N o
          simp only [LCg.Off1] at o
          rw [aX.len, List.take_length] at hys
          k_steps
          · with_reducible rename Fr _ _ _ _ => F8
            with_reducible rename News _ _ _ _ => N8
            rename (_ != _) = true => ht
            have hin : e.2 ∈ XS := by
              rw [List.size_toArray] at ht
              have : ¬ ys.length = 0 := by simpa using ht
              rw [hys] at this
              simpa using this
            rw [hXS] at hin
            rw [List.push_toArray] at N8
            refine UnrEnd.intro F8 N8 ((Lo, listOf (List.toArray (vlo' ++ [.ref Dn])) (klo' + 1)) :: (Sp, listOf (List.toArray (vsp ++ [pv])) (ksp + 1)) :: (Li, listOf (List.toArray (vli ++ [.ref Nm])) (kli + 1)) :: (Se, listOf (List.toArray vse') kse') :: (Wo, listOf (List.toArray vwo') kwo') :: (L₁ + 1, oc2) :: (Dn, listOf (List.toArray yD) jD) :: rest') ?sub ?off
              ⟨vlo' ++ [.ref Dn], _, vse', _, vwo', _, oc2, _, (Dn, _) :: rest', rfl, ⟨by k_ne, d1⟩, ⟨by k_ne, d2⟩, ⟨by k_ne, d3⟩, ⟨by k_ne, d4⟩, ⟨by k_ne, d5⟩, ⟨by k_ne, d6⟩, hcl2,
                by walk_at "mine.look", by walk_at "mine.look", by walk_at "mine.look", by walk_at "mine.look", by walk_at "mine.look", by walk_at "mine.look", by walk_at "mine.look", by walk_at "mine.look", by walk_at "mine.look", by walk_at "mine.look", by walk_at "mine.look", fun p hp => .tail _ (hsub p hp), ?_, ?_, ?_⟩
            case sub => walk_at "mine.sub"
            case off => walk_at "mine.off2"
            · rw [hfd9, edge_hit hin]
              exact bW.mono fun _ _ x => x.mono fun p hp => .tail _ hp
            · rw [hfd9, edge_hit hin]
              exact bS.mono fun _ _ x => x.mono fun p hp => .tail _ hp
            · rw [hfd9, edge_hit hin]
              exact (bO.mono fun _ _ x => x.mono fun p hp => .tail _ hp).snoc ⟨Dn, _, _, rfl, .head _, sD⟩
          · with_reducible rename Fr _ _ _ _ => F8
            with_reducible rename News _ _ _ _ => N8
            rename (_ != _) = false => ht
            rename PathV _ (pathT _ (_ ++ _)) _ => hch
            rename_i D2 _ _ T2 _ _ _ _ _
            rename Value => vch
            have hin : ¬ e.2 ∈ XS := by
              rw [List.size_toArray] at ht
              have : ys.length = 0 := by simpa using ht
              exact hys.mp this
            rw [hXS] at hin
            simp only [List.push_toArray] at N8
            refine UnrEnd.intro F8 N8 ((Lo, listOf (List.toArray vlo') klo') :: (Sp, listOf (List.toArray (vsp ++ [pv])) (ksp + 1)) :: (Li, listOf (List.toArray (vli ++ [.ref Nm])) (kli + 1)) :: (Se, listOf (List.toArray (vse' ++ [.ref bb])) (kse' + 1)) :: (Wo, listOf (List.toArray (vwo' ++ [.ref T2])) (kwo' + 1)) :: (L₁ + 1, oc2) :: (T2, tup2 vch (.ref D2) 0) :: (D2, listOf (List.toArray (vl ++ [.ref bb])) 0) :: (bb, ob) :: (dd, od) :: rest') ?sub ?off
              ⟨vlo', _, vse' ++ [.ref bb], _, vwo' ++ [.ref T2], _, oc2, _, (T2, _) :: (D2, _) :: (bb, ob) :: (dd, od) :: rest', rfl, ⟨by k_ne, by k_ne, by k_ne, by k_ne, d1⟩, ⟨by k_ne, by k_ne, by k_ne, by k_ne, d2⟩, ⟨by k_ne, by k_ne, by k_ne, by k_ne, d3⟩, ⟨by k_ne, by k_ne, by k_ne, by k_ne, d4⟩, ⟨by k_ne, by k_ne, by k_ne, by k_ne, d5⟩, ⟨by k_ne, by k_ne, by k_ne, by k_ne, d6⟩, hcl2,
                by walk_at "mine.look", by walk_at "mine.look", by walk_at "mine.look", by walk_at "mine.look", by walk_at "mine.look", by walk_at "mine.look", by walk_at "mine.look", by walk_at "mine.look", by walk_at "mine.look", by walk_at "mine.look", by walk_at "mine.look", fun p hp => .tail _ (.tail _ (.tail _ (.tail _ (hsub p hp)))), ?_, ?_, ?_⟩
            case sub => walk_at "mine.sub"
            case off => walk_at "mine.off2"
            · rw [hfd9, edge_new hin, List.reverse_append, List.reverse_singleton]
              refine .cons ⟨T2, 0, vch, .ref D2, rfl, .head _, hch, ⟨D2, _, _, rfl, .tail _ (.head _), ?_⟩⟩ (bW.mono fun _ _ x => x.mono fun p hp => .tail _ (.tail _ (.tail _ (.tail _ hp))))
              exact (aLn.mono fun _ _ x => x.mono fun p hp => .tail _ (.tail _ (.tail _ (.tail _ (hsub _ (.tail _ (.tail _ (.tail _ hp)))))))).snoc ⟨bb, dd, ob, od, rfl, .tail _ (.tail _ (.head _)), .tail _ (.tail _ (.tail _ (.head _))), hbo⟩
            · rw [hfd9, edge_new hin]
              exact (bS.mono fun _ _ x => x.mono fun p hp => .tail _ (.tail _ (.tail _ (.tail _ hp)))).snoc ⟨bb, dd, ob, od, rfl, .tail _ (.tail _ (.head _)), .tail _ (.tail _ (.tail _ (.head _))), hbo⟩
            · rw [hfd9, edge_new hin]
              exact bO.mono fun _ _ x => x.mono fun p hp => .tail _ (.tail _ (.tail _ (.tail _ hp)))
    · with_reducible rename Fr _ _ _ _ => F3
      with_reducible rename News _ _ _ _ => N3
      rename (_ != _) = false => ht9
      have hvr : vwo = [] := by
        cases vwo with
        | nil => rfl
        | cons a l => exact absurd ht9 (by simp)
      subst hvr
      have hwk : S.work = [] := by
        cases e : S.work with
        | nil => rfl
        | cons a l => rw [e] at aW; cases aW
      rw [run_done ws false 31 S hwk] at hrun
      refine hret _ _ _ (by rw [← eg]; exact Fr.keep F3) ?_
      rw [← eg]
      refine ⟨_, _, _, _, _, _, Sp, vsp, ksp, News.newIn N3 fun _ h => h, rfl, .head _, ?_, ?_, rfl, by walk_at "mine.mem", ?_⟩
      · rw [← hrun]
        exact ⟨Li, vli, kli, rfl, by walk_at "mine.mem", aL.mono fun _ _ x => x.mono (by walk_at "mine.up")⟩
      · rw [← hrun]
        exact ⟨Lo, vlo, klo, rfl, by walk_at "mine.mem", aO.mono fun _ _ x => x.mono (by walk_at "mine.up")⟩
      · rw [← hrun]
        exact aP
set_option maxHeartbeats 40000000 in
theorem walk_true (w : World) (W : Addr) (ws : Wld) (st : Str) (t : Tok) (oct : Bool) (hst : st ∈ sts) (hw : WldOk ws) (hm : WldNm ws) :
    Calls 80 w 173 [.ref W, .str st t, .bool oct, .bool true] (fun g => IsWld g W ws) (WalkNew ws true st oct) := by
  unfold Calls
  k_fill
  intro p loose mean mg mb dp un gd cn cs a ccd cl outer A₀ base h₀ L m s Q B F X T hk hd hu hP hret
  refine wpAny_call ?_
  k_dflt (refine' enterC ?k1 ?k2 ?k3 ?k5 ?kA ?kF ?kK ?k6 ?k7 ?k8 ?k9 ?kB ?kD ?_ ?c2 ?c3 ?c4; (case kA => exact rfl); (case kF => exact rfl); (case kK => assumption); (case k1 => exact B); (case k2 => exact F); (case k3 => exact X); (case k5 => exact T); (case k6 => k_is); (case k7 => k_is); (case k8 => ktr_room); (case k9 => exact BindsTo.of_eq rfl); (case kB => exact rfl); (case kD => decide +kernel); (case c2 => exact rfl); (case c3 => exact rfl); (case c4 => exact rfl); k_whole)
  intro g L₁ h₁ tk₁ cells eg F₁ N₁ Y₁ B₁ X₁ T₁
  (try rw [← eg] at hP)
  clear F X T B
  k_cells Y₁
  (try simp only [List.cons_append, List.nil_append] at N₁)
  (try dsimp only)
  (try k_fold)
  k_steps
  refine Hold.mk ?_
  refine wpAny_noRaise (wpAny_While ?_)
  with_reducible rename Fr _ _ _ _ => F2
  with_reducible rename News _ _ _ _ => N2
  rename _ = Data.cell _ => hcl
  rename BufO _ _ _ _ => hbo
  rename PathV _ _ _ => hpv
  rename_i oc b1 d1 o1 od1 _ _ _ _ _ _ _ v1 _ _ _ l5 _ _ D1 _ _ Wo _ _ _ _ Se _ _ _ _ Li _ _ _ _ Sp _ _ _ _ Lo _ _ _
  refine codeAny_whileLoop (WalkJ g L₁ s W ws true st oct Lo Sp Li Se Wo) ?turn _ ⟨_, _, _, [], 0, [], 0, [], 0, [.ref b1], 0, [.ref D1], 0, oc, _, [(D1, tup2 v1 (.ref l5) 0), (l5, listOf (List.toArray [.ref b1]) 0), (b1, o1), (d1, od1)], st0, t, rfl, F2, news_sub N2 ?n0, ?a1, ?a2, ?a3, ?a4, ?a5, ?a6, hcl, by rfl, by rfl, by rfl, by rfl, by rfl, by rfl, by rfl, by rfl, by rfl, ?b1, ?b2, .nil, .nil, .nil, st0_ok hw, st0_sz, rfl, rfl⟩
  case n0 => walk_at "mine.sub"
  case a1 => walk_at "mine.alln"
  case a2 => walk_at "mine.alln"
  case a3 => walk_at "mine.alln"
  case a4 => walk_at "mine.alln"
  case a5 => walk_at "mine.alln"
  case a6 => walk_at "mine.alln"
  case b1 =>
    refine .cons ⟨D1, 0, v1, .ref l5, rfl, .head _, hpv, ⟨l5, [.ref b1], 0, rfl, .tail _ (.head _), .cons ⟨b1, d1, o1, od1, rfl, ?_, ?_, hbo⟩ .nil⟩⟩ .nil
    · walk_at "mine.mem"
    · walk_at "mine.mem"
  case b2 =>
    refine .cons ⟨b1, d1, o1, od1, rfl, ?_, ?_, hbo⟩ .nil
    · walk_at "mine.mem"
    · walk_at "mine.mem"
  clear F2 N2 hcl hbo hpv
  case turn =>
    rintro n s' ⟨h, tk, m, vlo, klo, vsp, ksp, vli, kli, vse, kse, vwo, kwo, oc, z, rest, S, t, rfl, F, N, hLo, hSp, hLi, hSe, hWo, hCb, hcl, hm1, hm2, hm3, hm4, hm5, hm6, hm7, hm8, hm9, aW, aS, aL, aO, aP, ok, sz, hrun, hn⟩
    refine wpAny_noRaise ?_
    k_steps
    · with_reducible rename Fr _ _ _ _ => F3
      with_reducible rename News _ _ _ _ => N3
      rename (_ != _) = true => ht9
      obtain ⟨row, r, er⟩ : ∃ row r, S.work = row :: r := by
        cases e : S.work with
        | nil =>
          rw [e] at aW
          have := List.reverse_eq_nil_iff.mp aW.nil_inv
          subst this
          exact absurd ht9 (by decide)
        | cons a b => exact ⟨a, b, rfl⟩
      rw [er] at aW
      obtain ⟨v, us, ev, ⟨T, nT, pv, lv, rfl, mT, hpv, ⟨Ln, vl, kl, rfl, mL, aLn⟩⟩, aW'⟩ := aW.cons_inv
      have evr : vwo = us.reverse ++ [.ref T] := by rw [← List.reverse_reverse vwo, ev, List.reverse_cons]
      subst evr
      clear ev ht9
      obtain ⟨ok', hlt', hlis'⟩ := turn_ok hw hm (all := true) ok er
      have sz' := turn_sz hw (all := true) ok sz er
      have hrow := ok.rows row (by rw [er]; exact .head _)
      have hous := outs_mem hrow
      have hdeep := hrow.deep
      have hw5 := hw.2.1
      have hfew := ok.few
      have hz1 := sz.sz
      have hz2 := sz.wk
      have hlr : us.length ≤ 62 := by
        have := aW'.len
        rw [er, List.length_cons] at hz2
        omega
      have hlli : vli.length ≤ 31 := by have := aL.len; omega
      have hllo : vlo.length ≤ 63 := by have := aO.len; omega
      have hlsp : vsp.length ≤ 31 := by have := aP.len; omega
      have hlse : vse.length ≤ 63 := by have := aS.len; omega
      have hlvl : vl.length ≤ 5 := by have := aLn.len; omega
      have hrlen := hrow.len
      have hway : WayOk 4 row.1 := ⟨hrow.nm, by omega⟩
      have hway5 : WayOk 5 row.1 := hway.mono (by decide)
      have hnode := hrow.way
      refine kl_pop F3 N3 (kpa_last _ _) (by k_upd) (by show (us.reverse ++ [Value.ref T]).length ≤ _; rw [List.length_append, List.length_reverse, List.length_singleton, sizeLine_eq]; omega) ?_
      intro h4 F4 N4
      have N5 : News g L₁ h4 ((Lo, listOf (List.toArray vlo) klo) :: (Sp, listOf (List.toArray vsp) ksp) :: (Li, listOf (List.toArray vli) kli) :: (Se, listOf (List.toArray vse) kse) :: (Wo, listOf (List.toArray us.reverse) (kwo + 1)) :: (L₁ + 1, oc) :: (T, tup2 pv (.ref Ln) nT) :: (Ln, listOf (List.toArray vl) kl) :: rest) := by
        refine news_sub N4 ?_
        have m1 : (T, tup2 pv (.ref Ln) nT) ∈ rest := mT
        have m2 := mL
        walk_at "mine.sub"
      have qLo : AllNe Lo ((T, tup2 pv (.ref Ln) nT) :: (Ln, listOf (List.toArray vl) kl) :: rest) := ⟨hLo.mem _ mT, hLo.mem _ mL, hLo⟩
      have qSp : AllNe Sp ((T, tup2 pv (.ref Ln) nT) :: (Ln, listOf (List.toArray vl) kl) :: rest) := ⟨hSp.mem _ mT, hSp.mem _ mL, hSp⟩
      have qLi : AllNe Li ((T, tup2 pv (.ref Ln) nT) :: (Ln, listOf (List.toArray vl) kl) :: rest) := ⟨hLi.mem _ mT, hLi.mem _ mL, hLi⟩
      have qSe : AllNe Se ((T, tup2 pv (.ref Ln) nT) :: (Ln, listOf (List.toArray vl) kl) :: rest) := ⟨hSe.mem _ mT, hSe.mem _ mL, hSe⟩
      have qWo : AllNe Wo ((T, tup2 pv (.ref Ln) nT) :: (Ln, listOf (List.toArray vl) kl) :: rest) := ⟨hWo.mem _ mT, hWo.mem _ mL, hWo⟩
      have qCb : AllNe (L₁ + 1) ((T, tup2 pv (.ref Ln) nT) :: (Ln, listOf (List.toArray vl) kl) :: rest) := ⟨hCb.mem _ mT, hCb.mem _ mL, hCb⟩
      clear N4 N3 F3
      k_steps
      refine wpAny_noRaise (wpAny_For ?_)
      refine wpAny_noRaise ?_
      k_steps
      with_reducible rename Fr _ _ _ _ => F6
      with_reducible rename News _ _ _ _ => N6
      rename StrsAre _ _ => sNm
      rename_i Nm yN jN _ _ n1 _ _ _ _ _ _ _ _ _ _ _ _ _ _
      obtain ⟨its, hW, hsz, hI⟩ := id hP
      obtain ⟨a₁, ts, ha, hta, hts, htj⟩ := hI _ _ hous.1
      have hlast := hrow.last.2
      have hes2 := (hw.2.2 _ hous.2).1
      have hfd : ∀ e ∈ outs ws row, (outs ws row).find? (·.1 == e.1) = some e := fun e he => find_self (hm _ hous.2).1 he
      have hnames := (hm _ hous.2).2
      refine item_list (F6.lst hW) (by omega) (by omega) (by simpa using ha) ?_ (by with_unfolding_all rfl)
      refine iter_list (fun i m news => ∃ vlo' klo' vse' kse' vwo' kwo' oc' z' rest', news = (Lo, listOf (List.toArray vlo') klo') :: (Sp, listOf (List.toArray (vsp ++ [pv])) (ksp + 1)) :: (Li, listOf (List.toArray (vli ++ [.ref Nm])) (kli + 1)) :: (Se, listOf (List.toArray vse') kse') :: (Wo, listOf (List.toArray vwo') kwo') :: (L₁ + 1, oc') :: rest' ∧
          AllNe Lo rest' ∧ AllNe Sp rest' ∧ AllNe Li rest' ∧ AllNe Se rest' ∧ AllNe Wo rest' ∧ AllNe (L₁ + 1) rest' ∧ oc'.data = Data.cell z' ∧
          m (Str.ofString "world") = some (.ref W) ∧ m (Str.ofString "text") = some (.str st t) ∧ m (Str.ofString "octets") = some (.bool oct) ∧ m (Str.ofString "keep_all") = some (.bool true) ∧
          m (Str.ofString "loops") = some (.ref Lo) ∧ m (Str.ofString "spelled") = some (.ref Sp) ∧ m (Str.ofString "listed") = some (.ref Li) ∧ m (Str.ofString "seen") = some (.ref Se) ∧ m (Str.ofString "work") = some (.ref Wo) ∧ m (Str.ofString "path") = some pv ∧ m (Str.ofString "line") = some (.ref Ln) ∧
          (∀ p ∈ (Nm, listOf (List.toArray yN) jN) :: (T, tup2 pv (.ref Ln) nT) :: (Ln, listOf (List.toArray vl) kl) :: rest, p ∈ rest') ∧
          All2 (WorkIn st oct rest') vwo'.reverse (((outs ws row).take i).foldl (edge true row) { S with work := r, listed := S.listed ++ [row.1] }).work ∧
          All2 (BufIn rest') vse' (((outs ws row).take i).foldl (edge true row) { S with work := r, listed := S.listed ++ [row.1] }).seen ∧
          All2 (StrsIn rest') vlo' (((outs ws row).take i).foldl (edge true row) { S with work := r, listed := S.listed ++ [row.1] }).loops)
        rfl (srcAt_base hta) F6 (news_sub N6 ?n1) ⟨vlo, klo, vse, kse, us.reverse, kwo + 1, oc, z, (Nm, listOf (List.toArray yN) jN) :: (T, tup2 pv (.ref Ln) nT) :: (Ln, listOf (List.toArray vl) kl) :: rest, rfl, ?c1, ?c2, ?c3, ?c4, ?c5, ?c6, hcl,
          by walk_at "mine.look", by walk_at "mine.look", by walk_at "mine.look", by walk_at "mine.look", by walk_at "mine.look", by walk_at "mine.look", by walk_at "mine.look", by walk_at "mine.look", by walk_at "mine.look", by rfl, by rfl, fun _ h => h, ?r1, ?r2, ?r3⟩ ?iturn ?idone
      case n1 => walk_at "mine.sub"
      case c1 => walk_at "mine.alln"
      case c2 => walk_at "mine.alln"
      case c3 => walk_at "mine.alln"
      case c4 => walk_at "mine.alln"
      case c5 => walk_at "mine.alln"
      case c6 => walk_at "mine.alln"
      case r1 => rw [List.reverse_reverse]; exact aW'.mono fun _ _ x => x.mono (by walk_at "mine.up")
      case r2 => exact aS.mono fun _ _ x => x.mono (by walk_at "mine.up")
      case r3 => exact aO.mono fun _ _ x => x.mono (by walk_at "mine.up")
      case idone =>
        rintro m news h tk ⟨vlo', klo', vse', kse', vwo', kwo', oc', z', rest', rfl, d1, d2, d3, d4, d5, d6, hcl', j1, j2, j3, j4, j5, j6, j7, j8, j9, j10, j11, hsub, bW, bS, bO⟩ F N
        rw [hts, List.take_length] at bW bS bO
        have et : turn ws true S = (outs ws row).foldl (edge true row) { S with work := r, listed := S.listed ++ [row.1] } := by
          unfold turn; rw [er]
        rw [← et] at bW bS bO
        refine wpAny_execs_nil ?_
        refine ⟨wt ws.length (turn ws true S).work, by rw [hn]; exact hlt', _, _, m, vlo', klo', vsp ++ [pv], ksp + 1, vli ++ [.ref Nm], kli + 1, vse', kse', vwo', kwo', oc', z', rest', turn ws true S, t, rfl, F, N, d1, d2, d3, d4, d5, d6, hcl', j1, j2, j3, j4, j5, j6, j7, j8, j9, bW, bS, ?_, bO, ?_, ok', sz', ?_, rfl⟩
        · rw [hlis']
          exact (aL.mono fun _ _ x => x.mono fun p hp => hsub _ (.tail _ (.tail _ (.tail _ hp)))).snoc ⟨Nm, yN, jN, rfl, hsub _ (.head _), sNm⟩
        · rw [hlis']
          exact aP.snoc hpv
        · exact ((run_turn hw hm 31 S ok (by omega)).1).trans hrun
      case iturn =>
        rintro I i v m news oI h tk hIlt hi ⟨vlo', klo', vse', kse', vwo', kwo', oc', z', rest', rfl, d1, d2, d3, d4, d5, d6, hcl', j1, j2, j3, j4, j5, j6, j7, j8, j9, j10, j11, hsub, bW, bS, bO⟩ off F N
        have hil : i < (outs ws row).length := by
          obtain ⟨hi', _⟩ := Array.getElem?_eq_some_iff.mp hi
          omega
        obtain ⟨b₁, t1, t2, e1, e2⟩ := htj i _ (List.getElem?_eq_getElem hil)
        rw [e1] at hi
        cases hi
        have hfd8 : ∀ st : St, ((outs ws row).take (i + 1)).foldl (edge true row) st = edge true row (((outs ws row).take i).foldl (edge true row) st) (outs ws row)[i] := fun st => by
          rw [take_snoc (List.getElem?_eq_getElem hil), List.foldl_append]; rfl
        have he : (outs ws row)[i] ∈ outs ws row := List.getElem_mem hil
        generalize (outs ws row)[i] = e at e2 hfd8 he
        have hc9 : (((outs ws row).take i).foldl (edge true row) { S with work := r, listed := S.listed ++ [row.1] }).loops.length + (((outs ws row).take i).foldl (edge true row) { S with work := r, listed := S.listed ++ [row.1] }).seen.length = S.loops.length + S.seen.length + ((outs ws row).take i).length ∧
            (((outs ws row).take i).foldl (edge true row) { S with work := r, listed := S.listed ++ [row.1] }).work.length + S.seen.length = r.length + (((outs ws row).take i).foldl (edge true row) { S with work := r, listed := S.listed ++ [row.1] }).seen.length := fold_count true row ((outs ws row).take i) { S with work := r, listed := S.listed ++ [row.1] }
        have hfd9 := hfd8 { S with work := r, listed := S.listed ++ [row.1] }
        clear hfd8
        generalize ((outs ws row).take i).foldl (edge true row) { S with work := r, listed := S.listed ++ [row.1] } = SI at bW bS bO hc9 hfd9
        rw [List.length_take] at hc9
        have hrl : r.length ≤ 63 := by rw [er, List.length_cons] at hz2; omega
        have hlwo' : vwo'.length ≤ 200 := by
          have := bW.len
          rw [List.length_reverse] at this
          omega
        have hllo' : vlo'.length ≤ 200 := by
          have := bO.len
          omega
        have hlse' : vse'.length ≤ 200 := by
          have := bS.len
          omega
        clear hc9
        have hne := hnames e he
        have hwc : WayOk 5 (row.1 ++ [e.1]) := hway.snoc hne
        have hat : nodeP ws 0 (row.1 ++ [e.1]) = some e.2 := by
          rw [nodeP_append, hnode]
          show nodeP ws _ [e.1] = _
          simp only [nodeP]
          show (match (outs ws row).find? (·.1 == e.1) with | none => none | some p => some p.2) = _
          rw [hfd e he]
        have he5 : e.2 ≤ 10 := by have := (hw.2.2 _ hous.2).2 e he; omega
        have mLn := hsub _ (.tail _ (.tail _ (.head _)))
        have N' : News g L₁ h ((I, oI) :: (Lo, listOf (List.toArray vlo') klo') :: (Sp, listOf (List.toArray (vsp ++ [pv])) (ksp + 1)) :: (Li, listOf (List.toArray (vli ++ [.ref Nm])) (kli + 1)) :: (Se, listOf (List.toArray vse') kse') :: (Wo, listOf (List.toArray vwo') kwo') :: (L₁ + 1, oc') :: (Ln, listOf (List.toArray vl) kl) :: rest') := by
          refine news_sub N ?_
          walk_at "mine.sub"
        have q1 : AllNe Lo ((Ln, listOf (List.toArray vl) kl) :: rest') := ⟨d1.mem _ mLn, d1⟩
        have q2 : AllNe Sp ((Ln, listOf (List.toArray vl) kl) :: rest') := ⟨d2.mem _ mLn, d2⟩
        have q3 : AllNe Li ((Ln, listOf (List.toArray vl) kl) :: rest') := ⟨d3.mem _ mLn, d3⟩
        have q4 : AllNe Se ((Ln, listOf (List.toArray vl) kl) :: rest') := ⟨d4.mem _ mLn, d4⟩
        have q5 : AllNe Wo ((Ln, listOf (List.toArray vl) kl) :: rest') := ⟨d5.mem _ mLn, d5⟩
        have q6 : AllNe (L₁ + 1) ((Ln, listOf (List.toArray vl) kl) :: rest') := ⟨d6.mem _ mLn, d6⟩
        have i1 : @Ne Nat Lo I := off _ (.head _)
        have i2 : @Ne Nat Sp I := off _ (.tail _ (.head _))
        have i3 : @Ne Nat Li I := off _ (.tail _ (.tail _ (.head _)))
        have i4 : @Ne Nat Se I := off _ (.tail _ (.tail _ (.tail _ (.head _))))
        have i5 : @Ne Nat Wo I := off _ (.tail _ (.tail _ (.tail _ (.tail _ (.head _)))))
        have i6 : @Ne Nat (L₁ + 1) I := off _ (.tail _ (.tail _ (.tail _ (.tail _ (.tail _ (.head _))))))
        have i7 : AllNe I rest' := allNe_of fun p hp => off _ (.tail _ (.tail _ (.tail _ (.tail _ (.tail _ (.tail _ hp))))))
        have i8 : @Ne Nat Ln I := i7.mem _ mLn
        clear N
        k_steps
        with_reducible rename Fr _ _ _ _ => F7
        with_reducible rename News _ _ _ _ => N7
        rename StrsAre _ _ => sD
        rename BufO _ _ _ _ => hbo
        rename _ = Data.cell _ => hcl2
        rename_i Dn yD jD _ _ nD _ _ _ _ _ _ _ _ _ bb dd ob od _ _ nb nd nbd _ oc2
        obtain ⟨XS, aX, hXS⟩ : ∃ XS : List Nat, All2 (BufIn rest') (vse') XS ∧ (XS = if true then SI.seen else row.2) := ⟨_, bS, rfl⟩
        refine LCt.CompSrcT.ledger rfl F7 N7 (by walk_at "mine.mem") (by rw [List.size_toArray, sizeLine_eq]; omega) ?_
        intro g₂
        refine restT_of (n := (vse').length) (fun i ys news => news = _ ∧ (ys.length = 0 ↔ e.2 ∉ XS.take i)) ?fin ?step _ 0 [] _ (by rw [Nat.zero_add, List.size_toArray]) ⟨rfl, by simp⟩
        case step =>
          rintro i₂ ys news hi₂ ⟨rfl, hys⟩ v I₂ oI₂ C oC D m₂ h tk hP₂ hC hx F N o ne
          have hil₂ : i₂ < XS.length := by rw [← aX.len]; exact hi₂
          obtain ⟨v₂, hv₂, b₂, d₂, o₂, od₂, rfl, mb₃, md₃, hbo₂⟩ := aX.at (List.getElem?_eq_getElem hil₂)
          rw [List.getElem?_toArray, hv₂] at hP₂
          cases hP₂
          have hti : XS.take (i₂ + 1) = XS.take i₂ ++ [XS[i₂]] := take_snoc (List.getElem?_eq_getElem hil₂)
          generalize XS[i₂] = k₂ at hbo₂ hti
          k_steps
          refine useC (samestat_at _ _ _ e.2 k₂) (by k_asm) (by k_asm) (by k_asm) (by k_asm) (by k_asm) (by first | exact rfl | assumption) (by walk_at "mine.room") (by walk_at "mine.room") ⟨bufN N (by walk_at "mine.mem") hbo (by walk_at "mine.mem"), bufN N (by walk_at "mine.mem") hbo₂ (by walk_at "mine.mem")⟩ ?_
          intro v' h' tk' st' F' N' r'
          subst r'
          k_steps
          · rename e.2 = k₂ => hek
            refine compEnd_at F' N' o (.inr ⟨_, by walk_at "mine.mem", rfl, _, rfl⟩) ⟨rfl, ?_⟩
            rw [hti, hek]
            simp
          · rename ¬ e.2 = k₂ => hek
            refine compEnd_at F' N' o (.inr ⟨_, by walk_at "mine.mem", rfl, _, rfl⟩) ⟨rfl, ?_⟩
            rw [hti, hys]
            simp [hek]
        case fin =>
          rintro ys news ⟨rfl, hys⟩
          intro D h tk F N o
          simp only [LCg.Off1] at o
          rw [aX.len, List.take_length] at hys
          k_steps
          · with_reducible rename Fr _ _ _ _ => F8
            with_reducible rename News _ _ _ _ => N8
            rename (_ != _) = true => ht
            have hin : e.2 ∈ XS := by
              rw [List.size_toArray] at ht
              have : ¬ ys.length = 0 := by simpa using ht
              rw [hys] at this
              simpa using this
            rw [hXS] at hin
            rw [List.push_toArray] at N8
            refine UnrEnd.intro F8 N8 ((Lo, listOf (List.toArray (vlo' ++ [.ref Dn])) (klo' + 1)) :: (Sp, listOf (List.toArray (vsp ++ [pv])) (ksp + 1)) :: (Li, listOf (List.toArray (vli ++ [.ref Nm])) (kli + 1)) :: (Se, listOf (List.toArray vse') kse') :: (Wo, listOf (List.toArray vwo') kwo') :: (L₁ + 1, oc2) :: (Dn, listOf (List.toArray yD) jD) :: rest') ?sub ?off
              ⟨vlo' ++ [.ref Dn], _, vse', _, vwo', _, oc2, _, (Dn, _) :: rest', rfl, ⟨by k_ne, d1⟩, ⟨by k_ne, d2⟩, ⟨by k_ne, d3⟩, ⟨by k_ne, d4⟩, ⟨by k_ne, d5⟩, ⟨by k_ne, d6⟩, hcl2,
                by walk_at "mine.look", by walk_at "mine.look", by walk_at "mine.look", by walk_at "mine.look", by walk_at "mine.look", by walk_at "mine.look", by walk_at "mine.look", by walk_at "mine.look", by walk_at "mine.look", by walk_at "mine.look", by walk_at "mine.look", fun p hp => .tail _ (hsub p hp), ?_, ?_, ?_⟩
            case sub => walk_at "mine.sub"
            case off => walk_at "mine.off2"
            · rw [hfd9, edge_hit hin]
              exact bW.mono fun _ _ x => x.mono fun p hp => .tail _ hp
            · rw [hfd9, edge_hit hin]
              exact bS.mono fun _ _ x => x.mono fun p hp => .tail _ hp
            · rw [hfd9, edge_hit hin]
              exact (bO.mono fun _ _ x => x.mono fun p hp => .tail _ hp).snoc ⟨Dn, _, _, rfl, .head _, sD⟩
          · with_reducible rename Fr _ _ _ _ => F8
            with_reducible rename News _ _ _ _ => N8
            rename (_ != _) = false => ht
            rename PathV _ (pathT _ (_ ++ _)) _ => hch
            rename_i D2 _ _ T2 _ _ _ _ _
            rename Value => vch
            have hin : ¬ e.2 ∈ XS := by
              rw [List.size_toArray] at ht
              have : ys.length = 0 := by simpa using ht
              exact hys.mp this
            rw [hXS] at hin
            simp only [List.push_toArray] at N8
            refine UnrEnd.intro F8 N8 ((Lo, listOf (List.toArray vlo') klo') :: (Sp, listOf (List.toArray (vsp ++ [pv])) (ksp + 1)) :: (Li, listOf (List.toArray (vli ++ [.ref Nm])) (kli + 1)) :: (Se, listOf (List.toArray (vse' ++ [.ref bb])) (kse' + 1)) :: (Wo, listOf (List.toArray (vwo' ++ [.ref T2])) (kwo' + 1)) :: (L₁ + 1, oc2) :: (T2, tup2 vch (.ref D2) 0) :: (D2, listOf (List.toArray (vl ++ [.ref bb])) 0) :: (bb, ob) :: (dd, od) :: rest') ?sub ?off
              ⟨vlo', _, vse' ++ [.ref bb], _, vwo' ++ [.ref T2], _, oc2, _, (T2, _) :: (D2, _) :: (bb, ob) :: (dd, od) :: rest', rfl, ⟨by k_ne, by k_ne, by k_ne, by k_ne, d1⟩, ⟨by k_ne, by k_ne, by k_ne, by k_ne, d2⟩, ⟨by k_ne, by k_ne, by k_ne, by k_ne, d3⟩, ⟨by k_ne, by k_ne, by k_ne, by k_ne, d4⟩, ⟨by k_ne, by k_ne, by k_ne, by k_ne, d5⟩, ⟨by k_ne, by k_ne, by k_ne, by k_ne, d6⟩, hcl2,
                by walk_at "mine.look", by walk_at "mine.look", by walk_at "mine.look", by walk_at "mine.look", by walk_at "mine.look", by walk_at "mine.look", by walk_at "mine.look", by walk_at "mine.look", by walk_at "mine.look", by walk_at "mine.look", by walk_at "mine.look", fun p hp => .tail _ (.tail _ (.tail _ (.tail _ (hsub p hp)))), ?_, ?_, ?_⟩
            case sub => walk_at "mine.sub"
            case off => walk_at "mine.off2"
            · rw [hfd9, edge_new hin, List.reverse_append, List.reverse_singleton]
              refine .cons ⟨T2, 0, vch, .ref D2, rfl, .head _, hch, ⟨D2, _, _, rfl, .tail _ (.head _), ?_⟩⟩ (bW.mono fun _ _ x => x.mono fun p hp => .tail _ (.tail _ (.tail _ (.tail _ hp))))
              exact (aLn.mono fun _ _ x => x.mono fun p hp => .tail _ (.tail _ (.tail _ (.tail _ (hsub _ (.tail _ (.tail _ (.tail _ hp)))))))).snoc ⟨bb, dd, ob, od, rfl, .tail _ (.tail _ (.head _)), .tail _ (.tail _ (.tail _ (.head _))), hbo⟩
            · rw [hfd9, edge_new hin]
              exact (bS.mono fun _ _ x => x.mono fun p hp => .tail _ (.tail _ (.tail _ (.tail _ hp)))).snoc ⟨bb, dd, ob, od, rfl, .tail _ (.tail _ (.head _)), .tail _ (.tail _ (.tail _ (.head _))), hbo⟩
            · rw [hfd9, edge_new hin]
              exact bO.mono fun _ _ x => x.mono fun p hp => .tail _ (.tail _ (.tail _ (.tail _ hp)))
    · with_reducible rename Fr _ _ _ _ => F3
      with_reducible rename News _ _ _ _ => N3
      rename (_ != _) = false => ht9
      have hvr : vwo = [] := by
        cases vwo with
        | nil => rfl
        | cons a l => exact absurd ht9 (by simp)
      subst hvr
      have hwk : S.work = [] := by
        cases e : S.work with
        | nil => rfl
        | cons a l => rw [e] at aW; cases aW
      rw [run_done ws true 31 S hwk] at hrun
      refine hret _ _ _ (by rw [← eg]; exact Fr.keep F3) ?_
      rw [← eg]
      refine ⟨_, _, _, _, _, _, Sp, vsp, ksp, News.newIn N3 fun _ h => h, rfl, .head _, ?_, ?_, rfl, by walk_at "mine.mem", ?_⟩
      · rw [← hrun]
        exact ⟨Li, vli, kli, rfl, by walk_at "mine.mem", aL.mono fun _ _ x => x.mono (by walk_at "mine.up")⟩
      · rw [← hrun]
        exact ⟨Lo, vlo, klo, rfl, by walk_at "mine.mem", aO.mono fun _ _ x => x.mono (by walk_at "mine.up")⟩
      · rw [← hrun]
        exact aP
end Mine

end

section
open PySem PySem.W PyProof.Rows PySem.Calls
set_option maxRecDepth 100000
namespace Mine
theorem calm_so : True := by
  w_top off
  trivial

/-- two rows of names, by the sign -/
def ltS : List Str → List Str → Bool
  | _, [] => false
  | [], _ :: _ => true
  | x :: xs, y :: ys => if x == y then ltS xs ys else decide (x.cps.toList < y.cps.toList)
theorem ltS_nil (xs : List Str) : ltS xs [] = false := by cases xs <;> rfl
section
open MeetsSeq MeetsSeq2 MeetsSeq3 SeqAt
open AutoSeq1 (wpAny_loadPart')
theorem lt_loopAt (l b : Addr) (items items2 : Array Value) (n n2 : Nat) (dd dd2 : Option Addr) (sl sl2 : Array (Option Value)) (xs ys : List Str) (hx : StrsAre items.toList xs) (hy : StrsAre items2.toList ys) (k : Nat) :
    ∀ i : Nat, items.size - i = k → i ≤ items.size → i ≤ items2.size → Meets (Builtin.«list.__eq__.loop» ⟨[.ref l, .ref b, rawInt i, rawInt 0], []⟩)
      (fun A R s => s.heap.get? l = some { cls := .type "list", dict := dd, data := .seq items n, slots := sl } ∧ s.heap.get? b = some { cls := .type "list", dict := dd2, data := .seq items2 n2, slots := sl2 } ∧
        R (.ok (.ret (.bool (ltS (xs.drop i) (ys.drop i))))) s) := by
  have lx := StrsAre.length hx
  have ly := StrsAre.length hy
  rw [Array.length_toList] at lx ly
  induction k with
  | zero =>
    intro i hk hi1' hi2' prog w A R s h
    obtain ⟨hp, g, d, tk, os⟩ := s; obtain ⟨hl, hb, h⟩ := h
    wp_walk using wpAny_loadPart' hl, wpAny_loadPart' hb
    have hi1 : items[((i : Nat) : Int).toNat]? = none := by simp; omega
    have hd : xs.drop i = [] := by simp; omega
    rw [hd] at h
    rw [hi1]
    wp_walk using wpAny_loadPart' hl, wpAny_loadPart' hb
    show R (.ok (.ret (.bool (decide (items.size < items2.size))))) _
    have e : ltS [] (ys.drop i) = decide (items.size < items2.size) := by
      by_cases q : i < ys.length
      · rw [List.drop_eq_getElem_cons q]
        show true = _
        symm; rw [decide_eq_true_eq]; omega
      · rw [List.drop_eq_nil_of_le (by omega)]
        show false = _
        symm; rw [decide_eq_false_iff_not]; omega
    rw [← e]; exact h
  | succ k ih =>
    intro i hk hi1' hi2' prog w A R s h
    obtain ⟨hp, g, d, tk, os⟩ := s; obtain ⟨hl, hb, h⟩ := h
    wp_walk using wpAny_loadPart' hl, wpAny_loadPart' hb
    have hlt : i < items.size := by omega
    have hlx : i < xs.length := by omega
    obtain ⟨t1, e1⟩ := StrsAre.at hx (List.getElem?_eq_getElem hlx)
    rw [Array.getElem?_toList] at e1
    rw [List.drop_eq_getElem_cons hlx] at h
    rw [Int.toNat_natCast, e1]
    by_cases hlt2 : i < items2.size
    · have hly : i < ys.length := by omega
      obtain ⟨t2, e2⟩ := StrsAre.at hy (List.getElem?_eq_getElem hly)
      rw [Array.getElem?_toList] at e2
      rw [List.drop_eq_getElem_cons hly] at h
      rw [e2]
      have hc : ((i : Int) + 1) = ((i + 1 : Nat) : Int) := by push_cast; rfl
      generalize xs[i] = x at *
      generalize ys[i] = y at *
      show wpAny _ _ (do
        let c ← eqBool (Value.str x t1) (Value.str y t2)
        _) _ _ _
      refine wpAny_bind (EqAt.str_str x t1 y t2 prog w _ _ ?_)
      cases hb' : (x == y) with
      | true =>
        rw [ltS, if_pos hb'] at h
        wp_walk
        rw [hc]
        exact ⟨plainId_quiet plain_eq_loop _, codeAny_builtin entry_eq_loop (by
          rw [Around.under_plainId plain_eq_loop _]
          exact ih (i + 1) (by omega) (by omega) (by omega) prog w A R _ ⟨hl, hb, h⟩)⟩
      | false =>
        rw [ltS, if_neg (by rw [hb']; exact Bool.false_ne_true)] at h
        wp_walk using wpAny_loadPart' hl, wpAny_loadPart' hb
        rw [e1, e2]
        dsimp only
        refine wpAny_bind (lt_str ?_)
        wp_walk
        exact h
    · have hi2 : items2[i]? = none := by simp; omega
      rw [hi2]
      dsimp only
      have hnil : ys.drop i = [] := List.drop_eq_nil_of_le (by omega)
      rw [hnil, ltS_nil] at h
      wp_walk using wpAny_loadPart' hl, wpAny_loadPart' hb
      show R (.ok (.ret (.bool (decide (items.size < items2.size))))) _
      have e : decide (items.size < items2.size) = false := by rw [decide_eq_false_iff_not]; omega
      rw [e]; exact h

theorem list_ltAt (l b : Addr) (items items2 : Array Value) (n n2 : Nat) (dd dd2 : Option Addr) (sl sl2 : Array (Option Value)) (xs ys : List Str) (hx : StrsAre items.toList xs) (hy : StrsAre items2.toList ys) :
    Meets (Builtin.«list.__lt__» ⟨[.ref l, .ref b], []⟩)
      (fun A R s => s.heap.get? l = some { cls := .type "list", dict := dd, data := .seq items n, slots := sl } ∧ s.heap.get? b = some { cls := .type "list", dict := dd2, data := .seq items2 n2, slots := sl2 } ∧
        R (.ok (.ret (.bool (ltS xs ys)))) s) := by
  intro prog w A R s h
  obtain ⟨hp, g, d, tk, os⟩ := s; obtain ⟨hl, hb, h⟩ := h
  have f3 := AutoSeq1.sub_list_list
  wp_walk using wpAny_loadPart' hl, wpAny_loadPart' hb
  exact ⟨plainId_quiet plain_eq_loop _, codeAny_builtin entry_eq_loop (by
    rw [Around.under_plainId plain_eq_loop _]
    exact lt_loopAt l b items items2 n n2 dd dd2 sl sl2 xs ys hx hy _ 0 rfl (Nat.zero_le _) (Nat.zero_le _) prog w A R _ ⟨hl, hb, h⟩)⟩
theorem oneLt_strs {prog : Program} {w : World} {A : Around} {E : Value → Shared → Prop} {s : Shared} {l b : Addr} {items items2 : Array Value} {xs ys : List Str} {Q : Bool → Shared → Prop} (hl : s.heap.IsList l items) (hb : s.heap.IsList b items2)
    (hx : StrsAre items.toList xs) (hy : StrsAre items2.toList ys) (hu : A.units < cLine) (h : Q (ltS xs ys) s) : wpAny (model prog w) A (oneLt' true (.ref l) (.ref b)) Q E s := by
  have hT := hl.typeIs
  obtain ⟨⟨cls, dd, data, sl⟩, ho, hc, n, hd⟩ := id hl
  obtain ⟨⟨cls2, dd2, data2, sl2⟩, ho2, hc2, n2, hd2⟩ := id hb
  simp only at hc hd hc2 hd2
  subst hc hd hc2 hd2
  rw [oneLt'_eq]
  simp only [if_true]
  refine wpAny_bind (wpAny_cRoomFor hu ?_)
  refine wpAny_bind (wpAny_callSpecialIfBound?_slot hT F.slot_list_lt (call_meets F.slot_list_lt hT F.entry_list_lt (F.args_list_lt_2 _ _) (list_ltAt l b items items2 n n2 dd dd2 sl sl2 xs ys hx hy) ⟨ho, ho2, ?_⟩))
  exact wpAny_truthy_bool h
end

/-- every question asks of items that stand -/
def KOk {α : Type} (n : Nat) (P : α → Prop) : KasT α → Prop
  | .ret a => P a
  | .ask i j k => i < n ∧ j < n ∧ ∀ b, KOk n P (k b)
theorem KOk.bind {α β : Type} {n : Nat} {P : α → Prop} {Q : β → Prop} {f : α → KasT β} (hf : ∀ a, P a → KOk n Q (f a)) : ∀ {t : KasT α}, KOk n P t → KOk n Q (t.bind f)
  | .ret a, h => hf a h
  | .ask _ _ k, h => ⟨h.1, h.2.1, fun b => KOk.bind hf (h.2.2 b)⟩
theorem KOk.mono {α : Type} {n : Nat} {P Q : α → Prop} (hf : ∀ a, P a → Q a) : ∀ {t : KasT α}, KOk n P t → KOk n Q t
  | .ret a, h => hf a h
  | .ask _ _ k, h => ⟨h.1, h.2.1, fun b => KOk.mono hf (h.2.2 b)⟩
def kev {α : Type} (ans : Nat → Nat → Bool) : KasT α → α
  | .ret a => a
  | .ask i j k => kev ans (k (ans i j))
theorem KOk.eval {α : Type} {n : Nat} {P : α → Prop} {ans : Nat → Nat → Bool} : ∀ {t : KasT α}, KOk n P t → P (kev ans t)
  | .ret a, h => h
  | .ask _ _ k, h => (h.2.2 _).eval
theorem KOk.wp {α : Type} {n : Nat} {P : α → Prop} {ans : Nat → Nat → Bool} {cmp : Nat → Nat → (Bool → Shared → Prop) → Shared → Prop} {s : Shared} {Q : α → Shared → Prop} (hc : ∀ i j C, i < n → j < n → C (ans i j) s → cmp i j C s) :
    ∀ {t : KasT α}, KOk n P t → Q (kev ans t) s → t.kasWp cmp Q s
  | .ret a, _, hq => hq
  | .ask i j k, h, hq => hc i j _ h.1 h.2.1 (KOk.wp hc (h.2.2 _) hq)
def KInv (n : Nat) (p : Array Nat) : Prop := ∀ i, p.getD i 0 < n
theorem KInv.swap {n : Nat} {p : Array Nat} (h : KInv n p) (a b : Nat) : KInv n (p.swapIfInBounds a b) := by
  intro i
  rw [Array.swapIfInBounds_def]
  split
  · split
    · rename_i ha hb
      have h1 := h a
      have h2 := h b
      have h3 := h i
      simp only [Array.getD_eq_getD_getElem?, Array.getElem?_swap] at *
      by_cases q1 : b = i
      · simp [q1] at *; simp [ha] at h1 ⊢; exact h1
      · by_cases q2 : a = i
        · simp [q1, q2] at *; simp [hb] at h2 ⊢; exact h2
        · simp [q1, q2] at *; exact h3
    · exact h i
  · exact h i
theorem KInv.swaps {n : Nat} (u v : Nat → Nat) : ∀ (l : List Nat) {p : Array Nat}, KInv n p → KInv n (l.foldl (fun a k => a.swapIfInBounds (u k) (v k)) p)
  | [], _, h => h
  | k :: l, _, h => KInv.swaps u v l (h.swap _ _)
theorem KInv.rev {n : Nat} {p : Array Nat} (h : KInv n p) (i j : Nat) : KInv n (kas_rev p i j) := KInv.swaps (fun k => i + k) (fun k => j - 1 - k) _ h
theorem KInv.bub {n : Nat} {p : Array Nat} (h : KInv n p) (k d : Nat) : KInv n (bubble p k d) := KInv.swaps (fun i => k - i) (fun i => k - i - 1) _ h
theorem ok_asc {n : Nat} {p : Array Nat} (h : KInv n p) : ∀ f m, KOk n (fun _ => True) (kas_asc p f m)
  | 0, _ => trivial
  | f + 1, m => ⟨h _, h _, fun b => by cases b with | true => exact trivial | false => exact ok_asc h f (m + 1)⟩
theorem ok_desc {n : Nat} : ∀ f {p : Array Nat}, KInv n p → ∀ m q, KOk n (fun r => KInv n r.1) (kas_desc f p m q)
  | 0, _, h, _, _ => h
  | f + 1, p, h, m, q => ⟨h _, h _, fun b => by
      cases b with
      | true =>
        show KOk n _ (if q > 0 then _ else _)
        split
        · exact ok_desc f (h.rev _ _) _ _
        · exact ok_desc f h _ _
      | false =>
        refine ⟨h _, h _, fun b => ?_⟩
        cases b with
        | true => exact h
        | false => exact ok_desc f h _ _⟩
theorem ok_tail3 {n : Nat} {p : Array Nat} (h : KInv n p) (a b : Nat) : KOk n (fun r => KInv n r.2) (kas_tail3 a b p) :=
  KOk.bind (P := fun _ => True) (Q := fun r : Nat × Array Nat => KInv n r.2) (f := fun m => KasT.ret (m, kas_rev p 0 a)) (fun _ _ => show KInv n (kas_rev p 0 a) from h.rev 0 a) (ok_asc (h.rev 0 a) _ _)
theorem ok_descPart {n : Nat} {p : Array Nat} (h : KInv n p) (a b : Nat) : KOk n (fun r => KInv n r.2) (kas_descPart a b p) := by
  refine KOk.bind (fun r hr => ?_) (ok_desc _ h _ _)
  split
  · exact ok_tail3 (hr.rev _ _) _ _
  · exact ok_tail3 hr _ _
theorem ok_count {n : Nat} {p : Array Nat} (h : KInv n p) (a : Nat) : KOk n (fun r => KInv n r.2) (kas_count a p) := by
  refine KOk.bind (fun r _ => ?_) (ok_asc h _ _)
  split
  · exact h
  · split
    · refine ⟨h _, h _, fun b => ?_⟩
      cases b with
      | true => exact h
      | false => exact ok_descPart (h.rev _ _) _ _
    · exact ok_descPart h _ _
theorem ok_place {n : Nat} {p : Array Nat} (h : KInv n p) (k : Nat) : ∀ f l r, KOk n (fun _ => True) (kas_place p k f l r)
  | 0, _, _ => trivial
  | f + 1, l, r => by
    show KOk n _ (if l ≥ r then _ else _)
    split
    · exact trivial
    · refine ⟨h _, h _, fun b => ?_⟩
      cases b with
      | true => exact ok_place h k f _ _
      | false => exact ok_place h k f _ _
theorem ok_bin {n : Nat} : ∀ f {p : Array Nat}, KInv n p → ∀ k, KOk n (KInv n) (kas_bin f p k)
  | 0, _, h, _ => h
  | f + 1, _, h, k => KOk.bind (fun _ _ => ok_bin f (h.bub _ _) _) (ok_place h k _ _ _)
theorem ok_sort {n : Nat} (hn : 0 < n) : KOk n (KInv n) (kas_sort n) := by
  have h : KInv n (List.toArray (List.range n)) := fun i => by
    rw [Array.getD_eq_getD_getElem?, List.getElem?_toArray]
    by_cases q : i < n
    · rw [List.getElem?_range q]; exact q
    · rw [List.getElem?_eq_none (by simpa using q)]; exact hn
  refine KOk.bind (fun r hr => ?_) (ok_count h _)
  split
  · exact ok_bin _ hr _
  · exact hr
/-- the machine's order of rows -/
def srtP (l : List (List Str)) : List (List Str) := (kev (fun i j => ltS (l.getD i []) (l.getD j [])) (kas_sort l.length)).toList.map fun i => l.getD i []

section
variable {prog : Program} {w : World} {A : Around} {E : Value → Shared → Prop} {s : Shared} {h₀ : Heap} {L : Addr} {m : Str → Option Value} {news : List (Addr × Obj)}
theorem All2.getD {α : Type} {R : Value → α → Prop} {vs : List Value} {xs : List α} (h : All2 R vs xs) {i : Nat} (hi : i < xs.length) (d : Value) (e : α) : R (vs.getD i d) (xs.getD i e) := by
  obtain ⟨v, e1, r⟩ := h.at (List.getElem?_eq_getElem hi)
  rw [List.getD_eq_getElem?_getD, List.getD_eq_getElem?_getD, e1, List.getElem?_eq_getElem hi]
  exact r
theorem All2.map {α : Type} {R : Value → α → Prop} {f : Nat → Value} {g : Nat → α} : ∀ {l : List Nat}, (∀ i ∈ l, R (f i) (g i)) → All2 R (l.map f) (l.map g)
  | [], _ => .nil
  | _ :: _, h => .cons (h _ (.head _)) (All2.map fun i hi => h i (.tail _ hi))

theorem looks_list {M : Model} {h : Heap} {a : Addr} {its : Array Value} (hl : h.IsList a its) : Looks M h (typeOf (.ref a)) (.type "list") := by
  obtain ⟨o, ho, hc, _⟩ := hl
  exact hc ▸ (Looks.ld ho).andThen .now
theorem strsIn_list {h : Heap} {r : Ledger} (N : ∀ p ∈ r, h.get? p.1 = some p.2) {v : Value} {ns : List Str} (x : StrsIn r v ns) : ∃ a vs, v = .ref a ∧ h.IsList a (List.toArray vs) ∧ StrsAre vs ns := by
  obtain ⟨D, vs, k, e, m, q⟩ := x
  exact ⟨D, vs, e, ⟨_, N _ m, rfl, _, rfl⟩, q⟩
theorem srtP_short {xs : List (List Str)} (h : xs.length < 2) : srtP xs = xs := by
  match xs, h with
  | [], _ => rfl
  | [x], _ => rfl
theorem sort_short {a : Addr} {vs : List Value} {n : Nat} {P : PySem.Fin → Shared → Prop} (ho : s.heap.get? a = some (seqObj "list" vs.toArray n)) (h2 : vs.length < 2)
    (h : P (.done (.ret .none)) { s with heap := sortedHeap s.heap a vs vs.toArray }) : wpAny (model prog w) A (Builtin.«list.sort» ⟨[.ref a], []⟩) P E s := by
  rw [list_sort_plain]
  have ha : a < s.heap.objs.size := Heap.lt_size ho
  have hsl := sizeLine_eq
  refine wpAny_bind (listItems_at ho rfl ?_)
  refine wpAny_bind (listUpdate_at ho rfl ?_ (by rw [List.size_toArray]; omega) (Nat.zero_le _))
  obtain ⟨e1, ho1⟩ : ∃ e1, (s.heap.update a (Obj.mapSeq fun _ => #[])).get? a = some (seqObj "list" #[] e1) := ⟨_, get?_update_seq ho (fun _ => #[])⟩
  refine wpAny_bind (seqEpoch_at ho1 rfl ?_)
  refine wpAny_bind (wpAny_newTuple ?_ (by show vs.length ≤ _; omega))
  refine wpAny_bind (wpAny_newList ?_ (Nat.zero_le _))
  refine wpAny_holding ?_
  have ho6 : (((s.heap.update a (Obj.mapSeq fun _ => #[])).push (seqObj "tuple" vs.toArray 0)).push (seqObj "list" #[] 0)).get? a = some (seqObj "list" #[] e1) := by
    rw [Heap.get?_push_ne _ _ _ (by rw [size_push', Heap.size_update]; exact Nat.ne_of_lt (Nat.lt_succ_of_lt ha)), Heap.get?_push_ne _ _ _ (by rw [Heap.size_update]; exact Nat.ne_of_lt ha)]
    exact ho1
  show wpAny (model prog w) A _ P E { s with heap := ((s.heap.update a (Obj.mapSeq fun _ => #[])).push (seqObj "tuple" vs.toArray 0)).push (seqObj "list" #[] 0) }
  dsimp only
  have hs2 : vs.toArray.size < 2 := by rw [List.size_toArray]; exact h2
  rw [if_pos hs2, if_pos hs2]
  refine wpAny_bind (wpAny_pure ?_)
  rw [StateT.run_pure]
  refine wpAny_bind (wpAny_pure ?_)
  dsimp only
  have hz : ∀ l : List Value, ((l.toArray.zip l.toArray).map (·.2) : Array Value) = l.toArray := fun l => by
    apply Array.toList_inj.mp
    simp [List.map_snd_zip]
  refine wpAny_bind (seqEpoch_at ho6 rfl ?_)
  show wpAny _ _ (do
    Builtin.List.listUpdate (.ref a) fun _ => (vs.toArray.zip vs.toArray).map (·.2)
    _) _ _ _
  rw [hz]
  refine wpAny_bind (listUpdate_at ho6 rfl ?_ (Nat.zero_le _) (by rw [List.size_toArray]; omega))
  simp only [bne_self_eq_false, Bool.false_eq_true, if_false]
  exact wpAny_pure h

theorem sorted_rows {l : Addr} {vs : List Value} {r : Ledger} {xs : List (List Str)} {Q : Value → Shared → Prop} (F : Fr h₀ L s.heap m) (N : News h₀ L s.heap news) (hl : s.heap.IsList l vs.toArray) (h64 : vs.length < 64)
    (hR : All2 (StrsIn r) vs xs) (hr : ∀ p ∈ r, p ∈ news) (hu : A.in1.in1.units < cLine)
    (h : ∀ D us c h', Fr h₀ L h' m → News h₀ L h' ((D, listOf (List.toArray us) c) :: news) → AllNe D news → All2 (StrsIn r) us (srtP xs) → Q (.ref D) { s with heap := h' }) :
    wpAny (model prog w) A (call (.builtin "sorted") [.ref l]) Q E s := by
  by_cases h2 : 2 ≤ vs.length
  · refine kas_sorted (T := .type "list") F N hl h2 h64 (fun h' F' N' v hv => ?_) (by decide) fun D e1 h' F' N' hD => ?_
    · obtain ⟨i, hi, e⟩ := List.mem_iff_getElem.mp hv
      have hx : i < xs.length := by rw [← hR.len]; exact hi
      have q := hR.getD hx Value.none []
      rw [List.getD_eq_getElem?_getD, List.getElem?_eq_getElem hi, Option.getD_some, e] at q
      obtain ⟨a, ws, rfl, hw, _⟩ := strsIn_list (fun p hp => (N' p (hr p hp)).1) q
      exact looks_list hw
    · have hlen := hR.len
      rw [hlen]
      have hok := ok_sort (n := xs.length) (by omega)
      refine KOk.wp (n := xs.length) (P := KInv xs.length) (ans := fun i j => ltS (xs.getD i []) (xs.getD j [])) (fun i j C hi hj hC => ?_) hok ?_
      · unfold kas_ask
        rw [keyLt'_oneType]
        obtain ⟨a, as, ea, ha, sa⟩ := strsIn_list (fun p hp => (N' p (.tail _ (hr p hp))).1) (hR.getD hi Value.none [])
        obtain ⟨b, bs, eb, hb, sb⟩ := strsIn_list (fun p hp => (N' p (.tail _ (hr p hp))).1) (hR.getD hj Value.none [])
        rw [ea, eb]
        exact oneLt_strs ha hb sa sb hu hC
      · refine KasFin.intro F' N' (.head (fun p hp => Nat.ne_of_lt (hD p hp))) fun h'' c F'' N'' => ?_
        refine h D _ c h'' F'' N'' (allNe_of fun p hp => Nat.ne_of_lt (hD p hp)) ?_
        refine All2.map fun i hi => hR.getD ?_ _ _
        have := (hok.eval (ans := fun i j => ltS (xs.getD i []) (xs.getD j [])))
        obtain ⟨k, hk, e⟩ := List.mem_iff_getElem.mp hi
        have q := this k
        rw [Array.getD_eq_getD_getElem?, ← Array.getElem?_toList, List.getElem?_eq_getElem hk, Option.getD_some, e] at q
        exact q
  · have h2 : vs.length < 2 := by omega
    refine Calls.call_function_entry kind_sorted plain_sorted entry_sorted (args_sorted1 _) ?_
    unfold Builtin.«sorted»
    refine wpAny_bind (m := checkCount "sorted" 1 1 _) (wpAny_pure ?_)
    refine wpAny_bind (collect_list hl ?_ (by rw [sizeLine_eq]; omega))
    refine wpAny_bind (wpAny_newList ?_ (by rw [sizeLine_eq]; omega))
    have hsz : ((s.heap.push (seqObj "list" #[] 0)).update s.heap.objs.size (Obj.mapSeq (· ++ vs.toArray))).objs.size = s.heap.objs.size + 1 := by
      rw [Heap.size_update, size_push']
    have hoL : (((s.heap.push (seqObj "list" #[] 0)).update s.heap.objs.size (Obj.mapSeq (· ++ vs.toArray))).push (seqObj "list" vs.toArray 0)).get? (s.heap.objs.size + 1) = some (seqObj "list" vs.toArray 0) := by
      rw [← hsz]; exact Heap.get?_push_size _ rfl
    have keep : ∀ b o, s.heap.get? b = some o → (((s.heap.push (seqObj "list" #[] 0)).update s.heap.objs.size (Obj.mapSeq (· ++ vs.toArray))).push (seqObj "list" vs.toArray 0)).get? b = some o := fun b o q => by
      have hlt : b < s.heap.objs.size := Heap.lt_size q
      rw [Heap.get?_push_ne _ _ _ (by rw [hsz]; exact Nat.ne_of_lt (Nat.lt_succ_of_lt hlt)), Heap.get?_update_ne _ _ _ _ (Nat.ne_of_lt hlt), Heap.get?_push_ne _ _ _ (Nat.ne_of_lt hlt)]
      exact q
    have hL : L < s.heap.objs.size := F.ns.lt
    show wpAny _ _ _ _ _ { s with heap := ((s.heap.push (seqObj "list" #[] 0)).update s.heap.objs.size (Obj.mapSeq (· ++ vs.toArray))).push (seqObj "list" vs.toArray 0) }
    rw [hsz]
    refine wpAny_bind (wpAny_holding (wpAny_call_entry slot_list_sort ⟨_, hoL, rfl⟩ entry_list_sort ?body (args_list_sort _)))
    case body =>
      have F' := F.kept keep
      have N' := N.grown keep
      generalize hg : ((s.heap.push (seqObj "list" #[] 0)).update s.heap.objs.size (Obj.mapSeq (· ++ vs.toArray))).push (seqObj "list" vs.toArray 0) = g at *
      refine sort_short (s := { s with heap := g }) hoL h2 ⟨_, rfl, wpAny_pure ⟨_, rfl, ?_⟩⟩
      have hDL : s.heap.objs.size + 1 ≠ L := Nat.ne_of_gt (Nat.lt_succ_of_lt hL)
      have hD0 : h₀.get? (s.heap.objs.size + 1) = none := Heap.get?_none_of_le (Nat.le_trans F.above (Nat.le_succ_of_le (Nat.le_of_lt hL)))
      have hNe : ∀ p ∈ news, p.1 ≠ s.heap.objs.size + 1 := fun p hp => Nat.ne_of_lt (Nat.lt_succ_of_lt (Heap.lt_size (N p hp).1))
      have s1 := Heap.SameBut.update g (s.heap.objs.size + 1) (Obj.mapSeq fun _ => (#[] : Array Value))
      obtain ⟨e1, ho1⟩ : ∃ e1, (g.update (s.heap.objs.size + 1) (Obj.mapSeq fun _ => #[])).get? (s.heap.objs.size + 1) = some (seqObj "list" #[] e1) := ⟨_, get?_update_seq hoL (fun _ => #[])⟩
      have F3 := ((kas_fr F' s1 hDL hD0).push (seqObj "tuple" vs.toArray 0)).push (seqObj "list" #[] 0)
      have N3 := (kas_news N' s1 hNe).grown (h' := ((g.update (s.heap.objs.size + 1) (Obj.mapSeq fun _ => #[])).push (seqObj "tuple" vs.toArray 0)).push (seqObj "list" #[] 0)) fun b x e => Heap.get?_push_of_some _ (Heap.get?_push_of_some _ e)
      have ho3 : (((g.update (s.heap.objs.size + 1) (Obj.mapSeq fun _ => #[])).push (seqObj "tuple" vs.toArray 0)).push (seqObj "list" #[] 0)).get? (s.heap.objs.size + 1) = some (seqObj "list" #[] e1) := Heap.get?_push_of_some _ (Heap.get?_push_of_some _ ho1)
      have s2 := Heap.SameBut.update (((g.update (s.heap.objs.size + 1) (Obj.mapSeq fun _ => #[])).push (seqObj "tuple" vs.toArray 0)).push (seqObj "list" #[] 0)) (s.heap.objs.size + 1) (Obj.mapSeq fun _ => vs.toArray)
      obtain ⟨c2, hc2⟩ : ∃ c2, (sortedHeap g (s.heap.objs.size + 1) vs vs.toArray).get? (s.heap.objs.size + 1) = some (seqObj "list" vs.toArray c2) := ⟨_, get?_update_seq ho3 fun _ => vs.toArray⟩
      refine h (s.heap.objs.size + 1) vs c2 _ (kas_fr F3 s2 hDL hD0) (fun p hp => ?_) (allNe_of hNe) ?_
      · rcases List.mem_cons.mp hp with rfl | hp
        · exact ⟨hc2, hDL, hD0⟩
        · exact kas_news N3 s2 hNe p hp
      · rw [srtP_short (by rw [← hR.len]; exact h2)]
        exact hR
end
end Mine

end

section
open PySem PySem.W PyProof.Rows PySem.Calls SeqAt
set_option maxRecDepth 100000
namespace Mine
theorem calm_eqr : True := by
  w_top off
  trivial
theorem strsAre_uniq {vs : List Value} {ns : List Str} (sa : StrsAre vs ns) : ∀ {ms : List Str}, StrsAre vs ms → ns = ms := by
  induction sa with
  | nil => intro ms sb; cases sb; rfl
  | cons x t _ ih => intro ms sb; cases sb with | cons y u q => rw [ih q]
section
variable {prog : Program} {w : World} {A : Around} {E : Value → Shared → Prop} {s : Shared} {h₀ : Heap} {L : Addr} {m : Str → Option Value} {news r r' : Ledger}
theorem eqAt_strs {a b : Addr} {vs us : List Value} {ns ms : List Str} (ha : s.heap.IsList a (List.toArray vs)) (hb : s.heap.IsList b (List.toArray us)) (sa : StrsAre vs ns) (sb : StrsAre us ms) (hu : A.units < cLine) : EqAt A s (.ref a) (.ref b) (decide (ns = ms)) := by
  by_cases hab : a = b
  · subst hab
    obtain ⟨o, e1, _, n, d1⟩ := ha
    obtain ⟨o', e2, _, n', d2⟩ := hb
    rw [e1] at e2; cases e2
    rw [d1] at d2
    have : List.toArray vs = List.toArray us := by injection d2
    have e : vs = us := by simpa using this
    subst e
    have : ns = ms := strsAre_uniq sa sb
    rw [this, decide_eq_true rfl]
    exact EqAt.same _
  · have la := StrsAre.length sa
    have lb := StrsAre.length sb
    refine EqAt.of_refs hab ?_
    by_cases hz : vs.length = us.length
    · have q := RcAt.lists (A := A) (e := fun j => ns.getD j Str.empty == ms.getD j Str.empty) ha hb (by simpa using hz) hu fun j h1 h2 => by
        simp only [List.size_toArray] at h1 h2
        have j1 : j < ns.length := by omega
        have j2 : j < ms.length := by omega
        obtain ⟨t1, e1⟩ := StrsAre.at sa (List.getElem?_eq_getElem j1)
        obtain ⟨t2, e2⟩ := StrsAre.at sb (List.getElem?_eq_getElem j2)
        have f1 : (List.toArray vs)[j]'(by simpa using h1) = .str ns[j] t1 := by
          rw [List.getElem?_eq_getElem h1] at e1
          simpa using Option.some.inj e1
        have f2 : (List.toArray us)[j]'(by simpa using h2) = .str ms[j] t2 := by
          rw [List.getElem?_eq_getElem h2] at e2
          simpa using Option.some.inj e2
        rw [f1, f2]
        rw [List.getD_eq_getElem?_getD, List.getD_eq_getElem?_getD, List.getElem?_eq_getElem j1, List.getElem?_eq_getElem j2]
        exact EqAt.str_str _ _ _ _
      have e : (List.range (List.toArray vs).size).all (fun j => ns.getD j Str.empty == ms.getD j Str.empty) = decide (ns = ms) := by
        rw [Bool.eq_iff_iff, List.all_eq_true, decide_eq_true_iff, List.size_toArray]
        constructor
        · intro h
          refine List.ext_getElem (by omega) fun j h1 h2 => ?_
          have := h j (List.mem_range.mpr (by omega))
          rw [List.getD_eq_getElem?_getD, List.getD_eq_getElem?_getD, List.getElem?_eq_getElem h1, List.getElem?_eq_getElem h2] at this
          simpa using this
        · rintro rfl j _
          simp
      rw [e] at q
      exact q
    · have q := RcAt.lists_lengths (A := A) ha hb (by simpa using hz) hu
      have e : decide (ns = ms) = false := decide_eq_false fun h => hz (by rw [la, lb, h])
      rw [e]
      exact q
theorem eqAt_strsIn {x y : Value} {ns ms : List Str} (N : ∀ p ∈ r, s.heap.get? p.1 = some p.2) (N' : ∀ p ∈ r', s.heap.get? p.1 = some p.2) (hx : StrsIn r x ns) (hy : StrsIn r' y ms) (hu : A.units < cLine) : EqAt A s x y (decide (ns = ms)) := by
  obtain ⟨a, vs, rfl, ha, sa⟩ := strsIn_list N hx
  obtain ⟨b, us, rfl, hb, sb⟩ := strsIn_list N' hy
  exact eqAt_strs ha hb sa sb hu
/-- two lists of the same rows are equal -/
theorem ne_rows {a b : Addr} {vs us : List Value} {xs : List (List Str)} {Q : Value → Shared → Prop} (ha : s.heap.IsList a (List.toArray vs)) (hb : s.heap.IsList b (List.toArray us)) (N : ∀ p ∈ r, s.heap.get? p.1 = some p.2) (N' : ∀ p ∈ r', s.heap.get? p.1 = some p.2)
    (hx : All2 (StrsIn r) vs xs) (hy : All2 (StrsIn r') us xs) (hu : A.units < cLine) (hu' : A.in1.units < cLine) (h : Q (.bool false) s) : wpAny (model prog w) A (compareOp .NotEq (.ref a) (.ref b)) Q E s := by
  have lx := hx.len
  have ly := hy.len
  refine RcNeAt.lists (e := fun _ => true) ha hb (by simp [lx, ly]) hu (fun j h1 h2 => ?_) prog w E Q ?_
  · simp only [List.size_toArray] at h1 h2
    have j1 : j < xs.length := by omega
    obtain ⟨v, e1, q1⟩ := hx.at (List.getElem?_eq_getElem j1)
    obtain ⟨u, e2, q2⟩ := hy.at (List.getElem?_eq_getElem j1)
    rw [List.getElem?_eq_getElem h1] at e1
    rw [List.getElem?_eq_getElem h2] at e2
    have f1 : (List.toArray vs)[j]'(by simpa using h1) = v := by simpa using Option.some.inj e1
    have f2 : (List.toArray us)[j]'(by simpa using h2) = u := by simpa using Option.some.inj e2
    rw [f1, f2]
    have := eqAt_strsIn (A := A.in1) N N' q1 q2 hu'
    rw [decide_eq_true rfl] at this
    exact this
  · have : (!(List.range (List.toArray vs).size).all fun _ => true) = false := by simp
    rw [this]; exact h
open Classical in
/-- a row that stands in a list -/
theorem notIn_rows {a : Addr} {x : Value} {ns : List Str} {vs : List Value} {xs : List (List Str)} {Q : Value → Shared → Prop} (ha : s.heap.IsList a (List.toArray vs)) (N : ∀ p ∈ r, s.heap.get? p.1 = some p.2) (hv : All2 (StrsIn r) vs xs) (hx : StrsIn r x ns) (hm : ns ∈ xs) (hu : A.in1.units < cLine)
    (h : Q (.bool false) s) : wpAny (model prog w) A (compareOp .NotIn x (.ref a)) Q E s := by
  have uniq : ∀ {v : Value} {l l' : List Str}, StrsIn r v l → StrsIn r v l' → l = l' := by
    intro v l l' h1 h2
    obtain ⟨D, vs, k, rfl, m, sa⟩ := h1
    obtain ⟨D', vs', k', e, m', sb⟩ := h2
    cases e
    have q1 := N _ m
    have q2 := N _ m'
    dsimp only at q1 q2
    rw [q1] at q2
    have e1 := Option.some.inj q2
    have e2 : vs = vs' := by
      injection e1 with _ _ d _
      injection d with d _
      simpa using d
    subst e2
    exact strsAre_uniq sa sb
  refine notIn_listAt (fun y => decide (StrsIn r y ns)) ha (fun y hy => ?_) ?_
  · obtain ⟨j, hj, e⟩ := List.mem_iff_getElem.mp (by simpa using hy : y ∈ vs)
    have hjx : j < xs.length := by rw [← hv.len]; exact hj
    obtain ⟨v, e1, q1⟩ := hv.at (List.getElem?_eq_getElem hjx)
    rw [List.getElem?_eq_getElem hj, e] at e1
    cases e1
    have := eqAt_strsIn (A := A.in1) N N q1 hx hu
    have e2 : decide (xs[j] = ns) = decide (StrsIn r y ns) := by
      by_cases q : xs[j] = ns
      · rw [decide_eq_true q, decide_eq_true (q ▸ q1)]
      · rw [decide_eq_false q, decide_eq_false fun z => q (uniq q1 z)]
    rw [← e2]
    exact this
  · obtain ⟨j, hj, e⟩ := List.mem_iff_getElem.mp hm
    obtain ⟨v, e1, q1⟩ := hv.at (List.getElem?_eq_getElem hj)
    have : ((List.toArray vs).any fun y => decide (StrsIn r y ns)) = true := by
      rw [← Array.any_toList, List.any_eq_true]
      exact ⟨v, by simpa using List.mem_of_getElem? e1, decide_eq_true (e ▸ q1)⟩
    rw [this]; exact h
end
end Mine

end

section
open PySem PySem.W PyProof.Rows PySem.Calls PyProof.Rows.LCg
set_option maxRecDepth 100000
namespace Mine
theorem calm_rc : True := by
  w_top off
  trivial

/-- the rows of a table, as objects -/
def MatL (Ds : List (Addr × Nat)) (M : List (List Bool)) : Ledger := List.zipWith (fun p bs => (p.1, listOf (List.toArray (bs.map Value.bool)) p.2)) Ds M
theorem matL_mem {Ds : List (Addr × Nat)} {M : List (List Bool)} {i : Nat} {p : Addr × Nat} {bs : List Bool} (h1 : Ds[i]? = some p) (h2 : M[i]? = some bs) : (p.1, listOf (List.toArray (bs.map Value.bool)) p.2) ∈ MatL Ds M := by
  refine List.mem_of_getElem? (i := i) ?_
  unfold MatL
  rw [List.getElem?_zipWith, h1, h2]
theorem matL_addr {Ds : List (Addr × Nat)} {M : List (List Bool)} : ∀ q ∈ MatL Ds M, ∃ p ∈ Ds, p.1 = q.1 := by
  intro q hq
  unfold MatL at hq
  obtain ⟨i, hi, e⟩ := List.mem_iff_getElem.mp hq
  simp only [List.getElem_zipWith] at e
  exact ⟨_, List.getElem_mem _, by rw [← e]⟩
theorem matL_has {Ds : List (Addr × Nat)} {M : List (List Bool)} {d : Addr × Nat} (hd : d ∈ Ds) (hl : Ds.length ≤ M.length) : ∃ q ∈ MatL Ds M, q.1 = d.1 := by
  obtain ⟨i, hi, e⟩ := List.mem_iff_getElem.mp hd
  exact ⟨_, matL_mem (List.getElem?_eq_getElem hi) (List.getElem?_eq_getElem (Nat.lt_of_lt_of_le hi hl)), by rw [e]⟩
theorem matL_split {Ds : List (Addr × Nat)} {M : List (List Bool)} {i : Nat} {p : Addr × Nat} {bs : List Bool} (h1 : Ds[i]? = some p) (h2 : M[i]? = some bs) :
    MatL Ds M = MatL (Ds.take i) (M.take i) ++ (p.1, listOf (List.toArray (bs.map Value.bool)) p.2) :: MatL (Ds.drop (i + 1)) (M.drop (i + 1)) := by
  obtain ⟨a, ea⟩ := List.getElem?_eq_some_iff.mp h1
  obtain ⟨b, eb⟩ := List.getElem?_eq_some_iff.mp h2
  conv => lhs; rw [← List.take_append_drop i Ds, ← List.take_append_drop i M]
  unfold MatL
  rw [List.zipWith_append (by simp; omega), List.drop_eq_getElem_cons a, List.drop_eq_getElem_cons b, ea, eb]
  rfl
theorem matL_set {Ds : List (Addr × Nat)} {M : List (List Bool)} {i : Nat} {p : Addr × Nat} {bs : List Bool} (h1 : Ds[i]? = some p) (h2 : i < M.length) :
    MatL Ds (M.set i bs) = MatL (Ds.take i) (M.take i) ++ (p.1, listOf (List.toArray (bs.map Value.bool)) p.2) :: MatL (Ds.drop (i + 1)) (M.drop (i + 1)) := by
  rw [matL_split (i := i) h1 (bs := bs) (by rw [List.getElem?_set_self h2])]
  rw [List.take_set_of_le (Nat.le_refl _), List.drop_set_of_lt (Nat.lt_succ_self _)]
/-- a table of bools -/
def BoolsIn (r : Ledger) (v : Value) (bs : List Bool) : Prop := ∃ D k, v = .ref D ∧ (D, listOf (List.toArray (bs.map Value.bool)) k) ∈ r
def setM (M : List (List Bool)) (a b : Nat) (v : Bool) : List (List Bool) := M.set a ((M.getD a []).set b v)
def getM (M : List (List Bool)) (a b : Nat) : Bool := (M.getD a []).getD b false
def mat0 (n : Nat) : List (List Bool) := List.replicate n (List.replicate n false)
/-- a square -/
def Sq (n : Nat) (M : List (List Bool)) : Prop := M.length = n ∧ ∀ r ∈ M, r.length = n
theorem sq_mat0 (n : Nat) : Sq n (mat0 n) := ⟨List.length_replicate, fun r hr => by rw [List.eq_of_mem_replicate hr, List.length_replicate]⟩
theorem Sq.row {n : Nat} {M : List (List Bool)} (h : Sq n M) {a : Nat} (ha : a < n) : M[a]? = some (M.getD a []) ∧ (M.getD a []).length = n := by
  have hl : a < M.length := by rw [h.1]; exact ha
  have e : M[a]? = some M[a] := List.getElem?_eq_getElem hl
  rw [List.getD_eq_getElem?_getD, e]
  exact ⟨rfl, h.2 _ (List.getElem_mem hl)⟩
theorem Sq.setM {n : Nat} {M : List (List Bool)} (h : Sq n M) {a : Nat} (ha : a < n) (b : Nat) (v : Bool) : Sq n (setM M a b v) := by
  refine ⟨by unfold Mine.setM; rw [List.length_set]; exact h.1, fun r hr => ?_⟩
  rcases List.mem_or_eq_of_mem_set hr with hr | rfl
  · exact h.2 r hr
  · rw [List.length_set]; exact (h.row ha).2
theorem Sq.cell {n : Nat} {M : List (List Bool)} (h : Sq n M) {a b : Nat} (ha : a < n) (hb : b < n) : ((M.getD a []).map Value.bool)[b]? = some (Value.bool (getM M a b)) := by
  have hl : b < (M.getD a []).length := by rw [(h.row ha).2]; exact hb
  unfold getM
  rw [List.getElem?_map, List.getElem?_eq_getElem hl, List.getD_eq_getElem?_getD (l := M.getD a []), List.getElem?_eq_getElem hl]
  rfl
def edgesM (ws : Wld) (M : List (List Bool)) : List (List Bool) := (List.range ws.length).foldl (fun M k => (ws.getD k []).foldl (fun M e => setM M k e.2 true) M) M
def warB (m a : Nat) (M : List (List Bool)) (b : Nat) : List (List Bool) := setM M a b (getM M a b || (getM M a m && getM M m b))
def warA (n m : Nat) (M : List (List Bool)) (a : Nat) : List (List Bool) := (List.range n).foldl (warB m a) M
def warM (n : Nat) (M : List (List Bool)) (m : Nat) : List (List Bool) := (List.range n).foldl (warA n m) M
def warP (ws : Wld) : List (List Bool) := (List.range ws.length).foldl (warM ws.length) (edgesM ws (mat0 ws.length))
theorem foldl_inv {α β : Type} {P : β → Prop} {f : β → α → β} : ∀ {l : List α} {b : β}, P b → (∀ b a, a ∈ l → P b → P (f b a)) → P (l.foldl f b)
  | [], _, h, _ => h
  | a :: l, b, h, k => foldl_inv (l := l) (k b a (.head _) h) fun b a' ha => k b a' (.tail _ ha)
theorem sq_edges {ws : Wld} {M : List (List Bool)} (h : Sq ws.length M) : Sq ws.length (edgesM ws M) :=
  foldl_inv (P := Sq ws.length) h fun _ _ hk hM => foldl_inv (P := Sq ws.length) hM fun _ _ _ hM => hM.setM (List.mem_range.mp hk) _ _
theorem sq_warA {n m a : Nat} {M : List (List Bool)} (ha : a < n) (h : Sq n M) : Sq n (warA n m M a) := foldl_inv (P := Sq n) h fun _ _ _ hM => hM.setM ha _ _
theorem sq_warM {n m : Nat} {M : List (List Bool)} (h : Sq n M) : Sq n (warM n M m) := foldl_inv (P := Sq n) h fun _ _ hk hM => sq_warA (List.mem_range.mp hk) hM
theorem sq_warP (ws : Wld) : Sq ws.length (warP ws) := foldl_inv (P := Sq ws.length) (sq_edges (sq_mat0 _)) fun _ _ _ hM => sq_warM hM
theorem range_size (n : Nat) : Builtin.Range.rangeSize 0 (n : Int) 1 = (n : Int) := by
  unfold Builtin.Range.rangeSize
  simp
  omega
theorem off1_mem {D : Addr} : ∀ {l : Ledger}, Off1 D l → ∀ p ∈ l, p.1 ≠ D
  | [], _, _, h => nomatch h
  | _ :: _, o, p, h => by
    rcases List.mem_cons.mp h with rfl | h
    · exact o.1
    · exact off1_mem o.2 p h
theorem off3_of {I C D : Addr} : ∀ {l : Ledger}, (∀ p ∈ l, p.1 ≠ I ∧ p.1 ≠ C ∧ p.1 ≠ D) → Off3 I C D l
  | [], _ => trivial
  | p :: _, h => ⟨h p (.head _), off3_of fun q hq => h q (.tail _ hq)⟩

structure TabAt (news : Ledger) (R : Addr) (n : Nat) (Ds : List (Addr × Nat)) (M : List (List Bool)) : Prop where
  row : ∃ k, (R, listOf (List.toArray (Ds.map fun p => Value.ref p.1)) k) ∈ news
  cells : ∀ q ∈ MatL Ds M, q ∈ news
  len : Ds.length = n
  sq : Sq n M
  few : n ≤ 5
section
variable {prog : Program} {w : World} {A : Around} {E : Value → Shared → Prop} {s : Shared} {h₀ : Heap} {L : Addr} {m : Str → Option Value} {news : Ledger} {R : Addr} {n i j : Nat} {Ds : List (Addr × Nat)} {M : List (List Bool)} {p : Addr × Nat} {u : Tok}
theorem mat_row {value slice : PySem.Expr} {Q : Value → Shared → Prop} (N : News h₀ L s.heap news) (T : TabAt news R n Ds M) (hi : i < n) (h : ∀ p, Ds[i]? = some p → Q (.ref p.1) s)
    (hs : subscripted slice false (.ref R) (.int (0 + (i : Int)) u) = operate [.ref R, .int (0 + (i : Int)) u] (getItem (.ref R) (.int (0 + (i : Int)) u))) : wpAny (model prog w) A (subscriptTail value slice (.ref R) (.int (0 + (i : Int)) u)) Q E s := by
  obtain ⟨k, hk⟩ := T.row
  have hf := T.few
  have hl : i < Ds.length := by rw [T.len]; exact hi
  exact item_list (isListN N hk) (by omega) (by omega) (x := .ref Ds[i].1) (by rw [List.getElem?_toArray, show (0 + (i : Int)).toNat = i by omega, List.getElem?_map, List.getElem?_eq_getElem hl]; rfl) (h _ (List.getElem?_eq_getElem hl)) hs
theorem mat_cell {value slice : PySem.Expr} {Q : Value → Shared → Prop} (N : News h₀ L s.heap news) (T : TabAt news R n Ds M) (hp : Ds[i]? = some p) (hi : i < n) (hj : j < n) (h : Q (.bool (getM M i j)) s)
    (hs : subscripted slice false (.ref p.1) (.int (0 + (j : Int)) u) = operate [.ref p.1, .int (0 + (j : Int)) u] (getItem (.ref p.1) (.int (0 + (j : Int)) u))) : wpAny (model prog w) A (subscriptTail value slice (.ref p.1) (.int (0 + (j : Int)) u)) Q E s := by
  have hf := T.few
  have hm := matL_mem hp (T.sq.row hi).1
  exact item_list (isListN N (T.cells _ hm)) (by omega) (by omega) (x := .bool (getM M i j)) (by rw [List.getElem?_toArray, show (0 + (j : Int)).toNat = j by omega]; exact T.sq.cell hi hj) h hs
theorem mat_set {pre : Ledger} {v : Bool} {k : Int} {Q : Unit → Shared → Prop} (F : Fr h₀ L s.heap m) (N : News h₀ L s.heap (pre ++ MatL Ds M)) (hpre : ∀ q ∈ pre, ∀ d ∈ Ds, q.1 ≠ d.1) (hn : (Ds.map (·.1)).Nodup) (hp : Ds[i]? = some p) (sq : Sq n M) (hi : i < n) (hj : j < n) (hl : Ds.length = n) (hf : n ≤ 5) (hk : k = (j : Int))
    (h : ∀ h', Fr h₀ L h' m → News h₀ L h' (pre ++ MatL Ds (setM M i j v)) → Q () { s with heap := h' }) : wpAny (model prog w) A (setItem (.ref p.1) (.int k u) (.bool v)) Q E s := by
  subst hk
  have hr := sq.row hi
  have hsp := matL_split hp hr.1
  rw [hsp, ← List.append_assoc] at N
  have z := N (p.1, listOf (List.toArray ((M.getD i []).map Value.bool)) p.2) (List.mem_append.mpr (.inr (.head _)))
  have hne : ∀ q ∈ pre ++ MatL (Ds.take i) (M.take i), q.1 ≠ p.1 := by
    intro q hq
    rcases List.mem_append.mp hq with hq | hq
    · exact hpre q hq p (List.mem_of_getElem? hp)
    · obtain ⟨d, hd, e⟩ := matL_addr q hq
      rw [← e]
      obtain ⟨hi', ei⟩ := List.getElem?_eq_some_iff.mp hp
      obtain ⟨c, hc, ec⟩ := List.mem_iff_getElem.mp hd
      rw [List.getElem_take] at ec
      rw [List.length_take] at hc
      intro q2
      have := List.pairwise_iff_getElem.mp hn c i (by rw [List.length_map]; omega) (by rw [List.length_map]; exact hi') (by omega)
      rw [List.getElem_map, List.getElem_map, ec, ei] at this
      exact this q2
  have hne2 : ∀ q ∈ MatL (Ds.drop (i + 1)) (M.drop (i + 1)), q.1 ≠ p.1 := by
    intro q hq
    obtain ⟨d, hd, e⟩ := matL_addr q hq
    rw [← e]
    obtain ⟨hi', ei⟩ := List.getElem?_eq_some_iff.mp hp
    obtain ⟨c, hc, ec⟩ := List.mem_iff_getElem.mp hd
    rw [List.getElem_drop] at ec
    rw [List.length_drop] at hc
    intro q2
    have := List.pairwise_iff_getElem.mp hn i (i + 1 + c) (by rw [List.length_map]; exact hi') (by rw [List.length_map]; omega) (by omega)
    rw [List.getElem_map, List.getElem_map, ec, ei] at this
    exact this q2.symm
  refine ki_setAt z.1 (by omega) (by omega) (by rw [List.size_toArray, List.length_map, hr.2]; omega) (h _ (F.change (Heap.SameBut.update ..) z.2.1 z.2.2) ?_)
  have hset : MatL Ds (setM M i j v) = _ := matL_set (Ds := Ds) (M := M) (bs := (M.getD i []).set j v) hp (by rw [sq.1]; exact hi)
  rw [hset, ← List.append_assoc]
  refine ki_turn _ N hne hne2 ?_ (by rw [if_pos (by simp)])
  apply Array.toList_inj.mp
  rw [Array.toList_setIfInBounds, Int.toNat_natCast, List.map_set]
end
theorem off_ds {pre rows : Ledger} {I : Addr} {Ds : List (Addr × Nat)} {M : List (List Bool)} {n : Nat} (off : ∀ p ∈ pre ++ rows, p.1 ≠ I) (hr : Hold (rows = MatL Ds M)) (hl : Ds.length = n) (sq : Sq n M) : ∀ d ∈ Ds, I ≠ d.1 := fun d hd e => by
  obtain ⟨q, hq, eq⟩ := matL_has (M := M) hd (by rw [hl, sq.1]; exact Nat.le_refl _)
  exact off q (List.mem_append_right _ (by rw [Hold.out hr]; exact hq)) (by rw [eq, e])
theorem off_next {pre rows : Ledger} {I : Addr} {Ds : List (Addr × Nat)} (M' : List (List Bool)) (off : ∀ p ∈ pre ++ rows, p.1 ≠ I) (h : ∀ d ∈ Ds, I ≠ d.1) : ∀ p ∈ pre ++ MatL Ds M', p.1 ≠ I := fun p hp => by
  rcases List.mem_append.mp hp with hp | hp
  · exact off p (List.mem_append_left _ hp)
  · obtain ⟨d, hd, e⟩ := matL_addr p hp
    rw [← e]
    exact (h d hd).symm
theorem pre_nil {Ds : List (Addr × Nat)} : ∀ q ∈ ([] : Ledger), ∀ d ∈ Ds, q.1 ≠ d.1 := fun _ h => by cases h
theorem pre_cons {Ds : List (Addr × Nat)} {a : Addr × Obj} {r : Ledger} (h : ∀ d ∈ Ds, a.1 ≠ d.1) (k : ∀ q ∈ r, ∀ d ∈ Ds, q.1 ≠ d.1) : ∀ q ∈ a :: r, ∀ d ∈ Ds, q.1 ≠ d.1 := fun q hq => by
  rcases List.mem_cons.mp hq with rfl | hq
  · exact h
  · exact k q hq
theorem range_fold {α : Type} (f : α → Nat → α) (x : α) (i : Nat) : (List.range (i + 1)).foldl f x = f ((List.range i).foldl f x) i := by rw [List.range_succ, List.foldl_append]; rfl
theorem all2_mat : ∀ {Ds : List (Addr × Nat)} {M : List (List Bool)}, Ds.length = M.length → All2 (BoolsIn (MatL Ds M)) (Ds.map fun p => Value.ref p.1) M
  | [], [], _ => .nil
  | p :: Ds, b :: M, h => .cons ⟨p.1, p.2, rfl, .head _⟩ ((all2_mat (by simpa using h)).mono fun _ _ ⟨D, k, e, m⟩ => ⟨D, k, e, .tail _ m⟩)
def ReachNew (ws : Wld) (g h' : Heap) (v : Value) : Prop := ∃ r D vs k, NewIn g h' r ∧ v = .ref D ∧ (D, listOf (List.toArray vs) k) ∈ r ∧ All2 (BoolsIn r) vs (warP ws)
local macro_rules | `(tactic| walk_at "mine.room") => `(tactic| first
  | omega
  | ((try simp only [depth_under_make, depth_under_kw, depth_in1, depth_deeper, depth_caller]); (try dsimp only [ktrTop]); omega)
  | ((have hcL9 := cLine_is); (try simp only [units_in1, units_deeper, Around.mark_units, units_caller] at *); (try dsimp only [ktrTop] at *); omega))
local macro_rules | `(tactic| k_all) => `(tactic| first | assumption | exact AllNe.mem (by assumption))
local macro_rules | `(tactic| walk_at "mine.tl") => `(tactic| first | assumption | exact List.Mem.head _ | (refine List.Mem.tail _ ?_; walk_at "mine.tl"))
local macro_rules | `(tactic| walk_at "mine.alln") => `(tactic| first | exact trivial | assumption | (refine And.intro ?_ ?_; (focus (k_ne; done)); walk_at "mine.alln"))
local macro_rules | `(tactic| k_ne) => `(tactic| (refine neN ?_; (try dsimp only); first
  | with_reducible assumption
  | (refine Nat.ne_of_lt ?_; (simp only [*]); done)
  | (refine Nat.ne_of_gt ?_; (simp only [*]); done)
  | ((simp only [ne_eq, not_false_eq_true, *]); done)
  | (refine Ne.symm ?_; (simp only [ne_eq, not_false_eq_true, *]); done)))
local macro_rules | `(tactic| walk_at "mine.look") => `(tactic| first | with_reducible assumption | exact if_pos rfl | (refine (if_neg (by decide)).trans ?_; walk_at "mine.look") | exact rfl)
local macro_rules | `(tactic| walk_at "eval Name") => `(tactic| (k_here; (with_reducible show wpAny _ _ (eval (Expr.Name _ _) _) _ _ _); k_dflt (refine' nameX_L ?k1 ?k2 ?_ ?k3 ?k4 ?k5; (case k3 => exact rfl); (case k4 => exact rfl); (case k5 => decide); (case k1 => k_asm); (case k2 => walk_at "mine.look"); k_whole)))
local macro_rules | `(tactic| walk_at "exec Assign cons ListComp") => `(tactic| (k_here; k_dflt (refine LCg.Assign_ListComp_U (F₀ := by k_asm) (by rfl) (by with_unfolding_all rfl) (by with_unfolding_all rfl) (by decide) (by rfl) (by decide) (by rfl) (by rfl) (by rfl) ?_)))
local macro_rules | `(tactic| walk_at "CompSrc") => `(tactic| ((with_reducible refine Hold.out ?_)))
local macro_rules | `(tactic| walk_at "binaryOp Mult ref int") => `(tactic| (k_here; (with_reducible refine Hold.out ?_)))
local macro_rules | `(tactic| walk_at "ite") => `(tactic| (k_here; (with_reducible refine split_bool ?_ ?_) <;> intro hb'))
local macro_rules | `(tactic| walk_at "eval BoolOp") => `(tactic| (k_here; first | with_reducible refine BoolOp_one ?_ | with_reducible refine BoolOp_and ?_ | with_reducible refine BoolOp_or ?_))
local macro_rules | `(tactic| walk_at "exec For") => `(tactic| (k_here; (with_reducible refine Hold.out ?_)))
local macro_rules | `(tactic| walk_at "exec For Name Call cons nil") => `(tactic| (k_here; (with_reducible refine Hold.out ?_)))
local macro_rules | `(tactic| walk_at "exec For Tuple Subscript cons nil") => `(tactic| (k_here; (with_reducible refine Hold.out ?_)))
local macro_rules | `(tactic| walk_at "pyIter ref") => `(tactic| (k_here; (with_reducible refine Hold.out ?_)))
local macro_rules | `(tactic| walk_at "setItem ref int") => `(tactic| (k_here; (with_reducible refine Hold.out ?_)))
local macro_rules | `(tactic| walk_at "setItem ref int bool") => `(tactic| (k_here; (with_reducible refine Hold.out ?_)))
local macro_rules | `(tactic| walk_at "subscriptTail") => `(tactic| (k_here; first
  | ((with_reducible refine' mat_row ?N ?T ?hi ?_ ?hs); (case N => with_reducible assumption); (case T => with_reducible assumption); (case hi => with_reducible assumption); (case hs => with_unfolding_all rfl); intro p' hp')
  | ((with_reducible refine' mat_cell ?N ?T ?hp ?hi ?hj ?_ ?hs); (case N => with_reducible assumption); (case T => with_reducible assumption); (case hp => with_reducible assumption); (case hi => with_reducible assumption); (case hj => with_reducible assumption); (case hs => with_unfolding_all rfl))
  | (with_reducible refine Hold.out ?_)))
local macro_rules | `(tactic| walk_at "subscriptTail Name Name ref int") => `(tactic| (k_here; first
  | ((with_reducible refine' mat_row ?N ?T ?hi ?_ ?hs); (case N => with_reducible assumption); (case T => with_reducible assumption); (case hi => with_reducible assumption); (case hs => with_unfolding_all rfl); intro p' hp')
  | ((with_reducible refine' mat_cell ?N ?T ?hp ?hi ?hj ?_ ?hs); (case N => with_reducible assumption); (case T => with_reducible assumption); (case hp => with_reducible assumption); (case hi => with_reducible assumption); (case hj => with_reducible assumption); (case hs => with_unfolding_all rfl))
  | (with_reducible refine Hold.out ?_)))
local macro_rules | `(tactic| walk_at "subscriptTail Subscript Name ref int") => `(tactic| (k_here; first
  | ((with_reducible refine' mat_row ?N ?T ?hi ?_ ?hs); (case N => with_reducible assumption); (case T => with_reducible assumption); (case hi => with_reducible assumption); (case hs => with_unfolding_all rfl); intro p' hp')
  | ((with_reducible refine' mat_cell ?N ?T ?hp ?hi ?hj ?_ ?hs); (case N => with_reducible assumption); (case T => with_reducible assumption); (case hp => with_reducible assumption); (case hi => with_reducible assumption); (case hj => with_reducible assumption); (case hs => with_unfolding_all rfl))
  | (with_reducible refine Hold.out ?_)))

set_option maxHeartbeats 40000000 in
theorem reach_at (w : World) (W : Addr) (ws : Wld) (hw : WldOk ws) : Calls 20 w 185 [.ref W] (fun g => IsWld g W ws) (ReachNew ws) := by
  unfold Calls
  k_fill
  intro p loose mean mg mb dp un gd cn cs a ccd cl outer A₀ base h₀ L m s Q B F X T hk hd hu hP hret
  refine wpAny_call ?_
  k_dflt (refine' enterC ?k1 ?k2 ?k3 ?k5 ?kA ?kF ?kK ?k6 ?k7 ?k8 ?k9 ?kB ?kD ?_ ?c2 ?c3 ?c4; (case kA => exact rfl); (case kF => exact rfl); (case kK => assumption); (case k1 => exact B); (case k2 => exact F); (case k3 => exact X); (case k5 => exact T); (case k6 => k_is); (case k7 => k_is); (case k8 => ktr_room); (case k9 => exact BindsTo.of_eq rfl); (case kB => exact rfl); (case kD => decide +kernel); (case c2 => exact rfl); (case c3 => exact rfl); (case c4 => exact rfl); k_whole)
  intro g L₁ h₁ tk₁ cells eg F₁ N₁ Y₁ B₁ X₁ T₁
  (try rw [← eg] at hP)
  clear F X T B
  k_cells Y₁
  (try simp only [List.cons_append, List.nil_append] at N₁)
  (try dsimp only)
  (try k_fold)
  obtain ⟨its, hW, hsz, hI'⟩ := id hP
  have hw5 := hw.2.1
  have hsm : Builtin.Range.small 0 (its.size : Int) 1 = true := by
    rw [hsz]; have : ws.length = 1 ∨ ws.length = 2 ∨ ws.length = 3 ∨ ws.length = 4 ∨ ws.length = 5 := by have := hw.1; omega
    rcases this with e | e | e | e | e <;> rw [e] <;> decide
  k_steps
  refine Hold.mk ?_
  with_reducible rename Fr _ _ _ _ => F2
  with_reducible rename News _ _ _ _ => N2
  rename IsRange _ _ _ _ _ _ _ _ => hr
  rename _ = Data.cell _ => hcl
  obtain ⟨oc, N2', hcl'⟩ : ∃ oc, News g L₁ _ [(L₁ + 1, oc)] ∧ oc.data = _ := ⟨_, N2, hcl⟩
  clear N2 hcl
  refine CompSrc.range (n := ws.length) rfl F2 N2' hr hsm (by rw [hsz]; exact range_size _) (by rw [sizeLine_eq]; omega) ?_
  intro g₂
  refine rest_of (n := ws.length) (fun i ys news => ∃ (Ds : List (Addr × Nat)) (rows : Ledger), ys = Ds.map (fun p => Value.ref p.1) ∧ Ds.length = i ∧ (Ds.map (·.1)).Nodup ∧ news = (L₁ + 1, oc) :: rows ∧ Hold (rows = MatL Ds (List.replicate i (List.replicate ws.length false))) ∧ AllNe (L₁ + 1) rows) ?fin ?step _ 0 [] _ (by rw [Nat.zero_add]) ⟨[], [], rfl, rfl, List.nodup_nil, rfl, Hold.mk rfl, trivial⟩
  case step =>
    rintro i ys news hi ⟨Ds, rows, rfl, hDl, hDn, rfl, hrows, hDc⟩ v I oI C oC D m₂ h tk hP₂ hC hx F N o ne
    obtain ⟨t9, rfl⟩ := hP₂
    k_steps
    refine Hold.mk ?_
    with_reducible rename Fr _ _ _ _ => F9
    with_reducible rename News _ _ _ _ => N9
    have hrep : ∀ (n : Nat) (v : Value), (List.replicate n [v]).flatten = List.replicate n v := fun n v => by
      induction n with
      | zero => rfl
      | succ n ih => rw [List.replicate_succ, List.flatten_cons, ih]; rfl
    refine KMa.mul F9 N9 (vs := [.bool false]) (isListN N9 (.head _)) (by omega) (by omega) (by rw [hsz]; simp <;> omega) (by rw [hsz, Int.toNat_natCast]; first | done | exact hrep _ _) ?_
    intro D' h' F' N' l1
    refine CompEnd.intro F' N' ((L₁ + 1, oc) :: (rows ++ [(D', listOf (List.toArray (List.replicate ws.length (Value.bool false))) 0)])) ?sub ?off trivial ⟨Ds ++ [(D', 0)], rows ++ [(D', _)], by simp, by simp [hDl], ?nd, rfl, ?mat, ?alln⟩
    case sub =>
      intro p hp
      simp only [List.mem_cons, List.mem_append, List.not_mem_nil, or_false] at hp ⊢
      rcases hp with rfl | rfl | rfl | rfl | hp | rfl <;> simp_all
    case off =>
      refine off3_of fun p hp => ?_
      rcases List.mem_cons.mp hp with rfl | hp
      · exact o.1
      rcases List.mem_append.mp hp with hp | hp
      · exact o.2.mem p hp
      · rw [List.mem_singleton.mp hp]
        exact ⟨Nat.ne_of_gt (l1 _ (.tail _ (.head _))), Nat.ne_of_gt (l1 _ (.tail _ (.tail _ (.head _)))), Nat.ne_of_gt (l1 _ (.tail _ (.tail _ (.tail _ (.head _)))))⟩
    case mat =>
      rw [Hold.out hrows]
      refine Hold.mk ?_
      rw [List.replicate_succ', MatL, MatL, List.zipWith_append (by rw [hDl, List.length_replicate])]
      simp
    case alln =>
      refine allNe_of fun p hp => ?_
      rcases List.mem_append.mp hp with hp | hp
      · exact hDc.mem p hp
      · rw [List.mem_singleton.mp hp]
        exact Nat.ne_of_gt (l1 _ (.tail _ (.tail _ (.tail _ (.tail _ (.head _))))))
    case nd =>
      rw [List.map_append, List.nodup_append]
      refine ⟨hDn, by simp, fun a ha b hb => ?_⟩
      obtain ⟨q, hq, rfl⟩ := List.mem_map.mp ha
      simp only [List.map_cons, List.map_nil, List.mem_singleton] at hb
      subst hb
      obtain ⟨j, hj, e⟩ := List.mem_iff_getElem.mp hq
      have hm := matL_mem (Ds := Ds) (M := List.replicate i (List.replicate ws.length false)) (i := j) (List.getElem?_eq_getElem hj) (by rw [List.getElem?_replicate, if_pos (by omega)])
      rw [← Hold.out hrows] at hm
      rw [e] at hm
      exact Nat.ne_of_lt (l1 _ (.tail _ (.tail _ (.tail _ (.tail _ (.tail _ hm))))))
  case fin =>
    rintro ys news ⟨Ds, rows, rfl, hDl, hDn, rfl, hrows, hDc⟩
    intro D h tk F N o
    clear N2' F2 hr
    have hRC : @Ne Nat D (L₁ + 1) := fun e => o.1 e.symm
    have hDR : ∀ d ∈ Ds, D ≠ d.1 := by
      intro d hd e
      obtain ⟨j, hj, ej⟩ := List.mem_iff_getElem.mp hd
      have hm := matL_mem (Ds := Ds) (M := List.replicate ws.length (List.replicate ws.length false)) (i := j) (List.getElem?_eq_getElem hj) (by rw [List.getElem?_replicate, if_pos (by omega)])
      rw [← Hold.out hrows, ej] at hm
      exact off1_mem o _ (.tail _ hm) e.symm
    have hDC' : ∀ d ∈ Ds, (L₁ + 1 : Addr) ≠ d.1 := by
      intro d hd e
      obtain ⟨j, hj, ej⟩ := List.mem_iff_getElem.mp hd
      have hm := matL_mem (Ds := Ds) (M := List.replicate ws.length (List.replicate ws.length false)) (i := j) (List.getElem?_eq_getElem hj) (by rw [List.getElem?_replicate, if_pos (by omega)])
      rw [← Hold.out hrows, ej] at hm
      exact hDc.mem _ hm e.symm
    k_steps
    refine Hold.mk ?_
    refine wpAny_noRaise (wpAny_For ?_)
    refine wpAny_noRaise ?_
    k_steps
    refine Hold.mk ?_
    with_reducible rename Fr _ _ _ _ => F3
    with_reducible rename News _ _ _ _ => N3
    rename IsRange _ _ _ _ _ _ _ _ => hr
    refine iter_range (n := ws.length) (fun i m news => ∃ rows, news = (D, lst (Ds.map fun p => Value.ref p.1)) :: (L₁ + 1, oc) :: rows ∧ Hold (rows = MatL Ds ((List.range i).foldl (fun M k => (ws.getD k []).foldl (fun M e => setM M k e.2 true) M) (mat0 ws.length))) ∧
      m (Str.ofString "world") = some (.ref W) ∧ m (Str.ofString "reach") = some (.ref D)) rfl hr hsm (by rw [hsz]; exact range_size _) F3 N3 ⟨rows, rfl, hrows, by rfl, by rfl⟩ ?turn ?done
    case turn =>
      rintro I i t m news oI h tk hI hi ⟨rows, rfl, hrows, j1, j2⟩ off F N
      have hsqi : Sq ws.length ((List.range i).foldl (fun M k => (ws.getD k []).foldl (fun M e => setM M k e.2 true) M) (mat0 ws.length)) := foldl_inv (P := Sq ws.length) (sq_mat0 _) fun _ _ hk hM => foldl_inv (P := Sq ws.length) hM fun _ _ _ hM => hM.setM (Nat.lt_trans (List.mem_range.mp hk) hi) _ _
      have hIDs := off_ds (pre := [(D, lst (Ds.map fun p => Value.ref p.1)), (L₁ + 1, oc)]) off hrows hDl hsqi
      k_steps
      refine Hold.mk ?_
      refine wpAny_noRaise (wpAny_For ?_)
      refine wpAny_noRaise ?_
      k_steps
      refine Hold.mk ?_
      with_reducible rename Fr _ _ _ _ => F4
      with_reducible rename News _ _ _ _ => N4
      have hes : ws[i]? = some (ws.getD i []) := by rw [List.getD_eq_getElem?_getD, List.getElem?_eq_getElem hi]; rfl
      have hesm : ws.getD i [] ∈ ws := List.mem_of_getElem? hes
      obtain ⟨a₁, ts, ha, hta, hts, htj⟩ := hI' i _ hes
      have hes2 := (hw.2.2 _ hesm)
      refine item_list (F4.lst hW) (by omega) (by omega) (by simpa using ha) ?_ (by with_unfolding_all rfl)
      rw [range_fold]
      generalize ((List.range i).foldl (fun M k => (ws.getD k []).foldl (fun M e => setM M k e.2 true) M) (mat0 ws.length)) = Mi at hrows hsqi ⊢
      generalize ws.getD i [] = es at hes hesm hts htj hes2 ⊢
      refine iter_list (fun j m news => ∃ rows, news = (I, oI) :: (D, lst (Ds.map fun p => Value.ref p.1)) :: (L₁ + 1, oc) :: rows ∧ Hold (rows = MatL Ds ((es.take j).foldl (fun M e => setM M i e.2 true) Mi)) ∧
        m (Str.ofString "world") = some (.ref W) ∧ m (Str.ofString "reach") = some (.ref D) ∧ m (Str.ofString "k") = some (.int (0 + (i : Int)) t)) rfl (srcAt_base hta) F4 N4 ⟨rows, rfl, hrows, by walk_at "mine.look", by walk_at "mine.look", by walk_at "mine.look"⟩ ?iturn ?idone
      case idone =>
        rintro m news h tk ⟨rows, rfl, hrows, k1, k2, k3⟩ F N
        rw [hts, List.take_length] at hrows
        refine wpAny_execs_nil ?_
        rw [Hold.out hrows] at N
        exact UnrEnd.intro F N ([(D, _), (L₁ + 1, oc)] ++ MatL Ds _) (fun _ h => h) (off_next (pre := [(D, _), (L₁ + 1, oc)]) _ off hIDs) ⟨_, rfl, Hold.mk rfl, k1, k2⟩
      case iturn =>
        rintro I₂ j v m news oI₂ h tk hI₂ hj ⟨rows, rfl, hrows, k1, k2, k3⟩ off₂ F N
        have hjl : j < es.length := by
          obtain ⟨hj', _⟩ := Array.getElem?_eq_some_iff.mp hj
          omega
        obtain ⟨b₁, t1, t2, e1, e2⟩ := htj j _ (List.getElem?_eq_getElem hjl)
        rw [e1] at hj
        cases hj
        have hsqj : Sq ws.length ((es.take j).foldl (fun M e => setM M i e.2 true) Mi) := foldl_inv (P := Sq ws.length) hsqi fun _ _ _ hM => hM.setM hi _ _
        have T : TabAt ((I₂, oI₂) :: (I, oI) :: (D, lst (Ds.map fun p => Value.ref p.1)) :: (L₁ + 1, oc) :: rows) D ws.length Ds ((es.take j).foldl (fun M e => setM M i e.2 true) Mi) := ⟨⟨_, .tail _ (.tail _ (.head _))⟩, fun q hq => .tail _ (.tail _ (.tail _ (.tail _ (by rw [Hold.out hrows]; exact hq)))), hDl, hsqj, hw5⟩
        have het : (es[j]).2 < ws.length := hes2.2 _ (List.getElem_mem hjl)
        have htk : es.take (j + 1) = es.take j ++ [es[j]] := take_snoc (List.getElem?_eq_getElem hjl)
        rw [htk, List.foldl_append]
        generalize es[j] = ee at *
        generalize ((es.take j).foldl (fun M e => setM M i e.2 true) Mi) = Mj at hrows hsqj T ⊢
        have hI₂Ds := off_ds (pre := [(I, oI), (D, lst (Ds.map fun p => Value.ref p.1)), (L₁ + 1, oc)]) off₂ hrows hDl hsqj
        k_steps
        refine Hold.mk ?_
        with_reducible rename Fr _ _ _ _ => F5
        with_reducible rename News _ _ _ _ => N5
        rename _[i]? = some _ => hp5
        rw [Hold.out hrows] at N5
        refine mat_set (pre := [(I₂, oI₂), (I, oI), (D, lst (Ds.map fun p => Value.ref p.1)), (L₁ + 1, oc)]) F5 N5 (pre_cons hI₂Ds (pre_cons hIDs (pre_cons hDR (pre_cons hDC' pre_nil)))) hDn hp5 hsqj hi het hDl hw5 rfl ?_
        intro h' F' N'
        dsimp only
        refine wpAny_execs_nil ?_
        exact UnrEnd.intro F' N' ([(I, oI), (D, _), (L₁ + 1, oc)] ++ MatL Ds _) (fun _ h => h) (off_next (pre := [(I, oI), (D, _), (L₁ + 1, oc)]) _ off₂ hI₂Ds) ⟨_, rfl, Hold.mk rfl, by walk_at "mine.look", by walk_at "mine.look", by walk_at "mine.look"⟩
    case done =>
      rintro m news h tk ⟨rows, rfl, hrows, j1, j2⟩ F N
      dsimp only
      have hsq0 : Sq ws.length (edgesM ws (mat0 ws.length)) := sq_edges (sq_mat0 _)
      have hrows' : Hold (rows = MatL Ds (edgesM ws (mat0 ws.length))) := hrows
      clear hrows
      k_steps
      refine Hold.mk ?_
      refine wpAny_noRaise (wpAny_For ?_)
      refine wpAny_noRaise ?_
      k_steps
      refine Hold.mk ?_
      with_reducible rename Fr _ _ _ _ => F6
      with_reducible rename News _ _ _ _ => N6
      rename IsRange _ _ _ _ _ _ _ _ => hr
      refine iter_range (n := ws.length) (fun i m news => ∃ rows, news = (D, lst (Ds.map fun p => Value.ref p.1)) :: (L₁ + 1, oc) :: rows ∧ Hold (rows = MatL Ds ((List.range i).foldl (warM ws.length) (edgesM ws (mat0 ws.length)))) ∧
        m (Str.ofString "reach") = some (.ref D)) rfl hr hsm (by rw [hsz]; exact range_size _) F6 N6 ⟨rows, rfl, hrows', by walk_at "mine.look"⟩ ?mturn ?mdone
      case mdone =>
        rintro m news h tk ⟨rows, rfl, hrows, j1⟩ F N
        dsimp only
        k_steps
        with_reducible rename Fr _ _ _ _ => F9
        with_reducible rename News _ _ _ _ => N9
        refine hret _ _ _ (by rw [← eg]; exact Fr.keep F9) ?_
        rw [← eg]
        refine ⟨(D, lst (Ds.map fun p => Value.ref p.1)) :: rows, D, _, _, News.newIn N9 (fun p hp => ?_), rfl, .head _, ?_⟩
        · rcases List.mem_cons.mp hp with rfl | hp
          · exact .head _
          · exact .tail _ (.tail _ hp)
        · rw [Hold.out hrows]
          exact (all2_mat (M := warP ws) (by rw [hDl, (sq_warP ws).1])).mono fun _ _ ⟨E, k, e, m⟩ => ⟨E, k, e, .tail _ m⟩
      case mturn =>
        rintro I₁ mid tm m news oI₁ h tk hI hi ⟨rows, rfl, hrows, j1⟩ off₁ F N
        have hsq1 : Sq ws.length ((List.range mid).foldl (warM ws.length) (edgesM ws (mat0 ws.length))) := foldl_inv (P := Sq ws.length) hsq0 fun _ _ _ hM => sq_warM hM
        have hI₁Ds := off_ds (pre := [(D, lst (Ds.map fun p => Value.ref p.1)), (L₁ + 1, oc)]) off₁ hrows hDl hsq1
        rw [range_fold]
        generalize (List.range mid).foldl (warM ws.length) (edgesM ws (mat0 ws.length)) = M₁ at hrows hsq1 ⊢
        k_steps
        refine Hold.mk ?_
        refine wpAny_noRaise (wpAny_For ?_)
        refine wpAny_noRaise ?_
        k_steps
        refine Hold.mk ?_
        with_reducible rename Fr _ _ _ _ => F6
        with_reducible rename News _ _ _ _ => N6
        rename IsRange _ _ _ _ _ _ _ _ => hr
        refine iter_range (n := ws.length) (fun i m news => ∃ rows, news = (I₁, oI₁) :: (D, lst (Ds.map fun p => Value.ref p.1)) :: (L₁ + 1, oc) :: rows ∧ Hold (rows = MatL Ds ((List.range i).foldl (warA ws.length mid) M₁)) ∧
          m (Str.ofString "reach") = some (.ref D) ∧ m (Str.ofString "middle") = some (.int (0 + (mid : Int)) tm)) rfl hr hsm (by rw [hsz]; exact range_size _) F6 N6 ⟨rows, rfl, hrows, by walk_at "mine.look", by walk_at "mine.look"⟩ ?aturn ?adone
        case adone =>
          rintro m news h tk ⟨rows, rfl, hrows, j1, j2⟩ F N
          dsimp only
          refine wpAny_execs_nil ?_
          rw [Hold.out hrows] at N
          exact UnrEnd.intro F N ([(D, lst (Ds.map fun p => Value.ref p.1)), (L₁ + 1, oc)] ++ MatL Ds _) (fun _ h => h) (off_next (pre := [(D, lst (Ds.map fun p => Value.ref p.1)), (L₁ + 1, oc)]) _ off₁ hI₁Ds) ⟨_, rfl, Hold.mk rfl, j1⟩
        case aturn =>
          rintro I₂ a₂ ta m news oI₂ h tk hI₂ ha ⟨rows, rfl, hrows, j1, j2⟩ off₂ F N
          have hsq2 : Sq ws.length ((List.range a₂).foldl (warA ws.length mid) M₁) := foldl_inv (P := Sq ws.length) hsq1 fun _ _ hk hM => sq_warA (Nat.lt_trans (List.mem_range.mp hk) ha) hM
          have hI₂Ds := off_ds (pre := [(I₁, oI₁), (D, lst (Ds.map fun p => Value.ref p.1)), (L₁ + 1, oc)]) off₂ hrows hDl hsq2
          rw [range_fold]
          generalize (List.range a₂).foldl (warA ws.length mid) M₁ = M₂ at hrows hsq2 ⊢
          k_steps
          refine Hold.mk ?_
          refine wpAny_noRaise (wpAny_For ?_)
          refine wpAny_noRaise ?_
          k_steps
          refine Hold.mk ?_
          with_reducible rename Fr _ _ _ _ => F6
          with_reducible rename News _ _ _ _ => N6
          rename IsRange _ _ _ _ _ _ _ _ => hr
          refine iter_range (n := ws.length) (fun i m news => ∃ rows, news = (I₂, oI₂) :: (I₁, oI₁) :: (D, lst (Ds.map fun p => Value.ref p.1)) :: (L₁ + 1, oc) :: rows ∧ Hold (rows = MatL Ds ((List.range i).foldl (warB mid a₂) M₂)) ∧
            m (Str.ofString "reach") = some (.ref D) ∧ m (Str.ofString "middle") = some (.int (0 + (mid : Int)) tm) ∧ m (Str.ofString "a") = some (.int (0 + (a₂ : Int)) ta)) rfl hr hsm (by rw [hsz]; exact range_size _) F6 N6 ⟨rows, rfl, hrows, by walk_at "mine.look", by walk_at "mine.look", by walk_at "mine.look"⟩ ?bturn ?bdone
          case bdone =>
            rintro m news h tk ⟨rows, rfl, hrows, j1, j2, j3⟩ F N
            dsimp only
            refine wpAny_execs_nil ?_
            rw [Hold.out hrows] at N
            exact UnrEnd.intro F N ([(I₁, oI₁), (D, lst (Ds.map fun p => Value.ref p.1)), (L₁ + 1, oc)] ++ MatL Ds _) (fun _ h => h) (off_next (pre := [(I₁, oI₁), (D, lst (Ds.map fun p => Value.ref p.1)), (L₁ + 1, oc)]) _ off₂ hI₂Ds) ⟨_, rfl, Hold.mk rfl, j1, j2⟩
          case bturn =>
            rintro I₃ b₃ tb m news oI₃ h tk hI₃ hb ⟨rows, rfl, hrows, j1, j2, j3⟩ off₃ F N
            have hsq3 : Sq ws.length ((List.range b₃).foldl (warB mid a₂) M₂) := foldl_inv (P := Sq ws.length) hsq2 fun _ _ _ hM => hM.setM ha _ _
            have hI₃Ds := off_ds (pre := [(I₂, oI₂), (I₁, oI₁), (D, lst (Ds.map fun p => Value.ref p.1)), (L₁ + 1, oc)]) off₃ hrows hDl hsq3
            rw [range_fold]
            generalize (List.range b₃).foldl (warB mid a₂) M₂ = M₃ at hrows hsq3 ⊢
            have T : TabAt ((I₃, oI₃) :: (I₂, oI₂) :: (I₁, oI₁) :: (D, lst (Ds.map fun p => Value.ref p.1)) :: (L₁ + 1, oc) :: rows) D ws.length Ds M₃ := ⟨⟨_, .tail _ (.tail _ (.tail _ (.head _)))⟩, fun q hq => .tail _ (.tail _ (.tail _ (.tail _ (.tail _ (by rw [Hold.out hrows]; exact hq))))), hDl, hsq3, hw5⟩
            k_steps
            all_goals
              refine Hold.mk ?_
              with_reducible rename Fr _ _ _ _ => F5
              with_reducible rename News _ _ _ _ => N5
              rw [Hold.out hrows] at N5
              refine mat_set (j := b₃) (pre := [(I₃, oI₃), (I₂, oI₂), (I₁, oI₁), (D, lst (Ds.map fun p => Value.ref p.1)), (L₁ + 1, oc)]) F5 N5 (pre_cons hI₃Ds (pre_cons hI₂Ds (pre_cons hI₁Ds (pre_cons hDR (pre_cons hDC' pre_nil))))) hDn (by assumption) hsq3 ha hb hDl hw5 (by omega) ?_
              intro h' F' N'
              dsimp only
              refine wpAny_execs_nil ?_
              refine UnrEnd.intro F' N' ([(I₂, oI₂), (I₁, oI₁), (D, lst (Ds.map fun p => Value.ref p.1)), (L₁ + 1, oc)] ++ MatL Ds _) (fun _ h => h) (off_next (pre := [(I₂, oI₂), (I₁, oI₁), (D, lst (Ds.map fun p => Value.ref p.1)), (L₁ + 1, oc)]) _ off₃ hI₃Ds) ⟨_, rfl, ?_, by walk_at "mine.look", by walk_at "mine.look", by walk_at "mine.look"⟩
              refine Hold.mk ?_
              unfold warB
              simp only [*, Bool.true_or, Bool.false_or, Bool.true_and, Bool.false_and]
              rfl
end Mine


end

section
open PySem PySem.W PyProof.Rows PySem.Calls
set_option maxRecDepth 100000
namespace Mine
theorem calm_la : True := by
  w_top off
  trivial

def lawDef : Stmt := (PySem.Challenge.pw_ab6012_01.main.body.getLast?).getD (.Pass ⟨0, 0, 0, 0⟩)
def lawBody : List Stmt := match lawDef with
  | .FunctionDef _ _ b _ _ _ _ _ _ _ => b
  | _ => []
def lawScope : Scope := match lawDef with
  | .FunctionDef _ _ _ _ _ _ s _ _ _ => s
  | _ => { kind := .function, names := [], isGenerator := false, isCoroutine := false, more := [] }
abbrev lawEnv (L fa : Addr) (cd : Value) : Env := envOfC (Str.ofString "law") lawScope L fa cd
/-- an entry of a folder, a folder, a world, among the objects of a ledger -/
def EntIn (r : Ledger) (v : Value) (e : Str × Nat) : Prop := ∃ T n t1 t2, v = .ref T ∧ (T, tup2 (.str e.1 t1) (.int (e.2 : Int) t2) n) ∈ r
def EntsIn (r : Ledger) (v : Value) (es : List (Str × Nat)) : Prop := ∃ D vs k, v = .ref D ∧ (D, listOf (List.toArray vs) k) ∈ r ∧ All2 (EntIn r) vs es
def WldIn (r : Ledger) (W : Addr) (ws : Wld) : Prop := ∃ vs k, (W, listOf (List.toArray vs) k) ∈ r ∧ All2 (EntsIn r) vs ws
section
variable {r r' : Ledger} (k : ∀ p ∈ r, p ∈ r')
include k
theorem EntIn.mono {v : Value} {e : Str × Nat} (h : EntIn r v e) : EntIn r' v e := let ⟨T, n, t1, t2, e, m⟩ := h; ⟨T, n, t1, t2, e, k _ m⟩
theorem EntsIn.mono {v : Value} {es : List (Str × Nat)} (h : EntsIn r v es) : EntsIn r' v es := let ⟨D, vs, n, e, m, a⟩ := h; ⟨D, vs, n, e, k _ m, a.mono fun _ _ x => x.mono k⟩
theorem WldIn.mono {W : Addr} {ws : Wld} (h : WldIn r W ws) : WldIn r' W ws := let ⟨vs, n, m, a⟩ := h; ⟨vs, n, k _ m, a.mono fun _ _ x => x.mono k⟩
end
theorem WldIn.isWld {h : Heap} {r : Ledger} {W : Addr} {ws : Wld} (x : WldIn r W ws) (N : ∀ p ∈ r, h.get? p.1 = some p.2) : IsWld h W ws := by
  obtain ⟨vs, k, m, a⟩ := x
  refine ⟨List.toArray vs, ⟨_, N _ m, rfl, _, rfl⟩, by rw [List.size_toArray]; exact a.len, fun i es he => ?_⟩
  obtain ⟨v, e1, ⟨D, us, j, rfl, m1, a1⟩⟩ := a.at he
  refine ⟨D, List.toArray us, by rw [List.getElem?_toArray]; exact e1, ⟨_, N _ m1, rfl, _, rfl⟩, by rw [List.size_toArray]; exact a1.len, fun q p hp => ?_⟩
  obtain ⟨u, e2, ⟨T, n, t1, t2, rfl, m2⟩⟩ := a1.at hp
  exact ⟨T, t1, t2, by rw [List.getElem?_toArray]; exact e2, _, N _ m2, rfl, _, rfl⟩
/-- what the law must end with -/
theorem run_sz {ws : Wld} (hw : WldOk ws) (hm : WldNm ws) {all : Bool} : ∀ (k : Nat) (st : St), StOk ws st → StSz st → StSz (run ws all k st)
  | 0, _, _, z => z
  | k + 1, st, h, z => by
    show StSz (run ws all k (turn ws all st))
    cases e : st.work with
    | nil =>
      have : turn ws all st = st := by unfold turn; rw [e]
      rw [this]
      exact run_sz hw hm k st h z
    | cons row r => exact run_sz hw hm k _ (turn_ok hw hm h e).1 (turn_sz hw h z e)
theorem fin_ok {ws : Wld} (hw : WldOk ws) (hm : WldNm ws) (all : Bool) : StOk ws (fin ws all) ∧ (fin ws all).work = [] := by
  have := run_turn hw hm (all := all) 31 st0 (st0_ok hw) (by have := (st0_ok hw).few; show wt _ _ ≤ 31; have e : st0.listed.length = 0 := rfl; omega)
  exact ⟨this.2.2, this.2.1⟩
theorem fin_sz {ws : Wld} (hw : WldOk ws) (hm : WldNm ws) (all : Bool) : (fin ws all).listed.length ≤ 31 ∧ (fin ws all).loops.length ≤ 63 := by
  have h := (fin_ok hw hm all).1.few
  have z := (run_sz hw hm (all := all) 31 st0 (st0_ok hw) st0_sz).sz
  have : (fin ws all).loops.length + (fin ws all).seen.length ≤ 2 * (fin ws all).listed.length + 1 := z
  omega
def LawEnd (g : Heap) (s₀ : Shared) (f : Flow) (s' : Shared) : Prop := f = .ret (.bool true) ∧ ∃ h' tk', s' = { s₀ with heap := h', toks := tk' } ∧ ∀ b o, g.get? b = some o → h'.get? b = some o
abbrev tup3 (a b c : Value) (n : Nat) : Obj := { cls := .type "tuple", data := .seq #[a, b, c] n }
def PathsIn (st : Str) (oct : Bool) (r : Ledger) (v : Value) (l : List (List Str)) : Prop := ∃ D vs k, v = .ref D ∧ (D, listOf (List.toArray vs) k) ∈ r ∧ All2 (fun v ns => PathV oct (pathT st ns) v) vs l
theorem PathsIn.mono {st : Str} {oct : Bool} {r r' : Ledger} (k : ∀ p ∈ r, p ∈ r') {v : Value} {l : List (List Str)} (h : PathsIn st oct r v l) : PathsIn st oct r' v l := let ⟨D, vs, n, e, m, a⟩ := h; ⟨D, vs, n, e, k _ m, a⟩
/-- a walk's three lists -/
def WalkIn (ws : Wld) (all : Bool) (st : Str) (oct : Bool) (r : Ledger) (v : Value) : Prop := ∃ T n a b c, v = .ref T ∧ (T, tup3 a b c n) ∈ r ∧ TextsIn r a (fin ws all).listed ∧ TextsIn r b (fin ws all).loops ∧ PathsIn st oct r c (fin ws all).listed
theorem WalkIn.mono {ws : Wld} {all : Bool} {st : Str} {oct : Bool} {r r' : Ledger} (k : ∀ p ∈ r, p ∈ r') {v : Value} (h : WalkIn ws all st oct r v) : WalkIn ws all st oct r' v := let ⟨T, n, a, b, c, e, m, x, y, z⟩ := h; ⟨T, n, a, b, c, e, k _ m, x.mono k, y.mono k, z.mono k⟩
/-- the law's frame behind the world -/
structure LawF (ws : Wld) (oct : Bool) (st : Str) (m : Str → Option Value) : Prop where
  o : m (Str.ofString "octets") = some (.bool oct)
  t : ∃ t, m (Str.ofString "text") = some (.str st t)
  n : ∃ t, m (Str.ofString "n") = some (.int (ws.length : Int) t)
structure LawW (ws : Wld) (st : Str) : Prop where
  hst : st ∈ sts
  hw : WldOk ws
  hm : WldNm ws
/-- the state behind the world -/
def LawB (g : Heap) (L : Addr) (ws : Wld) (oct : Bool) (st : Str) (s₀ s : Shared) : Prop :=
  ∃ h tk m oW oF oR rest W zF zR, s = { s₀ with heap := h, toks := tk } ∧ Fr g L h m ∧ News g L h ((L + 1 + 1 + 1, oR) :: (L + 1 + 1, oF) :: (L + 1, oW) :: rest) ∧ AllNe (L + 1 + 1 + 1) rest ∧ AllNe (L + 1 + 1) rest ∧ AllNe (L + 1) rest ∧
    oW.data = .cell (some (.ref W)) ∧ oF.data = .cell zF ∧ oR.data = .cell zR ∧ LawF ws oct st m ∧ WldIn rest W ws
/-- the state behind the walks and the rows -/
def LawC (g : Heap) (L : Addr) (ws : Wld) (oct : Bool) (st : Str) (s₀ s : Shared) : Prop :=
  ∃ h tk m oW oF oR rest W vF vB v1 v2 zR, s = { s₀ with heap := h, toks := tk } ∧ Fr g L h m ∧ News g L h ((L + 1 + 1 + 1, oR) :: (L + 1 + 1, oF) :: (L + 1, oW) :: rest) ∧ AllNe (L + 1 + 1 + 1) rest ∧ AllNe (L + 1 + 1) rest ∧ AllNe (L + 1) rest ∧
    oW.data = .cell (some (.ref W)) ∧ oF.data = .cell (some vF) ∧ oR.data = .cell zR ∧ LawF ws oct st m ∧ WldIn rest W ws ∧
    m (Str.ofString "first") = some v1 ∧ m (Str.ofString "second") = some v2 ∧ m (Str.ofString "back") = some vB ∧ WalkIn ws false st oct rest v1 ∧ WalkIn ws true st oct rest v2 ∧ TextsIn rest vF (fin ws false).listed ∧ TextsIn rest vB (fin ws false).loops
theorem newsIn {h₀ h : Heap} {L : Addr} {news r : Ledger} (N : News h₀ L h news) (k : ∀ p ∈ r, p ∈ news) : ∀ p ∈ r, h.get? p.1 = some p.2 := fun p hp => (N p (k p hp)).1
end Mine


end

section
open PySem PySem.W PyProof.Rows PySem.Calls PyProof.Rows.LCg
set_option maxRecDepth 100000
namespace Mine
theorem calm_ll : True := by
  w_top off
  trivial
section
variable {prog : Program} {w : World} {A₀ A : Around} {s : Shared} {base h₀ : Heap} {outer : List Env} {L : Addr} {m : Str → Option Value} {env : Env} {E : Value → Shared → Prop}
/-- a loop over a range that goes down by ones -/
theorem iter_down {r : Addr} {a₀ b₀ : Int} {t₀ u₀ v₀ : Tok} {n : Nat} {target : Expr} {body : List Stmt} {R : Result → Shared → Prop} {m₀ : Str → Option Value} {news₀ : List (Addr × Obj)}
    (J : Nat → (Str → Option Value) → List (Addr × Obj) → Prop) (hh : A.handled = none)
    (hr : IsRange s.heap r a₀ b₀ (-1) t₀ u₀ v₀) (hsmall : Builtin.Range.small a₀ b₀ (-1) = true) (hn : Builtin.Range.rangeSize a₀ b₀ (-1) = (n : Int)) (F : Fr h₀ L s.heap m₀) (N : News h₀ L s.heap news₀) (h0 : J 0 m₀ news₀)
    (turn : ∀ I i t m news oI h tk, (∀ p ∈ news₀, p.1 < I) → i < n → J i m news → (∀ p ∈ news, p.1 ≠ I) → Fr h₀ L h m → News h₀ L h ((I, oI) :: news) →
      wpAny (model prog w) A (assign target env (.int (a₀ - (i : Int)) t)) (fun _ s' => wpAny (model prog w) A (execs body env)
        (UnrPost h₀ L s I oI (J (i + 1)) (fun f s'' => R (.ok f) s'')) (fun _ _ => False) s') (fun _ _ => False) { s with heap := h, toks := tk })
    (done : ∀ m news h tk, J n m news → Fr h₀ L h m → News h₀ L h news → R (.ok .next) { s with heap := h, toks := tk }) :
    wpAny (model prog w) A (pyIter (.ref r)) (fun it s₂ => codeAny (model prog w) A (.forLoop target it body [] env) R s₂) (fun _ _ => False) s := by
  refine wpAny_pyIter_range hr hsmall ?_
  have W := Walks.range (prog := prog) (w := w) hh s.heap.objs.size a₀ (-1) n
  have hI0 : h₀.get? s.heap.objs.size = none := Heap.get?_none_of_le (Nat.le_of_lt (Nat.lt_of_le_of_lt F.above F.ns.lt))
  have st0 : IsRangeIter (s.heap.push { cls := .type "range_iterator", data := .fields #[rawInt a₀, rawInt (Builtin.Range.rangeSize a₀ b₀ (-1)), rawInt (-1)] }) s.heap.objs.size (a₀ + ((0 : Nat) : Int) * (-1)) ((n : Int) - ((0 : Nat) : Int)) (-1) := by
    rw [hn]; simpa [IsRangeIter] using Heap.get?_push_size _ rfl
  refine loopW (s := { s with heap := s.heap.push _ }) W (fun i h st => ⟨_, st⟩) (fun i s' v Q' st hQ' => letGo_rangeiter st hQ') J ?_ hI0 (Nat.ne_of_gt F.ns.lt)
    st0 (F.push _) (fun p hp => ⟨Heap.get?_push_of_some _ (N p hp).1, (N p hp).2⟩) (fun p hp => Nat.ne_of_lt (Heap.lt_size (N p hp).1)) h0 ?_ ?_
  · intro b hb hbI
    exact absurd (List.mem_singleton.mp hb) hbI
  · rintro i v m news oI h tk hi ⟨t, rfl⟩ hJ hoff F₁ N₁
    have := turn s.heap.objs.size i t m news oI h tk (fun p hp => Heap.lt_size (N p hp).1) hi hJ hoff F₁ N₁
    have e : a₀ + (i : Int) * (-1) = a₀ - (i : Int) := by omega
    rw [e]
    exact this
  · exact done
theorem ne_path {oct : Bool} {x : Str} {v u : Value} {Q : Value → Shared → Prop} (hv : PathV oct x v) (hu : PathV oct x u) (h : Q (.bool false) s) : wpAny (model prog w) A (compareOp .NotEq v u) Q E s := by
  cases oct with
  | false =>
    obtain ⟨t, rfl⟩ : ∃ t, v = .str x t := by simpa [PathV] using hv
    obtain ⟨t', rfl⟩ : ∃ t, u = .str x t := by simpa [PathV] using hu
    exact ne_str (by rw [bne_self_eq_false]; exact h)
  | true =>
    obtain ⟨t, rfl⟩ : ∃ t, v = .bytes (encB x) t := by simpa [PathV] using hv
    obtain ⟨t', rfl⟩ : ∃ t, u = .bytes (encB x) t := by simpa [PathV] using hu
    exact ne_bytes (by rw [bne_self_eq_false]; exact h)
end
/-- the listed ways are ways of the world -/
theorem fin_rows {ws : Wld} (hw : WldOk ws) (hm : WldNm ws) (all : Bool) : ∀ ns ∈ (fin ws all).listed, ∃ nodes, RowOk ws (ns, nodes) := by
  have key : ∀ (k : Nat) (st : St), StOk ws st → (∀ ns ∈ st.listed, ∃ nodes, RowOk ws (ns, nodes)) → ∀ ns ∈ (run ws all k st).listed, ∃ nodes, RowOk ws (ns, nodes) := by
    intro k
    induction k with
    | zero => intro st _ h; exact h
    | succ k ih =>
      intro st hs h
      show ∀ ns ∈ (run ws all k (turn ws all st)).listed, _
      cases e : st.work with
      | nil =>
        have : turn ws all st = st := by unfold turn; rw [e]
        rw [this]
        exact ih st hs h
      | cons row r =>
        obtain ⟨h1, _, h3⟩ := turn_ok hw hm (all := all) hs e
        refine ih _ h1 fun ns hn => ?_
        rw [h3] at hn
        rcases List.mem_append.mp hn with hn | hn
        · exact h ns hn
        · rw [List.mem_singleton.mp hn]
          exact ⟨row.2, hs.rows row (by rw [e]; exact .head _)⟩
  exact key 31 st0 (st0_ok hw) fun ns hn => by cases hn
theorem fin_way {ws : Wld} (hw : WldOk ws) (hm : WldNm ws) {all : Bool} {ns : List Str} (h : ns ∈ (fin ws all).listed) : WayOk 4 ns := by
  obtain ⟨nodes, r⟩ := fin_rows hw hm all ns h
  refine ⟨r.nm, ?_⟩
  have h1 := r.len
  have h2 := r.deep.2
  have h3 := hw.2.1
  dsimp only at h1 h2
  omega
end Mine

end

section
open PySem PySem.W PyProof.Rows PySem.Calls PyProof.Rows.LCg
set_option maxRecDepth 100000
namespace Mine
theorem calm_lb : True := by
  w_top off
  trivial
local macro_rules | `(tactic| walk_at "mine.room") => `(tactic| first
  | omega
  | ((try simp only [depth_under_make, depth_under_kw, depth_in1, depth_deeper, depth_caller]); (try dsimp only [ktrTop]); omega)
  | ((have hcL9 := cLine_is); (try simp only [units_in1, units_deeper, Around.mark_units, units_caller] at *); (try dsimp only [ktrTop] at *); omega))
local macro_rules | `(tactic| k_all) => `(tactic| first | assumption | exact AllNe.mem (by assumption))
local macro_rules | `(tactic| walk_at "mine.tl") => `(tactic| first | assumption | exact List.Mem.head _ | (refine List.Mem.tail _ ?_; walk_at "mine.tl"))
local macro_rules | `(tactic| walk_at "mine.alln") => `(tactic| first | exact trivial | assumption | (refine And.intro ?_ ?_; (focus (k_ne; done)); walk_at "mine.alln"))
local macro_rules | `(tactic| k_ne) => `(tactic| (refine neN ?_; (try dsimp only); first
  | with_reducible assumption
  | (refine Nat.ne_of_lt ?_; (simp only [*]); done)
  | (refine Nat.ne_of_gt ?_; (simp only [*]); done)
  | ((simp only [ne_eq, not_false_eq_true, *]); done)
  | (refine Ne.symm ?_; (simp only [ne_eq, not_false_eq_true, *]); done)))
local macro_rules | `(tactic| walk_at "mine.look") => `(tactic| first | with_reducible assumption | exact if_pos rfl | (refine (if_neg (by decide)).trans ?_; walk_at "mine.look") | exact rfl)
local macro_rules | `(tactic| walk_at "eval Name") => `(tactic| (k_here; (with_reducible show wpAny _ _ (eval (Expr.Name _ _) _) _ _ _); k_dflt (refine' nameX_L ?k1 ?k2 ?_ ?k3 ?k4 ?k5; (case k3 => exact rfl); (case k4 => exact rfl); (case k5 => decide); (case k1 => k_asm); (case k2 => walk_at "mine.look"); k_whole)))
local macro_rules | `(tactic| walk_at "mine.memr") => `(tactic| first | with_reducible assumption | with_reducible exact List.mem_cons_self | ((with_reducible refine List.mem_cons_of_mem _ ?_); walk_at "mine.memr"))
local macro_rules | `(tactic| walk_at "mine.mem") => `(tactic| first | walk_at "mine.memr" | k_mem | walk_at "mine.tl")
local macro_rules | `(tactic| walk_at "mine.up") => `(tactic| first | with_reducible exact fun _ h => h | with_reducible assumption | ((with_reducible refine sub_up ?_); walk_at "mine.up"))
local macro_rules | `(tactic| walk_at "mine.sub") => `(tactic| first | with_reducible exact sub_nil | ((with_reducible refine sub_cons ?_ ?_); (focus (walk_at "mine.mem"; done)); walk_at "mine.sub") | walk_at "mine.up")
local macro_rules | `(tactic| walk_at "call ref") => `(tactic| (k_here; (with_reducible refine Hold.out ?_)))
local macro_rules | `(tactic| walk_at "execs cons") => `(tactic| (k_here; (with_reducible show wpAny _ _ (execs (Stmt.If (Expr.BoolOp _ (Expr.Compare (Expr.Call _ _ _ _) _ _ _ :: _) _) _ _ _ :: _) _) _ _ _); (with_reducible refine Hold.out ?_)))

set_option maxHeartbeats 40000000 in
theorem law_b {w : World} {fa L : Addr} {cd : Value} {base g : Heap} {p : Program} {loose : List Str} {mean : ExcName → Option Value} {mg mb : Str → Option Value} {s₀ s : Shared} {ws : Wld} {oct : Bool} {st : Str}
    (B : Below callerA base [] g) (X : (hd.heap_39 w.params).In g) (T : Top p loose mean mg mb g) (hlw : LawW ws st) (hJ : LawB g L ws oct st s₀ s)
    (hC : ∀ s', LawC g L ws oct st s₀ s' → wpAny (model PySem.Challenge.rw_ab6012_01.row.prog w) (callerA.deeper (lawEnv L fa cd)) (execs (lawBody.drop 12) (lawEnv L fa cd)) (LawEnd g s₀) (fun _ _ => False) s') :
    wpAny (model PySem.Challenge.rw_ab6012_01.row.prog w) (callerA.deeper (lawEnv L fa cd)) (execs (lawBody.drop 8) (lawEnv L fa cd)) (LawEnd g s₀) (fun _ _ => False) s := by
  revert X
  k_fill
  intro X

  obtain ⟨h, tk, m, oW, oF, oR, rest, W, zF, zR, rfl, F, N, hR, hF, hW, cW, cF, cR, hm, hWI⟩ := hJ
  have hmo := hm.o
  obtain ⟨tt, hmt⟩ := hm.t
  obtain ⟨tn, hmn⟩ := hm.n
  dsimp only [lawBody, lawDef, lawEnv, lawScope, PySem.Challenge.pw_ab6012_01, List.getLast?, List.getLast, Option.getD, List.drop] at hC ⊢
  k_steps
  refine Hold.mk ?_
  with_reducible rename Fr _ _ _ _ => F1
  with_reducible rename News _ _ _ _ => N1
  refine useC (walk_false w W ws st tt oct hlw.hst hlw.hw hlw.hm) B F1 X N1 T rfl (by decide) (by decide) (hWI.isWld (newsIn N1 (by walk_at "mine.sub"))) ?_
  intro v' h' tk' st' F' N' r'
  obtain ⟨r1, T1, n1, a1, b1, c1, D1, vs1, k1, hk, rfl, m1, x1, y1, ec, m2, z1⟩ := r'
  obtain ⟨N2, hne⟩ := news_app F1 N1 N' hk
  have N3 : News g L h' ((L + 1 + 1 + 1, oR) :: (L + 1 + 1, oF) :: (L + 1, oW) :: (r1 ++ rest)) := news_sub N2 fun p hp => by
    simp only [List.mem_cons, List.mem_append] at hp ⊢
    rcases hp with hp | hp | hp | hp | hp <;> simp [hp]
  replace hR : AllNe (L + 1 + 1 + 1) (r1 ++ rest) := allNe_append (fun p hp => (hne _ (.head _) p hp).symm) hR
  replace hF : AllNe (L + 1 + 1) (r1 ++ rest) := allNe_append (fun p hp => (hne _ (.tail _ (.head _)) p hp).symm) hF
  replace hW : AllNe (L + 1) (r1 ++ rest) := allNe_append (fun p hp => (hne _ (.tail _ (.tail _ (.head _))) p hp).symm) hW
  have u1 : ∀ p ∈ r1, p ∈ r1 ++ rest := fun p hp => List.mem_append_left _ hp
  have u2 : ∀ p ∈ rest, p ∈ r1 ++ rest := fun p hp => List.mem_append_right _ hp
  have W1 : WalkIn ws false st oct (r1 ++ rest) (.ref T1) := ⟨T1, n1, a1, b1, c1, rfl, u1 _ m1, x1.mono u1, y1.mono u1, ⟨D1, vs1, k1, ec, u1 _ m2, z1⟩⟩
  replace hWI := hWI.mono u2
  clear N2 N1 N' F1 hne hk x1 y1 z1 m1 m2 u1 u2
  rename News _ _ _ _ => N0
  generalize r1 ++ rest = rest at *
  clear r1
  k_steps
  refine Hold.mk ?_
  with_reducible rename Fr _ _ _ _ => F1
  with_reducible rename News _ _ _ _ => N1
  refine useC (walk_true w W ws st _ oct hlw.hst hlw.hw hlw.hm) B F1 X N1 T rfl (by decide) (by decide) (hWI.isWld (newsIn N1 (by walk_at "mine.sub"))) ?_
  intro v' h' tk' st' F' N' r'
  obtain ⟨r1, T2, n1, a1, b1, c1, D1, vs1, k1, hk, rfl, m1, x1, y1, ec, m2, z1⟩ := r'
  obtain ⟨N2, hne⟩ := news_app F1 N1 N' hk
  have N3 : News g L h' ((L + 1 + 1 + 1, oR) :: (L + 1 + 1, oF) :: (L + 1, oW) :: (r1 ++ rest)) := news_sub N2 fun p hp => by
    simp only [List.mem_cons, List.mem_append] at hp ⊢
    rcases hp with hp | hp | hp | hp | hp <;> simp [hp]
  replace hR : AllNe (L + 1 + 1 + 1) (r1 ++ rest) := allNe_append (fun p hp => (hne _ (.head _) p hp).symm) hR
  replace hF : AllNe (L + 1 + 1) (r1 ++ rest) := allNe_append (fun p hp => (hne _ (.tail _ (.head _)) p hp).symm) hF
  replace hW : AllNe (L + 1) (r1 ++ rest) := allNe_append (fun p hp => (hne _ (.tail _ (.tail _ (.head _))) p hp).symm) hW
  have u1 : ∀ p ∈ r1, p ∈ r1 ++ rest := fun p hp => List.mem_append_left _ hp
  have u2 : ∀ p ∈ rest, p ∈ r1 ++ rest := fun p hp => List.mem_append_right _ hp
  have W2 : WalkIn ws true st oct (r1 ++ rest) (.ref T2) := ⟨T2, n1, a1, b1, c1, rfl, u1 _ m1, x1.mono u1, y1.mono u1, ⟨D1, vs1, k1, ec, u1 _ m2, z1⟩⟩
  replace hWI := hWI.mono u2
  replace W1 := W1.mono u2
  clear N2 N1 N' F1 hne hk x1 y1 z1 m1 m2 u1 u2
  rename News _ _ _ _ => N0
  generalize r1 ++ rest = rest at *
  clear r1
  k_steps
  refine Hold.mk ?_
  with_reducible rename Fr _ _ _ _ => F1
  with_reducible rename News _ _ _ _ => N1
  refine useC (rows_at w W ws hlw.hw hlw.hm) B F1 X N1 T rfl (by decide) (by decide) (hWI.isWld (newsIn N1 (by walk_at "mine.sub"))) ?_
  intro v' h' tk' st' F' N' r'
  obtain ⟨r3, T3, n3, a3, b3, hk, rfl, m3, x3, y3⟩ := r'
  obtain ⟨N2, hne⟩ := news_app F1 N1 N' hk
  have N3 : News g L h' ((L + 1 + 1 + 1, oR) :: (L + 1 + 1, oF) :: (L + 1, oW) :: (r3 ++ rest)) := news_sub N2 fun p hp => by
    simp only [List.mem_cons, List.mem_append] at hp ⊢
    rcases hp with hp | hp | hp | hp | hp <;> simp [hp]
  replace hR : AllNe (L + 1 + 1 + 1) (r3 ++ rest) := allNe_append (fun p hp => (hne _ (.head _) p hp).symm) hR
  replace hF : AllNe (L + 1 + 1) (r3 ++ rest) := allNe_append (fun p hp => (hne _ (.tail _ (.head _)) p hp).symm) hF
  replace hW : AllNe (L + 1) (r3 ++ rest) := allNe_append (fun p hp => (hne _ (.tail _ (.tail _ (.head _))) p hp).symm) hW
  have u1 : ∀ p ∈ r3, p ∈ r3 ++ rest := fun p hp => List.mem_append_left _ hp
  have u2 : ∀ p ∈ rest, p ∈ r3 ++ rest := fun p hp => List.mem_append_right _ hp
  replace x3 := x3.mono u1
  replace y3 := y3.mono u1
  replace m3 := u1 _ m3
  replace hWI := hWI.mono u2
  replace W1 := W1.mono u2
  replace W2 := W2.mono u2
  clear N2 N1 N' F1 hne hk u1 u2
  rename News _ _ _ _ => N0
  generalize r3 ++ rest = rest at *
  clear r3
  have eR : @Ne Nat T3 (L + 1 + 1 + 1) := hR.mem _ m3
  have eF : @Ne Nat T3 (L + 1 + 1) := hF.mem _ m3
  have eW : @Ne Nat T3 (L + 1) := hW.mem _ m3
  obtain ⟨DF, vF, kF, rfl, mF, zF'⟩ := id x3
  have N4 : News g L h' ((L + 1 + 1 + 1, oR) :: (L + 1 + 1, oF) :: (L + 1, oW) :: (T3, tup2 (.ref DF) b3 n3) :: rest) := news_sub N0 fun p hp => by
    simp only [List.mem_cons] at hp ⊢
    rcases hp with hp | hp | hp | rfl | hp <;> simp [*]
  clear N0
  k_steps
  refine Hold.mk ?_
  with_reducible rename Fr _ _ _ _ => F9
  with_reducible rename News _ _ _ _ => N9
  refine hC _ ⟨_, _, _, oW, _, oR, rest, W, .ref DF, b3, .ref T1, .ref T2, zR, rfl, F9, news_sub N9 (by walk_at "mine.sub"), hR, hF, hW, cW, by assumption, cR, ⟨by walk_at "mine.look", ⟨_, by walk_at "mine.look"⟩, ⟨_, by walk_at "mine.look"⟩⟩, hWI, by walk_at "mine.look", by walk_at "mine.look", by walk_at "mine.look", W1, W2, x3, y3⟩
end Mine


end

section
open PySem PySem.W PyProof.Rows PySem.Calls PyProof.Rows.LCg
set_option maxRecDepth 100000
namespace Mine
theorem calm_lc : True := by
  w_top off
  trivial
local macro_rules | `(tactic| walk_at "mine.room") => `(tactic| first
  | omega
  | ((try simp only [depth_under_make, depth_under_kw, depth_in1, depth_deeper, depth_caller]); (try dsimp only [ktrTop]); omega)
  | ((have hcL9 := cLine_is); (try simp only [units_in1, units_deeper, Around.mark_units, units_caller] at *); (try dsimp only [ktrTop] at *); omega))
local macro_rules | `(tactic| k_all) => `(tactic| first | assumption | exact AllNe.mem (by assumption))
local macro_rules | `(tactic| walk_at "mine.tl") => `(tactic| first | assumption | exact List.Mem.head _ | (refine List.Mem.tail _ ?_; walk_at "mine.tl"))
local macro_rules | `(tactic| walk_at "mine.alln") => `(tactic| first | exact trivial | assumption | (refine And.intro ?_ ?_; (focus (k_ne; done)); walk_at "mine.alln"))
local macro_rules | `(tactic| k_ne) => `(tactic| (refine neN ?_; (try dsimp only); first
  | with_reducible assumption
  | (refine Nat.ne_of_lt ?_; (simp only [*]); done)
  | (refine Nat.ne_of_gt ?_; (simp only [*]); done)
  | ((simp only [ne_eq, not_false_eq_true, *]); done)
  | (refine Ne.symm ?_; (simp only [ne_eq, not_false_eq_true, *]); done)))
local macro_rules | `(tactic| walk_at "mine.look") => `(tactic| first | with_reducible assumption | exact if_pos rfl | (refine (if_neg (by decide)).trans ?_; walk_at "mine.look") | exact rfl)
local macro_rules | `(tactic| walk_at "eval Name") => `(tactic| (k_here; (with_reducible show wpAny _ _ (eval (Expr.Name _ _) _) _ _ _); k_dflt (refine' nameX_L ?k1 ?k2 ?_ ?k3 ?k4 ?k5; (case k3 => exact rfl); (case k4 => exact rfl); (case k5 => decide); (case k1 => k_asm); (case k2 => walk_at "mine.look"); k_whole)))
local macro_rules | `(tactic| walk_at "mine.memr") => `(tactic| first | with_reducible assumption | with_reducible exact List.mem_cons_self | ((with_reducible refine List.mem_cons_of_mem _ ?_); walk_at "mine.memr"))
local macro_rules | `(tactic| walk_at "mine.mem") => `(tactic| first | walk_at "mine.memr" | k_mem | walk_at "mine.tl")
local macro_rules | `(tactic| walk_at "mine.up") => `(tactic| first | with_reducible exact fun _ h => h | with_reducible assumption | ((with_reducible refine sub_up ?_); walk_at "mine.up"))
local macro_rules | `(tactic| walk_at "mine.sub") => `(tactic| first | with_reducible exact sub_nil | ((with_reducible refine sub_cons ?_ ?_); (focus (walk_at "mine.mem"; done)); walk_at "mine.sub") | walk_at "mine.up")
local macro_rules | `(tactic| walk_at "call builtin:sorted") => `(tactic| (k_here; (with_reducible refine Hold.out ?_)))
local macro_rules | `(tactic| walk_at "compareOp NotEq ref ref") => `(tactic| (k_here; (with_reducible refine Hold.out ?_)))
local macro_rules | `(tactic| walk_at "execs cons") => `(tactic| (k_here; (with_reducible show wpAny _ _ (execs (Stmt.For (Expr.Name _ _) (Expr.Subscript _ _ _) _ _ _ :: _) _) _ _ _); (with_reducible refine Hold.out ?_)))

set_option maxHeartbeats 40000000 in
theorem law_c {w : World} {fa L : Addr} {cd : Value} {base g : Heap} {p : Program} {loose : List Str} {mean : ExcName → Option Value} {mg mb : Str → Option Value} {s₀ s : Shared} {ws : Wld} {oct : Bool} {st : Str}
    (B : Below callerA base [] g) (X : (hd.heap_39 w.params).In g) (T : Top p loose mean mg mb g) (hlw : LawW ws st) (hJ : LawC g L ws oct st s₀ s)
    (hC : ∀ s', LawC g L ws oct st s₀ s' → wpAny (model PySem.Challenge.rw_ab6012_01.row.prog w) (callerA.deeper (lawEnv L fa cd)) (execs (lawBody.drop 13) (lawEnv L fa cd)) (LawEnd g s₀) (fun _ _ => False) s') :
    wpAny (model PySem.Challenge.rw_ab6012_01.row.prog w) (callerA.deeper (lawEnv L fa cd)) (execs (lawBody.drop 12) (lawEnv L fa cd)) (LawEnd g s₀) (fun _ _ => False) s := by
  revert X
  k_fill
  intro X
  obtain ⟨h, tk, m, oW, oF, oR, rest, W, vF, vB, v1, v2, zR, rfl, F, N, hR, hF, hW, cW, cF, cR, hm, hWI, hm1, hm2, hm3, W1, W2, tF, tB⟩ := hJ
  have hmo := hm.o
  obtain ⟨tt, hmt⟩ := hm.t
  obtain ⟨tn, hmn⟩ := hm.n

  obtain ⟨T1, n1, a1, b1, c1, rfl, mT, ta, tb, tc⟩ := id W1
  obtain ⟨Da, va, ka, rfl, ma, qa⟩ := ta
  obtain ⟨Db, vb, kb, rfl, mb, qb⟩ := tb
  obtain ⟨DF, vf, kf, rfl, mf, qf⟩ := id tF
  obtain ⟨DB, vg, kg, rfl, mg', qg⟩ := id tB
  have sz := fin_sz hlw.hw hlw.hm false
  have la : va.length < 64 := by have := qa.len; omega
  have lb : vb.length < 64 := by have := qb.len; omega
  have lf : vf.length < 64 := by have := qf.len; omega
  have lg : vg.length < 64 := by have := qg.len; omega
  have N4 : News g L h ((L + 1 + 1 + 1, oR) :: (L + 1 + 1, oF) :: (L + 1, oW) :: (T1, tup3 (.ref Da) (.ref Db) c1 n1) :: rest) := news_sub N fun p hp => by
    simp only [List.mem_cons] at hp ⊢
    rcases hp with hp | hp | hp | rfl | hp <;> simp [*]
  clear N
  dsimp only [lawBody, lawDef, lawEnv, lawScope, PySem.Challenge.pw_ab6012_01, List.getLast?, List.getLast, Option.getD, List.drop] at hC ⊢
  k_steps
  refine Hold.mk ?_
  with_reducible rename Fr _ _ _ _ => F1
  with_reducible rename News _ _ _ _ => N1
  refine sorted_rows F1 N1 (isListN N1 (by walk_at "mine.mem")) la qa (by walk_at "mine.up") (by walk_at "mine.room") ?_
  intro D1 us1 c1 h' F' N' hAN1 hus1
  (try simp only [AllNe, and_true] at hAN1)
  clear F1 N1
  k_steps
  refine Hold.mk ?_
  with_reducible rename Fr _ _ _ _ => F1
  with_reducible rename News _ _ _ _ => N1
  refine sorted_rows F1 N1 (isListN N1 (by walk_at "mine.mem")) lf qf (by walk_at "mine.up") (by walk_at "mine.room") ?_
  intro D2 us2 c2 h' F' N' hAN2 hus2
  (try simp only [AllNe, and_true] at hAN2)
  clear F1 N1
  k_steps
  refine Hold.mk ?_
  with_reducible rename Fr _ _ _ _ => F1
  with_reducible rename News _ _ _ _ => N1
  refine ne_rows (r := rest) (r' := rest) (isListN N1 (by walk_at "mine.mem")) (isListN N1 (by walk_at "mine.mem")) (newsIn N1 (by walk_at "mine.up")) (newsIn N1 (by walk_at "mine.up")) hus1 hus2 (by walk_at "mine.room") (by walk_at "mine.room") ?_
  k_steps
  refine Hold.mk ?_
  with_reducible rename Fr _ _ _ _ => F1
  with_reducible rename News _ _ _ _ => N1
  refine sorted_rows F1 N1 (isListN N1 (by walk_at "mine.mem")) lb qb (by walk_at "mine.up") (by walk_at "mine.room") ?_
  intro D3 us3 c3 h' F' N' hAN3 hus3
  (try simp only [AllNe, and_true] at hAN3)
  clear F1 N1
  k_steps
  refine Hold.mk ?_
  with_reducible rename Fr _ _ _ _ => F1
  with_reducible rename News _ _ _ _ => N1
  refine sorted_rows F1 N1 (isListN N1 (by walk_at "mine.mem")) lg qg (by walk_at "mine.up") (by walk_at "mine.room") ?_
  intro D4 us4 c4 h' F' N' hAN4 hus4
  (try simp only [AllNe, and_true] at hAN4)
  clear F1 N1
  k_steps
  refine Hold.mk ?_
  with_reducible rename Fr _ _ _ _ => F1
  with_reducible rename News _ _ _ _ => N1
  refine ne_rows (r := rest) (r' := rest) (isListN N1 (by walk_at "mine.mem")) (isListN N1 (by walk_at "mine.mem")) (newsIn N1 (by walk_at "mine.up")) (newsIn N1 (by walk_at "mine.up")) hus3 hus4 (by walk_at "mine.room") (by walk_at "mine.room") ?_
  k_steps
  refine Hold.mk ?_
  with_reducible rename Fr _ _ _ _ => F9
  with_reducible rename News _ _ _ _ => N9
  exact hC _ ⟨_, _, _, oW, oF, oR, rest, W, .ref DF, .ref DB, .ref T1, v2, zR, rfl, F9, news_sub N9 (by walk_at "mine.sub"), hR, hF, hW, cW, cF, cR, hm, hWI, hm1, hm2, hm3, W1, W2, tF, tB⟩
end Mine


end

section
open PySem PySem.W PyProof.Rows PySem.Calls PyProof.Rows.LCg
set_option maxRecDepth 100000
namespace Mine
theorem calm_ld : True := by
  w_top off
  trivial
local macro_rules | `(tactic| walk_at "mine.room") => `(tactic| first
  | omega
  | ((try simp only [depth_under_make, depth_under_kw, depth_in1, depth_deeper, depth_caller]); (try dsimp only [ktrTop]); omega)
  | ((have hcL9 := cLine_is); (try simp only [units_in1, units_deeper, Around.mark_units, units_caller] at *); (try dsimp only [ktrTop] at *); omega))
local macro_rules | `(tactic| k_all) => `(tactic| first | assumption | exact AllNe.mem (by assumption))
local macro_rules | `(tactic| walk_at "mine.tl") => `(tactic| first | assumption | exact List.Mem.head _ | (refine List.Mem.tail _ ?_; walk_at "mine.tl"))
local macro_rules | `(tactic| walk_at "mine.alln") => `(tactic| first | exact trivial | assumption | (refine And.intro ?_ ?_; (focus (k_ne; done)); walk_at "mine.alln"))
local macro_rules | `(tactic| k_ne) => `(tactic| (refine neN ?_; (try dsimp only); first
  | with_reducible assumption
  | (refine Nat.ne_of_lt ?_; (simp only [*]); done)
  | (refine Nat.ne_of_gt ?_; (simp only [*]); done)
  | ((simp only [ne_eq, not_false_eq_true, *]); done)
  | (refine Ne.symm ?_; (simp only [ne_eq, not_false_eq_true, *]); done)))
local macro_rules | `(tactic| walk_at "mine.look") => `(tactic| first | with_reducible assumption | exact if_pos rfl | (refine (if_neg (by decide)).trans ?_; walk_at "mine.look") | exact rfl)
local macro_rules | `(tactic| walk_at "eval Name") => `(tactic| (k_here; (with_reducible show wpAny _ _ (eval (Expr.Name _ _) _) _ _ _); k_dflt (refine' nameX_L ?k1 ?k2 ?_ ?k3 ?k4 ?k5; (case k3 => exact rfl); (case k4 => exact rfl); (case k5 => decide); (case k1 => k_asm); (case k2 => walk_at "mine.look"); k_whole)))
local macro_rules | `(tactic| walk_at "mine.memr") => `(tactic| first | with_reducible assumption | with_reducible exact List.mem_cons_self | ((with_reducible refine List.mem_cons_of_mem _ ?_); walk_at "mine.memr"))
local macro_rules | `(tactic| walk_at "mine.mem") => `(tactic| first | walk_at "mine.memr" | k_mem | walk_at "mine.tl")
local macro_rules | `(tactic| walk_at "mine.up") => `(tactic| first | with_reducible exact fun _ h => h | with_reducible assumption | ((with_reducible refine sub_up ?_); walk_at "mine.up"))
local macro_rules | `(tactic| walk_at "mine.sub") => `(tactic| first | with_reducible exact sub_nil | ((with_reducible refine sub_cons ?_ ?_); (focus (walk_at "mine.mem"; done)); walk_at "mine.sub") | walk_at "mine.up")
local macro_rules | `(tactic| walk_at "call ref") => `(tactic| (k_here; (with_reducible refine Hold.out ?_)))
local macro_rules | `(tactic| walk_at "compareOp NotEq ref ref") => `(tactic| (k_here; (with_reducible refine Hold.out ?_)))
local macro_rules | `(tactic| walk_at "compareOp NotEq") => `(tactic| (k_here; (with_reducible refine Hold.out ?_)))
local macro_rules | `(tactic| walk_at "exec For") => `(tactic| (k_here; (with_reducible refine Hold.out ?_)))
local macro_rules | `(tactic| walk_at "exec For Name Subscript cons nil") => `(tactic| (k_here; (with_reducible refine Hold.out ?_)))
local macro_rules | `(tactic| walk_at "exec For Name Call cons nil") => `(tactic| (k_here; (with_reducible refine Hold.out ?_)))
local macro_rules | `(tactic| walk_at "pyIter ref") => `(tactic| (k_here; (with_reducible refine Hold.out ?_)))
local macro_rules | `(tactic| walk_at "subscriptTail Name Name ref int") => `(tactic| (k_here; (with_reducible refine Hold.out ?_)))
local macro_rules | `(tactic| walk_at "execs cons") => `(tactic| (k_here; (with_reducible show wpAny _ _ (execs (Stmt.Assign (Expr.Name (Str.ofString "reach") _ :: _) _ _ :: _) _) _ _ _); (with_reducible refine Hold.out ?_)))

set_option maxHeartbeats 40000000 in
theorem law_d {w : World} {fa L : Addr} {cd : Value} {base g : Heap} {p : Program} {loose : List Str} {mean : ExcName → Option Value} {mg mb : Str → Option Value} {s₀ s : Shared} {ws : Wld} {oct : Bool} {st : Str}
    (B : Below callerA base [] g) (X : (hd.heap_39 w.params).In g) (T : Top p loose mean mg mb g) (hlw : LawW ws st) (hJ : LawC g L ws oct st s₀ s)
    (hC : ∀ s', LawC g L ws oct st s₀ s' → wpAny (model PySem.Challenge.rw_ab6012_01.row.prog w) (callerA.deeper (lawEnv L fa cd)) (execs (lawBody.drop 14) (lawEnv L fa cd)) (LawEnd g s₀) (fun _ _ => False) s') :
    wpAny (model PySem.Challenge.rw_ab6012_01.row.prog w) (callerA.deeper (lawEnv L fa cd)) (execs (lawBody.drop 13) (lawEnv L fa cd)) (LawEnd g s₀) (fun _ _ => False) s := by
  revert X
  k_fill
  intro X
  obtain ⟨h, tk, m, oW, oF, oR, rest, W, vF, vB, v1, v2, zR, rfl, F, N, hR, hF, hW, cW, cF, cR, hm, hWI, hm1, hm2, hm3, W1, W2, tF, tB⟩ := hJ
  have hmo := hm.o
  obtain ⟨tt, hmt⟩ := hm.t
  obtain ⟨tn, hmn⟩ := hm.n

  obtain ⟨T1, n1, a1, b1, c1, rfl, mT, ta, tb, tc⟩ := id W1
  obtain ⟨Dc, vc, kc, rfl, mc, qc⟩ := tc
  have N4 : News g L h ((L + 1 + 1 + 1, oR) :: (L + 1 + 1, oF) :: (L + 1, oW) :: (T1, tup3 a1 b1 (.ref Dc) n1) :: rest) := news_sub N fun p hp => by
    simp only [List.mem_cons] at hp ⊢
    rcases hp with hp | hp | hp | rfl | hp <;> simp [*]
  clear N
  dsimp only [lawBody, lawDef, lawEnv, lawScope, PySem.Challenge.pw_ab6012_01, List.getLast?, List.getLast, Option.getD, List.drop] at hC ⊢
  k_steps
  refine Hold.mk ?_
  refine wpAny_noRaise (wpAny_For ?_)
  refine wpAny_noRaise ?_
  k_steps
  refine Hold.mk ?_
  with_reducible rename Fr _ _ _ _ => F6
  with_reducible rename News _ _ _ _ => N6
  refine iter_list (fun i m' news => news = (L + 1 + 1 + 1, oR) :: (L + 1 + 1, oF) :: (L + 1, oW) :: rest ∧ LawF ws oct st m' ∧ m' (Str.ofString "first") = some (.ref T1) ∧ m' (Str.ofString "second") = some v2 ∧ m' (Str.ofString "back") = some vB)
    rfl ⟨_, rfl, ⟨_, rfl⟩, .inr fun i m' news hJ => by rw [hJ.1]; exact .tail _ (.tail _ (.tail _ mc))⟩ F6 (news_sub N6 (by walk_at "mine.sub")) ⟨rfl, ⟨by walk_at "mine.look", ⟨_, by walk_at "mine.look"⟩, ⟨_, by walk_at "mine.look"⟩⟩, by walk_at "mine.look", by walk_at "mine.look", by walk_at "mine.look"⟩ ?turn ?done
  case done =>
    rintro m' news h tk ⟨rfl, hm', j1, j2, j3⟩ F N
    dsimp only
    refine hC _ ⟨_, _, _, oW, oF, oR, rest, W, vF, vB, .ref T1, v2, zR, rfl, F, N, hR, hF, hW, cW, cF, cR, hm', hWI, j1, j2, j3, W1, W2, tF, tB⟩
  case turn =>
    rintro I i v m' news oI h tk hI hi ⟨rfl, hm', j1, j2, j3⟩ off F N
    have hil : i < (fin ws false).listed.length := by
      rw [← qc.len]
      obtain ⟨hi', _⟩ := Array.getElem?_eq_some_iff.mp hi
      simpa using hi'
    obtain ⟨v', e', hv⟩ := qc.at (List.getElem?_eq_getElem hil)
    rw [List.getElem?_toArray, e'] at hi
    cases hi
    have hway := fin_way hlw.hw hlw.hm (List.getElem_mem hil)
    generalize (fin ws false).listed[i] = ns at hv hway
    have hlen := hway.2
    have hmo := hm'.o
    obtain ⟨tt, hmt⟩ := hm'.t
    obtain ⟨tn, hmn⟩ := hm'.n
    have eI1 : @Ne Nat (L + 1 + 1 + 1) I := off _ (.head _)
    have eI2 : @Ne Nat (L + 1 + 1) I := off _ (.tail _ (.head _))
    have eI3 : @Ne Nat (L + 1) I := off _ (.tail _ (.tail _ (.head _)))
    have eIr : AllNe I rest := allNe_of fun p hp => off p (.tail _ (.tail _ (.tail _ hp)))
    k_steps
    refine Hold.mk ?_
    with_reducible rename Fr _ _ _ _ => F1
    with_reducible rename News _ _ _ _ => N1
    refine useStrs (names_way _ hv hlw.hst (hway.mono (by decide)) _) B F1 X N1 T rfl (by decide) (by decide) trivial ?_
    clear F1 N1
    intro D' ys' j' h' tk' F' N' n1' sa'
    (try simp only [AllNe, and_true] at n1')
    have hyl := StrsAre.length sa'
    have sa9 : Hold (StrsAre ys' ns) := Hold.mk sa'
    k_steps
    refine Hold.mk ?_
    refine wpAny_noRaise (wpAny_For ?_)
    refine wpAny_noRaise ?_
    k_steps
    refine Hold.mk ?_
    with_reducible rename Fr _ _ _ _ => F6
    with_reducible rename News _ _ _ _ => N6
    rename IsRange _ _ _ _ _ _ _ _ => hr
    have hsm : Builtin.Range.small ((ns.length : Int) - 1) (-1) (-1) = true := by
      have : ns.length = 0 ∨ ns.length = 1 ∨ ns.length = 2 ∨ ns.length = 3 ∨ ns.length = 4 := by omega
      rcases this with e | e | e | e | e <;> rw [e] <;> decide
    have hsz : Builtin.Range.rangeSize ((ns.length : Int) - 1) (-1) (-1) = (ns.length : Int) := by
      rw [rangeSize_downNat]; omega
    refine iter_down (n := ns.length) (fun i m'' news => ∃ v, news = (D', listOf (List.toArray ys') j') :: (I, oI) :: (L + 1 + 1 + 1, oR) :: (L + 1 + 1, oF) :: (L + 1, oW) :: rest ∧ m'' (Str.ofString "path") = some v ∧ PathV oct (pathT st (ns.take (ns.length - i))) v ∧ m'' (Str.ofString "names") = some (.ref D') ∧
        LawF ws oct st m'' ∧ m'' (Str.ofString "first") = some (.ref T1) ∧ m'' (Str.ofString "second") = some v2 ∧ m'' (Str.ofString "back") = some vB) rfl hr hsm hsz F6 (news_sub N6 (by walk_at "mine.sub"))
      ⟨_, rfl, by walk_at "mine.look", by rw [Nat.sub_zero, List.take_length]; exact hv, by walk_at "mine.look", ⟨by walk_at "mine.look", ⟨_, by walk_at "mine.look"⟩, ⟨_, by walk_at "mine.look"⟩⟩, by walk_at "mine.look", by walk_at "mine.look", by walk_at "mine.look"⟩ ?iturn ?idone
    case idone =>
      rintro m'' news h tk ⟨v, rfl, q1, q2, q3, hm'', q4, q5, q6⟩ F N
      rw [Nat.sub_self, List.take_zero] at q2
      have hmo := hm''.o
      obtain ⟨tt, hmt⟩ := hm''.t
      obtain ⟨tn, hmn⟩ := hm''.n
      dsimp only
      k_steps
      refine Hold.mk ?_
      with_reducible rename Fr _ _ _ _ => F1
      with_reducible rename News _ _ _ _ => N1
      refine useC (kind_start w oct _ hlw.hst) B F1 X N1 T rfl (by decide) (by decide) trivial ?_
      clear F1 N1
      intro v' h' tk' st' F' N' r'
      k_steps
      refine Hold.mk ?_
      refine ne_path (x := st) q2 r' ?_
      k_steps
      with_reducible rename Fr _ _ _ _ => F9
      with_reducible rename News _ _ _ _ => N9
      refine UnrEnd.intro F9 N9 ((L + 1 + 1 + 1, oR) :: (L + 1 + 1, oF) :: (L + 1, oW) :: rest) (by walk_at "mine.sub") (fun p hp => off p hp) ⟨rfl, hm'', q4, q5, q6⟩
    case iturn =>
      rintro I₂ i₂ t₂ m'' news oI₂ h tk hI₂ hi₂ ⟨v, rfl, q1, q2, q3, hm'', q4, q5, q6⟩ off₂ F N
      have hmo := hm''.o
      obtain ⟨tt, hmt⟩ := hm''.t
      obtain ⟨tn, hmn⟩ := hm''.n
      have hil2 : ns.length - (i₂ + 1) < ns.length := by omega
      have htk : ns.take (ns.length - i₂) = ns.take (ns.length - (i₂ + 1)) ++ [ns[ns.length - (i₂ + 1)]] := by
        rw [show ns.length - i₂ = (ns.length - (i₂ + 1)) + 1 by omega]
        exact take_snoc (List.getElem?_eq_getElem hil2)
      rw [htk] at q2
      obtain ⟨t9, e9⟩ := StrsAre.at sa9.out (List.getElem?_eq_getElem hil2)
      have hnm : NameOk ns[ns.length - (i₂ + 1)] := hway.1 _ (List.getElem_mem hil2)
      have hw3 : WayOk 3 (ns.take (ns.length - (i₂ + 1))) := ⟨fun x hx => hway.1 x (List.mem_of_mem_take hx), by rw [List.length_take]; omega⟩
      generalize ns[ns.length - (i₂ + 1)] = nm at q2 e9 hnm
      generalize ns.take (ns.length - (i₂ + 1)) = pre at q2 hw3 ⊢
      k_steps
      refine Hold.mk ?_
      with_reducible rename Fr _ _ _ _ => F1
      with_reducible rename News _ _ _ _ => N1
      refine useC (base_way w q2 hlw.hst hw3 hnm) B F1 X N1 T rfl (by decide) (by decide) trivial ?_
      clear F1 N1
      intro vb h' tk' st' F' N' rb
      k_steps
      refine Hold.mk ?_
      with_reducible rename Fr _ _ _ _ => F1
      with_reducible rename News _ _ _ _ => N1
      refine item_list (isListN N1 (by walk_at "mine.mem")) (by omega) (by omega) (x := .str nm t9) (by rw [List.getElem?_toArray, show ((ns.length : Int) - 1 - (i₂ : Int)).toNat = ns.length - (i₂ + 1) by omega]; exact e9) ?_ (by with_unfolding_all rfl)
      k_steps
      refine Hold.mk ?_
      with_reducible rename Fr _ _ _ _ => F1
      with_reducible rename News _ _ _ _ => N1
      refine useC (kind_name w oct _ hnm) B F1 X N1 T rfl (by decide) (by decide) trivial ?_
      intro vk h' tk' st' F' N' rk
      k_steps
      refine Hold.mk ?_
      refine ne_path (x := nm) rb rk ?_
      k_steps
      refine Hold.mk ?_
      with_reducible rename Fr _ _ _ _ => F1
      with_reducible rename News _ _ _ _ => N1
      refine useC (dir_way w q2 hlw.hst hw3 hnm) B F1 X N1 T rfl (by decide) (by decide) trivial ?_
      clear F1 N1
      intro vd h' tk' st' F' N' rd
      k_steps
      with_reducible rename Fr _ _ _ _ => F9
      with_reducible rename News _ _ _ _ => N9
      refine UnrEnd.intro F9 N9 ((D', listOf (List.toArray ys') j') :: (I, oI) :: (L + 1 + 1 + 1, oR) :: (L + 1 + 1, oF) :: (L + 1, oW) :: rest) (by walk_at "mine.sub") (fun p hp => off₂ p hp) ⟨vd, rfl, by walk_at "mine.look", rd, by walk_at "mine.look", ⟨by walk_at "mine.look", ⟨_, by walk_at "mine.look"⟩, ⟨_, by walk_at "mine.look"⟩⟩, by walk_at "mine.look", by walk_at "mine.look", by walk_at "mine.look"⟩
end Mine


end

section
open PySem PySem.W PyProof.Rows PySem.Calls PyProof.Rows.LCg
set_option maxRecDepth 100000
namespace Mine
theorem calm_le : True := by
  w_top off
  trivial

def placesP (ws : Wld) : List Nat := 0 :: (List.range' 1 (ws.length - 1)).filter fun k => getM (warP ws) 0 k
def TableIn (r : Ledger) (R : Addr) (M : List (List Bool)) : Prop := ∃ vs k, (R, listOf (List.toArray vs) k) ∈ r ∧ All2 (BoolsIn r) vs M
theorem BoolsIn.mono {r r' : Ledger} (k : ∀ p ∈ r, p ∈ r') {v : Value} {bs : List Bool} (h : BoolsIn r v bs) : BoolsIn r' v bs := let ⟨D, n, e, m⟩ := h; ⟨D, n, e, k _ m⟩
theorem TableIn.mono {r r' : Ledger} (k : ∀ p ∈ r, p ∈ r') {R : Addr} {M : List (List Bool)} (h : TableIn r R M) : TableIn r' R M := let ⟨vs, n, m, a⟩ := h; ⟨vs, n, k _ m, a.mono fun _ _ x => x.mono k⟩
def LawE (g : Heap) (L : Addr) (ws : Wld) (oct : Bool) (st : Str) (s₀ s : Shared) : Prop :=
  ∃ h tk m oW oF oR rest W vF vB v1 v2 R P yp kp, s = { s₀ with heap := h, toks := tk } ∧ Fr g L h m ∧ News g L h ((L + 1 + 1 + 1, oR) :: (L + 1 + 1, oF) :: (L + 1, oW) :: rest) ∧ AllNe (L + 1 + 1 + 1) rest ∧ AllNe (L + 1 + 1) rest ∧ AllNe (L + 1) rest ∧
    oW.data = .cell (some (.ref W)) ∧ oF.data = .cell (some vF) ∧ oR.data = .cell (some (.ref R)) ∧ LawF ws oct st m ∧ WldIn rest W ws ∧
    m (Str.ofString "first") = some v1 ∧ m (Str.ofString "second") = some v2 ∧ m (Str.ofString "back") = some vB ∧ WalkIn ws false st oct rest v1 ∧ WalkIn ws true st oct rest v2 ∧ TextsIn rest vF (fin ws false).listed ∧ TextsIn rest vB (fin ws false).loops ∧
    TableIn rest R (warP ws) ∧ m (Str.ofString "places") = some (.ref P) ∧ (P, listOf (List.toArray yp) kp) ∈ rest ∧ IntsAre yp ((placesP ws).map fun x : Nat => (x : Int))
theorem range1_size (n : Nat) : Builtin.Range.rangeSize 1 (n : Int) 1 = ((n - 1 : Nat) : Int) := by
  unfold Builtin.Range.rangeSize
  simp
  omega
local macro_rules | `(tactic| walk_at "mine.room") => `(tactic| first
  | omega
  | ((try simp only [depth_under_make, depth_under_kw, depth_in1, depth_deeper, depth_caller]); (try dsimp only [ktrTop]); omega)
  | ((have hcL9 := cLine_is); (try simp only [units_in1, units_deeper, Around.mark_units, units_caller] at *); (try dsimp only [ktrTop] at *); omega))
local macro_rules | `(tactic| k_all) => `(tactic| first | assumption | exact AllNe.mem (by assumption))
local macro_rules | `(tactic| walk_at "mine.tl") => `(tactic| first | assumption | exact List.Mem.head _ | (refine List.Mem.tail _ ?_; walk_at "mine.tl"))
local macro_rules | `(tactic| walk_at "mine.alln") => `(tactic| first | exact trivial | assumption | (refine And.intro ?_ ?_; (focus (k_ne; done)); walk_at "mine.alln"))
local macro_rules | `(tactic| k_ne) => `(tactic| (refine neN ?_; (try dsimp only); first
  | with_reducible assumption
  | (refine Nat.ne_of_lt ?_; (simp only [*]); done)
  | (refine Nat.ne_of_gt ?_; (simp only [*]); done)
  | ((simp only [ne_eq, not_false_eq_true, *]); done)
  | (refine Ne.symm ?_; (simp only [ne_eq, not_false_eq_true, *]); done)))
local macro_rules | `(tactic| walk_at "mine.look") => `(tactic| first | with_reducible assumption | exact if_pos rfl | (refine (if_neg (by decide)).trans ?_; walk_at "mine.look") | exact rfl)
local macro_rules | `(tactic| walk_at "eval Name") => `(tactic| (k_here; (with_reducible show wpAny _ _ (eval (Expr.Name _ _) _) _ _ _); k_dflt (refine' nameX_L ?k1 ?k2 ?_ ?k3 ?k4 ?k5; (case k3 => exact rfl); (case k4 => exact rfl); (case k5 => decide); (case k1 => k_asm); (case k2 => walk_at "mine.look"); k_whole)))
local macro_rules | `(tactic| walk_at "mine.memr") => `(tactic| first | with_reducible assumption | with_reducible exact List.mem_cons_self | ((with_reducible refine List.mem_cons_of_mem _ ?_); walk_at "mine.memr"))
local macro_rules | `(tactic| walk_at "mine.mem") => `(tactic| first | walk_at "mine.memr" | k_mem | walk_at "mine.tl")
local macro_rules | `(tactic| walk_at "mine.up") => `(tactic| first | with_reducible exact fun _ h => h | with_reducible assumption | ((with_reducible refine sub_up ?_); walk_at "mine.up"))
local macro_rules | `(tactic| walk_at "mine.sub") => `(tactic| first | with_reducible exact sub_nil | ((with_reducible refine sub_cons ?_ ?_); (focus (walk_at "mine.mem"; done)); walk_at "mine.sub") | walk_at "mine.up")
local macro_rules | `(tactic| walk_at "eval ListComp") => `(tactic| (k_here; k_dflt (refine LCt.ListComp_T (F₀ := by k_asm) (by with_unfolding_all rfl) (by decide) (by rfl) (by decide) (by rfl) ?_)))
local macro_rules | `(tactic| walk_at "CompSrcT") => `(tactic| ((with_reducible refine Hold.out ?_)))
local macro_rules | `(tactic| walk_at "call ref") => `(tactic| (k_here; (with_reducible refine Hold.out ?_)))
local macro_rules | `(tactic| walk_at "binaryOp Add ref ref") => `(tactic| (k_here; (with_reducible refine Hold.out ?_)))
local macro_rules | `(tactic| walk_at "subscriptTail Name Constant ref int") => `(tactic| (k_here; (with_reducible refine Hold.out ?_)))
local macro_rules | `(tactic| walk_at "subscriptTail Subscript Name ref int") => `(tactic| (k_here; (with_reducible refine Hold.out ?_)))
local macro_rules | `(tactic| walk_at "subscriptTail Subscript Name Constant Name ref int") => `(tactic| (k_here; (with_reducible refine Hold.out ?_)))
local macro_rules | `(tactic| walk_at "execs cons") => `(tactic| (k_here; (with_reducible show wpAny _ _ (execs (Stmt.If (Expr.Compare (Expr.Call _ _ _ _) _ _ _) _ _ _ :: _) _) _ _ _); (with_reducible refine Hold.out ?_)))

set_option maxHeartbeats 40000000 in
theorem law_e {w : World} {fa L : Addr} {cd : Value} {base g : Heap} {p : Program} {loose : List Str} {mean : ExcName → Option Value} {mg mb : Str → Option Value} {s₀ s : Shared} {ws : Wld} {oct : Bool} {st : Str}
    (B : Below callerA base [] g) (X : (hd.heap_39 w.params).In g) (T : Top p loose mean mg mb g) (hlw : LawW ws st) (hJ : LawC g L ws oct st s₀ s)
    (hC : ∀ s', LawE g L ws oct st s₀ s' → wpAny (model PySem.Challenge.rw_ab6012_01.row.prog w) (callerA.deeper (lawEnv L fa cd)) (execs (lawBody.drop 16) (lawEnv L fa cd)) (LawEnd g s₀) (fun _ _ => False) s') :
    wpAny (model PySem.Challenge.rw_ab6012_01.row.prog w) (callerA.deeper (lawEnv L fa cd)) (execs (lawBody.drop 14) (lawEnv L fa cd)) (LawEnd g s₀) (fun _ _ => False) s := by
  revert X
  k_fill
  intro X
  obtain ⟨h, tk, m, oW, oF, oR, rest, W, vF, vB, v1, v2, zR, rfl, F, N, hR, hF, hW, cW, cF, cR, hm, hWI, hm1, hm2, hm3, W1, W2, tF, tB⟩ := hJ
  have hmo := hm.o
  obtain ⟨tt, hmt⟩ := hm.t
  obtain ⟨tn, hmn⟩ := hm.n

  dsimp only [lawBody, lawDef, lawEnv, lawScope, PySem.Challenge.pw_ab6012_01, List.getLast?, List.getLast, Option.getD, List.drop] at hC ⊢
  k_steps
  refine Hold.mk ?_
  with_reducible rename Fr _ _ _ _ => F1
  with_reducible rename News _ _ _ _ => N1
  refine useC (reach_at w W ws hlw.hw) B F1 X N1 T rfl (by decide) (by decide) (hWI.isWld (newsIn N1 (by walk_at "mine.sub"))) ?_
  intro v' h' tk' st' F' N' r'
  obtain ⟨r3, R3, vs3, k3, hk, rfl, m3, x3⟩ := r'
  obtain ⟨N2, hne⟩ := news_app F1 N1 N' hk
  have N3 : News g L h' ((L + 1 + 1 + 1, oR) :: (L + 1 + 1, oF) :: (L + 1, oW) :: (r3 ++ rest)) := news_sub N2 fun p hp => by
    simp only [List.mem_cons, List.mem_append] at hp ⊢
    rcases hp with hp | hp | hp | hp | hp <;> simp [hp]
  replace hR : AllNe (L + 1 + 1 + 1) (r3 ++ rest) := allNe_append (fun p hp => (hne _ (.head _) p hp).symm) hR
  replace hF : AllNe (L + 1 + 1) (r3 ++ rest) := allNe_append (fun p hp => (hne _ (.tail _ (.head _)) p hp).symm) hF
  replace hW : AllNe (L + 1) (r3 ++ rest) := allNe_append (fun p hp => (hne _ (.tail _ (.tail _ (.head _))) p hp).symm) hW
  have u1 : ∀ p ∈ r3, p ∈ r3 ++ rest := fun p hp => List.mem_append_left _ hp
  have u2 : ∀ p ∈ rest, p ∈ r3 ++ rest := fun p hp => List.mem_append_right _ hp
  have tR : TableIn (r3 ++ rest) R3 (warP ws) := ⟨vs3, k3, u1 _ m3, x3.mono fun _ _ x => x.mono u1⟩
  replace hWI := hWI.mono u2
  replace W1 := W1.mono u2
  replace W2 := W2.mono u2
  replace tF := tF.mono u2
  replace tB := tB.mono u2
  clear N2 N1 N' F1 hne hk u1 u2 x3 m3
  rename News _ _ _ _ => N0
  generalize r3 ++ rest = rest at *
  clear r3
  have hw5 := hlw.hw.2.1
  have hw1 := hlw.hw.1
  have hsm : Builtin.Range.small 1 (ws.length : Int) 1 = true := by
    have : ws.length = 1 ∨ ws.length = 2 ∨ ws.length = 3 ∨ ws.length = 4 ∨ ws.length = 5 := by omega
    rcases this with e | e | e | e | e <;> rw [e] <;> decide
  k_steps
  refine Hold.mk ?_
  with_reducible rename Fr _ _ _ _ => F2
  with_reducible rename News _ _ _ _ => N2
  rename IsRange _ _ _ _ _ _ _ _ => hr
  have sq := sq_warP ws
  obtain ⟨vsR, kR, mR, aR⟩ := id tR
  obtain ⟨v0, e0, ⟨D0, k0, rfl, m0⟩⟩ := aR.at (sq.row hw1).1
  refine LCt.CompSrcT.range (n := ws.length - 1) rfl F2 N2 hr hsm (range1_size _) (by rw [sizeLine_eq]; omega) ?_
  intro g₂
  refine restT_of (n := ws.length - 1) (fun i ys news => news = _ ∧ IntsAre ys (((List.range' 1 i).filter fun k => getM (warP ws) 0 k).map fun x : Nat => (x : Int))) ?fin ?step _ 0 [] _ (by rw [Nat.zero_add]) ⟨rfl, IntsAre.nil⟩
  case step =>
    rintro i ys news hi ⟨rfl, hys⟩ v I oI C oC D m₂ h tk hP₂ hC' hx F N o ne
    obtain ⟨t9, rfl⟩ := hP₂
    have hcell := sq.cell (a := 0) (b := 1 + i) hw1 (by omega)
    k_steps
    refine Hold.mk ?_
    refine item_list (isListN N (by walk_at "mine.mem")) (by omega) (by omega) (x := .ref D0) (by rw [List.getElem?_toArray]; exact e0) ?_ (by with_unfolding_all rfl)
    k_steps
    refine Hold.mk ?_
    refine item_list (isListN N (by walk_at "mine.mem")) (by omega) (by omega) (x := .bool (getM (warP ws) 0 (1 + i))) (by rw [List.getElem?_toArray, show (1 + (i : Int)).toNat = 1 + i by omega]; exact hcell) ?_ (by with_unfolding_all rfl)
    have hrg : List.range' 1 (i + 1) = List.range' 1 i ++ [1 + i] := by rw [List.range'_concat]; simp
    k_steps
    · with_reducible rename Fr _ _ _ _ => F3
      with_reducible rename News _ _ _ _ => N3
      rename getM _ _ _ = true => hg
      refine compEnd_at F3 N3 o trivial ⟨rfl, ?_⟩
      rw [hrg, List.filter_append, List.filter_cons_of_pos hg, List.filter_nil, List.map_append]
      exact IntsAre.snoc hys _ _
    · with_reducible rename Fr _ _ _ _ => F3
      with_reducible rename News _ _ _ _ => N3
      rename getM _ _ _ = false => hg
      refine compEnd_at F3 N3 o trivial ⟨rfl, ?_⟩
      rw [hrg, List.filter_append, List.filter_cons_of_neg (by rw [hg]; exact Bool.false_ne_true), List.filter_nil, List.append_nil]
      exact hys
  case fin =>
    rintro ys news ⟨rfl, hys⟩
    intro D h tk F N o
    simp only [LCg.Off1] at o
    k_steps
    refine Hold.mk ?_
    have hyl := IntsAre.length hys
    rw [List.length_map] at hyl
    have hfl := List.length_filter_le (fun k => getM (warP ws) 0 k) (List.range' 1 (ws.length - 1))
    rw [List.length_range'] at hfl
    refine add_N F N (by walk_at "mine.mem") (by walk_at "mine.mem") ?_ (by rw [sizeLine_eq]; simp only [List.length_cons, List.length_nil]; omega)
    intro D' h' F' N' l1
    have e1 : @Ne Nat D' (L + 1 + 1 + 1) := Nat.ne_of_gt (l1 (L + 1 + 1 + 1, _) (by walk_at "mine.mem"))
    have e2 : @Ne Nat D' (L + 1 + 1) := Nat.ne_of_gt (l1 (L + 1 + 1, _) (by walk_at "mine.mem"))
    have e3 : @Ne Nat D' (L + 1) := Nat.ne_of_gt (l1 (L + 1, _) (by walk_at "mine.mem"))
    k_steps
    refine Hold.mk ?_
    with_reducible rename Fr _ _ _ _ => F9
    with_reducible rename News _ _ _ _ => N9
    refine hC _ ⟨_, _, _, oW, oF, _, (D', _) :: rest, W, vF, vB, v1, v2, R3, D', _, _, rfl, F9, news_sub N9 (by walk_at "mine.sub"), ⟨e1, hR⟩, ⟨e2, hF⟩, ⟨e3, hW⟩, cW, cF, by assumption, ⟨by walk_at "mine.look", ⟨_, by walk_at "mine.look"⟩, ⟨_, by walk_at "mine.look"⟩⟩, hWI.mono (fun _ h => .tail _ h), by walk_at "mine.look", by walk_at "mine.look", by walk_at "mine.look", W1.mono (fun _ h => .tail _ h), W2.mono (fun _ h => .tail _ h), tF.mono (fun _ h => .tail _ h), tB.mono (fun _ h => .tail _ h), tR.mono (fun _ h => .tail _ h), by walk_at "mine.look", .head _, .cons _ _ hys⟩
end Mine


end

section
open PySem PySem.W PyProof.Rows PySem.Calls PyProof.Rows.LCg SeqAt
set_option maxRecDepth 100000
namespace Mine
theorem calm_lf : True := by
  w_top off
  trivial

def nodesP (ws : Wld) : List Nat := (fin ws true).listed.map fun ns => (nodeP ws 0 ns).getD 0
theorem ints_at : ∀ {vs : List Value} {ns : List Int}, IntsAre vs ns → ∀ {j : Nat} {x : Int}, ns[j]? = some x → ∃ t, vs[j]? = some (.int x t)
  | _, _, .nil, j, x, e => by simp at e
  | _, _, .cons n t _, 0, x, e => by simp at e; subst e; exact ⟨t, rfl⟩
  | _, _, .cons _ _ r, j + 1, x, e => by simp at e ⊢; exact ints_at r e
/-- what the law says of the pure lists -/
structure PureL (ws : Wld) : Prop where
  nodes : (nodesP ws).Perm (placesP ws)
  asc : (placesP ws).Pairwise (· ≤ ·)
  lt : ∀ k ∈ placesP ws, k < ws.length
  sub : ∀ ns ∈ (fin ws true).listed, ns ∈ (fin ws false).listed
  count : (((fin ws true).loops.length : Nat) : Int) = ((placesP ws).map fun k => (((ws.getD k []).length : Nat) : Int)).sum - ((placesP ws).length : Int) + 1
  ring : ((fin ws false).loops.length != 0) = (placesP ws).any fun k => getM (warP ws) k k
section
variable {prog : Program} {w : World} {A : Around} {E : Value → Shared → Prop} {s : Shared} {h₀ : Heap} {L : Addr} {m : Str → Option Value} {news r r' : Ledger}
theorem ne_ints {a b : Addr} {vs us : List Value} {xs : List Int} {Q : Value → Shared → Prop} (ha : s.heap.IsList a (List.toArray vs)) (hb : s.heap.IsList b (List.toArray us)) (hx : IntsAre vs xs) (hy : IntsAre us xs) (hu : A.units < cLine) (h : Q (.bool false) s) :
    wpAny (model prog w) A (compareOp .NotEq (.ref a) (.ref b)) Q E s := by
  have lx := IntsAre.length hx
  have ly := IntsAre.length hy
  refine SeqAt.RcNeAt.lists (e := fun _ => true) ha hb (by simp [lx, ly]) hu (fun j h1 h2 => ?_) prog w E Q ?_
  · simp only [List.size_toArray] at h1 h2
    have j1 : j < xs.length := by omega
    obtain ⟨t1, e1⟩ := ints_at hx (List.getElem?_eq_getElem j1)
    obtain ⟨t2, e2⟩ := ints_at hy (List.getElem?_eq_getElem j1)
    rw [List.getElem?_eq_getElem h1] at e1
    rw [List.getElem?_eq_getElem h2] at e2
    have f1 : (List.toArray vs)[j]'(by simpa using h1) = .int xs[j] t1 := by simpa using Option.some.inj e1
    have f2 : (List.toArray us)[j]'(by simpa using h2) = .int xs[j] t2 := by simpa using Option.some.inj e2
    rw [f1, f2]
    have := EqAt.int_int (A := A.in1) (s := s) xs[j] t1 xs[j] t2
    rw [beq_self_eq_true] at this
    exact this
  · have : (!(List.range (List.toArray vs).size).all fun _ => true) = false := by simp
    rw [this]; exact h
theorem in_bools {a : Addr} {bs : List Bool} {Q : Value → Shared → Prop} (ha : s.heap.IsList a (List.toArray (bs.map Value.bool))) (h : Q (.bool (bs.any id)) s) : wpAny (model prog w) A (compareOp .In (.bool true) (.ref a)) Q E s := by
  refine SeqAt.in_listAt (fun y => match y with | .bool b => b | _ => false) ha (fun y hy => ?_) ?_
  · obtain ⟨b, _, rfl⟩ := List.mem_map.mp (by simpa using hy : y ∈ bs.map Value.bool)
    have := SeqAt.EqAt.bool_bool (A := A.in1) (s := s) b true
    rw [beq_true] at this
    exact this
  · have e : ((List.toArray (bs.map Value.bool)).any fun y => match y with | .bool b => b | _ => false) = bs.any id := by
      rw [← Array.any_toList, List.any_map]
      rfl
    rw [e]; exact h
end
local macro_rules | `(tactic| walk_at "mine.room") => `(tactic| first
  | omega
  | ((try simp only [depth_under_make, depth_under_kw, depth_in1, depth_deeper, depth_caller]); (try dsimp only [ktrTop]); omega)
  | ((have hcL9 := cLine_is); (try simp only [units_in1, units_deeper, Around.mark_units, units_caller] at *); (try dsimp only [ktrTop] at *); omega))
local macro_rules | `(tactic| k_all) => `(tactic| first | assumption | exact AllNe.mem (by assumption))
local macro_rules | `(tactic| walk_at "mine.tl") => `(tactic| first | assumption | exact List.Mem.head _ | (refine List.Mem.tail _ ?_; walk_at "mine.tl"))
local macro_rules | `(tactic| walk_at "mine.alln") => `(tactic| first | exact trivial | assumption | (refine And.intro ?_ ?_; (focus (k_ne; done)); walk_at "mine.alln"))
local macro_rules | `(tactic| k_ne) => `(tactic| (refine neN ?_; (try dsimp only); first
  | with_reducible assumption
  | (refine Nat.ne_of_lt ?_; (simp only [*]); done)
  | (refine Nat.ne_of_gt ?_; (simp only [*]); done)
  | ((simp only [ne_eq, not_false_eq_true, *]); done)
  | (refine Ne.symm ?_; (simp only [ne_eq, not_false_eq_true, *]); done)))
local macro_rules | `(tactic| walk_at "mine.look") => `(tactic| first | with_reducible assumption | exact if_pos rfl | (refine (if_neg (by decide)).trans ?_; walk_at "mine.look") | exact rfl)
local macro_rules | `(tactic| walk_at "eval Name") => `(tactic| (k_here; (with_reducible show wpAny _ _ (eval (Expr.Name _ _) _) _ _ _); k_dflt (refine' nameX_L ?k1 ?k2 ?_ ?k3 ?k4 ?k5; (case k3 => exact rfl); (case k4 => exact rfl); (case k5 => decide); (case k1 => k_asm); (case k2 => walk_at "mine.look"); k_whole)))
local macro_rules | `(tactic| walk_at "mine.memr") => `(tactic| first | with_reducible assumption | with_reducible exact List.mem_cons_self | ((with_reducible refine List.mem_cons_of_mem _ ?_); walk_at "mine.memr"))
local macro_rules | `(tactic| walk_at "mine.mem") => `(tactic| first | walk_at "mine.memr" | k_mem | walk_at "mine.tl")
local macro_rules | `(tactic| walk_at "mine.up") => `(tactic| first | with_reducible exact fun _ h => h | with_reducible assumption | ((with_reducible refine sub_up ?_); walk_at "mine.up"))
local macro_rules | `(tactic| walk_at "mine.sub") => `(tactic| first | with_reducible exact sub_nil | ((with_reducible refine sub_cons ?_ ?_); (focus (walk_at "mine.mem"; done)); walk_at "mine.sub") | walk_at "mine.up")
local macro_rules | `(tactic| walk_at "eval ListComp") => `(tactic| (k_here; first
  | ((with_reducible show wpAny _ _ (eval (Expr.ListComp _ (Comprehension.mk _ _ [] _ :: _) _ _) _) _ _ _); k_dflt (refine LCg.ListComp_U (F₀ := by k_asm) (by with_unfolding_all rfl) (by decide) (by rfl) (by decide) (by rfl) ?_))
  | ((with_reducible show wpAny _ _ (eval (Expr.ListComp _ (Comprehension.mk _ _ (_ :: _) _ :: _) _ _) _) _ _ _); k_dflt (refine LCt.ListComp_T (F₀ := by k_asm) (by with_unfolding_all rfl) (by decide) (by rfl) (by decide) (by rfl) ?_))))
local macro_rules | `(tactic| walk_at "CompSrcT") => `(tactic| ((with_reducible refine Hold.out ?_)))
local macro_rules | `(tactic| walk_at "CompSrc") => `(tactic| ((with_reducible refine Hold.out ?_)))
local macro_rules | `(tactic| walk_at "call ref") => `(tactic| (k_here; (with_reducible refine Hold.out ?_)))
local macro_rules | `(tactic| walk_at "call builtin:len") => `(tactic| (k_here; (with_reducible refine Hold.out ?_)))
local macro_rules | `(tactic| walk_at "call builtin:sorted") => `(tactic| (k_here; (with_reducible refine Hold.out ?_)))
local macro_rules | `(tactic| walk_at "call builtin:sum") => `(tactic| (k_here; (with_reducible refine Hold.out ?_)))
local macro_rules | `(tactic| walk_at "compareOp Eq bool bool") => `(tactic| (k_here; (with_reducible refine Hold.out ?_)))
local macro_rules | `(tactic| walk_at "compareOp NotEq ref ref") => `(tactic| (k_here; (with_reducible refine Hold.out ?_)))
local macro_rules | `(tactic| walk_at "compareOp NotIn ref ref") => `(tactic| (k_here; (with_reducible refine Hold.out ?_)))
local macro_rules | `(tactic| walk_at "compareOp In bool ref") => `(tactic| (k_here; (with_reducible refine Hold.out ?_)))
local macro_rules | `(tactic| walk_at "compareOp NotIn") => `(tactic| (k_here; (with_reducible refine Hold.out ?_)))
local macro_rules | `(tactic| walk_at "compareOp In") => `(tactic| (k_here; (with_reducible refine Hold.out ?_)))
local macro_rules | `(tactic| walk_at "subscriptTail Subscript Name Name ref int") => `(tactic| (k_here; (with_reducible refine Hold.out ?_)))
local macro_rules | `(tactic| walk_at "subscriptTail Subscript Name Name Name ref int") => `(tactic| (k_here; (with_reducible refine Hold.out ?_)))
local macro_rules | `(tactic| walk_at "subscriptTail Name Name ref int") => `(tactic| (k_here; (with_reducible refine Hold.out ?_)))

set_option maxHeartbeats 40000000 in
theorem law_f {w : World} {fa L : Addr} {cd : Value} {base g : Heap} {p : Program} {loose : List Str} {mean : ExcName → Option Value} {mg mb : Str → Option Value} {s₀ s : Shared} {ws : Wld} {oct : Bool} {st : Str}
    (B : Below callerA base [] g) (X : (hd.heap_39 w.params).In g) (T : Top p loose mean mg mb g) (hlw : LawW ws st) (hJ : LawE g L ws oct st s₀ s) (pl : PureL ws)
     :
    wpAny (model PySem.Challenge.rw_ab6012_01.row.prog w) (callerA.deeper (lawEnv L fa cd)) (execs (lawBody.drop 16) (lawEnv L fa cd)) (LawEnd g s₀) (fun _ _ => False) s := by
  revert X
  k_fill
  intro X
  obtain ⟨h, tk, m, oW, oF, oR, rest, W, vF, vB, v1, v2, R, P, yp, kp, rfl, F, N, hR, hF, hW, cW, cF, cR, hm, hWI, hm1, hm2, hm3, W1, W2, tF, tB, tR, hmP, mP, iP⟩ := hJ
  have hmo := hm.o
  obtain ⟨tt, hmt⟩ := hm.t
  obtain ⟨tn, hmn⟩ := hm.n

  obtain ⟨T1, n1, a1, b1, c1, rfl, mT, ta, tb, tc⟩ := id W2
  obtain ⟨Da, va, ka, rfl, ma, qa⟩ := ta
  obtain ⟨Db, vb, kb, rfl, mb, qb⟩ := tb
  obtain ⟨DF, vf, kf, rfl, mf, qf⟩ := id tF
  obtain ⟨DB, vg, kg, rfl, mg', qg⟩ := id tB
  have sz := fin_sz hlw.hw hlw.hm true
  have sz' := fin_sz hlw.hw hlw.hm false
  have hla := qa.len
  have hlb := qb.len
  have hlg := qg.len
  have hw5 := hlw.hw.2.1
  have N4 : News g L h ((L + 1 + 1 + 1, oR) :: (L + 1 + 1, oF) :: (L + 1, oW) :: (T1, tup3 (.ref Da) (.ref Db) c1 n1) :: rest) := news_sub N (by walk_at "mine.sub")
  clear N
  dsimp only [lawBody, lawDef, lawEnv, lawScope, PySem.Challenge.pw_ab6012_01, List.getLast?, List.getLast, Option.getD, List.drop]
  k_steps
  refine Hold.mk ?_
  with_reducible rename Fr _ _ _ _ => F1
  with_reducible rename News _ _ _ _ => N1
  refine CompSrc.ledger rfl F1 N1 (by walk_at "mine.mem") (by rw [List.size_toArray, sizeLine_eq]; omega) ?_
  intro g₂
  refine rest_of (n := va.length) (fun i ys news => news = _ ∧ IntsAre ys (((nodesP ws).take i).map fun x : Nat => (x : Int))) ?fin ?step _ 0 [] _ (by rw [Nat.zero_add, List.size_toArray]) ⟨rfl, IntsAre.nil⟩
  case step =>
    rintro i ys news hi ⟨rfl, hys⟩ v I oI C oC D m₂ h tk hP₂ hC' hx F N o ne
    clear F1 N1
    have hil : i < (fin ws true).listed.length := by omega
    obtain ⟨v', e', hv⟩ := qa.at (List.getElem?_eq_getElem hil)
    rw [List.getElem?_toArray, e'] at hP₂
    cases hP₂
    obtain ⟨nodes, hrow⟩ := fin_rows hlw.hw hlw.hm true _ (List.getElem_mem hil)
    have hnode := hrow.way
    have hnt : (nodesP ws).take (i + 1) = (nodesP ws).take i ++ [nodes.getLastD 0] := take_snoc (by
      unfold nodesP
      rw [List.getElem?_map, List.getElem?_eq_getElem hil]
      show some ((nodeP ws 0 (fin ws true).listed[i]).getD 0) = _
      rw [show nodeP ws 0 (fin ws true).listed[i] = some (nodes.getLastD 0) from hnode]
      rfl)
    obtain ⟨E, us, ke, rfl, mE, sE⟩ := hv
    k_steps
    refine Hold.mk ?_
    with_reducible rename Fr _ _ _ _ => F1
    with_reducible rename News _ _ _ _ => N1
    refine useC (node_way w W E ws _ us sE hlw.hw _ hnode) B F1 X N1 T rfl (by decide) (by decide) ⟨hWI.isWld (newsIn N1 (by walk_at "mine.up")), isListN N1 (by walk_at "mine.mem")⟩ ?_
    intro v' h' tk' st' F' N' r'
    obtain ⟨t9, rfl⟩ := r'
    clear F1 N1
    (try k_steps)
    refine compEnd_at F' N' o (.inr ⟨_, by walk_at "mine.mem", rfl, _, rfl⟩) ⟨rfl, ?_⟩
    rw [hnt, List.map_append]
    exact IntsAre.snoc hys _ _
  case fin =>
    rintro ys news ⟨rfl, hys⟩
    intro D h tk F N o
    simp only [LCg.Off1] at o
    clear F1 N1
    have hnl : (nodesP ws).length = va.length := by unfold nodesP; rw [List.length_map]; omega
    rw [← hnl, List.take_length] at hys
    have hyl := IntsAre.length hys
    rw [List.length_map] at hyl
    k_steps
    refine Hold.mk ?_
    refine sorted_N F N (isListN N (.head _)) hys (by omega) ?_
    intro h' vs' ns' e' F' N' i1 p1 s1
    have hns : ns' = (placesP ws).map fun x : Nat => (x : Int) := lks_uniq (p1.trans (pl.nodes.map _)) s1 (List.pairwise_map.mpr (pl.asc.imp fun h => by omega))
    subst hns
    clear F N
    k_steps
    refine Hold.mk ?_
    with_reducible rename Fr _ _ _ _ => F1
    with_reducible rename News _ _ _ _ => N1
    refine ne_ints (isListN N1 (by walk_at "mine.mem")) (isListN N1 (by walk_at "mine.mem")) i1 iP (by walk_at "mine.room") ?_
    k_steps
    refine Hold.mk ?_
    with_reducible rename Fr _ _ _ _ => F1
    with_reducible rename News _ _ _ _ => N1
    refine LCt.CompSrcT.ledger rfl F1 N1 (by walk_at "mine.mem") (by rw [List.size_toArray, sizeLine_eq]; omega) ?_
    intro g₃
    refine restT_of (n := va.length) (fun i ys news => news = _ ∧ ys = []) ?fin2 ?step2 _ 0 [] _ (by rw [Nat.zero_add, List.size_toArray]) ⟨rfl, rfl⟩
    case step2 =>
      rintro i ys news hi ⟨rfl, rfl⟩ v I oI C oC D₂ m₂ h tk hP₂ hC' hx F N o ne
      clear F1 N1
      have hil : i < (fin ws true).listed.length := by omega
      obtain ⟨v', e', hv⟩ := qa.at (List.getElem?_eq_getElem hil)
      rw [List.getElem?_toArray, e'] at hP₂
      cases hP₂
      have hsub := pl.sub _ (List.getElem_mem hil)
      generalize (fin ws true).listed[i] = nsi at hv hsub
      k_steps
      refine Hold.mk ?_
      with_reducible rename Fr _ _ _ _ => F1
      with_reducible rename News _ _ _ _ => N1
      refine notIn_rows (r := rest) (isListN N1 (by walk_at "mine.mem")) (newsIn N1 (by walk_at "mine.up")) qf hv hsub (by walk_at "mine.room") ?_
      k_steps
      refine compEnd_at F1 N1 o (.inr ⟨_, by walk_at "mine.mem", rfl, _, rfl⟩) ⟨rfl, rfl⟩
    case fin2 =>
      rintro ys news ⟨rfl, rfl⟩
      intro D₂ h tk F N o2
      simp only [LCg.Off1] at o2
      clear F1 N1
      k_steps
      refine Hold.mk ?_
      with_reducible rename Fr _ _ _ _ => F1
      with_reducible rename News _ _ _ _ => N1
      refine ne_nilN N1 (by walk_at "mine.mem") (by walk_at "mine.mem") (by walk_at "mine.room") ?_
      have hpl := IntsAre.length iP
      rw [List.length_map] at hpl
      have hpn : (placesP ws).length ≤ 6 := by
        unfold placesP
        have := List.length_filter_le (fun k => getM (warP ws) 0 k) (List.range' 1 (ws.length - 1))
        rw [List.length_range'] at this
        rw [List.length_cons]; omega
      obtain ⟨wvs, wk, mW, aW⟩ := id hWI
      k_steps
      refine Hold.mk ?_
      with_reducible rename Fr _ _ _ _ => F1
      with_reducible rename News _ _ _ _ => N1
      refine lenN N1 (by walk_at "mine.mem") (by omega) ?_
      intro t8 k8
      k_steps
      refine Hold.mk ?_
      with_reducible rename Fr _ _ _ _ => F1
      with_reducible rename News _ _ _ _ => N1
      refine CompSrc.ledger rfl F1 N1 (by walk_at "mine.mem") (by rw [List.size_toArray, sizeLine_eq]; omega) ?_
      intro g₄
      refine rest_of (n := yp.length) (fun i ys news => news = _ ∧ IntsAre ys (((placesP ws).take i).map fun k => (((ws.getD k []).length : Nat) : Int))) ?fin3 ?step3 _ 0 [] _ (by rw [Nat.zero_add, List.size_toArray]) ⟨rfl, IntsAre.nil⟩
      case step3 =>
        rintro i ys news hi ⟨rfl, hys⟩ v I oI C oC D₃ m₂ h tk hP₂ hC' hx F N o ne
        clear F1 N1
        have hil : i < (placesP ws).length := by omega
        have hkl := pl.lt _ (List.getElem_mem hil)
        obtain ⟨t9, e9⟩ := ints_at iP (j := i) (x := (((placesP ws)[i] : Nat) : Int)) (by rw [List.getElem?_map, List.getElem?_eq_getElem hil]; rfl)
        rw [List.getElem?_toArray, e9] at hP₂
        cases hP₂
        have htk := take_snoc (List.getElem?_eq_getElem hil)
        generalize (placesP ws)[i] = kk at hkl hx htk
        have hes : ws[kk]? = some (ws.getD kk []) := by rw [List.getD_eq_getElem?_getD, List.getElem?_eq_getElem hkl]; rfl
        obtain ⟨v', e', ⟨E, evs, ke, rfl, mE, aE⟩⟩ := aW.at hes
        have hel := aE.len
        have he2 := (hlw.hw.2.2 _ (List.mem_of_getElem? hes)).1
        k_steps
        refine Hold.mk ?_
        with_reducible rename Fr _ _ _ _ => F1
        with_reducible rename News _ _ _ _ => N1
        refine item_list (isListN N1 (by walk_at "mine.mem")) (by omega) (by omega) (x := .ref E) (by rw [List.getElem?_toArray, Int.toNat_natCast]; exact e') ?_ (by with_unfolding_all rfl)
        k_steps
        refine Hold.mk ?_
        refine lenN N1 (by walk_at "mine.mem") (by omega) ?_
        intro t7 k7
        refine compEnd_at F1 N1 o (.inr ⟨_, by walk_at "mine.mem", rfl, _, rfl⟩) ⟨rfl, ?_⟩
        rw [htk, List.map_append, hel]
        exact IntsAre.snoc hys _ _
      case fin3 =>
        rintro ys news ⟨rfl, hys⟩
        intro D₃ h tk F N o3
        simp only [LCg.Off1] at o3
        clear F1 N1
        rw [← hpl.symm, List.take_of_length_le (by omega)] at hys
        k_steps
        refine Hold.mk ?_
        refine LSm.sum_ints F N rfl (isListN N (.head _)) hys ?_
        intro h' tk' t6 F' N'
        clear F N
        k_steps
        refine Hold.mk ?_
        with_reducible rename Fr _ _ _ _ => F1
        with_reducible rename News _ _ _ _ => N1
        refine lenN N1 (by walk_at "mine.mem") (by omega) ?_
        intro t5 k5
        have hcount := pl.count
        k_steps
        · with_reducible rename @Ne Int _ _ => hne
          exact absurd (by rw [hlb, hpl]; exact hcount) hne
        refine Hold.mk ?_
        with_reducible rename Fr _ _ _ _ => F1
        with_reducible rename News _ _ _ _ => N1
        refine ne_nilN N1 (by walk_at "mine.mem") (by walk_at "mine.mem") (by walk_at "mine.room") ?_
        obtain ⟨vsR, kR, mR, aR⟩ := id tR
        have sq := sq_warP ws
        k_steps
        refine Hold.mk ?_
        with_reducible rename Fr _ _ _ _ => F1
        with_reducible rename News _ _ _ _ => N1
        refine CompSrc.ledger rfl F1 N1 (by walk_at "mine.mem") (by rw [List.size_toArray, sizeLine_eq]; omega) ?_
        intro g₅
        refine rest_of (n := yp.length) (fun i ys news => news = _ ∧ ys = (((placesP ws).take i).map fun k => getM (warP ws) k k).map Value.bool) ?fin4 ?step4 _ 0 [] _ (by rw [Nat.zero_add, List.size_toArray]) ⟨rfl, rfl⟩
        case step4 =>
          rintro i ys news hi ⟨rfl, rfl⟩ v I oI C oC D₄ m₂ h tk hP₂ hC' hx F N o ne
          clear F1 N1
          have hil : i < (placesP ws).length := by omega
          have hkl := pl.lt _ (List.getElem_mem hil)
          obtain ⟨t9, e9⟩ := ints_at iP (j := i) (x := (((placesP ws)[i] : Nat) : Int)) (by rw [List.getElem?_map, List.getElem?_eq_getElem hil]; rfl)
          rw [List.getElem?_toArray, e9] at hP₂
          cases hP₂
          have htk := take_snoc (List.getElem?_eq_getElem hil)
          generalize (placesP ws)[i] = kk at hkl hx htk
          obtain ⟨v0, e0, ⟨E0, k0, rfl, mE0⟩⟩ := aR.at (sq.row hkl).1
          have hcell := sq.cell (a := kk) (b := kk) hkl hkl
          k_steps
          refine Hold.mk ?_
          with_reducible rename Fr _ _ _ _ => F1
          with_reducible rename News _ _ _ _ => N1
          refine item_list (isListN N1 (by walk_at "mine.mem")) (by omega) (by omega) (x := .ref E0) (by rw [List.getElem?_toArray, Int.toNat_natCast]; exact e0) ?_ (by with_unfolding_all rfl)
          k_steps
          refine Hold.mk ?_
          refine item_list (isListN N1 (by walk_at "mine.mem")) (by omega) (by omega) (x := .bool (getM (warP ws) kk kk)) (by rw [List.getElem?_toArray, Int.toNat_natCast]; exact hcell) ?_ (by with_unfolding_all rfl)
          refine compEnd_at F1 N1 o (.inr ⟨_, by walk_at "mine.mem", rfl, _, rfl⟩) ⟨rfl, ?_⟩
          rw [htk, List.map_append, List.map_append]
          rfl
        case fin4 =>
          rintro ys news ⟨rfl, rfl⟩
          intro D₄ h tk F N o4
          simp only [LCg.Off1] at o4
          clear F1 N1
          rw [List.take_of_length_le (by omega)] at N
          k_steps
          refine Hold.mk ?_
          refine in_bools (isListN N (.head _)) ?_
          k_steps
          refine Hold.mk ?_
          have hre : ((List.toArray vg).size != 0) = List.any (List.map (fun k => getM (warP ws) k k) (placesP ws)) id := by
            rw [List.size_toArray, hlg, pl.ring, List.any_map]
            rfl
          rw [hre]
          refine RcAt.bool_bool _ _ _ _ _ _ ?_
          rw [beq_self_eq_true]
          exact ⟨rfl, _, _, rfl, F.keep⟩
end Mine


end

section
open PySem PySem.W PyProof.Rows PySem.Calls PyProof.Rows.LCg SeqAt
set_option maxRecDepth 100000
namespace Mine
theorem calm_lg : True := by
  w_top off
  trivial

/-- the state at the law's start -/
def LawA (g : Heap) (L S : Addr) (s₀ s : Shared) : Prop :=
  ∃ h tk m oW oF oR, s = { s₀ with heap := h, toks := tk } ∧ Fr g L h m ∧ News g L h [(L + 1 + 1 + 1, oR), (L + 1 + 1, oF), (L + 1, oW)] ∧ oW.data = .cell none ∧ oF.data = .cell none ∧ oR.data = .cell none ∧ m (Str.ofString "script") = some (.ref S)
theorem tup_at {prog : Program} {w : World} {A : Around} {E : Value → Shared → Prop} {s : Shared} {value slice : Expr} {l : Addr} {its : Array Value} {i : Int} {u : Tok} {k : Nat} {x : Value} {Q : Value → Shared → Prop} (ht : IsTup s.heap l its) (hk : its[k]? = some x) (hi : i = (k : Int)) (hf : k ≤ 100) (h : Q x s)
    (hs : subscripted slice false (.ref l) (.int i u) = operate [.ref l, .int i u] (getItem (.ref l) (.int i u))) : wpAny (model prog w) A (subscriptTail value slice (.ref l) (.int i u)) Q E s := by
  subst hi
  obtain ⟨hlt, _⟩ := Array.getElem?_eq_some_iff.mp hk
  exact tail_any ht.typeIs slot_tuple_getitem.lookup (getItem_tuple ht (by omega) (by omega) (j := k) (by unfold seqIndex?; simp; omega) hk h) hs
theorem newList_N {prog : Program} {w : World} {A : Around} {E : Value → Shared → Prop} {s : Shared} {h₀ : Heap} {L : Addr} {m : Str → Option Value} {news : Ledger} {Q : Value → Shared → Prop} (F : Fr h₀ L s.heap m) (N : News h₀ L s.heap news)
    (h : ∀ D h', Fr h₀ L h' m → News h₀ L h' ((D, listOf #[] 0) :: news) → (∀ p ∈ news, p.1 < D) → Q (.ref D) { s with heap := h' }) : wpAny (model prog w) A (newList []) Q E s :=
  wpAny_newList (h _ _ (F.push _) (News.push F N _) fun p hp => Heap.lt_size (N p hp).1) (Nat.zero_le _)
theorem newList_1 {prog : Program} {w : World} {A : Around} {E : Value → Shared → Prop} {s : Shared} {h₀ : Heap} {L : Addr} {m : Str → Option Value} {news : Ledger} {v : Value} {Q : Value → Shared → Prop} (F : Fr h₀ L s.heap m) (N : News h₀ L s.heap news)
    (h : ∀ D h', Fr h₀ L h' m → News h₀ L h' ((D, listOf #[v] 0) :: news) → (∀ p ∈ news, p.1 < D) → Q (.ref D) { s with heap := h' }) : wpAny (model prog w) A (newList [v]) Q E s :=
  wpAny_newList (h _ _ (F.push _) (News.push F N _) fun p hp => Heap.lt_size (N p hp).1) (by rw [sizeLine_eq]; show 1 ≤ _; omega)
theorem set_N {prog : Program} {w : World} {A : Around} {E : Value → Shared → Prop} {s : Shared} {h₀ : Heap} {L D : Addr} {m : Str → Option Value} {pre post : Ledger} {its : List Value} {n k : Nat} {u : Tok} {v : Value} {Q : Unit → Shared → Prop} (F : Fr h₀ L s.heap m)
    (N : News h₀ L s.heap (pre ++ (D, listOf (List.toArray its) n) :: post)) (a : ∀ p ∈ pre, p.1 ≠ D) (b : ∀ p ∈ post, p.1 ≠ D) (hk : k < its.length) (hf : k ≤ 100)
    (h : ∀ h', Fr h₀ L h' m → News h₀ L h' (pre ++ (D, listOf (List.toArray (its.set k v)) n) :: post) → Q () { s with heap := h' }) : wpAny (model prog w) A (setItem (.ref D) (.int (k : Int) u) v) Q E s := by
  have z := N (D, listOf (List.toArray its) n) (List.mem_append.mpr (.inr (.head _)))
  refine ki_setAt z.1 (by omega) (by omega) (by rw [List.size_toArray]; omega) (h _ (F.change (Heap.SameBut.update ..) z.2.1 z.2.2) ?_)
  refine ki_turn _ N a b ?_ (by rw [if_pos (by simp)])
  apply Array.toList_inj.mp
  rw [Array.toList_setIfInBounds, Int.toNat_natCast]
def nameP : Nat → Nat → Str
  | 0, 0 => Str.ofString "a"
  | 0, _ => Str.ofString "ab"
  | _, 0 => Str.ofString "b"
  | _, _ => Str.ofString ".b"
theorem nameP_ok (a b : Nat) : NameOk (nameP a b) := by
  unfold NameOk nameP
  split
  · exact .inl rfl
  · exact .inr (.inl rfl)
  · exact .inr (.inr (.inl rfl))
  · exact .inr (.inr (.inr rfl))
theorem nameP_ne (b c : Nat) : nameP 0 b ≠ nameP 1 c := by
  have h : ∀ b c : Nat, b < 2 → c < 2 → nameP 0 b ≠ nameP 1 c := by
    intro b c hb hc
    rcases (by omega : b = 0 ∨ b = 1) with rfl | rfl <;> rcases (by omega : c = 0 ∨ c = 1) with rfl | rfl <;> decide
  have hb : nameP 0 b = nameP 0 (min b 1) := by cases b with | zero => rfl | succ b => rw [show min (b + 1) 1 = 1 by omega]; rfl
  have hc : nameP 1 c = nameP 1 (min c 1) := by cases c with | zero => rfl | succ c => rw [show min (c + 1) 1 = 1 by omega]; rfl
  rw [hb, hc]
  exact h _ _ (by omega) (by omega)
theorem nameTab_at {p : Params} {g : Heap} (X : (hd.heap_39 p).In g) {j : Nat} (hj : j < 2) : ∃ a its, IsTup g 139 #[.ref 137, .ref 138] ∧ (#[Value.ref 137, Value.ref 138] : Array Value)[j]? = some (.ref a) ∧ IsTup g a its ∧ ∀ i < 2, ∃ t, its[i]? = some (.str (nameP j i) t) := by
  have h139 : IsTup g 139 #[.ref 137, .ref 138] := ⟨_, X 139 ⟨.type "tuple", none, .seq #[.ref 137, .ref 138] 0, #[]⟩ (by with_unfolding_all rfl), rfl, _, rfl⟩
  rcases (by omega : j = 0 ∨ j = 1) with rfl | rfl
  · refine ⟨137, #[.str (Str.ofString "a") 355, .str (Str.ofString "ab") 356], h139, rfl, ⟨_, X 137 ⟨.type "tuple", none, .seq #[.str (Str.ofString "a") 355, .str (Str.ofString "ab") 356] 0, #[]⟩ (by with_unfolding_all rfl), rfl, _, rfl⟩, fun i hi => ?_⟩
    rcases (by omega : i = 0 ∨ i = 1) with rfl | rfl
    · exact ⟨_, rfl⟩
    · exact ⟨_, rfl⟩
  · refine ⟨138, #[.str (Str.ofString "b") 357, .str (Str.ofString ".b") 358], h139, rfl, ⟨_, X 138 ⟨.type "tuple", none, .seq #[.str (Str.ofString "b") 357, .str (Str.ofString ".b") 358] 0, #[]⟩ (by with_unfolding_all rfl), rfl, _, rfl⟩, fun i hi => ?_⟩
    rcases (by omega : i = 0 ∨ i = 1) with rfl | rfl
    · exact ⟨_, rfl⟩
    · exact ⟨_, rfl⟩
theorem starts_at {p : Params} {g : Heap} (X : (hd.heap_39 p).In g) : ∃ its, IsTup g 140 its ∧ ∀ i < 4, ∃ st t, its[i]? = some (.str st t) ∧ st ∈ sts := by
  refine ⟨#[.str (Str.ofString "/") 360, .str (Str.ofString ".") 361, .str (Str.ofString "//") 362, .str (Str.ofString "r/s") 363], ⟨_, X 140 ⟨.type "tuple", none, .seq #[.str (Str.ofString "/") 360, .str (Str.ofString ".") 361, .str (Str.ofString "//") 362, .str (Str.ofString "r/s") 363] 0, #[]⟩ (by with_unfolding_all rfl), rfl, _, rfl⟩, fun i hi => ?_⟩
  rcases (by omega : i = 0 ∨ i = 1 ∨ i = 2 ∨ i = 3) with rfl | rfl | rfl | rfl
  · exact ⟨_, _, rfl, .head _⟩
  · exact ⟨_, _, rfl, .tail _ (.head _)⟩
  · exact ⟨_, _, rfl, .tail _ (.tail _ (.head _))⟩
  · exact ⟨_, _, rfl, .tail _ (.tail _ (.tail _ (.head _)))⟩
theorem ints_at2 : ∀ {vs : List Value} {ns : List Int}, IntsAre vs ns → ∀ {j : Nat} {x : Int}, ns[j]? = some x → ∃ t, vs[j]? = some (.int x t)
  | _, _, .nil, j, x, e => by simp at e
  | _, _, .cons n t _, 0, x, e => by simp at e; subst e; exact ⟨t, rfl⟩
  | _, _, .cons _ _ r, j + 1, x, e => by simp at e ⊢; exact ints_at2 r e
/-- a folder's entries, of the slots below j -/
structure EntsOk (n j : Nat) (es : List (Str × Nat)) : Prop where
  len : es.length ≤ j
  lt : ∀ e ∈ es, e.2 < n
  nm : ∀ e ∈ es, ∃ a b, a < j ∧ e.1 = nameP a b
  nd : (es.map (·.1)).Nodup
theorem EntsOk.nil (n j : Nat) : EntsOk n j [] := ⟨Nat.zero_le _, (fun _ h => absurd h List.not_mem_nil), (fun _ h => absurd h List.not_mem_nil), List.nodup_nil⟩
theorem EntsOk.up {n j : Nat} {es : List (Str × Nat)} (h : EntsOk n j es) : EntsOk n (j + 1) es := ⟨Nat.le_succ_of_le h.len, h.lt, fun e he => let ⟨a, b, x, y⟩ := h.nm e he; ⟨a, b, Nat.lt_succ_of_lt x, y⟩, h.nd⟩
theorem EntsOk.snoc {n j : Nat} {es : List (Str × Nat)} (h : EntsOk n j es) (hj : j < 2) (b k : Nat) (hk : k < n) : EntsOk n (j + 1) (es ++ [(nameP j b, k)]) := by
  refine ⟨by rw [List.length_append, List.length_singleton]; exact Nat.succ_le_succ h.len, fun e he => ?_, fun e he => ?_, ?_⟩
  · rcases List.mem_append.mp he with he | he
    · exact h.lt e he
    · rw [List.mem_singleton.mp he]; exact hk
  · rcases List.mem_append.mp he with he | he
    · obtain ⟨a, c, x, y⟩ := h.nm e he
      exact ⟨a, c, Nat.lt_succ_of_lt x, y⟩
    · rw [List.mem_singleton.mp he]; exact ⟨j, b, Nat.lt_succ_self _, rfl⟩
  · rw [List.map_append, List.nodup_append]
    refine ⟨h.nd, by simp, fun x hx y hy => ?_⟩
    obtain ⟨e, he, rfl⟩ := List.mem_map.mp hx
    obtain ⟨a, c, x, e1⟩ := h.nm e he
    simp only [List.map_cons, List.map_nil, List.mem_singleton] at hy
    subst hy
    rw [e1]
    have ha : a = 0 := by omega
    have hj1 : j = 1 := by omega
    subst ha hj1
    exact nameP_ne _ _
theorem wld_ok {n : Nat} {ws : Wld} (h2 : 2 ≤ n) (h5 : n ≤ 5) (hl : ws.length = n) (h : ∀ es ∈ ws, EntsOk n 2 es) : WldOk ws ∧ WldNm ws := by
  refine ⟨⟨by omega, by omega, fun es he => ⟨(h es he).len, fun p hp => ?_⟩⟩, fun es he => ⟨(h es he).nd, fun e hx => ?_⟩⟩
  · rw [hl]; exact (h es he).lt p hp
  · obtain ⟨a, b, _, e1⟩ := (h es he).nm e hx
    rw [e1]; exact nameP_ok _ _
/-- the state behind the world's loop -/
def LawA2 (g : Heap) (L : Addr) (ws : Wld) (tot : Int) (s₀ s : Shared) : Prop :=
  ∃ h tk m oW oF oR rest W, s = { s₀ with heap := h, toks := tk } ∧ Fr g L h m ∧ News g L h ((L + 1 + 1 + 1, oR) :: (L + 1 + 1, oF) :: (L + 1, oW) :: rest) ∧ AllNe (L + 1 + 1 + 1) rest ∧ AllNe (L + 1 + 1) rest ∧ AllNe (L + 1) rest ∧
    oW.data = .cell (some (.ref W)) ∧ oF.data = .cell none ∧ oR.data = .cell none ∧ (∃ t, m (Str.ofString "n") = some (.int (ws.length : Int) t)) ∧ (∃ t, m (Str.ofString "total") = some (.int tot t)) ∧ WldIn rest W ws
theorem eq_nilN {prog : Program} {w : World} {A : Around} {E : Value → Shared → Prop} {s : Shared} {h₀ : Heap} {L a b : Addr} {news : Ledger} {vs : List Value} {i j : Nat} {Q : Value → Shared → Prop} (N : News h₀ L s.heap news) (ma : (a, listOf (List.toArray vs) i) ∈ news) (mb : (b, listOf #[] j) ∈ news) (hu : A.units < cLine)
    (h : Q (.bool (vs.length == 0)) s) : wpAny (model prog w) A (compareOp .Eq (.ref a) (.ref b)) Q E s := by
  have ha : s.heap.IsList a (List.toArray vs) := ⟨_, (N _ ma).1, rfl, _, rfl⟩
  have hb : s.heap.IsList b #[] := ⟨_, (N _ mb).1, rfl, _, rfl⟩
  by_cases e : vs.length = 0
  · have z := SeqAt.RcAt.lists (e := fun _ => true) ha hb (by simpa using e) hu (fun j h1 h2 => absurd h2 (by simp)) prog w E Q
    refine z ?_
    have e2 : vs = [] := List.eq_nil_of_length_eq_zero e
    subst e2
    exact h
  · refine SeqAt.RcAt.lists_lengths ha hb (by simpa using e) hu prog w E Q ?_
    have : (vs.length == 0) = false := by simpa using e
    rw [this] at h
    exact h
def moreV : List Value := [.int 1 365, .int 2 366, .int 2 367, .int 0 368, .int 0 369, .int 3 370, .int 3 371, .int 1 372, .int 2 373, .int 0 374]
def moreN : List Int := [1, 2, 2, 0, 0, 3, 3, 1, 2, 0]
theorem more_list {p : Params} {g : Heap} (X : (hd.heap_39 p).In g) : g.IsList 141 (List.toArray moreV) := ⟨_, X 141 ⟨.type "list", none, .seq (List.toArray moreV) 0, #[]⟩ (by with_unfolding_all rfl), rfl, _, rfl⟩
theorem more_ints : IntsAre moreV moreN := .cons _ _ (.cons _ _ (.cons _ _ (.cons _ _ (.cons _ _ (.cons _ _ (.cons _ _ (.cons _ _ (.cons _ _ (.cons _ _ .nil)))))))))
local macro_rules | `(tactic| walk_at "mine.room") => `(tactic| first
  | omega
  | ((try simp only [depth_under_make, depth_under_kw, depth_in1, depth_deeper, depth_caller]); (try dsimp only [ktrTop]); omega)
  | ((have hcL9 := cLine_is); (try simp only [units_in1, units_deeper, Around.mark_units, units_caller] at *); (try dsimp only [ktrTop] at *); omega))
local macro_rules | `(tactic| k_all) => `(tactic| first | assumption | exact AllNe.mem (by assumption))
local macro_rules | `(tactic| walk_at "mine.tl") => `(tactic| first | assumption | exact List.Mem.head _ | (refine List.Mem.tail _ ?_; walk_at "mine.tl"))
local macro_rules | `(tactic| walk_at "mine.alln") => `(tactic| first | exact trivial | assumption | (refine And.intro ?_ ?_; (focus (k_ne; done)); walk_at "mine.alln"))
local macro_rules | `(tactic| k_ne) => `(tactic| (refine neN ?_; (try dsimp only); first
  | with_reducible assumption
  | (refine Nat.ne_of_lt ?_; (simp only [*]); done)
  | (refine Nat.ne_of_gt ?_; (simp only [*]); done)
  | ((simp only [ne_eq, not_false_eq_true, *]); done)
  | (refine Ne.symm ?_; (simp only [ne_eq, not_false_eq_true, *]); done)))
local macro_rules | `(tactic| walk_at "mine.look") => `(tactic| first | with_reducible assumption | exact if_pos rfl | (refine (if_neg (by decide)).trans ?_; walk_at "mine.look") | exact rfl)
local macro_rules | `(tactic| walk_at "eval Name") => `(tactic| (k_here; (with_reducible show wpAny _ _ (eval (Expr.Name _ _) _) _ _ _); k_dflt (refine' nameX_L ?k1 ?k2 ?_ ?k3 ?k4 ?k5; (case k3 => exact rfl); (case k4 => exact rfl); (case k5 => decide); (case k1 => k_asm); (case k2 => walk_at "mine.look"); k_whole)))
local macro_rules | `(tactic| walk_at "mine.memr") => `(tactic| first | with_reducible assumption | with_reducible exact List.mem_cons_self | ((with_reducible refine List.mem_cons_of_mem _ ?_); walk_at "mine.memr"))
local macro_rules | `(tactic| walk_at "mine.mem") => `(tactic| first | walk_at "mine.memr" | k_mem | walk_at "mine.tl")
local macro_rules | `(tactic| walk_at "mine.up") => `(tactic| first | with_reducible exact fun _ h => h | with_reducible assumption | ((with_reducible refine sub_up ?_); walk_at "mine.up"))
local macro_rules | `(tactic| walk_at "mine.sub") => `(tactic| first | with_reducible exact sub_nil | ((with_reducible refine sub_cons ?_ ?_); (focus (walk_at "mine.mem"; done)); walk_at "mine.sub") | walk_at "mine.up")
local macro_rules | `(tactic| walk_at "subscriptTail Name Constant ref int") => `(tactic| (k_here; (with_reducible refine Hold.out ?_)))
local macro_rules | `(tactic| walk_at "compareOp Eq ref ref") => `(tactic| (k_here; (with_reducible refine Hold.out ?_)))
local macro_rules | `(tactic| walk_at "setItem ref int") => `(tactic| (k_here; (with_reducible refine Hold.out ?_)))
local macro_rules | `(tactic| walk_at "setItem ref int ref") => `(tactic| (k_here; (with_reducible refine Hold.out ?_)))
local macro_rules | `(tactic| walk_at "newList") => `(tactic| (k_here; (with_reducible refine Hold.out ?_)))
local macro_rules | `(tactic| walk_at "binaryOp Add ref ref") => `(tactic| (k_here; (with_reducible refine Hold.out ?_)))
local macro_rules | `(tactic| walk_at "subscriptTail Name Slice ref ref") => `(tactic| (k_here; (with_reducible refine Hold.out ?_)))
local macro_rules | `(tactic| walk_at "subscriptTail Name BinOp ref int") => `(tactic| (k_here; (with_reducible refine Hold.out ?_)))
local macro_rules | `(tactic| walk_at "subscriptTail Name Name ref int") => `(tactic| (k_here; (with_reducible refine Hold.out ?_)))
local macro_rules | `(tactic| walk_at "subscriptTail Subscript Name Name BinOp ref int") => `(tactic| (k_here; (with_reducible refine Hold.out ?_)))
local macro_rules | `(tactic| walk_at "subscriptTail Subscript BinOp ref int") => `(tactic| (k_here; (with_reducible refine Hold.out ?_)))
local macro_rules | `(tactic| walk_at "call builtin:sum") => `(tactic| (k_here; (with_reducible refine Hold.out ?_)))
local macro_rules | `(tactic| walk_at "call builtin:sum") => `(tactic| (k_here; (with_reducible refine Hold.out ?_)))
local macro_rules | `(tactic| walk_at "exec For") => `(tactic| (k_here; (with_reducible refine Hold.out ?_)))
local macro_rules | `(tactic| walk_at "exec For Name Call cons nil") => `(tactic| (k_here; (with_reducible refine Hold.out ?_)))
local macro_rules | `(tactic| walk_at "pyIter ref") => `(tactic| (k_here; (with_reducible refine Hold.out ?_)))
local macro_rules | `(tactic| walk_at "execs cons") => `(tactic| (k_here; (with_reducible show wpAny _ _ (execs (Stmt.Assign (Expr.Name (Str.ofString "first") _ :: _) _ _ :: _) _) _ _ _); (with_reducible refine Hold.out ?_)))

set_option maxHeartbeats 40000000 in
theorem law_a2 {w : World} {fa L : Addr} {cd : Value} {base g : Heap} {p : Program} {loose : List Str} {mean : ExcName → Option Value} {mg mb : Str → Option Value} {s₀ s : Shared} {ws : Wld} {tot : Int}
    (B : Below callerA base [] g) (X : (hd.heap_39 w.params).In g) (T : Top p loose mean mg mb g) (hw : WldOk ws) (hm : WldNm ws) (hJ : LawA2 g L ws tot s₀ s)
    (hC : ∀ s' oct st, LawW ws st → LawB g L ws oct st s₀ s' → wpAny (model PySem.Challenge.rw_ab6012_01.row.prog w) (callerA.deeper (lawEnv L fa cd)) (execs (lawBody.drop 8) (lawEnv L fa cd)) (LawEnd g s₀) (fun _ _ => False) s') :
    wpAny (model PySem.Challenge.rw_ab6012_01.row.prog w) (callerA.deeper (lawEnv L fa cd)) (execs (lawBody.drop 6) (lawEnv L fa cd)) (LawEnd g s₀) (fun _ _ => False) s := by
  revert X
  k_fill
  intro X
  obtain ⟨h, tk, m, oW, oF, oR, rest, W, rfl, F, N, hR, hF, hW, cW, cF, cR, ⟨tn, hmn⟩, ⟨tt, hmt⟩, hWI⟩ := hJ
  obtain ⟨its, hS, hst⟩ := starts_at X
  have hy0 := Int.fmod_nonneg_of_pos (Int.fdiv tot 8) (b := 4) (by decide)
  have hy1 := Int.fmod_lt_of_pos (Int.fdiv tot 8) (b := 4) (by decide)
  dsimp only [lawBody, lawDef, lawEnv, lawScope, PySem.Challenge.pw_ab6012_01, List.getLast?, List.getLast, Option.getD, List.drop] at hC ⊢
  k_steps
  refine Hold.mk ?_
  with_reducible rename Fr _ _ _ _ => F1
  with_reducible rename News _ _ _ _ => N1
  obtain ⟨st, tst, est, hsm⟩ := hst (Int.fmod (Int.fdiv tot 8) 4).toNat (by omega)
  refine tup_at (F1.tup hS) est (by omega) (by omega) ?_ (by with_unfolding_all rfl)
  k_steps
  refine Hold.mk ?_
  with_reducible rename Fr _ _ _ _ => F2
  with_reducible rename News _ _ _ _ => N2
  exact hC _ _ st ⟨hsm, hw, hm⟩ ⟨_, _, _, oW, oF, oR, rest, W, none, none, rfl, F2, news_sub N2 (by walk_at "mine.sub"), hR, hF, hW, cW, cF, cR, ⟨by walk_at "mine.look", ⟨_, by walk_at "mine.look"⟩, ⟨_, by walk_at "mine.look"⟩⟩, hWI⟩
local macro_rules | `(tactic| walk_at "execs cons") => `(tactic| (k_here; (with_reducible show wpAny _ _ (execs (Stmt.Assign (Expr.Name (Str.ofString "octets") _ :: _) _ _ :: _) _) _ _ _); (with_reducible refine Hold.out ?_)))

set_option maxHeartbeats 40000000 in
theorem law_a1 {w : World} {fa L S : Addr} {cd : Value} {base g : Heap} {p : Program} {loose : List Str} {mean : ExcName → Option Value} {mg mb : Str → Option Value} {s₀ s : Shared} {vs : List Value} {xs : List Int}
    (B : Below callerA base [] g) (X : (hd.heap_39 w.params).In g) (T : Top p loose mean mg mb g) (hS : g.IsList S vs.toArray) (hI : IntsAre vs xs) (hx : xs.length ≤ 63) (hJ : LawA g L S s₀ s)
    (hC : ∀ s' ws tot, WldOk ws → WldNm ws → LawA2 g L ws tot s₀ s' → wpAny (model PySem.Challenge.rw_ab6012_01.row.prog w) (callerA.deeper (lawEnv L fa cd)) (execs (lawBody.drop 6) (lawEnv L fa cd)) (LawEnd g s₀) (fun _ _ => False) s') :
    wpAny (model PySem.Challenge.rw_ab6012_01.row.prog w) (callerA.deeper (lawEnv L fa cd)) (execs (lawBody.drop 0) (lawEnv L fa cd)) (LawEnd g s₀) (fun _ _ => False) s := by
  revert X
  k_fill
  intro X

  obtain ⟨h, tk, m, oW, oF, oR, rfl, F, N, cW, cF, cR, hm⟩ := hJ
  dsimp only [lawBody, lawDef, lawEnv, lawScope, PySem.Challenge.pw_ab6012_01, List.getLast?, List.getLast, Option.getD, List.drop] at hC ⊢
  have hM := more_list X
  have hvl := IntsAre.length hI
  k_steps
  refine Hold.mk ?_
  refine kmk_add_lit F N (F.lst hS) (F.lst hM) rfl ?_ (by rw [sizeLine_eq]; show vs.length + 10 ≤ _; omega)
  intro D' h' F' N' l1
  k_lt l1
  have hnum : IntsAre (vs ++ moreV) (xs ++ moreN) := IntsAre.append hI more_ints
  k_steps
  refine Hold.mk ?_
  refine kmk_slice_ints F' N' (isListN N' (.head _)) IsPart.none (IsPart.int _ _) hnum (kmk_upto hnum (by decide)) rfl ?_ (by with_unfolding_all rfl) (by intro _; with_unfolding_all rfl) (by rw [List.size_toArray, List.length_append, sizeLine_eq]; show vs.length + 10 ≤ _; omega)
  clear F' N'
  intro Dn ns h' F' N' l2 hns hnl _
  k_lt l2
  have hnl : ((xs ++ moreN).take (10 : Int).toNat).length = 10 := by
    rw [List.length_take, List.length_append]
    show min 10 (xs.length + 10) = 10
    omega
  generalize (xs ++ moreN).take (10 : Int).toNat = nums at hns hnl
  k_steps
  refine Hold.mk ?_
  with_reducible rename Fr _ _ _ _ => F1
  with_reducible rename News _ _ _ _ => N1
  refine LSm.sum_ints F1 N1 rfl (F1.lst hS) hI ?_
  clear F1 N1
  intro h' tk' t1 F' N'
  generalize xs.sum = tot
  k_steps
  refine Hold.mk ?_
  with_reducible rename Fr _ _ _ _ => F1
  with_reducible rename News _ _ _ _ => N1
  refine newList_N F1 N1 ?_
  clear F1 N1
  intro Wd h' F' N' l7
  k_lt l7
  k_steps
  have hq2 : 2 ≤ Int.fmod tot 4 + 2 := by have := Int.fmod_nonneg_of_pos tot (b := 4) (by decide); omega
  have hq5 : Int.fmod tot 4 + 2 ≤ 5 := by have := Int.fmod_lt_of_pos tot (b := 4) (by decide); omega
  generalize Int.fmod tot 4 + 2 = q at *
  obtain ⟨n, rfl⟩ : ∃ n : Nat, q = (n : Int) := ⟨q.toNat, by omega⟩
  have h2 : 2 ≤ n := by omega
  have h5 : n ≤ 5 := by omega
  have hsm : Builtin.Range.small 0 (n : Int) 1 = true := by
    rcases (by omega : n = 2 ∨ n = 3 ∨ n = 4 ∨ n = 5) with e | e | e | e <;> rw [e] <;> decide
  refine Hold.mk ?_
  refine wpAny_noRaise (wpAny_For ?_)
  refine wpAny_noRaise ?_
  k_steps
  refine Hold.mk ?_
  with_reducible rename Fr _ _ _ _ => F6
  with_reducible rename News _ _ _ _ => N6
  rename IsRange _ _ _ _ _ _ _ _ => hr
  with_reducible rename Obj.data _ = Data.cell (some _) => hcw
  obtain ⟨oW', N7, hcw'⟩ : ∃ oW', News g L _ [(Wd, listOf #[] 0), (Dn, listOf (List.toArray ns) 0), (D', listOf (List.toArray (vs ++ moreV)) 0), (L + 1 + 1 + 1, oR), (L + 1 + 1, oF), (L + 1, oW')] ∧ oW'.data = .cell (some (.ref Wd)) := ⟨_, N6, hcw⟩
  clear N6 hcw
  have e1 : @Ne Nat Wd Dn := Nat.ne_of_gt l7.1
  have e2 : @Ne Nat Wd (L + 1 + 1 + 1) := Nat.ne_of_gt l7.2.2.1
  have e3 : @Ne Nat Wd (L + 1 + 1) := Nat.ne_of_gt l7.2.2.2.1
  have e4 : @Ne Nat Wd (L + 1) := Nat.ne_of_gt l7.2.2.2.2
  have e5 : @Ne Nat Dn (L + 1 + 1 + 1) := Nat.ne_of_gt l2.2.1
  have e6 : @Ne Nat Dn (L + 1 + 1) := Nat.ne_of_gt l2.2.2.1
  have e7 : @Ne Nat Dn (L + 1) := Nat.ne_of_gt l2.2.2.2
  refine iter_range (n := n) (fun i m news => ∃ vw kw wsI rest', news = (Wd, listOf (List.toArray vw) kw) :: (L + 1 + 1 + 1, oR) :: (L + 1 + 1, oF) :: (L + 1, oW') :: (Dn, listOf (List.toArray ns) 0) :: rest' ∧ AllNe Wd rest' ∧ AllNe (L + 1 + 1 + 1) rest' ∧ AllNe (L + 1 + 1) rest' ∧ AllNe (L + 1) rest' ∧ AllNe Dn rest' ∧
      (∃ t, m (Str.ofString "n") = some (.int (n : Int) t)) ∧ m (Str.ofString "numbers") = some (.ref Dn) ∧ (∃ t, m (Str.ofString "total") = some (.int tot t)) ∧ All2 (EntsIn rest') vw wsI ∧ wsI.length = i ∧ ∀ es ∈ wsI, EntsOk n 2 es)
    rfl hr hsm (range_size n) F6 (news_sub N7 (by walk_at "mine.sub")) ⟨[], 0, [], [], rfl, trivial, trivial, trivial, trivial, trivial, ⟨_, by walk_at "mine.look"⟩, by walk_at "mine.look", ⟨_, by walk_at "mine.look"⟩, .nil, rfl, fun _ h => absurd h List.not_mem_nil⟩ ?turn ?done
  case done =>
    rintro m' news h tk ⟨vw, kw, wsI, rest', rfl, aW, aR, aF, aC, aD, ⟨tn, j1⟩, j2, ⟨tt, j3⟩, aE, hwl, hok⟩ F N
    dsimp only
    obtain ⟨es0, wr, ews⟩ : ∃ es0 wr, wsI = es0 :: wr := by
      cases wsI with
      | nil => simp at hwl; omega
      | cons a b => exact ⟨a, b, rfl⟩
    subst ews
    obtain ⟨v0, vr, rfl, ⟨E0, e0s, k0, rfl, m0, a0⟩, ar⟩ := aE.cons_inv
    have hwo := wld_ok h2 h5 hwl hok
    k_steps
    refine Hold.mk ?_
    with_reducible rename Fr _ _ _ _ => F1
    with_reducible rename News _ _ _ _ => N1
    refine item_list (isListN N1 (by walk_at "mine.mem")) (by omega) (by omega) (x := .ref E0) (by rfl) ?_ (by with_unfolding_all rfl)
    k_steps
    refine Hold.mk ?_
    with_reducible rename Fr _ _ _ _ => F1
    with_reducible rename News _ _ _ _ => N1
    refine newList_N F1 N1 ?_
    clear F1 N1
    intro Z h' F' N' l9
    k_steps
    refine Hold.mk ?_
    with_reducible rename Fr _ _ _ _ => F1
    with_reducible rename News _ _ _ _ => N1
    refine eq_nilN N1 (by walk_at "mine.mem") (by walk_at "mine.mem") (by walk_at "mine.room") ?_
    k_steps
    · refine Hold.mk ?_
      with_reducible rename Fr _ _ _ _ => F1
      with_reducible rename News _ _ _ _ => N1
      refine newList_1 F1 N1 ?_
      clear F1 N1
      intro A0 h' F' N' l8
      have g1 : @Ne Nat A0 Wd := Nat.ne_of_gt (l8 (Wd, _) (by walk_at "mine.mem"))
      have g2 : @Ne Nat A0 (L + 1 + 1 + 1) := Nat.ne_of_gt (l8 (L + 1 + 1 + 1, oR) (by walk_at "mine.mem"))
      have g3 : @Ne Nat A0 (L + 1 + 1) := Nat.ne_of_gt (l8 (L + 1 + 1, oF) (by walk_at "mine.mem"))
      have g4 : @Ne Nat A0 (L + 1) := Nat.ne_of_gt (l8 (L + 1, oW') (by walk_at "mine.mem"))
      clear l8
      k_steps
      refine Hold.mk ?_
      with_reducible rename Fr _ _ _ _ => F1
      with_reducible rename News _ _ _ _ => N1
      obtain ⟨T, ta, tb, N4, q1, q2, q3, q4⟩ : ∃ T ta tb, News g L _ ((A0, listOf (List.toArray [.ref T]) 0) :: (T, tup2 (.str (Str.ofString "a") ta) (.int 1 tb) 0) :: (Wd, listOf (List.toArray (.ref E0 :: vr)) kw) :: (L + 1 + 1 + 1, oR) :: (L + 1 + 1, oF) :: (L + 1, oW') :: rest') ∧ @Ne Nat T Wd ∧ @Ne Nat T (L + 1 + 1 + 1) ∧ @Ne Nat T (L + 1 + 1) ∧ @Ne Nat T (L + 1) :=
        ⟨_, _, _, news_sub N1 (by walk_at "mine.sub"), by k_ne, by k_ne, by k_ne, by k_ne⟩
      clear N1
      refine set_N (k := 0) (pre := [(A0, _), (T, _)]) F1 N4 ?pre ?post (by simp) (by omega) ?_
      case pre =>
        intro p hp
        simp only [List.mem_cons, List.not_mem_nil, or_false] at hp
        rcases hp with rfl | rfl
        · exact g1
        · exact q1
      case post =>
        intro p hp
        simp only [List.mem_cons] at hp
        rcases hp with rfl | rfl | rfl | hp
        · exact e2.symm
        · exact e3.symm
        · exact e4.symm
        · exact aW.mem p hp
      clear F1 N4
      intro h' F' N'
      have hwo2 := wld_ok (ws := [(Str.ofString "a", 1)] :: wr) h2 h5 hwl (fun es he => by
        rcases List.mem_cons.mp he with rfl | he
        · exact ((EntsOk.nil n 0).snoc (by decide) 0 1 (by omega)).up
        · exact hok es (.tail _ he))
      have N9 : News g L h' ((L + 1 + 1 + 1, oR) :: (L + 1 + 1, oF) :: (L + 1, oW') :: (Wd, listOf (List.toArray (.ref A0 :: vr)) kw) :: (A0, listOf (List.toArray [.ref T]) 0) :: (T, tup2 (.str (Str.ofString "a") ta) (.int 1 tb) 0) :: rest') := news_sub N' fun p hp => by
        simp only [List.mem_cons, List.mem_append, List.not_mem_nil, or_false, List.cons_append, List.nil_append, List.set_cons_zero] at hp ⊢
        rcases hp with hp | hp | hp | hp | hp | hp | hp <;> simp only [hp, true_or, or_true]
      clear N'
      k_steps
      refine Hold.mk ?_
      with_reducible rename Fr _ _ _ _ => F1
      with_reducible rename News _ _ _ _ => N1
      exact hC _ _ tot hwo2.1 hwo2.2 ⟨_, _, _, oW', oF, oR, (Wd, listOf (List.toArray (.ref A0 :: vr)) kw) :: (A0, listOf (List.toArray [.ref T]) 0) :: (T, tup2 (.str (Str.ofString "a") ta) (.int 1 tb) 0) :: rest', Wd, rfl, F1, news_sub N1 (by walk_at "mine.sub"), ⟨e2, g2, q2, aR⟩, ⟨e3, g3, q3, aF⟩, ⟨e4, g4, q4, aC⟩, hcw', cF, cR, ⟨tn, by rw [show (([(Str.ofString "a", 1)] :: wr : Wld).length : Int) = (n : Int) by rw [← hwl]; rfl]; walk_at "mine.look"⟩, ⟨tt, by walk_at "mine.look"⟩,
        ⟨_, kw, .head _, .cons ⟨A0, _, _, rfl, .tail _ (.head _), .cons ⟨T, 0, ta, tb, rfl, .tail _ (.tail _ (.head _))⟩ .nil⟩ (ar.mono fun _ _ x => x.mono fun p hp => .tail _ (.tail _ (.tail _ hp)))⟩⟩
    · refine Hold.mk ?_
      with_reducible rename Fr _ _ _ _ => F1
      with_reducible rename News _ _ _ _ => N1
      refine hC _ _ tot hwo.1 hwo.2 ⟨_, _, _, oW', oF, oR, (Wd, listOf (List.toArray (.ref E0 :: vr)) kw) :: rest', Wd, rfl, F1, news_sub N1 (by walk_at "mine.sub"), ⟨e2, aR⟩, ⟨e3, aF⟩, ⟨e4, aC⟩, hcw', cF, cR, ⟨tn, by rw [hwl]; walk_at "mine.look"⟩, ⟨tt, by walk_at "mine.look"⟩, ⟨_, kw, .head _, aE.mono fun _ _ x => x.mono fun p hp => .tail _ hp⟩⟩
  case turn =>
    rintro I i t m' news oI h tk hI hi ⟨vw, kw, wsI, rest', rfl, aW, aR, aF, aC, aD, ⟨tn, j1⟩, j2, ⟨tt, j3⟩, aE, hwl, hok⟩ off F N
    have o1 : @Ne Nat Wd I := off _ (.head _)
    have o2 : @Ne Nat (L + 1 + 1 + 1) I := off _ (.tail _ (.head _))
    have o3 : @Ne Nat (L + 1 + 1) I := off _ (.tail _ (.tail _ (.head _)))
    have o4 : @Ne Nat (L + 1) I := off _ (.tail _ (.tail _ (.tail _ (.head _))))
    have o5 : @Ne Nat Dn I := off _ (.tail _ (.tail _ (.tail _ (.tail _ (.head _)))))
    have o6 : AllNe I rest' := allNe_of fun p hp => off p (.tail _ (.tail _ (.tail _ (.tail _ (.tail _ hp)))))
    k_steps
    refine Hold.mk ?_
    with_reducible rename Fr _ _ _ _ => F1
    with_reducible rename News _ _ _ _ => N1
    refine newList_N F1 N1 ?_
    clear F1 N1
    intro E h' F' N' l9
    have n1 : @Ne Nat E I := Nat.ne_of_gt (l9 _ (.head _))
    have n2 : @Ne Nat E Wd := Nat.ne_of_gt (l9 _ (.tail _ (.head _)))
    have n3 : @Ne Nat E (L + 1 + 1 + 1) := Nat.ne_of_gt (l9 _ (.tail _ (.tail _ (.head _))))
    have n4 : @Ne Nat E (L + 1 + 1) := Nat.ne_of_gt (l9 _ (.tail _ (.tail _ (.tail _ (.head _)))))
    have n5 : @Ne Nat E (L + 1) := Nat.ne_of_gt (l9 _ (.tail _ (.tail _ (.tail _ (.tail _ (.head _))))))
    have n6 : @Ne Nat E Dn := Nat.ne_of_gt (l9 _ (.tail _ (.tail _ (.tail _ (.tail _ (.tail _ (.head _)))))))
    have n7 : AllNe E rest' := allNe_of fun p hp => Nat.ne_of_lt (l9 p (.tail _ (.tail _ (.tail _ (.tail _ (.tail _ (.tail _ hp)))))))
    clear l9
    k_steps
    refine Hold.mk ?_
    refine wpAny_noRaise (wpAny_For ?_)
    refine wpAny_noRaise ?_
    k_steps
    refine Hold.mk ?_
    with_reducible rename Fr _ _ _ _ => F6
    with_reducible rename News _ _ _ _ => N6
    with_reducible rename IsRange _ _ _ _ _ _ _ _ => hr
    refine iter_range (n := 2) (fun j m'' news => ∃ ve ke es r2, news = (E, listOf (List.toArray ve) ke) :: (I, oI) :: (Wd, listOf (List.toArray vw) kw) :: (L + 1 + 1 + 1, oR) :: (L + 1 + 1, oF) :: (L + 1, oW') :: (Dn, listOf (List.toArray ns) 0) :: r2 ∧ (∀ p ∈ rest', p ∈ r2) ∧ AllNe E r2 ∧ AllNe I r2 ∧ AllNe Wd r2 ∧ AllNe (L + 1 + 1 + 1) r2 ∧ AllNe (L + 1 + 1) r2 ∧ AllNe (L + 1) r2 ∧ AllNe Dn r2 ∧
        (∃ t, m'' (Str.ofString "n") = some (.int (n : Int) t)) ∧ m'' (Str.ofString "numbers") = some (.ref Dn) ∧ (∃ t, m'' (Str.ofString "total") = some (.int tot t)) ∧ m'' (Str.ofString "entries") = some (.ref E) ∧ m'' (Str.ofString "k") = some (.int (0 + (i : Int)) t) ∧ All2 (EntIn r2) ve es ∧ EntsOk n j es)
      rfl hr (by decide) (by decide) F6 N6 ⟨[], 0, [], rest', rfl, fun _ h => h, n7, o6, aW, aR, aF, aC, aD, ⟨_, by walk_at "mine.look"⟩, by walk_at "mine.look", ⟨_, by walk_at "mine.look"⟩, by walk_at "mine.look", by walk_at "mine.look", .nil, EntsOk.nil n 0⟩ ?iturn ?idone
    case idone =>
      rintro m'' news h tk ⟨ve, ke, es, r2, rfl, hsub, b1, b2, b3, b4, b5, b6, b7, ⟨tn, j1⟩, j2, ⟨tt, j3⟩, j4, j5, aEs, hes⟩ F N
      dsimp only
      have hvw : vw.length ≤ 5 := by have := aE.len; omega
      k_steps
      with_reducible rename Fr _ _ _ _ => F2
      with_reducible rename News _ _ _ _ => N2
      refine UnrEnd.intro F2 N2 ((Wd, listOf (List.toArray (vw ++ [.ref E])) (kw + 1)) :: (L + 1 + 1 + 1, oR) :: (L + 1 + 1, oF) :: (L + 1, oW') :: (Dn, listOf (List.toArray ns) 0) :: (E, listOf (List.toArray ve) ke) :: r2) ?sub ?off
        ⟨vw ++ [.ref E], kw + 1, wsI ++ [es], (E, _) :: r2, rfl, ⟨n2, b3⟩, ⟨n3, b4⟩, ⟨n4, b5⟩, ⟨n5, b6⟩, ⟨n6, b7⟩, ⟨_, by walk_at "mine.look"⟩, by walk_at "mine.look", ⟨_, by walk_at "mine.look"⟩, (aE.mono fun _ _ x => x.mono fun p hp => .tail _ (hsub p hp)).snoc ⟨E, ve, ke, rfl, .head _, aEs.mono fun _ _ x => x.mono fun p hp => .tail _ hp⟩, by rw [List.length_append, hwl]; rfl, fun es' he => ?good⟩
      case sub => rw [← List.push_toArray]; walk_at "mine.sub"
      case off =>
        intro p hp
        simp only [List.mem_cons] at hp
        rcases hp with rfl | rfl | rfl | rfl | rfl | rfl | hp
        · exact o1
        · exact o2
        · exact o3
        · exact o4
        · exact o5
        · exact n1
        · exact b2.mem p hp
      case good =>
        rcases List.mem_append.mp he with he | he
        · exact hok es' he
        · rw [List.mem_singleton.mp he]; exact hes
    case iturn =>
      rintro I₂ j t₂ m'' news oI₂ h tk hI₂ hj ⟨ve, ke, es, r2, rfl, hsub, b1, b2, b3, b4, b5, b6, b7, ⟨tn, j1⟩, j2, ⟨tt, j3⟩, j4, j5, aEs, hes⟩ off₂ F N
      have p1 : @Ne Nat E I₂ := off₂ _ (.head _)
      have p2 : @Ne Nat I I₂ := off₂ _ (.tail _ (.head _))
      have p3 : @Ne Nat Wd I₂ := off₂ _ (.tail _ (.tail _ (.head _)))
      have p4 : @Ne Nat (L + 1 + 1 + 1) I₂ := off₂ _ (.tail _ (.tail _ (.tail _ (.head _))))
      have p5 : @Ne Nat (L + 1 + 1) I₂ := off₂ _ (.tail _ (.tail _ (.tail _ (.tail _ (.head _)))))
      have p6 : @Ne Nat (L + 1) I₂ := off₂ _ (.tail _ (.tail _ (.tail _ (.tail _ (.tail _ (.head _))))))
      have p7 : @Ne Nat Dn I₂ := off₂ _ (.tail _ (.tail _ (.tail _ (.tail _ (.tail _ (.tail _ (.head _)))))))
      have p8 : AllNe I₂ r2 := allNe_of fun p hp => off₂ p (.tail _ (.tail _ (.tail _ (.tail _ (.tail _ (.tail _ (.tail _ hp)))))))
      have hix : 2 * i + j < nums.length := by omega
      obtain ⟨tx, ex⟩ := ints_at2 hns (List.getElem?_eq_getElem hix)
      generalize nums[2 * i + j] = x at ex
      obtain ⟨a139, its139, t139, g139, u139, w139⟩ := nameTab_at X hj
      have hvl' : ve.length ≤ 2 := by have := aEs.len; have := hes.len; omega
      have hx0 := Int.fmod_nonneg_of_pos x (b := (n : Int) + 1) (by omega)
      have hx1 := Int.fmod_lt_of_pos x (b := (n : Int) + 1) (by omega)
      have hy0 := Int.fmod_nonneg_of_pos (Int.fdiv x ((n : Int) + 1)) (b := 2) (by decide)
      have hy1 := Int.fmod_lt_of_pos (Int.fdiv x ((n : Int) + 1)) (b := 2) (by decide)
      k_steps
      refine Hold.mk ?_
      with_reducible rename Fr _ _ _ _ => F1
      with_reducible rename News _ _ _ _ => N1
      refine item_list (isListN N1 (by walk_at "mine.mem")) (by omega) (by omega) (x := .int x tx) (by rw [List.getElem?_toArray, show (2 * (0 + (i : Int)) + (0 + (j : Int))).toNat = 2 * i + j by omega]; exact ex) ?_ (by with_unfolding_all rfl)
      k_steps
      · refine Hold.mk ?_
        with_reducible rename Fr _ _ _ _ => F2
        with_reducible rename News _ _ _ _ => N2
        refine tup_at (F2.tup t139) g139 (by omega) (by omega) ?_ (by with_unfolding_all rfl)
        obtain ⟨tnm, enm⟩ := w139 (Int.fmod (Int.fdiv x ((n : Int) + 1)) 2).toNat (by omega)
        k_steps
        refine Hold.mk ?_
        refine tup_at (F2.tup u139) enm (by omega) (by omega) ?_ (by with_unfolding_all rfl)
        k_steps
        with_reducible rename Fr _ _ _ _ => F3
        with_reducible rename News _ _ _ _ => N3
        obtain ⟨T, tq, N4, lT⟩ : ∃ T tq, News g L _ ((T, tup2 (.str (nameP j (Int.fmod (Int.fdiv x ((n : Int) + 1)) 2).toNat) tnm) (.int (Int.fmod x ((n : Int) + 1)) tq) 0) :: (I₂, oI₂) :: (E, listOf (List.toArray (ve ++ [.ref T])) (ke + 1)) :: (I, oI) :: (Wd, listOf (List.toArray vw) kw) :: (L + 1 + 1 + 1, oR) :: (L + 1 + 1, oF) :: (L + 1, oW') :: (Dn, listOf (List.toArray ns) 0) :: r2) ∧
          (I₂ < T ∧ E < T ∧ I < T ∧ Wd < T ∧ L + 1 + 1 + 1 < T ∧ L + 1 + 1 < T ∧ L + 1 < T ∧ Dn < T ∧ AllLt T r2) := ⟨_, _, by rw [List.push_toArray] at N3; exact N3, by assumption⟩
        obtain ⟨q1, q2, q3, q4, q5, q6, q7, q8, _⟩ := lT
        obtain ⟨kk, hkk⟩ : ∃ kk : Nat, Int.fmod x ((n : Int) + 1) = (kk : Int) := ⟨(Int.fmod x ((n : Int) + 1)).toNat, by omega⟩
        have hkn : kk < n := by omega
        rw [hkk] at N4
        refine UnrEnd.intro F3 N4 ((E, listOf (List.toArray (ve ++ [.ref T])) (ke + 1)) :: (I, oI) :: (Wd, listOf (List.toArray vw) kw) :: (L + 1 + 1 + 1, oR) :: (L + 1 + 1, oF) :: (L + 1, oW') :: (Dn, listOf (List.toArray ns) 0) :: (T, tup2 (.str (nameP j (Int.fmod (Int.fdiv x ((n : Int) + 1)) 2).toNat) tnm) (.int (kk : Int) tq) 0) :: r2) (by walk_at "mine.sub") ?off
          ⟨_, _, es ++ [(nameP j (Int.fmod (Int.fdiv x ((n : Int) + 1)) 2).toNat, kk)], (T, _) :: r2, rfl, fun p hp => .tail _ (hsub p hp), ⟨Nat.ne_of_gt q2, b1⟩, ⟨Nat.ne_of_gt q3, b2⟩, ⟨Nat.ne_of_gt q4, b3⟩, ⟨Nat.ne_of_gt q5, b4⟩, ⟨Nat.ne_of_gt q6, b5⟩, ⟨Nat.ne_of_gt q7, b6⟩, ⟨Nat.ne_of_gt q8, b7⟩, ⟨_, by walk_at "mine.look"⟩, by walk_at "mine.look", ⟨_, by walk_at "mine.look"⟩, by walk_at "mine.look", by walk_at "mine.look",
            (aEs.mono fun _ _ x => x.mono fun p hp => .tail _ hp).snoc ⟨T, 0, tnm, tq, rfl, .head _⟩, hes.snoc hj _ _ hkn⟩
        case off =>
          intro p hp
          simp only [List.mem_cons] at hp
          rcases hp with rfl | rfl | rfl | rfl | rfl | rfl | rfl | rfl | hp
          · exact p1
          · exact p2
          · exact p3
          · exact p4
          · exact p5
          · exact p6
          · exact p7
          · exact Nat.ne_of_gt q1
          · exact p8.mem p hp
      · with_reducible rename Fr _ _ _ _ => F2
        with_reducible rename News _ _ _ _ => N2
        refine UnrEnd.intro F2 N2 ((E, listOf (List.toArray ve) ke) :: (I, oI) :: (Wd, listOf (List.toArray vw) kw) :: (L + 1 + 1 + 1, oR) :: (L + 1 + 1, oF) :: (L + 1, oW') :: (Dn, listOf (List.toArray ns) 0) :: r2) (by walk_at "mine.sub") (fun p hp => off₂ p hp)
          ⟨ve, ke, es, r2, rfl, hsub, b1, b2, b3, b4, b5, b6, b7, ⟨_, by walk_at "mine.look"⟩, by walk_at "mine.look", ⟨_, by walk_at "mine.look"⟩, by walk_at "mine.look", by walk_at "mine.look", aEs, hes.up⟩
end Mine


end

section
open PySem PySem.W PyProof.Rows PySem.Calls PyProof.Rows.LCg
set_option maxRecDepth 100000
namespace Mine
theorem calm_lh : True := by
  w_top off
  trivial
section
open PySem.Spec
theorem goodB {c : ClaimW} {cl : Str → Option Addr} {mean : ExcName → Option Value} {args : List WData} {s₁ s' : Shared} {b : Bool} (k : ∀ a o, s₁.heap.get? a = some o → s'.heap.get? a = some o) (hg : s'.gens = #[]) (hn : ∀ cls, c.raises args cls = false) (hp : c.post args (.bool b) args = true) (hos : s'.os = s₁.os) :
    GoodW c cl mean args s₁ (.ok (.ret (.bool b))) s' := ⟨.inl ⟨.bool b, .bool b, [], rfl, hn, .bool b, hp, unshared_nil⟩, k, hos, hg⟩
end
set_option maxHeartbeats 8000000 in
theorem law_holds (pure : ∀ ws, WldOk ws → WldNm ws → PureL ws) : PySem.Challenge.rw_ab6012_01.Holds := hd (by
  w_strict (
    k_go0
    (all_goals try k_fold)
    refine' wpAny_mono (law_a1 (xs := _) (by assumption) (by assumption) (by assumption) (by assumption) (by assumption) ?hx ?hJ ?hC) ?post ?err
    case err => exact fun _ _ e => e.elim
    case hx => omega
    case hJ =>
      with_reducible rename News _ _ _ _ => N0
      with_reducible rename Fr _ _ _ _ => F0
      exact ⟨_, _, _, _, _, _, rfl, F0, N0, by assumption, by assumption, by assumption, rfl⟩
    case post =>
      rintro f s' ⟨rfl, h', tk', rfl, hk⟩
      show GoodW _ _ _ _ _ (Except.ok (Flow.ret (Value.bool true))) _
      refine goodB hk (by with_reducible assumption) (raisesW_false ?_) ?_ rfl
      · skip
        wrow_none_raised
      · skip
        kc_post
    case hC =>
      intro s1 ws tot hw hm h1
      refine law_a2 (by assumption) (by assumption) (by assumption) hw hm h1 ?_
      intro s2 oct st hl h2
      have pl := pure ws hw hm
      refine law_b (by assumption) (by assumption) (by assumption) hl h2 ?_
      intro s3 h3
      refine law_c (by assumption) (by assumption) (by assumption) hl h3 ?_
      intro s4 h4
      refine law_d (by assumption) (by assumption) (by assumption) hl h4 ?_
      intro s5 h5
      refine law_e (by assumption) (by assumption) (by assumption) hl h5 ?_
      intro s6 h6
      exact law_f (by assumption) (by assumption) (by assumption) hl h6 pl))
end Mine

end

section
open PySem PySem.W PyProof.Rows PySem.Calls
namespace Mine
theorem calm_pu : True := by
  w_top off
  trivial

/-- an entry leads from a to b -/
def Ed (ws : Wld) (a b : Nat) : Prop := ∃ e ∈ ws.getD a [], e.2 = b
inductive RP (ws : Wld) : Nat → Nat → Prop
  | one {a b : Nat} : Ed ws a b → RP ws a b
  | more {a b c : Nat} : RP ws a b → Ed ws b c → RP ws a c
theorem RP.trans {ws : Wld} {a b c : Nat} (h : RP ws a b) (k : RP ws b c) : RP ws a c := by
  induction k with
  | one e => exact .more h e
  | more _ e ih => exact .more ih e
theorem Ed.lt {ws : Wld} (hw : WldOk ws) {a b : Nat} (h : Ed ws a b) : a < ws.length ∧ b < ws.length := by
  obtain ⟨e, he, rfl⟩ := h
  have ha : a < ws.length := by
    rcases Nat.lt_or_ge a ws.length with h | h
    · exact h
    · rw [List.getD_eq_getElem?_getD, List.getElem?_eq_none h] at he
      cases he
  refine ⟨ha, (hw.2.2 _ ?_).2 e he⟩
  rw [List.getD_eq_getElem?_getD, List.getElem?_eq_getElem ha]
  exact List.getElem_mem ha
theorem RP.lt {ws : Wld} (hw : WldOk ws) {a b : Nat} (h : RP ws a b) : a < ws.length ∧ b < ws.length := by
  induction h with
  | one e => exact e.lt hw
  | more _ e ih => exact ⟨ih.1, (e.lt hw).2⟩
/-- a way whose inner nodes lie below m -/
def Vi (ws : Wld) : Nat → Nat → Nat → Prop
  | 0, a, b => Ed ws a b
  | m + 1, a, b => Vi ws m a b ∨ (Vi ws m a m ∧ Vi ws m m b)
theorem Vi.up {ws : Wld} {a b : Nat} : ∀ m, Ed ws a b → Vi ws m a b
  | 0, h => h
  | m + 1, h => .inl (Vi.up m h)
theorem Vi.trans {ws : Wld} : ∀ m a b c, Vi ws m a c → Vi ws m c b → c < m → Vi ws m a b
  | 0, _, _, _, _, _, h => absurd h (Nat.not_lt_zero _)
  | m + 1, a, b, c, h1, h2, hc => by
    by_cases e : c = m
    · subst e
      refine .inr ⟨?_, ?_⟩
      · rcases h1 with h | h
        · exact h
        · exact h.1
      · rcases h2 with h | h
        · exact h
        · exact h.2
    · have hc' : c < m := by omega
      rcases h1 with h1 | ⟨h1, h1'⟩ <;> rcases h2 with h2 | ⟨h2, h2'⟩
      · exact .inl (Vi.trans m a b c h1 h2 hc')
      · exact .inr ⟨Vi.trans m a m c h1 h2 hc', h2'⟩
      · exact .inr ⟨h1, Vi.trans m m b c h1' h2 hc'⟩
      · exact .inr ⟨h1, h2'⟩
theorem RP.vi {ws : Wld} (hw : WldOk ws) {a b : Nat} (h : RP ws a b) : Vi ws ws.length a b := by
  induction h with
  | one e => exact Vi.up _ e
  | more _ e ih => exact Vi.trans _ _ _ _ ih (Vi.up _ e) (e.lt hw).1
theorem get_set {n : Nat} {M : List (List Bool)} (h : Sq n M) {a b : Nat} (ha : a < n) (hb : b < n) (v : Bool) (c d : Nat) : getM (setM M a b v) c d = if c = a ∧ d = b then v else getM M c d := by
  have hl : a < M.length := by rw [h.1]; exact ha
  have hr := (h.row ha).2
  unfold getM setM
  by_cases hc : c = a
  · subst hc
    rw [List.getD_eq_getElem?_getD (l := M.set c _), List.getElem?_set_self hl, Option.getD_some]
    by_cases hd : d = b
    · subst hd
      rw [if_pos ⟨rfl, rfl⟩, List.getD_eq_getElem?_getD, List.getElem?_set_self (by rw [hr]; exact hb)]
      rfl
    · rw [if_neg (fun q => hd q.2), List.getD_eq_getElem?_getD, List.getElem?_set_ne (fun q => hd q.symm), ← List.getD_eq_getElem?_getD]
  · rw [if_neg (fun q => hc q.1), List.getD_eq_getElem?_getD (l := M.set a _), List.getElem?_set_ne (fun q => hc q.symm), ← List.getD_eq_getElem?_getD]
def leM (M M' : List (List Bool)) : Prop := ∀ c d, getM M c d = true → getM M' c d = true
theorem leM.refl (M : List (List Bool)) : leM M M := fun _ _ h => h
theorem leM.trans {M M' M'' : List (List Bool)} (h : leM M M') (k : leM M' M'') : leM M M'' := fun c d x => k c d (h c d x)
theorem fold_le {f : List (List Bool) → Nat → List (List Bool)} {P : List (List Bool) → Prop} : ∀ {l : List Nat} {M : List (List Bool)}, P M → (∀ M x, x ∈ l → P M → P (f M x) ∧ leM M (f M x)) → P (l.foldl f M) ∧ leM M (l.foldl f M)
  | [], M, h, _ => ⟨h, leM.refl M⟩
  | x :: l, M, h, k => by
    have q := k M x (.head _) h
    have r := fold_le (l := l) q.1 fun M y hy => k M y (.tail _ hy)
    exact ⟨r.1, q.2.trans r.2⟩
theorem fold_gain {f : List (List Bool) → Nat → List (List Bool)} {P : List (List Bool) → Prop} : ∀ {l : List Nat} {M : List (List Bool)} {x : Nat}, P M → (∀ M x, x ∈ l → P M → P (f M x) ∧ leM M (f M x)) → x ∈ l → ∃ M', P M' ∧ leM M M' ∧ leM (f M' x) (l.foldl f M)
  | y :: l, M, x, h, k, hx => by
    have q := k M y (.head _) h
    by_cases e : x = y
    · subst e
      exact ⟨M, h, leM.refl M, (fold_le (l := l) q.1 fun M y hy => k M y (.tail _ hy)).2⟩
    · obtain ⟨M', a, b, c⟩ := fold_gain (l := l) q.1 (fun M y hy => k M y (.tail _ hy)) ((List.mem_cons.mp hx).resolve_left e)
      exact ⟨M', a, q.2.trans b, c⟩
section
variable {n m a : Nat}
theorem warB_step (ha : a < n) {b : Nat} (hb : b < n) {M : List (List Bool)} (h : Sq n M) : Sq n (warB m a M b) ∧ leM M (warB m a M b) := by
  refine ⟨h.setM ha _ _, fun c d x => ?_⟩
  unfold warB
  rw [get_set h ha hb]
  split
  · rename_i q
    rw [q.1, q.2] at x
    rw [x]; rfl
  · exact x
theorem warA_step (ha : a < n) {M : List (List Bool)} (h : Sq n M) : Sq n (warA n m M a) ∧ leM M (warA n m M a) :=
  fold_le (P := Sq n) h fun _ _ hx hM => warB_step ha (List.mem_range.mp hx) hM
theorem warM_step {M : List (List Bool)} (h : Sq n M) : Sq n (warM n M m) ∧ leM M (warM n M m) :=
  fold_le (P := Sq n) h fun _ _ hx hM => warA_step (List.mem_range.mp hx) hM
/-- a turn of the table's outermost loop adds what goes over its node -/
theorem warM_gain {b : Nat} (ha : a < n) (hb : b < n) {M : List (List Bool)} (h : Sq n M) (h1 : getM M a m = true) (h2 : getM M m b = true) : getM (warM n M m) a b = true := by
  obtain ⟨M1, s1, l1, g1⟩ := fold_gain (f := warA n m) (P := Sq n) h (fun _ _ hx hM => warA_step (List.mem_range.mp hx) hM) (List.mem_range.mpr ha)
  refine g1 a b ?_
  obtain ⟨M2, s2, l2, g2⟩ := fold_gain (f := warB m a) (P := Sq n) s1 (fun _ _ hx hM => warB_step ha (List.mem_range.mp hx) hM) (List.mem_range.mpr hb)
  refine g2 a b ?_
  unfold warB
  rw [get_set s2 ha hb, if_pos ⟨rfl, rfl⟩, l2 _ _ (l1 _ _ h1), l2 _ _ (l1 _ _ h2)]
  simp
end
theorem getM_mat0 (n a b : Nat) : getM (mat0 n) a b = false := by
  unfold getM mat0
  rw [List.getD_eq_getElem?_getD, List.getD_eq_getElem?_getD (l := List.replicate _ _), List.getElem?_replicate]
  by_cases h : a < n
  · rw [if_pos h, Option.getD_some, List.getElem?_replicate]
    by_cases k : b < n
    · rw [if_pos k]; rfl
    · rw [if_neg k]; rfl
  · rw [if_neg h]; rfl
/-- the table of the entries -/
theorem edges_in {ws : Wld} (hw : WldOk ws) {a b : Nat} (h : Ed ws a b) : getM (edgesM ws (mat0 ws.length)) a b = true := by
  have hl := h.lt hw
  obtain ⟨e, he, rfl⟩ := h
  have hstep : ∀ (k : Nat) (l : List (Str × Nat)), k < ws.length → (∀ e ∈ l, e.2 < ws.length) → ∀ M, Sq ws.length M → Sq ws.length (l.foldl (fun M e => setM M k e.2 true) M) ∧ leM M (l.foldl (fun M e => setM M k e.2 true) M) ∧ ∀ e ∈ l, getM (l.foldl (fun M e => setM M k e.2 true) M) k e.2 = true := by
    intro k l hk
    induction l with
    | nil => intro _ M h; exact ⟨h, leM.refl M, fun e he => by cases he⟩
    | cons x l ih =>
      intro hlt M h
      have hx := hlt x (.head _)
      have s1 : Sq ws.length (setM M k x.2 true) := h.setM hk _ _
      have l1 : leM M (setM M k x.2 true) := fun c d q => by
        rw [get_set h hk hx]
        split
        · rfl
        · exact q
      obtain ⟨s2, l2, g2⟩ := ih (fun e he => hlt e (.tail _ he)) _ s1
      refine ⟨s2, l1.trans l2, fun e he => ?_⟩
      rcases List.mem_cons.mp he with rfl | he
      · refine l2 _ _ ?_
        rw [get_set h hk hx, if_pos ⟨rfl, rfl⟩]
      · exact g2 e he
  have hes : ∀ k < ws.length, ∀ e ∈ ws.getD k [], e.2 < ws.length := fun k hk e he => (Ed.lt hw ⟨e, he, rfl⟩).2
  obtain ⟨M', s, _, g⟩ := fold_gain (f := fun M k => (ws.getD k []).foldl (fun M e => setM M k e.2 true) M) (P := Sq ws.length) (l := List.range ws.length) (sq_mat0 _) (fun M k hk hM => by
    have := hstep k _ (List.mem_range.mp hk) (hes k (List.mem_range.mp hk)) M hM
    exact ⟨this.1, this.2.1⟩) (List.mem_range.mpr hl.1)
  exact g _ _ ((hstep a _ hl.1 (hes a hl.1) M' s).2.2 e he)
theorem war_vi {ws : Wld} (hw : WldOk ws) : ∀ m, m ≤ ws.length → Sq ws.length ((List.range m).foldl (warM ws.length) (edgesM ws (mat0 ws.length))) ∧ ∀ a b, a < ws.length → b < ws.length → Vi ws m a b → getM ((List.range m).foldl (warM ws.length) (edgesM ws (mat0 ws.length))) a b = true
  | 0, _ => ⟨sq_edges (sq_mat0 _), fun a b _ _ h => edges_in hw h⟩
  | m + 1, hm => by
    obtain ⟨s, g⟩ := war_vi hw m (by omega)
    rw [range_fold]
    refine ⟨(warM_step s).1, fun a b ha hb h => ?_⟩
    rcases h with h | ⟨h1, h2⟩
    · exact (warM_step s).2 _ _ (g a b ha hb h)
    · exact warM_gain ha hb s (g a m ha (by omega) h1) (g m b (by omega) hb h2)
def Sound (ws : Wld) (M : List (List Bool)) : Prop := Sq ws.length M ∧ ∀ a b, getM M a b = true → RP ws a b
theorem sound_set {ws : Wld} {M : List (List Bool)} (h : Sound ws M) {a b : Nat} (ha : a < ws.length) (hb : b < ws.length) {v : Bool} (hv : v = true → RP ws a b) : Sound ws (setM M a b v) := by
  refine ⟨h.1.setM ha _ _, fun c d q => ?_⟩
  rw [get_set h.1 ha hb] at q
  split at q
  · rename_i e
    rw [e.1, e.2]
    exact hv q
  · exact h.2 c d q
theorem war_sound {ws : Wld} (hw : WldOk ws) : Sound ws (warP ws) := by
  have h0 : Sound ws (mat0 ws.length) := ⟨sq_mat0 _, fun a b q => by rw [getM_mat0] at q; cases q⟩
  have h1 : Sound ws (edgesM ws (mat0 ws.length)) := foldl_inv (P := Sound ws) h0 fun M k hk hM => foldl_inv (P := Sound ws) hM fun M e he hM =>
    sound_set hM (List.mem_range.mp hk) (Ed.lt hw ⟨e, he, rfl⟩).2 fun _ => .one ⟨e, he, rfl⟩
  refine foldl_inv (P := Sound ws) h1 fun M m _ hM => foldl_inv (P := Sound ws) hM fun M a ha hM => foldl_inv (P := Sound ws) hM fun M b hb hM => ?_
  refine sound_set hM (List.mem_range.mp ha) (List.mem_range.mp hb) fun q => ?_
  rw [Bool.or_eq_true, Bool.and_eq_true] at q
  rcases q with q | ⟨q, r⟩
  · exact hM.2 _ _ q
  · exact (hM.2 _ _ q).trans (hM.2 _ _ r)
/-- the table says what can be reached -/
theorem war_iff {ws : Wld} (hw : WldOk ws) (a b : Nat) : getM (warP ws) a b = true ↔ RP ws a b :=
  ⟨(war_sound hw).2 a b, fun h => (war_vi hw ws.length (Nat.le_refl _)).2 a b (h.lt hw).1 (h.lt hw).2 (h.vi hw)⟩
end Mine

end

section
open PySem PySem.W PyProof.Rows PySem.Calls
namespace Mine
theorem calm_pv : True := by
  w_top off
  trivial

abbrev lastN (row : Row) : Nat := row.2.getLastD 0
/-- a simple way from the start -/
inductive Sim (ws : Wld) : Row → Prop
  | nil : Sim ws ([], [0])
  | step {row : Row} {e : Str × Nat} : Sim ws row → e ∈ outs ws row → e.2 ∉ row.2 → Sim ws (row.1 ++ [e.1], row.2 ++ [e.2])
theorem outs_ed {ws : Wld} {row : Row} {e : Str × Nat} (h : e ∈ outs ws row) : Ed ws (lastN row) e.2 := ⟨e, h, rfl⟩
theorem Sim.ok {ws : Wld} (hw : WldOk ws) (hm : WldNm ws) {row : Row} (h : Sim ws row) : RowOk ws row := by
  induction h with
  | nil => exact ⟨by simp, by simp, fun k hk => by rw [List.mem_singleton.mp hk]; exact hw.1, rfl, fun x hx => by simp at hx, rfl⟩
  | @step row e _ he hn hr =>
    have hes := outs_mem hr
    refine ⟨by simp, ?_, ?_, ?_, ?_, ?_⟩
    · rw [List.nodup_append]
      refine ⟨hr.nd, by simp, fun a ha b hb => ?_⟩
      rw [List.mem_singleton] at hb
      subst hb
      exact fun q => hn (q ▸ ha)
    · intro k hk
      rcases List.mem_append.mp hk with hk | hk
      · exact hr.lt k hk
      · rw [List.mem_singleton.mp hk]; exact ((outs_ed he).lt hw).2
    · simp only [List.length_append, List.length_singleton]; rw [hr.len]
    · intro x hx
      rcases List.mem_append.mp hx with hx | hx
      · exact hr.nm x hx
      · rw [List.mem_singleton.mp hx]; exact (hm _ hes.2).2 e he
    · rw [nodeP_append, hr.way, getLastD_snoc]
      show nodeP ws _ [e.1] = _
      simp only [nodeP]
      show (match (outs ws row).find? (·.1 == e.1) with | none => none | some p => some p.2) = _
      rw [find_self (hm _ hes.2).1 he]
theorem Sim.reach {ws : Wld} {row : Row} (h : Sim ws row) : (∀ k ∈ row.2, k = 0 ∨ RP ws 0 k) ∧ (∀ k ∈ row.2, k = lastN row ∨ RP ws k (lastN row)) ∧ lastN row ∈ row.2 := by
  induction h with
  | nil => exact ⟨fun k hk => .inl (List.mem_singleton.mp hk), fun k hk => .inl (List.mem_singleton.mp hk), .head _⟩
  | @step row e _ he _ ih =>
    obtain ⟨i1, i2, i3⟩ := ih
    have hl : lastN (row.1 ++ [e.1], row.2 ++ [e.2]) = e.2 := getLastD_snoc _ _ _
    have ed := outs_ed he
    rw [hl]
    refine ⟨fun k hk => ?_, fun k hk => ?_, List.mem_append_right _ (.head _)⟩
    · rcases List.mem_append.mp hk with hk | hk
      · exact i1 k hk
      · rw [List.mem_singleton.mp hk]
        rcases i1 _ i3 with q | q
        · rw [q] at ed; exact .inr (.one ed)
        · exact .inr (.more q ed)
    · rcases List.mem_append.mp hk with hk | hk
      · rcases i2 k hk with q | q
        · rw [q]; exact .inr (.one ed)
        · exact .inr (.more q ed)
      · exact .inl (List.mem_singleton.mp hk)
/-- what holds at the start and behind each turn holds at the end -/
theorem run_ind {ws : Wld} (hw : WldOk ws) (hm : WldNm ws) {all : Bool} {P : St → Prop} (h0 : P st0) (hs : ∀ st row r, StOk ws st → st.work = row :: r → P st → P (turn ws all st)) : P (fin ws all) := by
  have key : ∀ (k : Nat) (st : St), StOk ws st → P st → P (run ws all k st) := by
    intro k
    induction k with
    | zero => intro st _ h; exact h
    | succ k ih =>
      intro st ho h
      show P (run ws all k (turn ws all st))
      cases e : st.work with
      | nil =>
        have : turn ws all st = st := by unfold turn; rw [e]
        rw [this]
        exact ih st ho h
      | cons row r => exact ih _ (turn_ok hw hm ho e).1 (hs st row r ho e h)
  exact key 31 st0 (st0_ok hw) h0
theorem turn_eq {ws : Wld} {all : Bool} {st : St} {row : Row} {r : List Row} (e : st.work = row :: r) : turn ws all st = (outs ws row).foldl (edge all row) { st with work := r, listed := st.listed ++ [row.1] } := by
  unfold turn; rw [e]
theorem efold_ind {all : Bool} {row : Row} {Q : St → Prop} : ∀ {es : List (Str × Nat)} {st : St}, Q st → (∀ st e, e ∈ es → Q st → Q (edge all row st e)) → Q (es.foldl (edge all row) st)
  | [], _, h, _ => h
  | e :: es, st, h, k => efold_ind (es := es) (k st e (.head _) h) fun st x hx => k st x (.tail _ hx)

/-! the second walker -/
structure Tr (ws : Wld) (done : List Row) (st : St) : Prop where
  lis : st.listed = done.map (·.1)
  nd : st.seen.Nodup
  pm : ((done ++ st.work).map lastN).Perm st.seen
  sim : ∀ row ∈ done ++ st.work, Sim ws row
  sub : ∀ row ∈ done ++ st.work, ∀ k ∈ row.2, k ∈ st.seen
  rch : ∀ k ∈ st.seen, k = 0 ∨ RP ws 0 k
  zero : 0 ∈ st.seen
theorem seen_mono {all : Bool} {row : Row} {st : St} {e : Str × Nat} {k : Nat} (h : k ∈ st.seen) : k ∈ (edge all row st e).seen := by
  by_cases q : e.2 ∈ (if all then st.seen else row.2)
  · rw [edge_hit q]; exact h
  · rw [edge_new q]; exact List.mem_append_left _ h
theorem seen_fold {all : Bool} {row : Row} {es : List (Str × Nat)} {st : St} {k : Nat} (h : k ∈ st.seen) : k ∈ (es.foldl (edge all row) st).seen := efold_ind (Q := fun st => k ∈ st.seen) h fun _ _ _ h => seen_mono h
theorem seen_all {row : Row} : ∀ {es : List (Str × Nat)} {st : St}, ∀ e ∈ es, e.2 ∈ (es.foldl (edge true row) st).seen
  | x :: es, st, e, he => by
    rcases List.mem_cons.mp he with rfl | he
    · refine seen_fold (es := es) ?_
      by_cases q : e.2 ∈ (if true then st.seen else row.2)
      · rw [edge_hit q]; exact q
      · rw [edge_new q]; exact List.mem_append_right _ (.head _)
    · exact seen_all (es := es) e he
theorem Tr.edge {ws : Wld} {done : List Row} {row : Row} {st : St} {e : Str × Nat} (h : Tr ws done st) (hr : row ∈ done) (he : e ∈ outs ws row) : Tr ws done (edge true row st e) := by
  by_cases q : e.2 ∈ (if true then st.seen else row.2)
  · rw [edge_hit q]
    exact ⟨h.lis, h.nd, h.pm, h.sim, h.sub, h.rch, h.zero⟩
  · rw [edge_new q]
    have q : e.2 ∉ st.seen := q
    have hrow := h.sim row (List.mem_append_left _ hr)
    have hns : e.2 ∉ row.2 := fun x => q (h.sub row (List.mem_append_left _ hr) _ x)
    have hl : lastN (row.1 ++ [e.1], row.2 ++ [e.2]) = e.2 := getLastD_snoc _ _ _
    refine ⟨h.lis, ?_, ?_, ?_, ?_, ?_, List.mem_append_left _ h.zero⟩
    · show (st.seen ++ [e.2]).Nodup
      rw [List.nodup_append]
      refine ⟨h.nd, by simp, fun a ha b hb => ?_⟩
      rw [List.mem_singleton] at hb
      subst hb
      exact fun z => q (z ▸ ha)
    · show ((done ++ (row.1 ++ [e.1], row.2 ++ [e.2]) :: st.work).map lastN).Perm (st.seen ++ [e.2])
      rw [List.map_append, List.map_cons, hl]
      refine List.perm_middle.trans ?_
      rw [← List.map_append]
      exact (List.Perm.cons _ h.pm).trans (List.perm_append_singleton _ _).symm
    · intro x hx
      rcases List.mem_append.mp hx with hx | hx
      · exact h.sim x (List.mem_append_left _ hx)
      · rcases List.mem_cons.mp hx with rfl | hx
        · exact .step hrow he hns
        · exact h.sim x (List.mem_append_right _ hx)
    · intro x hx k hk
      show k ∈ st.seen ++ [e.2]
      rcases List.mem_append.mp hx with hx | hx
      · exact List.mem_append_left _ (h.sub x (List.mem_append_left _ hx) k hk)
      · rcases List.mem_cons.mp hx with rfl | hx
        · rcases List.mem_append.mp hk with hk | hk
          · exact List.mem_append_left _ (h.sub row (List.mem_append_left _ hr) k hk)
          · exact List.mem_append_right _ hk
        · exact List.mem_append_left _ (h.sub x (List.mem_append_right _ hx) k hk)
    · intro k hk
      rcases List.mem_append.mp hk with hk | hk
      · exact h.rch k hk
      · rw [List.mem_singleton.mp hk]
        have ed := outs_ed he
        rcases hrow.reach.1 _ hrow.reach.2.2 with z | z
        · rw [z] at ed; exact .inr (.one ed)
        · exact .inr (.more z ed)
theorem true_inv {ws : Wld} (hw : WldOk ws) (hm : WldNm ws) : ∃ done, Tr ws done (fin ws true) ∧ (∀ row ∈ done, ∀ e ∈ outs ws row, e.2 ∈ (fin ws true).seen) ∧ (fin ws true).loops.length + (fin ws true).seen.length = 1 + (done.map fun row => (outs ws row).length).sum := by
  refine run_ind (P := fun st => ∃ done, Tr ws done st ∧ (∀ row ∈ done, ∀ e ∈ outs ws row, e.2 ∈ st.seen) ∧ st.loops.length + st.seen.length = 1 + (done.map fun row => (outs ws row).length).sum) hw hm ?_ ?_
  · refine ⟨[], ⟨rfl, by decide, by decide, ?_, ?_, ?_, .head _⟩, fun _ h => absurd h List.not_mem_nil, rfl⟩
    · intro row hr
      rw [show ([] : List Row) ++ st0.work = [([], [0])] from rfl] at hr
      rw [List.mem_singleton.mp hr]; exact .nil
    · intro row hr k hk
      rw [show ([] : List Row) ++ st0.work = [([], [0])] from rfl] at hr
      rw [List.mem_singleton.mp hr] at hk
      exact hk
    · intro k hk
      exact .inl (List.mem_singleton.mp hk)
  · rintro st row r ho e ⟨done, t, hcl, hct⟩
    rw [turn_eq e]
    have t0 : Tr ws (done ++ [row]) { st with work := r, listed := st.listed ++ [row.1] } := by
      have hsw : done ++ st.work = (done ++ [row]) ++ r := by rw [e]; simp
      refine ⟨?_, t.nd, ?_, ?_, ?_, t.rch, t.zero⟩
      · show st.listed ++ [row.1] = _
        rw [t.lis, List.map_append]; rfl
      · show (((done ++ [row]) ++ r).map lastN).Perm st.seen
        rw [← hsw]; exact t.pm
      · intro x hx
        exact t.sim x (by rw [hsw]; exact hx)
      · intro x hx
        exact t.sub x (by rw [hsw]; exact hx)
    have hrd : row ∈ done ++ [row] := List.mem_append_right _ (.head _)
    refine ⟨done ++ [row], efold_ind (Q := Tr ws (done ++ [row])) t0 fun _ _ he hh => hh.edge hrd he, ?_, ?_⟩
    · intro x hx y hy
      rcases List.mem_append.mp hx with hx | hx
      · exact seen_fold (hcl x hx y hy)
      · rw [List.mem_singleton.mp hx] at hy
        exact seen_all y hy
    · have c := fold_count true row (outs ws row) { st with work := r, listed := st.listed ++ [row.1] }
      have c1 := c.1
      dsimp only at c1
      rw [List.map_append, List.sum_append]
      simp only [List.map_cons, List.map_nil, List.sum_cons, List.sum_nil]
      omega
theorem places_mem {ws : Wld} (hw : WldOk ws) (k : Nat) : k ∈ placesP ws ↔ k = 0 ∨ RP ws 0 k := by
  unfold placesP
  rw [List.mem_cons, List.mem_filter, war_iff hw, List.mem_range'_1]
  constructor
  · rintro (h | h)
    · exact .inl h
    · exact .inr h.2
  · rintro (h | h)
    · exact .inl h
    · by_cases e : k = 0
      · exact .inl e
      · have := h.lt hw
        exact .inr ⟨by omega, h⟩
theorem places_lt {ws : Wld} : (placesP ws).Pairwise (· < ·) := by
  unfold placesP
  refine List.pairwise_cons.mpr ⟨fun k hk => ?_, (List.pairwise_lt_range' (s := 1) (n := ws.length - 1)).filter _⟩
  have := List.mem_range'_1.mp (List.mem_filter.mp hk).1
  omega
theorem places_nd {ws : Wld} : (placesP ws).Nodup := places_lt.imp fun h => Nat.ne_of_lt h
theorem seen_places {ws : Wld} (hw : WldOk ws) (hm : WldNm ws) : (fin ws true).seen.Perm (placesP ws) := by
  obtain ⟨done, t, hcl, _⟩ := true_inv hw hm
  have hwk := (fin_ok hw hm true).2
  refine (List.perm_ext_iff_of_nodup t.nd places_nd).mpr fun k => ?_
  rw [places_mem hw]
  refine ⟨t.rch k, fun h => ?_⟩
  have closed : ∀ a ∈ (fin ws true).seen, ∀ b, Ed ws a b → b ∈ (fin ws true).seen := by
    intro a ha b hb
    have := (t.pm.mem_iff (a := a)).mpr ha
    rw [hwk, List.append_nil] at this
    obtain ⟨row, hr, rfl⟩ := List.mem_map.mp this
    obtain ⟨e, he, rfl⟩ := hb
    exact hcl row hr e he
  rcases h with rfl | h
  · exact t.zero
  · generalize h0 : 0 = z at h
    induction h with
    | one e => subst h0; exact closed _ t.zero _ e
    | more _ e ih => exact closed _ ih _ e
theorem nodes_perm {ws : Wld} (hw : WldOk ws) (hm : WldNm ws) : (nodesP ws).Perm (placesP ws) := by
  obtain ⟨done, t, _, _⟩ := true_inv hw hm
  have hwk := (fin_ok hw hm true).2
  have : nodesP ws = (done ++ (fin ws true).work).map lastN := by
    rw [hwk, List.append_nil]
    unfold nodesP
    rw [t.lis, List.map_map]
    refine List.map_congr_left fun row hr => ?_
    have := ((t.sim row (List.mem_append_left _ hr)).ok hw hm).way
    show (nodeP ws 0 row.1).getD 0 = _
    rw [this]; rfl
  rw [this]
  exact t.pm.trans (seen_places hw hm)
theorem count_eq {ws : Wld} (hw : WldOk ws) (hm : WldNm ws) : (((fin ws true).loops.length : Nat) : Int) = ((placesP ws).map fun k => (((ws.getD k []).length : Nat) : Int)).sum - ((placesP ws).length : Int) + 1 := by
  obtain ⟨done, t, _, hct⟩ := true_inv hw hm
  have hwk := (fin_ok hw hm true).2
  have h1 : (done.map fun row => (outs ws row).length) = ((done ++ (fin ws true).work).map lastN).map fun k => (ws.getD k []).length := by
    rw [hwk, List.append_nil, List.map_map]; rfl
  have p := t.pm.trans (seen_places hw hm)
  have h2 := (p.map fun k => (ws.getD k []).length).sum_nat
  have h3 := (seen_places hw hm).length_eq
  have h4 : ((placesP ws).map fun k => (((ws.getD k []).length : Nat) : Int)).sum = ((((placesP ws).map fun k => (ws.getD k []).length).sum : Nat) : Int) := by
    generalize placesP ws = l
    induction l with
    | nil => rfl
    | cons a l ih => simp only [List.map_cons, List.sum_cons]; rw [ih]; omega
  rw [h1, h2] at hct
  rw [h4]
  omega

/-! the first walker -/
structure Fl (ws : Wld) (done : List Row) (st : St) : Prop where
  lis : st.listed = done.map (·.1)
  ini : ([], [0]) ∈ done ++ st.work
  sim : ∀ row ∈ done ++ st.work, Sim ws row
  ring : st.loops ≠ [] → ∃ k, (k = 0 ∨ RP ws 0 k) ∧ RP ws k k
theorem edge_loops {all : Bool} {row : Row} {st : St} {e : Str × Nat} (h : st.loops ≠ []) : (edge all row st e).loops ≠ [] := by
  by_cases q : e.2 ∈ (if all then st.seen else row.2)
  · rw [edge_hit q]; exact fun z => by simp at z
  · rw [edge_new q]; exact h
theorem fold_loops {all : Bool} {row : Row} {es : List (Str × Nat)} {st : St} (h : st.loops ≠ []) : (es.foldl (edge all row) st).loops ≠ [] := efold_ind (Q := fun st => st.loops ≠ []) h fun _ _ _ h => edge_loops h
theorem edge_work {all : Bool} {row : Row} {st : St} {e : Str × Nat} {x : Row} (h : x ∈ st.work) : x ∈ (edge all row st e).work := by
  by_cases q : e.2 ∈ (if all then st.seen else row.2)
  · rw [edge_hit q]; exact h
  · rw [edge_new q]; exact .tail _ h
theorem fold_work {all : Bool} {row : Row} {es : List (Str × Nat)} {st : St} {x : Row} (h : x ∈ st.work) : x ∈ (es.foldl (edge all row) st).work := efold_ind (Q := fun st => x ∈ st.work) h fun _ _ _ h => edge_work h
theorem fold_false {row : Row} : ∀ {es : List (Str × Nat)} {st : St}, ∀ e ∈ es, (e.2 ∉ row.2 → (row.1 ++ [e.1], row.2 ++ [e.2]) ∈ (es.foldl (edge false row) st).work) ∧ (e.2 ∈ row.2 → (es.foldl (edge false row) st).loops ≠ [])
  | x :: es, st, e, he => by
    rcases List.mem_cons.mp he with rfl | he
    · refine ⟨fun q => fold_work (es := es) ?_, fun q => fold_loops (es := es) ?_⟩
      · rw [edge_new (all := false) q]; exact .head _
      · rw [edge_hit (all := false) q]; exact fun z => by simp at z
    · exact fold_false (es := es) e he
theorem Fl.edge {ws : Wld} {done : List Row} {row : Row} {st : St} {e : Str × Nat} (h : Fl ws done st) (hr : row ∈ done) (he : e ∈ outs ws row) : Fl ws done (edge false row st e) := by
  have hs := h.sim row (List.mem_append_left _ hr)
  by_cases q : e.2 ∈ row.2
  · rw [edge_hit (all := false) q]
    refine ⟨h.lis, h.ini, h.sim, fun _ => ⟨e.2, hs.reach.1 _ q, ?_⟩⟩
    have ed := outs_ed he
    rcases hs.reach.2.1 _ q with z | z
    · rw [← z] at ed; exact .one ed
    · exact .more z ed
  · rw [edge_new (all := false) q]
    refine ⟨h.lis, ?_, fun x hx => ?_, h.ring⟩
    · rcases List.mem_append.mp h.ini with z | z
      · exact List.mem_append_left _ z
      · exact List.mem_append_right _ (.tail _ z)
    · rcases List.mem_append.mp hx with hx | hx
      · exact h.sim x (List.mem_append_left _ hx)
      · rcases List.mem_cons.mp hx with rfl | hx
        · exact .step hs he q
        · exact h.sim x (List.mem_append_right _ hx)
theorem false_inv {ws : Wld} (hw : WldOk ws) (hm : WldNm ws) : ∃ done, Fl ws done (fin ws false) ∧ ∀ row ∈ done, ∀ e ∈ outs ws row, (e.2 ∉ row.2 → (row.1 ++ [e.1], row.2 ++ [e.2]) ∈ done ++ (fin ws false).work) ∧ (e.2 ∈ row.2 → (fin ws false).loops ≠ []) := by
  refine run_ind (P := fun st => ∃ done, Fl ws done st ∧ ∀ row ∈ done, ∀ e ∈ outs ws row, (e.2 ∉ row.2 → (row.1 ++ [e.1], row.2 ++ [e.2]) ∈ done ++ st.work) ∧ (e.2 ∈ row.2 → st.loops ≠ [])) hw hm ?_ ?_
  · refine ⟨[], ⟨rfl, .head _, ?_, fun h => absurd rfl h⟩, fun _ h => absurd h List.not_mem_nil⟩
    intro row hr
    rw [show ([] : List Row) ++ st0.work = [([], [0])] from rfl] at hr
    rw [List.mem_singleton.mp hr]; exact .nil
  · rintro st row r ho e ⟨done, t, hcl⟩
    rw [turn_eq e]
    have hsw : done ++ st.work = (done ++ [row]) ++ r := by rw [e]; simp
    have t0 : Fl ws (done ++ [row]) { st with work := r, listed := st.listed ++ [row.1] } := by
      refine ⟨?_, ?_, ?_, t.ring⟩
      · show st.listed ++ [row.1] = _
        rw [t.lis, List.map_append]; rfl
      · show _ ∈ (done ++ [row]) ++ r
        rw [← hsw]; exact t.ini
      · intro x hx
        exact t.sim x (by rw [hsw]; exact hx)
    have hrd : row ∈ done ++ [row] := List.mem_append_right _ (.head _)
    refine ⟨done ++ [row], efold_ind (Q := Fl ws (done ++ [row])) t0 fun _ _ he hh => hh.edge hrd he, ?_⟩
    intro x hx y hy
    rcases List.mem_append.mp hx with hx | hx
    · obtain ⟨c1, c2⟩ := hcl x hx y hy
      refine ⟨fun q => ?_, fun q => fold_loops (c2 q)⟩
      have := c1 q
      rw [hsw] at this
      rcases List.mem_append.mp this with z | z
      · exact List.mem_append_left _ z
      · exact List.mem_append_right _ (fold_work z)
    · rw [List.mem_singleton.mp hx] at hy ⊢
      obtain ⟨c1, c2⟩ := fold_false (row := row) (st := { st with work := r, listed := st.listed ++ [row.1] }) y hy
      exact ⟨fun q => List.mem_append_right _ (c1 q), c2⟩
/-- the first walker lists each simple way -/
theorem sim_listed {ws : Wld} (hw : WldOk ws) (hm : WldNm ws) {row : Row} (h : Sim ws row) : row.1 ∈ (fin ws false).listed := by
  obtain ⟨done, t, hcl⟩ := false_inv hw hm
  have hwk := (fin_ok hw hm false).2
  rw [t.lis]
  refine List.mem_map_of_mem (f := fun x : Row => x.1) ?_
  have ini := t.ini
  rw [hwk, List.append_nil] at ini
  induction h with
  | nil => exact ini
  | @step row e _ he hn ih =>
    have := (hcl row ih e he).1 hn
    rw [hwk, List.append_nil] at this
    exact this
theorem sub_listed {ws : Wld} (hw : WldOk ws) (hm : WldNm ws) : ∀ ns ∈ (fin ws true).listed, ns ∈ (fin ws false).listed := by
  obtain ⟨done, t, _, _⟩ := true_inv hw hm
  intro ns hn
  rw [t.lis] at hn
  obtain ⟨row, hr, rfl⟩ := List.mem_map.mp hn
  exact sim_listed hw hm (t.sim row (List.mem_append_left _ hr))
/-- a walk of j steps from the start -/
inductive Wa (ws : Wld) : Nat → Nat → Prop
  | zero : Wa ws 0 0
  | succ {j a b : Nat} : Wa ws j a → Ed ws a b → Wa ws (j + 1) b
theorem RP.wa {ws : Wld} {a b : Nat} (h : RP ws a b) {j : Nat} (k : Wa ws j a) : ∃ i, j < i ∧ Wa ws i b := by
  induction h with
  | one e => exact ⟨j + 1, Nat.lt_succ_self _, .succ k e⟩
  | more _ e ih =>
    obtain ⟨i, h1, h2⟩ := ih
    exact ⟨i + 1, Nat.lt_succ_of_lt h1, .succ h2 e⟩
theorem ring_of {ws : Wld} (hw : WldOk ws) (hm : WldNm ws) {k : Nat} (h0 : k = 0 ∨ RP ws 0 k) (hk : RP ws k k) : (fin ws false).loops ≠ [] := by
  intro hno
  obtain ⟨done, t, hcl⟩ := false_inv hw hm
  have hwk := (fin_ok hw hm false).2
  have ini := t.ini
  rw [hwk, List.append_nil] at ini
  have all : ∀ row, Sim ws row → row ∈ done := by
    intro row h
    induction h with
    | nil => exact ini
    | @step row e _ he hn ih =>
      have := (hcl row ih e he).1 hn
      rw [hwk, List.append_nil] at this
      exact this
  have walk : ∀ j b, Wa ws j b → ∃ row, Sim ws row ∧ lastN row = b ∧ row.2.length = j + 1 := by
    intro j b h
    induction h with
    | zero => exact ⟨([], [0]), .nil, rfl, rfl⟩
    | @succ j a b _ e ih =>
      obtain ⟨row, s, rfl, hl⟩ := ih
      obtain ⟨x, hx, rfl⟩ := e
      have hn : x.2 ∉ row.2 := fun q => (hcl row (all row s) x hx).2 q hno
      exact ⟨_, .step s hx hn, getLastD_snoc _ _ _, by rw [List.length_append, hl]; rfl⟩
  have far : ∀ n, ∃ j, n ≤ j ∧ Wa ws j k := by
    intro n
    induction n with
    | zero =>
      rcases h0 with rfl | h0
      · exact ⟨0, Nat.le_refl _, .zero⟩
      · obtain ⟨i, _, h⟩ := h0.wa .zero
        exact ⟨i, Nat.zero_le _, h⟩
    | succ n ih =>
      obtain ⟨j, h1, h2⟩ := ih
      obtain ⟨i, h3, h4⟩ := hk.wa h2
      exact ⟨i, by omega, h4⟩
  obtain ⟨j, hj, h⟩ := far ws.length
  obtain ⟨row, s, _, hl⟩ := walk j k h
  have := (s.ok hw hm).deep.2
  omega
theorem ring_eq {ws : Wld} (hw : WldOk ws) (hm : WldNm ws) : ((fin ws false).loops.length != 0) = (placesP ws).any fun k => getM (warP ws) k k := by
  rw [Bool.eq_iff_iff, List.any_eq_true, bne_iff_ne]
  constructor
  · intro h
    obtain ⟨done, t, _⟩ := false_inv hw hm
    obtain ⟨k, h1, h2⟩ := t.ring fun q => h (by rw [q]; rfl)
    exact ⟨k, (places_mem hw k).mpr h1, (war_iff hw k k).mpr h2⟩
  · rintro ⟨k, h1, h2⟩ q
    exact ring_of hw hm ((places_mem hw k).mp h1) ((war_iff hw k k).mp h2) (List.eq_nil_of_length_eq_zero q)
theorem pure_all (ws : Wld) (hw : WldOk ws) (hm : WldNm ws) : PureL ws :=
  ⟨nodes_perm hw hm, places_lt.imp fun h => Nat.le_of_lt h, fun k hk => by
    rcases (places_mem hw k).mp hk with rfl | h
    · exact hw.1
    · exact (h.lt hw).2, sub_listed hw hm, count_eq hw hm, ring_eq hw hm⟩
end Mine

end

theorem PySem.Challenge.cw_ab6012_01_holds : PySem.Challenge.rw_ab6012_01.Holds := by
  exact Mine.law_holds Mine.pure_all

import PyProof.Rows.All
import Wide.All
import OpenK.AllK
import Wide.FinOn
import PySem.Challenge.RW_nq0100_01
set_option Elab.async false
set_option maxRecDepth 100000
set_option maxHeartbeats 8000000
namespace Mine
open PySem PySem.W PyProof.Rows
open_top hd for PySem.Challenge.rw_nq0100_01
end Mine
section
open PySem PySem.W PySem.Calls PyProof.Rows
namespace Mine

section
variable {prog : Program} {w : World} {A : Around} {s : Shared} {K : Frag} {mg mb : Str → Option Value} {p : Program} {loose : List Str} {mean : ExcName → Option Value}
  {R : Result → Shared → Prop} {name qual : Str} {params : Arguments} {body : List Stmt} {scope : Scope} {dV kV doc pm cdv ct oc : Value} {an od : Option Addr} {osl : Array (Option Value)} {f : Addr} {args : Args} {binds : List (Str × Value)}
/- entering a def of the text: all that stands is the ground -/
theorem enterP (X : K.In s.heap) (T : Top p loose mean mg mb s.heap)
    (ho : K.lookup f = some ⟨oc, od, .func (fnOf name qual params body scope dV kV doc pm an cdv ct), osl⟩) (hcd : codeIn K cdv qual = true) (hroom : A.depth < recursionLimit)
    (hbind : BindsTo s (fnOf name qual params body scope dV kV doc pm an cdv ct) args binds) (hloc : ∀ y ∈ binds, scope.names.lookup y.1 = some .local)
    (h : ∀ h₁, Fr s.heap s.heap.objs.size h₁ (fun y => binds.reverse.lookup y) → News s.heap s.heap.objs.size h₁ [] →
      wpAny (model prog w) (A.deeper (envOf qual scope s.heap.objs.size f cdv)) (execs body (envOf qual scope s.heap.objs.size f cdv))
        (fun fl s' => R (.ok (.ret (match fl with | .ret v => v | _ => .none))) s')
        (fun e s' => wpAny (model prog w) (A.deeper (envOf qual scope s.heap.objs.size f cdv)) (leaving (envOf qual scope s.heap.objs.size f cdv) e) (fun _ s'' => R (.error e) s'') (fun e' s'' => R (.error e') s'') s')
        { s with heap := h₁, toks := s.toks + binds.length })
    (hco : scope.isCoroutine = false) (hgen : scope.isGenerator = false) (hk : scope.kind = .function)
    (hcell : ∀ x ∈ scope.names, x.2 ≠ .cell) : codeAny (model prog w) A (.call (.ref f) args) R s :=
  codeAny_call_def (fd := fnOf name qual params body scope dV kV doc pm an cdv ct) (body := body) (binds := binds) hroom (X _ _ ho) rfl T.nolimit (codeRec_of X hcd) rfl hbind hcell hloc
    (fun h₁ hns hk₁ => h h₁ ⟨hns, hk₁, Nat.le_refl _⟩ News.nil) hco hgen hk

/- entering a def with cells; what is hidden stands on the ledger -/
theorem enterC {hid : List (Addr × Obj)} (hh : ∀ q ∈ hid, s.heap.get? q.1 = some q.2) (X : K.In s.heap) (T : Top p loose mean mg mb s.heap)
    (ho : K.lookup f = some ⟨oc, od, .func (fnOf name qual params body scope dV kV doc pm an cdv ct), osl⟩) (hcd : codeIn K cdv qual = true) (hroom : A.depth < recursionLimit)
    (hbind : BindsTo s (fnOf name qual params body scope dV kV doc pm an cdv ct) args binds)
    (hkind : (binds.all fun y => scope.names.lookup y.1 == some .local || scope.names.lookup y.1 == some .cell) = true)
    (hnd : ((cellsFrom 0 scope.names []).map (·.1)).Nodup)
    (h : ∀ L' h₁ tk cells, L' = s.heap.objs.size → Fr (hideAll s.heap (hid.map (·.1))) L' h₁ (bindL (envOfC qual scope L' f cdv).kindOf binds fun _ => none) → News (hideAll s.heap (hid.map (·.1))) L' h₁ (cells ++ hid) →
      CellsAre (bindC (envOfC qual scope L' f cdv).kindOf binds fun _ => none) (cellsFrom (L' + 1) scope.names []) cells → (∀ q ∈ hid, q.1 < L') →
      wpAny (model prog w) (A.deeper (envOfC qual scope L' f cdv)) (execs body (envOfC qual scope L' f cdv))
        (fun fl s' => R (.ok (.ret (match fl with | .ret v => v | _ => .none))) s')
        (fun e s' => wpAny (model prog w) (A.deeper (envOfC qual scope L' f cdv)) (leaving (envOfC qual scope L' f cdv) e) (fun _ s'' => R (.error e) s'') (fun e' s'' => R (.error e') s'') s')
        { s with heap := h₁, toks := tk })
    (hco : scope.isCoroutine = false) (hgen : scope.isGenerator = false) (hk : scope.kind = .function) : codeAny (model prog w) A (.call (.ref f) args) R s := by
  refine codeAny_call_function (fd := fnOf name qual params body scope dV kV doc pm an cdv ct) (body := body) hroom (X _ _ ho) rfl hco hgen rfl (codeRec_of X hcd) (hbind _ _ _ _ ?_)
  refine wpAny_newFunctionEnv_cells hk (kindsX hkind _) fun env' he s' x => ?_
  subst he
  refine ⟨T.nolimit.keeps x.toInCall.keep, codeAny_func ?_⟩
  obtain ⟨h₁, tk, rfl, _⟩ := x.done
  have hk₁ := x.toInCall.keep
  obtain ⟨cells, NC, Y⟩ := Cl.news (h₀ := s.heap) (Nat.le_refl _) fun n c hm => ⟨x.cell n c (lookup_of_mem_nodup (cellsFrom_names scope.names 0 (s.heap.objs.size + 1) [] [] rfl ▸ hnd) hm), x.above n c hm⟩
  refine h s.heap.objs.size h₁ tk cells rfl ⟨x.toInCall.ns, fun b o e => hk₁ b o (of_hideAll _ e), Nat.le_of_eq (hideAll_size _ _)⟩ (fun p hp => ?_) Y (fun p hp => Heap.lt_size (hh p hp))
  rcases List.mem_append.mp hp with hp | hp
  · refine ⟨(NC p hp).1, (NC p hp).2.1, ?_⟩
    cases q : (hideAll s.heap (hid.map (·.1))).get? p.1 with
    | none => rfl
    | some o => have := of_hideAll _ q; rw [(NC p hp).2.2] at this; cases this
  · exact ⟨hk₁ _ _ (hh p hp), Nat.ne_of_lt (Heap.lt_size (hh p hp)), hideAll_none _ (List.mem_map_of_mem hp)⟩
end
/- the goal with its two ends hidden -/
theorem abs_goal {α : Type} {M : Model} {A : Around} {code : Sem α} {Q : α → Shared → Prop} {E : Value → Shared → Prop} {hp : Heap} {gs : Array GenState} {dr : Drawn} {tk : Nat} {os : OsState}
    (h : ∀ (Q' : α → Shared → Prop) (E' : Value → Shared → Prop) (tk : Nat), (∀ v s', Q v s' → Q' v s') → wpAny M A code Q' E' ⟨hp, gs, dr, tk, os⟩) : wpAny M A code Q E ⟨hp, gs, dr, tk, os⟩ := h Q E tk (fun _ _ x => x)
theorem abs_goalE {α : Type} {M : Model} {A : Around} {code : Sem α} {Q : α → Shared → Prop} {E : Value → Shared → Prop} {hp : Heap} {gs : Array GenState} {dr : Drawn} {tk : Nat} {os : OsState}
    (h : ∀ (Q' : α → Shared → Prop) (E' : Value → Shared → Prop) (tk : Nat), (∀ v s', Q v s' → Q' v s') → (∀ v s', E v s' → E' v s') → wpAny M A code Q' E' ⟨hp, gs, dr, tk, os⟩) : wpAny M A code Q E ⟨hp, gs, dr, tk, os⟩ := h Q E tk (fun _ _ x => x) (fun _ _ x => x)
noncomputable abbrev lz : List Str := looseW hd.view_39 [Str.ofString "_filemode_table"] ++ List.map (fun x => x.name) (recsOf hd.view_39) ++
        List.map (fun x => x.fst) (litsOf hd.view_39) ++
      List.map (fun x => x.name) (clssOf hd.view_39 (looseW hd.view_39 [Str.ofString "_filemode_table"]))

/- the ground: what the top has made, but the one table that the call turns -/
set_option genSizeOf false in
set_option genInjectivity false in
structure Gr (w : World) (mean : ExcName → Option Value) (mg mb : Str → Option Value) (g : Heap) : Prop where
  X : (hd.heap_39 w.params).In g
  T : Top topProg lz mean mg mb g
  C : CodeHd g 123 119
  n : g.get? 119 = none
theorem Gr.keeps {w : World} {mean : ExcName → Option Value} {mg mb : Str → Option Value} {g h : Heap} (G : Gr w mean mg mb g) (st : g.StaysIn h) (n : h.get? 119 = none) : Gr w mean mg mb h :=
  ⟨G.X.keeps st, G.T.keeps st, G.C.keeps st, n⟩
theorem stays_hide {g h : Heap} (st : g.StaysIn h) (n : g.get? 119 = none) : g.StaysIn (hideAll h [119]) := fun b o e =>
  hideAll_get _ (st b o e) (fun hm => by rw [List.mem_singleton.mp hm, n] at e; cases e)
end Mine

end
section
open PySem PySem.W PySem.Calls PyProof.Rows
namespace Mine
open PySem.Builtin.ObjectAttr
theorem store_function : StoreFacts "function" [.type "function", .type "object"] "object.__setattr__" "object" where
  mro := by kernel_rfl
  slot := .of (owner := "object") (n := "__setattr__") (by rw [typeLookup_type, builtinLookup_eq_fast]; kernel_rfl) (by decide +kernel) (by decide +kernel) (by decide +kernel)
    (by first | exact .inl (by decide +kernel) | exact .inr (by decide +kernel)) (by rw [isSubtype_type]; kernel_rfl)
  entry := F.entry_object_sa
  kind := by decide +kernel
  split := by decide +kernel
  hasOwner := by decide +kernel
  args := fun a b c => by unfold argsOk; kernel_rfl
  passes := fun self => by kernel_rfl
theorem fn_no_applies_to : typeLookup (.type "function") (Str.ofString "applies_to") = pure none := by rw [typeLookup_type, builtinLookup_eq_fast]; kernel_rfl
theorem fn_no_allowance : typeLookup (.type "function") (Str.ofString "allowance") = pure none := by rw [typeLookup_type, builtinLookup_eq_fast]; kernel_rfl

section
variable {prog : Program} {w : World} {A : Around} {E : Value → Shared → Prop} {h : Heap} {g : Array GenState} {d : Drawn} {t : Nat} {os : OsState} {x : Addr} {name : Str} {v : Value} {fd : FuncData} {sl : Array (Option Value)}

theorem fn_entry {o : Obj} {mA : Str → Option Value} {ns : List Str} {tk : Tok} {Q : Fin → Shared → Prop} (hB : typeLookup (.type "function") name = pure none) (hx : h.get? x = some o) (hc : o.cls = .type "function") (hnc : o.data = .func fd)
    (hd : (o.dict = none ∧ ∀ n, mA n = none) ∨ ∃ dx, o.dict = some dx ∧ dx ≠ x ∧ h.Ns1 dx mA)
    (hq : ∀ dx h' tk', (o.dict = some dx ∨ (o.dict = none ∧ h.get? dx = none)) → dx ≠ x → h'.get? x = some ⟨.type "function", some dx, .func fd, o.slots⟩ → h'.Ns1 dx (fun y => if y = name then some v else mA y) → 
      (∀ b o, b ≠ x → b ≠ dx → h.get? b = some o → h'.get? b = some o) → Q (.done (.ret .none)) ⟨h', g, d, tk', os⟩) (hw : Within mA ns) (hsz : ns.length ≤ sizeLine) :
    wpAny (model prog w) A (Builtin.«object.__setattr__» ⟨[.ref x, .str name tk, v], []⟩) Q E ⟨h, g, d, t, os⟩ := by
  have SF := store_function
  have hpass := SF.passes (.ref x)
  have hxs : x ≠ h.objs.size := Nat.ne_of_lt (Heap.lt_size hx)
  unfold Builtin.«object.__setattr__»
  repeat (first | rw [refuse_eq] | (rw [refuseLoop_ref, hpass]) | (with_reducible refine wpAny_loadPart_at hx ?_; rw [hc]) | rw [SF.mro] | (rw [hB]) | wp_step)
  rcases hd with ⟨hdn, hmA⟩ | ⟨dx, hdx, hne, hns⟩
  ·
    rw [hdn, if_neg (by decide +kernel), hnc]
    have hx₁ : (h.push { cls := .type "dict", data := .dict #[] }).get? x = some o := Heap.get?_push_of_some _ hx
    refine wpAny_bind (wpAny_alloc' ?_)
    refine wpAny_bind (wpAny_update' hx₁ ?_)
    rw [show dictMade (Value.type "function") x h.objs.size = pure (some h.objs.size) from by unfold dictMade; dsimp only; rw [if_neg (by decide +kernel)]]
    refine wpAny_pure ?_
    have hgd : ((h.push { cls := .type "dict", data := .dict #[] }).update x fun o => { cls := o.cls, dict := some h.objs.size, data := o.data, slots := o.slots }).get? h.objs.size
        = some { cls := .type "dict", data := .dict #[] } :=
      (Heap.get?_update_ne _ _ _ _ hxs.symm).trans (Heap.get?_push_at rfl rfl)
    have hnd : ((h.push { cls := .type "dict", data := .dict #[] }).update x fun o => { cls := o.cls, dict := some h.objs.size, data := o.data, slots := o.slots }).Ns h.objs.size (fun _ => none) :=
      ⟨_, #[], _, hgd, rfl, fun e he => absurd he (by simp), fun _ => rfl⟩
    show wpAny _ _ (storeInDict h.objs.size (.str name tk) name v) _ _ _
    unfold storeInDict newKeyGuard
    refine wpAny_bind (wpAny_pure (wpAny_bind (wpAny_nsSet1 (Heap.Ns1.of_empty hnd) fun h' hn' hs => ?_)))
    obtain ⟨oD, esD, epD, hoD, hdD, hcD⟩ := hn'.count (Within.cons name v Within.nil)
    refine wpAny_bind (wpAny_lookBehind hoD (by rw [hdD]; exact pastItsLine_dict (Nat.le_trans hcD (by rw [List.length_cons, List.length_nil, sizeLine_eq]; omega))) ?_)
    wp_walk
    refine hq h.objs.size h' _ (.inr ⟨hdn, Heap.get?_none_of_le (Nat.le_refl _)⟩) hxs.symm ((hs.2 x hxs).trans ?_) ?_ (fun b ob hbx hbd hb => ?_)
    · rw [Heap.get?_update_self _ hx₁ (by show Obj.isFreed ⟨o.cls, some h.objs.size, o.data, o.slots⟩ = false; rw [hnc]; rfl)]
      rw [hc, hnc]
    · obtain ⟨o', es, ep, e1, e2, e3, eu, e4⟩ := hn'
      exact ⟨o', es, ep, e1, e2, e3, eu, fun y => by rw [e4 y]; by_cases hy : y = name <;> simp [hy, hmA]⟩
    · exact (hs.2 b hbd).trans ((Heap.get?_update_ne _ _ _ _ hbx).trans (Heap.get?_push_of_some _ hb))
  ·
    rw [hdx]
    refine wpAny_pure ?_
    show wpAny _ _ (storeInDict dx (.str name tk) name v) _ _ _
    unfold storeInDict newKeyGuard
    refine wpAny_bind (wpAny_pure (wpAny_bind (wpAny_nsSet1 hns fun h' hn' hs => ?_)))
    obtain ⟨oD, esD, epD, hoD, hdD, hcD⟩ := hn'.count (Within.cons name v hw)
    refine wpAny_bind (wpAny_lookBehind hoD (by rw [hdD]; exact pastItsLine_dict (Nat.le_trans hcD (by rw [List.length_cons]; omega))) ?_)
    wp_walk
    refine hq dx h' _ (.inl hdx) hne ((hs.2 x hne.symm).trans ?_) hn' (fun b ob _ hbd hb => (hs.2 b hbd).trans hb)
    rw [hx, ← hc, ← hdx, ← hnc]

theorem setattr_fn {o : Obj} {mA : Str → Option Value} {ns : List Str} {Q : Unit → Shared → Prop} (hB : typeLookup (.type "function") name = pure none) (hx : h.get? x = some o) (hc : o.cls = .type "function") (hnc : o.data = .func fd)
    (hd : (o.dict = none ∧ ∀ n, mA n = none) ∨ ∃ dx, o.dict = some dx ∧ dx ≠ x ∧ h.Ns1 dx mA)
    (hq : ∀ dx h' tk', (o.dict = some dx ∨ (o.dict = none ∧ h.get? dx = none)) → dx ≠ x → h'.get? x = some ⟨.type "function", some dx, .func fd, o.slots⟩ → h'.Ns1 dx (fun y => if y = name then some v else mA y) → 
      (∀ b o, b ≠ x → b ≠ dx → h.get? b = some o → h'.get? b = some o) → Q () ⟨h', g, d, tk', os⟩) (hw : Within mA ns) (hsz : ns.length ≤ sizeLine) :
    wpAny (model prog w) A (setAttr (.ref x) name v) Q E ⟨h, g, d, t, os⟩ := by
  have SF := store_function
  have f3 := SF.slot.bind (.ref x)
  have hT : (⟨h, g, d, t + 1, os⟩ : Shared).TypeIs (.ref x) "function" := ⟨o, hx, hc⟩
  unfold setAttr callSpecial? specialOf
  repeat (any_goals (first | assumption | (with_reducible refine wpAny_loadPart_at hx ?_; rw [hc]) | (rw [SF.slot.lookup]) | wp_step))
  refine codeAny_call_builtin SF.slot.plain SF.entry (SF.slot.check _ _ _ _ _ _ _ _ hT (SF.args _ _ _) (fn_entry hB hx hc hnc hd (fun dx h' tk' a b c e f => ?_) hw hsz))
  repeat (any_goals (first | assumption | wp_step))
  exact hq dx h' tk' a b c e f
end
end Mine

end
section
open PySem PySem.W PySem.Calls PyProof.Rows
namespace Mine
open PySem.Builtin.ObjectAttr
theorem slot_fn_ga : Slot "function" "__getattribute__" "object.__getattribute__" :=
  .of (owner := "object") (n := "__getattribute__") (by rw [typeLookup_type, builtinLookup_eq_fast]; kernel_rfl) (by decide +kernel) (by decide +kernel) (by decide +kernel)
    (by first | exact .inl (by decide +kernel) | exact .inr (by decide +kernel)) (by rw [isSubtype_type]; kernel_rfl)
theorem fn_no_getattr : typeLookup (.type "function") (Str.ofString "__getattr__") = pure none := by rw [typeLookup_type, builtinLookup_eq_fast]; kernel_rfl
theorem entry_object_ga : entryFor table "object.__getattribute__" = some Builtin.«object.__getattribute__» := entryFor_of_tree (by kernel_rfl)
theorem args_object_ga (a b : Value) : argsOk "object.__getattribute__" ⟨[a, b], []⟩ := by unfold argsOk; kernel_rfl

section
variable {prog : Program} {w : World} {A : Around} {E : Value → Shared → Prop} {h : Heap} {g : Array GenState} {d : Drawn} {t : Nat} {os : OsState} {x : Addr} {name : Str} {v : Value} {fd : FuncData} {sl : Array (Option Value)}

theorem ga_entry {o : Obj} {dx : Addr} {mA : Str → Option Value} {tk : Tok} {Q : Fin → Shared → Prop} (hB : typeLookup (.type "function") name = pure none) (hx : h.get? x = some o) (hc : o.cls = .type "function") (hnc : o.data = .func fd)
    (hd : o.dict = some dx) (hn : h.Ns dx mA) (hv : mA name = some v) (hq : Q (.done (.ret v)) ⟨h, g, d, t, os⟩) :
    wpAny (model prog w) A (Builtin.«object.__getattribute__» ⟨[.ref x, .str name tk], []⟩) Q E ⟨h, g, d, t, os⟩ := by
  unfold Builtin.«object.__getattribute__»
  repeat (first | (with_reducible refine wpAny_loadPart_at hx ?_; rw [hc]) | (rw [hB]) | wp_step)
  rw [hnc]
  show wpAny _ A (instanceDict x false) _ _ _
  unfold instanceDict
  refine wpAny_bind (wpAny_loadPart_at hx ?_)
  rw [hc, hd]
  refine wpAny_pure ?_
  show wpAny _ A (nsGet dx name) _ _ _
  refine wpAny_nsGet hn ?_
  rw [hv]
  exact wpAny_bind (wpAny_rule (wpAny_pure (wpAny_pure hq)))

theorem getattr_fn {o : Obj} {dx : Addr} {mA : Str → Option Value} {e : Bool} {Q : Value → Shared → Prop} (hB : typeLookup (.type "function") name = pure none) (hx : h.get? x = some o) (hc : o.cls = .type "function") (hnc : o.data = .func fd)
    (hd : o.dict = some dx) (hn : h.Ns dx mA) (hv : mA name = some v) (hh : handedIn v = true) (hq : ∀ tk, Q v ⟨h, g, d, tk, os⟩) :
    wpAny (model prog w) A (getAttr (.ref x) name e) Q E ⟨h, g, d, t, os⟩ := by
  have f3 := slot_fn_ga.bind (.ref x)
  have hT : (⟨h, g, d, t + 1, os⟩ : Shared).TypeIs (.ref x) "function" := ⟨o, hx, hc⟩
  unfold getAttr getAttrBy
  repeat (any_goals (first | assumption | (with_reducible refine wpAny_loadPart_at hx ?_; rw [hc]) | (rw [slot_fn_ga.lookup]) | wp_step))
  rw [if_neg (by cases e <;> decide)]
  unfold boundAndCalled
  rw [f3]
  refine wpAny_bind (wpAny_pure (wpAny_call ?_))
  refine codeAny_call_builtin slot_fn_ga.plain entry_object_ga (slot_fn_ga.check _ _ _ _ _ _ _ _ hT (args_object_ga _ _) (ga_entry hB hx hc hnc hd hn hv ?_))
  show wpAny _ A (handedOut v) _ _ _
  rw [handedOut_of hh]
  exact wpAny_pure (hq _)

theorem getmethod_fn {o : Obj} {dx : Addr} {mA : Str → Option Value} {pl : Sem Bool} {Q : Value × List Value → Shared → Prop} (hB : typeLookup (.type "function") name = pure none) (hx : h.get? x = some o) (hc : o.cls = .type "function") (hnc : o.data = .func fd)
    (hd : o.dict = some dx) (hn : h.Ns dx mA) (hv : mA name = some v) (hh : handedIn v = true) (hq : ∀ tk, Q (v, []) ⟨h, g, d, tk, os⟩) :
    wpAny (model prog w) A (getMethod (.ref x) name pl) Q E ⟨h, g, d, t, os⟩ := by
  have hT : (⟨h, g, d, t, os⟩ : Shared).TypeIs (.ref x) "function" := ⟨o, hx, hc⟩
  unfold getMethod specialOf
  repeat (any_goals (first | assumption | (with_reducible refine getattr_fn hB hx hc hnc hd hn hv hh (fun tk => ?_)) | (with_reducible refine wpAny_loadPart_at hx ?_; rw [hc]) | (rw [slot_fn_ga.lookup]) | (rw [fn_no_getattr]) | (rw [hB]) | wp_step))
  exact hq _
end
end Mine

end
section
open PySem PySem.W PySem.Calls PyProof.Rows
namespace Mine
section
variable {prog : Program} {w : World} {A : Around} {s : Shared}
  {R : Result → Shared → Prop} {name qual : Str} {params : Arguments} {body : PySem.Expr} {scope : Scope} {cl : List (Str × Addr)} {pm cdv ct : Value} {od : Option Addr} {osl : Array (Option Value)} {f c' : Addr} {args : Args} {binds : List (Str × Value)}
/- entering a lambda that the text has made -/
theorem enterL {oc : Value} (ho : s.heap.get? f = some ⟨oc, od, .func (kla_fn name qual params body scope cl pm (.ref c') ct), osl⟩) (hlim : s.heap.NoLimit) (hcd : s.heap.CodeRec (.ref c') qual) (hroom : A.depth < recursionLimit)
    (hbind : BindsTo s (kla_fn name qual params body scope cl pm (.ref c') ct) args binds) (hloc : ∀ y ∈ binds, scope.names.lookup y.1 = some .local)
    (h : ∀ h₁, Fr s.heap s.heap.objs.size h₁ (fun y => binds.reverse.lookup y) → News s.heap s.heap.objs.size h₁ [] →
      wpAny (model prog w) (A.deeper (envX qual scope s.heap.objs.size f (.ref c') cl)) (eval body (envX qual scope s.heap.objs.size f (.ref c') cl))
        (fun v s' => R (.ok (.ret v)) s')
        (fun e s' => wpAny (model prog w) (A.deeper (envX qual scope s.heap.objs.size f (.ref c') cl)) (leaving (envX qual scope s.heap.objs.size f (.ref c') cl) e) (fun _ s'' => R (.error e) s'') (fun e' s'' => R (.error e') s'') s')
        { s with heap := h₁, toks := s.toks + binds.length })
    (hco : scope.isCoroutine = false) (hgen : scope.isGenerator = false) (hk : scope.kind = .function)
    (hcell : ∀ x ∈ scope.names, x.2 ≠ .cell) : codeAny (model prog w) A (.call (.ref f) args) R s := by
  refine kla_callFunE hroom ho rfl hco hgen rfl hcd (hbind _ _ _ _ ?_)
  refine wpAny_newFunctionEnv hcell hloc (fun h₁ hns hsb => ⟨hlim.fresh _ hsb, ?_⟩) hk
  show codeAny _ _ (.expr body (envX qual scope s.heap.objs.size f (.ref c') cl)) _ _
  have hk₁ : ∀ b o, s.heap.get? b = some o → h₁.get? b = some o := fun b o e => hsb.extBut b o (Nat.ne_of_lt (Heap.lt_size e)) (Heap.get?_push_of_some _ e)
  exact kla_codeExpr (h h₁ ⟨hns, hk₁, Nat.le_refl _⟩ News.nil)
end
section
variable {M : Model} {A : Around} {E : Value → Shared → Prop} {s : Shared} {h₀ : Heap} {L a : Addr} {m : Str → Option Value} {cn : Str} {cs : Scope} {ccd : Value} {cl : List (Str × Addr)} {x : Str} {pos : Pos} {v : Value} {Q : Value → Shared → Prop} {c : Addr} {o : Obj}
/- a free name whose cell stands on the ground -/
theorem nameX_FB (F : Fr h₀ L s.heap m) (hc : cl.lookup x = some c) (ho : h₀.get? c = some o) (hd : o.data = .cell (some v)) (h : Q v s)
    (hk : cs.kind = .function) (hx : (envX cn cs L a ccd cl).kindOf x = some .free) (hb : (x == ("__debug__" : Str)) = false := by decide) (hn : (x == ("__classdict__" : Str)) = false := by decide) :
    wpAny M A (eval (.Name x pos) (envX cn cs L a ccd cl)) Q E s := wpAny_Name (wpAny_loadName_free hk hx hc ⟨_, F.keep _ _ ho, hd⟩ h hn) hb
theorem nameX_FA (h : Q v s) (hk : cs.kind = .function := by rfl) (hx : (envX cn cs L a ccd cl).kindOf x = some .free := by rfl) (F : Fr h₀ L s.heap m := by k_asm) (hc : cl.lookup x = some c := by rfl) (ho : h₀.get? c = some o := by assumption) (hd : o.data = .cell (some v) := by assumption)
    (hb : (x == ("__debug__" : Str)) = false := by decide) (hn : (x == ("__classdict__" : Str)) = false := by decide) :
    wpAny M A (eval (.Name x pos) (envX cn cs L a ccd cl)) Q E s := nameX_FB F hc ho hd h hk hx hb hn
end
/- what the rule's own test tells of a name -/
noncomputable def score (front name : Str) : Int := if Txt.startswith name front then (front.length : Int) + 1 else 0
/- the call of the rule's test, wherever all that stands here still stands -/
noncomputable def Applies (w : World) (h : Heap) (q : Addr) (front : Str) : Prop :=
  FnAt q h ∧ ∀ (A : Around) (s : Shared) (name : Str) (t : Tok) (Q E : Value → Shared → Prop), h.StaysIn s.heap → A.depth < recursionLimit →
    (∀ h' tk t', s.heap.StaysIn h' → Q (.int (score front name) t') { s with heap := h', toks := tk }) →
    wpAny (model PySem.Challenge.rw_nq0100_01.row.prog w) A (call (.ref q) [.str name t]) Q E s
/- a rule's line -/
inductive LineAt (w : World) (h : Heap) (a : Addr) (front : Str) (free : Bool) : Prop
  | mk (o : Obj) (dx q : Addr) (fd : FuncData) (mA : Str → Option Value) (e1 : h.get? a = some o) (e2 : o.cls = .type "function") (e3 : o.data = .func fd) (e4 : o.dict = some dx) (e5 : h.Ns dx mA) (e6 : mA (Str.ofString "applies_to") = some (.ref q)) (e7 : mA (Str.ofString "allowance") = some (.bool free)) (e8 : Applies w h q front)
theorem stays_trans {a b c : Heap} (h : a.StaysIn b) (k : b.StaysIn c) : a.StaysIn c := fun x o e => k x o (h x o e)
theorem Applies.keeps {w : World} {h h' : Heap} {q : Addr} {front : Str} (x : Applies w h q front) (k : h.StaysIn h') : Applies w h' q front :=
  ⟨x.1.imp fun _ => .imp fun _ => .imp fun _ => .imp fun _ e => k _ _ e, fun A s name t Q E st hr hq => x.2 A s name t Q E (stays_trans k st) hr hq⟩
theorem LineAt.keeps {w : World} {h h' : Heap} {a : Addr} {front : Str} {free : Bool} (x : LineAt w h a front free) (k : h.StaysIn h') : LineAt w h' a front free := by
  cases x with
  | mk o dx q fd mA e1 e2 e3 e4 e5 e6 e7 e8 => exact ⟨o, dx, q, fd, mA, k _ _ e1, e2, e3, e4, e5.keeps k, e6, e7, e8.keeps k⟩
noncomputable abbrev lamq : Str := (Str.ofString "_law_line" ++ ".<locals>.") ++ Str.ofString "<lambda>"
/- objects that stand and that were not there before -/
noncomputable def ImmAt (h h₀ : Heap) : List (Addr × Obj) → Prop
  | [] => True
  | p :: r => (h.get? p.1 = some p.2 ∧ h₀.get? p.1 = none) ∧ ImmAt h h₀ r
theorem ImmAt.mem {h h₀ : Heap} {l : List (Addr × Obj)} (x : ImmAt h h₀ l) : ∀ p ∈ l, h.get? p.1 = some p.2 ∧ h₀.get? p.1 = none := by
  induction l with
  | nil => intro p hp; cases hp
  | cons q r ih =>
    intro p hp
    rcases List.mem_cons.mp hp with e | hp
    · rw [e]; exact x.1
    · exact ih x.2 p hp
/- a lambda's code among them -/
inductive CodeOn (imm : List (Addr × Obj)) (c : Addr) : Prop
  | mk (o : Obj) (vs : Array Value) (t : Tok) (m : (c, o) ∈ imm) (e1 : o.data = .fields vs) (e2 : vs[1]? = some (.str lamq t))
theorem CodeOn.recAt {imm : List (Addr × Obj)} {c : Addr} {h : Heap} (x : CodeOn imm c) (k : ∀ p ∈ imm, h.get? p.1 = some p.2) : h.CodeRec (.ref c) lamq := by
  cases x with
  | mk o vs t m e1 e2 => exact ⟨c, o, vs, t, rfl, k _ m, e1, e2⟩
theorem CodeOn.more {imm imm' : List (Addr × Obj)} {c : Addr} (x : CodeOn imm c) (k : ∀ p ∈ imm, p ∈ imm') : CodeOn imm' c := by
  cases x with
  | mk o vs t m e1 e2 => exact ⟨o, vs, t, k _ m, e1, e2⟩
/- the one table that the call turns: empty, or laid by the first line made -/
noncomputable def TabIs (t : Obj) (imm : List (Addr × Obj)) : Prop := t = tabObj #[] ∨
  ∃ c1 c2, t = tabObj #[rawInt 130, rawInt 11, .ref c1, rawInt 131, rawInt 22, .ref c2] ∧ CodeOn imm c1 ∧ CodeOn imm c2
theorem TabIs.more {imm imm' : List (Addr × Obj)} {t : Obj} (x : TabIs t imm) (k : ∀ p ∈ imm, p ∈ imm') : TabIs t imm' := by
  rcases x with e | ⟨c1, c2, e, h1, h2⟩
  · exact .inl e
  · exact .inr ⟨c1, c2, e, h1.more k, h2.more k⟩
/- a rule's line, by the objects that it stands on -/
noncomputable def LineOf (w : World) (g : Heap) (imm : List (Addr × Obj)) (a : Addr) (front : Str) (free : Bool) : Prop := ∀ hI, g.StaysIn hI → (∀ p ∈ imm, hI.get? p.1 = some p.2) → LineAt w hI a front free
theorem LineOf.more {w : World} {g : Heap} {imm imm' : List (Addr × Obj)} {a : Addr} {front : Str} {free : Bool} (x : LineOf w g imm a front free) (k : ∀ p ∈ imm, p ∈ imm') : LineOf w g imm' a front free :=
  fun hI h1 h2 => x hI h1 fun p hp => h2 p (k p hp)
theorem unhide {h : Heap} {x : Addr} (e : (hideAll h [119]).get? x = none) (n : x ≠ 119) : h.get? x = none := by
  cases q : h.get? x with
  | none => rfl
  | some o => have := hideAll_get [119] q (fun q => n (List.mem_singleton.mp q)); rw [e] at this; cases this
theorem ns_of_ns1 {h : Heap} {a : Addr} {m : Str → Option Value} (x : h.Ns1 a m) : h.Ns a m := by
  obtain ⟨o, es, ep, e1, e2, e3, _, e4⟩ := x
  exact ⟨o, es, ep, e1, e2, e3, e4⟩
theorem fr_after {h₀ h h' : Heap} {L x dx : Addr} {m : Str → Option Value} (F : Fr h₀ L h m) (hxL : x ≠ L) (hx0 : h₀.get? x = none) (hdx : h.get? dx = none ∨ (h₀.get? dx = none ∧ dx ≠ L))
    (hk : ∀ b o, b ≠ x → b ≠ dx → h.get? b = some o → h'.get? b = some o) : Fr h₀ L h' m := by
  have hL : L ≠ dx := fun q => by
    rcases hdx with h1 | h1
    · obtain ⟨oL, _, _, h2, _⟩ := F.ns; rw [q, h1] at h2; cases h2
    · exact h1.2 q.symm
  refine ⟨F.ns.at' fun o' e => hk L o' (fun q => hxL q.symm) hL e, fun b o' e => hk b o' (fun q => ?_) (fun q => ?_) (F.keep b o' e), F.above⟩
  · rw [q, hx0] at e; cases e
  · rcases hdx with h1 | h1
    · have := F.keep b o' e; rw [q, h1] at this; cases this
    · rw [q, h1.1] at e; cases e
theorem ne_of_code {h : Heap} {c : Addr} {ps : Array Value} {q : Str} (r : h.CodeRec (.ref c) q) (hP : h.get? 119 = some (tabObj ps)) (hn : ∀ t, ps[1]? ≠ some (.str q t)) : c ≠ 119 := by
  rintro rfl
  obtain ⟨c, o, vs, t, e1, e2, e3, e4⟩ := r
  cases e1
  rw [hP] at e2; cases e2; cases e3
  exact hn t e4
theorem rec_kept {h h' : Heap} {c : Addr} {q : Str} (r : h.CodeRec (.ref c) q) (k : ∀ o, h.get? c = some o → h'.get? c = some o) : h'.CodeRec (.ref c) q := by
  obtain ⟨c, o, vs, t, e1, e2, e3, e4⟩ := r
  cases e1
  exact ⟨c, o, vs, t, rfl, k o e2, e3, e4⟩
local macro_rules | `(tactic| walk_at "eval Name") => `(tactic| (k_here; k_dflt (refine' nameX_FA ?_; k_whole)))

theorem line_spec {w : World} {mean : ExcName → Option Value} {mg mb : Str → Option Value} {A : Around} {g : Heap}
  {s : Shared} {front : Str} {t : Tok} {b : Bool} {Q E : Value → Shared → Prop}
  {t₀ : Obj} {imm₀ : List (Addr × Obj)}
  (G : Gr w mean mg mb g) (st : g.StaysIn s.heap) (hroom : A.depth < recursionLimit) (h119 : s.heap.get? 119 = some t₀) (hT : TabIs t₀ imm₀) (him : ∀ p ∈ imm₀, s.heap.get? p.1 = some p.2) (hfl : front.length ≤ 64)
  (ret : ∀ a h' tk t₁ imm₁, (∀ x o, x ≠ 119 → s.heap.get? x = some o → h'.get? x = some o) → h'.get? 119 = some t₁ → ImmAt h' s.heap imm₁ → TabIs t₁ (imm₁ ++ imm₀) → LineOf w g (imm₁ ++ imm₀) a front b → s.heap.get? a = none → Q (.ref a) { s with heap := h', toks := tk }) :
  wpAny (model PySem.Challenge.rw_nq0100_01.row.prog w) A (call (.ref 124) [.str front t, .bool b]) Q E s := by
  have X := G.X.keeps st
  have T := G.T.keeps st
  revert X; k_fill; intro X
  rcases hT with rfl | ⟨c1, c2, rfl, r1, r2⟩
  · clear him
    have hP' : s.heap.get? 119 = some (tabObj #[]) := h119
    refine wpAny_call ?_
    k_dflt (refine' enterC (hid := [(119, tabObj #[])]) (binds := [(Str.ofString "front", .str front t), (Str.ofString "allowed", .bool b)]) (fun q hq => by rw [List.mem_singleton.mp hq]; exact h119) X T ?k6 ?k7 hroom ?k9 ?kB ?kD ?_ ?c2 ?c3 ?c4; (case k6 => k_is); (case k7 => k_is); (case k9 => exact BindsTo.of_eq rfl); (case kB => exact rfl); (case kD => decide +kernel); (case c2 => exact rfl); (case c3 => exact rfl); (case c4 => exact rfl))
    clear X T
    intro L' h' tk' cells' hL F' N' Y' l1
    have G' := G.keeps (stays_hide st G.n) (hideAll_none _ (List.mem_singleton.mpr rfl))
    simp only [List.map_cons, List.map_nil] at F' N'
    have X := G'.X
    have T := G'.T
    have C := G'.C
    k_lt l1
    k_cells Y'
    dsimp only [List.cons_append, List.nil_append] at N'
    dsimp only
    (try k_unmd); k_fold
    k_steps
    rename Fr _ _ _ _ => F1
    rename News _ _ _ _ => N1
    rename Obj.data _ = Data.cell _ => dcell
    rename_i ob f1 c1 oc1 vs1 t1 ct1 hA tkA d1a d2a la lb hB FB NB f2 c2 oc2 vs2 t2 ct2 hC tkC d1b d2b lc ld
    have m2 := News.get N1 (by k_mem : (f2, kla_obj _ _ _ _ _ _ _ _ _) ∈ _)
    have mc := News.get N1 (by k_mem : (L' + 1, ob) ∈ _)
    have mT := News.get N1 (by k_mem : (119, tabObj _) ∈ _)
    have x1 := (N1 _ (by k_mem : (f1, kla_obj _ _ _ _ _ _ _ _ _) ∈ _)).2
    have x2 := (N1 _ (by k_mem : (f2, kla_obj _ _ _ _ _ _ _ _ _) ∈ _)).2
    have x3 := (N1 _ (by k_mem : (L' + 1, ob) ∈ _)).2
    have u1 := N1 _ (by k_mem : (c1, oc1) ∈ _)
    have u2 := N1 _ (by k_mem : (c2, oc2) ∈ _)
    refine setattr_fn (o := kla_obj _ _ _ _ _ _ _ _ _) (mA := fun _ => none) (ns := []) fn_no_applies_to (News.get N1 (by k_mem)) rfl rfl (.inl ⟨rfl, fun _ => rfl⟩) (fun dx h1 tk1 e1 ne1 e2 e3 e4 => ?_) Within.nil (by decide)
    have e1' : hC.get? dx = none := e1.elim (fun q => by cases q) (·.2)
    have F2 := fr_after F1 x1.1 x1.2 (.inl e1') e4
    have d0 : (hideAll s.heap [119]).get? dx = none := by
      cases q : (hideAll s.heap [119]).get? dx with
      | none => rfl
      | some o => have := F1.keep _ _ q; rw [e1'] at this; cases this
    have dL : dx ≠ L' := fun q => by obtain ⟨oL, _, _, h2, _⟩ := F1.ns; rw [← q, e1'] at h2; cases h2
    dsimp only
    clear F1 N1 FB NB
    walk1
    walk1
    walk1
    walk1
    refine setattr_fn (mA := fun y => if y = Str.ofString "applies_to" then some (.ref f2) else none) (ns := [Str.ofString "applies_to"]) fn_no_allowance e2 rfl rfl (.inr ⟨dx, rfl, ne1, e3⟩) (fun dx2 h2 tk2 a1 ne2 a2 a3 a4 => ?_) (Within.cons _ _ Within.nil) (by decide)
    have e5 : dx2 = dx := a1.elim (fun q => (Option.some.inj q).symm) (fun q => by cases q.1)
    subst e5
    have kept : ∀ y o, y ≠ f1 → hC.get? y = some o → h2.get? y = some o := fun y o hy e =>
      have hd : y ≠ dx2 := fun q => by rw [q, e1'] at e; cases e
      a4 y o hy hd (e4 y o hy hd e)
    have F3 := fr_after F2 x1.1 x1.2 (.inr ⟨d0, dL⟩) a4
    dsimp only
    clear F2
    walk1
    walk1
    walk1
    show Q (.ref f1) _
    have n1 : f1 ≠ 119 := neN (by omega)
    have n2 : f2 ≠ f1 := neN (by omega)
    have n3 : L' + 1 ≠ f1 := neN (by omega)
    have all : ∀ y o, y ≠ 119 → s.heap.get? y = some o → h2.get? y = some o := fun y o hy e => F3.keep y o (hideAll_get _ e fun q => hy (List.mem_singleton.mp q))
    have w1 := kept c1 _ (neN (by omega)) u1.1
    have w2 := kept c2 _ (neN (by omega)) u2.1
    have v1 := unhide u1.2.2 (neN (by omega))
    have v2 := unhide u2.2.2 (neN (by omega))
    have k2 := kept _ _ n2 m2
    have kc := kept _ _ n3 mc
    have dcell' : ob.data = Data.cell (some (.str front t)) := dcell
    have nl := T.nolimit.keeps F3.keep
    obtain ⟨od, es, ep, hod, hor⟩ := ns_of_ns1 a3
    have y1 := unhide x1.2 n1
    have y2 : s.heap.get? dx2 = none := unhide d0 (fun q => by rw [q, mT] at e1'; cases e1')
    have y3 := unhide x2.2 (neN (by omega))
    have y4 := unhide x3.2 (neN (by omega))
    refine ret f1 h2 _ (tabObj #[rawInt 130, rawInt 11, .ref c1, rawInt 131, rawInt 22, .ref c2]) [(f1, _), (dx2, od), (f2, _), (L' + 1, ob), (c1, oc1), (c2, oc2)] all ((kept _ _ n1.symm mT).trans (by rfl)) ⟨⟨a2, y1⟩, ⟨hod, y2⟩, ⟨k2, y3⟩, ⟨kc, y4⟩, ⟨w1, v1⟩, ⟨w2, v2⟩, trivial⟩ (.inr ⟨c1, c2, rfl, ⟨oc1, _, _, .tail _ (.tail _ (.tail _ (.tail _ (.head _)))), d1a, d2a⟩, ⟨oc2, _, _, .tail _ (.tail _ (.tail _ (.tail _ (.tail _ (.head _))))), d1b, d2b⟩⟩) (fun hI hg hIm => ⟨_, dx2, f2, _, _, hIm (f1, _) (.head _), rfl, rfl, rfl, ⟨od, es, ep, hIm (dx2, od) (.tail _ (.head _)), hor⟩, ?_, ?_, ⟨_, _, _, _, hIm (f2, _) (.tail _ (.tail _ (.head _)))⟩, ?_⟩) y1
    · rw [if_neg (by decide)]; exact if_pos rfl
    · exact if_pos rfl
    · intro A2 s2 nm t2 Q2 E2 st2 hr2 hq2
      have gst2 : g.StaysIn s2.heap := stays_trans hg st2
      have X2 := G.X.keeps gst2
      have T2 := G.T.keeps gst2
      have k2' := st2 _ _ (hIm (f2, _) (.tail _ (.tail _ (.head _))))
      have kc' := st2 _ _ (hIm (L' + 1, ob) (.tail _ (.tail _ (.tail _ (.head _)))))
      have q2' : s2.heap.CodeRec (.ref c2) lamq := ⟨c2, oc2, _, _, rfl, st2 _ _ (hIm (c2, oc2) (.tail _ (.tail _ (.tail _ (.tail _ (.tail _ (.head _))))))), d1b, d2b⟩
      clear X T C G' F3 qk ek
      refine wpAny_call ?_
      k_dflt (refine' enterL (binds := [(Str.ofString "name", .str nm t2)]) k2' T2.nolimit q2' hr2 ?k9 ?kB ?_ ?c2 ?c3 ?c4 ?c5; (case k9 => exact BindsTo.of_eq rfl); (case kB => exact locs rfl); (case c2 => exact rfl); (case c3 => exact rfl); (case c4 => exact rfl); (case c5 => decide))
      intro h4 F4 N4
      dsimp only
      (try k_unmd); k_fold
      k_steps
      · have hs : score front nm = (front.length : Int) + 1 := by unfold score; rw [if_pos (by assumption)]
        rw [← hs]; exact hq2 _ _ _ F4.keep
      · have hs : score front nm = 0 := by unfold score; rw [if_neg (by simp_all)]
        rw [← hs]; exact hq2 _ _ _ F4.keep
  · have R1 := r1.recAt him; have R2 := r2.recAt him; clear him
    have hP' : s.heap.get? 119 = some (tabObj #[rawInt 130, rawInt 11, .ref c1, rawInt 131, rawInt 22, .ref c2]) := h119
    refine wpAny_call ?_
    k_dflt (refine' enterC (hid := [(119, tabObj #[rawInt 130, rawInt 11, .ref c1, rawInt 131, rawInt 22, .ref c2])]) (binds := [(Str.ofString "front", .str front t), (Str.ofString "allowed", .bool b)]) (fun q hq => by rw [List.mem_singleton.mp hq]; exact h119) X T ?k6 ?k7 hroom ?k9 ?kB ?kD ?_ ?c2 ?c3 ?c4; (case k6 => k_is); (case k7 => k_is); (case k9 => exact BindsTo.of_eq rfl); (case kB => exact rfl); (case kD => decide +kernel); (case c2 => exact rfl); (case c3 => exact rfl); (case c4 => exact rfl))
    clear X T
    intro L' h' tk' cells' hL F' N' Y' l1
    have G' := G.keeps (stays_hide st G.n) (hideAll_none _ (List.mem_singleton.mpr rfl))
    simp only [List.map_cons, List.map_nil] at F' N'
    have X := G'.X
    have T := G'.T
    have C := G'.C
    k_lt l1
    k_cells Y'
    dsimp only [List.cons_append, List.nil_append] at N'
    dsimp only
    (try k_unmd); k_fold
    k_steps
    rename Fr _ _ _ _ => F1
    rename News _ _ _ _ => N1
    rename Obj.data _ = Data.cell _ => dcell
    rename_i ob f1 ct1 hA tkA la hB FB NB f2 ct2 hC tkC lc
    have m2 := News.get N1 (by k_mem : (f2, kla_obj _ _ _ _ _ _ _ _ _) ∈ _)
    have mc := News.get N1 (by k_mem : (L' + 1, ob) ∈ _)
    have mT := News.get N1 (by k_mem : (119, tabObj _) ∈ _)
    have x1 := (N1 _ (by k_mem : (f1, kla_obj _ _ _ _ _ _ _ _ _) ∈ _)).2
    have x2 := (N1 _ (by k_mem : (f2, kla_obj _ _ _ _ _ _ _ _ _) ∈ _)).2
    have x3 := (N1 _ (by k_mem : (L' + 1, ob) ∈ _)).2
    skip
    refine setattr_fn (o := kla_obj _ _ _ _ _ _ _ _ _) (mA := fun _ => none) (ns := []) fn_no_applies_to (News.get N1 (by k_mem)) rfl rfl (.inl ⟨rfl, fun _ => rfl⟩) (fun dx h1 tk1 e1 ne1 e2 e3 e4 => ?_) Within.nil (by decide)
    have e1' : hC.get? dx = none := e1.elim (fun q => by cases q) (·.2)
    have F2 := fr_after F1 x1.1 x1.2 (.inl e1') e4
    have d0 : (hideAll s.heap [119]).get? dx = none := by
      cases q : (hideAll s.heap [119]).get? dx with
      | none => rfl
      | some o => have := F1.keep _ _ q; rw [e1'] at this; cases this
    have dL : dx ≠ L' := fun q => by obtain ⟨oL, _, _, h2, _⟩ := F1.ns; rw [← q, e1'] at h2; cases h2
    dsimp only
    clear F1 N1 FB NB
    walk1
    walk1
    walk1
    walk1
    refine setattr_fn (mA := fun y => if y = Str.ofString "applies_to" then some (.ref f2) else none) (ns := [Str.ofString "applies_to"]) fn_no_allowance e2 rfl rfl (.inr ⟨dx, rfl, ne1, e3⟩) (fun dx2 h2 tk2 a1 ne2 a2 a3 a4 => ?_) (Within.cons _ _ Within.nil) (by decide)
    have e5 : dx2 = dx := a1.elim (fun q => (Option.some.inj q).symm) (fun q => by cases q.1)
    subst e5
    have kept : ∀ y o, y ≠ f1 → hC.get? y = some o → h2.get? y = some o := fun y o hy e =>
      have hd : y ≠ dx2 := fun q => by rw [q, e1'] at e; cases e
      a4 y o hy hd (e4 y o hy hd e)
    have F3 := fr_after F2 x1.1 x1.2 (.inr ⟨d0, dL⟩) a4
    dsimp only
    clear F2
    walk1
    walk1
    walk1
    show Q (.ref f1) _
    have n1 : f1 ≠ 119 := neN (by omega)
    have n2 : f2 ≠ f1 := neN (by omega)
    have n3 : L' + 1 ≠ f1 := neN (by omega)
    have all : ∀ y o, y ≠ 119 → s.heap.get? y = some o → h2.get? y = some o := fun y o hy e => F3.keep y o (hideAll_get _ e fun q => hy (List.mem_singleton.mp q))
    skip
    have k2 := kept _ _ n2 m2
    have kc := kept _ _ n3 mc
    have dcell' : ob.data = Data.cell (some (.str front t)) := dcell
    have nl := T.nolimit.keeps F3.keep
    obtain ⟨od, es, ep, hod, hor⟩ := ns_of_ns1 a3
    have y1 := unhide x1.2 n1
    have y2 : s.heap.get? dx2 = none := unhide d0 (fun q => by rw [q, mT] at e1'; cases e1')
    have y3 := unhide x2.2 (neN (by omega))
    have y4 := unhide x3.2 (neN (by omega))
    refine ret f1 h2 _ (tabObj #[rawInt 130, rawInt 11, .ref c1, rawInt 131, rawInt 22, .ref c2]) [(f1, _), (dx2, od), (f2, _), (L' + 1, ob)] all ((kept _ _ n1.symm mT).trans (by rfl)) ⟨⟨a2, y1⟩, ⟨hod, y2⟩, ⟨k2, y3⟩, ⟨kc, y4⟩, trivial⟩ (.inr ⟨c1, c2, rfl, r1.more (fun p hp => List.mem_append_right _ hp), r2.more (fun p hp => List.mem_append_right _ hp)⟩) (fun hI hg hIm => ⟨_, dx2, f2, _, _, hIm (f1, _) (.head _), rfl, rfl, rfl, ⟨od, es, ep, hIm (dx2, od) (.tail _ (.head _)), hor⟩, ?_, ?_, ⟨_, _, _, _, hIm (f2, _) (.tail _ (.tail _ (.head _)))⟩, ?_⟩) y1
    · rw [if_neg (by decide)]; exact if_pos rfl
    · exact if_pos rfl
    · intro A2 s2 nm t2 Q2 E2 st2 hr2 hq2
      have gst2 : g.StaysIn s2.heap := stays_trans hg st2
      have X2 := G.X.keeps gst2
      have T2 := G.T.keeps gst2
      have k2' := st2 _ _ (hIm (f2, _) (.tail _ (.tail _ (.head _))))
      have kc' := st2 _ _ (hIm (L' + 1, ob) (.tail _ (.tail _ (.tail _ (.head _)))))
      have q2' : s2.heap.CodeRec (.ref c2) lamq := CodeOn.recAt r2 (fun p hp => st2 _ _ (hIm p (List.mem_append_right _ hp)))
      clear X T C G' F3 qk ek
      refine wpAny_call ?_
      k_dflt (refine' enterL (binds := [(Str.ofString "name", .str nm t2)]) k2' T2.nolimit q2' hr2 ?k9 ?kB ?_ ?c2 ?c3 ?c4 ?c5; (case k9 => exact BindsTo.of_eq rfl); (case kB => exact locs rfl); (case c2 => exact rfl); (case c3 => exact rfl); (case c4 => exact rfl); (case c5 => decide))
      intro h4 F4 N4
      dsimp only
      (try k_unmd); k_fold
      k_steps
      · have hs : score front nm = (front.length : Int) + 1 := by unfold score; rw [if_pos (by assumption)]
        rw [← hs]; exact hq2 _ _ _ F4.keep
      · have hs : score front nm = 0 := by unfold score; rw [if_neg (by simp_all)]
        rw [← hs]; exact hq2 _ _ _ F4.keep
end Mine

end
section
open PySem PySem.W PySem.Calls PyProof.Rows
namespace Mine

/- a frame's map with some names written out -/
noncomputable def over (ps : List (Str × Value)) (m : Str → Option Value) : Str → Option Value := fun y => match ps.lookup y with | some v => some v | none => m y
theorem over_eq {ps : List (Str × Value)} {m : Str → Option Value} (h : ∀ p ∈ ps, m p.1 = some p.2) : over ps m = m := by
  funext y
  unfold over
  cases e : ps.lookup y with
  | none => rfl
  | some v => exact (h _ (mem_of_lookup e)).symm
/- the names read so -/
noncomputable def AllIs (m : Str → Option Value) : List (Str × Value) → Prop
  | [] => True
  | p :: r => m p.1 = some p.2 ∧ AllIs m r
theorem AllIs.mem {m : Str → Option Value} {ps : List (Str × Value)} : AllIs m ps → ∀ p ∈ ps, m p.1 = some p.2 := by
  induction ps with
  | nil => intro _ p hp; exact absurd hp List.not_mem_nil
  | cons q r ih =>
    intro h p hp
    rcases List.mem_cons.mp hp with e | hp
    · rw [e]; exact h.1
    · exact ih h.2 p hp
theorem set_ne {m : Str → Option Value} {x y : Str} {v : Value} {r : Option Value} (hne : (y == x) = false) (h : m y = r) : (if y = x then some v else m y) = r := by
  rw [if_neg (fun e => by rw [e, beq_self_eq_true] at hne; cases hne)]; exact h
theorem set_eq {m : Str → Option Value} {x : Str} {v : Value} : (if x = x then some v else m x) = some v := if_pos rfl
theorem fr_overA {h₀ h : Heap} {L : Addr} {m : Str → Option Value} (ps : List (Str × Value)) (F : Fr h₀ L h m) (hp : AllIs m ps) : Fr h₀ L h (over ps m) := by rw [over_eq hp.mem]; exact F
theorem fr_over {h₀ h : Heap} {L : Addr} {m : Str → Option Value} (ps : List (Str × Value)) (F : Fr h₀ L h m) (hp : ∀ p ∈ ps, m p.1 = some p.2) : Fr h₀ L h (over ps m) := by rw [over_eq hp]; exact F

section
variable {prog : Program} {w : World} {A : Around} {E : Value → Shared → Prop} {s : Shared} {env : Env} {h₀ : Heap} {x : Str} {body : List Stmt} {Q : Flow → Shared → Prop}
/- a turn's end -/
inductive TurnN (h₀ : Heap) (L : Addr) (J : (Str → Option Value) → List (Addr × Obj) → Prop) (own : List (Addr × Obj)) (gs : Array GenState) (dr : Drawn) (os : OsState) (s' : Shared) : Prop
  | mk (h' : Heap) (tk' : Nat) (m' : Str → Option Value) (news₂ : List (Addr × Obj)) (e : s' = ⟨h', gs, dr, tk', os⟩) (F : Fr h₀ L h' m') (N : News h₀ L h' (own ++ news₂)) (ne : ∀ p ∈ news₂, ∀ q ∈ own, p.1 ≠ q.1) (hJ : J m' news₂)
noncomputable def TurnG (h₀ : Heap) (L : Addr) (J : (Str → Option Value) → List (Addr × Obj) → Prop) (own : List (Addr × Obj)) (s : Shared) (Q : Flow → Shared → Prop) (f : Flow) (s' : Shared) : Prop :=
  match f with
  | .ret v => Q (.ret v) s'
  | .brk => Q .next s'
  | _ => TurnN h₀ L J own s.gens s.drawn s.os s'
theorem turnG_step {L : Addr} {wr : List Addr} {own own₂ : List (Addr × Obj)} {J : (Str → Option Value) → List (Addr × Obj) → Prop} {h₁ : Heap} {tk₁ : Nat} {f : Flow} {s₂ : Shared} (hb : ∀ p ∈ own, p ∈ own₂ ∨ ∀ m news, J m news → p ∈ news) (hw : ∀ b ∈ wr, ∃ q ∈ own₂, q.1 = b)
    (x : TurnG h₀ L J own₂ s Q f s₂) : LoopStepV h₀ L wr own J { s with heap := h₁, toks := tk₁ } (fun v s' => Q (.ret v) s') (fun s' => Q .next s') f s₂ := by
  have fin : TurnN h₀ L J own₂ s.gens s.drawn s.os s₂ → LoopStepU h₀ L wr own J { s with heap := h₁, toks := tk₁ } .next s₂ := by
    intro x
    cases x with
    | mk h' tk m' news₂ e F' N' ha hm =>
      refine ⟨rfl, h', tk, m', news₂, e, F', fun p hp => ?_, fun p hp hq => ?_, hm⟩
      · rcases List.mem_append.mp hp with h1 | h1
        · exact (hb p h1).elim (fun q => N' p (List.mem_append_left _ q)) fun q => N' p (List.mem_append_right _ (q m' news₂ hm))
        · exact N' p (List.mem_append_right _ h1)
      · obtain ⟨q, hq1, hq2⟩ := hw _ hq
        exact ha p hp q hq1 hq2.symm
  cases f with
  | ret v => exact .ret x
  | brk => exact .brk x
  | next => exact .next (fin x)
  | cont => exact .cont (fin x)
theorem wr_one {I : Addr} {oI : Obj} : ∀ b ∈ [I], ∃ q ∈ [(I, oI)], q.1 = b := fun b hb => ⟨(I, oI), .head _, (List.mem_singleton.mp hb).symm⟩
/- a loop over a list on the ground -/
theorem loopG {l : Addr} {vs : List Value} {m₀ : Str → Option Value} {news : List (Addr × Obj)} (J : Nat → (Str → Option Value) → List (Addr × Obj) → Prop)
    (hh : A.handled = none) (hl : h₀.IsList l vs.toArray) (F : Fr h₀ env.locals s.heap m₀) (N : News h₀ env.locals s.heap news) (hj : J 0 m₀ news)
    (turn : ∀ i v m₁ news₁ h tk I oI, vs[i]? = some v → (∀ p ∈ news₁, p.1 ≠ I) → J i m₁ news₁ → Fr h₀ env.locals h (fun y => if y = x then some v else m₁ y) → News h₀ env.locals h ([(I, oI)] ++ news₁) →
      wpAny (model prog w) A (execs body env) (TurnG h₀ env.locals (J (i + 1)) [(I, oI)] s Q) E { s with heap := h, toks := tk })
    (done : ∀ m₁ news₁ h tk, J vs.length m₁ news₁ → Fr h₀ env.locals h m₁ → News h₀ env.locals h news₁ → Q .next { s with heap := h, toks := tk }) :
    wpAny (model prog w) A (pyIter (.ref l)) (fun it s₂ => LoopAtV prog w A h₀ env x body Q E it s₂) E s := by
  have hls : s.heap.IsList l vs.toArray := hl.at fun o e => F.keep l o e
  obtain ⟨ol, hol, _⟩ := id hl
  have hlt : l < h₀.objs.size := Heap.lt_size hol
  have hne : l ≠ s.heap.objs.size := Nat.ne_of_lt (Nat.lt_trans (Nat.lt_of_lt_of_le hlt F.above) F.ns.lt)
  refine wpAny_pyIter_list hls ?_
  have W := Walks.list (prog := prog) (w := w) hh s.heap.objs.size l hne vs.toArray
  have hlen : vs.toArray.size = vs.length := by simp
  rw [hlen] at W
  refine ⟨_, _, _, vs.length, _, _, m₀, news, J, rfl, W, ?_, ?_, ?_, ⟨⟨_, Heap.get?_push_size _ rfl, rfl, rfl⟩, hls.at fun o e => Heap.get?_push_of_some _ e⟩, F.push _, (fun p hp => ⟨Heap.get?_push_of_some _ (N p hp).1, (N p hp).2⟩), hj, ?_, ?_⟩
  · intro hm
    rcases List.mem_cons.mp hm with e | hm
    · exact absurd F.ns.lt (e ▸ Nat.lt_irrefl _)
    · exact absurd (Nat.lt_of_lt_of_le hlt F.above) ((List.mem_singleton.mp hm) ▸ Nat.lt_irrefl _)
  · intro b hb
    rw [List.mem_singleton.mp hb]
    exact next_is_new F
  · intro p hp hI
    exact absurd (Heap.lt_size (N p hp).1) ((List.mem_singleton.mp hI) ▸ Nat.lt_irrefl _)
  · rintro i v m₁ news₁ s₁ own ⟨hh', tk', rfl⟩ hin hP hJ hoff hown _ hfp hst F₁ N₁
    have hI0 : h₀.get? s.heap.objs.size = none := next_is_new F
    obtain ⟨⟨oI, hoI, _⟩, _⟩ := id hst
    have hIown : (s.heap.objs.size, oI) ∈ own := hfp _ (List.mem_cons.mpr (.inl rfl)) hI0 _ hoI
    have hone := own_one (fp := [s.heap.objs.size, l]) hown (fun b hb => by
      rcases List.mem_cons.mp hb with e | hb
      · exact .inl e
      · exact .inr ⟨ol, (List.mem_singleton.mp hb) ▸ hol⟩) hoI N₁
    have hP' : vs[i]? = some v := by simpa using hP
    refine wpAny_mono (turn i v m₁ news₁ hh' tk' s.heap.objs.size oI hP' (fun p hp e => hoff p hp (List.mem_singleton.mpr e)) hJ F₁ (news_one hIown N₁)) (fun f s₂ p => ?_) fun _ _ e => e
    exact turnG_step (s := s) (fun p hp => .inl (List.mem_singleton.mpr (hone p hp))) wr_one p
  · rintro h' tk m' news' F' N' _ hJ
    exact done m' news' h' tk hJ F' N'
end

/- the entry: its list of rules stands at rl -/
inductive EntryAt (h : Heap) (e rl : Addr) : Prop
  | mk (d u : Addr) (h1 : Int) (t1 : Tok) (h2 : Int) (t2 : Tok) (h3 : Int) (t3 : Tok) (h4 : Int) (t4 : Tok) (n : Nat) (a : h.get? e = some (instObj 106 d))
  (b : h.get? d = some (dictOf [⟨h1, .str (Str.ofString "useragents") t1, .ref u⟩, ⟨h2, .str (Str.ofString "rulelines") t2, .ref rl⟩, ⟨h3, .str (Str.ofString "delay") t3, .none⟩, ⟨h4, .str (Str.ofString "req_rate") t4, .none⟩] n))
theorem EntryAt.keeps {h h' : Heap} {e rl : Addr} (x : EntryAt h e rl) (k : h.StaysIn h') : EntryAt h' e rl := by
  cases x with
  | mk d u h1 t1 h2 t2 h3 t3 h4 t4 n a b => exact ⟨d, u, h1, t1, h2, t2, h3, t3, h4, t4, n, k _ _ a, k _ _ b⟩
/- the rules' lines, one by one -/
noncomputable def Lines (w : World) (h : Heap) (vs : List Value) (rs : List (Str × Bool)) : Prop := vs.length = rs.length ∧ ∀ (i : Nat) v, vs[i]? = some v → ∃ (a : Addr) (r : Str × Bool), v = Value.ref a ∧ rs[i]? = some r ∧ LineAt w h a r.1 r.2
theorem Lines.keeps {w : World} {h h' : Heap} {vs : List Value} {rs : List (Str × Bool)} (x : Lines w h vs rs) (k : h.StaysIn h') : Lines w h' vs rs :=
  ⟨x.1, fun i v e => (x.2 i v e).imp fun _ => .imp fun _ q => ⟨q.1, q.2.1, q.2.2.keeps k⟩⟩
noncomputable def stp (name : Str) (st : Int × Bool) (r : Str × Bool) : Int × Bool :=
  if score r.1 name = 0 then st else if st.1 < score r.1 name then (score r.1 name, r.2) else if score r.1 name = st.1 ∧ st.2 = false then (st.1, r.2) else st
noncomputable def allow (rs : List (Str × Bool)) (name : Str) : Bool := (rs.foldl (stp name) (-1, true)).2

theorem allowance_spec {w : World} {mean : ExcName → Option Value} {mg mb : Str → Option Value} {A : Around} {g : Heap}
  {s : Shared} {e rl : Addr} {vs : List Value} {rs : List (Str × Bool)} {name : Str} {t : Tok} {Q E : Value → Shared → Prop}
  (G : Gr w mean mg mb g) (st : g.StaysIn s.heap) (hroom : A.depth + 1 < recursionLimit) (hh : A.handled = none) (he : EntryAt s.heap e rl) (hl : s.heap.IsList rl vs.toArray) (hv : Lines w s.heap vs rs)
  (ret : ∀ h' tk, s.heap.StaysIn h' → Q (.bool (allow rs name)) { s with heap := h', toks := tk }) :
  wpAny (model PySem.Challenge.rw_nq0100_01.row.prog w) A (call (.ref 103) [.ref e, .str name t]) Q E s := by
  have X := G.X.keeps st
  have T := G.T.keeps st
  revert X; k_fill; intro X
  refine wpAny_call ?_
  k_dflt (refine' enterP (binds := [(Str.ofString "self", .ref e), (Str.ofString "filename", .str name t)]) X T ?k6 ?k7 (Nat.lt_of_succ_lt hroom) ?k9 ?kB ?_ ?c2 ?c3 ?c4 ?c5; (case k6 => k_is); (case k7 => k_is); (case k9 => exact BindsTo.of_eq rfl); (case kB => exact locs rfl); (case c2 => exact rfl); (case c3 => exact rfl); (case c4 => exact rfl); (case c5 => decide))
  intro h' F' N'
  dsimp only
  (try k_unmd); k_fold
  iterate 11 walk1
  rename Fr _ _ _ _ => F1
  rename News _ _ _ _ => N1
  obtain ⟨d, u, h1, t1, h2, t2, h3, t3, h4, t4, n, he1, he2⟩ := he
  walk1
  refine For_invV s.heap (by rfl) (by rfl) ?_
  refine Attribute_Name_ ?_
  walk1
  k_dflt (refine' get_own F1 X ⟨F1.keep _ _ he1, rfl, rfl, F1.keep _ _ he2⟩ ?k4 ?k5 ?k6 ?k7 ?k8 ?k9 ?_; (case k4 => k_is); (case k5 => k_is); (case k6 => k_is); (case k7 => k_is); (case k8 => k_get); (case k9 => k_handed); k_whole)
  refine loopG (fun i m news => news = [] ∧ (∃ t, m (Str.ofString "best_match") = some (.int ((rs.take i).foldl (stp name) (-1, true)).1 t)) ∧ m (Str.ofString "allowance") = some (.bool ((rs.take i).foldl (stp name) (-1, true)).2) ∧ m (Str.ofString "filename") = some (.str name t)) hh hl F1 N1 ⟨rfl, ⟨_, rfl⟩, rfl, rfl⟩ ?_ ?_
  · rintro i v m₁ news₁ h5 tk5 I oI hi hoff ⟨rfl, ⟨tb, e1⟩, e2, e3⟩ F5 N5
    obtain ⟨a, ⟨front, free⟩, rfl, er, o, dx, q, fd, mA, l1, l2, l3, l4, l5, l6, l7, l8, l9⟩ := hv.2 i v hi
    generalize hst : (rs.take i).foldl (stp name) (-1, true) = sti at e1 e2
    obtain ⟨bst, alw⟩ := sti
    have hstep : (rs.take (i + 1)).foldl (stp name) (-1, true) = stp name (bst, alw) (front, free) := by
      rw [List.take_add_one, er, List.foldl_append, hst]; rfl
    have F6 := fr_overA [(Str.ofString "line", .ref a), (Str.ofString "best_match", .int bst tb), (Str.ofString "allowance", .bool alw), (Str.ofString "filename", .str name t)] F5
      ⟨set_eq, set_ne rfl e1, set_ne rfl e2, set_ne rfl e3, trivial⟩
    clear F5
    simp only [hstep]
    clear F1 N1
    (try dsimp only)
    (try k_unmd); k_fold
    iterate 4 walk1
    have fnq : ∀ {h : Heap}, s.heap.StaysIn h → FnAt q h := fun k => let ⟨oc, od, fd, sl, e⟩ := l8; ⟨oc, od, fd, sl, k _ _ e⟩
    refine getmethod_fn fn_no_applies_to (F6.keep _ _ l1) l2 l3 l4 (l5.keeps F6.keep) l6 rfl (fun tk => ?_)
    dsimp only
    k_dflt (refine callWith_F (fnq F6.keep) ?_)
    walk1
    walk1
    walk1
    refine ⟨fnq F6.keep, ?_⟩
    refine l9 _ _ _ _ _ _ F6.keep hroom (fun h7 tk7 t7 k7 => ?_)
    have F7 := F6.keeps k7
    have N7 := N5.grown k7
    clear F6 N5
    k_steps
    all_goals (try (refine getattr_fn fn_no_allowance (Fr.keep (by assumption) _ _ l1) l2 l3 l4 (l5.keeps (Fr.keep (by assumption))) l7 rfl (fun tk => ?_); k_steps))
    all_goals (rename Fr _ _ _ _ => F8)
    all_goals (rename News _ _ _ _ => N8)
    all_goals (refine ⟨_, _, _, [], rfl, F8, N8, (fun p hp => nomatch hp), rfl, ?_⟩)
    · have hs : stp name (bst, alw) (front, free) = (score front name, free) := by simp_all [stp]
      rw [hs]; exact ⟨⟨_, rfl⟩, rfl, rfl⟩
    · have hs : stp name (bst, alw) (front, free) = (bst, alw) := by simp_all [stp]
      rw [hs]; exact ⟨⟨_, rfl⟩, rfl, rfl⟩
    · have hs : stp name (bst, alw) (front, free) = (bst, free) := by simp_all [stp]
      rw [hs]; exact ⟨⟨_, rfl⟩, rfl, rfl⟩
    · have hs : stp name (bst, alw) (front, free) = (bst, alw) := by simp_all [stp]
      rw [hs]; exact ⟨⟨_, rfl⟩, rfl, rfl⟩
    · have hs : stp name (bst, alw) (front, free) = (bst, alw) := by simp_all [stp]
      rw [hs]; exact ⟨⟨_, rfl⟩, rfl, rfl⟩
  · rintro m₁ news₁ h5 tk5 ⟨rfl, _, e2, e3⟩ F5 N5
    have F6 := fr_overA [(Str.ofString "allowance", _)] F5 ⟨e2, trivial⟩
    clear F5 F1 N1
    dsimp only
    iterate 3 walk1
    show Q _ _
    have hr : rs.take vs.length = rs := by rw [hv.1, List.take_length]
    rw [hr]
    exact ret _ _ F6.keep
end Mine

end
section
open PySem PySem.W PySem.Calls PyProof.Rows PyProof.Rows.TI
namespace Mine
section
variable {M : Model} {A : Around} {E : Value → Shared → Prop} {s : Shared}
/- an exception without a traceback is noted in a frame with others around -/
theorem note_raw {base : Heap} {env : Env} {outer : List Env} {L e : Addr} {oe : Obj} {vs : Array Value} {Q : Unit → Shared → Prop}
    (hfr : A.frames = some (env :: outer)) (hl : s.heap.FunFrames base (env :: outer)) (hf : env.frame = some L)
    (he : s.heap.get? e = some oe) (hd : oe.data = .fields vs) (h1 : vs[1]? = some .none)
    (h : ∀ h' tb otb tvs, (∀ b o, b ∉ (env :: outer).filterMap (·.frame) → b ≠ e → s.heap.get? b = some o → h'.get? b = some o) →
      (∀ b o, b ≠ e → s.heap.get? b = some o → ∃ sl, h'.get? b = some { o with slots := sl }) → s.heap.get? tb = none → tb ≠ e →
      h'.get? e = some (oe.mapFields (·.setIfInBounds 1 (.ref tb))) → h'.get? tb = some otb → otb.data = .fields tvs → tvs[3]? = some (rawInt L) → Q () { s with heap := h' }) :
    wpAny M A (noteFrame (.ref e) env) Q E s := by
  have hsz : 1 < vs.size := (Array.getElem?_eq_some_iff.mp h1).1
  have hene : e ∉ (env :: outer).filterMap (·.frame) := fun hm => by
    obtain ⟨_, o, ho, hnf⟩ := hl.mem hm
    rw [he] at ho; injection ho with ho; subst ho; exact hnf vs hd
  unfold noteFrame
  simp only [hf]
  refine wpAny_bind (wpAny_field he hd h1 ?_)
  rw [if_neg (by decide)]
  refine wpAny_bind (wpAny_frameOf_fun hfr hl hf fun h₁ hs₁ => ?_)
  refine wpAny_bind (wpAny_entryPlaceOf fun pl hpl => ?_)
  unfold EntryCells.newEntry newFields
  refine wpAny_bind (wpAny_newObj_type ?_ (hpl.sizeOk5 _ _ _ _ _))
  have he₁ : h₁.get? e = some oe := (hs₁.2.1 e hene).trans he
  have he₂ := Heap.get?_push_of_some (h := h₁) { cls := .type "traceback", dict := none, data := .fields ([Value.none, .ref L, .none, rawInt L, .none] ++ (if pl.isEmpty then List.replicate 6 Value.none else pl)).toArray } he₁
  refine wpAny_setField he₂ hd hsz ?_
  have hTe : h₁.objs.size ≠ e := Nat.ne_of_gt (Heap.lt_size he₁)
  have hd₃ := Obj.data_mapFields hd (·.setIfInBounds 1 (Value.ref h₁.objs.size))
  refine h _ h₁.objs.size _ _ (fun b o hbf hbe hb => ?_) (fun b o hbe hb => ?_) (Heap.get?_none_of_le (by rw [hs₁.1]; exact Nat.le_refl _)) hTe (Heap.get?_update_self _ he₂ (Obj.isFreed_of_fields hd₃))
    ((Heap.get?_update_other _ _ (Ne.symm hTe)).trans (Heap.get?_push_size h₁ rfl)) rfl (by rcases hpl with rfl | ⟨_, _, _, _, _, _, _, rfl⟩ <;> simp)
  · rw [Heap.get?_update_other _ _ (Ne.symm hbe)]
    exact Heap.get?_push_of_some _ ((hs₁.2.1 b hbf).trans hb)
  · obtain ⟨sl, hs⟩ := hs₁.2.2 b o hb
    refine ⟨sl, ?_⟩
    rw [Heap.get?_update_other _ _ (Ne.symm hbe)]
    exact Heap.get?_push_of_some _ hs
end
/- an IndexError's object and its traceback's -/
set_option genSizeOf false in
set_option genInjectivity false in
structure FlyO (cx : Value) (oe : Obj) (tb : Addr) (otb : Obj) (fl : Value) : Prop where
  cls : oe.cls = .type "IndexError"
  ex : ∃ vs, oe.data = .fields vs ∧ vs[1]? = some (.ref tb) ∧ vs[2]? = some cx
  tr : ∃ tvs, otb.data = .fields tvs ∧ tvs[3]? = some fl
/- an IndexError in the frame's hands -/
inductive Fly (hb : Heap) (L : Addr) (m : Str → Option Value) (l : List Env) (new frs : List (Addr × Obj)) (cx : Value) (e : Addr) (fl : Value) (h : Heap) : Prop
  | mk (frs' : List (Addr × Obj)) (oe : Obj) (tb : Addr) (otb : Obj) (su : SameUp frs frs') (fs : Frs l frs') (fo : FlyO cx oe tb otb fl) (fr : Fr hb L h m) (nw : News hb L h ((e, oe) :: (tb, otb) :: (new ++ frs'))) (ne : tb ≠ e) (off : ∀ p ∈ new ++ frs', p.1 ≠ e ∧ p.1 ≠ tb)

section
variable {M : Model} {A : Around} {E : Value → Shared → Prop} {s' : Shared} {hb h : Heap} {L a e : Addr} {m : Str → Option Value} {name : Str} {scope : Scope} {cd cx fl : Value} {l : List Env} {new frs : List (Addr × Obj)} {Q : Unit → Shared → Prop}
theorem fly_new {oe : Obj} {vs : Array Value} (hfr : A.frames = some (envOf name scope L a cd :: l)) (Fs : Frs l frs) (F : Fr hb L h m) (N : News hb L h (new ++ frs)) (hap : ∀ p ∈ new, p.1 ∉ frs.map (·.1))
    (hk : ∀ b o, h.get? b = some o → s'.heap.get? b = some o) (hnew : h.get? e = none) (he : s'.heap.get? e = some oe) (hc : oe.cls = .type "IndexError") (hd : oe.data = .fields vs) (h1 : vs[1]? = some .none) (h2 : vs[2]? = some cx)
    (k : ∀ h', Fly hb L m l new frs cx e (rawInt L) h' → Q () { s' with heap := h' }) (hkind : scope.kind = .function) :
    wpAny M A (noteFrame (.ref e) (envOf name scope L a cd)) Q E s' := by
  have hsz : 1 < vs.size := (Array.getElem?_eq_some_iff.mp h1).1
  obtain ⟨hff, hNs, frs₁, SU, ht⟩ := frames_at (name := name) (a := a) (cd := cd) (h' := s'.heap) (base := gone h (L :: frs.map (·.1))) hkind Fs F N tail_sub (fun b o hb' => ⟨o.slots, hk b o hb'⟩) fun b hm => gone_none hm
  refine note_raw hfr hff rfl he hd h1 fun h' tb otb tvs k1 k2 k3 k4 k5 k6 k7 k8 => ?_
  have hfrm : (envOf name scope L a cd :: l).filterMap (·.frame) = L :: frs.map (·.1) := by
    show L :: l.filterMap (·.frame) = _; rw [Fs.addrs]
  rw [hfrm] at k1
  obtain ⟨oL, esL, epL, hL, hLd, hLk, hLf⟩ := F.ns
  have nb : ∀ b o, h.get? b = some o → b ≠ e := fun b o q z => by rw [z, hnew] at q; cases q
  have nt : ∀ b o, h.get? b = some o → b ≠ tb := fun b o q z => by have := hk b o q; rw [z, k3] at this; cases this
  have fresh : ∀ b, (∀ o, h.get? b ≠ some o) → hb.get? b = none := fun b q => by
    cases z : hb.get? b with
    | none => rfl
    | some o => exact absurd (F.keep b o z) (q o)
  obtain ⟨slL, hL'⟩ := k2 L oL (nb L oL hL) (hk L oL hL)
  have F' : Fr hb L h' m := ⟨⟨_, esL, epL, hL', hLd, hLk, hLf⟩, fun b o q => k1 b o (base_apart F N tail_sub q) (nb b o (F.keep b o q)) (hk b o (F.keep b o q)), F.above⟩
  obtain ⟨frs', SU', ht'⟩ := sameUp_of (h' := h') (frs := frs) fun p hp => by
    have q := (N p (List.mem_append_right _ hp)).1
    exact k2 p.1 p.2 (nb _ _ q) (hk _ _ q)
  have hd' := Obj.data_mapFields hd (·.setIfInBounds 1 (Value.ref tb))
  refine k h' ⟨frs', _, tb, otb, SU', Fs.up SU', ⟨(Obj.cls_mapFields _ _).trans hc, ⟨_, hd', by simp [hsz], by rw [Array.getElem?_setIfInBounds_ne (by decide)]; exact h2⟩, ⟨tvs, k7, k8⟩⟩, F', ?_, k4, ?_⟩
  · intro p hp
    rcases List.mem_cons.mp hp with rfl | hp
    · exact ⟨k5, fun z => nb L oL hL z.symm, fresh _ fun o q => by rw [hnew] at q; cases q⟩
    rcases List.mem_cons.mp hp with rfl | hp
    · exact ⟨k6, fun z => nt L oL hL z.symm, fresh _ fun o q => by have := hk _ _ q; rw [k3] at this; cases this⟩
    rcases List.mem_append.mp hp with hp | hp
    · have q := N p (List.mem_append_left _ hp)
      refine ⟨k1 _ _ (fun z => ?_) (nb _ _ q.1) (hk _ _ q.1), q.2⟩
      rcases List.mem_cons.mp z with z | z
      · exact q.2.1 z
      · exact hap p hp z
    · obtain ⟨x, hx, ex⟩ := SU'.fwd p hp
      have q := N x (List.mem_append_right _ hx)
      exact ⟨ht' p hp, by rw [ex]; exact q.2.1, by rw [ex]; exact q.2.2⟩
  · intro p hp
    rcases List.mem_append.mp hp with hp | hp
    · have q := (N p (List.mem_append_left _ hp)).1
      exact ⟨nb _ _ q, nt _ _ q⟩
    · obtain ⟨x, hx, ex⟩ := SU'.fwd p hp
      have q := (N x (List.mem_append_right _ hx)).1
      rw [ex]
      exact ⟨nb _ _ q, nt _ _ q⟩

theorem fly_note (H : Fly hb L m l new frs cx e (rawInt L) s'.heap) (k : Q () s') : wpAny M A (noteFrame (.ref e) (envOf name scope L a cd)) Q E s' := by
  obtain ⟨frs', oe, tb, otb, _, _, ⟨_, ⟨vs, hd, h1, _⟩, ⟨tvs, ht, h3⟩⟩, F, N, _, _⟩ := H
  exact wpAny_noteFrame_inFlight (env := envOf name scope L a cd) rfl (N _ (.head _)).1 hd h1 (N _ (.tail _ (.head _))).1 ht h3 k

theorem fly_set {fr : Option Addr} (H : Fly hb L m l new frs cx e fl s'.heap) (k : ∀ h', Fly hb L m l new frs cx e (fr.elim .none fun f => rawInt f) h' → Q () { s' with heap := h' }) :
    wpAny M A (setFlight (.ref e) fr) Q E s' := by
  obtain ⟨frs', oe, tb, otb, SU, Fs, ⟨hc, ⟨vs, hd, h1, h2⟩, ⟨tvs, ht, h3⟩⟩, F, N, hne, hoff⟩ := H
  have hsz : 3 < tvs.size := (Array.getElem?_eq_some_iff.mp h3).1
  have ne := N _ (.head _)
  have nt := N _ (.tail _ (.head _))
  unfold setFlight
  refine wpAny_bind (wpAny_field ne.1 hd h1 ?_)
  rw [if_pos (show (Value.ref tb != Value.none) = true from by simp)]
  refine wpAny_setField nt.1 ht hsz (k _ ?_)
  have hd' := Obj.data_mapFields ht (·.setIfInBounds 3 (fr.elim Value.none fun f => rawInt f))
  obtain ⟨oL, esL, epL, hL, r⟩ := F.ns
  refine ⟨frs', oe, tb, _, SU, Fs, ⟨hc, ⟨vs, hd, h1, h2⟩, ⟨_, hd', by simp [hsz]⟩⟩, ⟨⟨oL, esL, epL, (Heap.get?_update_ne _ _ _ _ (Ne.symm nt.2.1)).trans hL, r⟩, fun b o q => ?_, F.above⟩, ?_, hne, hoff⟩
  · exact (Heap.get?_update_ne _ _ _ _ fun z => by rw [z, nt.2.2] at q; cases q).trans (F.keep b o q)
  · intro p hp
    rcases List.mem_cons.mp hp with rfl | hp
    · exact ⟨(Heap.get?_update_ne _ _ _ _ hne.symm).trans ne.1, ne.2⟩
    rcases List.mem_cons.mp hp with rfl | hp
    · exact ⟨Heap.get?_update_self _ nt.1 (Obj.isFreed_of_fields hd'), nt.2⟩
    · have q := N p (.tail _ (.tail _ hp))
      exact ⟨(Heap.get?_update_ne _ _ _ _ (hoff p hp).2).trans q.1, q.2⟩

theorem fly_back {K : Value → Shared → Prop} (H : Fly hb L m l new frs cx e fl s'.heap) (k : ∀ h', Fly hb L m l new frs cx e (rawInt L) h' → K (.ref e) { s' with heap := h' }) :
    cameBackBy M A (envOf name scope L a cd) K (.ref e) s' := by
  unfold cameBackBy
  obtain ⟨frs', oe, tb, otb, SU, Fs, ⟨hc, ⟨vs, hd, h1, h2⟩, ht⟩, F, N, hne, hoff⟩ := id H
  refine wpAny_bind (wpAny_field (N _ (.head _)).1 hd h1 ?_)
  rw [if_neg (by simp)]
  exact fly_set (fr := some L) H fun h' H' => k h' H'

theorem fly_pass {α : Type} {what : String} {K : Value → Shared → Prop} {Q : α → Shared → Prop} (H : Fly hb L m l new frs cx e fl s'.heap) (k : ∀ h', Fly hb L m l new frs cx e (rawInt L) h' → K (.ref e) { s' with heap := h' }) :
    wpAny M A (PySem.passOn what (.ref e) (envOf name scope L a cd) : Sem α) Q K s' := by
  unfold PySem.passOn
  obtain ⟨frs', oe, tb, otb, SU, Fs, ⟨hc, ⟨vs, hd, h1, h2⟩, ht⟩, F, N, hne, hoff⟩ := id H
  refine wpAny_bind (wpAny_field (N _ (.head _)).1 hd h1 ?_)
  rw [if_neg (by simp)]
  exact wpAny_bind (fly_set (fr := some L) H fun h' H' => wpAny_throw (k h' H'))

/- it is noted where it stands, and comes back -/
theorem fly_noted {K : Value → Shared → Prop} {A' : Around} (H : Fly hb L m l new frs cx e (rawInt L) s'.heap) (k : ∀ h', Fly hb L m l new frs cx e (rawInt L) h' → K (.ref e) { s' with heap := h' }) :
    notedBy M A (envOf name scope L a cd) (cameBackBy M A' (envOf name scope L a cd) K) (.ref e) s' :=
  fly_note H (fly_back H k)
end

section
variable {prog : Program} {w : World} {A₀ : Around} {E : Value → Shared → Prop} {s' : Shared} {hb h : Heap} {L a e : Addr} {m : Str → Option Value} {name : Str} {scope : Scope} {cd cx fl : Value} {l : List Env} {new frs : List (Addr × Obj)} {Q : Flow → Shared → Prop}
  {p : Program} {loose : List Str} {mean : ExcName → Option Value} {mg mb : Str → Option Value} {np pos : Pos} {b₀ : Stmt} {suite : List Stmt} {rest : List ExceptHandler}
theorem Fly.held (H : Fly hb L m l new frs cx e fl h) : ∃ frs', SameUp frs frs' ∧ Frs l frs' ∧ TT.HeldNA hb L h m e "IndexError" (new ++ frs') fl := by
  obtain ⟨frs', oe, tb, otb, SU, Fs, ⟨hc, ⟨vs, hd, h1, h2⟩, ⟨tvs, ht, h3⟩⟩, F, N, hne, hoff⟩ := H
  have ne := N _ (.head _)
  have nt := N _ (.tail _ (.head _))
  refine ⟨frs', SU, Fs, ⟨⟨F, ⟨oe, vs, tb, otb, tvs, ne.1, hc, hd, h1, nt.1, ht, h3, nt.2.1, hne, nt.2.2⟩, ne.2.2⟩, fun p hp => N p (.tail _ (.tail _ hp)), ?_⟩⟩
  intro ob vs' tb' e1 e2 e3 p hp
  rw [ne.1] at e1
  obtain rfl := Option.some.inj e1
  rw [hd] at e2
  injection e2 with e2
  subst e2
  rw [h1] at e3
  injection e3 with e3
  injection e3 with e3
  subst e3
  exact (hoff p hp).2
/- the except clause takes it -/
theorem fly_catch (H : Fly hb L m l new frs cx e fl s'.heap) (T : Top p loose mean mg mb hb)
    (t1 : Str.ofString "IndexError" ∉ startupNames) (t2 : Str.ofString "IndexError" ∉ loose) (t3 : Str.ofString "IndexError" ∉ (recsOf p).map (·.name)) (t4 : Str.ofString "IndexError" ∉ (litsOf p).map (·.1)) (t5 : Str.ofString "IndexError" ∉ (clssOf p loose).map (·.name))
    (k : ∀ h' frs', SameUp frs frs' → Frs l frs' → Fr hb L h' m → News hb L h' (new ++ frs') → wpAny (model prog w) ((A₀.deeper (envOf name scope L a cd)).mark (some (.ref e))) (execs (b₀ :: suite) (envOf name scope L a cd)) Q (fun _ _ => False) { s' with heap := h' })
    (hk : scope.kind = .function) (hxk : (envOf name scope L a cd).kindOf (Str.ofString "IndexError") = some .globalImplicit) :
    wpAny (model prog w) (A₀.deeper (envOf name scope L a cd)) (handleBy (.ref e) (envOf name scope L a cd) (.ExceptHandler (some (.Name (Str.ofString "IndexError") np)) none (b₀ :: suite) pos :: rest)) Q E s' := by
  obtain ⟨frs', SU, Fs, H'⟩ := H.held
  refine wpAny_mono (TT.clause_hitTN (E := fun _ _ => False) H' T t1 t2 t3 t4 t5 (fun h' F' N' => k h' frs' SU Fs F' N') (by decide +kernel) (by decide +kernel) (by decide +kernel) (by decide +kernel) (by decide) hk hxk (by decide)) (fun _ _ x => x) fun _ _ x => x.elim
end
end Mine

end
section
open PySem PySem.W PySem.Calls PyProof.Rows PyProof.Rows.TI
namespace Mine
theorem entry_unchain : entryFor table "proto.unchain" = some Builtin.«proto.unchain» := entryFor_of_tree (by kernel_rfl)
section
variable {α : Type} {prog : Program} {w : World} {A : Around} {E : Value → Shared → Prop} {s : Shared}
/- an IndexError, raised while another one is handled -/
noncomputable def Under (h h' : Heap) (e1 e : Addr) : Prop := (∀ b o, h.get? b = some o → h'.get? b = some o) ∧ h.get? e = none ∧ ∃ ob t, h'.get? e = some ob ∧ ob.cls = .type "IndexError" ∧ ob.data = .fields #[t, .none, .ref e1, .none, .bool false, .none]
theorem raise_under {msg : String} {e1 : Addr} {oe : Obj} {vs : Array Value} {Q : α → Shared → Prop} (hh : A.handled = some (.ref e1)) (he : s.heap.get? e1 = some oe) (hd : oe.data = .fields vs) (h2 : vs[2]? = some .none)
    (hE : ∀ h' tk e, Under s.heap h' e1 e → E (.ref e) { s with heap := h', toks := tk }) :
    wpAny (model prog w) A (raiseErrorWords "IndexError" msg : Sem α) Q E s := by
  unfold raiseErrorWords
  refine wpAny_bind (wpAny_mkText (wpAny_bind ?_))
  unfold newExc newTuple
  refine wpAny_bind (wpAny_newObj_type ?_)
  refine wpAny_bind (m := firstArgMember _ _) (wpAny_of_eq (a := Value.none) (by simp only [firstArgMember, plainExc_IndexError.first]; rfl) ?_)
  rw [plainExc_IndexError.own]
  refine wpAny_newObj_type ?_
  unfold raiseNew
  refine wpAny_bind (wpAny_handled ?_)
  rw [hh]
  dsimp only
  generalize hT : s.heap.push { cls := Value.type "tuple", data := Data.seq [Value.str (Str.ofString msg) s.toks].toArray } = H1
  have he1 : H1.get? e1 = some oe := hT ▸ Heap.get?_push_of_some _ he
  have hlt : e1 < H1.objs.size := Heap.lt_size he1
  have hne : e1 ≠ H1.objs.size := Nat.ne_of_lt hlt
  have hk1 : ∀ b o, s.heap.get? b = some o → H1.get? b = some o := fun b o e => hT ▸ Heap.get?_push_of_some _ e
  have hn1 : s.heap.get? H1.objs.size = none := Heap.get?_none_of_le (by rw [← hT, Heap.size_push]; exact Nat.le_succ _)
  rw [if_pos (by simp [hne])]
  refine wpAny_bind (wpAny_holding (wpAny_runValue (codeAny_builtin entry_unchain ?_)))
  unfold Builtin.«proto.unchain»
  refine wpAny_bind (wpAny_field (Heap.get?_push_of_some _ he1) hd h2 ?_)
  rw [if_pos (by decide)]
  refine wpAny_pure ?_
  show wpAny _ A (setField (.ref H1.objs.size) 2 (.ref e1) >>= fun _ => throw _) _ _ _
  refine wpAny_bind (wpAny_setField (Heap.get?_push_size _ rfl) rfl (by show 2 < 6; decide) (wpAny_throw ?_))
  refine hE _ _ _ ⟨fun b o e => ?_, hn1, _, _, Heap.get?_update_self _ (Heap.get?_push_size _ rfl) rfl, rfl, rfl⟩
  exact (Heap.get?_update_ne _ _ _ _ (fun q => by rw [q, hn1] at e; cases e)).trans (Heap.get?_push_of_some _ (hk1 b o e))

set_option maxRecDepth 512 in
theorem getItem_under {l : Addr} {items : Array Value} {k : Int} {j : Nat} {t : Tok} {e1 : Addr} {oe : Obj} {vs : Array Value} {Q : Value → Shared → Prop} (hh : A.handled = some (.ref e1)) (he : s.heap.get? e1 = some oe) (hd : oe.data = .fields vs) (h2 : vs[2]? = some .none)
    (hl : s.heap.IsList l items) (hk : k = Int.ofNat j) (hout : items.size ≤ j) (hfit : Builtin.List.listFitsIndex k = true)
    (hE : ∀ h' tk e, Under s.heap h' e1 e → E (.ref e) { s with heap := h', toks := tk }) :
    wpAny (model prog w) A (getItem (.ref l) (.int k t)) Q E s := by
  obtain ⟨o, ho, hc, ne, hd'⟩ := id hl
  unfold getItem
  try with_reducible refine wpAny_holding ?_
  first | refine wpAny_bind (wpAny_pure ?_) | skip
  refine wpAny_bind (wpAny_sequenceKey hl.typeIs (by decide) ?_)
  refine wpAny_bind (wpAny_callSpecial?_slot (name := Str.ofString "__getitem__") hl.typeIs slot_list_getitem
    (wpAny_call_entry slot_list_getitem hl.typeIs entry_list_getitem ?_ (args_list_getitem _ _)))
  show wpAny _ _ (Builtin.List.listSubscript? (.int k t) >>= _) _ _ s
  refine wpAny_bind (wpAny_listSubscript_int hfit ?_)
  have hx : items[j]? = none := Array.getElem?_eq_none hout
  clear hfit
  subst hk
  show wpAny _ _ ((seqItemAt l j >>= fun r => pure (r.map (j, ·))) >>= _) _ _ s
  refine wpAny_bind (wpAny_bind (wpAny_seqItemAt ho hd' (wpAny_pure ?_)))
  rw [hx]
  first
    | exact wpAny_bind (wpAny_rule (raise_under hh he hd h2 hE))
    | exact wpAny_bind (wpAny_rule (wpAny_bind (raise_under hh he hd h2 hE)))
    | exact wpAny_bind (wpAny_bind (wpAny_rule (raise_under hh he hd h2 hE)))
    | exact wpAny_rule (raise_under hh he hd h2 hE)
end
end Mine

end
section
open PySem PySem.W PySem.Calls PyProof.Rows PyProof.Rows.TI
namespace Mine
section
variable {prog : Program} {w : World} {A : Around} {s : Shared} {K : Frag} {mg mb : Str → Option Value} {p : Program} {loose : List Str} {mean : ExcName → Option Value}
  {R : Result → Shared → Prop} {name qual : Str} {params : Arguments} {body : List Stmt} {scope : Scope} {dV kV doc pm cdv ct oc : Value} {an od : Option Addr} {osl : Array (Option Value)} {f : Addr} {args : Args} {binds : List (Str × Value)}
/- entering a def of the text; what is hidden stands on the ledger -/
theorem enterH {hid : List (Addr × Obj)} (hh : ∀ q ∈ hid, s.heap.get? q.1 = some q.2) (X : K.In s.heap) (T : Top p loose mean mg mb s.heap)
    (ho : K.lookup f = some ⟨oc, od, .func (fnOf name qual params body scope dV kV doc pm an cdv ct), osl⟩) (hcd : codeIn K cdv qual = true) (hroom : A.depth < recursionLimit)
    (hbind : BindsTo s (fnOf name qual params body scope dV kV doc pm an cdv ct) args binds) (hloc : ∀ y ∈ binds, scope.names.lookup y.1 = some .local)
    (h : ∀ L' h₁, L' = s.heap.objs.size → Fr (hideAll s.heap (hid.map (·.1))) L' h₁ (fun y => binds.reverse.lookup y) → News (hideAll s.heap (hid.map (·.1))) L' h₁ hid → (∀ q ∈ hid, q.1 < L') →
      wpAny (model prog w) (A.deeper (envOf qual scope L' f cdv)) (execs body (envOf qual scope L' f cdv))
        (fun fl s' => R (.ok (.ret (match fl with | .ret v => v | _ => .none))) s')
        (fun e s' => wpAny (model prog w) (A.deeper (envOf qual scope L' f cdv)) (leaving (envOf qual scope L' f cdv) e) (fun _ s'' => R (.error e) s'') (fun e' s'' => R (.error e') s'') s')
        { s with heap := h₁, toks := s.toks + binds.length })
    (hco : scope.isCoroutine = false) (hgen : scope.isGenerator = false) (hk : scope.kind = .function)
    (hcell : ∀ x ∈ scope.names, x.2 ≠ .cell) : codeAny (model prog w) A (.call (.ref f) args) R s :=
  codeAny_call_def (fd := fnOf name qual params body scope dV kV doc pm an cdv ct) (body := body) (binds := binds) hroom (X _ _ ho) rfl T.nolimit (codeRec_of X hcd) rfl hbind hcell hloc
    (fun h₁ hns hk₁ => h _ h₁ rfl ⟨hns, fun b o e => hk₁ b o (of_hideAll _ e), Nat.le_of_eq (hideAll_size _ _)⟩
      (fun q hq => ⟨hk₁ _ _ (hh q hq), Nat.ne_of_lt (Heap.lt_size (hh q hq)), hideAll_none _ (List.mem_map_of_mem hq)⟩) (fun q hq => Heap.lt_size (hh q hq))) hco hgen hk
end
section
variable {prog : Program} {w : World} {A : Around} {E : Value → Shared → Prop} {s : Shared}
/- a while whose test is false at once, or raises -/
theorem while_once {test : PySem.Expr} {body : List Stmt} {env : Env} {pos : Pos} {Q : Flow → Shared → Prop}
    (h : wpAny (model prog w) A (isTrue test env (eval test env)) (fun b s₂ => b = false ∧ Q .next s₂) (notedBy (model prog w) A env (cameBackBy (model prog w) A env E)) s) :
    wpAny (model prog w) A (exec (.While test body [] pos) env) Q E s := by
  refine wpAny_While (codeAny_whileLoop (fun _ s' => s' = s) (fun n s' e => ?_) 0 rfl)
  subst e
  refine wpAny_mono h (fun b s₂ hb => ?_) fun _ _ x => x
  rw [hb.1]
  exact wpAny_execs_nil hb.2
/- a while that is left by break alone -/
theorem while_done {test : PySem.Expr} {body : List Stmt} {env : Env} {pos : Pos} {Q : Flow → Shared → Prop} (I : Nat → Shared → Prop) (P : Shared → Prop) {n : Nat} (hI : I n s) (hP : ∀ s', P s' → Q .next s')
    (turn : ∀ n s, I n s → ∀ Q' : Flow → Shared → Prop, (∀ s₃ m, m < n → I m s₃ → Q' .next s₃) → (∀ s₃, P s₃ → Q' .brk s₃) → wpAny (model prog w) A (isTrue test env (eval test env)) (fun b s₂ => b = true ∧ wpAny (model prog w) A (execs body env)
      Q' (fun _ _ => False) s₂) (fun _ _ => False) s) :
    wpAny (model prog w) A (exec (.While test body [] pos) env) Q E s := by
  refine wpAny_While (codeAny_whileLoop I (fun n s' e => ?_) n hI)
  refine wpAny_mono (turn n s' e (fun f s₃ => match f with | .next | .cont => ∃ m, m < n ∧ I m s₃ | .brk => P s₃ | .ret _ => False) (fun _ m h1 h2 => ⟨m, h1, h2⟩) (fun _ h => h)) (fun b s₂ hb => ?_) fun _ _ x => x.elim
  rw [hb.1]
  refine wpAny_mono hb.2 (fun f s₃ h₃ => ?_) fun _ _ x => x.elim
  cases f with
  | next => exact h₃
  | cont => exact h₃
  | brk => exact hP _ h₃
  | ret v => exact h₃.elim
/- a try with one clause; what its body raises is told -/
theorem try_exc {body : List Stmt} {h₀ : ExceptHandler} {env : Env} {pos : Pos} {Q : Flow → Shared → Prop} (EH : Value → Shared → Prop)
    (hEH : ∀ e s', EH e s' → wpAny (model prog w) A (noteFrame e env) (fun _ s₂ => wpAny (model prog w) A (setFlight e none) (fun _ s₃ => wpAny (model prog w) A (handleBy e env [h₀]) Q E s₃) E s₂) E s')
    (h : wpAny (model prog w) A (execs body env) Q EH s) : wpAny (model prog w) A (exec (.Try body [h₀] [] [] pos) env) Q E s := by
  refine wpAny_Try_except (wpAny_mono h (fun f s₁ h₁ => ?_) hEH)
  cases f with
  | next => exact wpAny_execs_nil h₁
  | _ => exact h₁
theorem item_in {value slice : PySem.Expr} {l : Addr} {vs : List Value} {k : Int} {u : Tok} {v : Value} {Q : Value → Shared → Prop}
    (hl : s.heap.IsList l vs.toArray) (h0 : 0 ≤ k) (hhi : k < 2 ^ 63) (hx : vs[k.toNat]? = some v) (h : Q v s)
    (hs : subscripted slice false (.ref l) (.int k u) = operate [.ref l, .int k u] (getItem (.ref l) (.int k u))) :
    wpAny (model prog w) A (subscriptTail value slice (.ref l) (.int k u)) Q E s :=
  tail_any hl.typeIs slot_list_getitem.lookup (wpAny_getItem_list hl h0 hhi (by simpa using hx) h) hs
theorem item_out {value slice : PySem.Expr} {l : Addr} {vs : List Value} {k : Int} {u : Tok} {Q : Value → Shared → Prop} (hA : A.handled = none)
    (hl : s.heap.IsList l vs.toArray) (h0 : (vs.length : Int) ≤ k) (hhi : k < 2 ^ 63) (hE : ∀ h' tk e, Heap.NewExc s.heap h' e "IndexError" → E (.ref e) { s with heap := h', toks := tk })
    (hs : subscripted slice false (.ref l) (.int k u) = operate [.ref l, .int k u] (getItem (.ref l) (.int k u))) :
    wpAny (model prog w) A (subscriptTail value slice (.ref l) (.int k u)) Q E s :=
  tail_any hl.typeIs slot_list_getitem.lookup (wpAny_getItem_list_out hA hl (.inr (by simpa using h0)) (by omega) hhi hE) hs
theorem item_under {value slice : PySem.Expr} {l : Addr} {vs : List Value} {k : Int} {u : Tok} {e1 : Addr} {oe : Obj} {ws : Array Value} {Q : Value → Shared → Prop} (hh : A.handled = some (.ref e1)) (he : s.heap.get? e1 = some oe) (hd : oe.data = .fields ws) (h2 : ws[2]? = some .none)
    (hl : s.heap.IsList l vs.toArray) (h0 : (vs.length : Int) ≤ k) (hhi : k < 2 ^ 63) (hE : ∀ h' tk e, Under s.heap h' e1 e → E (.ref e) { s with heap := h', toks := tk })
    (hs : subscripted slice false (.ref l) (.int k u) = operate [.ref l, .int k u] (getItem (.ref l) (.int k u))) :
    wpAny (model prog w) A (subscriptTail value slice (.ref l) (.int k u)) Q E s :=
  tail_any hl.typeIs slot_list_getitem.lookup (getItem_under (j := k.toNat) hh he hd h2 hl (Int.toNat_of_nonneg (by omega)).symm (by simp only [List.size_toArray]; omega) (fitsIndex_both (by omega) hhi) hE) hs
end

theorem stays_hideL {g h : Heap} {l : List Addr} (st : g.StaysIn h) (n : ∀ a ∈ l, g.get? a = none) : g.StaysIn (hideAll h l) := fun b o e =>
  hideAll_get _ (st b o e) (fun hm => by rw [n b hm] at e; cases e)
section
variable {prog : Program} {w : World} {A : Around} {E : Value → Shared → Prop} {s : Shared} {h₀ : Heap} {L D b : Addr} {m : Str → Option Value} {news : List (Addr × Obj)}
theorem ext_list {mv ws : List Value} {n n2 : Nat} {gl : Nat → List (Addr × Obj)} {Q : Value → Shared → Prop} (F : Fr h₀ L s.heap m) (N : News h₀ L s.heap news) (hb : (b, listOf ws.toArray n2) ∈ news)
    (U : ∀ n', Upd D (listOf mv.toArray n) (listOf (mv ++ ws).toArray n') news (gl n')) (hz : mv.length + ws.length ≤ 1000000)
    (h : ∀ h' n', Fr h₀ L h' m → News h₀ L h' (gl n') → Q .none { s with heap := h' }) : wpAny (model prog w) A (call (.builtin "list.extend") [.ref D, .ref b]) Q E s := by
  have hl : ¬(!mv.toArray.isEmpty && Builtin.List.listTooLong (mv.toArray.size + ws.toArray.size)) = true := by
    have : Builtin.List.listTooLong (mv.toArray.size + ws.toArray.size) = false := by
      unfold Builtin.List.listTooLong
      simp only [List.size_toArray, decide_eq_false_iff_not, sizeLine_eq]
      omega
    rw [this]; simp
  cases ws with
  | nil =>
    have U0 := U n
    rw [List.append_nil] at U0
    exact kxn_extend F N hb rfl U0 hl (by show mv.toArray.toList.length ≤ _; rw [sizeLine_eq]; simp at hz ⊢; omega) (by rw [sizeLine_eq]; simp at hz ⊢; omega) fun h' F' N' => h h' n F' N'
  | cons v vs =>
    exact kl_extend F N hb rfl (by simp) (U (n + 1)) hl (by show mv.toArray.toList.length ≤ _; rw [sizeLine_eq]; simp at hz ⊢; omega) (by rw [sizeLine_eq]; simp at hz ⊢; omega) fun h' F' N' => h h' (n + 1) F' N'
end
/- the differences of two sorted lists, step by step -/
noncomputable def dif : List Str → List Str → List Str × List Str
  | [], ys => ([], ys)
  | xs, [] => (xs, [])
  | x :: xs, y :: ys =>
    if x.cps.toList < y.cps.toList then (x :: (dif xs (y :: ys)).1, (dif xs (y :: ys)).2)
    else if y.cps.toList < x.cps.toList then ((dif (x :: xs) ys).1, y :: (dif (x :: xs) ys).2)
    else dif xs ys
termination_by xs ys => xs.length + ys.length

end Mine

end
section
open PySem PySem.W PySem.Calls PyProof.Rows PyProof.Rows.TI
namespace Mine

theorem dif_nil_left (ys : List Str) : dif [] ys = ([], ys) := by cases ys <;> simp [dif]
theorem dif_nil_right (xs : List Str) : dif xs [] = (xs, []) := by cases xs <;> simp [dif]
theorem dif_lt {x y : Str} {xs ys : List Str} (h : x.cps.toList < y.cps.toList) : dif (x :: xs) (y :: ys) = (x :: (dif xs (y :: ys)).1, (dif xs (y :: ys)).2) := by rw [dif, if_pos h]
theorem dif_gt {x y : Str} {xs ys : List Str} (h1 : ¬ x.cps.toList < y.cps.toList) (h : y.cps.toList < x.cps.toList) : dif (x :: xs) (y :: ys) = ((dif (x :: xs) ys).1, y :: (dif (x :: xs) ys).2) := by rw [dif, if_neg h1, if_pos h]
theorem dif_eq {x y : Str} {xs ys : List Str} (h1 : ¬ x.cps.toList < y.cps.toList) (h : ¬ y.cps.toList < x.cps.toList) : dif (x :: xs) (y :: ys) = dif xs ys := by rw [dif, if_neg h1, if_neg h]
theorem dif_len : ∀ (n : Nat) (xs ys : List Str), xs.length + ys.length ≤ n → (dif xs ys).1.length ≤ xs.length ∧ (dif xs ys).2.length ≤ ys.length := by
  intro n
  induction n with
  | zero =>
    intro xs ys h
    have hx : xs = [] := List.length_eq_zero_iff.mp (by omega)
    rw [hx, dif_nil_left]; simp
  | succ n ih =>
    intro xs ys h
    cases xs with
    | nil => rw [dif_nil_left]; simp
    | cons x xs =>
      cases ys with
      | nil => rw [dif_nil_right]; simp
      | cons y ys =>
        simp only [List.length_cons] at h
        by_cases h1 : x.cps.toList < y.cps.toList
        · rw [dif_lt h1]
          have := ih xs (y :: ys) (by simp only [List.length_cons]; omega)
          simp only [List.length_cons] at this ⊢; omega
        · by_cases h2 : y.cps.toList < x.cps.toList
          · rw [dif_gt h1 h2]
            have := ih (x :: xs) ys (by simp only [List.length_cons]; omega)
            simp only [List.length_cons] at this ⊢; omega
          · rw [dif_eq h1 h2]
            have := ih xs ys (by omega)
            simp only [List.length_cons]; omega

/- what stays while the two lists are walked -/
set_option genSizeOf false in
set_option genInjectivity false in
structure DC where
  hb : Heap
  L : Addr
  l1 : Addr
  l2 : Addr
  xa : Addr
  ya : Addr
  L1 : Addr
  L2 : Addr
  o1 : Obj
  o2 : Obj
  xs : List Str
  ys : List Str
  ev1 : Env
  ev2 : Env
/- what turns -/
set_option genSizeOf false in
set_option genInjectivity false in
structure DS where
  m : Str → Option Value
  i : Int
  j : Int
  ti : Tok
  tj : Tok
  mv : List Value
  uv : List Value
  n1 : Nat
  n2 : Nat
  sl1 : Array (Option Value)
  sl2 : Array (Option Value)
  ms : List Str
  us : List Str
noncomputable abbrev DS.names (c : DC) (d : DS) : List (Str × Value) := [(Str.ofString "expected", .ref c.xa), (Str.ofString "actual", .ref c.ya), (Str.ofString "i", .int d.i d.ti), (Str.ofString "j", .int d.j d.tj), (Str.ofString "missing", .ref c.l1), (Str.ofString "unexpected", .ref c.l2)]
noncomputable abbrev DS.new (c : DC) (d : DS) : List (Addr × Obj) := [(c.l2, listOf d.uv.toArray d.n2), (c.l1, listOf d.mv.toArray d.n1)]
noncomputable abbrev DS.frs (c : DC) (d : DS) : List (Addr × Obj) := [(c.L1, { c.o1 with slots := d.sl1 }), (c.L2, { c.o2 with slots := d.sl2 })]
set_option genSizeOf false in
set_option genInjectivity false in
structure DS.Ok (c : DC) (d : DS) : Prop where
  i0 : 0 ≤ d.i
  i1 : d.i ≤ c.xs.length
  j0 : 0 ≤ d.j
  j1 : d.j ≤ c.ys.length
  nm : AllIs d.m (d.names c)
  ms : StrsAre d.mv d.ms
  us : StrsAre d.uv d.us
set_option genSizeOf false in
set_option genInjectivity false in
structure DS.End (c : DC) (d : DS) : Prop where
  e1 : d.ms ++ c.xs.drop d.i.toNat = (dif c.xs c.ys).1
  e2 : d.us ++ c.ys.drop d.j.toNat = (dif c.xs c.ys).2
set_option genSizeOf false in
set_option genInjectivity false in
structure DS.On (c : DC) (d : DS) : Prop where
  e1 : d.ms ++ (dif (c.xs.drop d.i.toNat) (c.ys.drop d.j.toNat)).1 = (dif c.xs c.ys).1
  e2 : d.us ++ (dif (c.xs.drop d.i.toNat) (c.ys.drop d.j.toNat)).2 = (dif c.xs c.ys).2
inductive DInv (c : DC) (s : Shared) (n : Nat) (s' : Shared) : Prop
  | made (d : DS) (h : Heap) (tk : Nat) (e : s' = { s with heap := h, toks := tk }) (hn : n = (c.xs.length - d.i.toNat) + (c.ys.length - d.j.toNat)) (ok : d.Ok c) (on : d.On c) (F : Fr c.hb c.L h d.m) (N : News c.hb c.L h (d.new c ++ d.frs c))
inductive DEnd (c : DC) (s : Shared) (s' : Shared) : Prop
  | made (d : DS) (h : Heap) (tk : Nat) (e : s' = { s with heap := h, toks := tk }) (nm : AllIs d.m [(Str.ofString "missing", .ref c.l1), (Str.ofString "unexpected", .ref c.l2)]) (e1 : StrsAre d.mv (dif c.xs c.ys).1) (e2 : StrsAre d.uv (dif c.xs c.ys).2) (F : Fr c.hb c.L h d.m) (N : News c.hb c.L h (d.new c ++ d.frs c))
inductive DExc (c : DC) (s : Shared) (v : Value) (s' : Shared) : Prop
  | made (d : DS) (e : Addr) (h : Heap) (tk : Nat) (hv : v = .ref e) (hs : s' = { s with heap := h, toks := tk }) (ok : d.Ok c) (en : d.End c) (hx :
  (∃ h₀, Fr c.hb c.L h₀ d.m ∧ News c.hb c.L h₀ (d.new c ++ d.frs c) ∧ Heap.NewExc h₀ h e "IndexError") ∨ ∃ cx, Fly c.hb c.L d.m [c.ev1, c.ev2] (d.new c) (d.frs c) cx e (rawInt c.L) h)

theorem exc_note {M : Model} {A : Around} {E : Value → Shared → Prop} {s' : Shared} {hb : Heap} {L a e : Addr} {m : Str → Option Value} {name : Str} {scope : Scope} {cd : Value} {l : List Env} {new frs : List (Addr × Obj)} {Q : Unit → Shared → Prop}
    (hfr : A.frames = some (envOf name scope L a cd :: l)) (Fs : Frs l frs) (hap : ∀ p ∈ new, p.1 ∉ frs.map (·.1))
    (hx : (∃ h₀, Fr hb L h₀ m ∧ News hb L h₀ (new ++ frs) ∧ Heap.NewExc h₀ s'.heap e "IndexError") ∨ ∃ cx, Fly hb L m l new frs cx e (rawInt L) s'.heap)
    (k : ∀ h' cx, Fly hb L m l new frs cx e (rawInt L) h' → Q () { s' with heap := h' }) (hkind : scope.kind = .function) : wpAny M A (noteFrame (.ref e) (envOf name scope L a cd)) Q E s' := by
  rcases hx with ⟨h₀, F, N, nx⟩ | ⟨cx, H⟩
  · obtain ⟨ob, t, he, hc, hd⟩ := nx.there
    exact fly_new hfr Fs F N hap nx.keeps nx.new he hc hd rfl rfl (fun h' H => k h' _ H) hkind
  · exact fly_note H (k _ _ H)

theorem sameUp_cons {L : Addr} {o : Obj} {r fr : List (Addr × Obj)} (SU : SameUp ((L, o) :: r) fr) : ∃ t r', fr = (L, { o with slots := t }) :: r' ∧ SameUp r r' := by
  cases fr with
  | nil => exact SU.elim
  | cons q r' =>
    obtain ⟨q1, q2⟩ := q
    obtain ⟨e1, ⟨t, e2⟩, SU⟩ := SU
    cases e1; cases e2
    exact ⟨t, r', rfl, SU⟩
theorem sameUp_two {L1 L2 : Addr} {o1 o2 : Obj} {sl1 sl2 : Array (Option Value)} {fr : List (Addr × Obj)} (SU : SameUp [(L1, { o1 with slots := sl1 }), (L2, { o2 with slots := sl2 })] fr) :
    ∃ t1 t2, fr = [(L1, { o1 with slots := t1 }), (L2, { o2 with slots := t2 })] := by
  obtain ⟨t1, r1, e1, S1⟩ := sameUp_cons SU
  obtain ⟨t2, r2, e2, S2⟩ := sameUp_cons S1
  cases r2 with
  | nil => exact ⟨t1, t2, by rw [e1, e2]⟩
  | cons _ _ => exact S2.elim

set_option genSizeOf false in
set_option genInjectivity false in
structure DC.Ok (c : DC) : Prop where
  fs : Frs [c.ev1, c.ev2] [(c.L1, c.o1), (c.L2, c.o2)]
  a1 : c.l2 ≠ c.L1
  a2 : c.l2 ≠ c.L2
  a3 : c.l1 ≠ c.L1
  a4 : c.l1 ≠ c.L2
theorem DC.Ok.frs {c : DC} (K : c.Ok) (d : DS) : Frs [c.ev1, c.ev2] (d.frs c) := K.fs.up (b := d.frs c) ⟨rfl, ⟨d.sl1, rfl⟩, rfl, ⟨d.sl2, rfl⟩, trivial⟩
theorem DC.Ok.hap {c : DC} (K : c.Ok) (d : DS) : ∀ p ∈ d.new c, p.1 ∉ (d.frs c).map (·.1) := by
  intro p hp
  simp only [DS.new, DS.frs, List.mem_cons, List.mem_nil_iff, or_false, List.map_cons, List.map_nil] at hp ⊢
  rcases hp with rfl | rfl
  · exact fun q => q.elim K.a1 K.a2
  · exact fun q => q.elim K.a3 K.a4
section
variable {M : Model} {A A' : Around} {c : DC} {d : DS} {s : Shared} {h h' : Heap} {tk : Nat} {e a : Addr} {name : Str} {scope : Scope} {cd : Value} {K : Value → Shared → Prop}
/- an IndexError of a while's test, back at the statement -/
theorem exc_new_back (C : c.Ok) (hfr : A.frames = some [envOf name scope c.L a cd, c.ev1, c.ev2]) (F : Fr c.hb c.L h d.m) (N : News c.hb c.L h (d.new c ++ d.frs c)) (nx : Heap.NewExc h h' e "IndexError") (hkind : scope.kind = .function)
    (k : ∀ h'', Fly c.hb c.L d.m [c.ev1, c.ev2] (d.new c) (d.frs c) .none e (rawInt c.L) h'' → K (.ref e) { s with heap := h'', toks := tk }) :
    notedBy M A (envOf name scope c.L a cd) (cameBackBy M A' (envOf name scope c.L a cd) K) (.ref e) { s with heap := h', toks := tk } := by
  obtain ⟨ob, t, he, hc, hd⟩ := nx.there
  exact fly_new (s' := { s with heap := h', toks := tk }) hfr (C.frs d) F N (C.hap d) nx.keeps nx.new he hc hd rfl rfl (fun h'' H => fly_back (s' := { s with heap := h'', toks := tk }) H fun h3 H3 => k h3 H3) hkind
theorem exc_under_back {e1 : Addr} (C : c.Ok) (hfr : A.frames = some [envOf name scope c.L a cd, c.ev1, c.ev2]) (F : Fr c.hb c.L h d.m) (N : News c.hb c.L h (d.new c ++ d.frs c)) (nx : Under h h' e1 e) (hkind : scope.kind = .function)
    (k : ∀ h'', Fly c.hb c.L d.m [c.ev1, c.ev2] (d.new c) (d.frs c) (.ref e1) e (rawInt c.L) h'' → K (.ref e) { s with heap := h'', toks := tk }) :
    notedBy M A (envOf name scope c.L a cd) (cameBackBy M A' (envOf name scope c.L a cd) K) (.ref e) { s with heap := h', toks := tk } := by
  obtain ⟨hk, hn, ob, t, he, hc, hd⟩ := nx
  exact fly_new (s' := { s with heap := h', toks := tk }) hfr (C.frs d) F N (C.hap d) hk hn he hc hd rfl rfl (fun h'' H => fly_back (s' := { s with heap := h'', toks := tk }) H fun h3 H3 => k h3 H3) hkind
end

theorem drop_cons_of {α : Type} {l : List α} {k : Nat} {x : α} (h : l[k]? = some x) : l.drop k = x :: l.drop (k + 1) := by
  obtain ⟨hk, e⟩ := List.getElem?_eq_some_iff.mp h
  rw [List.drop_eq_getElem_cons hk, e]

theorem next_ne' {xs : List Str} {x y : Str} (h : (y.cps.toList == x.cps.toList) = false) : (y == x) = false := by
  cases q : y == x with
  | false => rfl
  | true => rw [eq_of_beq q, beq_self_eq_true] at h; cases h
theorem fr_pack {h₀ h : Heap} {L : Addr} {m : Str → Option Value} {ps : List (Str × Value)} (F : Fr h₀ L h m) (hp : AllIs m ps) : ∃ m', AllIs m' ps ∧ Fr h₀ L h m' := ⟨m, hp, F⟩
theorem lt_irr {l : List Nat} : ¬ l < l := List.lt_irrefl l
theorem next_ne {xs : List Str} {k : Nat} {x y : Str} (sx : xs.Pairwise (fun a b => a.cps.toList < b.cps.toList)) (h1 : xs[k]? = some x) (h2 : xs[k + 1]? = some y) : (y.cps.toList == x.cps.toList) = false := by
  obtain ⟨k1, e1⟩ := List.getElem?_eq_some_iff.mp h1
  obtain ⟨k2, e2⟩ := List.getElem?_eq_some_iff.mp h2
  have := List.pairwise_iff_getElem.mp sx k (k + 1) k1 k2 (Nat.lt_succ_self _)
  rw [e1, e2] at this
  cases h : y.cps.toList == x.cps.toList with
  | false => rfl
  | true => rw [beq_iff_eq.mp h] at this; exact absurd this lt_irr

theorem list_hide {h : Heap} {a : Addr} {vs : Array Value} {L1 L2 : Addr} {o1 o2 : Obj} {ev1 ev2 : Env} (hx : h.IsList a vs) (h1 : h.get? L1 = some o1) (h2 : h.get? L2 = some o2) (Fs : Frs [ev1, ev2] [(L1, o1), (L2, o2)]) : (hideAll h [L1, L2]).IsList a vs := by
  obtain ⟨_, _, ⟨es, ep, d1⟩, _, _, ⟨es', ep', d2⟩, _⟩ := Fs
  obtain ⟨o, ho, hc, n, hd⟩ := hx
  refine ⟨o, hideAll_get _ ho (fun hm => ?_), hc, n, hd⟩
  rcases List.mem_cons.mp hm with rfl | hm
  · rw [h1] at ho; cases ho; rw [hd] at d1; cases d1
  · rw [List.mem_singleton.mp hm, h2] at ho; cases ho; rw [hd] at d2; cases d2

theorem ai0 {i : Int} (h : 0 ≤ i) : 0 ≤ i + 1 := by omega
theorem ale {i : Int} {n : Nat} (h : i < n) : i + 1 ≤ n := h
theorem a63 {i : Int} {n : Nat} (b : n ≤ 1000) (h : i < n) : i < 2 ^ 63 := by omega
theorem a63E {i : Int} {n : Nat} (b : n ≤ 1000) (h : i ≤ n) : i < 2 ^ 63 := by omega
theorem a63' {i : Int} {n : Nat} (b : n ≤ 1000) (h : i < n) : i + 1 < 2 ^ 63 := a63E b h
theorem atoN {i : Int} {n : Nat} (h0 : 0 ≤ i) (h : i < n) : i.toNat < n := by omega
theorem asucc {i : Int} (h0 : 0 ≤ i) : (i + 1).toNat = i.toNat + 1 := by omega
theorem ange {i : Int} {n : Nat} (h : ¬ i < n) : n ≤ i.toNat := by omega
theorem ange1 {i : Int} {n : Nat} (h : ¬ i + 1 < n) : n ≤ i.toNat + 1 := by omega
theorem aout {i : Int} {n m : Nat} (e : m = n) (h : ¬ i < n) : (m : Int) ≤ i := e ▸ Int.not_lt.mp h
theorem aleL {i : Int} {xv : List Value} {n : Nat} (e : xv.length = n) (h : i ≤ n) : i.toNat ≤ xv.toArray.size := by rw [List.size_toArray, e]; exact Int.toNat_le.mpr h
theorem afit0 {m n : Nat} (b : n ≤ 1000) (e : m = n) : m ≤ 16777216 := by omega
theorem afit2 {m n k r f : Nat} (b : n ≤ 1000) (e : m = k) (z : k + r = f) (d : f ≤ n) : m ≤ 16777216 := by omega
theorem afit3 {m n k v i f : Nat} (b : n ≤ 1000) (e : m = k) (l : v = n) (z : k + (n - i) = f) (d : f ≤ n) : m + (v - i) ≤ 1000000 := by omega
theorem ms1 {i : Int} {x r n : Nat} (h0 : 0 ≤ i) (hi : i < x) (hn : n = x - i.toNat + r) : x - (i + 1).toNat + r < n := by
  rw [hn, asucc h0]
  exact Nat.add_lt_add_right (Nat.sub_lt_sub_left (atoN h0 hi) (Nat.lt_succ_self _)) r
theorem ms2 {j : Int} {x y n : Nat} (h0 : 0 ≤ j) (hj : j < y) (hn : n = x + (y - j.toNat)) : x + (y - (j + 1).toNat) < n := by
  rw [hn, asucc h0]
  exact Nat.add_lt_add_left (Nat.sub_lt_sub_left (atoN h0 hj) (Nat.lt_succ_self _)) x
theorem ms3 {i j : Int} {x y n : Nat} (h0 : 0 ≤ i) (hi : i < x) (h1 : 0 ≤ j) (hj : j < y) (hn : n = x - i.toNat + (y - j.toNat)) : x - (i + 1).toNat + (y - (j + 1).toNat) < n :=
  Nat.lt_trans (ms1 h0 hi rfl) (ms2 h1 hj hn)
theorem allIs6 {m : Str → Option Value} {a b c d e f g h : Str × Value} (H : AllIs m [a, b, c, d, e, f, g, h]) : AllIs m [a, b, c, d, e, f] :=
  ⟨H.1, H.2.1, H.2.2.1, H.2.2.2.1, H.2.2.2.2.1, H.2.2.2.2.2.1, trivial⟩
section
variable {c : DC} {s : Shared} {h : Heap} {tk : Nat}
theorem DInv.mk {Q : Shared → Prop} {n : Nat} (d : DS) (lt : (c.xs.length - d.i.toNat) + (c.ys.length - d.j.toNat) < n) (ok : d.Ok c) (on : d.On c) (F : Fr c.hb c.L h d.m) (N : News c.hb c.L h (d.new c ++ d.frs c))
    (k : ∀ s₃ m, m < n → DInv c s m s₃ → Q s₃) : Q { s with heap := h, toks := tk } := k _ _ lt ⟨d, h, tk, rfl, rfl, ok, on, F, N⟩
theorem DInv.elim {n : Nat} {s' : Shared} {P : Shared → Prop} (H : DInv c s n s')
    (k : ∀ (d : DS) (h : Heap) (tk : Nat), n = (c.xs.length - d.i.toNat) + (c.ys.length - d.j.toNat) → d.Ok c → d.On c → Fr c.hb c.L h d.m → News c.hb c.L h (d.new c ++ d.frs c) → P { s with heap := h, toks := tk }) : P s' := by
  obtain ⟨d, h, tk, rfl, hn, ok, on, F, N⟩ := H
  exact k d h tk hn ok on F N
theorem DEnd.mk (d : DS) (nm : AllIs d.m [(Str.ofString "missing", .ref c.l1), (Str.ofString "unexpected", .ref c.l2)]) (e1 : StrsAre d.mv (dif c.xs c.ys).1) (e2 : StrsAre d.uv (dif c.xs c.ys).2) (F : Fr c.hb c.L h d.m) (N : News c.hb c.L h (d.new c ++ d.frs c)) :
    DEnd c s { s with heap := h, toks := tk } := ⟨d, h, tk, rfl, nm, e1, e2, F, N⟩
theorem DEnd.elim {s' : Shared} {P : Shared → Prop} (H : DEnd c s s')
    (k : ∀ (d : DS) (h : Heap) (tk : Nat), AllIs d.m [(Str.ofString "missing", .ref c.l1), (Str.ofString "unexpected", .ref c.l2)] → StrsAre d.mv (dif c.xs c.ys).1 → StrsAre d.uv (dif c.xs c.ys).2 → Fr c.hb c.L h d.m → News c.hb c.L h (d.new c ++ d.frs c) → P { s with heap := h, toks := tk }) : P s' := by
  obtain ⟨d, h, tk, rfl, nm, e1, e2, F, N⟩ := H
  exact k d h tk nm e1 e2 F N
theorem DExc.fly {e : Addr} {cx : Value} (d : DS) (ok : d.Ok c) (en : d.End c) (H : Fly c.hb c.L d.m [c.ev1, c.ev2] (d.new c) (d.frs c) cx e (rawInt c.L) h) : DExc c s (.ref e) { s with heap := h, toks := tk } :=
  ⟨d, e, h, tk, rfl, rfl, ok, en, .inr ⟨_, H⟩⟩
theorem DExc.new {e : Addr} {h₀ : Heap} (d : DS) (ok : d.Ok c) (en : d.End c) (F : Fr c.hb c.L h₀ d.m) (N : News c.hb c.L h₀ (d.new c ++ d.frs c)) (nx : Heap.NewExc h₀ h e "IndexError") : DExc c s (.ref e) { s with heap := h, toks := tk } :=
  ⟨d, e, h, tk, rfl, rfl, ok, en, .inl ⟨_, F, N, nx⟩⟩
theorem DExc.elim {v : Value} {s' : Shared} {P : Value → Shared → Prop} (H : DExc c s v s')
    (k : ∀ (d : DS) (e : Addr) (h : Heap) (tk : Nat), d.Ok c → d.End c → ((∃ h₀, Fr c.hb c.L h₀ d.m ∧ News c.hb c.L h₀ (d.new c ++ d.frs c) ∧ Heap.NewExc h₀ h e "IndexError") ∨ ∃ cx, Fly c.hb c.L d.m [c.ev1, c.ev2] (d.new c) (d.frs c) cx e (rawInt c.L) h) → P (.ref e) { s with heap := h, toks := tk }) : P v s' := by
  obtain ⟨d, e, h, tk, rfl, rfl, ok, en, hexc⟩ := H
  exact k d e h tk ok en hexc
end
local macro_rules | `(tactic| walk_at "exec While Compare cons nil") => `(tactic| (refine while_once ?_))
theorem diff_spec {w : World} {mean : ExcName → Option Value} {mg mb : Str → Option Value} {A : Around} {g : Heap}
  {s : Shared} {xa ya : Addr} {xv yv : List Value} {xs ys : List Str} {ev1 ev2 : Env} {L1 L2 : Addr} {o1 o2 : Obj} {Q E : Value → Shared → Prop}
  (G : Gr w mean mg mb g) (st : g.StaysIn s.heap) (hroom : A.depth < recursionLimit) (hh : A.handled = none) (hA : A.frames = some [ev1, ev2])
  (Fs : Frs [ev1, ev2] [(L1, o1), (L2, o2)]) (h1 : s.heap.get? L1 = some o1) (h2 : s.heap.get? L2 = some o2) (h12 : L1 ≠ L2) (g1 : g.get? L1 = none) (g2 : g.get? L2 = none)
  (hx : s.heap.IsList xa xv.toArray) (hxs : StrsAre xv xs) (hy : s.heap.IsList ya yv.toArray) (hys : StrsAre yv ys)
  (sx : xs.Pairwise (fun a b => a.cps.toList < b.cps.toList)) (sy : ys.Pairwise (fun a b => a.cps.toList < b.cps.toList)) (bx : xs.length ≤ 1000) (by' : ys.length ≤ 1000)
  (ret : ∀ h' tk a l1 l2 mv uv n1 n2 t1 t2, (∀ b o, b ≠ L1 → b ≠ L2 → s.heap.get? b = some o → h'.get? b = some o) → h'.get? L1 = some { o1 with slots := t1 } → h'.get? L2 = some { o2 with slots := t2 } →
    h'.get? a = some { cls := .type "tuple", data := .seq #[.ref l1, .ref l2] } → h'.get? l1 = some (listOf mv.toArray n1) → h'.get? l2 = some (listOf uv.toArray n2) → StrsAre mv (dif xs ys).1 → StrsAre uv (dif xs ys).2 →
    s.heap.get? a = none → s.heap.get? l1 = none → s.heap.get? l2 = none → Q (.ref a) { s with heap := h', toks := tk }) :
  wpAny (model PySem.Challenge.rw_nq0100_01.row.prog w) A (call (.ref 21) [.ref xa, .ref ya]) Q E s := by
  have X := G.X.keeps st
  have T := G.T.keeps st
  revert X; k_fill; intro X
  refine wpAny_call ?_
  k_dflt (refine' enterH (hid := [(L1, o1), (L2, o2)]) (binds := [(Str.ofString "expected", .ref xa), (Str.ofString "actual", .ref ya)]) ?hh X T ?k6 ?k7 hroom ?k9 ?kB ?_ ?c2 ?c3 ?c4 ?c5; (case k6 => k_is); (case k7 => k_is); (case k9 => exact BindsTo.of_eq rfl); (case kB => exact locs rfl); (case c2 => exact rfl); (case c3 => exact rfl); (case c4 => exact rfl); (case c5 => decide))
  · intro q hq
    rcases List.mem_cons.mp hq with rfl | hq
    · exact h1
    · rw [List.mem_singleton.mp hq]; exact h2
  clear X T
  intro L' h' hL F' N' lt
  simp only [List.map_cons, List.map_nil] at F' N'
  have sth : g.StaysIn (hideAll s.heap [L1, L2]) := stays_hideL st (fun a ha => by
    rcases List.mem_cons.mp ha with rfl | ha
    · exact g1
    · rw [List.mem_singleton.mp ha]; exact g2)
  have X := G.X.keeps sth
  have T := G.T.keeps sth
  k_lt lt
  dsimp only
  (try k_unmd); k_fold
  iterate 23 walk1
  rename Fr _ _ _ _ => F1
  rename News _ _ _ _ => N1
  rename_i l1 hq1 q1 hq2 tq2 l2 hq3 q2 hq4
  generalize hhb : hideAll s.heap [L1, L2] = hb at *
  let c : DC := ⟨hb, L', l1, l2, xa, ya, L1, L2, o1, o2, xs, ys, ev1, ev2⟩
  have a1 : l2 ≠ L1 := neN (Nat.ne_of_gt q2.2.1)
  have a2 : l2 ≠ L2 := neN (Nat.ne_of_gt q2.2.2)
  have a3 : l1 ≠ L1 := neN (Nat.ne_of_gt q1.1)
  have a4 : l1 ≠ L2 := neN (Nat.ne_of_gt q1.2)
  have a5 : l2 ≠ l1 := neN (Nat.ne_of_gt q2.1)
  have hxb : hb.IsList xa xv.toArray := hhb ▸ list_hide hx h1 h2 Fs
  have hyb : hb.IsList ya yv.toArray := hhb ▸ list_hide hy h1 h2 Fs
  have C : c.Ok := ⟨Fs, a1, a2, a3, a4⟩
  refine while_done (DInv c s) (DEnd c s) (n := xs.length + ys.length) ?_ ?_ ?_
  · refine ⟨⟨_, 0, 0, _, _, [], [], 0, 0, o1.slots, o2.slots, [], []⟩, _, _, rfl, by simp [c], ⟨by simp, by simp, by simp, by simp, ⟨rfl, rfl, rfl, rfl, rfl, rfl, trivial⟩, .nil, .nil⟩, ⟨by simp [c], by simp [c]⟩, F1, N1⟩
  · intro s' hI
    dsimp only
    refine hI.elim fun d h tk hm hms hus F2 N2 => ?_
    clear hI
    clear F1 N1
    have F3 := fr_overA _ F2 hm
    clear F2
    simp only [DS.new, DS.frs, List.cons_append, List.nil_append] at N2
    dsimp only [c] at F3 N2 hms hus
    iterate 9 walk1
    rename Fr _ _ _ _ => F4
    rename News _ _ _ _ => N4
    show Q _ _
    have nn : ∀ b, hb.get? b = none → b ≠ L1 → b ≠ L2 → s.heap.get? b = none := fun b q n1 n2 => by
      cases z : s.heap.get? b with
      | none => rfl
      | some o =>
        have := hideAll_get [L1, L2] z (fun hm => by
          rcases List.mem_cons.mp hm with hm | hm
          · exact n1 hm
          · exact n2 (List.mem_singleton.mp hm))
        rw [hhb, q] at this; cases this
    refine ret _ _ _ _ _ _ _ _ _ _ _ (fun b o n1 n2 z => F4.keep b o ?_) (N4.get (by k_mem)) (N4.get (by k_mem)) (N4.get (.head _)) (N4.get (by k_mem)) (N4.get (by k_mem)) hms hus (nn _ (N4 _ (.head _)).2.2 (neN (by omega)) (neN (by omega))) (nn _ (N4 (l1, _) (by k_mem)).2.2 a3 a4) (nn _ (N4 (l2, _) (by k_mem)).2.2 a1 a2)
    rw [← hhb]
    exact hideAll_get _ z (fun hm => by
      rcases List.mem_cons.mp hm with hm | hm
      · exact n1 hm
      · exact n2 (List.mem_singleton.mp hm))
  · intro n s' hI Q' kN kB
    refine hI.elim fun d h tk hn ok on F2 N2 => ?_
    clear hI
    clear F1 N1
    have F3 := fr_overA _ F2 ok.nm
    clear F2
    iterate 3 walk1
    refine ⟨rfl, ?_⟩
    walk1
    refine try_exc (DExc c s) ?_ ?_
    · clear F3 N2 on ok hn
      rintro v s' ⟨d, e, h, tk, rfl, rfl, ok, en, hexc⟩
      refine exc_note (Around.frames_deeper hA) (C.frs d) (C.hap d) hexc (fun h5 cx H5 => ?_) rfl
      clear hexc
      refine fly_set (fr := none) H5 (fun h6 H6 => ?_)
      refine fly_catch H6 T (by decide +kernel) (by decide +kernel) (by decide +kernel) (by decide +kernel) (by decide +kernel) (fun h7 frs' SU Fs' F7 N7 => ?_) rfl rfl
      clear H5 H6
      obtain ⟨m, i, j, ti, tj, mv, uv, n1, n2, sl1, sl2, ms, us⟩ := d
      obtain ⟨t1, t2, rfl⟩ := sameUp_two SU
      have F8 := fr_overA _ F7 ok.nm
      clear F7 SU Fs'
      dsimp only [DS.new, DS.names, c] at F8 N7
      dsimp only [List.cons_append, List.nil_append] at N7
      (try k_unmd); k_fold
      have hmi : (i.toNat : Int) = i := Int.toNat_of_nonneg ok.i0
      have hmj : (j.toNat : Int) = j := Int.toNat_of_nonneg ok.j0
      have i1 := ok.i1
      have j1 := ok.j1
      dsimp only [c] at i1 j1
      have lxv := hxs.length
      have lyv := hys.length
      have lms := ok.ms.length
      have lus := ok.us.length
      dsimp only at lms lus
      have dl := dif_len _ xs ys (Nat.le_refl _)
      have z1 := congrArg List.length en.e1
      have z2 := congrArg List.length en.e2
      simp only [List.length_append, List.length_drop, c] at z1 z2
      have sx1 : slicePick xv.toArray (some i) none none = (xv.drop i.toNat).toArray := by
        have := slicePick_from xv.toArray i.toNat (aleL hxs.length ok.i1)
        rwa [hmi] at this
      have sy1 : slicePick yv.toArray (some j) none none = (yv.drop j.toNat).toArray := by
        have := slicePick_from yv.toArray j.toNat (aleL hys.length ok.j1)
        rwa [hmj] at this
      iterate 14 walk1
      rename Fr _ _ _ _ => F8
      rename News _ _ _ _ => N8
      refine slice_list (lo := some i) (hi := none) F8 N8 (stays_list F8.keep hxb) (.int _ _) .none (fun h9 F9 N9 => ?_) (by with_unfolding_all rfl) (by intro _; with_unfolding_all rfl) (by rw [sizeLine_eq]; exact afit0 bx lxv)
      rw [sx1] at N9
      have b1 := Heap.lt_size (N8 (l2, _) (.head _)).1
      have b2 := Heap.lt_size (N8 (l1, _) (.tail _ (.head _))).1
      have b3 := Heap.lt_size (N8 (L1, _) (.tail _ (.tail _ (.head _)))).1
      have b4 := Heap.lt_size (N8 (L2, _) (.tail _ (.tail _ (.tail _ (.head _))))).1
      dsimp only at b1 b2 b3 b4 N9 ⊢
      generalize hD : h7.objs.size + 1 = D at N9 ⊢
      replace b1 := ltN (hD ▸ Nat.lt_succ_of_lt b1 : l2 < D)
      replace b2 := ltN (hD ▸ Nat.lt_succ_of_lt b2 : l1 < D)
      replace b3 := ltN (hD ▸ Nat.lt_succ_of_lt b3 : L1 < D)
      replace b4 := ltN (hD ▸ Nat.lt_succ_of_lt b4 : L2 < D)
      clear F8 N8
      walk1
      refine ext_list (gl := fun n' => [(D, { cls := .type "list", data := .seq (List.drop i.toNat xv).toArray }), (l2, listOf uv.toArray n2), (l1, listOf (mv ++ List.drop i.toNat xv).toArray n'), (L1, { o1 with slots := t1 }), (L2, { o2 with slots := t2 })]) F9 N9 (.head _) (fun n' => by k_upd) (by rw [List.length_drop]; exact afit3 bx lms lxv z1 dl.1) (fun h10 n' F10 N10 => ?_)
      have N11 : News hb L' h10 [(l2, listOf uv.toArray n2), (l1, listOf (mv ++ List.drop i.toNat xv).toArray n'), (L1, { o1 with slots := t1 }), (L2, { o2 with slots := t2 })] := fun p hp => N10 p (.tail _ hp)
      clear F9 N9 N10
      dsimp only
      iterate 14 walk1
      refine slice_list (lo := some j) (hi := none) F10 N11 (stays_list F10.keep hyb) (.int _ _) .none (fun h12 F12 N12 => ?_) (by with_unfolding_all rfl) (by intro _; with_unfolding_all rfl) (by rw [sizeLine_eq]; exact afit0 by' lyv)
      rw [sy1] at N12
      have b1 := Heap.lt_size (N11 (l2, _) (.head _)).1
      have b2 := Heap.lt_size (N11 (l1, _) (.tail _ (.head _))).1
      have b3 := Heap.lt_size (N11 (L1, _) (.tail _ (.tail _ (.head _)))).1
      have b4 := Heap.lt_size (N11 (L2, _) (.tail _ (.tail _ (.tail _ (.head _))))).1
      dsimp only at b1 b2 b3 b4 N12 ⊢
      generalize hD2 : h10.objs.size + 1 = D2 at N12 ⊢
      replace b1 := ltN (hD2 ▸ Nat.lt_succ_of_lt b1 : l2 < D2)
      replace b2 := ltN (hD2 ▸ Nat.lt_succ_of_lt b2 : l1 < D2)
      replace b3 := ltN (hD2 ▸ Nat.lt_succ_of_lt b3 : L1 < D2)
      replace b4 := ltN (hD2 ▸ Nat.lt_succ_of_lt b4 : L2 < D2)
      clear F10 N11
      walk1
      refine ext_list (gl := fun n'' => [(D2, { cls := .type "list", data := .seq (List.drop j.toNat yv).toArray }), (l2, listOf (uv ++ List.drop j.toNat yv).toArray n''), (l1, listOf (mv ++ List.drop i.toNat xv).toArray n'), (L1, { o1 with slots := t1 }), (L2, { o2 with slots := t2 })]) F12 N12 (.head _) (fun n' => by k_upd) (by rw [List.length_drop]; exact afit3 by' lus lyv z2 dl.2) (fun h13 n'' F13 N13 => ?_)
      clear F12 N12
      dsimp only
      iterate 2 walk1
      refine kB _ (DEnd.mk ⟨_, i, j, ti, tj, mv ++ List.drop i.toNat xv, uv ++ List.drop j.toNat yv, n', n'', t1, t2, [], []⟩ ⟨rfl, rfl, trivial⟩ ?_ ?_ F13 (fun p hp => N13 p (.tail _ hp)))
      · rw [← en.e1]; exact ok.ms.append' (hxs.drop' _)
      · rw [← en.e2]; exact ok.us.append' (hys.drop' _)
    · obtain ⟨m, i, j, ti, tj, mv, uv, n1, n2, sl1, sl2, ms, us⟩ := d
      have hi0 := ok.i0
      have hi1 := ok.i1
      have hj0 := ok.j0
      have hj1 := ok.j1
      have hms := ok.ms
      have hus := ok.us
      have on1 := on.e1
      have on2 := on.e2
      clear ok on
      dsimp only [c] at hi0 hi1 hj0 hj1 hms hus on1 on2 hn
      simp only [DS.new, DS.frs, List.cons_append, List.nil_append] at N2
      dsimp only [DS.names, c] at F3 N2
      have lxv := hxs.length
      have lyv := hys.length
      have big : (1000 : Int) < 2 ^ 63 := by decide
      iterate 5 walk1
      by_cases hi : i < xs.length
      · obtain ⟨x, hx1⟩ : ∃ x, xs[i.toNat]? = some x := ⟨_, List.getElem?_eq_getElem (atoN hi0 hi)⟩
        obtain ⟨te, hx2⟩ := hxs.get _ _ hx1
        refine item_in (stays_list F3.keep hxb) hi0 (a63 bx hi) hx2 ?_ (by with_unfolding_all rfl)
        iterate 6 walk1
        rename Fr _ _ _ _ => F4
        rename News _ _ _ _ => N4
        by_cases hj : j < ys.length
        · obtain ⟨y, hy1⟩ : ∃ y, ys[j.toNat]? = some y := ⟨_, List.getElem?_eq_getElem (atoN hj0 hj)⟩
          obtain ⟨ta, hy2⟩ := hys.get _ _ hy1
          refine item_in (stays_list F4.keep hyb) hj0 (a63 by' hj) hy2 ?_ (by with_unfolding_all rfl)
          skip
          have dx : xs.drop i.toNat = x :: xs.drop (i.toNat + 1) := (drop_cons_of hx1)
          have dy : ys.drop j.toNat = y :: ys.drop (j.toNat + 1) := (drop_cons_of hy1)
          rw [dx, dy] at on1 on2
          have ti1 : (i + 1).toNat = i.toNat + 1 := asucc hi0
          have tj1 : (j + 1).toNat = j.toNat + 1 := asucc hj0
          have lms := hms.length
          have lus := hus.length
          have dl := dif_len _ xs ys (Nat.le_refl _)
          have z1 := congrArg List.length on1
          have z2 := congrArg List.length on2
          simp only [List.length_append] at z1 z2
          iterate 9 walk1
          · rename_i hlt
            iterate 10 walk1
            refine' append_K ?ka1 ?ka2 ?ka3 ?_ ?ka4
            case ka1 => k_asm
            case ka2 => k_asm
            case ka3 => k_upd
            case ka4 => (rw [sizeLine_eq]; exact afit2 bx lms z1 dl.1)
            intro hpA FpA NpA
            (try k_sweep)
            iterate 13 walk1
            rename Fr _ _ _ _ => F5
            rename News _ _ _ _ => N5
            (try rw [List.push_toArray] at N5)
            obtain ⟨m5, hm5, F5⟩ := fr_pack (ps := [(Str.ofString "expected", .ref xa), (Str.ofString "actual", .ref ya), (Str.ofString "i", .int (i + 1) _), (Str.ofString "j", .int j tj), (Str.ofString "missing", .ref l1), (Str.ofString "unexpected", .ref l2), (Str.ofString "e", .str x te), (Str.ofString "a", .str y ta)]) F5 ⟨rfl, rfl, rfl, rfl, rfl, rfl, rfl, rfl, trivial⟩
            obtain ⟨t5, hm5⟩ : ∃ t5, AllIs m5 [(Str.ofString "expected", .ref xa), (Str.ofString "actual", .ref ya), (Str.ofString "i", .int (i + 1) t5), (Str.ofString "j", .int j tj), (Str.ofString "missing", .ref l1), (Str.ofString "unexpected", .ref l2), (Str.ofString "e", .str x te), (Str.ofString "a", .str y ta)] := ⟨_, hm5⟩
            have F6 := fr_overA _ F5 hm5
            rw [dif_lt hlt] at on1 on2
            dsimp only at on1 on2
            have hms' : StrsAre (mv ++ [.str x te]) (ms ++ [x]) := hms.append' (.cons x te .nil)
            by_cases hi2 : i + 1 < xs.length
            · obtain ⟨x2, hx3⟩ : ∃ x, xs[(i + 1).toNat]? = some x := ⟨_, List.getElem?_eq_getElem (atoN (ai0 hi0) hi2)⟩
              obtain ⟨te2, hx4⟩ := hxs.get _ _ hx3
              refine item_in (stays_list F5.keep hxb) (ai0 hi0) (a63 bx hi2) hx4 ?_ (by with_unfolding_all rfl)
              have hne := next_ne sx hx1 (ti1 ▸ hx3)
              iterate 3 walk1
              refine ⟨next_ne' (xs := xs) hne, ?_⟩
              iterate 3 walk1
              refine DInv.mk (k := kN) ⟨m5, i + 1, j, t5, tj, mv ++ [Value.str x te], uv, n1 + 1, n2, sl1, sl2, ms ++ [x], us⟩ (ms1 hi0 hi hn) ⟨ai0 hi0, ale hi, hj0, hj1, (allIs6 hm5), hms', hus⟩ ⟨?_, ?_⟩ F5 N5
              · dsimp only [c]; rw [ti1, dy, List.append_assoc]; exact on1
              · dsimp only [c]; rw [ti1, dy]; exact on2
            · refine item_out hh (stays_list F5.keep hxb) (aout lxv hi2) (a63' bx hi) (fun h' tk' e nx => ?_) (by with_unfolding_all rfl)
              refine exc_new_back C (Around.frames_deeper hA) (d := ⟨m5, i + 1, j, t5, tj, mv ++ [Value.str x te], uv, n1 + 1, n2, sl1, sl2, ms ++ [x], us⟩) F5 N5 nx rfl (fun h'' H => ?_)
              have e1 : xs.drop (i.toNat + 1) = [] := List.drop_eq_nil_of_le (ange1 hi2)
              rw [e1, dif_nil_left] at on1 on2
              refine DExc.fly ⟨m5, i + 1, j, t5, tj, mv ++ [Value.str x te], uv, n1 + 1, n2, sl1, sl2, ms ++ [x], us⟩ ⟨ai0 hi0, ale hi, hj0, hj1, (allIs6 hm5), hms', hus⟩ ⟨?_, ?_⟩ H
              · dsimp only [c]; rw [ti1, e1, List.append_nil]; exact on1
              · dsimp only [c]; rw [dy]; exact on2
          · rename_i hlt
            iterate 9 walk1
            · rename_i hgt
              iterate 9 walk1
              refine' append_K ?ka1 ?ka2 ?ka3 ?_ ?ka4
              case ka1 => k_asm
              case ka2 => k_asm
              case ka3 => k_upd
              case ka4 => (rw [sizeLine_eq]; exact afit2 by' lus z2 dl.2)
              intro hpA FpA NpA
              (try k_sweep)
              iterate 13 walk1
              rename Fr _ _ _ _ => F5
              rename News _ _ _ _ => N5
              (try rw [List.push_toArray] at N5)
              obtain ⟨m5, hm5, F5⟩ := fr_pack (ps := [(Str.ofString "expected", .ref xa), (Str.ofString "actual", .ref ya), (Str.ofString "i", .int i ti), (Str.ofString "j", .int (j + 1) _), (Str.ofString "missing", .ref l1), (Str.ofString "unexpected", .ref l2), (Str.ofString "e", .str x te), (Str.ofString "a", .str y ta)]) F5 ⟨rfl, rfl, rfl, rfl, rfl, rfl, rfl, rfl, trivial⟩
              obtain ⟨t5, hm5⟩ : ∃ t5, AllIs m5 [(Str.ofString "expected", .ref xa), (Str.ofString "actual", .ref ya), (Str.ofString "i", .int i ti), (Str.ofString "j", .int (j + 1) t5), (Str.ofString "missing", .ref l1), (Str.ofString "unexpected", .ref l2), (Str.ofString "e", .str x te), (Str.ofString "a", .str y ta)] := ⟨_, hm5⟩
              have F6 := fr_overA _ F5 hm5
              rw [dif_gt hlt hgt] at on1 on2
              dsimp only at on1 on2
              have hus' : StrsAre (uv ++ [.str y ta]) (us ++ [y]) := hus.append' (.cons y ta .nil)
              by_cases hj2 : j + 1 < ys.length
              · obtain ⟨y2, hy3⟩ : ∃ x, ys[(j + 1).toNat]? = some x := ⟨_, List.getElem?_eq_getElem (atoN (ai0 hj0) hj2)⟩
                obtain ⟨ta2, hy4⟩ := hys.get _ _ hy3
                refine item_in (stays_list F5.keep hyb) (ai0 hj0) (a63 by' hj2) hy4 ?_ (by with_unfolding_all rfl)
                have hne := next_ne sy hy1 (tj1 ▸ hy3)
                iterate 3 walk1
                refine ⟨next_ne' (xs := xs) hne, ?_⟩
                iterate 4 walk1
                refine DInv.mk (k := kN) ⟨m5, i, j + 1, ti, t5, mv, uv ++ [Value.str y ta], n1, n2 + 1, sl1, sl2, ms, us ++ [y]⟩ (ms2 hj0 hj hn) ⟨hi0, hi1, ai0 hj0, ale hj, (allIs6 hm5), hms, hus'⟩ ⟨?_, ?_⟩ F5 N5
                · dsimp only [c]; rw [tj1, dx]; exact on1
                · dsimp only [c]; rw [tj1, dx, List.append_assoc]; exact on2
              · refine item_out hh (stays_list F5.keep hyb) (aout lyv hj2) (a63' by' hj) (fun h' tk' e nx => ?_) (by with_unfolding_all rfl)
                refine exc_new_back C (Around.frames_deeper hA) (d := ⟨m5, i, j + 1, ti, t5, mv, uv ++ [Value.str y ta], n1, n2 + 1, sl1, sl2, ms, us ++ [y]⟩) F5 N5 nx rfl (fun h'' H => ?_)
                have e1 : ys.drop (j.toNat + 1) = [] := List.drop_eq_nil_of_le (ange1 hj2)
                rw [e1, dif_nil_right] at on1 on2
                refine DExc.fly ⟨m5, i, j + 1, ti, t5, mv, uv ++ [Value.str y ta], n1, n2 + 1, sl1, sl2, ms, us ++ [y]⟩ ⟨hi0, hi1, ai0 hj0, ale hj, (allIs6 hm5), hms, hus'⟩ ⟨?_, ?_⟩ H
                · dsimp only [c]; rw [dx]; exact on1
                · dsimp only [c]; rw [tj1, e1, List.append_nil]; exact on2
            · rename_i hgt
              iterate 7 walk1
              refine wpAny_Try_finally ?_
              iterate 7 walk1
              rename Fr _ _ _ _ => F5
              rename News _ _ _ _ => N5
              obtain ⟨m5, hm5, F5⟩ := fr_pack (ps := [(Str.ofString "expected", .ref xa), (Str.ofString "actual", .ref ya), (Str.ofString "i", .int (i + 1) _), (Str.ofString "j", .int j tj), (Str.ofString "missing", .ref l1), (Str.ofString "unexpected", .ref l2), (Str.ofString "e", .str x te), (Str.ofString "a", .str y ta)]) F5 ⟨rfl, rfl, rfl, rfl, rfl, rfl, rfl, rfl, trivial⟩
              obtain ⟨t5, hm5⟩ : ∃ t5, AllIs m5 [(Str.ofString "expected", .ref xa), (Str.ofString "actual", .ref ya), (Str.ofString "i", .int (i + 1) t5), (Str.ofString "j", .int j tj), (Str.ofString "missing", .ref l1), (Str.ofString "unexpected", .ref l2), (Str.ofString "e", .str x te), (Str.ofString "a", .str y ta)] := ⟨_, hm5⟩
              have F6 := fr_overA _ F5 hm5
              rw [dif_eq hlt hgt] at on1 on2
              have ej : ¬ (j + 1 < ys.length) → ys.drop (j.toNat + 1) = [] := fun q => List.drop_eq_nil_of_le (ange1 q)
              have ei : ¬ (i + 1 < xs.length) → xs.drop (i.toNat + 1) = [] := fun q => List.drop_eq_nil_of_le (ange1 q)
              by_cases hi2 : i + 1 < xs.length
              · obtain ⟨x2, hx3⟩ : ∃ x, xs[(i + 1).toNat]? = some x := ⟨_, List.getElem?_eq_getElem (atoN (ai0 hi0) hi2)⟩
                obtain ⟨te2, hx4⟩ := hxs.get _ _ hx3
                refine item_in (stays_list F5.keep hxb) (ai0 hi0) (a63 bx hi2) hx4 ?_ (by with_unfolding_all rfl)
                have hne := next_ne sx hx1 (ti1 ▸ hx3)
                iterate 3 walk1
                refine ⟨next_ne' (xs := xs) hne, ?_⟩
                iterate 14 walk1
                rename Fr _ _ _ _ => F7
                rename News _ _ _ _ => N7
                obtain ⟨m6, hm6, F7⟩ := fr_pack (ps := [(Str.ofString "expected", .ref xa), (Str.ofString "actual", .ref ya), (Str.ofString "i", .int (i + 1) t5), (Str.ofString "j", .int (j + 1) _), (Str.ofString "missing", .ref l1), (Str.ofString "unexpected", .ref l2), (Str.ofString "e", .str x te), (Str.ofString "a", .str y ta)]) F7 ⟨rfl, rfl, rfl, rfl, rfl, rfl, rfl, rfl, trivial⟩
                obtain ⟨t6, hm6⟩ : ∃ t6, AllIs m6 [(Str.ofString "expected", .ref xa), (Str.ofString "actual", .ref ya), (Str.ofString "i", .int (i + 1) t5), (Str.ofString "j", .int (j + 1) t6), (Str.ofString "missing", .ref l1), (Str.ofString "unexpected", .ref l2), (Str.ofString "e", .str x te), (Str.ofString "a", .str y ta)] := ⟨_, hm6⟩
                have F9 := fr_overA _ F7 hm6
                by_cases hj2 : j + 1 < ys.length
                · obtain ⟨y2, hy3⟩ : ∃ x, ys[(j + 1).toNat]? = some x := ⟨_, List.getElem?_eq_getElem (atoN (ai0 hj0) hj2)⟩
                  obtain ⟨ta2, hy4⟩ := hys.get _ _ hy3
                  refine item_in (stays_list F7.keep hyb) (ai0 hj0) (a63 by' hj2) hy4 ?_ (by with_unfolding_all rfl)
                  have hne2 := next_ne sy hy1 (tj1 ▸ hy3)
                  iterate 3 walk1
                  refine ⟨next_ne' (xs := xs) hne2, ?_⟩
                  iterate 5 walk1
                  refine DInv.mk (k := kN) ⟨m6, i + 1, j + 1, t5, t6, mv, uv, n1, n2, sl1, sl2, ms, us⟩ (ms3 hi0 hi hj0 hj hn) ⟨ai0 hi0, ale hi, ai0 hj0, ale hj, (allIs6 hm6), hms, hus⟩ ⟨?_, ?_⟩ F7 N7
                  · dsimp only [c]; rw [ti1, tj1]; exact on1
                  · dsimp only [c]; rw [ti1, tj1]; exact on2
                · refine item_out hh (stays_list F7.keep hyb) (aout lyv hj2) (a63' by' hj) (fun h' tk' e nx => ?_) (by with_unfolding_all rfl)
                  refine exc_new_back C (Around.frames_deeper hA) (d := ⟨m6, i + 1, j + 1, t5, t6, mv, uv, n1, n2, sl1, sl2, ms, us⟩) F7 N7 nx rfl (fun h'' H => ?_)
                  rw [ej hj2, dif_nil_right] at on1 on2
                  refine fly_noted H (fun h3 H3 => ?_)
                  refine DExc.fly ⟨m6, i + 1, j + 1, t5, t6, mv, uv, n1, n2, sl1, sl2, ms, us⟩ ⟨ai0 hi0, ale hi, ai0 hj0, ale hj, (allIs6 hm6), hms, hus⟩ ⟨?_, ?_⟩ H3
                  · dsimp only [c]; rw [ti1]; exact on1
                  · dsimp only [c]; rw [tj1, ej hj2]; exact on2
              · refine item_out hh (stays_list F5.keep hxb) (aout lxv hi2) (a63' bx hi) (fun h' tk' e nx => ?_) (by with_unfolding_all rfl)
                refine exc_new_back C (Around.frames_deeper hA) (d := ⟨m5, i + 1, j, t5, tj, mv, uv, n1, n2, sl1, sl2, ms, us⟩) F5 N5 nx rfl (fun h'' H => ?_)
                refine fly_note H ?_
                refine ⟨ref_ne_byPass _, ?_⟩
                refine fly_note H (fly_set (fr := none) H (fun h3 H3 => ?_))
                obtain ⟨frs', oe, tb, otb, SU, Fs', FO, F7, N7, hnb, hoff⟩ := H3
                obtain ⟨s1, s2, rfl⟩ := sameUp_two SU
                have F8 := fr_overA _ F7 hm5
                clear F7 SU H F5 F6 N5
                simp only [DS.new, List.cons_append, List.nil_append] at N7 hoff
                dsimp only [c] at F8 N7
                iterate 12 walk1
                rename Fr _ _ _ _ => F7
                rename News _ _ _ _ => N7
                obtain ⟨m6, hm6, F7⟩ := fr_pack (ps := [(Str.ofString "expected", .ref xa), (Str.ofString "actual", .ref ya), (Str.ofString "i", .int (i + 1) t5), (Str.ofString "j", .int (j + 1) _), (Str.ofString "missing", .ref l1), (Str.ofString "unexpected", .ref l2), (Str.ofString "e", .str x te), (Str.ofString "a", .str y ta)]) F7 ⟨rfl, rfl, rfl, rfl, rfl, rfl, rfl, rfl, trivial⟩
                obtain ⟨t6, hm6⟩ : ∃ t6, AllIs m6 [(Str.ofString "expected", .ref xa), (Str.ofString "actual", .ref ya), (Str.ofString "i", .int (i + 1) t5), (Str.ofString "j", .int (j + 1) t6), (Str.ofString "missing", .ref l1), (Str.ofString "unexpected", .ref l2), (Str.ofString "e", .str x te), (Str.ofString "a", .str y ta)] := ⟨_, hm6⟩
                have F9 := fr_overA _ F7 hm6
                rw [ei hi2, dif_nil_left] at on1 on2
                have N8 : News hb L' _ [(l2, listOf uv.toArray n2), (l1, listOf mv.toArray n1), (L1, { o1 with slots := s1 }), (L2, { o2 with slots := s2 })] := fun p hp => N7 p (.tail _ (.tail _ hp))
                by_cases hj2 : j + 1 < ys.length
                · obtain ⟨y2, hy3⟩ : ∃ x, ys[(j + 1).toNat]? = some x := ⟨_, List.getElem?_eq_getElem (atoN (ai0 hj0) hj2)⟩
                  obtain ⟨ta2, hy4⟩ := hys.get _ _ hy3
                  refine item_in (stays_list F7.keep hyb) (ai0 hj0) (a63 by' hj2) hy4 ?_ (by with_unfolding_all rfl)
                  have hne2 := next_ne sy hy1 (tj1 ▸ hy3)
                  iterate 3 walk1
                  refine ⟨next_ne' (xs := xs) hne2, ?_⟩
                  iterate 1 walk1
                  refine fly_pass (hb := hb) (L := L') (m := m6) (l := [ev1, ev2]) (new := [(l2, listOf uv.toArray n2), (l1, listOf mv.toArray n1)]) (frs := [(L1, { o1 with slots := s1 }), (L2, { o2 with slots := s2 })]) ⟨_, oe, tb, otb, SameUp.refl _, Fs', FO, F7, N7, hnb, hoff⟩ (fun h4 H4 => ?_)
                  refine DExc.fly ⟨m6, i + 1, j + 1, t5, t6, mv, uv, n1, n2, s1, s2, ms, us⟩ ⟨ai0 hi0, ale hi, ai0 hj0, ale hj, (allIs6 hm6), hms, hus⟩ ⟨?_, ?_⟩ H4
                  · dsimp only [c]; rw [ti1, ei hi2]; exact on1
                  · dsimp only [c]; rw [tj1]; exact on2
                · obtain ⟨_, ⟨ws, wd, _, w2⟩, _⟩ := id FO
                  refine item_under (e1 := e) rfl (N7.get (.head _)) wd w2 (stays_list F7.keep hyb) (aout lyv hj2) (a63' by' hj) (fun h' tk' e2 un => ?_) (by with_unfolding_all rfl)
                  refine exc_under_back C (Around.frames_deeper hA) (d := ⟨m6, i + 1, j + 1, t5, t6, mv, uv, n1, n2, s1, s2, ms, us⟩) F7 N8 un rfl (fun h'' H => ?_)
                  refine fly_noted H (fun h3 H3 => ?_)
                  refine DExc.fly ⟨m6, i + 1, j + 1, t5, t6, mv, uv, n1, n2, s1, s2, ms, us⟩ ⟨ai0 hi0, ale hi, ai0 hj0, ale hj, (allIs6 hm6), hms, hus⟩ ⟨?_, ?_⟩ H3
                  · dsimp only [c]; rw [ti1, ei hi2]; exact on1
                  · dsimp only [c]; rw [tj1]; exact on2
        · refine item_out hh (stays_list F4.keep hyb) (aout lyv hj) (a63E by' hj1) (fun h' tk' e nx => ?_) (by with_unfolding_all rfl)
          refine DExc.new ⟨_, i, j, ti, tj, mv, uv, n1, n2, sl1, sl2, ms, us⟩ ⟨hi0, hi1, hj0, hj1, ⟨rfl, rfl, rfl, rfl, rfl, rfl, trivial⟩, hms, hus⟩ ⟨?_, ?_⟩ F4 N4 nx
          · have e2 : ys.drop j.toNat = [] := List.drop_eq_nil_of_le (ange hj)
            rw [e2, dif_nil_right] at on1; exact on1
          · have e2 : ys.drop j.toNat = [] := List.drop_eq_nil_of_le (ange hj)
            rw [e2, dif_nil_right] at on2; dsimp only [c]; rw [e2]; exact on2
      · refine item_out hh (stays_list F3.keep hxb) (aout lxv hi) (a63E bx hi1) (fun h' tk' e nx => ?_) (by with_unfolding_all rfl)
        have e1 : xs.drop i.toNat = [] := List.drop_eq_nil_of_le (ange hi)
        rw [e1, dif_nil_left] at on1 on2
        refine DExc.new ⟨_, i, j, ti, tj, mv, uv, n1, n2, sl1, sl2, ms, us⟩ ⟨hi0, hi1, hj0, hj1, ⟨rfl, rfl, rfl, rfl, rfl, rfl, trivial⟩, hms, hus⟩ ⟨?_, ?_⟩ F3 N2 nx
        · dsimp only [c]; rw [e1]; exact on1
        · exact on2
end Mine

end
section
open PySem PySem.W PySem.Calls PyProof.Rows
namespace Mine
section
variable {prog : Program} {w : World} {A : Around} {E : Value → Shared → Prop} {s : Shared} {env : Env} {h₀ : Heap} {target : Expr} {body orelse : List Stmt} {Q : Flow → Shared → Prop}

/- a for with an else -/
theorem loopE {R : Result → Shared → Prop} {I : Addr} {fp wr : List Addr} {n : Nat} {P Md : Nat → Value → Heap → Prop} {St : Nat → Heap → Prop} {m : Str → Option Value} {news : List (Addr × Obj)} (W : KTurns prog w A target I fp wr n P Md St)
    (hLf : env.locals ∉ fp) (hwr : ∀ b ∈ wr, h₀.get? b = none) (hnw : ∀ p ∈ news, p.1 ∉ wr) (hst : St 0 s.heap) (F : Fr h₀ env.locals s.heap m) (N : News h₀ env.locals s.heap news)
    (J : Nat → (Str → Option Value) → List (Addr × Obj) → Prop) (h0 : J 0 m news)
    (step : ∀ i v m₁ news₁ h₁ tk₁ own, i < n → P i v h₁ → J i m₁ news₁ → (∀ p ∈ news₁, p.1 ∉ wr) → (∀ p ∈ own, p.1 ∈ fp) → (∀ p ∈ own, h₁.get? p.1 = some p.2) → (∀ b ∈ fp, h₀.get? b = none → ∀ o, h₁.get? b = some o → (b, o) ∈ own) → St (i + 1) h₁ →
      Fr h₀ env.locals h₁ m₁ → News h₀ env.locals h₁ (own ++ news₁) →
      wpAny (model prog w) A (assign target env v) (fun _ s₂ => wpAny (model prog w) A (execs body env)
        (LoopStepV h₀ env.locals wr own (J (i + 1)) { s with heap := h₁, toks := tk₁ } (fun v s' => R (.ok (.ret v)) s') fun s' => R (.ok .next) s') (notedBy (model prog w) A env fun e s' => R (.error e) s') s₂) (notedBy (model prog w) A env fun e s' => R (.error e) s') { s with heap := h₁, toks := tk₁ })
    (hR : ∀ h' tk m' news', Fr h₀ env.locals h' m' → News h₀ env.locals h' news' → (∀ p ∈ news', p.1 ∉ wr) → J n m' news' →
      wpAny (model prog w) A (execs orelse env) (fun f s₃ => R (.ok f) s₃) (notedBy (model prog w) A env fun e s' => R (.error e) s') { s with heap := h', toks := tk }) :
    codeAny (model prog w) A (.forLoop target (.ref I) body orelse env) R s := by
  have hLw : env.locals ∉ wr := fun h => hLf (W.sub _ h)
  have old : ∀ b o, h₀.get? b = some o → b ∉ wr := fun b o e hb => by rw [hwr b hb] at e; cases e
  refine codeAny_forLoop_any
    (fun k s' => ∃ h' tk m' news' i, s' = { s with heap := h', toks := tk } ∧ St i h' ∧ Fr h₀ env.locals h' m' ∧ News h₀ env.locals h' news' ∧ (∀ p ∈ news', p.1 ∉ wr) ∧ J i m' news' ∧ i ≤ n ∧ k = n + 1 - i) ?_ (n + 1)
    ⟨s.heap, s.toks, m, news, 0, rfl, hst, F, N, hnw, h0, Nat.zero_le _, rfl⟩
  rintro k s' ⟨h', tk, m', news', i, rfl, hst', F', N', hnw', hJ, hi, rfl⟩
  have next : ∀ h₁ : Heap, (∀ b o, b ∉ wr → h'.get? b = some o → h₁.get? b = some o) → Fr h₀ env.locals h₁ m' ∧ News h₀ env.locals h₁ news' := fun h₁ hk₁ =>
    ⟨⟨F'.ns.at' fun o e => hk₁ _ o hLw e, fun b o e => hk₁ b o (old b o e) (F'.keep b o e), F'.above⟩, fun p hp => ⟨hk₁ _ _ (hnw' p hp) (N' p hp).1, (N' p hp).2⟩⟩
  by_cases hlt : i < n
  · refine W.item i _ _ _ hlt hst' fun v h₁ tk₁ hMd hk₁ => ?_
    refine W.go i v _ _ _ hMd fun h₂ hP hst₂ hk₂ => ?_
    obtain ⟨F₂, N₂⟩ := next h₂ fun b o hb x => hk₂ b o hb (hk₁ b o hb x)
    have Nown : News h₀ env.locals h₂ (PyProof.Rows.ownOf h₀ fp h₂) := news_ownOf hLf
    refine wpAny_mono (step i v m' news' h₂ tk₁ (PyProof.Rows.ownOf h₀ fp h₂) hlt hP hJ hnw' ownOf_sub (fun p hp => (Nown p hp).1) (fun b hb hn o e => mem_ownOf hb hn e) hst₂ F₂ (Nown.append N₂)) (fun _ s₂ h₂' => wpAny_mono h₂' (fun f s₃ h₃ => ?_) fun _ _ e => e) fun _ _ e => e
    have fin : (∃ h' tk m₂ news₂, s₃ = { s with heap := h', toks := tk } ∧ Fr h₀ env.locals h' m₂ ∧ News h₀ env.locals h' (PyProof.Rows.ownOf h₀ fp h₂ ++ news₂) ∧ (∀ p ∈ news₂, p.1 ∉ wr) ∧ J (i + 1) m₂ news₂) → ∃ m, m < n + 1 - i ∧ ∃ h' tk m' news' i, s₃ = { s with heap := h', toks := tk } ∧ St i h' ∧ Fr h₀ env.locals h' m' ∧ News h₀ env.locals h' news' ∧ (∀ p ∈ news', p.1 ∉ wr) ∧ J i m' news' ∧ i ≤ n ∧ m = n + 1 - i := by
      rintro ⟨h₃', tk₃, m₂, news₂, rfl, F₃, N₃, ha₃, hJ₃⟩
      refine ⟨n + 1 - (i + 1), by omega, h₃', tk₃, m₂, news₂, i + 1, rfl, ?_, F₃, N₃.right, ha₃, hJ₃, hlt, rfl⟩
      refine W.frame _ _ _ hst₂ fun b hb o e => ?_
      cases hn : h₀.get? b with
      | some o₀ =>
        have : o₀ = o := by have q := F₂.keep b o₀ hn; rw [e] at q; exact (Option.some.inj q).symm
        exact this ▸ F₃.keep b o₀ hn
      | none => exact (N₃ _ (List.mem_append_left _ (mem_ownOf hb hn e))).1
    cases f with
    | ret v => exact h₃
    | brk => exact h₃
    | cont => obtain ⟨_, h⟩ := h₃; exact fin h
    | next => obtain ⟨_, h⟩ := h₃; exact fin h
  · have hin : i = n := by omega
    subst hin
    refine W.done _ _ _ hst' fun h₁ tk₁ hk₁ => ?_
    obtain ⟨F₁, N₁⟩ := next h₁ hk₁
    exact hR h₁ tk₁ m' news' F₁ N₁ hnw' hJ

inductive TurnsE (prog : Program) (w : World) (A : Around) (h₀ : Heap) (env : Env) (target : Expr) (body orelse : List Stmt) (Q : Flow → Shared → Prop) (E : Value → Shared → Prop) (it : Value) (s₂ : Shared) : Prop
  | mk (I : Addr) (fp wr : List Addr) (n : Nat) (P Md : Nat → Value → Heap → Prop) (St : Nat → Heap → Prop) (m : Str → Option Value) (news : List (Addr × Obj)) (J : Nat → (Str → Option Value) → List (Addr × Obj) → Prop)
    (hit : it = .ref I) (W : KTurns prog w A target I fp wr n P Md St) (hLf : env.locals ∉ fp) (hwr : ∀ b ∈ wr, h₀.get? b = none) (hnw : ∀ p ∈ news, p.1 ∉ wr) (hst : St 0 s₂.heap) (F : Fr h₀ env.locals s₂.heap m) (N : News h₀ env.locals s₂.heap news) (h0 : J 0 m news)
    (step : ∀ i v m₁ news₁ h₁ tk₁ own, i < n → P i v h₁ → J i m₁ news₁ → (∀ p ∈ news₁, p.1 ∉ wr) → (∀ p ∈ own, p.1 ∈ fp) → (∀ p ∈ own, h₁.get? p.1 = some p.2) → (∀ b ∈ fp, h₀.get? b = none → ∀ o, h₁.get? b = some o → (b, o) ∈ own) → St (i + 1) h₁ →
      Fr h₀ env.locals h₁ m₁ → News h₀ env.locals h₁ (own ++ news₁) →
      wpAny (model prog w) A (assign target env v) (fun _ s₃ => wpAny (model prog w) A (execs body env)
        (LoopStepV h₀ env.locals wr own (J (i + 1)) { s₂ with heap := h₁, toks := tk₁ } (fun v s' => Q (.ret v) s') fun s' => Q .next s') E s₃) E { s₂ with heap := h₁, toks := tk₁ })
    (hQ : ∀ h' tk m' news', Fr h₀ env.locals h' m' → News h₀ env.locals h' news' → (∀ p ∈ news', p.1 ∉ wr) → J n m' news' → wpAny (model prog w) A (execs orelse env) Q E { s₂ with heap := h', toks := tk })

theorem For_turnsE {iter : Expr} {pos : Pos} {m : Str → Option Value} (_F : Fr h₀ env.locals s.heap m)
    (h : wpAny (model prog w) A (eval iter env) (fun xv s₁ => wpAny (model prog w) A (pyIter xv) (fun it s₂ => TurnsE prog w A h₀ env target body orelse Q E it s₂) E s₁) E s)
    (hs : ∀ x, foldedSetIterable iter env x = pure x := by intro _; rfl)
    (hE : PassesOwn (model prog w) A env E := by passes_own) :
    wpAny (model prog w) A (exec (.For target iter body orelse pos) env) Q E s := by
  refine wpAny_For (wpAny_mono h (fun xv s₁ h₁ => wpAny_mono h₁ (fun it s₂ h₂ => ?_) fun _ _ e => e) fun _ _ e => e) hs
  obtain ⟨I, fp, wr, n, P, Md, St, m, news, J, rfl, W, hLf, hwr, hnw, hst, F, N, h0, step, hQ⟩ := h₂
  exact loopE (R := fun r s' => match r with | .ok f => Q f s' | .error e => cameBackBy (model prog w) A env E e s') W hLf hwr hnw hst F N J h0
    (fun i v m₁ news₁ h₁ tk₁ own a b c d e f g st F₁ N₁ => wpAny_mono (step i v m₁ news₁ h₁ tk₁ own a b c d e f g st F₁ N₁) (fun _ _ x => wpAny_passesOwn hE x) hE) (fun h' tk m' news' a b c d => wpAny_passesOwn hE (hQ h' tk m' news' a b c d))

/- two names bound -/
theorem assign2 {xi xc : Str} {pk pv pt : Pos} {x1 : Nat} {T : Addr} {a b : Value} {m : Str → Option Value} {news : List (Addr × Obj)} {Q : Unit → Shared → Prop} (hh : A.handled = none)
    (hxi : env.kindOf xi = some .local) (hxc : env.kindOf xc = some .local)
    (hp : (env.scope.kind == .class || (env.scope.kind == .module && env.locals != env.globals)) = false)
    (ht : s.heap.IsTuple T #[a, b]) (F : Fr h₀ env.locals s.heap m) (N : News h₀ env.locals s.heap news)
    (h : ∀ h' tk, Fr h₀ env.locals h' (fun y => if y = xc then some b else if y = xi then some a else m y) → News h₀ env.locals h' news → Q () { s with heap := h', toks := tk }) :
    wpAny (model prog w) A (assign (.Tuple [.Name xi pk, .Name xc pv] x1 pt) env (.ref T)) Q E s := by
  refine wpAny_assign_Tuple hh ht rfl rfl fun h₃ hx₃ => ?_
  have up₃ : ∀ b o, s.heap.get? b = some o → h₃.get? b = some o := fun b o x => hx₃ b o (Nat.ne_of_lt (Heap.lt_size x)) x
  have F₃ : Fr h₀ env.locals h₃ m := ⟨F.ns.at' fun o e => up₃ _ o e, fun b o e => up₃ b o (F.keep b o e), F.above⟩
  have N₃ : News h₀ env.locals h₃ news := fun p hp => ⟨up₃ _ _ (N p hp).1, (N p hp).2⟩
  show wpAny _ A (do holding [b] (assign (.Name xi pk) env a); do holding [] (assign (.Name xc pv) env b); pure ()) _ _ _
  refine wpAny_bind (wpAny_holding (wpAny_assign_Name (wpAny_storeName_local hxi F₃.ns (fun h₄ hn₄ hs₄ => ?_) hp)))
  replace hs₄ : Heap.SameBut env.locals h₃ h₄ := hs₄
  have F₄ := F₃.set hn₄ hs₄
  refine wpAny_bind (wpAny_holding (wpAny_assign_Name (wpAny_storeName_local hxc F₄.ns (fun h₅ hn₅ hs₅ => wpAny_pure ?_) hp)))
  replace hs₅ : Heap.SameBut env.locals h₄ h₅ := hs₅
  exact h h₅ _ (F₄.set hn₅ hs₅) ((N₃.set hs₄).set hs₅)

theorem letGo_tupiter {elts : List Expr} {x1} {pos : Pos} {I l T : Addr} {i : Nat} {Q : Unit → Shared → Prop} (hit : s.heap.IsTupleIter I l i) (hQ : Q () s) :
    wpAny (model prog w) A (letOwnedTupleGo (.Tuple elts x1 pos) (.ref I) (.ref T)) Q E s := by
  obtain ⟨o, ho, hc, hd⟩ := hit
  unfold letOwnedTupleGo
  refine wpAny_bind (wpAny_load ho ?_)
  rw [hc, hd]
  show wpAny _ A (if (["enumerate", "zip", "dict_itemiterator", "dict_reverseitemiterator", "odict_iterator", "itertools.zip_longest", "itertools.pairwise"].contains "tuple_iterator" &&
      (#[.ref l, .int i 0] : Array Value)[0]? == some (rawInt T)) = true then _ else _) Q E s
  rw [if_neg (by
    intro h
    rw [show (["enumerate", "zip", "dict_itemiterator", "dict_reverseitemiterator", "odict_iterator", "itertools.zip_longest", "itertools.pairwise"].contains "tuple_iterator") = false from by decide, Bool.false_and] at h
    cases h)]
  exact wpAny_pure hQ
end

/- pairs on the ground -/
noncomputable def PairsAt (h : Heap) (items : List Value) (ps : List (Value × Value)) : Prop := items.length = ps.length ∧ ∀ (i : Nat) (p : Value × Value), ps[i]? = some p → ∃ T : Addr, items[i]? = some (Value.ref T) ∧ h.IsTuple T #[p.1, p.2]
theorem PairsAt.keeps {h h' : Heap} {items : List Value} {ps : List (Value × Value)} (x : PairsAt h items ps) (k : h.StaysIn h') : PairsAt h' items ps :=
  ⟨x.1, fun i p e => (x.2 i p e).imp fun _ q => ⟨q.1, q.2.at fun o e => k _ _ e⟩⟩

section
variable {prog : Program} {w : World} {A : Around} {E : Value → Shared → Prop} {s : Shared} {env : Env} {h₀ : Heap} {body orelse : List Stmt} {Q : Flow → Shared → Prop} {xi xc : Str} {pk pv pt : Pos} {x1 : Nat}
/- turns over a list or a tuple of pairs on the ground -/
theorem turns_pairs {I l : Addr} {vs : List Value} {ps : List (Value × Value)} {m₀ : Str → Option Value} {news : List (Addr × Obj)} {St : Nat → Heap → Prop} (J : Nat → (Str → Option Value) → List (Addr × Obj) → Prop)
    (hh : A.handled = none) (hxi : env.kindOf xi = some .local) (hxc : env.kindOf xc = some .local)
    (hp : (env.scope.kind == .class || (env.scope.kind == .module && env.locals != env.globals)) = false)
    (Wk : Walks prog w A I [I, l] [I] vs.length (fun i v => vs[i]? = some v) St) (hgo : ∀ i (T : Addr) (s : Shared) (Q : Unit → Shared → Prop) (E : Value → Shared → Prop), St i s.heap → Q () s → wpAny (model prog w) A (letOwnedTupleGo (.Tuple [.Name xi pk, .Name xc pv] x1 pt) (.ref I) (.ref T)) Q E s)
    (hlive : ∀ i h, St i h → ∃ o, h.get? I = some o) (hl : ∃ o, h₀.get? l = some o) (hI : h₀.get? I = none) (hLI : env.locals ≠ I) (hpr : PairsAt h₀ vs ps) (hst : St 0 s.heap)
    (F : Fr h₀ env.locals s.heap m₀) (N : News h₀ env.locals s.heap news) (hnI : ∀ p ∈ news, p.1 ≠ I) (hj : J 0 m₀ news)
    (turn : ∀ i a b m₁ news₁ h tk oI, ps[i]? = some (a, b) → (∀ p ∈ news₁, p.1 ≠ I) → J i m₁ news₁ → Fr h₀ env.locals h (fun y => if y = xc then some b else if y = xi then some a else m₁ y) → News h₀ env.locals h ([(I, oI)] ++ news₁) →
      wpAny (model prog w) A (execs body env) (TurnG h₀ env.locals (J (i + 1)) [(I, oI)] s Q) E { s with heap := h, toks := tk })
    (done : ∀ m₁ news₁ h tk, J ps.length m₁ news₁ → Fr h₀ env.locals h m₁ → News h₀ env.locals h news₁ → wpAny (model prog w) A (execs orelse env) Q E { s with heap := h, toks := tk }) :
    TurnsE prog w A h₀ env (.Tuple [.Name xi pk, .Name xc pv] x1 pt) body orelse Q E (.ref I) s := by
  obtain ⟨ol, hol⟩ := hl
  have hlL : env.locals ≠ l := fun e => by have := Heap.lt_size hol; rw [← e] at this; exact absurd (Nat.lt_of_lt_of_le this F.above) (Nat.lt_irrefl _)
  refine ⟨I, [I, l], [I], vs.length, (fun i v _ => ∃ T, v = Value.ref T ∧ vs[i]? = some v), (fun i v h => ∃ T, v = Value.ref T ∧ vs[i]? = some v ∧ St (i + 1) h), St, m₀, news, J, rfl, ⟨Wk.sub, Wk.frame, ?_, ?_, Wk.done⟩, ?_, ?_, ?_, hst, F, N, hj, ?_, ?_⟩
  · intro i s Q E hi st hQ
    refine Wk.item i s Q E hi st fun v h' tk hP st' hk => ?_
    obtain ⟨p, hp⟩ : ∃ p, ps[i]? = some p := ⟨ps[i]'(hpr.1 ▸ hi), by simp⟩
    obtain ⟨T, hT, _⟩ := hpr.2 i p hp
    have : v = Value.ref T := by rw [hT] at hP; exact (Option.some.inj hP).symm
    exact hQ v h' tk ⟨T, this, hP, st'⟩ hk
  · rintro i v s Q E ⟨T, rfl, hP, st'⟩ hQ
    exact hgo (i + 1) T s Q E st' (hQ s.heap ⟨T, rfl, hP⟩ st' fun _ _ _ e => e)
  · intro hm
    rcases List.mem_cons.mp hm with e | hm
    · exact hLI e
    · exact hlL (List.mem_singleton.mp hm)
  · intro b hb; rw [List.mem_singleton.mp hb]; exact hI
  · intro p hp hq; exact hnI p hp (List.mem_singleton.mp hq)
  · rintro i v m₁ news₁ h₁ tk₁ own hin ⟨T, rfl, hP⟩ hJ hoff hown hownh hfp hst' F₁ N₁
    obtain ⟨oI, hoI⟩ := hlive _ _ hst'
    have hIown : (I, oI) ∈ own := hfp _ (List.mem_cons.mpr (.inl rfl)) hI _ hoI
    have hone := own_one (fp := [I, l]) hown (fun b hb => by
      rcases List.mem_cons.mp hb with e | hb
      · exact .inl e
      · exact .inr ⟨ol, (List.mem_singleton.mp hb) ▸ hol⟩) hoI N₁
    obtain ⟨⟨a, b⟩, hab⟩ : ∃ p, ps[i]? = some p := ⟨ps[i]'(hpr.1 ▸ hin), by simp⟩
    obtain ⟨T', hT', ht⟩ := hpr.2 i _ hab
    have hTT : T' = T := by rw [hT'] at hP; injection Option.some.inj hP
    subst hTT
    refine assign2 hh hxi hxc hp (ht.at fun o e => F₁.keep _ _ e) F₁ (news_one hIown N₁) fun h' tk' F' N' => ?_
    refine wpAny_mono (turn i a b m₁ news₁ h' tk' oI hab (fun p hp e => hoff p hp (List.mem_singleton.mpr e)) hJ F' N') (fun f s₂ p => ?_) fun _ _ e => e
    exact turnG_step (s := s) (fun p hp => .inl (List.mem_singleton.mpr (hone p hp))) wr_one p
  · intro h' tk m' news' F' N' _ hJ
    exact done m' news' h' tk (hpr.1 ▸ hJ) F' N'

theorem iter_listP {l : Addr} {vs : List Value} {ps : List (Value × Value)} {m₀ : Str → Option Value} {news : List (Addr × Obj)} (J : Nat → (Str → Option Value) → List (Addr × Obj) → Prop)
    (hh : A.handled = none) (hxi : env.kindOf xi = some .local) (hxc : env.kindOf xc = some .local)
    (hp : (env.scope.kind == .class || (env.scope.kind == .module && env.locals != env.globals)) = false)
    (hl : h₀.IsList l vs.toArray) (hpr : PairsAt h₀ vs ps)
    (F : Fr h₀ env.locals s.heap m₀) (N : News h₀ env.locals s.heap news) (hj : J 0 m₀ news)
    (turn : ∀ i a b m₁ news₁ h tk I oI, ps[i]? = some (a, b) → (∀ p ∈ news₁, p.1 ≠ I) → J i m₁ news₁ → Fr h₀ env.locals h (fun y => if y = xc then some b else if y = xi then some a else m₁ y) → News h₀ env.locals h ([(I, oI)] ++ news₁) →
      wpAny (model prog w) A (execs body env) (TurnG h₀ env.locals (J (i + 1)) [(I, oI)] s Q) E { s with heap := h, toks := tk })
    (done : ∀ m₁ news₁ h tk, J ps.length m₁ news₁ → Fr h₀ env.locals h m₁ → News h₀ env.locals h news₁ → wpAny (model prog w) A (execs orelse env) Q E { s with heap := h, toks := tk }) :
    wpAny (model prog w) A (pyIter (.ref l)) (fun it s₂ => TurnsE prog w A h₀ env (.Tuple [.Name xi pk, .Name xc pv] x1 pt) body orelse Q E it s₂) E s := by
  have hls : s.heap.IsList l vs.toArray := hl.at fun o e => F.keep l o e
  obtain ⟨ol, hol, _⟩ := id hl
  have hlt : l < h₀.objs.size := Heap.lt_size hol
  have hne : l ≠ s.heap.objs.size := Nat.ne_of_lt (Nat.lt_trans (Nat.lt_of_lt_of_le hlt F.above) F.ns.lt)
  refine wpAny_pyIter_list hls ?_
  have W := Walks.list (prog := prog) (w := w) hh s.heap.objs.size l hne vs.toArray
  have hlen : vs.toArray.size = vs.length := by simp
  rw [hlen] at W
  have W' : Walks prog w A s.heap.objs.size [s.heap.objs.size, l] [s.heap.objs.size] vs.length (fun i v => vs[i]? = some v) (fun i h => h.IsListIter s.heap.objs.size l i ∧ h.IsList l vs.toArray) := by
    refine ⟨W.sub, W.frame, fun i s Q E hi st hQ => W.item i s Q E hi st fun v h' tk hP => hQ v h' tk (by simpa using hP), W.done, W.self⟩
  refine turns_pairs (I := s.heap.objs.size) (l := l) (s := { s with heap := s.heap.push _ }) J hh hxi hxc hp W' (fun i T s Q E st hQ => wpAny_letOwnedTupleGo_listiter st.1 hQ) (fun i h st => let ⟨o, ho, _⟩ := st.1; ⟨o, ho⟩) ⟨ol, hol⟩ (next_is_new F) (Nat.ne_of_lt F.ns.lt) hpr ?_ (F.push _) (fun p hp => ⟨Heap.get?_push_of_some _ (N p hp).1, (N p hp).2⟩) (fun p hp e => absurd (Heap.lt_size (N p hp).1) (e ▸ Nat.lt_irrefl _)) hj ?_ ?_
  · exact ⟨⟨_, Heap.get?_push_size _ rfl, rfl, rfl⟩, hls.at fun o e => Heap.get?_push_of_some _ e⟩
  · intro i a b m₁ news₁ h tk oI e1 e2 e3 F1 N1
    exact turn i a b m₁ news₁ h tk _ oI e1 e2 e3 F1 N1
  · intro m₁ news₁ h tk j F1 N1
    exact done m₁ news₁ h tk j F1 N1

theorem iter_tupP {l : Addr} {vs : List Value} {ps : List (Value × Value)} {m₀ : Str → Option Value} {news : List (Addr × Obj)} (J : Nat → (Str → Option Value) → List (Addr × Obj) → Prop)
    (hh : A.handled = none) (hxi : env.kindOf xi = some .local) (hxc : env.kindOf xc = some .local)
    (hp : (env.scope.kind == .class || (env.scope.kind == .module && env.locals != env.globals)) = false)
    (hl : h₀.IsTuple l vs.toArray) (hpr : PairsAt h₀ vs ps)
    (F : Fr h₀ env.locals s.heap m₀) (N : News h₀ env.locals s.heap news) (hj : J 0 m₀ news)
    (turn : ∀ i a b m₁ news₁ h tk I oI, ps[i]? = some (a, b) → (∀ p ∈ news₁, p.1 ≠ I) → J i m₁ news₁ → Fr h₀ env.locals h (fun y => if y = xc then some b else if y = xi then some a else m₁ y) → News h₀ env.locals h ([(I, oI)] ++ news₁) →
      wpAny (model prog w) A (execs body env) (TurnG h₀ env.locals (J (i + 1)) [(I, oI)] s Q) E { s with heap := h, toks := tk })
    (done : ∀ m₁ news₁ h tk, J ps.length m₁ news₁ → Fr h₀ env.locals h m₁ → News h₀ env.locals h news₁ → wpAny (model prog w) A (execs orelse env) Q E { s with heap := h, toks := tk }) :
    wpAny (model prog w) A (pyIter (.ref l)) (fun it s₂ => TurnsE prog w A h₀ env (.Tuple [.Name xi pk, .Name xc pv] x1 pt) body orelse Q E it s₂) E s := by
  have hls : s.heap.IsTuple l vs.toArray := hl.at fun o e => F.keep l o e
  obtain ⟨ol, hol, _⟩ := id hl
  have hlt : l < h₀.objs.size := Heap.lt_size hol
  have hne : l ≠ s.heap.objs.size := Nat.ne_of_lt (Nat.lt_trans (Nat.lt_of_lt_of_le hlt F.above) F.ns.lt)
  refine wpAny_pyIter_tuple hls ?_
  have W := Walks.tuple (prog := prog) (w := w) hh s.heap.objs.size l hne vs.toArray
  have hlen : vs.toArray.size = vs.length := by simp
  rw [hlen] at W
  have W' : Walks prog w A s.heap.objs.size [s.heap.objs.size, l] [s.heap.objs.size] vs.length (fun i v => vs[i]? = some v) (fun i h => h.IsTupleIter s.heap.objs.size l i ∧ h.IsTuple l vs.toArray) := by
    refine ⟨W.sub, W.frame, fun i s Q E hi st hQ => W.item i s Q E hi st fun v h' tk hP => hQ v h' tk (by simpa using hP), W.done, W.self⟩
  refine turns_pairs (I := s.heap.objs.size) (l := l) (s := { s with heap := s.heap.push _ }) J hh hxi hxc hp W' (fun i T s Q E st hQ => letGo_tupiter st.1 hQ) (fun i h st => let ⟨o, ho, _⟩ := st.1; ⟨o, ho⟩) ⟨ol, hol⟩ (next_is_new F) (Nat.ne_of_lt F.ns.lt) hpr ?_ (F.push _) (fun p hp => ⟨Heap.get?_push_of_some _ (N p hp).1, (N p hp).2⟩) (fun p hp e => absurd (Heap.lt_size (N p hp).1) (e ▸ Nat.lt_irrefl _)) hj ?_ ?_
  · exact ⟨⟨_, Heap.get?_push_size _ rfl, rfl, rfl⟩, hls.at fun o e => Heap.get?_push_of_some _ e⟩
  · intro i a b m₁ news₁ h tk oI e1 e2 e3 F1 N1
    exact turn i a b m₁ news₁ h tk _ oI e1 e2 e3 F1 N1
  · intro m₁ news₁ h tk j F1 N1
    exact done m₁ news₁ h tk j F1 N1

/- enumerate over a tuple on the ground -/
theorem nextOf_tup_item {it l : Addr} {i : Nat} {items} {x : Value} {Q : Value → Shared → Prop} (hit : s.heap.IsTupleIter it l i)
    (hl : s.heap.IsTuple l items) (hx : items[i]? = some x)
    (hQ : ∀ h', h'.IsTupleIter it l (i + 1) → Heap.SameBut it s.heap h' → Q x { s with heap := h' }) :
    wpAny (model prog w) A (Builtin.SmallTypes.nextOf (.ref it)) Q E s := by
  obtain ⟨o, ho, hc, hd⟩ := id hit
  obtain ⟨ol, hol, _, nl, hdl⟩ := hl
  unfold Builtin.SmallTypes.nextOf
  refine wpAny_bind (wpAny_callSpecial?_slot (name := Str.ofString "__next__") hit.typeIs F.slot_tuple_iterator_next
    (wpAny_call_entry F.slot_tuple_iterator_next hit.typeIs F.entry_tuple_iterator_next ?_ (F.args_tuple_iterator_next_1 _)))
  show wpAny _ _ (field (.ref it) 0 >>= _) _ _ s
  refine wpAny_bind (wpAny_field ho hd (x := .ref l) rfl ?_)
  show wpAny _ _ (if (Value.ref l == Value.none) = true then _ else _) _ _ s
  rw [if_neg (show ¬ ((Value.ref l == Value.none) = true) from Bool.false_ne_true)]
  show wpAny _ _ (field (.ref it) 1 >>= _) _ _ s
  refine wpAny_bind (wpAny_field ho hd (x := .int i 0) rfl ?_)
  show wpAny _ _ (seqItems? (.ref l) >>= _) _ _ s
  refine wpAny_bind (wpAny_seqItems hol hdl ?_)
  simp only [Int.toNat_natCast, hx]
  refine wpAny_bind (wpAny_setField ho hd (by simp) (wpAny_pure ⟨x, rfl, wpAny_pure (hQ _ ?_ (Heap.SameBut.update ..))⟩))
  exact ⟨_, Heap.get?_update_self _ ho (Obj.isFreed_of_fields (Obj.data_mapFields hd _)), (Obj.cls_mapFields ..).trans hc, by
    rw [Obj.data_mapFields hd]; simp [rawInt]⟩

theorem nextOf_tup_end {it l : Addr} {i : Nat} {items} {Q : Value → Shared → Prop} (hh : A.handled = none)
    (hit : s.heap.IsTupleIter it l i) (hl : s.heap.IsTuple l items) (hx : items[i]? = none)
    (hE : ∀ h' e, Heap.ExtBut it s.heap h' → (∃ o, h'.get? e = some o ∧ o.cls = .type "StopIteration") → E (.ref e) { s with heap := h' }) :
    wpAny (model prog w) A (Builtin.SmallTypes.nextOf (.ref it)) Q E s := by
  obtain ⟨o, ho, hc, hd⟩ := id hit
  obtain ⟨ol, hol, _, nl, hdl⟩ := hl
  unfold Builtin.SmallTypes.nextOf
  refine wpAny_bind (wpAny_callSpecial?_slot (name := Str.ofString "__next__") hit.typeIs F.slot_tuple_iterator_next
    (wpAny_call_entry F.slot_tuple_iterator_next hit.typeIs F.entry_tuple_iterator_next ?_ (F.args_tuple_iterator_next_1 _)))
  show wpAny _ _ (field (.ref it) 0 >>= _) _ _ s
  refine wpAny_bind (wpAny_field ho hd (x := .ref l) rfl ?_)
  show wpAny _ _ (if (Value.ref l == Value.none) = true then _ else _) _ _ s
  rw [if_neg (show ¬ ((Value.ref l == Value.none) = true) from Bool.false_ne_true)]
  show wpAny _ _ (field (.ref it) 1 >>= _) _ _ s
  refine wpAny_bind (wpAny_field ho hd (x := .int i 0) rfl ?_)
  show wpAny _ _ (seqItems? (.ref l) >>= _) _ _ s
  refine wpAny_bind (wpAny_seqItems hol hdl ?_)
  simp only [Int.toNat_natCast, hx]
  refine wpAny_bind (wpAny_rule (wpAny_bind (wpAny_setField ho hd (by simp) ?_)))
  show wpAny _ _ (newExc (.type "StopIteration") [] >>= _) _ _ _
  refine wpAny_bind ?_
  simp only [newExc, newTuple]
  refine wpAny_bind (wpAny_newObj_type ?_ (by size_fits))
  refine wpAny_bind (m := firstArgMember _ _) (wpAny_of_eq (a := Value.none) (by first | rfl | (simp only [firstArgMember]; rfl)) ?_)
  refine wpAny_newObj_type ?_ (by size_fits)
  unfold raiseNew
  dsimp only
  refine wpAny_bind (wpAny_handled ?_)
  first | rw [show A.in1.handled = none from hh] | rw [hh]
  refine wpAny_bind (wpAny_pure (wpAny_throw ?_))
  exact hE _ _ (((Heap.SameBut.update ..).extBut.push _).push _) ⟨_, Heap.get?_push_size _ rfl, rfl⟩
end

theorem draws_tuple {prog : Program} {w : World} {A : Around} (hh : A.handled = none) (it l : Addr) (hne : l ≠ it) (items : Array Value) :
    Draws prog w A it [it, l] items.size (fun i v => items[i]? = some v) (fun i h => h.IsTupleIter it l i ∧ h.IsTuple l items) where
  live := fun _ _ st => let ⟨o, ho, _⟩ := st.1; ⟨o, ho⟩
  frame := fun _ _ _ st hk => ⟨st.1.at fun o e => hk it (by simp) o e, st.2.at fun o e => hk l (by simp) o e⟩
  item := fun i s Q E hi st hQ => by
    refine nextOf_tup_item st.1 st.2 (x := items[i]) (by simp [hi]) fun h' hit' hs' => ?_
    exact hQ _ h' s.toks (by simp [hi]) ⟨hit', st.2.extBut hs'.extBut hne⟩ hs'
  done := fun s Q E st hE => nextOf_tup_end hh st.1 st.2 (by simp) hE

theorem pure_bool {M : Model} {A : Around} {E : Value → Shared → Prop} {s : Shared} {Q : Bool → Shared → Prop} {b : Bool} (h0 : Q false s) (h1 : Q true s) : wpAny M A (pure b) Q E s := wpAny_pure (by cases b; exact h0; exact h1)
theorem meets_enumerate_newT (l : Addr) (items : Array Value) (n : Nat) (dct : Option Addr) (sl : Array (Option Value)) :
    Meets (Builtin.«enumerate.__new__» ⟨[.type "enumerate", .ref l], []⟩) (fun _ R s => s.heap.get? l = some { cls := .type "tuple", dict := dct, data := .seq items n, slots := sl } ∧
      R (.ok (.ret (.ref (s.heap.push { cls := .type "tuple_iterator", data := .fields #[.ref l, .int 0 0] }).objs.size)))
        { s with heap := (s.heap.push { cls := .type "tuple_iterator", data := .fields #[.ref l, .int 0 0] }).push { cls := .type "enumerate", data := .fields #[.none, .bool false, .ref s.heap.objs.size, rawInt 0, .none, .none] } }) :=
  .of_wp fun prog w A R s h => by
    obtain ⟨hp, g, d, tk, os⟩ := s; obtain ⟨hl, h⟩ := h
    have hsub := sub_enumerate
    have hL : Heap.IsTuple (Shared.heap ⟨hp, g, d, tk, os⟩) l items := ⟨_, hl, rfl, n, rfl⟩
    wp_walk using AutoSeq1.wpAny_loadPart' hl
    refine wpAny_stack_any fun st => pure_bool ?_ ?_
    · wp_walk using AutoSeq1.wpAny_loadPart' hl, wpAny_pyIter_tuple hL
      exact ⟨_, rfl, h⟩
    · wp_walk using AutoSeq1.wpAny_loadPart' hl, wpAny_pyIter_tuple hL
      exact ⟨_, rfl, h⟩

section
variable {prog : Program} {w : World} {A : Around} {E : Value → Shared → Prop} {s : Shared}
theorem call_enumerate_tuple {l : Addr} {items : Array Value} {Q : Value → Shared → Prop} (hL : s.heap.IsTuple l items)
    (h : ∀ h', IsEnum h' (s.heap.objs.size + 1) s.heap.objs.size 0 .none → h'.IsTupleIter s.heap.objs.size l 0 → h'.objs.size = s.heap.objs.size + 2 →
      (∀ b o, s.heap.get? b = some o → h'.get? b = some o) → Q (.ref (s.heap.objs.size + 1)) { s with heap := h' }) :
    wpAny (model prog w) A (call (.type "enumerate") [.ref l]) Q E s := by
  obtain ⟨⟨c, dct, dt, sl⟩, hl, hc, n, hd⟩ := hL
  replace hc : c = .type "tuple" := hc
  replace hd : dt = .seq items n := hd
  subst hc hd
  refine callType_new F.called_enumerate (by decide) (F.typeCall_enumerate_1 _) (F.newCall_enumerate_1 _) (fun obj => F.args_object_init_2 obj _) F.entry_enumerate_new
    (meets_enumerate_newT l items n dct sl) ⟨hl, ?_⟩
  have hz : (s.heap.push { cls := .type "tuple_iterator", data := .fields #[.ref l, .int 0 0] }).objs.size = s.heap.objs.size + 1 := Heap.size_push ..
  show _ ∧ _
  rw [hz]
  have he : IsEnum ((s.heap.push { cls := .type "tuple_iterator", data := .fields #[.ref l, .int 0 0] }).push
      { cls := .type "enumerate", data := .fields #[.none, .bool false, .ref s.heap.objs.size, rawInt 0, .none, .none] }) (s.heap.objs.size + 1) s.heap.objs.size 0 .none := by
    have := Heap.get?_push_size (s.heap.push { cls := .type "tuple_iterator", data := .fields #[.ref l, .int 0 0] })
      (o := { cls := .type "enumerate", data := .fields #[.none, .bool false, .ref s.heap.objs.size, rawInt 0, .none, .none] }) rfl
    rw [hz] at this; exact this
  refine ⟨⟨_, he, rfl⟩, h _ he ⟨_, Heap.get?_push_of_some _ (Heap.get?_push_size _ rfl), rfl, rfl⟩ (by rw [Heap.size_push, hz]) fun b o x => Heap.get?_push_of_some _ (Heap.get?_push_of_some _ x)⟩
end
end Mine

end
section
open PySem PySem.W PySem.Calls PyProof.Rows
namespace Mine
section
variable {prog : Program} {w : World} {A : Around} {E : Value → Shared → Prop} {s : Shared} {env : Env} {h₀ : Heap} {body orelse : List Stmt} {Q : Flow → Shared → Prop} {xi xc : Str} {pk pv pt : Pos} {x1 : Nat}
theorem turns_enumT {e it l : Addr} {vs : List Value} {m₀ : Str → Option Value} {news : List (Addr × Obj)} (J : Nat → (Str → Option Value) → List (Addr × Obj) → Prop)
    (hh : A.handled = none) (hxi : env.kindOf xi = some .local) (hxc : env.kindOf xc = some .local)
    (hp : (env.scope.kind == .class || (env.scope.kind == .module && env.locals != env.globals)) = false)
    (hei : e ≠ it) (he0 : h₀.get? e = none) (hi0 : h₀.get? it = none) (hLe : env.locals ≠ e) (hLi : env.locals ≠ it) (hl : h₀.IsTuple l vs.toArray)
    (hE : IsEnum s.heap e it 0 .none) (hI : s.heap.IsTupleIter it l 0)
    (F : Fr h₀ env.locals s.heap m₀) (N : News h₀ env.locals s.heap news) (hn : ∀ p ∈ news, p.1 ≠ e ∧ p.1 ≠ it) (hj : J 0 m₀ news)
    (turn : ∀ i (v : Value) t m₁ news₁ h tk oE oI, vs[i]? = some v → (∀ p ∈ news₁, p.1 ≠ e ∧ p.1 ≠ it) → J i m₁ news₁ → Fr h₀ env.locals h (fun y => if y = xc then some v else if y = xi then some (Value.int (i : Nat) t) else m₁ y) → News h₀ env.locals h ([(e, oE), (it, oI)] ++ news₁) →
      wpAny (model prog w) A (execs body env) (TurnG h₀ env.locals (J (i + 1)) [(e, oE), (it, oI)] s Q) E { s with heap := h, toks := tk })
    (done : ∀ m₁ news₁ h tk, J vs.length m₁ news₁ → Fr h₀ env.locals h m₁ → News h₀ env.locals h news₁ → wpAny (model prog w) A (execs orelse env) Q E { s with heap := h, toks := tk }) :
    TurnsE prog w A h₀ env (.Tuple [.Name xi pk, .Name xc pv] x1 pt) body orelse Q E (.ref e) s := by
  obtain ⟨ol, hol, _⟩ := id hl
  have hlL : env.locals ≠ l := fun e => by have := Heap.lt_size hol; rw [← e] at this; exact absurd (Nat.lt_of_lt_of_le this F.above) (Nat.lt_irrefl _)
  have hle : l ≠ e := fun q => by rw [q, he0] at hol; cases hol
  have hli : l ≠ it := fun q => by rw [q, hi0] at hol; cases hol
  have W := KTurns.ofWalksU (elts := [.Name xi pk, .Name xc pv]) (k := x1) (pos := pt) (WalksT.enumerateD (prog := prog) (w := w) (A := A) (draws_tuple (A := A.in1) hh it l hli vs.toArray) e hei (by simp [hei, hle.symm]) (by simp)).toU
  have hlen : vs.toArray.size = vs.length := by simp
  rw [hlen] at W
  refine ⟨e, _, _, vs.length, _, _, _, m₀, news, J, rfl, W, ?_, ?_, ?_, ⟨⟨_, hE⟩, hI, hl.at fun o q => F.keep _ _ q⟩, F, N, hj, ?_, ?_⟩
  · simp [hLe, hLi, hlL]
  · intro b hb
    rcases List.mem_cons.mp hb with q | hb
    · exact q ▸ he0
    · exact (List.mem_singleton.mp hb) ▸ hi0
  · intro p hp hq
    rcases List.mem_cons.mp hq with q | hq
    · exact (hn p hp).1 q
    · exact (hn p hp).2 (List.mem_singleton.mp hq)
  · rintro i v m₁ news₁ h₁ tk₁ own hin ⟨T, vals, rfl, ⟨t, x, hx, rfl⟩, hT⟩ hJ hoff hown hownh hfp hst' F₁ N₁
    obtain ⟨⟨old, hE''⟩, ⟨oI, hoI, _⟩, _⟩ := hst'
    obtain ⟨oE, hE'⟩ : ∃ oE, h₁.get? e = some oE := ⟨_, hE''⟩
    have hEown : (e, oE) ∈ own := hfp e (List.mem_cons.mpr (.inl rfl)) he0 _ hE'
    have hIown : (it, oI) ∈ own := hfp it (by simp) hi0 _ hoI
    have N₂ : ∀ {h : Heap}, News h₀ env.locals h (own ++ news₁) → News h₀ env.locals h ([(e, oE), (it, oI)] ++ news₁) := fun {h} N p hp => by
      rcases List.mem_append.mp hp with hp | hp
      · rcases List.mem_cons.mp hp with q | hp
        · exact q ▸ N _ (List.mem_append_left _ hEown)
        · exact (List.mem_singleton.mp hp) ▸ N _ (List.mem_append_left _ hIown)
      · exact N _ (List.mem_append_right _ hp)
    have hback : ∀ p ∈ own, p = (e, oE) ∨ p = (it, oI) := fun p hp => by
      have h1 := hownh p hp
      have h2 := hown p hp
      simp only [List.mem_cons, List.not_mem_nil, or_false] at h2
      rcases h2 with q | q | q
      · rw [q, hE'] at h1; exact .inl (Prod.ext q (Option.some.inj h1).symm)
      · rw [q, hoI] at h1; exact .inr (Prod.ext q (Option.some.inj h1).symm)
      · have := (N₁ p (List.mem_append_left _ hp)).2
        rw [q] at this
        exact absurd (hol.symm.trans this.2) (by simp)
    refine assign2 hh hxi hxc hp hT F₁ (N₂ N₁) fun h' tk' F' N' => ?_
    refine wpAny_mono (turn i x t m₁ news₁ h' tk' oE oI (by simpa using hx) (fun p hp => ⟨fun q => hoff p hp (by simp [q]), fun q => hoff p hp (by simp [q])⟩) hJ F' N') (fun f s₂ p => ?_) fun _ _ e => e
    exact turnG_step (s := s) (fun p hp => .inl ((hback p hp).elim (fun q => q ▸ .head _) fun q => q ▸ .tail _ (.head _))) (fun b hb => (List.mem_cons.mp hb).elim (fun q => ⟨_, .head _, q.symm⟩) fun q => ⟨_, .tail _ (.head _), (List.mem_singleton.mp q).symm⟩) p
  · intro h' tk m' news' F' N' _ hJ
    exact done m' news' h' tk hJ F' N'
end

theorem ifmt_spec {w : World} {mean : ExcName → Option Value} {mg mb : Str → Option Value} {A : Around} {g : Heap}
  {s : Shared} {n : Int} {t : Tok} {Q E : Value → Shared → Prop}
  (G : Gr w mean mg mb g) (st : g.StaysIn s.heap) (hroom : A.depth < recursionLimit)
  (ret : ∀ h' tk t', s.heap.StaysIn h' → Q (.int (Builtin.bitAnd n 61440) t') { s with heap := h', toks := tk }) :
  wpAny (model PySem.Challenge.rw_nq0100_01.row.prog w) A (call (.ref 28) [.int n t]) Q E s := by
  have X := G.X.keeps st
  have T := G.T.keeps st
  revert X; k_fill; intro X
  refine wpAny_call ?_
  k_dflt (refine' enterP (binds := [(Str.ofString "mode", .int n t)]) X T ?k6 ?k7 hroom ?k9 ?kB ?_ ?c2 ?c3 ?c4 ?c5; (case k6 => k_is); (case k7 => k_is); (case k9 => exact BindsTo.of_eq rfl); (case kB => exact locs rfl); (case c2 => exact rfl); (case c3 => exact rfl); (case c4 => exact rfl); (case c5 => decide))
  intro h' F' N'
  dsimp only
  (try k_unmd); k_fold
  k_steps
  exact ret _ _ _ F'.keep

/- one table's sign -/
noncomputable def pick (n : Int) (k : Nat) : List (Int × Str) → Str
  | [] => if k = 0 then Str.ofString "?" else Str.ofString "-"
  | (b, c) :: r => if Builtin.bitAnd n (if k = 0 then 61440 else b) = b then c else pick n k r

noncomputable def tabs : List (List (Int × Str)) := [[(40960, Str.ofString "l"), (49152, Str.ofString "s"), (32768, Str.ofString "-"), (24576, Str.ofString "b"), (16384, Str.ofString "d"), (8192, Str.ofString "c"), (4096, Str.ofString "p")], [(256, Str.ofString "r")], [(128, Str.ofString "w")], [(2112, Str.ofString "s"), (2048, Str.ofString "S"), (64, Str.ofString "x")], [(32, Str.ofString "r")], [(16, Str.ofString "w")], [(1032, Str.ofString "s"), (1024, Str.ofString "S"), (8, Str.ofString "x")], [(4, Str.ofString "r")], [(2, Str.ofString "w")], [(513, Str.ofString "t"), (512, Str.ofString "T"), (1, Str.ofString "x")]]
noncomputable def tabVs : List Value := [Value.ref 36, Value.ref 38, Value.ref 40, Value.ref 44, Value.ref 46, Value.ref 48, Value.ref 52, Value.ref 54, Value.ref 56, Value.ref 60]

noncomputable def RowAt (h : Heap) : List Value → List (Int × Str) → Prop
  | [], [] => True
  | v :: r, (b, c) :: r' => (∃ T t1 t2, v = Value.ref T ∧ h.IsTuple T #[.int b t1, .str c t2]) ∧ RowAt h r r'
  | _, _ => False
noncomputable def PsAre (ps : List (Value × Value)) (t : List (Int × Str)) : Prop := ps.length = t.length ∧ ∀ (i : Nat) b c, t[i]? = some (b, c) → ∃ t1 t2, ps[i]? = some (Value.int b t1, Value.str c t2)
theorem RowAt.pairs {h : Heap} {vs : List Value} : ∀ {t : List (Int × Str)}, RowAt h vs t → ∃ ps, PairsAt h vs ps ∧ PsAre ps t := by
  induction vs with
  | nil =>
    intro t x
    cases t with
    | nil => exact ⟨[], ⟨rfl, fun i p e => nomatch e⟩, rfl, fun i b c e => nomatch e⟩
    | cons _ _ => exact x.elim
  | cons v r ih =>
    intro t x
    cases t with
    | nil => exact x.elim
    | cons q r' =>
      obtain ⟨⟨T, t1, t2, e1, e2⟩, x⟩ := x
      obtain ⟨ps, h1, h2⟩ := ih x
      refine ⟨(.int q.1 t1, .str q.2 t2) :: ps, ⟨congrArg Nat.succ h1.1, fun i p e => ?_⟩, congrArg Nat.succ h2.1, fun i b' c' e => ?_⟩
      · cases i with
        | zero => cases e; exact ⟨T, congrArg some e1, e2⟩
        | succ i => exact h1.2 i p e
      · cases i with
        | zero => cases e; exact ⟨t1, t2, rfl⟩
        | succ i => exact h2.2 i b' c' e
noncomputable def TabAt (h : Heap) : List Value → List (List (Int × Str)) → Prop
  | [], [] => True
  | v :: r, t :: r' => (∃ T vs, v = Value.ref T ∧ h.IsTuple T vs.toArray ∧ RowAt h vs t) ∧ TabAt h r r'
  | _, _ => False
theorem TabAt.at {h : Heap} {vs : List Value} : ∀ {ts : List (List (Int × Str))}, TabAt h vs ts → ∀ (i : Nat) v, vs[i]? = some v → ∃ t T ws, ts[i]? = some t ∧ v = Value.ref T ∧ h.IsTuple T (List.toArray ws) ∧ RowAt h ws t := by
  induction vs with
  | nil => intro ts _ i v e; cases e
  | cons v r ih =>
    intro ts x i u e
    cases ts with
    | nil => exact x.elim
    | cons t r' =>
      obtain ⟨⟨T, ws, e1, e2, e3⟩, x⟩ := x
      cases i with
      | zero => cases e; exact ⟨t, T, ws, rfl, e1, e2, e3⟩
      | succ i => exact ih x i u e
noncomputable def picks (n : Int) : Nat → List (List (Int × Str)) → List Str
  | _, [] => []
  | k, t :: r => pick n k t :: picks n (k + 1) r
theorem picks_get (n : Int) : ∀ (ts : List (List (Int × Str))) (k i : Nat) {t}, ts[i]? = some t → (picks n k ts)[i]? = some (pick n (k + i) t)
  | [], _, _, _, e => by simp at e
  | t :: r, k, 0, _, e => by simp at e; subst e; rfl
  | t :: r, k, i + 1, _, e => by
    simp at e
    have := picks_get n r (k + 1) i e
    rw [show k + 1 + i = k + (i + 1) from by omega] at this
    simpa [picks] using this
theorem picks_length (n : Int) : ∀ (ts : List (List (Int × Str))) (k : Nat), (picks n k ts).length = ts.length
  | [], _ => rfl
  | _ :: r, k => by simp [picks, picks_length n r]

theorem tabs_at {w : World} {mean : ExcName → Option Value} {mg mb : Str → Option Value} {g h : Heap} (G : Gr w mean mg mb g) (st : g.StaysIn h) : h.IsTuple 61 tabVs.toArray ∧ TabAt h tabVs tabs := by
  have X := G.X.keeps st
  refine ⟨?_, ?_⟩
  · exact ⟨_, X _ _ (by k_is), rfl, _, rfl⟩
  · refine ⟨⟨36, [Value.ref 29, Value.ref 30, Value.ref 31, Value.ref 32, Value.ref 33, Value.ref 34, Value.ref 35], rfl, ⟨_, X _ _ (by k_is), rfl, _, rfl⟩, ⟨ ⟨29, _, _, rfl, ⟨_, X _ _ (by k_is), rfl, _, rfl⟩⟩, ⟨30, _, _, rfl, ⟨_, X _ _ (by k_is), rfl, _, rfl⟩⟩, ⟨31, _, _, rfl, ⟨_, X _ _ (by k_is), rfl, _, rfl⟩⟩, ⟨32, _, _, rfl, ⟨_, X _ _ (by k_is), rfl, _, rfl⟩⟩, ⟨33, _, _, rfl, ⟨_, X _ _ (by k_is), rfl, _, rfl⟩⟩, ⟨34, _, _, rfl, ⟨_, X _ _ (by k_is), rfl, _, rfl⟩⟩, ⟨35, _, _, rfl, ⟨_, X _ _ (by k_is), rfl, _, rfl⟩⟩, trivial⟩⟩, ⟨38, [Value.ref 37], rfl, ⟨_, X _ _ (by k_is), rfl, _, rfl⟩, ⟨ ⟨37, _, _, rfl, ⟨_, X _ _ (by k_is), rfl, _, rfl⟩⟩, trivial⟩⟩, ⟨40, [Value.ref 39], rfl, ⟨_, X _ _ (by k_is), rfl, _, rfl⟩, ⟨ ⟨39, _, _, rfl, ⟨_, X _ _ (by k_is), rfl, _, rfl⟩⟩, trivial⟩⟩, ⟨44, [Value.ref 41, Value.ref 42, Value.ref 43], rfl, ⟨_, X _ _ (by k_is), rfl, _, rfl⟩, ⟨ ⟨41, _, _, rfl, ⟨_, X _ _ (by k_is), rfl, _, rfl⟩⟩, ⟨42, _, _, rfl, ⟨_, X _ _ (by k_is), rfl, _, rfl⟩⟩, ⟨43, _, _, rfl, ⟨_, X _ _ (by k_is), rfl, _, rfl⟩⟩, trivial⟩⟩, ⟨46, [Value.ref 45], rfl, ⟨_, X _ _ (by k_is), rfl, _, rfl⟩, ⟨ ⟨45, _, _, rfl, ⟨_, X _ _ (by k_is), rfl, _, rfl⟩⟩, trivial⟩⟩, ⟨48, [Value.ref 47], rfl, ⟨_, X _ _ (by k_is), rfl, _, rfl⟩, ⟨ ⟨47, _, _, rfl, ⟨_, X _ _ (by k_is), rfl, _, rfl⟩⟩, trivial⟩⟩, ⟨52, [Value.ref 49, Value.ref 50, Value.ref 51], rfl, ⟨_, X _ _ (by k_is), rfl, _, rfl⟩, ⟨ ⟨49, _, _, rfl, ⟨_, X _ _ (by k_is), rfl, _, rfl⟩⟩, ⟨50, _, _, rfl, ⟨_, X _ _ (by k_is), rfl, _, rfl⟩⟩, ⟨51, _, _, rfl, ⟨_, X _ _ (by k_is), rfl, _, rfl⟩⟩, trivial⟩⟩, ⟨54, [Value.ref 53], rfl, ⟨_, X _ _ (by k_is), rfl, _, rfl⟩, ⟨ ⟨53, _, _, rfl, ⟨_, X _ _ (by k_is), rfl, _, rfl⟩⟩, trivial⟩⟩, ⟨56, [Value.ref 55], rfl, ⟨_, X _ _ (by k_is), rfl, _, rfl⟩, ⟨ ⟨55, _, _, rfl, ⟨_, X _ _ (by k_is), rfl, _, rfl⟩⟩, trivial⟩⟩, ⟨60, [Value.ref 57, Value.ref 58, Value.ref 59], rfl, ⟨_, X _ _ (by k_is), rfl, _, rfl⟩, ⟨ ⟨57, _, _, rfl, ⟨_, X _ _ (by k_is), rfl, _, rfl⟩⟩, ⟨58, _, _, rfl, ⟨_, X _ _ (by k_is), rfl, _, rfl⟩⟩, ⟨59, _, _, rfl, ⟨_, X _ _ (by k_is), rfl, _, rfl⟩⟩, trivial⟩⟩, trivial⟩
end Mine

end
section
open PySem PySem.W PySem.Calls PyProof.Rows
namespace Mine
theorem append_A {prog : Program} {w : World} {A : Around} {E : Value → Shared → Prop} {s : Shared} {h₀ : Heap} {L D : Addr} {m : Str → Option Value} {news news' : List (Addr × Obj)} {its : Array Value} {n : Nat} {x : Value} {Q : Value → Shared → Prop}
    (h : ∀ h', Fr h₀ L h' m → News h₀ L h' news' → Q .none { s with heap := h' }) (F : Fr h₀ L s.heap m := by k_asm) (N : News h₀ L s.heap news := by k_asm) (U : Upd D (listOf its n) (listOf (its.push x) (n + 1)) news news' := by k_upd)
    (hsz : its.size ≤ sizeLine := by (simp only [List.size_toArray, sizeLine_eq]; omega)) : wpAny (model prog w) A (call (.builtin "list.append") [.ref D, x]) Q E s := append_K F N U h hsz
local macro_rules | `(tactic| walk_at "call builtin:list.append") => `(tactic| (k_here; k_dflt (refine' append_A ?_; k_whole); intro h' F' N'; (try k_sweep)))
theorem set2_ne {m : Str → Option Value} {x z y : Str} {a b : Value} {r : Option Value} (h1 : (y == x) = false) (h2 : (y == z) = false) (h : m y = r) : (if y = x then some b else if y = z then some a else m y) = r := by
  rw [if_neg (fun e => by rw [e, beq_self_eq_true] at h1; cases h1), if_neg (fun e => by rw [e, beq_self_eq_true] at h2; cases h2)]; exact h
theorem set2_1 {m : Str → Option Value} {x z : Str} {a b : Value} (h1 : (z == x) = false) : (if z = x then some b else if z = z then some a else m z) = some a := by
  rw [if_neg (fun e => by rw [e, beq_self_eq_true] at h1; cases h1), if_pos rfl]
theorem set2_2 {m : Str → Option Value} {x z : Str} {a b : Value} : (if x = x then some b else if x = z then some a else m x) = some b := if_pos rfl
theorem news_drop1 {h₀ h : Heap} {L : Addr} {p : Addr × Obj} {r : List (Addr × Obj)} (N : News h₀ L h (p :: r)) : News h₀ L h r := fun q hq => N q (.tail _ hq)
theorem push_list (pv : List Value) (x : Value) : pv.toArray.push x = (pv ++ [x]).toArray := by simp
theorem apart12 {a b c : Addr} {o1 o2 o3 : Obj} (h1 : a ≠ c) (h2 : b ≠ c) : ∀ p ∈ [(c, o3)], ∀ q ∈ [(a, o1), (b, o2)], p.1 ≠ q.1 := by
  intro p hp q hq
  rw [List.mem_singleton.mp hp]
  rcases List.mem_cons.mp hq with e | hq
  · rw [e]; exact h1.symm
  · rw [List.mem_singleton.mp hq]; exact h2.symm
theorem pick_len (n : Int) (k : Nat) : ∀ (t : List (Int × Str)), (∀ p ∈ t, p.2.length = 1) → (pick n k t).length = 1
  | [], _ => by unfold pick; split <;> rfl
  | (b, c) :: r, h => by
    have := pick_len n k r (fun p hp => h p (.tail _ hp))
    unfold pick
    generalize (if k = 0 then (61440 : Int) else b) = z
    split
    · exact h (b, c) (.head _)
    · exact this
theorem picks_sum1 (n : Int) : ∀ (ts : List (List (Int × Str))) (k : Nat), (∀ t ∈ ts, ∀ p ∈ t, p.2.length = 1) → ((picks n k ts).map (·.length)).sum = ts.length
  | [], _, _ => rfl
  | t :: r, k, h => by
    simp only [picks, List.map_cons, List.sum_cons, List.length_cons, pick_len n k t (h t (.head _)), picks_sum1 n r (k + 1) (fun t' ht => h t' (.tail _ ht))]
    omega
theorem picks_sum (n : Int) : ((picks n 0 tabs).map (·.length)).sum + (picks n 0 tabs).length * (Str.ofString "").length = 10 := by
  rw [picks_sum1 n tabs 0 (by decide), picks_length]; rfl
inductive FmJ (n : Int) (t : Tok) (lp : Addr) (xs : List Str) (m : Str → Option Value) (news : List (Addr × Obj)) : Prop
  | mk (pv : List Value) (c : Nat) (ok : AllIs m [(Str.ofString "mode", .int n t), (Str.ofString "perm", .ref lp)]) (e : news = [(lp, listOf (List.toArray pv) c)]) (h : StrsAre pv xs)
theorem filemode_spec {w : World} {mean : ExcName → Option Value} {mg mb : Str → Option Value} {A : Around} {g : Heap}
  {s : Shared} {n : Int} {t : Tok} {Q E : Value → Shared → Prop}
  (G : Gr w mean mg mb g) (st : g.StaysIn s.heap) (hroom : A.depth + 1 < recursionLimit) (hh : A.handled = none)
  (ret : ∀ h' tk t', s.heap.StaysIn h' → Q (.str (Txt.join (Str.ofString "") (picks n 0 tabs)) t') { s with heap := h', toks := tk }) :
  wpAny (model PySem.Challenge.rw_nq0100_01.row.prog w) A (call (.ref 68) [.int n t]) Q E s := by
  have X := G.X.keeps st
  have T := G.T.keeps st
  obtain ⟨htab, hTab⟩ := tabs_at G st
  revert X; k_fill; intro X
  refine wpAny_call ?_
  k_dflt (refine' enterP (binds := [(Str.ofString "mode", .int n t)]) X T ?k6 ?k7 (Nat.lt_of_succ_lt hroom) ?k9 ?kB ?_ ?c2 ?c3 ?c4 ?c5; (case k6 => k_is); (case k7 => k_is); (case k9 => exact BindsTo.of_eq rfl); (case kB => exact locs rfl); (case c2 => exact rfl); (case c3 => exact rfl); (case c4 => exact rfl); (case c5 => decide))
  intro h' F' N'
  dsimp only
  (try k_unmd); k_fold
  iterate 9 walk1
  rename Fr _ _ _ _ => F1
  rename News _ _ _ _ => N1
  refine For_turnsE F1 ?_
  iterate 6 walk1
  refine call_enumerate_tuple (htab.at fun o e => F1.keep _ _ e) (fun h2 hE hI hsz hk => ?_)
  have F2 := F1.keeps hk
  have N2 := N1.grown hk
  have b1 := Heap.lt_size (N1 _ (.head _)).1
  have b2 := F1.ns.lt
  have b3 := next_is_new F1
  have b4 := F1.above
  have hp0 := (N1 _ (.head _)).2
  have b5 := ktu_new F1 (Nat.le_succ _)
  clear F1 N1
  rename_i lp _ _ hq
  refine wpAny_pyIter_enum hE ?_
  refine turns_enumT (fun k => FmJ n t lp ((picks n 0 tabs).take k)) hh (by rfl) (by rfl) (by rfl) (Nat.succ_ne_self _) b5 b3 (Nat.ne_of_lt (Nat.lt_succ_of_lt b2)) (Nat.ne_of_lt b2) htab hE hI F2 N2 ?_ ⟨[], 0, ⟨rfl, rfl, trivial⟩, rfl, .nil⟩ ?_ ?_
  · intro p hp
    rw [List.mem_singleton.mp hp]
    exact ⟨Nat.ne_of_lt (Nat.lt_succ_of_lt b1), Nat.ne_of_lt b1⟩
  · rintro k v ti m₁ news₁ h5 tk5 oE oI hk5 hoff ⟨pv, c, ok, rfl, hpv⟩ F5 N5
    obtain ⟨tb, Ta, ws, htb, rfl, hT, hrow⟩ := hTab.at k v hk5
    obtain ⟨ps, hps, hpa⟩ := hrow.pairs
    have F6 := fr_overA [(Str.ofString "mode", .int n t), (Str.ofString "perm", .ref lp), (Str.ofString "index", .int k ti), (Str.ofString "table", .ref Ta)] F5
      ⟨set2_ne rfl rfl ok.1, set2_ne rfl rfl ok.2.1, set2_1 rfl, set2_2, trivial⟩
    clear F5 F2 N2
    have n2 : hq.objs.size + 1 ≠ lp := fun q => (hoff _ (.head _)).1 q.symm
    have n3 : hq.objs.size ≠ lp := fun q => (hoff _ (.head _)).2 q.symm
    (try dsimp only)
    (try k_unmd); k_fold
    iterate 1 walk1
    refine For_turnsE F6 ?_
    iterate 1 walk1
    have hpk : (picks n 0 tabs)[k]? = some (pick n k tb) := by have := picks_get n tabs 0 k htb; rwa [Nat.zero_add] at this
    have hplen : pv.length ≤ 10 := by
      rw [hpv.length, List.length_take, picks_length]; exact Nat.le_trans (Nat.min_le_right _ _) (by decide)
    have fin : ∀ u : Tok, StrsAre (pv ++ [.str (pick n k tb) u]) ((picks n 0 tabs).take (k + 1)) := fun u => by
      rw [List.take_add_one, hpk]; exact StrsAre.append' hpv (.cons _ _ .nil)
    refine iter_tupP (fun i m news => AllIs m [(Str.ofString "mode", .int n t), (Str.ofString "perm", .ref lp), (Str.ofString "index", .int k ti)] ∧ news = [(_, oE), (_, oI), (lp, listOf pv.toArray c)] ∧ pick n k (tb.drop i) = pick n k tb) hh (by rfl) (by rfl) (by rfl) hT hps F6 N5 ⟨⟨rfl, rfl, rfl, trivial⟩, rfl, rfl⟩ ?_ ?_
    · rintro i a b m₂ news₂ h7 tk7 I oI2 hab hoff2 ⟨ok2, rfl, hpick⟩ F7 N7
      obtain ⟨⟨b0, c0⟩, hbc⟩ : ∃ p, tb[i]? = some p := by
        have hlt : i < ps.length := by
          rcases Nat.lt_or_ge i ps.length with h | h
          · exact h
          · rw [List.getElem?_eq_none h] at hab; cases hab
        exact ⟨tb[i]'(hpa.1 ▸ hlt), by simp⟩
      obtain ⟨t1, t2, hq⟩ := hpa.2 i b0 c0 hbc
      rw [hab] at hq
      obtain ⟨rfl, rfl⟩ := Prod.mk.inj (Option.some.inj hq)
      have hdrop : tb.drop i = (b0, c0) :: tb.drop (i + 1) := by
        obtain ⟨hl, he⟩ := List.getElem?_eq_some_iff.mp hbc
        rw [List.drop_eq_getElem_cons hl, he]
      rw [hdrop] at hpick
      have F8 := fr_overA [(Str.ofString "mode", .int n t), (Str.ofString "perm", .ref lp), (Str.ofString "index", .int k ti), (Str.ofString "bit", .int b0 t1), (Str.ofString "char", .str c0 t2)] F7
        ⟨set2_ne rfl rfl ok2.1, set2_ne rfl rfl ok2.2.1, set2_ne rfl rfl ok2.2.2.1, set2_1 rfl, set2_2, trivial⟩
      clear F7 F6 N5
      dsimp only [List.cons_append, List.nil_append] at N7
      (try dsimp only)
      (try k_unmd); k_fold
      have n1 : I ≠ lp := fun q => hoff2 _ (.tail _ (.tail _ (.head _))) q.symm
      iterate 9 walk1
      · rename (k : Int) = 0 => hk0
        have hk0' : k = 0 := by omega
        k_steps
        refine ifmt_spec G (stays_trans st F8.keep) hroom (fun h9 tk9 t9 k9 => ?_)
        have F9 := F8.keeps k9
        have N9 := N7.grown k9
        clear F8 N7
        k_steps
        · rename Builtin.bitAnd _ _ = _ => hb
          have hc : pick n k tb = c0 := by rw [← hpick]; simp only [pick]; rw [if_pos hk0', if_pos hb]
          rename Fr _ _ _ _ => F10
          rename News _ _ _ _ => N10
          subst hc
          rw [push_list] at N10
          show wpAny _ _ (execs [] _) _ _ _
          exact wpAny_execs_nil ⟨_, _, _, [(lp, _)], rfl, F10, news_drop1 N10, apart12 n2 n3, _, _, ⟨rfl, rfl, trivial⟩, rfl, fin _⟩
        · rename Builtin.bitAnd _ _ ≠ _ => hb
          have hc : pick n k (tb.drop (i + 1)) = pick n k tb := by rw [← hpick]; simp only [pick]; rw [if_pos hk0', if_neg hb]
          rename Fr _ _ _ _ => F10
          rename News _ _ _ _ => N10
          exact ⟨_, _, _, [(_, oE), (_, oI), (lp, _)], rfl, F10, N10, (fun p hp q hq => by rw [List.mem_singleton.mp hq]; exact hoff2 p hp), ⟨rfl, rfl, rfl, trivial⟩, rfl, hc⟩
      · rename (k : Int) ≠ 0 => hk0
        have hk0' : k ≠ 0 := by omega
        k_steps
        · rename Builtin.bitAnd _ _ = _ => hb
          have hc : pick n k tb = c0 := by rw [← hpick]; simp only [pick]; rw [if_neg hk0', if_pos hb]
          rename Fr _ _ _ _ => F10
          rename News _ _ _ _ => N10
          subst hc
          rw [push_list] at N10
          show wpAny _ _ (execs [] _) _ _ _
          exact wpAny_execs_nil ⟨_, _, _, [(lp, _)], rfl, F10, news_drop1 N10, apart12 n2 n3, _, _, ⟨rfl, rfl, trivial⟩, rfl, fin _⟩
        · rename Builtin.bitAnd _ _ ≠ _ => hb
          have hc : pick n k (tb.drop (i + 1)) = pick n k tb := by rw [← hpick]; simp only [pick]; rw [if_neg hk0', if_neg hb]
          rename Fr _ _ _ _ => F10
          rename News _ _ _ _ => N10
          exact ⟨_, _, _, [(_, oE), (_, oI), (lp, _)], rfl, F10, N10, (fun p hp q hq => by rw [List.mem_singleton.mp hq]; exact hoff2 p hp), ⟨rfl, rfl, rfl, trivial⟩, rfl, hc⟩
    · rintro m₂ news₂ h7 tk7 ⟨ok2, rfl, hpick⟩ F7 N7
      rw [hpa.1, List.drop_length] at hpick
      have F8 := fr_overA [(Str.ofString "mode", .int n t), (Str.ofString "perm", .ref lp), (Str.ofString "index", .int k ti)] F7 ok2
      clear F7 F6 N5
      (try dsimp only)
      (try k_unmd); k_fold
      k_steps
      · have hc : pick n k tb = Str.ofString "?" := by rw [← hpick]; simp only [pick]; rw [if_pos (by omega)]
        rename Fr _ _ _ _ => F10
        rename News _ _ _ _ => N10
        rw [hc] at fin
        rw [push_list] at N10
        exact ⟨_, _, _, [(lp, _)], rfl, F10, N10, apart12 n2 n3, _, _, ⟨rfl, rfl, trivial⟩, rfl, fin _⟩
      · have hc : pick n k tb = Str.ofString "-" := by rw [← hpick]; simp only [pick]; rw [if_neg (by omega)]
        rename Fr _ _ _ _ => F10
        rename News _ _ _ _ => N10
        rw [hc] at fin
        rw [push_list] at N10
        exact ⟨_, _, _, [(lp, _)], rfl, F10, N10, apart12 n2 n3, _, _, ⟨rfl, rfl, trivial⟩, rfl, fin _⟩
  · rintro m₁ news₁ h5 tk5 ⟨pv, c, ok, rfl, hpv⟩ F5 N5
    have F6 := fr_overA [(Str.ofString "mode", .int n t), (Str.ofString "perm", .ref lp)] F5 ok
    clear F5 F2 N2
    (try dsimp only)
    (try k_unmd); k_fold
    k_steps
    have htk : (picks n 0 tabs).take tabVs.length = picks n 0 tabs := List.take_of_length_le (by rw [picks_length]; decide)
    rw [htk] at hpv
    refine join_list (N5.isList (.head _)) hpv (by rw [picks_sum]; decide) (fun t' k => ?_)
    show Q _ _
    exact ret _ _ _ F6.keep
end Mine

end
section
open PySem PySem.W PySem.Calls PyProof.Rows
namespace Mine
/- behind a turn of a comprehension -/
inductive MidW (h₀ : Heap) (L : Addr) (own : List (Addr × Obj)) (wr : List Addr) (J : (Str → Option Value) → List (Addr × Obj) → Prop) (gs : Array GenState) (dr : Drawn) (os : OsState) (s' : Shared) : Prop
  | mk (h' : Heap) (tk : Nat) (m₂ : Str → Option Value) (news₂ : List (Addr × Obj)) (e : s' = ⟨h', gs, dr, tk, os⟩) (F : Fr h₀ L h' m₂) (N : News h₀ L h' (own ++ news₂)) (ha : ∀ p ∈ news₂, p.1 ∉ wr) (hJ : J m₂ news₂)
inductive MidN (h₀ : Heap) (L I : Addr) (oI : Obj) (J : (Str → Option Value) → List (Addr × Obj) → Prop) (gs : Array GenState) (dr : Drawn) (os : OsState) (s' : Shared) : Prop
  | mk (h' : Heap) (tk : Nat) (m₂ : Str → Option Value) (news₂ : List (Addr × Obj)) (e : s' = ⟨h', gs, dr, tk, os⟩) (F : Fr h₀ L h' m₂) (N : News h₀ L h' ((I, oI) :: news₂)) (ha : ∀ p ∈ news₂, p.1 ≠ I) (hJ : J m₂ news₂)
inductive MidD (h₀ : Heap) (C I : Addr) (oI : Obj) (D : Addr) (ex : List (Addr × Obj)) (J : List Value → Prop) (gs : Array GenState) (dr : Drawn) (os : OsState) (s' : Shared) : Prop
  | mk (h' : Heap) (tk : Nat) (m₂ : Str → Option Value) (ys' : List Value) (k' : Nat) (e : s' = ⟨h', gs, dr, tk, os⟩) (F : Fr h₀ C h' m₂) (N : News h₀ C h' ((I, oI) :: (D, listOf (List.toArray ys') k') :: ex)) (hJ : J ys')
inductive InvD (D : Addr) (J : List Value → Prop) (news : List (Addr × Obj)) : Prop
  | mk (ys : List Value) (k : Nat) (e : news = [(D, listOf (List.toArray ys) k)]) (hJ : J ys)
section
variable {prog : Program} {w : World} {A : Around} {E : Value → Shared → Prop} {s : Shared} {env : Env} {h₀ : Heap} {target : Expr}

/- one clause's turns in a list comprehension, in the comprehension's own frame -/
theorem compLoopF {R : Result → Shared → Prop} {elt : Expr} {gens : List Comprehension} {scope : Scope} {pos : Pos} {d : Nat} {acc : Value} {p : Pos} {mid : Sem Fin} {I : Addr} {fp wr : List Addr} {n : Nat} {P Md : Nat → Value → Heap → Prop} {St : Nat → Heap → Prop} {m : Str → Option Value} {news : List (Addr × Obj)}
    (hT : compTurn (.ListComp elt gens scope pos) d (.ref I) acc env = (standAt p >>= fun _ => pyNext (.ref I) >>= fun r => match r with
      | none => pure (.done .next)
      | some v => letOwnedTupleGo target (.ref I) v >>= fun _ => assign target env v >>= fun _ => mid))
    (W : KTurns prog w A target I fp wr n P Md St)
    (hLf : env.locals ∉ fp) (hwr : ∀ b ∈ wr, h₀.get? b = none) (hnw : ∀ p ∈ news, p.1 ∉ wr) (hst : St 0 s.heap) (F : Fr h₀ env.locals s.heap m) (N : News h₀ env.locals s.heap news)
    (J : Nat → (Str → Option Value) → List (Addr × Obj) → Prop) (h0 : J 0 m news)
    (step : ∀ i v m₁ news₁ h₁ tk₁ own (E' : Value → Shared → Prop), i < n → P i v h₁ → J i m₁ news₁ → (∀ p ∈ news₁, p.1 ∉ wr) → (∀ p ∈ own, p.1 ∈ fp) → (∀ p ∈ own, h₁.get? p.1 = some p.2) → (∀ b ∈ fp, h₀.get? b = none → ∀ o, h₁.get? b = some o → (b, o) ∈ own) → St (i + 1) h₁ →
      Fr h₀ env.locals h₁ m₁ → News h₀ env.locals h₁ (own ++ news₁) →
      wpAny (model prog w) A (assign target env v) (fun _ s₂ => wpAny (model prog w) A mid
        (fun fin s₃ => fin = .again (.compLoop (.ListComp elt gens scope pos) d (.ref I) acc env) ∧ MidW h₀ env.locals own wr (J (i + 1)) s.gens s.drawn s.os s₃) E' s₂) E' { s with heap := h₁, toks := tk₁ })
    (hR : ∀ h' tk m' news', Fr h₀ env.locals h' m' → News h₀ env.locals h' news' → (∀ p ∈ news', p.1 ∉ wr) → J n m' news' → R (.ok .next) { s with heap := h', toks := tk }) :
    codeAny (model prog w) A (.compLoop (.ListComp elt gens scope pos) d (.ref I) acc env) R s := by
  have hLw : env.locals ∉ wr := fun h => hLf (W.sub _ h)
  have old : ∀ b o, h₀.get? b = some o → b ∉ wr := fun b o e hb => by rw [hwr b hb] at e; cases e
  refine codeAny_loop rfl
    (fun k s' => ∃ h' tk m' news' i, s' = { s with heap := h', toks := tk } ∧ St i h' ∧ Fr h₀ env.locals h' m' ∧ News h₀ env.locals h' news' ∧ (∀ p ∈ news', p.1 ∉ wr) ∧ J i m' news' ∧ i ≤ n ∧ k = n + 1 - i) ?_ (n + 1)
    ⟨s.heap, s.toks, m, news, 0, rfl, hst, F, N, hnw, h0, Nat.zero_le _, rfl⟩
  rintro k s' ⟨h', tk, m', news', i, rfl, hst', F', N', hnw', hJ, hi, rfl⟩
  have next : ∀ h₁ : Heap, (∀ b o, b ∉ wr → h'.get? b = some o → h₁.get? b = some o) → Fr h₀ env.locals h₁ m' ∧ News h₀ env.locals h₁ news' := fun h₁ hk₁ =>
    ⟨⟨F'.ns.at' fun o e => hk₁ _ o hLw e, fun b o e => hk₁ b o (old b o e) (F'.keep b o e), F'.above⟩, fun p hp => ⟨hk₁ _ _ (hnw' p hp) (N' p hp).1, (N' p hp).2⟩⟩
  show wpAny _ A ((compTurn (.ListComp elt gens scope pos) d (.ref I) acc env).onRaise (fun x => do noteFrame x env; theTreesLotGoes x)) _ _ _
  refine wpAny_noted ?_
  rw [hT]
  refine wpAny_bind (wpAny_standAt (wpAny_bind ?_))
  by_cases hlt : i < n
  · refine W.item i _ _ _ hlt hst' fun v h₁ tk₁ hMd hk₁ => ?_
    refine wpAny_bind (W.go i v _ _ _ hMd fun h₂ hP hst₂ hk₂ => ?_)
    obtain ⟨F₂, N₂⟩ := next h₂ fun b o hb x => hk₂ b o hb (hk₁ b o hb x)
    have Nown : News h₀ env.locals h₂ (PyProof.Rows.ownOf h₀ fp h₂) := news_ownOf hLf
    refine wpAny_bind (wpAny_mono (step i v m' news' h₂ tk₁ (PyProof.Rows.ownOf h₀ fp h₂) _ hlt hP hJ hnw' ownOf_sub (fun p hp => (Nown p hp).1) (fun b hb hn o e => mem_ownOf hb hn e) hst₂ F₂ (Nown.append N₂)) (fun _ s₂ h₂' => wpAny_mono h₂' (fun f s₃ h₃ => ?_) fun _ _ e => e) fun _ _ e => e)
    obtain ⟨rfl, h₃', tk₃, m₂, news₂, rfl, F₃, N₃, ha₃, hJ₃⟩ := h₃
    refine ⟨rfl, n + 1 - (i + 1), by omega, h₃', tk₃, m₂, news₂, i + 1, rfl, ?_, F₃, N₃.right, ha₃, hJ₃, hlt, rfl⟩
    refine W.frame _ _ _ hst₂ fun b hb o e => ?_
    cases hn : h₀.get? b with
    | some o₀ =>
      have : o₀ = o := by have q := F₂.keep b o₀ hn; rw [e] at q; exact (Option.some.inj q).symm
      exact this ▸ F₃.keep b o₀ hn
    | none => exact (N₃ _ (List.mem_append_left _ (mem_ownOf hb hn e))).1
  · have hin : i = n := by omega
    subst hin
    refine W.done _ _ _ hst' fun h₁ tk₁ hk₁ => wpAny_pure ?_
    obtain ⟨F₁, N₁⟩ := next h₁ hk₁
    exact hR h₁ tk₁ m' news' F₁ N₁ hnw' hJ

theorem compStartF {R : Result → Shared → Prop} {elt : Expr} {gens : List Comprehension} {scope : Scope} {pos : Pos} {d : Nat} {acc : Value} {g : Comprehension} {I : Addr}
    (hg : gens[d]? = some g) (hga : g.is_async = 0)
    (hself : ∀ (Q : Value → Shared → Prop) (E : Value → Shared → Prop), Q (.ref I) s → wpAny (model prog w) A (pyIter (.ref I)) Q E s)
    (h : codeAny (model prog w) A (.compLoop (.ListComp elt gens scope pos) d (.ref I) acc env) R s) :
    codeAny (model prog w) A (.compStart (.ListComp elt gens scope pos) d (.ref I) acc env) R s := by
  refine codeAny_of_tree ?_
  show wpAny _ _ ((compStart (.ListComp elt gens scope pos) d (.ref I) acc env).onRaise (fun x => do noteFrame x env; standAt theWindowsPlace)) _ _ s
  refine wpAny_notedAt ?_
  unfold compStart
  have e1 : (clausesOf (.ListComp elt gens scope pos))[d]? = some g := hg
  rw [e1]
  simp only [Option.elim, hga]
  show wpAny _ _ (ask >>= _) _ _ s
  refine wpAny_bind (wpAny_askSetting (wpAny_ite ?_))
  split
  · first
      | exact wpAny_bind (wpAny_pure (wpAny_pure (And.intro rfl h)))
      | exact wpAny_pure (And.intro rfl h)
  · refine wpAny_bind (wpAny_rule (wpAny_bind (wpAny_standAt (wpAny_bind (hself _ _ (wpAny_pure (And.intro rfl h)))))))

/- a list comprehension, in a frame of its own on the heap as it stands -/
theorem compEval {elt iter : Expr} {ifs : List Expr} {gs : List Comprehension} {scope : Scope} {cl : List (Str × Addr)} {pos : Pos} {Q : Value → Shared → Prop}
    (hclos : closureFor scope env = pure cl) (hcell : ∀ y ∈ scope.names, y.2 ≠ .cell) (hkind : scope.kind = .function)
    (hnames : ∀ y ∈ scope.names, y.2 = .local → scope.names.lookup y.1 = some .local)
    (h : wpAny (model prog w) A (eval iter env) (fun xv s₁ => wpAny (model prog w) A (pyIter xv) (fun it s₂ => ∃ (I : Addr) (oI : Obj) (h₀ : Heap), it = .ref I ∧ s₂.heap.get? I = some oI ∧ h₀.StaysIn s₂.heap ∧ h₀.get? I = none ∧ h₀.objs.size ≤ s₂.heap.objs.size ∧
        (∀ (s' : Shared) (Q : Value → Shared → Prop) (E : Value → Shared → Prop), s₂.heap.StaysIn s'.heap → Q (.ref I) s' → wpAny (model prog w) A (pyIter (.ref I)) Q E s') ∧
        ∀ C D h tk, C ≠ D → C ≠ I → D ≠ I → I < D → D < C → s₂.heap.StaysIn h → Fr h₀ C h (fun _ => none) → News h₀ C h [(I, oI), (D, listOf #[] 0)] →
          codeAny (model prog w) A (.compLoop (.ListComp elt (⟨target, iter, ifs, 0⟩ :: gs) scope pos) 0 (.ref I) (.ref D) (compEnvC scope cl C env)) (fun r s' => ∃ m, r = .ok .next ∧ s'.heap.Ns C m ∧ ∀ h'', Heap.SameBut C s'.heap h'' → Q (.ref D) { s' with heap := h'' }) { s₂ with heap := h, toks := tk }) E s₁) E s)
    (hs : ∀ x, foldedSetIterable iter env x = pure x := by intro _; rfl) :
    wpAny (model prog w) A (eval (.ListComp elt (⟨target, iter, ifs, 0⟩ :: gs) scope pos) env) Q E s := by
  rw [eval_ListComp]
  refine wpAny_comprehension_free (use := none) rfl hs hclos hkind hnames (wpAny_mono h (fun xv s₁ h₁ => wpAny_mono h₁ (fun it s₂ h₂ => ?_) fun _ _ e => e) fun _ _ e => e)
  obtain ⟨I, oI, h₀, rfl, hI, hst, hI0, hsz, hself, hgo⟩ := h₂
  refine wpAny_newObj_type (wpAny_newFunctionEnv hcell (by intro y hy; simp at hy) (fun h₁ hns₁ hsb₁ => ?_) hkind)
  dsimp only at hns₁ hsb₁ ⊢
  generalize hH2 : s₂.heap.push { cls := .type "list", dict := none, data := .seq ([] : List Value).toArray } = H2 at hns₁ hsb₁ ⊢
  have hC : H2.objs.size = s₂.heap.objs.size + 1 := by rw [← hH2, Heap.size_push]
  have below : ∀ b, b < s₂.heap.objs.size → b ≠ H2.objs.size ∧ b ≠ s₂.heap.objs.size := fun b hb => ⟨by rw [hC]; exact Nat.ne_of_lt (Nat.lt_succ_of_lt hb), Nat.ne_of_lt hb⟩
  have hDC : s₂.heap.objs.size ≠ H2.objs.size := by rw [hC]; exact Nat.ne_of_lt (Nat.lt_succ_self _)
  have old : s₂.heap.StaysIn h₁ := fun b o e => hsb₁.extBut b o (below b (Heap.lt_size e)).1 (Heap.get?_push_of_some _ (hH2 ▸ Heap.get?_push_of_some _ e))
  have hacc : h₁.get? s₂.heap.objs.size = some (listOf #[] 0) := hsb₁.extBut _ _ hDC (Heap.get?_push_of_some _ (hH2 ▸ Heap.get?_push_size _ rfl))
  have hIlt := Heap.lt_size hI
  have fresh₀ : ∀ a, s₂.heap.objs.size ≤ a → h₀.get? a = none := fun a ha => by
    cases e : h₀.get? a with
    | none => rfl
    | some o' => exact absurd (Heap.lt_size (hst a o' e)) (Nat.not_lt.mpr ha)
  have loop := hgo H2.objs.size s₂.heap.objs.size h₁ (s₂.toks + ([] : List (Str × Value)).length) hDC.symm (below I hIlt).1.symm (below I hIlt).2.symm hIlt (by rw [hC]; exact Nat.lt_succ_self _) old
    ⟨hns₁, stays_trans hst old, Nat.le_trans hsz (by rw [hC]; exact Nat.le_succ _)⟩ (fun p hp => by
      rcases List.mem_cons.mp hp with e | hp
      · rw [e]; exact ⟨old _ _ hI, (below I hIlt).1, hI0⟩
      · rw [List.mem_singleton.mp hp]; exact ⟨hacc, hDC, fresh₀ _ (Nat.le_refl _)⟩)
  refine compStartF (g := ⟨target, iter, ifs, 0⟩) rfl rfl (fun Q E hq => hself _ Q E old hq) (codeAny_mono loop fun r s' hr => ?_)
  obtain ⟨m, rfl, hn, hq⟩ := hr
  exact ⟨m, hn, hq⟩
end
end Mine

end
section
open PySem PySem.W PySem.Calls PyProof.Rows
namespace Mine
/- behind a turn's binding: the last clause -/
noncomputable def midE (c : Code) (elt : Expr) (ifs : List Expr) (acc : Value) (env : Env) : Sem Fin := do
  let mut ok := true
  for c in ifs do
    if ok then ok ← isTrue c env (eval c env)
  if ok then
    (do let _ ← call (.builtin "list.append") [acc, ← eval elt env])
  again c
/- .. and a clause with another below it -/
noncomputable def midI (c : Code) (e : Expr) (d : Nat) (iter : Expr) (acc : Value) (env : Env) : Sem Fin := do
  let x ← eval iter env
  standAt iter.pos
  let x ← foldedSetIterable iter env x
  let _ ← runOwn (.compStart e d (← holding [x] (pyIter x)) acc env) env
  again c
theorem turn_11 (elt target iter : Expr) (ifs : List Expr) (scope : Scope) (pos : Pos) (it acc : Value) (env : Env) :
    compTurn (.ListComp elt [⟨target, iter, ifs, 0⟩] scope pos) 0 it acc env = (standAt iter.pos >>= fun _ => pyNext it >>= fun r => match r with
      | none => pure (.done .next)
      | some v => letOwnedTupleGo target it v >>= fun _ => assign target env v >>= fun _ => midE (.compLoop (.ListComp elt [⟨target, iter, ifs, 0⟩] scope pos) 0 it acc env) elt ifs acc env) := by rfl
theorem turn_22 (elt target iter : Expr) (ifs : List Expr) (g : Comprehension) (scope : Scope) (pos : Pos) (it acc : Value) (env : Env) :
    compTurn (.ListComp elt [g, ⟨target, iter, ifs, 0⟩] scope pos) 1 it acc env = (standAt iter.pos >>= fun _ => pyNext it >>= fun r => match r with
      | none => pure (.done .next)
      | some v => letOwnedTupleGo target it v >>= fun _ => assign target env v >>= fun _ => midE (.compLoop (.ListComp elt [g, ⟨target, iter, ifs, 0⟩] scope pos) 1 it acc env) elt ifs acc env) := by rfl
theorem turn_33 (elt target iter : Expr) (ifs : List Expr) (g g' : Comprehension) (scope : Scope) (pos : Pos) (it acc : Value) (env : Env) :
    compTurn (.ListComp elt [g, g', ⟨target, iter, ifs, 0⟩] scope pos) 2 it acc env = (standAt iter.pos >>= fun _ => pyNext it >>= fun r => match r with
      | none => pure (.done .next)
      | some v => letOwnedTupleGo target it v >>= fun _ => assign target env v >>= fun _ => midE (.compLoop (.ListComp elt [g, g', ⟨target, iter, ifs, 0⟩] scope pos) 2 it acc env) elt ifs acc env) := by rfl
theorem turn_12 (elt target iter target' iter' : Expr) (ifs' : List Expr) (scope : Scope) (pos : Pos) (it acc : Value) (env : Env) :
    compTurn (.ListComp elt [⟨target, iter, [], 0⟩, ⟨target', iter', ifs', 0⟩] scope pos) 0 it acc env = (standAt iter.pos >>= fun _ => pyNext it >>= fun r => match r with
      | none => pure (.done .next)
      | some v => letOwnedTupleGo target it v >>= fun _ => assign target env v >>= fun _ => midI (.compLoop (.ListComp elt [⟨target, iter, [], 0⟩, ⟨target', iter', ifs', 0⟩] scope pos) 0 it acc env) (.ListComp elt [⟨target, iter, [], 0⟩, ⟨target', iter', ifs', 0⟩] scope pos) 1 iter' acc env) := by rfl
theorem turn_13 (elt target iter target' iter' : Expr) (ifs' : List Expr) (g : Comprehension) (scope : Scope) (pos : Pos) (it acc : Value) (env : Env) :
    compTurn (.ListComp elt [⟨target, iter, [], 0⟩, ⟨target', iter', ifs', 0⟩, g] scope pos) 0 it acc env = (standAt iter.pos >>= fun _ => pyNext it >>= fun r => match r with
      | none => pure (.done .next)
      | some v => letOwnedTupleGo target it v >>= fun _ => assign target env v >>= fun _ => midI (.compLoop (.ListComp elt [⟨target, iter, [], 0⟩, ⟨target', iter', ifs', 0⟩, g] scope pos) 0 it acc env) (.ListComp elt [⟨target, iter, [], 0⟩, ⟨target', iter', ifs', 0⟩, g] scope pos) 1 iter' acc env) := by rfl
theorem turn_23 (elt target iter target' iter' : Expr) (ifs' : List Expr) (g : Comprehension) (scope : Scope) (pos : Pos) (it acc : Value) (env : Env) :
    compTurn (.ListComp elt [g, ⟨target, iter, [], 0⟩, ⟨target', iter', ifs', 0⟩] scope pos) 1 it acc env = (standAt iter.pos >>= fun _ => pyNext it >>= fun r => match r with
      | none => pure (.done .next)
      | some v => letOwnedTupleGo target it v >>= fun _ => assign target env v >>= fun _ => midI (.compLoop (.ListComp elt [g, ⟨target, iter, [], 0⟩, ⟨target', iter', ifs', 0⟩] scope pos) 1 it acc env) (.ListComp elt [g, ⟨target, iter, [], 0⟩, ⟨target', iter', ifs', 0⟩] scope pos) 2 iter' acc env) := by rfl

section
variable {prog : Program} {w : World} {A : Around} {E : Value → Shared → Prop} {s : Shared} {env : Env} {h₀ : Heap} {target : Expr}
theorem mid_nil {c : Code} {elt : Expr} {acc : Value} {Q : Fin → Shared → Prop}
    (h : wpAny (model prog w) A (eval elt env) (fun x s₄ => wpAny (model prog w) A (call (.builtin "list.append") [acc, x]) (fun _ s₅ => Q (.again c) s₅) E s₄) E s) :
    wpAny (model prog w) A (midE c elt [] acc env) Q E s := by
  unfold midE
  refine wpAny_bind (wpAny_tests_nil ?_)
  simp only [if_true]
  exact wpAny_bind (wpAny_bind (wpAny_mono h (fun x s₄ h₄ => wpAny_bind (wpAny_mono h₄ (fun _ s₅ h₅ => wpAny_pure (wpAny_pure h₅)) fun _ _ h' => h')) fun _ _ h' => h'))
theorem mid_if {c : Code} {elt test : Expr} {acc : Value} {Q : Fin → Shared → Prop}
    (h : wpAny (model prog w) A (isTrue test env (eval test env)) (fun b s₃ => if b = true then wpAny (model prog w) A (eval elt env) (fun x s₄ => wpAny (model prog w) A (call (.builtin "list.append") [acc, x]) (fun _ s₅ => Q (.again c) s₅) E s₄) E s₃ else Q (.again c) s₃) E s) :
    wpAny (model prog w) A (midE c elt [test] acc env) Q E s := by
  unfold midE
  refine wpAny_bind (wpAny_tests_one (wpAny_mono h (fun b s₃ h₃ => ?_) fun _ _ h' => h'))
  cases b with
  | false => exact wpAny_pure h₃
  | true => exact wpAny_bind (wpAny_bind (wpAny_mono h₃ (fun x s₄ h₄ => wpAny_bind (wpAny_mono h₄ (fun _ s₅ h₅ => wpAny_pure (wpAny_pure h₅)) fun _ _ h' => h')) fun _ _ h' => h'))
theorem mid_in {c : Code} {e iter : Expr} {d : Nat} {acc : Value} {Q : Fin → Shared → Prop}
    (h : wpAny (model prog w) A (eval iter env) (fun x s₁ => wpAny (model prog w) A (pyIter x) (fun it s₂ => codeAny (model prog w) A (.compStart e d it acc env) (fun r s' => r = .ok .next ∧ Q (.again c) s') s₂) E s₁) E s)
    (hs : ∀ x, foldedSetIterable iter env x = pure x := by intro _; rfl) :
    wpAny (model prog w) A (midI c e d iter acc env) Q E s := by
  unfold midI
  refine wpAny_bind (wpAny_mono h (fun x s₁ h₁ => wpAny_bind (wpAny_standAt (wpAny_bind (wpAny_of_eq (hs x) (wpAny_bind (wpAny_holding (wpAny_mono h₁ (fun it s₂ h₂ => ?_) fun _ _ h' => h'))))))) fun _ _ h' => h')
  refine wpAny_bind (wpAny_runOwn (codeAny_mono h₂ fun r s' hr => ?_))
  obtain ⟨rfl, hq⟩ := hr
  exact wpAny_pure hq

/- one name's turns over what stands on the ground -/
theorem comp1 {R : Result → Shared → Prop} {elt : Expr} {gens : List Comprehension} {scope : Scope} {pos : Pos} {d : Nat} {acc : Value} {p px : Pos} {mid : Sem Fin} {x : Str} {I : Addr} {fp : List Addr} {n : Nat} {P : Nat → Value → Prop} {St : Nat → Heap → Prop} {m : Str → Option Value} {news : List (Addr × Obj)}
    (hT : compTurn (.ListComp elt gens scope pos) d (.ref I) acc env = (standAt p >>= fun _ => pyNext (.ref I) >>= fun r => match r with
      | none => pure (.done .next)
      | some v => letOwnedTupleGo (.Name x px) (.ref I) v >>= fun _ => assign (.Name x px) env v >>= fun _ => mid))
    (W : Walks prog w A I fp [I] n P St) (hlive : ∀ i h, St i h → ∃ o, h.get? I = some o) (hfp : ∀ b ∈ fp, b = I ∨ ∃ o, h₀.get? b = some o) (hI : h₀.get? I = none) (hLI : env.locals ≠ I)
    (hx : env.kindOf x = some .local) (hp : (env.scope.kind == .class || (env.scope.kind == .module && env.locals != env.globals)) = false)
    (hnI : ∀ p ∈ news, p.1 ≠ I) (hst : St 0 s.heap) (F : Fr h₀ env.locals s.heap m) (N : News h₀ env.locals s.heap news)
    (J : Nat → (Str → Option Value) → List (Addr × Obj) → Prop) (h0 : J 0 m news)
    (step : ∀ i v m₁ news₁ h₁ tk₁ oI (E' : Value → Shared → Prop), i < n → P i v → J i m₁ news₁ → (∀ p ∈ news₁, p.1 ≠ I) →
      Fr h₀ env.locals h₁ (fun y => if y = x then some v else m₁ y) → News h₀ env.locals h₁ ((I, oI) :: news₁) →
      wpAny (model prog w) A mid
        (fun fin s₃ => fin = .again (.compLoop (.ListComp elt gens scope pos) d (.ref I) acc env) ∧ MidN h₀ env.locals I oI (J (i + 1)) s.gens s.drawn s.os s₃) E' { s with heap := h₁, toks := tk₁ })
    (hR : ∀ h' tk m' news', Fr h₀ env.locals h' m' → News h₀ env.locals h' news' → (∀ p ∈ news', p.1 ≠ I) → J n m' news' → R (.ok .next) { s with heap := h', toks := tk }) :
    codeAny (model prog w) A (.compLoop (.ListComp elt gens scope pos) d (.ref I) acc env) R s := by
  have hLf : env.locals ∉ fp := fun hm => by
    rcases hfp _ hm with e | ⟨o, e⟩
    · exact hLI e
    · exact absurd (Nat.lt_of_lt_of_le (Heap.lt_size e) F.above) (Nat.lt_irrefl _)
  refine compLoopF hT (KTurns.ofWalks (target := .Name x px) W (fun i v s Q E _ hq => wpAny_pure hq)) hLf (fun b hb => (List.mem_singleton.mp hb) ▸ hI) (fun p hp hq => hnI p hp (List.mem_singleton.mp hq)) hst F N J h0 ?_ ?_
  · intro i v m₁ news₁ h₁ tk₁ own E' hi hP hJ hoff hown hownh hall hst' F₁ N₁
    obtain ⟨oI, hoI⟩ := hlive _ _ hst'
    have hIown : (I, oI) ∈ own := hall _ (W.sub I (List.mem_singleton.mpr rfl)) hI _ hoI
    have hone := own_one (fp := fp) hown hfp hoI N₁
    refine wpAny_assign_Name (wpAny_storeName_local hx F₁.ns (fun h₂ hn₂ hs₂ => ?_) hp)
    have N₂ : News h₀ env.locals h₁ ((I, oI) :: news₁) := news_one hIown N₁
    refine wpAny_mono (step i v m₁ news₁ h₂ _ oI E' hi hP hJ (fun p hp e => hoff p hp (List.mem_singleton.mpr e)) (F₁.set hn₂ hs₂) (N₂.set hs₂)) (fun fin s₃ h₃ => ?_) fun _ _ e => e
    obtain ⟨e1, h', tk, m₂, news₂, e2, F₃, N₃, ho, hj⟩ := h₃
    refine ⟨e1, h', tk, m₂, news₂, e2, F₃, fun p hp => ?_, fun p hp hq => ho p hp (List.mem_singleton.mp hq), hj⟩
    rcases List.mem_append.mp hp with h1 | h1
    · rw [hone p h1]; exact N₃ _ (.head _)
    · exact N₃ p (.tail _ h1)
  · intro h' tk m' news' F' N' ho hj
    exact hR h' tk m' news' F' N' (fun p hp e => ho p hp (List.mem_singleton.mpr e)) hj
end
end Mine

end
section
open PySem PySem.W PySem.Calls PyProof.Rows
namespace Mine
section
variable {prog : Program} {w : World} {A : Around} {E : Value → Shared → Prop} {s : Shared} {env : Env} {h₀ : Heap}

/- what compEval asks for behind pyIter -/
noncomputable def CompGo (prog : Program) (w : World) (A : Around) (env : Env) (elt : Expr) (gens : List Comprehension) (scope : Scope) (cl : List (Str × Addr)) (pos : Pos) (Q : Value → Shared → Prop) (it : Value) (s₂ : Shared) : Prop :=
  ∃ (I : Addr) (oI : Obj) (h₀ : Heap), it = .ref I ∧ s₂.heap.get? I = some oI ∧ h₀.StaysIn s₂.heap ∧ h₀.get? I = none ∧ h₀.objs.size ≤ s₂.heap.objs.size ∧
        (∀ (s' : Shared) (Q : Value → Shared → Prop) (E : Value → Shared → Prop), s₂.heap.StaysIn s'.heap → Q (.ref I) s' → wpAny (model prog w) A (pyIter (.ref I)) Q E s') ∧
        ∀ C D h tk, C ≠ D → C ≠ I → D ≠ I → I < D → D < C → s₂.heap.StaysIn h → Fr h₀ C h (fun _ => none) → News h₀ C h [(I, oI), (D, listOf #[] 0)] →
          codeAny (model prog w) A (.compLoop (.ListComp elt gens scope pos) 0 (.ref I) (.ref D) (compEnvC scope cl C env)) (fun r s' => ∃ m, r = .ok .next ∧ s'.heap.Ns C m ∧ ∀ h'', Heap.SameBut C s'.heap h'' → Q (.ref D) { s' with heap := h'' }) { s₂ with heap := h, toks := tk }

theorem compEvalG {elt target iter : Expr} {ifs : List Expr} {gs : List Comprehension} {scope : Scope} {cl : List (Str × Addr)} {pos : Pos} {Q : Value → Shared → Prop}
    (hclos : closureFor scope env = pure cl) (hcell : ∀ y ∈ scope.names, y.2 ≠ .cell) (hkind : scope.kind = .function)
    (hnames : ∀ y ∈ scope.names, y.2 = .local → scope.names.lookup y.1 = some .local)
    (h : wpAny (model prog w) A (eval iter env) (fun xv s₁ => wpAny (model prog w) A (pyIter xv) (fun it s₂ => CompGo prog w A env elt (⟨target, iter, ifs, 0⟩ :: gs) scope cl pos Q it s₂) E s₁) E s)
    (hs : ∀ x, foldedSetIterable iter env x = pure x := by intro _; rfl) :
    wpAny (model prog w) A (eval (.ListComp elt (⟨target, iter, ifs, 0⟩ :: gs) scope pos) env) Q E s := compEval hclos hcell hkind hnames h hs
theorem comp0 {elt : Expr} {gens : List Comprehension} {scope : Scope} {cl : List (Str × Addr)} {pos px : Pos} {x : Str} {p : Pos} {mid : Addr → Addr → Sem Fin} {I : Addr} {oI₀ : Obj} {fp : List Addr} {n : Nat} {P : Nat → Value → Prop} {St : Nat → Heap → Prop} {Q : Value → Shared → Prop}
    (hT : ∀ C D : Addr, compTurn (.ListComp elt gens scope pos) 0 (.ref I) (.ref D) (compEnvC scope cl C env) = (standAt p >>= fun _ => pyNext (.ref I) >>= fun r => match r with
      | none => pure (.done .next)
      | some v => letOwnedTupleGo (.Name x px) (.ref I) v >>= fun _ => assign (.Name x px) (compEnvC scope cl C env) v >>= fun _ => mid C D))
    (W : Walks prog w A I fp [I] n P St) (hlive : ∀ i h, St i h → ∃ o, h.get? I = some o) (hfp : ∀ b ∈ fp, b = I ∨ ∃ o, h₀.get? b = some o) (hI : h₀.get? I = none) (hI₂ : s.heap.get? I = some oI₀)
    (hx : ∀ C, (compEnvC scope cl C env).kindOf x = some .local) (hkind : scope.kind = .function)
    (hst : St 0 s.heap) (hk₀ : h₀.StaysIn s.heap) (hsz : h₀.objs.size ≤ s.heap.objs.size)
    (J : Nat → List Value → Prop) (h0 : J 0 [])
    (step : ∀ C D i v ys k (m₁ : Str → Option Value) h₁ tk₁ oI (E' : Value → Shared → Prop), (I < D) → (D < C) → i < n → P i v → J i ys →
      Fr h₀ C h₁ (fun y => if y = x then some v else m₁ y) → News h₀ C h₁ [(I, oI), (D, listOf ys.toArray k)] →
      wpAny (model prog w) A (mid C D)
        (fun fin s₃ => fin = .again (.compLoop (.ListComp elt gens scope pos) 0 (.ref I) (.ref D) (compEnvC scope cl C env)) ∧ MidD h₀ C I oI D [] (J (i + 1)) s.gens s.drawn s.os s₃) E' { s with heap := h₁, toks := tk₁ })
    (hQ : ∀ D h'' tk ys k, h₀.StaysIn h'' → h₀.get? D = none → (∀ b o, h₀.get? b = some o → b ≠ D) → h''.get? D = some (listOf (List.toArray ys) k) → J n ys → Q (.ref D) { s with heap := h'', toks := tk }) :
    CompGo prog w A env elt gens scope cl pos Q (.ref I) s := by
  refine ⟨I, oI₀, h₀, rfl, hI₂, hk₀, hI, hsz, fun s' Q E k hq => W.self 0 s' Q E (W.frame _ _ _ hst fun b _ o e => k b o e) hq, ?_⟩
  intro C D h tk hCD hCI hDI hID hDC hst₂ F N
  have hst' : St 0 h := W.frame _ _ _ hst fun b _ o e => hst₂ b o e
  refine comp1 (s := { s with heap := h, toks := tk }) (h₀ := h₀) (env := compEnvC scope cl C env) (news := [(D, listOf #[] 0)]) (hT C D) W hlive hfp hI hCI (hx C) (by simp [compEnvC, relabel, hkind]) (fun p hp => by rw [List.mem_singleton.mp hp]; exact hDI) hst' F (fun p hp => N p (.tail _ hp))
    (fun i _ news => InvD D (J i) news) ⟨[], 0, rfl, h0⟩ ?_ ?_
  · rintro i v m₁ news₁ h₁ tk₁ oI E' hi hP ⟨ys, k, rfl, hJ⟩ hoff F₁ N₁
    refine wpAny_mono (step C D i v ys k m₁ h₁ tk₁ oI E' hID hDC hi hP hJ F₁ N₁) (fun fin s₃ h₃ => ?_) fun _ _ e => e
    obtain ⟨e1, h', tk', m₂, ys', k', e2, F', N', hj⟩ := h₃
    exact ⟨e1, h', tk', m₂, [(D, _)], e2, F', N', fun p hp => by rw [List.mem_singleton.mp hp]; exact hDI, ys', k', rfl, hj⟩
  · rintro h' tk' m' news' F' N' _ ⟨ys, k, rfl, hJ⟩
    refine ⟨m', rfl, F'.ns, fun h'' hs => ?_⟩
    have hC0 : h₀.get? C = none := by
      cases e : h₀.get? C with
      | none => rfl
      | some o => exact absurd (Nat.lt_of_lt_of_le (Heap.lt_size e) F.above) (Nat.lt_irrefl _)
    have hD := N' _ (.head _)
    refine hQ D h'' tk' ys k (fun b o e => hs.extBut b o (fun q => by rw [q, hC0] at e; cases e) (F'.keep b o e)) hD.2.2 (fun b o e q => by have := hD.2.2; rw [← q] at this; rw [this] at e; cases e) (hs.extBut _ _ hD.2.1 hD.1) hJ

/- the turns of an inner clause over a text -/
theorem compInStr {R : Result → Shared → Prop} {elt : Expr} {gens : List Comprehension} {scope : Scope} {pos : Pos} {d : Nat} {acc : Value} {p px : Pos} {mid : Addr → Sem Fin} {x txt : Str} {t : Tok} {g : Comprehension} {m : Str → Option Value} {news : List (Addr × Obj)}
    (hasc : txt.cps.all (· < 128) = true) (hh : A.handled = none) (hg : gens[d]? = some g) (hga : g.is_async = 0)
    (hT : ∀ I : Addr, compTurn (.ListComp elt gens scope pos) d (.ref I) acc env = (standAt p >>= fun _ => pyNext (.ref I) >>= fun r => match r with
      | none => pure (.done .next)
      | some v => letOwnedTupleGo (.Name x px) (.ref I) v >>= fun _ => assign (.Name x px) env v >>= fun _ => mid I))
    (hx : env.kindOf x = some .local) (hp : (env.scope.kind == .class || (env.scope.kind == .module && env.locals != env.globals)) = false)
    (F : Fr h₀ env.locals s.heap m) (N : News h₀ env.locals s.heap news)
    (J : Nat → (Str → Option Value) → List (Addr × Obj) → Prop) (h0 : J 0 m news)
    (step : ∀ I i v m₁ news₁ h₁ tk₁ oI (E' : Value → Shared → Prop), i < txt.cps.size → SignAt txt i v → J i m₁ news₁ → (∀ p ∈ news₁, p.1 ≠ I) →
      Fr h₀ env.locals h₁ (fun y => if y = x then some v else m₁ y) → News h₀ env.locals h₁ ((I, oI) :: news₁) →
      wpAny (model prog w) A (mid I)
        (fun fin s₃ => fin = .again (.compLoop (.ListComp elt gens scope pos) d (.ref I) acc env) ∧ MidN h₀ env.locals I oI (J (i + 1)) s.gens s.drawn s.os s₃) E' { s with heap := h₁, toks := tk₁ })
    (hR : ∀ h' tk m' news', Fr h₀ env.locals h' m' → News h₀ env.locals h' news' → J txt.cps.size m' news' → R (.ok .next) { s with heap := h', toks := tk }) :
    wpAny (model prog w) A (pyIter (.str txt t)) (fun it s₂ => codeAny (model prog w) A (.compStart (.ListComp elt gens scope pos) d it acc env) R s₂) E s := by
  refine wpAny_pyIter_ascii hasc ?_
  have W := Walks.strAscii (prog := prog) (w := w) (A := A) hh s.heap.objs.size txt t
  have hst : Heap.IsStrIter (s.heap.push { cls := .type "str_ascii_iterator", data := .fields #[.str txt t, .int 0 0] }) s.heap.objs.size "str_ascii_iterator" txt t 0 := ⟨_, Heap.get?_push_size _ rfl, rfl, rfl⟩
  refine compStartF hg hga (fun Q E hq => W.self 0 _ Q E hst hq) ?_
  refine comp1 (s := { s with heap := s.heap.push _ }) (h₀ := h₀) (hT _) W (fun i h st => let ⟨o, ho, _⟩ := st; ⟨o, ho⟩) (fun b hb => .inl (List.mem_singleton.mp hb)) (next_is_new F) (Nat.ne_of_lt F.ns.lt) hx hp (fun p hp e => absurd (Heap.lt_size (N p hp).1) (e ▸ Nat.lt_irrefl _)) hst (F.push _) (fun p hp => ⟨Heap.get?_push_of_some _ (N p hp).1, (N p hp).2⟩) J h0 ?_ ?_
  · intro i v m₁ news₁ h₁ tk₁ oI E' hi hP hJ hoff F₁ N₁
    exact step _ i v m₁ news₁ h₁ tk₁ oI E' hi hP hJ hoff F₁ N₁
  · intro h' tk m' news' F' N' _ hJ
    exact hR h' tk m' news' F' N' hJ

/- the first clause over a text -/
theorem compStr {elt : Expr} {gens : List Comprehension} {scope : Scope} {cl : List (Str × Addr)} {pos px : Pos} {x txt : Str} {t : Tok} {p : Pos} {mid : Addr → Addr → Addr → Sem Fin} {Q : Value → Shared → Prop}
    (hasc : txt.cps.all (· < 128) = true) (hh : A.handled = none)
    (hT : ∀ I C D : Addr, compTurn (.ListComp elt gens scope pos) 0 (.ref I) (.ref D) (compEnvC scope cl C env) = (standAt p >>= fun _ => pyNext (.ref I) >>= fun r => match r with
      | none => pure (.done .next)
      | some v => letOwnedTupleGo (.Name x px) (.ref I) v >>= fun _ => assign (.Name x px) (compEnvC scope cl C env) v >>= fun _ => mid I C D))
    (hx : ∀ C, (compEnvC scope cl C env).kindOf x = some .local) (hkind : scope.kind = .function)
    (J : Nat → List Value → Prop) (h0 : J 0 [])
    (step : ∀ I C D i v ys k (m₁ : Str → Option Value) h₁ tk₁ oI (E' : Value → Shared → Prop), (I < D) → (D < C) → i < txt.cps.size → SignAt txt i v → J i ys →
      Fr s.heap C h₁ (fun y => if y = x then some v else m₁ y) → News s.heap C h₁ [(I, oI), (D, listOf ys.toArray k)] →
      wpAny (model prog w) A (mid I C D)
        (fun fin s₃ => fin = .again (.compLoop (.ListComp elt gens scope pos) 0 (.ref I) (.ref D) (compEnvC scope cl C env)) ∧ MidD s.heap C I oI D [] (J (i + 1)) s.gens s.drawn s.os s₃) E' { s with heap := h₁, toks := tk₁ })
    (hQ : ∀ D h'' tk ys k, s.heap.StaysIn h'' → s.heap.get? D = none → (∀ b o, s.heap.get? b = some o → b ≠ D) → h''.get? D = some (listOf (List.toArray ys) k) → J txt.cps.size ys → Q (.ref D) { s with heap := h'', toks := tk }) :
    wpAny (model prog w) A (pyIter (.str txt t)) (fun it s₂ => CompGo prog w A env elt gens scope cl pos Q it s₂) E s := by
  refine wpAny_pyIter_ascii hasc ?_
  have hfresh : s.heap.get? s.heap.objs.size = none := by
    cases e : s.heap.get? s.heap.objs.size with
    | none => rfl
    | some o => exact absurd (Heap.lt_size e) (Nat.lt_irrefl _)
  exact comp0 (s := { s with heap := s.heap.push _ }) (h₀ := s.heap) (I := s.heap.objs.size) (mid := fun C D => mid s.heap.objs.size C D) (fun C D => hT _ C D) (Walks.strAscii (prog := prog) (w := w) (A := A) hh s.heap.objs.size txt t) (fun i h st => let ⟨o, ho, _⟩ := st; ⟨o, ho⟩) (fun b hb => .inl (List.mem_singleton.mp hb)) hfresh (Heap.get?_push_size _ rfl) hx hkind
    ⟨_, Heap.get?_push_size _ rfl, rfl, rfl⟩ (fun b o e => Heap.get?_push_of_some _ e) (by rw [Heap.size_push]; exact Nat.le_succ _) J h0 (fun C D i v ys k m₁ h₁ tk₁ oI E' a b c d e F N => step _ C D i v ys k m₁ h₁ tk₁ oI E' a b c d e F N) (fun D h'' tk ys k a b c d e => hQ D h'' tk ys k a b c d e)
end
end Mine

end
section
open PySem PySem.W PySem.Calls PyProof.Rows
namespace Mine
section
variable {prog : Program} {w : World} {A : Around} {E : Value → Shared → Prop} {s : Shared} {env : Env}
/- the first clause over a list -/
theorem compList {elt : Expr} {gens : List Comprehension} {scope : Scope} {cl : List (Str × Addr)} {pos px : Pos} {x : Str} {l : Addr} {vs : List Value} {p : Pos} {mid : Addr → Addr → Addr → Sem Fin} {Q : Value → Shared → Prop}
    (hl : s.heap.IsList l vs.toArray) (hh : A.handled = none)
    (hT : ∀ I C D : Addr, compTurn (.ListComp elt gens scope pos) 0 (.ref I) (.ref D) (compEnvC scope cl C env) = (standAt p >>= fun _ => pyNext (.ref I) >>= fun r => match r with
      | none => pure (.done .next)
      | some v => letOwnedTupleGo (.Name x px) (.ref I) v >>= fun _ => assign (.Name x px) (compEnvC scope cl C env) v >>= fun _ => mid I C D))
    (hx : ∀ C, (compEnvC scope cl C env).kindOf x = some .local) (hkind : scope.kind = .function)
    (J : Nat → List Value → Prop) (h0 : J 0 [])
    (step : ∀ I C D i v ys k (m₁ : Str → Option Value) h₁ tk₁ oI (E' : Value → Shared → Prop), (I < D) → (D < C) → vs[i]? = some v → J i ys →
      Fr s.heap C h₁ (fun y => if y = x then some v else m₁ y) → News s.heap C h₁ [(I, oI), (D, listOf ys.toArray k)] →
      wpAny (model prog w) A (mid I C D)
        (fun fin s₃ => fin = .again (.compLoop (.ListComp elt gens scope pos) 0 (.ref I) (.ref D) (compEnvC scope cl C env)) ∧ MidD s.heap C I oI D [] (J (i + 1)) s.gens s.drawn s.os s₃) E' { s with heap := h₁, toks := tk₁ })
    (hQ : ∀ D h'' tk ys k, s.heap.StaysIn h'' → s.heap.get? D = none → (∀ b o, s.heap.get? b = some o → b ≠ D) → h''.get? D = some (listOf (List.toArray ys) k) → J vs.length ys → Q (.ref D) { s with heap := h'', toks := tk }) :
    wpAny (model prog w) A (pyIter (.ref l)) (fun it s₂ => s.heap.StaysIn s₂.heap ∧ CompGo prog w A env elt gens scope cl pos Q it s₂) E s := by
  obtain ⟨ol, hol, _⟩ := id hl
  have hne : l ≠ s.heap.objs.size := Nat.ne_of_lt (Heap.lt_size hol)
  refine wpAny_pyIter_list hl ?_
  have hfresh : s.heap.get? s.heap.objs.size = none := by
    cases e : s.heap.get? s.heap.objs.size with
    | none => rfl
    | some o => exact absurd (Heap.lt_size e) (Nat.lt_irrefl _)
  have W := Walks.list (prog := prog) (w := w) hh s.heap.objs.size l hne vs.toArray
  have hlen : vs.toArray.size = vs.length := by simp
  rw [hlen] at W
  refine ⟨fun b o e => Heap.get?_push_of_some _ e, ?_⟩
  exact comp0 (s := { s with heap := s.heap.push _ }) (h₀ := s.heap) (I := s.heap.objs.size) (mid := fun C D => mid s.heap.objs.size C D) (fun C D => hT _ C D) W (fun i h st => let ⟨o, ho, _⟩ := st.1; ⟨o, ho⟩) (fun b hb => by
      rcases List.mem_cons.mp hb with e | hb
      · exact .inl e
      · exact .inr ⟨ol, (List.mem_singleton.mp hb) ▸ hol⟩) hfresh (Heap.get?_push_size _ rfl) hx hkind
    ⟨⟨_, Heap.get?_push_size _ rfl, rfl, rfl⟩, hl.at fun o e => Heap.get?_push_of_some _ e⟩ (fun b o e => Heap.get?_push_of_some _ e) (by rw [Heap.size_push]; exact Nat.le_succ _) J h0 (fun C D i v ys k m₁ h₁ tk₁ oI E' a b c d e F N => step _ C D i v ys k m₁ h₁ tk₁ oI E' a b (by simpa using d) e F N) (fun D h'' tk ys k a b c d e => hQ D h'' tk ys k a b c d e)

/- the first clause over range(n) -/
theorem compRange {elt : Expr} {gens : List Comprehension} {scope : Scope} {cl : List (Str × Addr)} {pos px : Pos} {x : Str} {r : Addr} {n : Nat} {t u v₁ : Tok} {p : Pos} {mid : Addr → Addr → Addr → Sem Fin} {Q : Value → Shared → Prop}
    (hr : IsRange s.heap r 0 n 1 t u v₁) (hsm : Builtin.Range.small 0 n 1 = true) (hrs : Builtin.Range.rangeSize 0 n 1 = (n : Int)) (hh : A.handled = none)
    (hT : ∀ I C D : Addr, compTurn (.ListComp elt gens scope pos) 0 (.ref I) (.ref D) (compEnvC scope cl C env) = (standAt p >>= fun _ => pyNext (.ref I) >>= fun r => match r with
      | none => pure (.done .next)
      | some v => letOwnedTupleGo (.Name x px) (.ref I) v >>= fun _ => assign (.Name x px) (compEnvC scope cl C env) v >>= fun _ => mid I C D))
    (hx : ∀ C, (compEnvC scope cl C env).kindOf x = some .local) (hkind : scope.kind = .function)
    (J : Nat → List Value → Prop) (h0 : J 0 [])
    (step : ∀ I C D i t ys k (m₁ : Str → Option Value) h₁ tk₁ oI (E' : Value → Shared → Prop), (I < D) → (D < C) → i < n → J i ys →
      Fr s.heap C h₁ (fun y => if y = x then some (.int i t) else m₁ y) → News s.heap C h₁ [(I, oI), (D, listOf ys.toArray k)] →
      wpAny (model prog w) A (mid I C D)
        (fun fin s₃ => fin = .again (.compLoop (.ListComp elt gens scope pos) 0 (.ref I) (.ref D) (compEnvC scope cl C env)) ∧ MidD s.heap C I oI D [] (J (i + 1)) s.gens s.drawn s.os s₃) E' { s with heap := h₁, toks := tk₁ })
    (hQ : ∀ D h'' tk ys k, s.heap.StaysIn h'' → s.heap.get? D = none → (∀ b o, s.heap.get? b = some o → b ≠ D) → h''.get? D = some (listOf (List.toArray ys) k) → J n ys → Q (.ref D) { s with heap := h'', toks := tk }) :
    wpAny (model prog w) A (pyIter (.ref r)) (fun it s₂ => CompGo prog w A env elt gens scope cl pos Q it s₂) E s := by
  refine wpAny_pyIter_range hr hsm ?_
  have hfresh : s.heap.get? s.heap.objs.size = none := by
    cases e : s.heap.get? s.heap.objs.size with
    | none => rfl
    | some o => exact absurd (Heap.lt_size e) (Nat.lt_irrefl _)
  have W := Walks.range (prog := prog) (w := w) (A := A) hh s.heap.objs.size 0 1 n
  refine comp0 (s := { s with heap := s.heap.push _ }) (h₀ := s.heap) (I := s.heap.objs.size) (mid := fun C D => mid s.heap.objs.size C D) (fun C D => hT _ C D) W (fun i h st => ⟨_, st⟩) (fun b hb => .inl (List.mem_singleton.mp hb)) hfresh (Heap.get?_push_size _ rfl) hx hkind
    ?_ (fun b o e => Heap.get?_push_of_some _ e) (by rw [Heap.size_push]; exact Nat.le_succ _) J h0 ?_ (fun D h'' tk ys k a b c d e => hQ D h'' tk ys k a b c d e)
  · show IsRangeIter _ _ _ _ _
    rw [hrs]
    simpa using Heap.get?_push_size _ rfl
  · rintro C D i v ys k m₁ h₁ tk₁ oI E' a b c ⟨t', rfl⟩ e F N
    have e0 : (0 : Int) + (i : Int) * 1 = (i : Int) := by omega
    rw [e0] at F
    exact step _ C D i t' ys k m₁ h₁ tk₁ oI E' a b c e F N
end

section
variable {M : Model} {A : Around} {E : Value → Shared → Prop} {s : Shared} {h₀ : Heap} {C : Addr} {m : Str → Option Value} {scope : Scope} {cl : List (Str × Addr)} {env : Env} {x : Str} {pos : Pos} {v : Value} {Q : Value → Shared → Prop}
theorem nm_own (F : Fr h₀ C s.heap m) (hx : m x = some v) (h : Q v s)
    (hk : (compEnvC scope cl C env).scope.kind = .function := by rfl) (hl : (compEnvC scope cl C env).kindOf x = some .local := by rfl) (hd : (x == ("__debug__" : Str)) = false := by decide) :
    wpAny M A (eval (.Name x pos) (compEnvC scope cl C env)) Q E s := wpAny_Name (wpAny_loadName_local hk hl F.ns hx h) hd
theorem nm_cell {c : Addr} {o : Obj} (F : Fr h₀ C s.heap m) (hc : cl.lookup x = some c) (ho : h₀.get? c = some o) (hv : o.data = .cell (some v)) (h : Q v s)
    (hk : (compEnvC scope cl C env).scope.kind = .function := by rfl) (hl : (compEnvC scope cl C env).kindOf x = some .cell := by rfl) (hd : (x == ("__debug__" : Str)) = false := by decide) :
    wpAny M A (eval (.Name x pos) (compEnvC scope cl C env)) Q E s := wpAny_Name (wpAny_loadName_cell hk hl hc ⟨_, F.keep _ _ ho, hv⟩ h) hd
end
end Mine

end
section
open PySem PySem.W PySem.Calls PyProof.Rows
namespace Mine

noncomputable def deepS : List Str := [Str.ofString "ru/a/b", Str.ofString "wu/a/b", Str.ofString "xu/a/b", Str.ofString "rg/a/b", Str.ofString "wg/a/b", Str.ofString "xg/a/b", Str.ofString "ro/a/b", Str.ofString "wo/a/b", Str.ofString "xo/a/b"]
noncomputable def hasDeep (ns : List Str) (k : Nat) : Bool := match deepS[k]? with | some d => ns.any (· == d) | none => false
noncomputable def termS (ns : List Str) (n : Nat) : List Int := ((List.range n).filter (hasDeep ns)).map fun k => (2 : Int) ^ (8 - k)
noncomputable def signsOf (ns : List Str) : Str := Txt.join (Str.ofString "") (picks (32768 + (termS ns 9).sum) 0 tabs)
theorem termS_succ (ns : List Str) (i : Nat) : termS ns (i + 1) = termS ns i ++ (if hasDeep ns i then [(2 : Int) ^ (8 - i)] else []) := by
  unfold termS
  rw [List.range_succ, List.filter_append, List.map_append]
  congr 1
  by_cases h : hasDeep ns i = true
  · simp [h]
  · simp [h]
theorem termS_len (ns : List Str) (i : Nat) : (termS ns i).length ≤ i := by
  unfold termS
  rw [List.length_map]
  exact Nat.le_trans (List.length_filter_le _ _) (by simp)
theorem deep_get {i j c1 c2 : Nat} (h1 : (Str.ofString "ugo").cps[i]? = some c1) (h2 : (Str.ofString "rwx").cps[j]? = some c2) : deepS[3 * i + j]? = some ((⟨#[c2]⟩ : Str) ++ (⟨#[c1]⟩ : Str) ++ Str.ofString "/a/b") := by
  have e1 : (Str.ofString "ugo").cps = #[117, 103, 111] := by decide +kernel
  have e2 : (Str.ofString "rwx").cps = #[114, 119, 120] := by decide +kernel
  rw [e1] at h1
  rw [e2] at h2
  match i, j, h1, h2 with
  | 0, 0, h1, h2 => cases h1; cases h2; decide +kernel
  | 0, 1, h1, h2 => cases h1; cases h2; decide +kernel
  | 0, 2, h1, h2 => cases h1; cases h2; decide +kernel
  | 1, 0, h1, h2 => cases h1; cases h2; decide +kernel
  | 1, 1, h1, h2 => cases h1; cases h2; decide +kernel
  | 1, 2, h1, h2 => cases h1; cases h2; decide +kernel
  | 2, 0, h1, h2 => cases h1; cases h2; decide +kernel
  | 2, 1, h1, h2 => cases h1; cases h2; decide +kernel
  | 2, 2, h1, h2 => cases h1; cases h2; decide +kernel
  | i + 3, _, h1, _ => simp at h1
  | _, j + 3, _, h2 => simp at h2
theorem news_comp {h₀ h h'' : Heap} {L D : Addr} {m : Str → Option Value} {news : List (Addr × Obj)} {o : Obj} (F : Fr h₀ L h m) (N : News h₀ L h news) (k : h.StaysIn h'') (hD : h.get? D = none) (hg : h''.get? D = some o) : News h₀ L h'' ((D, o) :: news) := fun p hp => by
  rcases List.mem_cons.mp hp with e | hp
  · rw [e]
    refine ⟨hg, fun q => ?_, ?_⟩
    · obtain ⟨oL, _, _, h2, _⟩ := F.ns; rw [← q] at h2; exact absurd (hD.symm.trans h2) (by simp)
    · cases z : h₀.get? D with
      | none => rfl
      | some o' => have := F.keep _ _ z; exact absurd (hD.symm.trans this) (by simp)
  · exact ⟨k _ _ (N p hp).1, (N p hp).2⟩
inductive NI2 (x : Str) (v : Value) (I D : Addr) (oI : Obj) (P : List Value → Prop) (m : Str → Option Value) (news : List (Addr × Obj)) : Prop
  | mk (hw : m x = some v) (ys : List Value) (k : Nat) (e : news = [(I, oI), (D, listOf (List.toArray ys) k)]) (h : P ys)
theorem signs_spec {w : World} {mean : ExcName → Option Value} {mg mb : Str → Option Value} {A : Around} {g : Heap}
  {s : Shared} {nl : Addr} {nv : List Value} {ns : List Str} {Q E : Value → Shared → Prop}
  (G : Gr w mean mg mb g) (st : g.StaysIn s.heap) (hroom : A.depth + 2 < recursionLimit) (hh : A.handled = none)
  (hl : s.heap.IsList nl nv.toArray) (hns : StrsAre nv ns) (hlen : ns.length ≤ 1000)
  (ret : ∀ h' tk t', s.heap.StaysIn h' → Q (.str (signsOf ns) t') { s with heap := h', toks := tk }) :
  wpAny (model PySem.Challenge.rw_nq0100_01.row.prog w) A (call (.ref 129) [.ref nl]) Q E s := by
  have X := G.X.keeps st
  have T := G.T.keeps st
  revert X; k_fill; intro X
  refine wpAny_call ?_
  k_dflt (refine' enterC (hid := []) (binds := [(Str.ofString "names", .ref nl)]) (fun q hq => nomatch hq) X T ?k6 ?k7 (Nat.lt_of_succ_lt (Nat.lt_of_succ_lt hroom)) ?k9 ?kB ?kD ?_ ?c2 ?c3 ?c4; (case k6 => k_is); (case k7 => k_is); (case k9 => exact BindsTo.of_eq rfl); (case kB => exact rfl); (case kD => decide +kernel); (case c2 => exact rfl); (case c3 => exact rfl); (case c4 => exact rfl))
  intro L' h' tk' cells' hL F' N' Y' l1
  simp only [List.map_nil, List.append_nil] at F' N'
  change Fr s.heap _ _ _ at F'
  change News s.heap _ _ _ at N'
  k_cells Y'
  rename_i o1 o2 d1 d2
  have hcn : o2.data = .cell (some (.ref nl)) := d2
  dsimp only
  (try k_unmd); k_fold
  k_steps
  refine compEvalG (cl := []) rfl (by decide) rfl (by decide) ?_
  walk1
  refine compStr ?ha1 hh (fun I C D => turn_12 _ _ _ _ _ _ _ _ _ _ _) (fun C => rfl) rfl (fun i ys => StrsAre ys (deepS.take (3 * i))) .nil ?_ ?_
  case ha1 => decide +kernel
  · rintro I C D i v ys k m₁ h₁ tk₁ oI E' hID hDC hi ⟨c1, u1, hc1, rfl⟩ hys F1 N1
    refine mid_in ?_
    walk1
    refine compInStr (g := ⟨_, _, _, 0⟩) ?ha2 hh rfl rfl (fun I => turn_22 _ _ _ _ _ _ _ _ _ _) rfl rfl F1 N1 (fun j => NI2 (Str.ofString "who") (.str ⟨#[c1]⟩ u1) I D oI (fun ys => StrsAre ys (deepS.take (3 * i + j)))) ⟨set_eq, ys, k, rfl, hys⟩ ?_ ?_
    case ha2 => decide +kernel
    · rintro I2 j v m₂ news₁ h₂ tk₂ oI2 E2 hj ⟨c2, u2, hc2, rfl⟩ ⟨hw, ys2, k2, rfl, hys2⟩ hoff F2 N2
      have F3 : Fr h' C h₂ _ := fr_overA [(Str.ofString "who", .str ⟨#[c1]⟩ u1), (Str.ofString "act", .str ⟨#[c2]⟩ u2)] F2 ⟨set_ne rfl hw, set_eq, trivial⟩
      replace N2 : News h' C h₂ _ := N2
      clear F2 F1 N1
      have n1 : I2 ≠ D := fun q => hoff _ (.tail _ (.head _)) q.symm
      have n2 : I ≠ D := Nat.ne_of_lt hID
      have ly : ys2.length ≤ 9 := by rw [hys2.length, List.length_take]; exact Nat.min_le_right _ _
      refine mid_nil ?_
      iterate 7 (first | refine nm_own (by k_asm) (by with_unfolding_all rfl) ?_ | walk1)
      refine append_K F3 N2 (.tail n1 (.tail n2 (.head (fun q hq => nomatch hq)))) (fun h4 F4 N4 => ?_) (by simp only [List.size_toArray, sizeLine_eq]; omega)
      rw [push_list] at N4
      refine ⟨rfl, _, _, _, [(I, oI), (D, _)], rfl, F4, N4, ?_, ?_, _, _, rfl, ?_⟩
      · intro p hp
        rcases List.mem_cons.mp hp with e | hp
        · rw [e]; exact hoff (I, oI) (.head _)
        · rw [List.mem_singleton.mp hp]; exact n1.symm
      · rfl
      · rw [← Nat.add_assoc, List.take_add_one]
        rw [deep_get hc1 hc2]
        exact StrsAre.append' hys2 (.cons _ _ .nil)
    · rintro h3 tk3 m3 news3 F3 N3 ⟨hw, ys2, k2, rfl, hys2⟩
      exact ⟨rfl, rfl, _, _, _, ys2, k2, rfl, F3, N3, hys2⟩
  · rintro D h3 tk3 ys k k3 hD hne hget hys
    have hys' : StrsAre ys deepS := by
      have e : deepS.take (3 * (Str.ofString "ugo").cps.size) = deepS := by decide +kernel
      rwa [e] at hys
    have F3 := F'.keeps k3
    have N3 := news_comp F' N' k3 hD hget
    clear F' N'
    k_steps
    refine compEvalG (cl := _) rfl (by decide) rfl (by decide) ?_
    iterate 7 walk1
    rename IsRange _ _ _ _ _ _ _ _ => hR
    rename Fr _ _ _ _ => F5
    rename News _ _ _ _ => N5
    rename (Obj.data _ = Data.cell (some (Value.ref D))) => hcd
    have g1 := N5.get (.tail _ (.head _))
    have g2 := N5.get (.tail _ (.tail _ (.head _)))
    have g3 := N5.isList (.head _)
    have hl5 := hl.at fun o e => F5.keep _ _ e
    refine compRange (n := 9) hR (by decide +kernel) (by decide +kernel) hh (fun I C D => turn_11 _ _ _ _ _ _ _ _ _) (fun C => rfl) rfl (fun i zs => IntsAre zs (termS ns i)) .nil ?_ ?_
    · rintro I C D2 i t zs k2 m₁ h₁ tk₁ oI E' hID hDC hi hzs F6 N6
      have F7 := fr_overA [(Str.ofString "k", .int i t)] F6 ⟨set_eq, trivial⟩
      clear F6 F5 N5
      refine mid_if ?_
      dsimp only at F7 N6
      iterate 4 (first | refine nm_own F7 (by with_unfolding_all rfl) ?_ | refine nm_cell F7 (by with_unfolding_all rfl) g1 hcd ?_ | walk1)
      obtain ⟨dp, hdp⟩ : ∃ d, deepS[i]? = some d := ⟨_, List.getElem?_eq_getElem (show i < deepS.length from hi)⟩
      obtain ⟨td, htd⟩ := hys'.get i dp hdp
      refine item_in (g3.at fun o e => F7.keep _ _ e) (Int.natCast_nonneg _) (by omega) (by rw [Int.toNat_natCast]; exact htd) ?_ (by with_unfolding_all rfl)
      refine nm_cell F7 (by with_unfolding_all rfl) g2 hcn ?_
      refine in_list_strs (hl5.at fun o e => F7.keep _ _ e) hns ?_
      iterate 2 walk1
      · have ha : hasDeep ns i = true := by unfold hasDeep; rw [hdp]; assumption
        have nd : I ≠ D2 := Nat.ne_of_lt hID
        have lz : zs.length ≤ 9 := by rw [hzs.length]; exact Nat.le_trans (termS_len ns i) (Nat.le_of_lt hi)
        iterate 7 (first | refine nm_own F7 (by with_unfolding_all rfl) ?_ | walk1)
        refine append_K F7 N6 (.tail nd (.head (fun q hq => nomatch hq))) (fun h8 F8 N8 => ?_) (by simp only [List.size_toArray, sizeLine_eq]; omega)
        rw [push_list] at N8
        refine ⟨rfl, _, _, _, _, _, rfl, F8, N8, ?_⟩
        rw [termS_succ, ha, if_pos rfl, show (8 - (i : Int)).toNat = 8 - i from by omega]
        exact intsAre_append hzs (.cons _ _ .nil)
      · have ha : hasDeep ns i = false := by unfold hasDeep; rw [hdp]; assumption
        refine ⟨rfl, _, _, _, _, _, rfl, F7, N6, ?_⟩
        rw [termS_succ, ha, if_neg (by decide), List.append_nil]
        exact hzs
    · rintro D4 h4 tk4 zs k4 kk hD4 hne4 hget4 hzs
      have F8 := F5.keeps kk
      have N8 := news_comp F5 N5 kk hD4 hget4
      clear F5 N5
      iterate 1 walk1
      refine LSm.sum_ints F8 N8 hh (N8.isList (.head _)) hzs (fun h9 tk9 t9 F9 N9 => ?_)
      clear F8 N8
      k_steps
      refine filemode_spec G (stays_trans st F9.keep) hroom hh (fun h10 tk10 t10 k10 => ?_)
      show Q _ _
      exact ret _ _ _ (stays_trans F9.keep k10)
end Mine

end
section
open PySem PySem.W PySem.Calls PyProof.Rows PyProof.Rows.TI
namespace Mine
/- the entry's dict -/
inductive EntD (o : Obj) (rl : Addr) : Prop
  | mk (u : Addr) (h1 : Int) (t1 : Tok) (h2 : Int) (t2 : Tok) (h3 : Int) (t3 : Tok) (h4 : Int) (t4 : Tok) (n : Nat) (e : o = dictOf [⟨h1, .str (Str.ofString "useragents") t1, .ref u⟩, ⟨h2, .str (Str.ofString "rulelines") t2, .ref rl⟩, ⟨h3, .str (Str.ofString "delay") t3, .none⟩, ⟨h4, .str (Str.ofString "req_rate") t4, .none⟩] n)
theorem EntD.entry {h : Heap} {e d rl : Addr} {o : Obj} (x : EntD o rl) (h1 : h.get? e = some (instObj 106 d)) (h2 : h.get? d = some o) : EntryAt h e rl := by
  obtain ⟨u, a1, t1, a2, t2, a3, t3, a4, t4, n, rfl⟩ := x
  exact ⟨d, u, a1, t1, a2, t2, a3, t3, a4, t4, n, h1, h2⟩
theorem unhideL {h : Heap} {l : List Addr} {x : Addr} (e : (hideAll h l).get? x = none) (n : x ∉ l) : h.get? x = none := by
  cases q : h.get? x with
  | none => rfl
  | some o => have := hideAll_get l q n; rw [e] at this; cases this
theorem init_spec {w : World} {mean : ExcName → Option Value} {mg mb : Str → Option Value} {A : Around} {g : Heap}
  {s : Shared} {x dx : Addr} {R : Result → Shared → Prop}
  (G : Gr w mean mg mb g) (st : g.StaysIn s.heap) (hroom : A.depth < recursionLimit) (hx : s.heap.get? x = some (instObj 106 dx)) (hdx : s.heap.get? dx = some (dictOf [] 0)) (hne : x ≠ dx) (gx : g.get? x = none) (gd : g.get? dx = none)
  (ret : ∀ h' tk od rl, (∀ b o, b ≠ dx → s.heap.get? b = some o → h'.get? b = some o) → h'.get? dx = some od → EntD od rl → h'.get? rl = some (listOf #[] 0) → s.heap.get? rl = none → R (.ok (.ret .none)) { s with heap := h', toks := tk }) :
  codeAny (model PySem.Challenge.rw_nq0100_01.row.prog w) A (.call (.ref 82) ⟨[.ref x], []⟩) R s := by
  have X := G.X.keeps st
  have T := G.T.keeps st
  revert X; k_fill; intro X
  k_dflt (refine' enterH (hid := [(x, instObj 106 dx), (dx, dictOf [] 0)]) (binds := [(Str.ofString "self", .ref x)]) ?hh X T ?k6 ?k7 hroom ?k9 ?kB ?_ ?c2 ?c3 ?c4 ?c5; (case k6 => k_is); (case k7 => k_is); (case k9 => exact BindsTo.of_eq rfl); (case kB => exact locs rfl); (case c2 => exact rfl); (case c3 => exact rfl); (case c4 => exact rfl); (case c5 => decide))
  · intro q hq
    rcases List.mem_cons.mp hq with rfl | hq
    · exact hx
    · rw [List.mem_singleton.mp hq]; exact hdx
  clear X T
  intro L' h' hL F' N' lt
  simp only [List.map_cons, List.map_nil] at F' N'
  have sth : g.StaysIn (hideAll s.heap [x, dx]) := stays_hideL st (fun a ha => by
    rcases List.mem_cons.mp ha with rfl | ha
    · exact gx
    · rw [List.mem_singleton.mp ha]; exact gd)
  have X := G.X.keeps sth
  have T := G.T.keeps sth
  k_lt lt
  (try dsimp only)
  (try k_unmd); k_fold
  k_steps
  rename Fr _ _ _ _ => F1
  rename News _ _ _ _ => N1
  have hrl := N1 _ (.head _)
  refine ret _ _ _ _ (fun b o hb e => ?_) (N1.get (.tail _ (.tail _ (.tail _ (.head _))))) ⟨_, _, _, _, _, _, _, _, _, _, rfl⟩ hrl.1 (unhideL hrl.2.2 ?_)
  · by_cases q : b = x
    · rw [q, hx] at e; rw [q]; cases e; exact N1.get (.tail _ (.tail _ (.head _)))
    · exact F1.keep _ _ (hideAll_get _ e (by simp [q, hb]))
  · intro hm
    rcases List.mem_cons.mp hm with e | hm
    · exact absurd e (neN (by omega))
    · exact absurd (List.mem_singleton.mp hm) (neN (by omega))
end Mine

end
section
open PySem PySem.W PySem.Calls PyProof.Rows PyProof.Rows.TI
namespace Mine
theorem filter_step {α : Type} (p : α → Bool) (l : List α) (i : Nat) (v : α) (h : l[i]? = some v) : (l.take (i + 1)).filter p = (l.take i).filter p ++ (if p v then [v] else []) := by
  rw [List.take_add_one, h, List.filter_append]
  cases hp : p v <;> simp [hp]
/- a comprehension bound to a local name at once -/
theorem compAssign {prog : Program} {w : World} {A : Around} {E : Value → Shared → Prop} {s : Shared} {env : Env} {target elt iter : PySem.Expr} {ifs : List PySem.Expr} {gs : List Comprehension} {scope : Scope} {cl : List (Str × Addr)} {pos py spos : Pos} {y : Str} {m : Str → Option Value} {Q : Flow → Shared → Prop} (Jn : List Value → Prop)
    (hsw : swapsWith (.ListComp elt (⟨target, iter, ifs, 0⟩ :: gs) scope pos) (some (.Name y py)) spos.line env = pure true)
    (hclos : closureFor scope env = pure cl) (hcell : ∀ y ∈ scope.names, y.2 ≠ .cell) (hkind : scope.kind = .function)
    (hnames : ∀ y ∈ scope.names, y.2 = .local → scope.names.lookup y.1 = some .local)
    (hy : env.kindOf y = some .local) (hp : (env.scope.kind == .class || (env.scope.kind == .module && env.locals != env.globals)) = false)
    (h : wpAny (model prog w) A (eval iter env) (fun xv s₁ => wpAny (model prog w) A (pyIter xv) (fun it s₂ => s.heap.StaysIn s₂.heap ∧ CompGo prog w A env elt (⟨target, iter, ifs, 0⟩ :: gs) scope cl pos
      (fun v s'' => ∃ D ys k h' tk, v = .ref D ∧ s'' = { s with heap := h', toks := tk } ∧ s.heap.StaysIn h' ∧ s.heap.get? D = none ∧ h'.get? D = some (listOf (List.toArray ys) k) ∧ Jn ys) it s₂) E s₁) E s)
    (hn : s.heap.Ns env.locals m)
    (ret : ∀ D h' tk ys k, (∀ b o, b ≠ env.locals → s.heap.get? b = some o → h'.get? b = some o) → h'.Ns env.locals (fun z => if z = y then some (.ref D) else m z) → s.heap.get? D = none → h'.get? D = some (listOf (List.toArray ys) k) → Jn ys → Q .next { s with heap := h', toks := tk })
    (hs : ∀ x, foldedSetIterable iter env x = pure x := by intro _; rfl) :
    wpAny (model prog w) A (exec (.Assign [.Name y py] (.ListComp elt (⟨target, iter, ifs, 0⟩ :: gs) scope pos) spos) env) Q E s := by
  rw [exec_Assign_Name_used _ _ _ _ hsw]
  refine wpAny_bind (wpAny_standAt (wpAny_bind ?_))
  show wpAny _ A (do let _ ← comprehension (.ListComp elt (⟨target, iter, ifs, 0⟩ :: gs) scope pos) scope env _ (newList []) false (eval iter env) (some (assign (.Name y py) env))) _ _ s
  refine wpAny_bind (wpAny_mono (wpAny_comprehension_free (use := some (assign (.Name y py) env)) (Q := fun _ s' => Q .next s') rfl hs hclos hkind hnames
    (wpAny_mono h (fun xv s₁ h₁ => wpAny_mono h₁ (fun it s₂ h₂ => ?_) fun _ _ e => e) fun _ _ e => e)) (fun _ s' hq => wpAny_pure (wpAny_pure hq)) fun _ _ e => e)
  obtain ⟨hss, I, oI, h₀, rfl, hI, hst, hI0, hsz, hself, hgo⟩ := h₂
  refine wpAny_newObj_type (wpAny_newFunctionEnv hcell (by intro y hy; simp at hy) (fun h₁ hns₁ hsb₁ => ?_) hkind)
  dsimp only at hns₁ hsb₁ ⊢
  generalize hH2 : s₂.heap.push { cls := .type "list", dict := none, data := .seq ([] : List Value).toArray } = H2 at hns₁ hsb₁ ⊢
  have hC : H2.objs.size = s₂.heap.objs.size + 1 := by rw [← hH2, Heap.size_push]
  have below : ∀ b, b < s₂.heap.objs.size → b ≠ H2.objs.size ∧ b ≠ s₂.heap.objs.size := fun b hb => ⟨by rw [hC]; exact Nat.ne_of_lt (Nat.lt_succ_of_lt hb), Nat.ne_of_lt hb⟩
  have hDC : s₂.heap.objs.size ≠ H2.objs.size := by rw [hC]; exact Nat.ne_of_lt (Nat.lt_succ_self _)
  have old : s₂.heap.StaysIn h₁ := fun b o e => hsb₁.extBut b o (below b (Heap.lt_size e)).1 (Heap.get?_push_of_some _ (hH2 ▸ Heap.get?_push_of_some _ e))
  have hacc : h₁.get? s₂.heap.objs.size = some (listOf #[] 0) := hsb₁.extBut _ _ hDC (Heap.get?_push_of_some _ (hH2 ▸ Heap.get?_push_size _ rfl))
  have hIlt := Heap.lt_size hI
  have fresh₀ : ∀ a, s₂.heap.objs.size ≤ a → h₀.get? a = none := fun a ha => by
    cases e : h₀.get? a with
    | none => rfl
    | some o' => exact absurd (Heap.lt_size (hst a o' e)) (Nat.not_lt.mpr ha)
  have loop := hgo H2.objs.size s₂.heap.objs.size h₁ (s₂.toks + ([] : List (Str × Value)).length) hDC.symm (below I hIlt).1.symm (below I hIlt).2.symm hIlt (by rw [hC]; exact Nat.lt_succ_self _) old
    ⟨hns₁, stays_trans hst old, Nat.le_trans hsz (by rw [hC]; exact Nat.le_succ _)⟩ (fun p hp => by
      rcases List.mem_cons.mp hp with e | hp
      · rw [e]; exact ⟨old _ _ hI, (below I hIlt).1, hI0⟩
      · rw [List.mem_singleton.mp hp]; exact ⟨hacc, hDC, fresh₀ _ (Nat.le_refl _)⟩)
  refine compStartF (g := ⟨target, iter, ifs, 0⟩) rfl rfl (fun Q E hq => hself _ Q E old hq) (codeAny_mono loop fun r s' hr => ?_)
  obtain ⟨mC, rfl, hnC, hq⟩ := hr
  obtain ⟨D, ys, k, h', tk, eD, es, k', hD, hg, hJ⟩ := hq s'.heap (Heap.SameBut.refl ..)
  have hD' : D = s₂.heap.objs.size := by injection eD with e; exact e.symm
  obtain rfl : s' = { s with heap := h', toks := tk } := es
  have hC0 : s.heap.get? H2.objs.size = none := by
    cases e : s.heap.get? H2.objs.size with
    | none => rfl
    | some o' => exact absurd (Heap.lt_size (hss _ o' e)) (Nat.not_lt.mpr (by rw [hC]; exact Nat.le_succ _))
  have hLC : env.locals ≠ H2.objs.size := by intro q; obtain ⟨o, _, _, ho, _⟩ := hn; rw [q, hC0] at ho; cases ho
  have hLD : D ≠ env.locals := by intro q; obtain ⟨o, _, _, ho, _⟩ := hn; rw [← q, hD] at ho; cases ho
  show wpAny _ A (assign (.Name y py) env (.ref s₂.heap.objs.size)) _ _ _
  rw [← hD']
  refine wpAny_assign_Name (wpAny_storeName_local hy (hn.at' fun o e => k' _ o e) (fun h2 hn2 hs2 => ?_) hp)
  refine ⟨mC, hnC.at' fun o e => hs2.extBut _ _ hLC.symm e, fun h3 hs3 => ?_⟩
  replace hs3 : Heap.SameBut H2.objs.size h2 h3 := hs3
  exact ret D h3 _ ys k (fun b o hb e => hs3.extBut b o (fun q => by rw [q, hC0] at e; cases e) (hs2.extBut b o hb (k' b o e))) (hn2.at' fun o e => hs3.extBut _ _ hLC e) hD (hs3.extBut _ _ (fun q => hDC (hD' ▸ q)) (hs2.extBut _ _ hLD hg)) hJ
theorem allowAssign {w : World} {mean : ExcName → Option Value} {mg mb : Str → Option Value} {A : Around} {g : Heap}
  {s : Shared} {env : Env} {scope : Scope} {cl : List (Str × Addr)} {iter : PySem.Expr} {p1 p2 p4 p5 p6 p7 p8 : Pos} {nl ce e d rl : Addr} {oc od : Obj} {nv lv : List Value} {ns : List Str} {rs : List (Str × Bool)} {py spos : Pos} {y₀ : Str} {m : Str → Option Value} {Q : Flow → Shared → Prop} {E : Value → Shared → Prop}
  (hsw : swapsWith (.ListComp (.Name (Str.ofString "name") p1) [⟨.Name (Str.ofString "name") p2, iter, [.Call (.Attribute (.Name (Str.ofString "entry") p4) (Str.ofString "allowance") p5) [.Name (Str.ofString "name") p6] [] p7], 0⟩] scope p8) (some (.Name y₀ py)) spos.line env = pure true)
  (hy₀ : env.kindOf y₀ = some .local) (hp : (env.scope.kind == .class || (env.scope.kind == .module && env.locals != env.globals)) = false) (hnL : s.heap.Ns env.locals m)
  (G : Gr w mean mg mb g) (st : g.StaysIn s.heap) (hroom : A.depth + 1 < recursionLimit) (hh : A.handled = none)
  (hclos : closureFor scope env = pure cl) (hcell : ∀ y ∈ scope.names, y.2 ≠ .cell) (hkind : scope.kind = .function)
  (hnames : ∀ y ∈ scope.names, y.2 = .local → scope.names.lookup y.1 = some .local)
  (hkn : ∀ C, (compEnvC scope cl C env).kindOf (Str.ofString "name") = some .local) (hke : ∀ C, (compEnvC scope cl C env).kindOf (Str.ofString "entry") = some .cell)
  (hce : cl.lookup (Str.ofString "entry") = some ce) (hco : s.heap.get? ce = some oc) (hoc : oc.data = .cell (some (.ref e)))
  (he : s.heap.get? e = some (instObj 106 d)) (hd : s.heap.get? d = some od) (hE : EntD od rl) (hrl : s.heap.IsList rl lv.toArray) (hlv : Lines w s.heap lv rs)
  (hit : ∀ (Q E : Value → Shared → Prop), Q (.ref nl) s → wpAny (model PySem.Challenge.rw_nq0100_01.row.prog w) A (eval iter env) Q E s) (hnl : s.heap.IsList nl nv.toArray) (hns : StrsAre nv ns) (hlen : ns.length ≤ 1000)
  (hs : ∀ x, foldedSetIterable iter env x = pure x)
  (pl : Addr → Sem Bool) (hcall : ∀ C, eval (.Call (.Attribute (.Name (Str.ofString "entry") p4) (Str.ofString "allowance") p5) [.Name (Str.ofString "name") p6] [] p7) (compEnvC scope cl C env) = (do
      let ov ← eval (.Name (Str.ofString "entry") p4) (compEnvC scope cl C env)
      standAt p5.atName
      let (f, first) ← holding [ov] (getMethod ov (Str.ofString "allowance") (pl C))
      callWith p7 f first (backTo p7 (starEach [.Name (Str.ofString "name") p6] (compEnvC scope cl C env))) []))
  (ret : ∀ D h' tk ys k, (∀ b o, b ≠ env.locals → s.heap.get? b = some o → h'.get? b = some o) → h'.Ns env.locals (fun z => if z = y₀ then some (.ref D) else m z) → s.heap.get? D = none → h'.get? D = some (listOf (List.toArray ys) k) → StrsAre ys (ns.filter (allow rs)) → Q .next { s with heap := h', toks := tk }) :
  wpAny (model PySem.Challenge.rw_nq0100_01.row.prog w) A (exec (.Assign [.Name y₀ py] (.ListComp (.Name (Str.ofString "name") p1) [⟨.Name (Str.ofString "name") p2, iter, [.Call (.Attribute (.Name (Str.ofString "entry") p4) (Str.ofString "allowance") p5) [.Name (Str.ofString "name") p6] [] p7], 0⟩] scope p8) spos) env) Q E s := by
  have X := G.X.keeps st
  have T := G.T.keeps st
  revert X; k_fill; intro X
  refine compAssign (fun ys => StrsAre ys (ns.filter (allow rs))) hsw hclos hcell hkind hnames hy₀ hp (hit _ _ ?_) hnL ret hs
  refine compList hnl hh (fun I C D => turn_11 _ _ _ _ _ _ _ _ _) hkn hkind (fun i ys => StrsAre ys ((ns.take i).filter (allow rs))) .nil ?_ ?_
  · rintro I C D i v ys k m₁ h₁ tk₁ oI E' hID hDC hi hys F1 N1
    obtain ⟨y, ty, rfl, hy⟩ := hns.item i v hi
    have F2 := fr_overA [(Str.ofString "name", .str y ty)] F1 ⟨set_eq, trivial⟩
    clear F1
    have hsk : (compEnvC scope cl C env).scope.kind = .function := hkind
    refine mid_if ?_
    iterate 2 walk1
    refine MethodCall_ ?_ (hcall C)
    refine nm_cell F2 hce hco hoc ?_ hsk (hke C)
    obtain ⟨u, a1, t1, a2, t2, a3, t3, a4, t4, n, rfl⟩ := id hE
    k_dflt (refine' method_inst F2 X ⟨F2.keep _ _ he, rfl, rfl, F2.keep _ _ hd⟩ ?k4 ?k5 ?k6 ?k7 ?_; (case k4 => k_is); (case k5 => k_is); (case k6 => k_is); (case k7 => k_get); k_whole)
    iterate 2 walk1
    refine nm_own F2 (by with_unfolding_all rfl) ?_ hsk (hkn C)
    walk1
    refine ⟨X.keeps F2.keep, ?_⟩
    refine allowance_spec G (stays_trans st F2.keep) hroom hh ((EntD.entry hE he hd).keeps F2.keep) (hrl.at fun o e => F2.keep _ _ e) (hlv.keeps F2.keep) (fun h3 tk3 k3 => ?_)
    have F3 := F2.keeps k3
    have N3 := N1.grown k3
    clear F2 N1
    have nd : I ≠ D := Nat.ne_of_lt hID
    have ly : ys.length ≤ 1000 := by
      rw [hys.length]
      exact Nat.le_trans (List.length_filter_le _ _) (Nat.le_trans (by rw [List.length_take]; exact Nat.min_le_right _ _) hlen)
    iterate 2 walk1
    · rename (allow rs y = true) => ha
      refine nm_own F3 (by with_unfolding_all rfl) ?_ hsk (hkn C)
      refine append_K F3 N3 (.tail nd (.head (fun q hq => nomatch hq))) (fun h4 F4 N4 => ?_) (by simp only [List.size_toArray, sizeLine_eq]; omega)
      rw [push_list] at N4
      refine ⟨rfl, _, _, _, _, _, rfl, F4, N4, ?_⟩
      rw [filter_step _ _ _ _ hy, ha, if_pos rfl]
      exact StrsAre.append' hys (.cons _ _ .nil)
    · rename (allow rs y = false) => ha
      refine ⟨rfl, _, _, _, _, _, rfl, F3, N3, ?_⟩
      rw [filter_step _ _ _ _ hy, ha, if_neg (by decide), List.append_nil]
      exact hys
  · rintro D h' tk ys k st' hD _ hget hys
    rw [show nv.length = ns.length from hns.length, List.take_length] at hys
    exact ⟨D, ys, k, h', tk, rfl, rfl, st', hD, hget, hys⟩
end Mine

end
section
open PySem PySem.W PySem.Calls PyProof.Rows PyProof.Rows.TI
namespace Mine
theorem news_lt {h₀ h : Heap} {L a : Addr} {news : List (Addr × Obj)} (N : News h₀ L h news) (hf : h.get? a = none) : ∀ p ∈ news, p.1 ≠ a := fun p hp q => by
  have := (N p hp).1; rw [q, hf] at this; cases this
theorem of_sub {g h : Heap} {x : Addr} (st : g.StaysIn h) (e : h.get? x = none) : g.get? x = none := by
  cases q : g.get? x with
  | none => rfl
  | some o => have := st _ _ q; rw [e] at this; cases this
theorem fr_but1 {h₀ h h' : Heap} {L d : Addr} {m : Str → Option Value} (F : Fr h₀ L h m) (hd : d ≠ L) (h0 : h₀.get? d = none) (k : ∀ b o, b ≠ d → h.get? b = some o → h'.get? b = some o) : Fr h₀ L h' m :=
  ⟨F.ns.at' fun o e => k L o hd.symm e, fun b o e => k b o (fun q => by rw [q, h0] at e; cases e) (F.keep b o e), F.above⟩
theorem news_turn1 {h₀ h h' : Heap} {L x d rl : Addr} {m : Str → Option Value} {ox od od' orl : Obj} {news : List (Addr × Obj)} (F : Fr h₀ L h m) (N : News h₀ L h ((x, ox) :: (d, od) :: news)) (hn : ∀ p ∈ (x, ox) :: news, p.1 ≠ d)
    (k : ∀ b o, b ≠ d → h.get? b = some o → h'.get? b = some o) (hd : h'.get? d = some od') (hrl : h'.get? rl = some orl) (hf : h.get? rl = none) : News h₀ L h' ((rl, orl) :: (x, ox) :: (d, od') :: news) := by
  intro p hp
  rcases List.mem_cons.mp hp with e | hp
  · rw [e]
    refine ⟨hrl, fun q => ?_, of_sub F.keep hf⟩
    obtain ⟨oL, _, _, h2, _⟩ := F.ns; rw [← q, hf] at h2; cases h2
  rcases List.mem_cons.mp hp with e | hp
  · have := N _ (.head _); rw [e]; exact ⟨k _ _ (hn _ (.head _)) this.1, this.2⟩
  rcases List.mem_cons.mp hp with e | hp
  · have := N _ (.tail _ (.head _)); rw [e]; exact ⟨hd, this.2⟩
  · have := N _ (.tail _ (.tail _ hp)); exact ⟨k _ _ (hn _ (.tail _ hp)) this.1, this.2⟩
theorem list_hid2 {h : Heap} {ev : Env} {L2 a : Addr} {o2 : Obj} {its : Array Value} {ps : Array Value} (hl : h.IsList a its) (h1 : h.get? 119 = some (tabObj ps)) (h2 : h.get? L2 = some o2) (Fs : Frs [ev] [(L2, o2)]) : (hideAll h [119, L2]).IsList a its := by
  obtain ⟨o, ho, hc, n, hd⟩ := hl
  refine ⟨o, hideAll_get _ ho (fun hm => ?_), hc, n, hd⟩
  rcases List.mem_cons.mp hm with e | hm
  · rw [e, h1] at ho; cases ho; cases hd
  · rw [List.mem_singleton.mp hm, h2] at ho; cases ho
    obtain ⟨_, _, ⟨es, ep, q⟩, _⟩ := Fs
    rw [hd] at q; cases q
theorem fr_bound {h₀ h h' : Heap} {L : Addr} {m m' : Str → Option Value} (F : Fr h₀ L h m) (k : ∀ b o, b ≠ L → h.get? b = some o → h'.get? b = some o) (hn : h'.Ns L m') : Fr h₀ L h' m' :=
  ⟨hn, fun b o e => k b o (fun q => absurd (Nat.lt_of_lt_of_le (Heap.lt_size e) F.above) (q ▸ Nat.lt_irrefl _)) (F.keep b o e), F.above⟩
theorem news_bound {h₀ h h' : Heap} {L D : Addr} {m : Str → Option Value} {o : Obj} {news : List (Addr × Obj)} (F : Fr h₀ L h m) (N : News h₀ L h news) (k : ∀ b o, b ≠ L → h.get? b = some o → h'.get? b = some o) (hD : h.get? D = none) (hg : h'.get? D = some o) : News h₀ L h' ((D, o) :: news) := fun p hp => by
  rcases List.mem_cons.mp hp with e | hp
  · rw [e]
    refine ⟨hg, fun q => ?_, of_sub F.keep hD⟩
    obtain ⟨oL, _, _, h2, _⟩ := F.ns; rw [← q, hD] at h2; cases h2
  · exact ⟨k _ _ (N p hp).2.1 (N p hp).1, (N p hp).2⟩
theorem news_line {base h h' : Heap} {L : Addr} {m : Str → Option Value} {pre imm imm₁ : List (Addr × Obj)} {t t₁ : Obj} {q : Addr × Obj} (F : Fr base L h m) (N : News base L h (pre ++ (119, t) :: q :: imm))
    (hne : ∀ p ∈ pre, p.1 ≠ 119) (hq : q.1 ≠ 119) (hi : ∀ p ∈ imm, p.1 ≠ 119)
    (k : ∀ x o, x ≠ 119 → h.get? x = some o → h'.get? x = some o) (h119 : h'.get? 119 = some t₁) (im : ImmAt h' h imm₁) : News base L h' (pre ++ (119, t₁) :: q :: (imm₁ ++ imm)) := by
  intro p hp
  rcases List.mem_append.mp hp with hp | hp
  · have z := N p (List.mem_append_left _ hp); exact ⟨k _ _ (hne p hp) z.1, z.2⟩
  rcases List.mem_cons.mp hp with e | hp
  · have z := N (119, t) (List.mem_append_right _ (.head _)); rw [e]; exact ⟨h119, z.2⟩
  rcases List.mem_cons.mp hp with e | hp
  · have z := N q (List.mem_append_right _ (.tail _ (.head _))); rw [e]; exact ⟨k _ _ hq z.1, z.2⟩
  rcases List.mem_append.mp hp with hp | hp
  · have z := im.mem p hp
    refine ⟨z.1, fun e => ?_, of_sub F.keep z.2⟩
    obtain ⟨oL, _, _, h2, _⟩ := F.ns; rw [← e, z.2] at h2; cases h2
  · have z := N p (List.mem_append_right _ (.tail _ (.tail _ hp))); exact ⟨k _ _ (hi p hp) z.1, z.2⟩
theorem imm_apart {base h h' : Heap} {L a : Addr} {o : Obj} {news imm₁ : List (Addr × Obj)} (N : News base L h news) (im : ImmAt h' h imm₁) (hm : (a, o) ∈ news) : ∀ p ∈ imm₁, p.1 ≠ a := fun p hp q => by
  have := (im.mem p hp).2; rw [q, (N _ hm).1] at this; cases this
theorem ap_nil {d : Addr} : ∀ q ∈ ([] : List (Addr × Obj)), q.1 ≠ d := fun q hq => nomatch hq
theorem ap_cons {d : Addr} {p : Addr × Obj} {r : List (Addr × Obj)} (h : p.1 ≠ d) (k : ∀ q ∈ r, q.1 ≠ d) : ∀ q ∈ p :: r, q.1 ≠ d := fun q hq => by
  rcases List.mem_cons.mp hq with e | hq
  · rw [e]; exact h
  · exact k q hq
theorem ap_app {d : Addr} {r r' : List (Addr × Obj)} (h : ∀ q ∈ r, q.1 ≠ d) (k : ∀ q ∈ r', q.1 ≠ d) : ∀ q ∈ r ++ r', q.1 ≠ d := fun q hq => by
  rcases List.mem_append.mp hq with hq | hq
  · exact h q hq
  · exact k q hq
section
variable {α : Type} {a0 a1 a2 a3 a4 a5 a6 a7 a8 a9 a10 a11 a12 a13 : α} {l : List α}
theorem mem1 : a1 ∈ a0 :: a1 :: l := .tail _ (.head _)
theorem mem2 : a2 ∈ a0 :: a1 :: a2 :: l := .tail _ mem1
theorem mem3 : a3 ∈ a0 :: a1 :: a2 :: a3 :: l := .tail _ mem2
theorem mem4 : a4 ∈ a0 :: a1 :: a2 :: a3 :: a4 :: l := .tail _ mem3
theorem mem5 : a5 ∈ a0 :: a1 :: a2 :: a3 :: a4 :: a5 :: l := .tail _ mem4
theorem mem6 : a6 ∈ a0 :: a1 :: a2 :: a3 :: a4 :: a5 :: a6 :: l := .tail _ mem5
theorem mem7 : a7 ∈ a0 :: a1 :: a2 :: a3 :: a4 :: a5 :: a6 :: a7 :: l := .tail _ mem6
theorem mem8 : a8 ∈ a0 :: a1 :: a2 :: a3 :: a4 :: a5 :: a6 :: a7 :: a8 :: l := .tail _ mem7
theorem mem9 : a9 ∈ a0 :: a1 :: a2 :: a3 :: a4 :: a5 :: a6 :: a7 :: a8 :: a9 :: l := .tail _ mem8
theorem mem10 : a10 ∈ a0 :: a1 :: a2 :: a3 :: a4 :: a5 :: a6 :: a7 :: a8 :: a9 :: a10 :: l := .tail _ mem9
theorem mem11 : a11 ∈ a0 :: a1 :: a2 :: a3 :: a4 :: a5 :: a6 :: a7 :: a8 :: a9 :: a10 :: a11 :: l := .tail _ mem10
theorem mem12 : a12 ∈ a0 :: a1 :: a2 :: a3 :: a4 :: a5 :: a6 :: a7 :: a8 :: a9 :: a10 :: a11 :: a12 :: l := .tail _ mem11
theorem mem13 : a13 ∈ a0 :: a1 :: a2 :: a3 :: a4 :: a5 :: a6 :: a7 :: a8 :: a9 :: a10 :: a11 :: a12 :: a13 :: l := .tail _ mem12
theorem memT9 {p : α} (h : p ∈ l) : p ∈ a0 :: a1 :: a2 :: a3 :: a4 :: a5 :: a6 :: a7 :: a8 :: l := .tail _ (.tail _ (.tail _ (.tail _ (.tail _ (.tail _ (.tail _ (.tail _ (.tail _ h))))))))
theorem memT14 {p : α} (h : p ∈ l) : p ∈ a0 :: a1 :: a2 :: a3 :: a4 :: a5 :: a6 :: a7 :: a8 :: a9 :: a10 :: a11 :: a12 :: a13 :: l := .tail _ (.tail _ (.tail _ (.tail _ (.tail _ (memT9 h)))))
end
theorem news_cons {base h : Heap} {L : Addr} {p : Addr × Obj} {r : List (Addr × Obj)} (a : h.get? p.1 = some p.2 ∧ p.1 ≠ L ∧ base.get? p.1 = none) (b : News base L h r) : News base L h (p :: r) := fun q hq => by
  rcases List.mem_cons.mp hq with e | hq
  · rw [e]; exact a
  · exact b q hq
theorem strs_dat {news : List (Addr × Obj)} {vs : List Value} {xs : List Str} (x : StrsAre vs xs) : DatAll news vs (xs.map Dat.str) := by
  induction x with
  | nil => exact .nil
  | cons _ _ _ ih => exact .cons (.str _ _) ih
theorem take_snoc {α : Type} {l : List α} {i : Nat} {x : α} (h : l[i]? = some x) : l.take (i + 1) = l.take i ++ [x] := by rw [List.take_add_one, h]; rfl
/- two frames' slots turned, three objects made -/
theorem news_diff {base h h' : Heap} {L a l1 l2 L2 : Addr} {m : Str → Option Value} {o2 oa ol1 ol2 : Obj} {sl sl' : Array (Option Value)} {pre post : List (Addr × Obj)} (F : Fr base L h m) (N : News base L h (pre ++ (L2, { o2 with slots := sl }) :: post))
    (hp : ∀ p ∈ pre, p.1 ≠ L2) (hq : ∀ p ∈ post, p.1 ≠ L2) (k : ∀ b o, b ≠ L → b ≠ L2 → h.get? b = some o → h'.get? b = some o) (h2 : h'.get? L2 = some { o2 with slots := sl' })
    (ha : h'.get? a = some oa) (h1 : h'.get? l1 = some ol1) (h1' : h'.get? l2 = some ol2) (na : h.get? a = none) (n1 : h.get? l1 = none) (n2 : h.get? l2 = none) :
    News base L h' ((a, oa) :: (l1, ol1) :: (l2, ol2) :: (pre ++ (L2, { o2 with slots := sl' }) :: post)) := by
  have nw : ∀ b o, h'.get? b = some o → h.get? b = none → h'.get? b = some o ∧ b ≠ L ∧ base.get? b = none := by
    intro b o e n
    refine ⟨e, fun q => ?_, of_sub F.keep n⟩
    obtain ⟨oL, _, _, z, _⟩ := F.ns; rw [← q, n] at z; cases z
  intro p hm
  rcases List.mem_cons.mp hm with e | hm
  · rw [e]; exact nw _ _ ha na
  rcases List.mem_cons.mp hm with e | hm
  · rw [e]; exact nw _ _ h1 n1
  rcases List.mem_cons.mp hm with e | hm
  · rw [e]; exact nw _ _ h1' n2
  rcases List.mem_append.mp hm with hm | hm
  · have z := N p (List.mem_append_left _ hm); exact ⟨k _ _ z.2.1 (hp p hm) z.1, z.2⟩
  rcases List.mem_cons.mp hm with e | hm
  · have z := N (L2, _) (List.mem_append_right _ (.head _)); rw [e]; exact ⟨h2, z.2⟩
  · have z := N p (List.mem_append_right _ (.tail _ hm)); exact ⟨k _ _ z.2.1 (hq p hm) z.1, z.2⟩
theorem fr_slots {base h h' : Heap} {L L2 : Addr} {m : Str → Option Value} {oL : Obj} {sl : Array (Option Value)} (F : Fr base L h m) (hoL : h.get? L = some oL) (b2 : base.get? L2 = none) (k : ∀ b o, b ≠ L → b ≠ L2 → h.get? b = some o → h'.get? b = some o) (hL : h'.get? L = some { oL with slots := sl }) : Fr base L h' m := by
  obtain ⟨o, es, ep, h1, h2, h3⟩ := F.ns
  rw [hoL] at h1; cases h1
  refine ⟨⟨_, es, ep, hL, h2, h3⟩, fun b o e => ?_, F.above⟩
  exact k b o (fun q => absurd (Nat.lt_of_lt_of_le (Heap.lt_size e) F.above) (q ▸ Nat.lt_irrefl _)) (fun q => by rw [q, b2] at e; cases e) (F.keep b o e)
noncomputable def strsD (xs : List Str) : Dat := .list (xs.map .str)
noncomputable def allowed (ns : List Str) (rs : List (Str × Bool)) : List Str := ns.filter (allow rs)
noncomputable def toldD (ns : List Str) (rs : List (Str × Bool)) (i : Nat) : Dat :=
  .tuple [strsD (dif (allowed ns (rs.take i)) (allowed ns (rs.take (i + 1)))).1, strsD (dif (allowed ns (rs.take i)) (allowed ns (rs.take (i + 1)))).2, .str (signsOf (allowed ns (rs.take (i + 1))))]
noncomputable def LinesOf (w : World) (g : Heap) (imm : List (Addr × Obj)) (lv : List Value) (rs : List (Str × Bool)) : Prop :=
  lv.length = rs.length ∧ ∀ (i : Nat) v, lv[i]? = some v → ∃ (a : Addr) (r : Str × Bool), v = Value.ref a ∧ rs[i]? = some r ∧ LineOf w g imm a r.1 r.2
theorem LinesOf.at {w : World} {g h : Heap} {imm : List (Addr × Obj)} {lv : List Value} {rs : List (Str × Bool)} (x : LinesOf w g imm lv rs) (st : g.StaysIn h) (k : ∀ p ∈ imm, h.get? p.1 = some p.2) : Lines w h lv rs :=
  ⟨x.1, fun i v e => (x.2 i v e).imp fun _ => .imp fun _ q => ⟨q.1, q.2.1, q.2.2 h st k⟩⟩
theorem LinesOf.snoc {w : World} {g : Heap} {imm imm' : List (Addr × Obj)} {lv : List Value} {rs : List (Str × Bool)} {a : Addr} {r : Str × Bool} (x : LinesOf w g imm lv rs) (k : ∀ p ∈ imm, p ∈ imm') (y : LineOf w g imm' a r.1 r.2) : LinesOf w g imm' (lv ++ [.ref a]) (rs ++ [r]) := by
  refine ⟨by simp [x.1], fun i v e => ?_⟩
  rcases Nat.lt_or_ge i lv.length with h | h
  · rw [List.getElem?_append_left h] at e
    obtain ⟨a', r', e1, e2, e3⟩ := x.2 i v e
    exact ⟨a', r', e1, by rw [List.getElem?_append_left (x.1 ▸ h)]; exact e2, e3.more k⟩
  · rw [List.getElem?_append_right h] at e
    have hi : i - lv.length = 0 := by
      rcases Nat.eq_zero_or_pos (i - lv.length) with q | q
      · exact q
      · rw [List.getElem?_eq_none (show [Value.ref a].length ≤ i - lv.length from q)] at e; cases e
    rw [hi] at e
    refine ⟨a, r, by simpa using e.symm, ?_, y⟩
    rw [List.getElem?_append_right (x.1 ▸ h), ← x.1, hi]; rfl
theorem LinesOf.more {w : World} {g : Heap} {imm imm' : List (Addr × Obj)} {lv : List Value} {rs : List (Str × Bool)} (x : LinesOf w g imm lv rs) (k : ∀ p ∈ imm, p ∈ imm') : LinesOf w g imm' lv rs :=
  ⟨x.1, fun i v e => (x.2 i v e).imp fun _ => .imp fun _ q => ⟨q.1, q.2.1, q.2.2.more k⟩⟩
set_option genSizeOf false in
set_option genInjectivity false in
structure TC where
  (nl rl1 x dx ce tl L2 : Addr) (od oc o2 : Obj)
/- the loop's state -/
inductive TJ (w : World) (g : Heap) (c : TC) (ns : List Str) (rs : List (Str × Bool)) (i : Nat) (m : Str → Option Value) (news : List (Addr × Obj)) : Prop
  | mk (al : Addr) (av : List Value) (ka : Nat) (tv : List Value) (kt : Nat) (lv : List Value) (kl : Nat) (t : Obj) (sl : Array (Option Value)) (imm : List (Addr × Obj)) (okm : AllIs m [(Str.ofString "names", Value.ref c.nl), (Str.ofString "allowed", Value.ref al), (Str.ofString "told", Value.ref c.tl)])
    (e : news = (c.tl, listOf (List.toArray tv) kt) :: (al, listOf (List.toArray av) ka) :: (c.rl1, listOf (List.toArray lv) kl) :: (c.x, instObj 106 c.dx) :: (c.dx, c.od) :: (c.ce, c.oc) :: (119, t) :: (c.L2, { c.o2 with slots := sl }) :: imm)
    (ha : StrsAre av (allowed ns (rs.take i))) (hl : LinesOf w g imm lv (rs.take i)) (ht : TabIs t imm) (hd : DatAll imm tv ((List.range i).map (toldD ns rs))) (a1 : al ≠ c.tl) (a2 : al ≠ c.rl1) (a3 : al ≠ 119) (a4 : al ≠ c.L2) (off : ∀ p ∈ imm, p.1 ≠ c.tl ∧ p.1 ≠ c.rl1 ∧ p.1 ≠ 119 ∧ p.1 ≠ c.L2)
end Mine

end
section
open PySem PySem.W PySem.Calls PyProof.Rows PyProof.Rows.TI
namespace Mine
theorem told_spec {w : World} {mean : ExcName → Option Value} {mg mb : Str → Option Value} {A : Around} {g : Heap}
  {s : Shared} {rl nl : Addr} {rv nv : List Value} {ps : List (Value × Value)} {rs : List (Str × Bool)} {ns : List Str} {ev2 : Env} {L2 : Addr} {o2 : Obj} {Q E : Value → Shared → Prop}
  (G : Gr w mean mg mb g) (st : g.StaysIn s.heap) (hroom : A.depth + 3 < recursionLimit) (hh : A.handled = none) (hA : A.frames = some [ev2])
  (Fs : Frs [ev2] [(L2, o2)]) (h2 : s.heap.get? L2 = some o2) (g2 : g.get? L2 = none) (h119 : s.heap.get? 119 = some (tabObj #[])) (n2 : L2 ≠ 119)
  (hl : s.heap.IsList nl nv.toArray) (hns : StrsAre nv ns) (hlen : ns.length ≤ 1000) (hsr : ns.Pairwise (fun a b => a.cps.toList < b.cps.toList))
  (hr : s.heap.IsList rl rv.toArray) (hpr : PairsAt (hideAll s.heap [119, L2]) rv ps) (hpl : ps.length = rs.length) (hpa : ∀ (i : Nat) (r : Str × Bool), rs[i]? = some r → ∃ t, ps[i]? = some (Value.str r.1 t, Value.bool r.2)) (hfl : ∀ r ∈ rs, r.1.length ≤ 64) (hrn : rs.length ≤ 1000)
  (ret : ∀ h' tk a tv n tp imm sl, (∀ b o, b ≠ 119 → b ≠ L2 → s.heap.get? b = some o → h'.get? b = some o) → h'.get? 119 = some (tabObj tp) → h'.get? L2 = some { o2 with slots := sl } → h'.get? a = some (listOf (List.toArray tv) n) → s.heap.get? a = none →
    (∀ p ∈ imm, h'.get? p.1 = some p.2 ∧ s.heap.get? p.1 = none) → DatAll imm tv ((List.range rs.length).map (toldD ns rs)) → Q (.ref a) { s with heap := h', toks := tk }) :
  wpAny (model PySem.Challenge.rw_nq0100_01.row.prog w) A (call (.ref 134) [.ref rl, .ref nl]) Q E s := by
  have X := G.X.keeps st
  have T := G.T.keeps st
  revert X; k_fill; intro X
  refine wpAny_call ?_
  k_dflt (refine' enterC (hid := [(119, tabObj #[]), (L2, o2)]) (binds := [(Str.ofString "rules", .ref rl), (Str.ofString "names", .ref nl)]) ?hid X T ?k6 ?k7 (by omega) ?k9 ?kB ?kD ?_ ?c2 ?c3 ?c4; (case k6 => k_is); (case k7 => k_is); (case k9 => exact BindsTo.of_eq rfl); (case kB => exact rfl); (case kD => decide +kernel); (case c2 => exact rfl); (case c3 => exact rfl); (case c4 => exact rfl))
  case hid =>
    intro q hq
    rcases List.mem_cons.mp hq with rfl | hq
    · exact h119
    · rw [List.mem_singleton.mp hq]; exact h2
  clear X T
  intro L' h' tk' cells' hL F' N' Y' l1
  simp only [List.map_cons, List.map_nil] at F' N'
  have sth : g.StaysIn (hideAll s.heap [119, L2]) := stays_hideL st (fun a ha => by
    rcases List.mem_cons.mp ha with rfl | ha
    · exact G.n
    · rw [List.mem_singleton.mp ha]; exact g2)
  have hnb : (hideAll s.heap [119, L2]).IsList nl nv.toArray := list_hid2 hl h119 h2 Fs
  have hrb : (hideAll s.heap [119, L2]).IsList rl rv.toArray := list_hid2 hr h119 h2 Fs
  have X := G.X.keeps sth
  have T := G.T.keeps sth
  k_lt l1
  k_cells Y'
  rename_i oc dc
  dsimp only [List.cons_append, List.nil_append] at N'
  dsimp only
  (try k_unmd); k_fold
  k_steps
  dsimp only [List.nil_append]
  k_dflt (refine' call_cls F' X N' ?k4 ?k5 ?k6 ?_; (case k4 => k_is); (case k5 => k_is); (case k6 => k_is); k_whole)
  intro x dx h1 F1 N1 lt1 lt2
  clear F' N'
  have kx := N1 _ (.head _)
  have kd := N1 _ (.tail _ (.head _))
  refine init_spec G (stays_trans sth F1.keep) ?_ kx.1 kd.1 (Nat.ne_of_gt lt2) ?_ ?_ (fun h3 tk3 od rl1 keep3 hod hE hrl1 hrl1n => ?_)
  · show A.depth + 1 + 1 < recursionLimit; omega
  · exact of_sub sth kx.2.2
  · exact of_sub sth kd.2.2
  have frl := news_lt N1 hrl1n
  have F3 := fr_but1 F1 kd.2.1 kd.2.2 keep3
  have N3 := news_turn1 F1 N1 (fun p hp => by
    rcases List.mem_cons.mp hp with e | hp
    · rw [e]; exact Nat.ne_of_gt lt2
    · exact Nat.ne_of_lt (lt1 p hp)) keep3 hod hrl1 hrl1n
  have r1 : x ≠ rl1 := frl _ (.head _)
  have r2 : dx ≠ rl1 := frl _ (.tail _ (.head _))
  have r3 : L' + 1 ≠ rl1 := frl _ (.tail _ (.tail _ (.head _)))
  have r4 : 119 ≠ rl1 := frl _ (.tail _ (.tail _ (.tail _ (.head _))))
  have r5 : L2 ≠ rl1 := frl _ (.tail _ (.tail _ (.tail _ (.tail _ (.head _)))))
  clear F1 frl
  refine ⟨rfl, ?_⟩
  dsimp only
  k_lt lt1
  k_lt2 lt2
  k_steps
  rename Fr _ _ _ _ => F4
  rename News _ _ _ _ => N4
  rename (Obj.data _ = Data.cell (some (Value.ref x))) => hce
  refine allowAssign (lv := []) (rs := []) (nl := nl) (pl := fun C => _) (hcall := fun C => rfl) (hsw := rfl) (hy₀ := rfl) (hp := rfl) (hnL := F4.ns) G (stays_trans sth F4.keep) ?_ hh rfl (by decide) rfl (by decide) (fun C => rfl) (fun C => rfl) rfl (N4.get (by k_mem)) hce (N4.get (by k_mem)) (N4.get (by k_mem)) hE (N4.isList (by k_mem)) ⟨rfl, fun i v e => by simp at e⟩ ?_ ?_ hns hlen (by intro _; rfl) ?_
  · show A.depth + 1 + 1 < recursionLimit; omega
  · intro Q1 E1 hq
    walk1
    exact hq
  · exact (hnb.at fun o e => F4.keep _ _ e)
  rintro D h5 tk5 ys k5 keep5 hns5 hD5 hg5 hys5
  have F5 := fr_bound F4 keep5 hns5
  have N5 := news_bound F4 N4 keep5 hD5 hg5
  have d0 := news_lt N4 hD5
  clear F4 N4
  dsimp only
  iterate 6 walk1
  rename Fr _ _ _ _ => F6
  rename News _ _ _ _ => N6
  rename_i tl _ _ _
  have z1 := N6 _ (.head _)
  walk1
  refine For_turnsE F6 ?_
  walk1
  refine iter_listP (TJ w g ⟨nl, rl1, x, dx, L' + 1, tl, L2, od, _, o2⟩ ns rs) hh rfl rfl rfl hrb hpr F6 N6 ⟨D, ys, k5, [], 0, [], 0, tabObj #[], o2.slots, [], ⟨rfl, rfl, rfl, trivial⟩, rfl, hys5, ⟨rfl, fun i v e => by simp at e⟩, .inl rfl, .nil, ?n1, ?n2, ?n3, ?n4, fun p hp => nomatch hp⟩ ?_ ?_
  case n1 => show D ≠ tl; exact neN (by omega)
  case n2 => exact (d0 _ (.head _)).symm
  case n3 => exact (d0 (119, _) (by k_mem)).symm
  case n4 => exact (d0 (L2, _) (by k_mem)).symm
  · rintro i a b m₁ news₁ h7 tk7 I oI hab hoff ⟨al, av, ka, tv, kt, lv, kl, t, sl, imm, ok, rfl, hav, hlv, ht, htv, na1, na2, na3, na4, nim⟩ F7 N7
    clear F6 N6
    dsimp only at ok N7 na1 na2 na3 na4 nim
    obtain ⟨⟨front, free⟩, hri⟩ : ∃ r, rs[i]? = some r := by
      have hlt : i < ps.length := by
        rcases Nat.lt_or_ge i ps.length with h | h
        · exact h
        · rw [List.getElem?_eq_none h] at hab; cases hab
      exact ⟨_, List.getElem?_eq_getElem (hpl ▸ hlt)⟩
    obtain ⟨tf, hq⟩ := hpa i _ hri
    rw [hab] at hq
    obtain ⟨rfl, rfl⟩ := Prod.mk.inj (Option.some.inj hq)
    have hff : front.length ≤ 64 := hfl _ (List.mem_of_getElem? hri)
    have F8 := fr_overA [(Str.ofString "names", .ref nl), (Str.ofString "allowed", .ref al), (Str.ofString "told", .ref tl), (Str.ofString "front", .str front tf), (Str.ofString "free", .bool free)] F7
      ⟨set2_ne rfl rfl ok.1, set2_ne rfl rfl ok.2.1, set2_ne rfl rfl ok.2.2.1, set2_1 rfl, set2_2, trivial⟩
    clear F7
    dsimp only [List.cons_append, List.nil_append] at N7
    (try dsimp only)
    (try k_unmd); k_fold
    iterate 9 walk1
    rename Fr _ _ _ _ => F9
    rename News _ _ _ _ => N9
    have gx := N9.get mem4
    have gd := N9.get mem5
    have g119 := N9 _ mem7
    have g9 := fun (p : Addr × Obj) (hp : p ∈ imm) => N9 p (memT9 hp)
    obtain ⟨u, a1, t1, a2, t2, a3, t3, a4, t4, n, hod'⟩ := id hE
    rw [hod'] at gd
    k_dflt (refine' get_own F9 X ⟨gx, rfl, rfl, gd⟩ ?k4 ?k5 ?k6 ?k7 ?k8 ?k9 ?_; (case k4 => k_is); (case k5 => k_is); (case k6 => k_is); (case k7 => k_is); (case k8 => k_get); (case k9 => k_handed); k_whole)
    iterate 11 (walk1)
    refine ⟨X.keeps F9.keep, ?_⟩
    refine line_spec G (stays_trans sth F9.keep) ?_ g119.1 ht (fun p hp => (g9 p hp).1) hff (fun a h10 tk10 t10 im10 keep10 h119' im tabs10 line10 ha10 => ?_)
    · show A.depth + 1 < recursionLimit; omega
    have i0 := imm_apart N9 im (.head _)
    have i1 := imm_apart N9 im mem1
    have i2 := imm_apart N9 im mem3
    have i3 := imm_apart N9 im mem7
    have i4 := imm_apart N9 im mem8
    have i5 : ∀ p ∈ im10 ++ imm, p.1 ≠ tl ∧ p.1 ≠ rl1 ∧ p.1 ≠ 119 ∧ p.1 ≠ L2 := fun p hp => by
      rcases List.mem_append.mp hp with hp | hp
      · exact ⟨i1 p hp, i2 p hp, i3 p hp, i4 p hp⟩
      · exact nim p hp
    have w1 : I ≠ 119 := (hoff (119, t) mem6).symm
    have w2 : I ≠ rl1 := (hoff (rl1, _) mem2).symm
    have w3 : I ≠ tl := (hoff (tl, _) (.head _)).symm
    have w4 : I ≠ L2 := (hoff (L2, _) mem7).symm
    have w5 : rl1 ≠ tl := neN (by omega)
    have w6 : x ≠ tl := neN (by omega)
    have w7 : dx ≠ tl := neN (by omega)
    have w8 : L' + 1 ≠ tl := neN (by omega)
    have w9 : 119 ≠ tl := neN (by omega)
    have w10 : L2 ≠ tl := neN (by omega)
    have w11 : x ≠ 119 := neN (by omega)
    have w12 : dx ≠ 119 := neN (by omega)
    have w13 : L' + 1 ≠ 119 := neN (by omega)
    have w14 : x ≠ L2 := neN (by omega)
    have w15 : dx ≠ L2 := neN (by omega)
    have w16 : L' + 1 ≠ L2 := neN (by omega)
    have F10 := fr_but1 F9 g119.2.1 g119.2.2 keep10
    have N10 := news_line (pre := [(I, oI), (tl, _), (al, _), (rl1, _), (x, _), (dx, _), (L' + 1, _)]) F9 N9 (ap_cons w1 (ap_cons w9.symm (ap_cons na3 (ap_cons r4.symm (ap_cons w11 (ap_cons w12 (ap_cons w13 ap_nil))))))) n2 (fun p hp => (nim p hp).2.2.1) keep10 h119' im
    clear F9 N9
    walk1
    refine append_K F10 N10 (.tail w2 (.tail w5.symm (.tail na2 (.head (ap_cons r1 (ap_cons r2 (ap_cons r3 (ap_cons r4 (ap_cons r5 (fun p hp => (i5 p hp).2.1)))))))))) (fun h11 F11 N11 => ?_) ?hsz1
    case hsz1 =>
      simp only [List.size_toArray, sizeLine_eq]
      have := hlv.1
      rw [List.length_take] at this
      omega
    rw [push_list] at N11
    clear F10 N10
    dsimp only [List.append_eq, List.cons_append, List.nil_append] at N11
    iterate 2 walk1
    have im11 : ∀ p ∈ im10 ++ imm, h11.get? p.1 = some p.2 := fun p hp => (N11 p (memT9 hp)).1
    have hls : LinesOf w g (im10 ++ imm) (lv ++ [.ref a]) (rs.take (i + 1)) := by
      rw [take_snoc hri]
      exact LinesOf.snoc (r := (front, free)) hlv (fun p hp => List.mem_append_right _ hp) line10
    refine allowAssign (lv := lv ++ [.ref a]) (rs := rs.take (i + 1)) (nl := nl) (pl := fun C => _) (hcall := fun C => rfl) (hsw := rfl) (hy₀ := rfl) (hp := rfl) (hnL := F11.ns) G (stays_trans sth F11.keep) ?_ hh rfl (by decide) rfl (by decide) (fun C => rfl) (fun C => rfl) rfl (N11.get mem6) hce (N11.get mem4) (N11.get mem5) hE (N11.isList mem3) (hls.at (stays_trans sth F11.keep) im11) ?_ ?_ hns hlen (by intro _; rfl) ?_
    · show A.depth + 1 + 1 < recursionLimit; omega
    · intro Q1 E1 hq
      walk1
      exact hq
    · exact (hnb.at fun o e => F11.keep _ _ e)
    rintro D2 h12 tk12 ys12 k12 keep12 hns12 hD12 hg12 hys12
    have F12 := fr_bound F11 keep12 hns12
    have N12 := news_bound F11 N11 keep12 hD12 hg12
    have d12 := news_lt N11 hD12
    clear F11 N11
    dsimp only
    iterate 10 walk1
    refine ⟨X.keeps F12.keep, ?_⟩
    obtain ⟨oL, esL, epL, hoL, hdL, _⟩ := id F12.ns
    have gL2 := N12 _ mem9
    refine diff_spec (ev2 := ev2) (L1 := L') (o1 := oL) G (stays_trans sth F12.keep) ?_ hh (congrArg (Option.map (List.cons _)) hA) ?Fs hoL gL2.1 gL2.2.1.symm ?_ g2 (N12.isList mem3) hav (N12.isList (.head _)) hys12 (hsr.filter _) (hsr.filter _) (Nat.le_trans (List.length_filter_le _ _) hlen) (Nat.le_trans (List.length_filter_le _ _) hlen) ?_
    · show A.depth + 1 < recursionLimit; omega
    case Fs => exact ⟨(fun q => by cases q), rfl, ⟨esL, epL, hdL⟩, Fs.up (b := [(L2, { o2 with slots := sl })]) ⟨rfl, ⟨sl, rfl⟩, trivial⟩⟩
    · refine of_sub st ?_
      rw [hL]; exact Heap.get?_none_of_le (Nat.le_refl _)
    intro h13 tk13 a13 l1' l2' mv uv kk1 kk2 sl1 sl2 keep13 hL13 hL213 ha13 hl1 hl2 hmv huv na13 nl1 nl2
    have F13 := fr_slots F12 hoL gL2.2.2 keep13 hL13
    have v1 : al ≠ D2 := d12 (al, _) mem2
    have v2 : I ≠ D2 := d12 (I, _) (.head _)
    have v3 : tl ≠ D2 := d12 (tl, _) mem1
    have v4 : rl1 ≠ D2 := d12 (rl1, _) mem3
    have v5 : 119 ≠ D2 := d12 (119, _) mem7
    have v6 : L2 ≠ D2 := d12 (L2, _) mem8
    have N13 := news_diff (pre := [(D2, _), (I, oI), (tl, _), (al, _), (rl1, _), (x, _), (dx, _), (L' + 1, _), (119, _)]) F12 N12 (ap_cons v6.symm (ap_cons w4 (ap_cons w10.symm (ap_cons na4 (ap_cons r5.symm (ap_cons w14 (ap_cons w15 (ap_cons w16 (ap_cons n2.symm ap_nil))))))))) (fun p hp => (i5 p hp).2.2.2) keep13 hL213 ha13 hl1 hl2 na13 nl1 nl2
    dsimp only [List.cons_append, List.nil_append] at N13
    have q1 := news_lt N12 nl1
    have q2 := news_lt N12 nl2
    have q3 := news_lt N12 na13
    clear F12 N12
    dsimp only
    refine assign2 hh rfl rfl rfl ⟨_, N13.get (.head _), rfl, _, rfl⟩ F13 N13 (fun h14 tk14 F14 N14 => ?_)
    clear F13 N13
    dsimp only
    iterate 20 walk1
    refine signs_spec G (stays_trans sth F14.keep) ?_ hh (N14.isList mem3) hys12 (Nat.le_trans (List.length_filter_le _ _) hlen) (fun h15 tk15 t15 k15 => ?_)
    · show A.depth + 1 + 2 < recursionLimit; omega
    have F15 := F14.keeps k15
    have N15 := N14.grown k15
    clear F14 N14
    iterate 3 walk1
    rename Fr _ _ _ _ => F16
    rename News _ _ _ _ => N16
    rename_i T _ lT
    have e1 : l1' ≠ tl := (q1 (tl, _) mem2).symm
    have e2 : l2' ≠ tl := (q2 (tl, _) mem2).symm
    have e3 : a13 ≠ tl := (q3 (tl, _) mem2).symm
    have e4 : T ≠ tl := neN (by omega)
    have e5 : T ≠ rl1 := neN (by omega)
    have e6 : T ≠ 119 := neN (by omega)
    have e7 : T ≠ L2 := neN (by omega)
    have e8 : T ≠ I := neN (by omega)
    refine append_K F16 N16 (.tail e4 (.tail e3 (.tail e1 (.tail e2 (.tail v3.symm (.tail w3 (.head (ap_cons na1 (ap_cons w5 (ap_cons w6 (ap_cons w7 (ap_cons w8 (ap_cons w9 (ap_cons w10 (fun p hp => (i5 p hp).1))))))))))))))) (fun h17 F17 N17 => ?_) ?hsz2
    case hsz2 =>
      simp only [List.size_toArray, sizeLine_eq]
      have := htv.length
      rw [List.length_map, List.length_range] at this
      have hi : i < rs.length := by
        rcases Nat.lt_or_ge i rs.length with h | h
        · exact h
        · rw [List.getElem?_eq_none h] at hri; cases hri
      omega
    rw [push_list] at N17
    clear F16 N16
    iterate 2 walk1
    have sub : ∀ oT : Obj, ∀ p ∈ im10 ++ imm, p ∈ (T, oT) :: (l1', W.listOf mv.toArray kk1) :: (l2', W.listOf uv.toArray kk2) :: (im10 ++ imm) := fun oT p hp => .tail _ (.tail _ (.tail _ hp))
    refine ⟨_, _, _, (tl, _) :: (D2, _) :: (rl1, _) :: (x, _) :: (dx, _) :: (L' + 1, _) :: (119, _) :: (L2, _) :: (T, { cls := Value.type "tuple", data := Data.seq #[Value.ref l1', Value.ref l2', Value.str (signsOf (List.filter (allow (List.take (i + 1) rs)) ns)) t15] }) :: (l1', _) :: (l2', _) :: (im10 ++ imm), rfl, F17, ?N, ?ap, D2, ys12, k12, tv ++ [.ref T], kt + 1, lv ++ [.ref a], kl + 1, t10, sl2, _, ⟨rfl, rfl, rfl, trivial⟩, rfl, hys12, hls.more (sub _), tabs10.more (sub _), ?dat, v3.symm, v4.symm, v5.symm, v6.symm, ?im⟩
    case N => exact news_cons (N17 _ mem5) (news_cons (N17 _ mem6) (news_cons (N17 _ mem4) (news_cons (N17 _ mem8) (news_cons (N17 _ mem9) (news_cons (N17 _ mem10) (news_cons (N17 _ mem11) (news_cons (N17 _ mem12) (news_cons (N17 _ mem13) (news_cons (N17 _ (.head _)) (news_cons (N17 _ mem2) (news_cons (N17 _ mem3) (fun p hp => N17 p (memT14 hp)))))))))))))
    case ap =>
      intro p hp q hq
      rw [List.mem_singleton.mp hq]
      have z : ∀ p ∈ im10 ++ imm, p.1 ≠ I := ap_app i0 (fun p hp => hoff p (.tail _ (.tail _ (.tail _ (.tail _ (.tail _ (.tail _ (.tail _ (.tail _ hp)))))))))
      exact (ap_cons w3.symm <| ap_cons v2.symm <| ap_cons w2.symm <| ap_cons (hoff (x, _) mem3) <| ap_cons (hoff (dx, _) mem4) <| ap_cons (hoff (L' + 1, _) mem5) <| ap_cons w1.symm <| ap_cons w4.symm <| ap_cons e8 <| ap_cons (q1 (I, _) mem1).symm <| ap_cons (q2 (I, _) mem1).symm z) p hp
    case dat =>
      rw [List.range_succ, List.map_append]
      refine DatAll.append (htv.mono (fun p hp => sub _ p (List.mem_append_right _ hp))) (.one ?_)
      refine DatIn.tuple (vs := [.ref l1', .ref l2', .str _ t15]) (.head _) (.cons (.list mem1 (strs_dat hmv)) (.cons (.list mem2 (strs_dat huv)) (.cons (.str _ _) .nil)))
    case im =>
      intro p hp
      rcases List.mem_cons.mp hp with e | hp
      · rw [e]; exact ⟨e4, e5, e6, e7⟩
      rcases List.mem_cons.mp hp with e | hp
      · rw [e]; exact ⟨e1, (q1 (rl1, _) mem4).symm, (q1 (119, _) mem8).symm, (q1 (L2, _) mem9).symm⟩
      rcases List.mem_cons.mp hp with e | hp
      · rw [e]; exact ⟨e2, (q2 (rl1, _) mem4).symm, (q2 (119, _) mem8).symm, (q2 (L2, _) mem9).symm⟩
      · exact i5 p hp
  · rintro m₁ news₁ h18 tk18 ⟨al, av, ka, tv, kt, lv, kl, t, sl, imm, ok, rfl, hav, hlv, ht, htv, na1, na2, na3, na4, nim⟩ F18 N18
    clear F6 N6
    dsimp only at ok N18 na1 na2 na3 na4 nim
    have F19 := fr_overA [(Str.ofString "told", .ref tl)] F18 ⟨ok.2.2.1, trivial⟩
    clear F18
    dsimp only
    iterate 4 walk1
    have y1 : tl ≠ 119 := neN (by omega)
    have y2 : tl ≠ L2 := neN (by omega)
    have nh : ∀ b, (hideAll s.heap [119, L2]).get? b = none → b ≠ 119 → b ≠ L2 → s.heap.get? b = none := fun b e n1 n2 => unhideL e (by
      intro hm
      rcases List.mem_cons.mp hm with hm | hm
      · exact n1 hm
      · exact n2 (List.mem_singleton.mp hm))
    rw [hpl] at htv
    obtain ⟨tp, htp⟩ : ∃ tp, t = tabObj tp := by
      rcases ht with e | ⟨c1, c2, e, _, _⟩
      · exact ⟨_, e⟩
      · exact ⟨_, e⟩
    subst htp
    refine ret _ _ tl tv kt tp imm sl (fun b o n1 n2 e => F19.keep b o (hideAll_get _ e (by
      intro hm
      rcases List.mem_cons.mp hm with hm | hm
      · exact n1 hm
      · exact n2 (List.mem_singleton.mp hm)))) (N18.get mem6) (N18.get mem7) (N18.get (.head _)) (nh _ (N18 _ (.head _)).2.2 y1 y2) (fun p hp => ?_) htv
    have z := N18 p (.tail _ (.tail _ (.tail _ (.tail _ (.tail _ (.tail _ (.tail _ (.tail _ hp))))))))
    exact ⟨z.1, nh _ z.2.2 (nim p hp).2.2.1 (nim p hp).2.2.2⟩

end Mine

end
section
open PySem PySem.W PySem.Calls PyProof.Rows PyProof.Rows.TI
namespace Mine
/- a front, as _law_due asks for it -/
noncomputable def cut (name front : Str) : Bool := Txt.slice name none (some (front.length : Int)) == front
noncomputable def inL (xs : List Str) (x : Str) : Bool := xs.any (· == x)
noncomputable def metOf (ns : List Str) (front : Str) (verdict : Bool) (fs : List Str) : List Str := ns.filter fun n => cut n front && (inL fs n != verdict)

section
variable {M : Model} {A : Around} {E : Value → Shared → Prop} {s : Shared} {K : Frag} {h₀ : Heap} {C : Addr} {m mg mb : Str → Option Value} {scope : Scope} {cl : List (Str × Addr)} {env : Env} {x : Str} {pos : Pos} {v : Value} {Q : Value → Shared → Prop} {p : Program} {loose : List Str} {mean : ExcName → Option Value}
/- a built-in's name in a comprehension -/
theorem nm_built (F : Fr h₀ C s.heap m) (X : K.In h₀) (T : Top p loose mean mg mb h₀) (e : nsIn K mainGlobals x = some none) (hv : bootBuiltins x = some v) (hn : x ≠ "__name__") (h : Q v s) (hg : env.globals = mainGlobals) (hb : env.builtins = builtinsNs)
    (hk : (compEnvC scope cl C env).scope.kind = .function := by rfl) (hl : (compEnvC scope cl C env).kindOf x = some .globalImplicit := by rfl) (hd : (x == ("__debug__" : Str)) = false := by decide) :
    wpAny M A (eval (.Name x pos) (compEnvC scope cl C env)) Q E s := by
  have TR : TopRead p loose mg mb h₀ := topRead_of T
  refine Name_function_global hk hl ?_ hd
  obtain ⟨sc, lo, gl, ce, qu, fu, co, fr, bu⟩ := env
  cases hg; cases hb
  exact loadGlobal_builtin (env := compEnvC scope cl C _) (TR.g.keeps F.keep) (mg_none_of X TR.g e) (TR.b.keeps F.keep) ((TR.builtins x hn).trans hv) h
end
theorem metAssign {w : World} {mean : ExcName → Option Value} {mg mb : Str → Option Value} {A : Around} {g : Heap}
  {s : Shared} {env : Env} {scope : Scope} {cl : List (Str × Addr)} {iter : PySem.Expr} {p1 p2 p3 p4 p5 p6 p7 p8 p9 p10 p11 p12 p13 p14 p15 p16 p17 : Pos} {nl cf cr cv fa : Addr} {of or ov : Obj} {nv fv : List Value} {ns fs : List Str} {front : Str} {tf : Tok} {verdict : Bool} {py spos : Pos} {y₀ : Str} {m : Str → Option Value} {Q : Flow → Shared → Prop} {E : Value → Shared → Prop}
  (hsw : swapsWith (.ListComp (.Name (Str.ofString "name") p1) [⟨.Name (Str.ofString "name") p2, iter, [.BoolOp .And [.Compare (.Subscript (.Name (Str.ofString "name") p3) (.Slice none (some (.Call (.Name (Str.ofString "len") p4) [.Name (Str.ofString "front") p5] [] p6)) none p7) p8) [.Eq] [.Name (Str.ofString "front") p9] p10, .Compare (.Compare (.Name (Str.ofString "name") p11) [.In] [.Name (Str.ofString "free") p12] p13) [.NotEq] [.Name (Str.ofString "verdict") p14] p15] p16], 0⟩] scope p17) (some (.Name y₀ py)) spos.line env = pure true)
  (hy₀ : env.kindOf y₀ = some .local) (hp : (env.scope.kind == .class || (env.scope.kind == .module && env.locals != env.globals)) = false) (hnL : s.heap.Ns env.locals m)
  (G : Gr w mean mg mb g) (st : g.StaysIn s.heap) (hh : A.handled = none) (hg : env.globals = mainGlobals) (hb : env.builtins = builtinsNs)
  (hclos : closureFor scope env = pure cl) (hcell : ∀ y ∈ scope.names, y.2 ≠ .cell) (hkind : scope.kind = .function)
  (hnames : ∀ y ∈ scope.names, y.2 = .local → scope.names.lookup y.1 = some .local)
  (hkn : ∀ C, (compEnvC scope cl C env).kindOf (Str.ofString "name") = some .local) (hkl : ∀ C, (compEnvC scope cl C env).kindOf (Str.ofString "len") = some .globalImplicit)
  (hk1 : ∀ C, (compEnvC scope cl C env).kindOf (Str.ofString "front") = some .cell) (hk2 : ∀ C, (compEnvC scope cl C env).kindOf (Str.ofString "free") = some .cell) (hk3 : ∀ C, (compEnvC scope cl C env).kindOf (Str.ofString "verdict") = some .cell)
  (hc1 : cl.lookup (Str.ofString "front") = some cf) (ho1 : s.heap.get? cf = some of) (hd1 : of.data = .cell (some (.str front tf)))
  (hc2 : cl.lookup (Str.ofString "free") = some cr) (ho2 : s.heap.get? cr = some or) (hd2 : or.data = .cell (some (.ref fa)))
  (hc3 : cl.lookup (Str.ofString "verdict") = some cv) (ho3 : s.heap.get? cv = some ov) (hd3 : ov.data = .cell (some (.bool verdict)))
  (hfa : s.heap.IsList fa fv.toArray) (hfs : StrsAre fv fs) (hfl : front.length ≤ 64)
  (hit : ∀ (Q E : Value → Shared → Prop), Q (.ref nl) s → wpAny (model PySem.Challenge.rw_nq0100_01.row.prog w) A (eval iter env) Q E s) (hnl : s.heap.IsList nl nv.toArray) (hns : StrsAre nv ns) (hlen : ns.length ≤ 1000) (hnn : ∀ n ∈ ns, n.length ≤ 64)
  (hs : ∀ x, foldedSetIterable iter env x = pure x)
  (ret : ∀ D h' tk ys k, (∀ b o, b ≠ env.locals → s.heap.get? b = some o → h'.get? b = some o) → h'.Ns env.locals (fun z => if z = y₀ then some (.ref D) else m z) → s.heap.get? D = none → h'.get? D = some (listOf (List.toArray ys) k) → StrsAre ys (metOf ns front verdict fs) → Q .next { s with heap := h', toks := tk }) :
  wpAny (model PySem.Challenge.rw_nq0100_01.row.prog w) A (exec (.Assign [.Name y₀ py] (.ListComp (.Name (Str.ofString "name") p1) [⟨.Name (Str.ofString "name") p2, iter, [.BoolOp .And [.Compare (.Subscript (.Name (Str.ofString "name") p3) (.Slice none (some (.Call (.Name (Str.ofString "len") p4) [.Name (Str.ofString "front") p5] [] p6)) none p7) p8) [.Eq] [.Name (Str.ofString "front") p9] p10, .Compare (.Compare (.Name (Str.ofString "name") p11) [.In] [.Name (Str.ofString "free") p12] p13) [.NotEq] [.Name (Str.ofString "verdict") p14] p15] p16], 0⟩] scope p17) spos) env) Q E s := by
  have X := G.X.keeps st
  have T := G.T.keeps st
  revert X; k_fill; intro X
  refine compAssign (fun ys => StrsAre ys (metOf ns front verdict fs)) hsw hclos hcell hkind hnames hy₀ hp (hit _ _ ?_) hnL ret hs
  refine compList hnl hh (fun I C D => turn_11 _ _ _ _ _ _ _ _ _) hkn hkind (fun i ys => StrsAre ys (metOf (ns.take i) front verdict fs)) .nil ?_ ?_
  · rintro I C D i v ys k m₁ h₁ tk₁ oI E' hID hDC hi hys F1 N1
    obtain ⟨y, ty, rfl, hy⟩ := hns.item i v hi
    have F2 := fr_overA [(Str.ofString "name", .str y ty)] F1 ⟨set_eq, trivial⟩
    clear F1
    have hsk : (compEnvC scope cl C env).scope.kind = .function := hkind
    refine mid_if ?_
    have hyl : y.length ≤ 64 := hnn y (List.mem_of_getElem? hy)
    iterate 3 walk1
    refine nm_own F2 (by with_unfolding_all rfl) ?_ hsk (hkn C)
    iterate 4 walk1
    k_dflt (refine' nm_built (x := Str.ofString "len") F2 X T ?e ?v ?n ?_ hg hb hsk (hkl C); (case e => k_is); (case v => rfl); (case n => decide))
    iterate 2 walk1
    refine nm_cell F2 hc1 ho1 hd1 ?_ hsk (hk1 C)
    iterate 3 walk1
    refine slice_strN_ns (hsz := by rw [sizeLine_eq]; omega) (s := ⟨_, _, _, _, _⟩) (by k_asm) (by k_asm) (fun h3 t3 k3 F3 N3 => ?_)
    clear F2 N1
    refine nm_cell F3 hc1 ho1 hd1 ?_ hsk (hk1 C)
    have nd : I ≠ D := Nat.ne_of_lt hID
    have ly : ys.length ≤ 1000 := by
      rw [hys.length]
      exact Nat.le_trans (List.length_filter_le _ _) (Nat.le_trans (by rw [List.length_take]; exact Nat.min_le_right _ _) hlen)
    have step : metOf (ns.take (i + 1)) front verdict fs = metOf (ns.take i) front verdict fs ++ (if cut y front && (inL fs y != verdict) then [y] else []) := filter_step (fun n => cut n front && (inL fs n != verdict)) _ _ _ hy
    iterate 3 walk1
    · rename ((Txt.slice y none (some ↑front.length) == front) = true) => hcut
      have hcut' : cut y front = true := hcut
      iterate 3 walk1
      refine nm_own F3 (by with_unfolding_all rfl) ?_ hsk (hkn C)
      refine nm_cell F3 hc2 ho2 hd2 ?_ hsk (hk2 C)
      refine in_list_strs (hfa.at fun o e => F3.keep _ _ e) hfs ?_
      refine nm_cell F3 hc3 ho3 hd3 ?_ hsk (hk3 C)
      iterate 4 walk1
      · rename (((fs.any fun x => x == y) != verdict) = true) => hin
        have hin' : (inL fs y != verdict) = true := hin
        rw [if_pos rfl]
        refine nm_own F3 (by with_unfolding_all rfl) ?_ hsk (hkn C)
        refine append_K F3 N3 (.tail nd (.head (fun q hq => nomatch hq))) (fun h4 F4 N4 => ?_) (by simp only [List.size_toArray, sizeLine_eq]; omega)
        rw [push_list] at N4
        refine ⟨trivial, _, _, _, _, _, rfl, F4, N4, ?_⟩
        rw [step, hcut', hin', Bool.and_self, if_pos rfl]
        exact StrsAre.append' hys (.cons _ _ .nil)
      · rename (((fs.any fun x => x == y) != verdict) = false) => hin
        have hin' : (inL fs y != verdict) = false := hin
        rw [if_neg (by decide)]
        refine ⟨trivial, _, _, _, _, _, rfl, F3, N3, ?_⟩
        rw [step, hin', Bool.and_false, if_neg (by decide), List.append_nil]
        exact hys
    · rename ((Txt.slice y none (some ↑front.length) == front) = false) => hcut
      have hcut' : cut y front = false := hcut
      rw [if_neg (by decide)]
      refine ⟨trivial, _, _, _, _, _, rfl, F3, N3, ?_⟩
      rw [step, hcut', Bool.false_and, if_neg (by decide), List.append_nil]
      exact hys
  · rintro D h' tk ys k st' hD _ hget hys
    rw [show nv.length = ns.length from hns.length, List.take_length] at hys
    exact ⟨D, ys, k, h', tk, rfl, rfl, st', hD, hget, hys⟩
end Mine

end
section
open PySem PySem.W PySem.Calls PyProof.Rows PyProof.Rows.TI
namespace Mine
noncomputable def freeOf (ns fs ts : List Str) : List Str := ns.filter fun n => inL fs n != inL ts n
/- free = [name for name in names if (name in free) != (name in turned)], up to the store -/
theorem freeEval {w : World} {A : Around}
  {s : Shared} {env : Env} {scope : Scope} {cl : List (Str × Addr)} {iter : PySem.Expr} {p1 p2 p3 p4 p5 p6 p7 p8 p9 p10 : Pos} {nl cr ct fa ta : Addr} {or ot : Obj} {nv fv tv : List Value} {ns fs ts : List Str} {Q : Value → Shared → Prop} {E : Value → Shared → Prop}
  (hh : A.handled = none)
  (hclos : closureFor scope env = pure cl) (hcell : ∀ y ∈ scope.names, y.2 ≠ .cell) (hkind : scope.kind = .function)
  (hnames : ∀ y ∈ scope.names, y.2 = .local → scope.names.lookup y.1 = some .local)
  (hkn : ∀ C, (compEnvC scope cl C env).kindOf (Str.ofString "name") = some .local)
  (hk2 : ∀ C, (compEnvC scope cl C env).kindOf (Str.ofString "free") = some .cell) (hk3 : ∀ C, (compEnvC scope cl C env).kindOf (Str.ofString "turned") = some .cell)
  (hc2 : cl.lookup (Str.ofString "free") = some cr) (ho2 : s.heap.get? cr = some or) (hd2 : or.data = .cell (some (.ref fa)))
  (hc3 : cl.lookup (Str.ofString "turned") = some ct) (ho3 : s.heap.get? ct = some ot) (hd3 : ot.data = .cell (some (.ref ta)))
  (hfa : s.heap.IsList fa fv.toArray) (hfs : StrsAre fv fs) (hta : s.heap.IsList ta tv.toArray) (hts : StrsAre tv ts)
  (hit : ∀ (Q E : Value → Shared → Prop), Q (.ref nl) s → wpAny (model PySem.Challenge.rw_nq0100_01.row.prog w) A (eval iter env) Q E s) (hnl : s.heap.IsList nl nv.toArray) (hns : StrsAre nv ns) (hlen : ns.length ≤ 1000)
  (hs : ∀ x, foldedSetIterable iter env x = pure x)
  (ret : ∀ D h' tk ys k, s.heap.StaysIn h' → s.heap.get? D = none → h'.get? D = some (listOf (List.toArray ys) k) → StrsAre ys (freeOf ns fs ts) → Q (.ref D) { s with heap := h', toks := tk }) :
  wpAny (model PySem.Challenge.rw_nq0100_01.row.prog w) A (eval (.ListComp (.Name (Str.ofString "name") p1) [⟨.Name (Str.ofString "name") p2, iter, [.Compare (.Compare (.Name (Str.ofString "name") p3) [.In] [.Name (Str.ofString "free") p4] p5) [.NotEq] [.Compare (.Name (Str.ofString "name") p6) [.In] [.Name (Str.ofString "turned") p7] p8] p9], 0⟩] scope p10) env) Q E s := by
  refine compEvalG hclos hcell hkind hnames (hit _ _ ?_) hs
  refine wpAny_mono (compList (Q := Q) (E := E) hnl hh (fun I C D => turn_11 _ _ _ _ _ _ _ _ _) hkn hkind (fun i ys => StrsAre ys (freeOf (ns.take i) fs ts)) .nil ?_ ?_) (fun it s₂ h => h.2) fun _ _ e => e
  · rintro I C D i v ys k m₁ h₁ tk₁ oI E' hID hDC hi hys F1 N1
    obtain ⟨y, ty, rfl, hy⟩ := hns.item i v hi
    have F3 := fr_overA [(Str.ofString "name", .str y ty)] F1 ⟨set_eq, trivial⟩
    clear F1
    have hsk : (compEnvC scope cl C env).scope.kind = .function := hkind
    have nd : I ≠ D := Nat.ne_of_lt hID
    have ly : ys.length ≤ 1000 := by
      rw [hys.length]
      exact Nat.le_trans (List.length_filter_le _ _) (Nat.le_trans (by rw [List.length_take]; exact Nat.min_le_right _ _) hlen)
    have step : freeOf (ns.take (i + 1)) fs ts = freeOf (ns.take i) fs ts ++ (if (inL fs y != inL ts y) then [y] else []) := filter_step (fun n => inL fs n != inL ts n) _ _ _ hy
    refine mid_if ?_
    iterate 2 walk1
    refine nm_own F3 (by with_unfolding_all rfl) ?_ hsk (hkn C)
    refine nm_cell F3 hc2 ho2 hd2 ?_ hsk (hk2 C)
    refine in_list_strs (hfa.at fun o e => F3.keep _ _ e) hfs ?_
    walk1
    refine nm_own F3 (by with_unfolding_all rfl) ?_ hsk (hkn C)
    refine nm_cell F3 hc3 ho3 hd3 ?_ hsk (hk3 C)
    refine in_list_strs (hta.at fun o e => F3.keep _ _ e) hts ?_
    iterate 3 walk1
    · rename (((fs.any fun x => x == y) != (ts.any fun x => x == y)) = true) => hin
      have hin' : (inL fs y != inL ts y) = true := hin
      (try rw [if_pos rfl])
      refine nm_own F3 (by with_unfolding_all rfl) ?_ hsk (hkn C)
      refine append_K F3 N1 (.tail nd (.head (fun q hq => nomatch hq))) (fun h4 F4 N4 => ?_) (by simp only [List.size_toArray, sizeLine_eq]; omega)
      rw [push_list] at N4
      refine ⟨rfl, _, _, _, _, _, rfl, F4, N4, ?_⟩
      rw [step, hin', if_pos rfl]
      exact StrsAre.append' hys (.cons _ _ .nil)
    · rename (((fs.any fun x => x == y) != (ts.any fun x => x == y)) = false) => hin
      have hin' : (inL fs y != inL ts y) = false := hin
      (try rw [if_neg (by decide)])
      refine ⟨rfl, _, _, _, _, _, rfl, F3, N1, ?_⟩
      rw [step, hin', if_neg (by decide), List.append_nil]
      exact hys
  · rintro D h' tk ys k st' hD _ hget hys
    rw [show nv.length = ns.length from hns.length, List.take_length] at hys
    exact ret D h' tk ys k st' hD hget hys
end Mine

end
section
open PySem PySem.W PySem.Calls PyProof.Rows PyProof.Rows.TI
namespace Mine
inductive InvC (D c : Addr) (J : List Value → Prop) (news : List (Addr × Obj)) : Prop
  | mk (ys : List Value) (k : Nat) (oc : Obj) (v₀ : Option Value) (e : news = [(D, listOf (List.toArray ys) k), (c, oc)]) (hoc : oc.data = .cell v₀) (hJ : J ys)
noncomputable abbrev cellNone : Obj := { cls := .type "cell", data := .cell none }
section
variable {M : Model} {A : Around} {E : Value → Shared → Prop} {s : Shared} {env : Env}
/- a comprehension's frame with one cell of its own -/
theorem newEnv1 {scope : Scope} {globals : Addr} {cl : List (Str × Addr)} {qual x : Str} {Q : Env → Shared → Prop} (hpc : ∀ h, pushCells h scope.names = h.push cellNone) (hcf : ∀ a, cellsFrom a scope.names cl = (x, a) :: cl)
    (h : Q { scope := scope, locals := s.heap.objs.size, globals := globals, cells := (x, s.heap.objs.size + 1) :: cl, qual := qual, func := none, code := env.code, frame := env.frame, builtins := env.builtins } { s with heap := (s.heap.push { cls := .type "dict", data := .dict #[] }).push cellNone }) :
    wpAny M A (newFunctionEnv scope globals cl [] qual none .none (some env)) Q E s := by
  simp only [newFunctionEnv, Option.isSome_some, if_true]
  refine wpAny_bind (wpAny_alloc ?_)
  refine wpAny_bind (wpAny_layCells _ (fun name kind cells => by cases hkc : kind == NameKind.cell <;> simp [hkc]) _ _ _ _ ?_)
  rw [hcf, hpc]
  rw [show ({ s with heap := s.heap.push { cls := .type "dict", data := .dict #[] } } : Shared).heap.objs.size = s.heap.objs.size + 1 from Heap.size_push ..]
  rw [List.forIn_nil]
  exact wpAny_bind (wpAny_pure (wpAny_pure h))
end
section
variable {prog : Program} {w : World} {A : Around} {E : Value → Shared → Prop} {s : Shared} {env : Env}
/- a comprehension over a list whose own name is a cell -/
theorem compCellList {elt iter : Expr} {ifs : List Expr} {scope : Scope} {cl : List (Str × Addr)} {pos px : Pos} {x : Str} {l : Addr} {vs : List Value} {p : Pos} {mid : Addr → Addr → Addr → Sem Fin} {Q : Value → Shared → Prop}
    (hclos : closureFor scope env = pure cl) (hkind : scope.kind = .function) (hnames : ∀ y ∈ scope.names, y.2 = .local → scope.names.lookup y.1 = some .local)
    (hpc : ∀ h, pushCells h scope.names = h.push cellNone) (hcf : ∀ a, cellsFrom a scope.names cl = (x, a) :: cl)
    (hit : ∀ (Q E : Value → Shared → Prop), Q (.ref l) s → wpAny (model prog w) A (eval iter env) Q E s) (hs : ∀ x, foldedSetIterable iter env x = pure x)
    (hl : s.heap.IsList l vs.toArray) (hh : A.handled = none)
    (hT : ∀ I C D : Addr, compTurn (.ListComp elt [⟨.Name x px, iter, ifs, 0⟩] scope pos) 0 (.ref I) (.ref D) (compEnvC scope ((x, C + 1) :: cl) C env) = (standAt p >>= fun _ => pyNext (.ref I) >>= fun r => match r with
      | none => pure (.done .next)
      | some v => letOwnedTupleGo (.Name x px) (.ref I) v >>= fun _ => assign (.Name x px) (compEnvC scope ((x, C + 1) :: cl) C env) v >>= fun _ => mid I C D))
    (hx : ∀ C, (compEnvC scope ((x, C + 1) :: cl) C env).kindOf x = some .cell)
    (J : Nat → List Value → Prop) (h0 : J 0 [])
    (step : ∀ I C D i v ys k (m₁ : Str → Option Value) h₁ tk₁ oI oc (E' : Value → Shared → Prop), (I < D) → (D < C) → vs[i]? = some v → J i ys → oc.data = .cell (some v) →
      Fr s.heap C h₁ m₁ → News s.heap C h₁ [(I, oI), (D, listOf ys.toArray k), (C + 1, oc)] →
      wpAny (model prog w) A (mid I C D)
        (fun fin s₃ => fin = .again (.compLoop (.ListComp elt [⟨.Name x px, iter, ifs, 0⟩] scope pos) 0 (.ref I) (.ref D) (compEnvC scope ((x, C + 1) :: cl) C env)) ∧ MidD s.heap C I oI D [(C + 1, oc)] (J (i + 1)) s.gens s.drawn s.os s₃) E' { s with heap := h₁, toks := tk₁ })
    (hQ : ∀ D h'' tk ys k, s.heap.StaysIn h'' → s.heap.get? D = none → h''.get? D = some (listOf (List.toArray ys) k) → J vs.length ys → Q (.ref D) { s with heap := h'', toks := tk }) :
    wpAny (model prog w) A (eval (.ListComp elt [⟨.Name x px, iter, ifs, 0⟩] scope pos) env) Q E s := by
  rw [eval_ListComp]
  refine wpAny_comprehension_free (use := none) rfl hs hclos hkind hnames (hit _ _ ?_)
  obtain ⟨ol, hol, _⟩ := id hl
  have hne : l ≠ s.heap.objs.size := Nat.ne_of_lt (Heap.lt_size hol)
  refine wpAny_pyIter_list hl ?_
  refine wpAny_newObj_type (newEnv1 hpc hcf ?_)
  have W := Walks.list (prog := prog) (w := w) hh s.heap.objs.size l hne vs.toArray
  have hlen : vs.toArray.size = vs.length := by simp
  rw [hlen] at W
  generalize hI : s.heap.objs.size = I at *
  generalize hH1 : s.heap.push { cls := .type "list_iterator", data := .fields #[.ref l, .int 0 0] } = H1
  have sH1 : H1.objs.size = I + 1 := by rw [← hH1, Heap.size_push, hI]
  dsimp only
  generalize hH2 : H1.push { cls := .type "list", dict := none, data := .seq ([] : List Value).toArray } = H2
  have sH2 : H2.objs.size = I + 2 := by rw [← hH2, Heap.size_push, sH1]
  generalize hH3 : H2.push { cls := .type "dict", data := .dict #[] } = H3
  have sH3 : H3.objs.size = I + 3 := by rw [← hH3, Heap.size_push, sH2]
  generalize hH4 : H3.push cellNone = H4
  have k1 : s.heap.StaysIn H1 := fun b o e => hH1 ▸ Heap.get?_push_of_some _ e
  have k2 : H1.StaysIn H2 := fun b o e => hH2 ▸ Heap.get?_push_of_some _ e
  have k3 : H2.StaysIn H3 := fun b o e => hH3 ▸ Heap.get?_push_of_some _ e
  have k4 : H3.StaysIn H4 := fun b o e => hH4 ▸ Heap.get?_push_of_some _ e
  have k14 := stays_trans k2 (stays_trans k3 k4)
  have k04 := stays_trans k1 k14
  have gI : H1.get? I = some { cls := .type "list_iterator", data := .fields #[.ref l, .int 0 0] } := by rw [← hH1, ← hI]; exact Heap.get?_push_size _ rfl
  have gD : H4.get? (I + 1) = some (listOf #[] 0) := stays_trans k3 k4 _ _ (by rw [← hH2, ← sH1]; exact Heap.get?_push_size _ rfl)
  have gC : H4.Ns (I + 2) (fun _ => none) := ⟨_, #[], _, k4 _ _ (by rw [← hH3, ← sH2]; exact Heap.get?_push_size _ rfl), rfl, fun e he => absurd he (by simp), fun _ => rfl⟩
  have gc : H4.get? (I + 3) = some cellNone := by rw [← hH4, ← sH3]; exact Heap.get?_push_size _ rfl
  have fresh : ∀ a, I ≤ a → s.heap.get? a = none := fun a ha => Heap.get?_none_of_le (hI ▸ ha)
  rw [sH2, sH1]
  have F : Fr s.heap (I + 2) H4 (fun _ => none) := ⟨gC, k04, by rw [hI]; omega⟩
  have N : News s.heap (I + 2) H4 [(I + 1, listOf #[] 0), (I + 2 + 1, cellNone)] := by
    refine news_cons ⟨gD, Nat.ne_of_lt (Nat.lt_succ_self _), fresh _ (Nat.le_succ _)⟩ (news_cons ⟨gc, Nat.ne_of_gt (Nat.lt_succ_self _), fresh _ (by omega)⟩ (fun p hp => nomatch hp))
  have hst : (H4.IsListIter I l 0 ∧ H4.IsList l vs.toArray) := ⟨⟨_, k14 _ _ gI, rfl, rfl⟩, hl.at fun o e => k04 _ _ e⟩
  have hI0 := fresh I (Nat.le_refl _)
  refine compStartF (s := { s with heap := H4 }) (g := ⟨.Name x px, iter, ifs, 0⟩) rfl rfl (fun Q E hq => W.self 0 _ Q E hst hq) ?_
  refine compLoopF (s := { s with heap := H4 }) (env := compEnvC scope ((x, I + 2 + 1) :: cl) (I + 2) env) (h₀ := s.heap) (hT I (I + 2) (I + 1)) (KTurns.ofWalks (target := .Name x px) W (fun i v s Q E _ hq => wpAny_pure hq)) ?_ (fun b hb => (List.mem_singleton.mp hb) ▸ hI0) ?_ hst F N
    (fun i _ news => InvC (I + 1) (I + 2 + 1) (J i) news) ⟨[], 0, _, none, rfl, rfl, h0⟩ ?_ ?_
  · intro hm
    rcases List.mem_cons.mp hm with e | hm
    · exact absurd e (Nat.ne_of_gt (show I < I + 2 by omega))
    · have := Heap.lt_size hol
      rw [← List.mem_singleton.mp hm, hI] at this
      exact absurd (show I + 2 < I from this) (by omega)
  · intro p hp hq
    rcases List.mem_cons.mp hp with e | hp
    · rw [e] at hq; exact absurd (List.mem_singleton.mp hq) (Nat.ne_of_gt (Nat.lt_succ_self I))
    · rw [List.mem_singleton.mp hp] at hq; exact absurd (List.mem_singleton.mp hq) (Nat.ne_of_gt (show I < I + 2 + 1 by omega))
  · rintro i v m₁ news₁ h₁ tk₁ own E' hi hP ⟨ys, k, oc, v₀, rfl, hoc, hJ⟩ hoff hown hownh hall hst' F₁ N₁
    obtain ⟨⟨oI, hoI, _⟩, _⟩ := id hst'
    have hIown : (I, oI) ∈ own := hall _ (.head _) hI0 _ hoI
    have hone := own_one (fp := [I, l]) hown (fun b hb => by
      rcases List.mem_cons.mp hb with e | hb
      · exact .inl e
      · exact .inr ⟨ol, (List.mem_singleton.mp hb) ▸ hol⟩) hoI N₁
    have N₂ : News s.heap (I + 2) h₁ ((I, oI) :: [(I + 1, listOf (List.toArray ys) k), (I + 2 + 1, oc)]) := news_one hIown N₁
    have hP' : vs[i]? = some v := by simpa using hP
    have mc := N₂ _ mem2
    refine wpAny_assign_Name (wpAny_storeName_cell hkind (hx _) (by simp [compEnvC]) ⟨oc, mc.1, hoc⟩ (fun h₂ hc₂ hs₂ => ?_))
    obtain ⟨oc', ho', hd'⟩ := hc₂
    have keep : ∀ b o, b ≠ I + 2 + 1 → h₁.get? b = some o → h₂.get? b = some o := fun b o hb e => (hs₂.2 b hb).trans e
    have F₂ := fr_but1 F₁ mc.2.1 mc.2.2 keep
    have N₃ : News s.heap (I + 2) h₂ [(I, oI), (I + 1, listOf (List.toArray ys) k), (I + 2 + 1, oc')] :=
      news_cons ⟨keep _ _ (Nat.ne_of_lt (show I < I + 2 + 1 by omega)) (N₂ _ (.head _)).1, (N₂ _ (.head _)).2⟩ (news_cons ⟨keep _ _ (Nat.ne_of_lt (show I + 1 < I + 2 + 1 by omega)) (N₂ _ mem1).1, (N₂ _ mem1).2⟩ (news_cons ⟨ho', mc.2⟩ (fun p hp => nomatch hp)))
    refine wpAny_mono (step I (I + 2) (I + 1) i v ys k m₁ h₂ _ oI oc' E' (Nat.lt_succ_self _) (Nat.lt_succ_self _) hP' hJ hd' F₂ N₃) (fun fin s₃ h₃ => ?_) fun _ _ e => e
    obtain ⟨e1, h', tk, m₂, ys', k', e2, F₃, N₄, hj⟩ := h₃
    refine ⟨e1, h', tk, m₂, [(I + 1, listOf (List.toArray ys') k'), (I + 2 + 1, oc')], e2, F₃, fun p hp => ?_, fun p hp hq => ?_, ys', k', oc', some v, rfl, hd', hj⟩
    · rcases List.mem_append.mp hp with h1 | h1
      · rw [hone p h1]; exact N₄ _ (.head _)
      · exact N₄ p (.tail _ h1)
    · rcases List.mem_cons.mp hp with e | hp
      · rw [e] at hq; exact absurd (List.mem_singleton.mp hq) (Nat.ne_of_gt (Nat.lt_succ_self I))
      · rw [List.mem_singleton.mp hp] at hq; exact absurd (List.mem_singleton.mp hq) (Nat.ne_of_gt (show I < I + 2 + 1 by omega))
  · rintro h' tk m' news' F' N' _ ⟨ys, k, oc, v₀, rfl, hoc, hJ⟩
    refine ⟨m', F'.ns, fun h'' hs => ?_⟩
    replace hs : Heap.SameBut (I + 2) h' h'' := hs
    have gD' := N' _ (.head _)
    exact hQ (I + 1) h'' tk ys k (fun b o e => hs.extBut b o (fun q => by rw [q, fresh _ (by omega)] at e; cases e) (F'.keep b o e)) gD'.2.2 (hs.extBut _ _ gD'.2.1 gD'.1) hJ
end
end Mine

end
section
open PySem PySem.W PySem.Calls PyProof.Rows PyProof.Rows.TI
namespace Mine
section
variable {prog : Program} {w : World} {A : Around} {E : Value → Shared → Prop} {s : Shared} {env : Env}
/- the first clause over a list of pairs -/
theorem compListP {elt : Expr} {gens : List Comprehension} {scope : Scope} {cl : List (Str × Addr)} {pos pk pv pt : Pos} {x1 : Nat} {xi xc : Str} {l : Addr} {vs : List Value} {ps : List (Value × Value)} {p : Pos} {mid : Addr → Addr → Addr → Sem Fin} {Q : Value → Shared → Prop}
    (hl : s.heap.IsList l vs.toArray) (hpr : PairsAt s.heap vs ps) (hh : A.handled = none)
    (hT : ∀ I C D : Addr, compTurn (.ListComp elt gens scope pos) 0 (.ref I) (.ref D) (compEnvC scope cl C env) = (standAt p >>= fun _ => pyNext (.ref I) >>= fun r => match r with
      | none => pure (.done .next)
      | some v => letOwnedTupleGo (.Tuple [.Name xi pk, .Name xc pv] x1 pt) (.ref I) v >>= fun _ => assign (.Tuple [.Name xi pk, .Name xc pv] x1 pt) (compEnvC scope cl C env) v >>= fun _ => mid I C D))
    (hxi : ∀ C, (compEnvC scope cl C env).kindOf xi = some .local) (hxc : ∀ C, (compEnvC scope cl C env).kindOf xc = some .local) (hkind : scope.kind = .function)
    (J : Nat → List Value → Prop) (h0 : J 0 [])
    (step : ∀ I C D i a b ys k (m₁ : Str → Option Value) h₁ tk₁ oI (E' : Value → Shared → Prop), (I < D) → (D < C) → ps[i]? = some (a, b) → J i ys →
      Fr s.heap C h₁ (fun y => if y = xc then some b else if y = xi then some a else m₁ y) → News s.heap C h₁ [(I, oI), (D, listOf ys.toArray k)] →
      wpAny (model prog w) A (mid I C D)
        (fun fin s₃ => fin = .again (.compLoop (.ListComp elt gens scope pos) 0 (.ref I) (.ref D) (compEnvC scope cl C env)) ∧ MidD s.heap C I oI D [] (J (i + 1)) s.gens s.drawn s.os s₃) E' { s with heap := h₁, toks := tk₁ })
    (hQ : ∀ D h'' tk ys k, s.heap.StaysIn h'' → s.heap.get? D = none → h''.get? D = some (listOf (List.toArray ys) k) → J ps.length ys → Q (.ref D) { s with heap := h'', toks := tk }) :
    wpAny (model prog w) A (pyIter (.ref l)) (fun it s₂ => CompGo prog w A env elt gens scope cl pos Q it s₂) E s := by
  obtain ⟨ol, hol, _⟩ := id hl
  have hne : l ≠ s.heap.objs.size := Nat.ne_of_lt (Heap.lt_size hol)
  refine wpAny_pyIter_list hl ?_
  have hfresh : s.heap.get? s.heap.objs.size = none := Heap.get?_none_of_le (Nat.le_refl _)
  have W := Walks.list (prog := prog) (w := w) hh s.heap.objs.size l hne vs.toArray
  have hlen : vs.toArray.size = vs.length := by simp
  rw [hlen] at W
  generalize hI : s.heap.objs.size = I at *
  have gI : (s.heap.push { cls := .type "list_iterator", data := .fields #[.ref l, .int 0 0] }).get? I = some { cls := .type "list_iterator", data := .fields #[.ref l, .int 0 0] } := hI ▸ Heap.get?_push_size _ rfl
  have kp : s.heap.StaysIn (s.heap.push { cls := .type "list_iterator", data := .fields #[.ref l, .int 0 0] }) := fun b o e => Heap.get?_push_of_some _ e
  have st0 : Heap.IsListIter (s.heap.push { cls := .type "list_iterator", data := .fields #[.ref l, .int 0 0] }) I l 0 ∧ Heap.IsList (s.heap.push { cls := .type "list_iterator", data := .fields #[.ref l, .int 0 0] }) l vs.toArray := ⟨⟨_, gI, rfl, rfl⟩, hl.at fun o e => kp _ _ e⟩
  refine ⟨I, _, s.heap, rfl, gI, kp, hfresh, by rw [Heap.size_push]; exact Nat.le_succ _, fun s' Q E k hq => W.self 0 s' Q E (W.frame _ _ _ st0 fun b _ o e => k b o e) hq, ?_⟩
  intro C D h tk hCD hCI hDI hID hDC hst₂ F N
  have hst' := W.frame _ _ _ st0 fun b _ o e => hst₂ b o e
  have hCl : C ≠ l := fun e => by have := Heap.lt_size hol; rw [← e] at this; exact absurd (Nat.lt_of_lt_of_le this F.above) (Nat.lt_irrefl _)
  refine compLoopF (s := { s with heap := h, toks := tk }) (env := compEnvC scope cl C env) (h₀ := s.heap) (fp := [I, l]) (wr := [I]) (n := vs.length) (P := fun i v _ => ∃ T, v = Value.ref T ∧ vs[i]? = some v) (Md := fun i v h => ∃ T, v = Value.ref T ∧ vs[i]? = some v ∧ (h.IsListIter I l (i + 1) ∧ h.IsList l vs.toArray)) (St := fun i h => h.IsListIter I l i ∧ h.IsList l vs.toArray) (news := [(D, listOf #[] 0)])
    (hT I C D) ⟨W.sub, W.frame, ?_, ?_, W.done⟩ ?_ (fun b hb => (List.mem_singleton.mp hb) ▸ hfresh) (fun p hp hq => by rw [List.mem_singleton.mp hp] at hq; exact hDI (List.mem_singleton.mp hq)) hst' F (fun p hp => N p (.tail _ hp))
    (fun i _ news => InvD D (J i) news) ⟨[], 0, rfl, h0⟩ ?_ ?_
  · intro i s₁ Q E hi st hQ
    refine W.item i s₁ Q E hi st fun v h' tk hP st' hk => ?_
    have hP' : vs[i]? = some v := by simpa using hP
    obtain ⟨p, hp⟩ : ∃ p, ps[i]? = some p := ⟨ps[i]'(hpr.1 ▸ hi), by simp⟩
    obtain ⟨T, hT, _⟩ := hpr.2 i p hp
    have : v = Value.ref T := by rw [hT] at hP'; exact (Option.some.inj hP').symm
    exact hQ v h' tk ⟨T, this, hP', st'⟩ hk
  · rintro i v s₁ Q E ⟨T, rfl, hP, st'⟩ hQ
    exact wpAny_letOwnedTupleGo_listiter st'.1 (hQ s₁.heap ⟨T, rfl, hP⟩ st' fun _ _ _ e => e)
  · intro hm
    rcases List.mem_cons.mp hm with e | hm
    · exact hCI e
    · exact hCl (List.mem_singleton.mp hm)
  · rintro i v m₁ news₁ h₁ tk₁ own E' hi ⟨T, rfl, hP⟩ ⟨ys, k, rfl, hJ⟩ hoff hown hownh hall hst'' F₁ N₁
    obtain ⟨⟨oI, hoI, _⟩, _⟩ := id hst''
    have hIown : (I, oI) ∈ own := hall _ (.head _) hfresh _ hoI
    have hone := own_one (fp := [I, l]) hown (fun b hb => by
      rcases List.mem_cons.mp hb with e | hb
      · exact .inl e
      · exact .inr ⟨ol, (List.mem_singleton.mp hb) ▸ hol⟩) hoI N₁
    have N₂ : News s.heap C h₁ ((I, oI) :: [(D, listOf (List.toArray ys) k)]) := news_one hIown N₁
    obtain ⟨⟨a, b⟩, hab⟩ : ∃ p, ps[i]? = some p := ⟨ps[i]'(hpr.1 ▸ hi), by simp⟩
    obtain ⟨T', hT', ht⟩ := hpr.2 i _ hab
    have hTT : T' = T := by rw [hT'] at hP; injection Option.some.inj hP
    subst hTT
    refine assign2 hh (hxi C) (hxc C) (by simp [compEnvC, relabel, hkind]) (ht.at fun o e => F₁.keep _ _ e) F₁ N₂ fun h' tk' F' N' => ?_
    refine wpAny_mono (step I C D i a b ys k m₁ h' tk' oI E' hID hDC hab hJ F' N') (fun fin s₃ h₃ => ?_) fun _ _ e => e
    obtain ⟨e1, h', tk, m₂, ys', k', e2, F₃, N₄, hj⟩ := h₃
    refine ⟨e1, h', tk, m₂, [(D, listOf (List.toArray ys') k')], e2, F₃, fun p hp => ?_, (fun p hp hq => by rw [List.mem_singleton.mp hp] at hq; exact hDI (List.mem_singleton.mp hq)), ys', k', rfl, hj⟩
    rcases List.mem_append.mp hp with h1 | h1
    · rw [hone p h1]; exact N₄ _ (.head _)
    · exact N₄ p (.tail _ h1)
  · rintro h' tk' m' news' F' N' _ ⟨ys, k, rfl, hJ⟩
    refine ⟨m', rfl, F'.ns, fun h'' hs => ?_⟩
    have hC0 : s.heap.get? C = none := by
      cases e : s.heap.get? C with
      | none => rfl
      | some o => exact absurd (Nat.lt_of_lt_of_le (Heap.lt_size e) F.above) (Nat.lt_irrefl _)
    have hD := N' _ (.head _)
    exact hQ D h'' tk' ys k (fun b o e => hs.extBut b o (fun q => by rw [q, hC0] at e; cases e) (F'.keep b o e)) hD.2.2 (hs.extBut _ _ hD.2.1 hD.1) (hpr.1 ▸ hJ)
end
noncomputable def blkOf (rs : List (Str × Bool)) (size : Int) (name : Str) : List Str := (rs.filter fun r => decide (size ≤ (r.1.length : Int)) && cut name r.1).map (·.1)
theorem blk_step {rs : List (Str × Bool)} {size : Int} {name : Str} {i : Nat} {r : Str × Bool} (h : rs[i]? = some r) : blkOf (rs.take (i + 1)) size name = blkOf (rs.take i) size name ++ (if (decide (size ≤ (r.1.length : Int)) && cut name r.1) then [r.1] else []) := by
  unfold blkOf
  rw [filter_step _ _ _ _ h, List.map_append]
  congr 1
  cases (decide (size ≤ (r.1.length : Int)) && cut name r.1) <;> rfl
theorem blk_len (rs : List (Str × Bool)) (size : Int) (name : Str) : (blkOf rs size name).length ≤ rs.length := by
  unfold blkOf; rw [List.length_map]; exact List.length_filter_le _ _
/- [one for one, other in rules[:k] if len(one) >= size and name[:len(one)] == one] -/
theorem blkEval {w : World} {mean : ExcName → Option Value} {mg mb : Str → Option Value} {A : Around} {g : Heap}
  {s : Shared} {R : Heap → Prop} {env : Env} {scope : Scope} {cl : List (Str × Addr)} {iter : PySem.Expr} {p1 p2 p3 p4 p5 p6 p7 p8 p9 p10 p11 p12 p13 p14 p15 p16 p17 p18 p19 : Pos} {x1 : Nat} {cn cz : Addr} {on oz : Obj} {vs : List Value} {ps : List (Value × Value)} {rs : List (Str × Bool)} {name : Str} {tn tz : Tok} {size : Int} {Q : Value → Shared → Prop} {E : Value → Shared → Prop}
  (G : Gr w mean mg mb g) (hh : A.handled = none) (hg : env.globals = mainGlobals) (hb : env.builtins = builtinsNs)
  (hclos : closureFor scope env = pure cl) (hcell : ∀ y ∈ scope.names, y.2 ≠ .cell) (hkind : scope.kind = .function)
  (hnames : ∀ y ∈ scope.names, y.2 = .local → scope.names.lookup y.1 = some .local)
  (hko : ∀ C, (compEnvC scope cl C env).kindOf (Str.ofString "one") = some .local) (hkt : ∀ C, (compEnvC scope cl C env).kindOf (Str.ofString "other") = some .local) (hkl : ∀ C, (compEnvC scope cl C env).kindOf (Str.ofString "len") = some .globalImplicit)
  (hk1 : ∀ C, (compEnvC scope cl C env).kindOf (Str.ofString "name") = some .cell) (hk2 : ∀ C, (compEnvC scope cl C env).kindOf (Str.ofString "size") = some .cell)
  (hc1 : cl.lookup (Str.ofString "name") = some cn) (hd1 : on.data = .cell (some (.str name tn)))
  (hc2 : cl.lookup (Str.ofString "size") = some cz) (hd2 : oz.data = .cell (some (.int size tz)))
  (hit : ∀ (Q E : Value → Shared → Prop), (∀ l h' tk, R h' → h'.IsList l vs.toArray → Q (.ref l) { s with heap := h', toks := tk }) → wpAny (model PySem.Challenge.rw_nq0100_01.row.prog w) A (eval iter env) Q E s)
  (hR : ∀ h', R h' → g.StaysIn h' ∧ h'.get? cn = some on ∧ h'.get? cz = some oz ∧ PairsAt h' vs ps) (hpl : ps.length = rs.length) (hpa : ∀ (i : Nat) (r : Str × Bool), rs[i]? = some r → ∃ t b, ps[i]? = some (Value.str r.1 t, b)) (hfl : ∀ r ∈ rs, r.1.length ≤ 64) (hrn : rs.length ≤ 1000) (hnl : name.length ≤ 64)
  (hs : ∀ x, foldedSetIterable iter env x = pure x)
  (ret : ∀ D h0 h' tk ys k, R h0 → h0.StaysIn h' → h0.get? D = none → h'.get? D = some (listOf (List.toArray ys) k) → StrsAre ys (blkOf rs size name) → Q (.ref D) { s with heap := h', toks := tk }) :
  wpAny (model PySem.Challenge.rw_nq0100_01.row.prog w) A (eval (.ListComp (.Name (Str.ofString "one") p1) [⟨.Tuple [.Name (Str.ofString "one") p2, .Name (Str.ofString "other") p3] x1 p4, iter, [.BoolOp .And [.Compare (.Call (.Name (Str.ofString "len") p5) [.Name (Str.ofString "one") p6] [] p7) [.GtE] [.Name (Str.ofString "size") p8] p9, .Compare (.Subscript (.Name (Str.ofString "name") p10) (.Slice none (some (.Call (.Name (Str.ofString "len") p11) [.Name (Str.ofString "one") p12] [] p13)) none p14) p15) [.Eq] [.Name (Str.ofString "one") p16] p17] p18], 0⟩] scope p19) env) Q E s := by
  refine compEvalG hclos hcell hkind hnames (hit _ _ (fun l h0 tk0 r0 hl0 => ?_)) hs
  obtain ⟨st, ho1, ho2, hpr⟩ := hR h0 r0
  have X := G.X.keeps st
  have T := G.T.keeps st
  revert X; k_fill; intro X
  refine compListP (s := { s with heap := h0, toks := tk0 }) hl0 hpr hh (fun I C D => turn_11 _ _ _ _ _ _ _ _ _) hko hkt hkind (fun i ys => StrsAre ys (blkOf (rs.take i) size name)) .nil ?_ ?_
  · rintro I C D i a b ys k m₁ h₁ tk₁ oI E' hID hDC hab hys F1 N1
    obtain ⟨⟨one, oth⟩, hri⟩ : ∃ r, rs[i]? = some r := by
      have hlt : i < ps.length := by
        rcases Nat.lt_or_ge i ps.length with h | h
        · exact h
        · rw [List.getElem?_eq_none h] at hab; cases hab
      exact ⟨_, List.getElem?_eq_getElem (hpl ▸ hlt)⟩
    obtain ⟨to, bo, hq⟩ := hpa i _ hri
    rw [hab] at hq
    obtain ⟨rfl, rfl⟩ := Prod.mk.inj (Option.some.inj hq)
    have F2 := fr_overA [(Str.ofString "one", .str one to)] F1 ⟨set2_1 rfl, trivial⟩
    clear F1
    dsimp only at F2 N1 X T ho1 ho2
    have hol : one.length ≤ 64 := hfl _ (List.mem_of_getElem? hri)
    have hsk : (compEnvC scope cl C env).scope.kind = .function := hkind
    have nd : I ≠ D := Nat.ne_of_lt hID
    have ly : ys.length ≤ 1000 := by
      rw [hys.length]
      exact Nat.le_trans (blk_len _ _ _) (Nat.le_trans (by rw [List.length_take]; exact Nat.min_le_right _ _) hrn)
    have step := blk_step (size := size) (name := name) hri
    refine mid_if ?_
    iterate 3 walk1
    k_dflt (refine' nm_built (x := Str.ofString "len") F2 X T ?e ?v ?n ?_ hg hb hsk (hkl C); (case e => k_is); (case v => rfl); (case n => decide))
    iterate 2 walk1
    refine nm_own F2 (by with_unfolding_all rfl) ?_ hsk (hko C)
    iterate 2 walk1
    refine nm_cell F2 hc2 ho2 hd2 ?_ hsk (hk2 C)
    iterate 3 walk1
    · rename (size ≤ ↑one.length) => hz
      have hz' : decide (size ≤ ((one, oth).1.length : Int)) = true := decide_eq_true hz
      rw [hz', Bool.true_and] at step
      iterate 3 walk1
      refine nm_cell F2 hc1 ho1 hd1 ?_ hsk (hk1 C)
      iterate 4 walk1
      k_dflt (refine' nm_built (x := Str.ofString "len") F2 X T ?e ?v ?n ?_ hg hb hsk (hkl C); (case e => k_is); (case v => rfl); (case n => decide))
      iterate 2 walk1
      refine nm_own F2 (by with_unfolding_all rfl) ?_ hsk (hko C)
      iterate 3 walk1
      refine slice_strN_ns (hsz := by rw [sizeLine_eq]; omega) (s := ⟨_, _, _, _, _⟩) (by k_asm) (by k_asm) (fun h3 t3 k3 F3 N3 => ?_)
      clear F2 N1
      refine nm_own F3 (by with_unfolding_all rfl) ?_ hsk (hko C)
      iterate 3 walk1
      · rename ((Txt.slice name none (some ↑one.length) == one) = true) => hcut
        have hcut' : cut name (one, oth).1 = true := hcut
        walk1
        rw [if_pos rfl]
        refine nm_own F3 (by with_unfolding_all rfl) ?_ hsk (hko C)
        refine append_K F3 N3 (.tail nd (.head (fun q hq => nomatch hq))) (fun h4 F4 N4 => ?_) (by simp only [List.size_toArray, sizeLine_eq]; omega)
        rw [push_list] at N4
        refine ⟨trivial, _, _, _, _, _, rfl, F4, N4, ?_⟩
        rw [step, hcut', if_pos rfl]
        exact StrsAre.append' hys (.cons _ _ .nil)
      · rename ((Txt.slice name none (some ↑one.length) == one) = false) => hcut
        have hcut' : cut name (one, oth).1 = false := hcut
        rw [if_neg (by decide)]
        refine ⟨trivial, _, _, _, _, _, rfl, F3, N3, ?_⟩
        rw [step, hcut', if_neg (by decide), List.append_nil]
        exact hys
    · rename (¬ size ≤ ↑one.length) => hz
      have hz' : decide (size ≤ ((one, oth).1.length : Int)) = false := decide_eq_false hz
      rw [if_neg (by decide)]
      refine ⟨trivial, _, _, _, _, _, rfl, F2, N1, ?_⟩
      rw [step, hz', Bool.false_and, if_neg (by decide), List.append_nil]
      exact hys
  · rintro D h' tk ys k st' hD hget hys
    rw [hpl, List.take_length] at hys
    exact ret D h0 h' tk ys k r0 st' hD hget hys
end Mine

end
section
open PySem PySem.W PySem.Calls PyProof.Rows PyProof.Rows.TI
namespace Mine
noncomputable def turnedOf (ms : List Str) (rs : List (Str × Bool)) (size : Int) : List Str := ms.filter fun n => (blkOf rs size n).isEmpty
theorem blk_mem {rs : List (Str × Bool)} {size : Int} {name x : Str} (h : x ∈ blkOf rs size name) : ∃ r ∈ rs, x = r.1 := by
  unfold blkOf at h
  obtain ⟨r, hr, rfl⟩ := List.mem_map.mp h
  exact ⟨r, (List.mem_filter.mp hr).1, rfl⟩
theorem turnedEval {w : World} {mean : ExcName → Option Value} {mg mb : Str → Option Value} {A : Around} {g : Heap}
  {s : Shared} {env : Env} {scope scope2 : Scope} {cl : List (Str × Addr)} {cl2 : Addr → List (Str × Addr)} {iter : PySem.Expr} {q1 q2 q3 q4 q5 q6 q7 q8 q9 p1 p2 p3 p4 p5 p6 p7 p8 p9 p10 p11 p12 p13 p14 p15 p16 p17 p18 p19 : Pos} {x1 : Nat} {ma cr ck cz rl : Addr} {or ok oz : Obj} {mv rv : List Value} {ps : List (Value × Value)} {ms : List Str} {rs : List (Str × Bool)} {kk : Nat} {tk₀ tz : Tok} {size : Int} {Q : Value → Shared → Prop} {E : Value → Shared → Prop}
  (G : Gr w mean mg mb g) (st : g.StaysIn s.heap) (hh : A.handled = none) (hun : A.units + 64 < cLine) (hg : env.globals = mainGlobals) (hb : env.builtins = builtinsNs)
  (hclos : closureFor scope env = pure cl) (hkind : scope.kind = .function) (hnames : ∀ y ∈ scope.names, y.2 = .local → scope.names.lookup y.1 = some .local)
  (hpc : ∀ h, pushCells h scope.names = h.push cellNone) (hcf : ∀ a, cellsFrom a scope.names cl = (Str.ofString "name", a) :: cl)
  (hx : ∀ C, (compEnvC scope ((Str.ofString "name", C + 1) :: cl) C env).kindOf (Str.ofString "name") = some .cell)
  (hk1 : ∀ C, (compEnvC scope ((Str.ofString "name", C + 1) :: cl) C env).kindOf (Str.ofString "rules") = some .cell) (hk2 : ∀ C, (compEnvC scope ((Str.ofString "name", C + 1) :: cl) C env).kindOf (Str.ofString "k") = some .cell)
  (hc1 : ∀ C, ((Str.ofString "name", C + 1) :: cl).lookup (Str.ofString "rules") = some cr) (ho1 : s.heap.get? cr = some or) (hd1 : or.data = .cell (some (.ref rl)))
  (hc2 : ∀ C, ((Str.ofString "name", C + 1) :: cl).lookup (Str.ofString "k") = some ck) (ho2 : s.heap.get? ck = some ok) (hd2 : ok.data = .cell (some (.int kk tk₀)))
  (hclos2 : ∀ C, closureFor scope2 (compEnvC scope ((Str.ofString "name", C + 1) :: cl) C env) = pure (cl2 C)) (hcell2 : ∀ y ∈ scope2.names, y.2 ≠ .cell) (hkind2 : scope2.kind = .function)
  (hnames2 : ∀ y ∈ scope2.names, y.2 = .local → scope2.names.lookup y.1 = some .local)
  (hko : ∀ C C2, (compEnvC scope2 (cl2 C) C2 (compEnvC scope ((Str.ofString "name", C + 1) :: cl) C env)).kindOf (Str.ofString "one") = some .local) (hkt : ∀ C C2, (compEnvC scope2 (cl2 C) C2 (compEnvC scope ((Str.ofString "name", C + 1) :: cl) C env)).kindOf (Str.ofString "other") = some .local) (hkl : ∀ C C2, (compEnvC scope2 (cl2 C) C2 (compEnvC scope ((Str.ofString "name", C + 1) :: cl) C env)).kindOf (Str.ofString "len") = some .globalImplicit)
  (hk3 : ∀ C C2, (compEnvC scope2 (cl2 C) C2 (compEnvC scope ((Str.ofString "name", C + 1) :: cl) C env)).kindOf (Str.ofString "name") = some .cell) (hk4 : ∀ C C2, (compEnvC scope2 (cl2 C) C2 (compEnvC scope ((Str.ofString "name", C + 1) :: cl) C env)).kindOf (Str.ofString "size") = some .cell)
  (hc3 : ∀ C, (cl2 C).lookup (Str.ofString "name") = some (C + 1)) (hc4 : ∀ C, (cl2 C).lookup (Str.ofString "size") = some cz) (ho4 : s.heap.get? cz = some oz) (hd4 : oz.data = .cell (some (.int size tz)))
  (hrl : s.heap.IsList rl rv.toArray) (hpr : PairsAt s.heap rv ps) (hpl : ps.length = rs.length) (hpa : ∀ (i : Nat) (r : Str × Bool), rs[i]? = some r → ∃ t b, ps[i]? = some (Value.str r.1 t, b)) (hfl : ∀ r ∈ rs, r.1.length ≤ 64) (hok : ∀ r ∈ rs, PyData.strOk r.1 = true) (hrn : rs.length ≤ 1000)
  (hit : ∀ (Q E : Value → Shared → Prop), Q (.ref ma) s → wpAny (model PySem.Challenge.rw_nq0100_01.row.prog w) A (eval iter env) Q E s) (hma : s.heap.IsList ma mv.toArray) (hms : StrsAre mv ms) (hlen : ms.length ≤ 1000) (hnn : ∀ n ∈ ms, n.length ≤ 64)
  (hs : ∀ x, foldedSetIterable iter env x = pure x)
  (ret : ∀ D h' tk ys k, s.heap.StaysIn h' → s.heap.get? D = none → h'.get? D = some (listOf (List.toArray ys) k) → StrsAre ys (turnedOf ms (rs.take kk) size) → Q (.ref D) { s with heap := h', toks := tk }) :
  wpAny (model PySem.Challenge.rw_nq0100_01.row.prog w) A (eval (.ListComp (.Name (Str.ofString "name") q1) [⟨.Name (Str.ofString "name") q2, iter, [.Compare (.ListComp (.Name (Str.ofString "one") p1) [⟨.Tuple [.Name (Str.ofString "one") p2, .Name (Str.ofString "other") p3] x1 p4, .Subscript (.Name (Str.ofString "rules") q3) (.Slice none (some (.Name (Str.ofString "k") q4)) none q5) q6, [.BoolOp .And [.Compare (.Call (.Name (Str.ofString "len") p5) [.Name (Str.ofString "one") p6] [] p7) [.GtE] [.Name (Str.ofString "size") p8] p9, .Compare (.Subscript (.Name (Str.ofString "name") p10) (.Slice none (some (.Call (.Name (Str.ofString "len") p11) [.Name (Str.ofString "one") p12] [] p13)) none p14) p15) [.Eq] [.Name (Str.ofString "one") p16] p17] p18], 0⟩] scope2 p19) [.Eq] [.List [] q7] q8], 0⟩] scope q9) env) Q E s := by
  refine compCellList hclos hkind hnames hpc hcf hit hs hma hh (fun I C D => turn_11 _ _ _ _ _ _ _ _ _) hx (fun i ys => StrsAre ys (turnedOf (ms.take i) (rs.take kk) size)) .nil ?_ ?_
  · rintro I C D i v ys k m₁ h₁ tk₁ oI oc E' hID hDC hi hys hoc F1 N1
    obtain ⟨y, ty, rfl, hy⟩ := hms.item i v hi
    have hyl : y.length ≤ 64 := hnn y (List.mem_of_getElem? hy)
    have hsk : (compEnvC scope ((Str.ofString "name", C + 1) :: cl) C env).scope.kind = .function := hkind
    have nd : I ≠ D := Nat.ne_of_lt hID
    have ly : ys.length ≤ 1000 := by
      rw [hys.length]
      exact Nat.le_trans (List.length_filter_le _ _) (Nat.le_trans (by rw [List.length_take]; exact Nat.min_le_right _ _) hlen)
    have step : turnedOf (ms.take (i + 1)) (rs.take kk) size = turnedOf (ms.take i) (rs.take kk) size ++ (if (blkOf (rs.take kk) size y).isEmpty then [y] else []) := filter_step (fun n => (blkOf (rs.take kk) size n).isEmpty) _ _ _ hy
    refine mid_if ?_
    walk1
    refine blkEval (R := fun h' => Fr s.heap C h' m₁ ∧ News s.heap C h' [(I, oI), (D, listOf ys.toArray k), (C + 1, oc)]) (ps := ps.take kk) (rs := rs.take kk) (vs := rv.take kk) G hh hg hb (hclos2 C) hcell2 hkind2 hnames2 (hko C) (hkt C) (hkl C) (hk3 C) (hk4 C) (hc3 C) hoc (hc4 C) hd4 ?hit ?hR ?hpl ?hpa (fun r hr => hfl r (List.mem_of_mem_take hr)) (Nat.le_trans (by rw [List.length_take]; exact Nat.min_le_right _ _) hrn) hyl (by intro _; rfl) ?ret
    case hit =>
      intro Q1 E1 hq
      walk1
      refine nm_cell F1 (hc1 C) ho1 hd1 ?_ hsk (hk1 C)
      iterate 3 walk1
      refine nm_cell F1 (hc2 C) ho2 hd2 ?_ hsk (hk2 C)
      iterate 1 walk1
      have hlr : rv.length ≤ 1000 := by rw [hpr.1, hpl]; exact hrn
      refine slice_list (s := ⟨_, _, _, _, _⟩) (lo := none) (hi := some (kk : Int)) F1 N1 (hrl.at fun o e => F1.keep _ _ e) .none (.int _ _) (fun h9 F9 N9 => ?_) (by with_unfolding_all rfl) (by intro _; with_unfolding_all rfl) (by rw [sizeLine_eq]; simp; omega)
      rw [slicePick_upto'] at N9
      refine hq _ h9 _ ⟨F9, news_drop1 N9⟩ ⟨_, N9.get (.head _), rfl, _, rfl⟩
    case hR =>
      rintro h' ⟨F', N'⟩
      refine ⟨stays_trans st F'.keep, N'.get mem2, F'.keep _ _ ho4, ?_⟩
      have hpr' := hpr.keeps F'.keep
      refine ⟨by rw [List.length_take, List.length_take, hpr.1], fun j p e => ?_⟩
      rw [List.getElem?_take] at e
      split at e
      · obtain ⟨T, e1, e2⟩ := hpr'.2 j p e
        refine ⟨T, ?_, e2⟩
        rw [List.getElem?_take, if_pos (by assumption)]; exact e1
      · cases e
    case hpl => rw [List.length_take, List.length_take, hpl]
    case hpa =>
      intro j r e
      rw [List.getElem?_take] at e
      split at e
      · obtain ⟨t, b, e1⟩ := hpa j r e
        refine ⟨t, b, ?_⟩
        rw [List.getElem?_take, if_pos (by assumption)]; exact e1
      · cases e
    case ret =>
      rintro D2 h0 h2 tk2 zs k2 ⟨F0, N0⟩ keep2 hD2 hg2 hzs
      have F2 := F0.keeps keep2
      have N2 := news_comp F0 N0 keep2 hD2 hg2
      clear F0 N0 F1 N1
      dsimp only
      iterate 3 walk1
      rename Fr _ _ _ _ => F3
      rename News _ _ _ _ => N3
      refine kqd_eq (ds := (blkOf (rs.take kk) size y).map Dat.str) (es := []) N3 mem1 rfl rfl (strs_dat (news := []) hzs) (fun p hp => nomatch hp) (.head _) rfl rfl (DatAll.nil (news := [])) (fun p hp => nomatch hp) ?_ (fun d hd => nomatch hd) hun ?_
      · intro d hd
        obtain ⟨x, hx, rfl⟩ := List.mem_map.mp hd
        obtain ⟨r, hr, rfl⟩ := blk_mem hx
        show PyData.strOk r.1 = true
        exact hok r (List.mem_of_mem_take hr)
      have hdec : ∀ B : List Str, ∀ _ : Decidable (B.map Dat.str = []), decide (B.map Dat.str = []) = B.isEmpty := by
        intro B _
        cases B with
        | nil => exact decide_eq_true rfl
        | cons b r => exact decide_eq_false (by simp)
      rw [hdec]
      have N4 : News s.heap C _ [(I, oI), (D, listOf ys.toArray k), (C + 1, oc)] := fun p hp => N3 p (.tail _ (.tail _ hp))
      clear N3 N2 F2
      have nc : C + 1 ≠ D := Nat.ne_of_gt (Nat.lt_succ_of_lt hDC)
      cases he : (blkOf (rs.take kk) size y).isEmpty with
      | true =>
        walk1
        rw [if_pos rfl]
        refine wpAny_Name (wpAny_loadName_cell hsk (hx C) (by simp [compEnvC]) ⟨oc, N4.get mem2, hoc⟩ ?_) (by decide)
        refine append_K F3 N4 (.tail nd (.head (ap_cons nc ap_nil))) (fun h5 F5 N5 => ?_) (by simp only [List.size_toArray, sizeLine_eq]; omega)
        rw [push_list] at N5
        refine ⟨trivial, _, _, _, _, _, rfl, F5, N5, ?_⟩
        rw [step, he, if_pos rfl]
        exact StrsAre.append' hys (.cons _ _ .nil)
      | false =>
        walk1
        rw [if_neg (by decide)]
        refine ⟨trivial, _, _, _, _, _, rfl, F3, N4, ?_⟩
        rw [step, he, if_neg (by decide), List.append_nil]
        exact hys
  · rintro D h' tk ys k st' hD hget hys
    rw [show mv.length = ms.length from hms.length, List.take_length] at hys
    exact ret D h' tk ys k st' hD hget hys
end Mine

end
section
open PySem PySem.W PySem.Calls PyProof.Rows PyProof.Rows.TI
namespace Mine
section
variable {prog : Program} {w : World} {A : Around} {E : Value → Shared → Prop} {s : Shared} {env : Env} {h₀ : Heap} {body orelse : List Stmt} {Q : Flow → Shared → Prop} {x : Str} {px : Pos}
/- a for over a list on the ledger, one local name -/
theorem iter_listN {l : Addr} {vs : List Value} {kl : Nat} {m₀ : Str → Option Value} {news : List (Addr × Obj)} (J : Nat → (Str → Option Value) → List (Addr × Obj) → Prop)
    (hh : A.handled = none) (hx : env.kindOf x = some .local) (hp : (env.scope.kind == .class || (env.scope.kind == .module && env.locals != env.globals)) = false)
    (hl : ∀ i m news, J i m news → (l, listOf vs.toArray kl) ∈ news)
    (F : Fr h₀ env.locals s.heap m₀) (N : News h₀ env.locals s.heap news) (hj : J 0 m₀ news)
    (turn : ∀ i v m₁ news₁ h tk I oI, vs[i]? = some v → (∀ p ∈ news₁, p.1 ≠ I) → J i m₁ news₁ → Fr h₀ env.locals h (fun y => if y = x then some v else m₁ y) → News h₀ env.locals h ([(I, oI)] ++ news₁) →
      wpAny (model prog w) A (execs body env) (TurnG h₀ env.locals (J (i + 1)) [(I, oI)] s Q) E { s with heap := h, toks := tk })
    (done : ∀ m₁ news₁ h tk, J vs.length m₁ news₁ → Fr h₀ env.locals h m₁ → News h₀ env.locals h news₁ → wpAny (model prog w) A (execs orelse env) Q E { s with heap := h, toks := tk }) :
    wpAny (model prog w) A (pyIter (.ref l)) (fun it s₂ => TurnsE prog w A h₀ env (.Name x px) body orelse Q E it s₂) E s := by
  have ml := N _ (hl 0 m₀ news hj)
  have hls : s.heap.IsList l vs.toArray := N.isList (hl 0 m₀ news hj)
  have hlt : l < s.heap.objs.size := Heap.lt_size ml.1
  have hne : l ≠ s.heap.objs.size := Nat.ne_of_lt hlt
  refine wpAny_pyIter_list hls ?_
  have W := Walks.list (prog := prog) (w := w) hh s.heap.objs.size l hne vs.toArray
  have hlen : vs.toArray.size = vs.length := by simp
  rw [hlen] at W
  have hI0 : h₀.get? s.heap.objs.size = none := next_is_new F
  have hLI : env.locals ≠ s.heap.objs.size := Nat.ne_of_lt F.ns.lt
  have hnI : ∀ p ∈ news, p.1 ≠ s.heap.objs.size := fun p hp e => absurd (Heap.lt_size (N p hp).1) (e ▸ Nat.lt_irrefl _)
  have kp : s.heap.StaysIn (s.heap.push { cls := .type "list_iterator", data := .fields #[.ref l, .int 0 0] }) := fun b o e => Heap.get?_push_of_some _ e
  refine ⟨s.heap.objs.size, [s.heap.objs.size, l], [s.heap.objs.size], vs.length, _, _, _, m₀, news, J, rfl, KTurns.ofWalks (target := .Name x px) W (fun i v s Q E _ hq => wpAny_pure hq), ?_, (fun b hb => (List.mem_singleton.mp hb) ▸ hI0), (fun p hp hq => hnI p hp (List.mem_singleton.mp hq)), ⟨⟨_, Heap.get?_push_size _ rfl, rfl, rfl⟩, hls.at fun o e => kp _ _ e⟩, F.push _, (fun p hp => ⟨kp _ _ (N p hp).1, (N p hp).2⟩), hj, ?_, ?_⟩
  · intro hm
    rcases List.mem_cons.mp hm with e | hm
    · exact hLI e
    · exact ml.2.1 (List.mem_singleton.mp hm).symm
  · generalize hI : s.heap.objs.size = I at *
    rintro i v m₁ news₁ h₁ tk₁ own hin hP hJ hoff hown hownh hall hst' F₁ N₁
    obtain ⟨⟨oI, hoI, _⟩, _⟩ := id hst'
    have hP' : vs[i]? = some v := by simpa using hP
    have hIown : (I, oI) ∈ own := hall _ (.head _) hI0 _ hoI
    have hlo := (N₁ _ (List.mem_append_right own (hl i m₁ news₁ hJ))).1
    have hone : ∀ p ∈ own, p = (I, oI) ∨ p = (l, listOf vs.toArray kl) := fun p hp => by
      rcases List.mem_cons.mp (hown p hp) with e | e
      · left
        have := hownh p hp
        rw [e, hoI] at this
        exact Prod.ext e (Option.some.inj this).symm
      · right
        have e := List.mem_singleton.mp e
        have := hownh p hp
        rw [e] at this
        exact Prod.ext e (Option.some.inj (this.symm.trans hlo))
    have N₂ : News h₀ env.locals h₁ ([(I, oI)] ++ news₁) := fun p hp => by
      rcases List.mem_append.mp hp with h | h
      · rw [List.mem_singleton.mp h]; exact N₁ _ (List.mem_append_left _ hIown)
      · exact N₁ p (List.mem_append_right _ h)
    refine wpAny_assign_Name (wpAny_storeName_local hx F₁.ns (fun h₂ hn₂ hs₂ => ?_) hp)
    replace hs₂ : Heap.SameBut env.locals h₁ h₂ := hs₂
    refine wpAny_mono (turn i v m₁ news₁ h₂ _ I oI hP' (fun p hp e => hoff p hp (List.mem_singleton.mpr e)) hJ (F₁.set hn₂ hs₂) (N₂.set hs₂)) (fun f s₂ p => ?_) fun _ _ e => e
    exact turnG_step (s := s) (fun p hp => (hone p hp).elim (fun e => .inl (List.mem_singleton.mpr e)) fun e => .inr fun m news hJ => e ▸ hl _ m news hJ) wr_one p
  · intro h' tk m' news' F' N' _ hJ
    exact done m' news' h' tk hJ F' N'

/- a for over range(n), any name -/
theorem iter_rangeC {r : Addr} {n : Nat} {t u v₁ : Tok} {m₀ : Str → Option Value} {news : List (Addr × Obj)} (J : Nat → (Str → Option Value) → List (Addr × Obj) → Prop)
    (hh : A.handled = none) (hr : IsRange s.heap r 0 n 1 t u v₁) (hsm : Builtin.Range.small 0 n 1 = true) (hrs : Builtin.Range.rangeSize 0 n 1 = (n : Int))
    (F : Fr h₀ env.locals s.heap m₀) (N : News h₀ env.locals s.heap news) (hj : J 0 m₀ news)
    (turn : ∀ i t m₁ news₁ h tk I oI, i < n → (∀ p ∈ news₁, p.1 ≠ I) → J i m₁ news₁ → Fr h₀ env.locals h m₁ → News h₀ env.locals h ([(I, oI)] ++ news₁) →
      wpAny (model prog w) A (storeName env x (.int (i : Int) t)) (fun _ s₃ => wpAny (model prog w) A (execs body env) (TurnG h₀ env.locals (J (i + 1)) [(I, oI)] s Q) E s₃) E { s with heap := h, toks := tk })
    (done : ∀ m₁ news₁ h tk, J n m₁ news₁ → Fr h₀ env.locals h m₁ → News h₀ env.locals h news₁ → wpAny (model prog w) A (execs orelse env) Q E { s with heap := h, toks := tk }) :
    wpAny (model prog w) A (pyIter (.ref r)) (fun it s₂ => TurnsE prog w A h₀ env (.Name x px) body orelse Q E it s₂) E s := by
  refine wpAny_pyIter_range hr hsm ?_
  have W := Walks.range (prog := prog) (w := w) (A := A) hh s.heap.objs.size 0 1 n
  have hI0 : h₀.get? s.heap.objs.size = none := next_is_new F
  have hLI : env.locals ≠ s.heap.objs.size := Nat.ne_of_lt F.ns.lt
  have hnI : ∀ p ∈ news, p.1 ≠ s.heap.objs.size := fun p hp e => absurd (Heap.lt_size (N p hp).1) (e ▸ Nat.lt_irrefl _)
  refine ⟨s.heap.objs.size, [s.heap.objs.size], [s.heap.objs.size], n, _, _, _, m₀, news, J, rfl, KTurns.ofWalks (target := .Name x px) W (fun i v s Q E _ hq => wpAny_pure hq), ?_, (fun b hb => (List.mem_singleton.mp hb) ▸ hI0), (fun p hp hq => hnI p hp (List.mem_singleton.mp hq)), ?_, F.push _, (fun p hp => ⟨Heap.get?_push_of_some _ (N p hp).1, (N p hp).2⟩), hj, ?_, ?_⟩
  · intro hm; exact hLI (List.mem_singleton.mp hm)
  · show IsRangeIter _ _ _ _ _
    rw [hrs]
    simpa using Heap.get?_push_size _ rfl
  · generalize hI : s.heap.objs.size = I at *
    rintro i v m₁ news₁ h₁ tk₁ own hin ⟨t', rfl⟩ hJ hoff hown hownh hall hst' F₁ N₁
    have e0 : (0 : Int) + (i : Int) * 1 = (i : Int) := by omega
    rw [e0]
    obtain ⟨oI, hoI⟩ : ∃ o, h₁.get? I = some o := ⟨_, hst'⟩
    have hIown : (I, oI) ∈ own := hall _ (.head _) hI0 _ hoI
    have hone : ∀ p ∈ own, p = (I, oI) := fun p hp => by
      have e := List.mem_singleton.mp (hown p hp)
      have := hownh p hp
      rw [e, hoI] at this
      exact Prod.ext e (Option.some.inj this).symm
    have N₂ : News h₀ env.locals h₁ ([(I, oI)] ++ news₁) := fun p hp => by
      rcases List.mem_append.mp hp with h | h
      · rw [List.mem_singleton.mp h]; exact N₁ _ (List.mem_append_left _ hIown)
      · exact N₁ p (List.mem_append_right _ h)
    refine wpAny_assign_Name (wpAny_mono (turn i t' m₁ news₁ h₁ tk₁ I oI hin (fun p hp e => hoff p hp (List.mem_singleton.mpr e)) hJ F₁ N₂) (fun _ s₃ h₃ => wpAny_mono h₃ (fun f s₂ p => ?_) fun _ _ e => e) fun _ _ e => e)
    exact turnG_step (fun p hp => .inl (List.mem_singleton.mpr (hone p hp))) wr_one p
  · intro h' tk m' news' F' N' _ hJ
    exact done m' news' h' tk hJ F' N'
end
end Mine

end
section
open PySem PySem.W PySem.Calls PyProof.Rows PyProof.Rows.TI
namespace Mine
noncomputable def nameS : List Str := [Str.ofString "rg/a", Str.ofString "rg/a/b", Str.ofString "ro/a", Str.ofString "ro/a/b", Str.ofString "ru/a", Str.ofString "ru/a/b", Str.ofString "wg/a", Str.ofString "wg/a/b", Str.ofString "wo/a", Str.ofString "wo/a/b", Str.ofString "wu/a", Str.ofString "wu/a/b", Str.ofString "xg/a", Str.ofString "xg/a/b", Str.ofString "xo/a", Str.ofString "xo/a/b", Str.ofString "xu/a", Str.ofString "xu/a/b"]
noncomputable def deepT (y : Str) : Bool := Txt.slice y (some 2) none == Str.ofString "/a/b"
noncomputable def placeN (y : Str) : Nat := (3 * Txt.find (Str.ofString "ugo") (Txt.item y 1) + Txt.find (Str.ofString "rwx") (Txt.item y 0)).toNat
noncomputable def setSign (v : Bool) (ss : List Str) (y : Str) : List Str := if deepT y then ss.take (placeN y) ++ [if v then Txt.item y 0 else Str.ofString "-"] ++ ss.drop (placeN y + 1) else ss
theorem name_facts : ∀ y ∈ nameS, y.length ≤ 64 ∧ 2 ≤ y.length ∧ 0 ≤ Txt.find (Str.ofString "ugo") (Txt.item y 1) ∧ Txt.find (Str.ofString "ugo") (Txt.item y 1) ≤ 2 ∧ 0 ≤ Txt.find (Str.ofString "rwx") (Txt.item y 0) ∧ Txt.find (Str.ofString "rwx") (Txt.item y 0) ≤ 2 := by decide +kernel
theorem setSign_len (v : Bool) (ss : List Str) (y : Str) : (setSign v ss y).length ≤ ss.length + 1 := by
  unfold setSign
  split
  · simp only [List.length_append, List.length_take, List.length_drop, List.length_cons, List.length_nil]; omega
  · omega
theorem fold_len (v : Bool) : ∀ (ts ss : List Str), (ts.foldl (setSign v) ss).length ≤ ss.length + ts.length
  | [], ss => Nat.le_refl _
  | t :: ts, ss => by
    have h1 := fold_len v ts (setSign v ss t)
    have h2 := setSign_len v ss t
    simp only [List.foldl_cons, List.length_cons]
    omega
theorem AllIs.set {m : Str → Option Value} {x : Str} {v : Value} : ∀ {ps : List (Str × Value)}, AllIs m ps → (ps.all fun p => !(p.1 == x)) = true → AllIs (fun y => if y = x then some v else m y) ps
  | [], _, _ => trivial
  | p :: r, h, k => by
    rw [List.all_cons, Bool.and_eq_true, Bool.not_eq_true'] at k
    exact ⟨set_ne k.1 h.1, AllIs.set h.2 k.2⟩
theorem strs_take {vs : List Value} {xs : List Str} (h : StrsAre vs xs) : ∀ n, StrsAre (vs.take n) (xs.take n) := by
  induction h with
  | nil => intro n; rw [List.take_nil, List.take_nil]; exact .nil
  | cons x t r ih =>
    intro n
    cases n with
    | zero => exact .nil
    | succ n => exact .cons x t (ih n)
theorem strs_drop {vs : List Value} {xs : List Str} (h : StrsAre vs xs) : ∀ n, StrsAre (vs.drop n) (xs.drop n) := by
  induction h with
  | nil => intro n; rw [List.drop_nil, List.drop_nil]; exact .nil
  | cons x t r ih =>
    intro n
    cases n with
    | zero => exact .cons x t r
    | succ n => exact ih n
noncomputable def CallForm (env : Env) (o : PySem.Expr) (name : Str) (apos : Pos) (args : List PySem.Expr) (pos : Pos) (pl : Sem Bool) : Prop := eval (.Call (.Attribute o name apos) args [] pos) env = (do
      let ov ← eval o env
      standAt apos.atName
      let (f, first) ← holding [ov] (getMethod ov name pl)
      callWith pos f first (backTo pos (starEach args env)) [])
theorem MethodCallX {M : Model} {A : Around} {E : Value → Shared → Prop} {s : Shared} {env : Env} {o : PySem.Expr} {name : Str} {apos pos : Pos} {args : List PySem.Expr} {pl : Sem Bool} {Q : Value → Shared → Prop}
    (h : wpAny M A (eval o env) (fun ov s₁ => wpAny M A (getMethod ov name pl) (fun fx s₂ => wpAny M A (callWith pos fx.1 fx.2 (backTo pos (starEach args env)) []) Q E s₂) E s₁) E s)
    (he : CallForm env o name apos args pos pl) : wpAny M A (eval (.Call (.Attribute o name apos) args [] pos) env) Q E s := MethodCall_ h he
/- what the loop over the turned names leaves -/
inductive SJ (news₀ : List (Addr × Obj)) (p₀ : Addr × Obj) (kn : List (Str × Value)) (ss₀ : List Str) (verdict : Bool) (ts : List Str) (i : Nat) (m : Str → Option Value) (news : List (Addr × Obj)) : Prop
  | mk (ex : List (Addr × Obj)) (sa : Addr) (sv : List Value) (ks : Nat) (e : news = ex ++ news₀) (hex : ∀ p ∈ ex, ∀ q ∈ news₀, q.1 ≠ p.1) (hsa : (sa, listOf (List.toArray sv) ks) ∈ ex ++ [p₀]) (hsv : StrsAre sv ((ts.take i).foldl (setSign verdict) ss₀)) (okm : AllIs m ((Str.ofString "signs", Value.ref sa) :: kn))
theorem signs_end {h₀ h14 : Heap} {L I q5 sa1 : Addr} {oI : Obj} {s s' : Shared} {tk p : Nat} {tc tp ty : Tok} {c y : Str} {sv1 : List Value} {ssi ss₀ ts : List Str} {m5 : Str → Option Value} {kn : List (Str × Value)} {ex news₀ : List (Addr × Obj)} {d1 d2 d3 d4 p₀ : Addr × Obj} {verdict : Bool} {i : Nat} {Q : Flow → Shared → Prop}
    (hs' : s' = { s with heap := h14, toks := tk })
    (F14 : Fr h₀ L h14 (fun y_1 => if y_1 = Str.ofString "signs" then some (.ref q5) else over ((Str.ofString "place", Value.int (p : Int) tp) :: (Str.ofString "name", .str y ty) :: (Str.ofString "signs", .ref sa1) :: kn) m5 y_1))
    (N14 : News h₀ L h14 ((q5, { cls := .type "list", data := .seq (sv1.take p ++ [Value.str c tc] ++ sv1.drop (p + 1)).toArray }) :: d1 :: d2 :: d3 :: d4 :: ([(I, oI)] ++ (ex ++ news₀))))
    (hI : I < q5) (hex : ∀ p ∈ ex, ∀ q ∈ news₀, q.1 ≠ p.1) (hnew : ∀ q ∈ news₀, q.1 ≠ q5) (hoff : ∀ p ∈ ex ++ news₀, p.1 ≠ I) (ok5 : AllIs m5 ((Str.ofString "place", Value.int (p : Int) tp) :: (Str.ofString "name", .str y ty) :: (Str.ofString "signs", .ref sa1) :: kn)) (g3 : (kn.all fun p => !(p.1 == Str.ofString "signs")) = true)
    (hss1 : StrsAre sv1 ssi) (hst : (ts.take (i + 1)).foldl (setSign verdict) ss₀ = ssi.take p ++ [c] ++ ssi.drop (p + 1)) :
    TurnG h₀ L (SJ news₀ p₀ kn ss₀ verdict ts (i + 1)) [(I, oI)] s Q .next s' := by
  subst hs'
  have mI : (I, oI) ∈ [(I, oI)] ++ (ex ++ news₀) := .head _
  refine ⟨_, _, _, (q5, listOf (sv1.take p ++ [Value.str c tc] ++ sv1.drop (p + 1)).toArray 0) :: (ex ++ news₀), rfl, F14, ?_, ?_, (q5, listOf (sv1.take p ++ [Value.str c tc] ++ sv1.drop (p + 1)).toArray 0) :: ex, q5, (sv1.take p ++ [Value.str c tc] ++ sv1.drop (p + 1)), 0, rfl, ?_, List.Mem.head _, ?_, ⟨set_eq, ?_⟩⟩
  · exact news_cons (N14 _ (.tail _ (.tail _ (.tail _ (.tail _ (.tail _ mI)))))) (news_cons (N14 _ (.head _)) (fun p hp => N14 p (.tail _ (.tail _ (.tail _ (.tail _ (.tail _ (List.mem_append_right [(I, oI)] hp))))))))
  · intro p hp q hq
    rw [List.mem_singleton.mp hq]
    rcases List.mem_cons.mp hp with e | hp
    · rw [e]; exact Nat.ne_of_gt hI
    · exact hoff p hp
  · intro p hp
    rcases List.mem_cons.mp hp with e | hp
    · rw [e]; exact hnew
    · exact hex p hp
  · rw [hst]
    exact StrsAre.append' (StrsAre.append' (strs_take hss1 p) (.cons _ _ .nil)) (strs_drop hss1 (p + 1))
  · rw [over_eq ok5.mem]
    exact AllIs.set ok5.2.2.2 g3
theorem signsLoop {w : World} {A : Around} {h₀ : Heap} {s : Shared} {cn : Str} {cs : Scope} {L a : Addr} {ccd : Value} {cl : List (Str × Addr)} {m : Str → Option Value} {news₀ : List (Addr × Obj)} {kn : List (Str × Value)} {ta sa cv : Addr} {ov : Obj} {tv sv : List Value} {kt ks : Nat} {ts ss₀ : List Str} {verdict : Bool}
  {b1 c1 c2 c3 c4 c5 c6 d1 d2 d3 d4 d5 d6 d7 d8 d9 d10 d11 d12 d13 d14 d15 d16 d17 e1 e2 e3 e4 e5 e6 e7 e8 e9 e10 e11 e12 e13 e14 e15 e16 e17 e18 e19 e20 e21 f1 f2 : Pos} {it : PySem.Expr} {Q : Flow → Shared → Prop} {E : Value → Shared → Prop}
  (hh : A.handled = none) (hk : cs.kind = .function) (F : Fr h₀ L s.heap m) (N : News h₀ L s.heap news₀)
  (k1 : (envX cn cs L a ccd cl).kindOf (Str.ofString "name") = some .local) (k2 : (envX cn cs L a ccd cl).kindOf (Str.ofString "place") = some .local) (k3 : (envX cn cs L a ccd cl).kindOf (Str.ofString "signs") = some .local) (k4 : (envX cn cs L a ccd cl).kindOf (Str.ofString "verdict") = some .cell)
  (hcv : cl.lookup (Str.ofString "verdict") = some cv) (hov : (cv, ov) ∈ news₀) (hdv : ov.data = .cell (some (.bool verdict)))
  (hit : ∀ (Q E : Value → Shared → Prop), Q (.ref ta) s → wpAny (model PySem.Challenge.rw_nq0100_01.row.prog w) A (eval it (envX cn cs L a ccd cl)) Q E s) (hs : ∀ x, foldedSetIterable it (envX cn cs L a ccd cl) x = pure x)
  (hta : (ta, listOf tv.toArray kt) ∈ news₀) (hts : StrsAre tv ts) (htn : ∀ y ∈ ts, y ∈ nameS) (htl : ts.length ≤ 1000)
  (hsa : (sa, listOf sv.toArray ks) ∈ news₀) (hss : StrsAre sv ss₀) (hsl : ss₀.length ≤ 1000) (hm : AllIs m ((Str.ofString "signs", Value.ref sa) :: kn))
  (g1 : (kn.all fun p => !(p.1 == Str.ofString "name")) = true) (g2 : (kn.all fun p => !(p.1 == Str.ofString "place")) = true) (g3 : (kn.all fun p => !(p.1 == Str.ofString "signs")) = true)
  (hE : PassesOwn (model PySem.Challenge.rw_nq0100_01.row.prog w) A (envX cn cs L a ccd cl) E)
  (pl1 pl2 : Sem Bool) (hcall1 : CallForm (envX cn cs L a ccd cl) (.Constant (.str (Str.ofString "ugo")) 0 d3) (Str.ofString "index") d4 [.Subscript (.Name (Str.ofString "name") d5) (.Constant (.int 1) 0 d6) d7] d8 pl1)
  (hcall2 : CallForm (envX cn cs L a ccd cl) (.Constant (.str (Str.ofString "rwx")) 0 d10) (Str.ofString "index") d11 [.Subscript (.Name (Str.ofString "name") d12) (.Constant (.int 0) 0 d13) d14] d15 pl2)
  (ret : ∀ h' tk m' news', Fr h₀ L h' m' → News h₀ L h' news' → SJ news₀ (sa, listOf sv.toArray ks) kn ss₀ verdict ts ts.length m' news' → Q .next { s with heap := h', toks := tk }) :
  wpAny (model PySem.Challenge.rw_nq0100_01.row.prog w) A (exec (.For (.Name (Str.ofString "name") b1) it [.If (.Compare (.Subscript (.Name (Str.ofString "name") c1) (.Slice (some (.Constant (.int 2) 0 c2)) none none c3) c4) [.Eq] [.Constant (.str (Str.ofString "/a/b")) 0 c5] c6) [
    .Assign [.Name (Str.ofString "place") d1] (.BinOp (.BinOp (.Constant (.int 3) 0 d2) .Mult (.Call (.Attribute (.Constant (.str (Str.ofString "ugo")) 0 d3) (Str.ofString "index") d4) [.Subscript (.Name (Str.ofString "name") d5) (.Constant (.int 1) 0 d6) d7] [] d8) d9) .Add (.Call (.Attribute (.Constant (.str (Str.ofString "rwx")) 0 d10) (Str.ofString "index") d11) [.Subscript (.Name (Str.ofString "name") d12) (.Constant (.int 0) 0 d13) d14] [] d15) d16) d17,
    .Assign [.Name (Str.ofString "signs") e1] (.BinOp (.BinOp (.Subscript (.Name (Str.ofString "signs") e2) (.Slice none (some (.Name (Str.ofString "place") e3)) none e4) e5) .Add (.List [.IfExp (.Name (Str.ofString "verdict") e6) (.Subscript (.Name (Str.ofString "name") e7) (.Constant (.int 0) 0 e8) e9) (.Constant (.str (Str.ofString "-")) 0 e10) e11] e12) e13) .Add (.Subscript (.Name (Str.ofString "signs") e14) (.Slice (some (.BinOp (.Name (Str.ofString "place") e15) .Add (.Constant (.int 1) 0 e16) e17)) none none e18) e19) e20) e21] [] f1] [] f2) (envX cn cs L a ccd cl)) Q E s := by
  refine For_turnsE F (hit _ _ ?_) hs hE
  refine iter_listN (l := ta) (vs := tv) (kl := kt) (SJ news₀ (sa, listOf sv.toArray ks) kn ss₀ verdict ts) hh k1 (by show (cs.kind == .class || (cs.kind == .module && L != mainGlobals)) = false; rw [hk]; rfl) (fun i m news x => by cases x with | mk ex _ _ _ e _ _ _ _ => rw [e]; exact List.mem_append_right _ hta) F N ⟨[], sa, sv, ks, rfl, (fun p hp => nomatch hp), .head _, hss, hm⟩ ?_ ?_
  · rintro i v m₁ news₁ h₁ tk₁ I oI hi hoff ⟨ex, sa1, sv1, ks1, rfl, hex, hsa0, hss1, hm1⟩ F1 N1
    have hsa1 : (sa1, listOf (List.toArray sv1) ks1) ∈ ex ++ news₀ := (List.mem_append.mp hsa0).elim (fun h => List.mem_append_left _ h) (fun h => List.mem_append_right _ (by rw [List.mem_singleton.mp h]; exact hsa))
    obtain ⟨y, ty, rfl, hy⟩ := hts.item i v hi
    obtain ⟨n1, n2, n3, n4, n5, n6⟩ := name_facts y (htn y (List.mem_of_getElem? hy))
    have step : (ts.take (i + 1)).foldl (setSign verdict) ss₀ = setSign verdict ((ts.take i).foldl (setSign verdict) ss₀) y := by rw [take_snoc hy, List.foldl_append]; rfl
    have slen : sv1.length ≤ 2000 := by
      rw [hss1.length]
      have := fold_len verdict (ts.take i) ss₀
      rw [List.length_take] at this
      omega
    generalize hT : (ts.take i).foldl (setSign verdict) ss₀ = ssi at hss1 step
    have okn : AllIs (fun y_2 => if y_2 = Str.ofString "name" then some (Value.str y ty) else m₁ y_2) ((Str.ofString "name", .str y ty) :: (Str.ofString "signs", .ref sa1) :: kn) := ⟨set_eq, set_ne rfl hm1.1, AllIs.set hm1.2 g1⟩
    have F2 := fr_overA _ F1 okn
    clear F1
    (try dsimp only)
    iterate 4 walk1
    refine nameX_L F2 (by with_unfolding_all rfl) ?_ hk k1
    iterate 5 walk1
    refine slice_strN_sn (hsz := by rw [sizeLine_eq]; omega) (s := ⟨_, _, _, _, _⟩) (by k_asm) (by k_asm) (fun h3 t3 j3 F3 N3 => ?_)
    clear F2 N1
    iterate 4 walk1
    · rename ((Txt.slice y (some 2) none == Str.ofString "/a/b") = true) => hdp
      have hdp' : deepT y = true := hdp
      iterate 5 walk1
      with_reducible refine MethodCallX ?_ hcall1
      iterate 5 walk1
      refine nameX_L F3 (by with_unfolding_all rfl) ?_ hk k1
      walk1
      refine item_str (by decide) (by omega) (by omega) (fun _ => ?_)
      walk1
      refine index_or hh ?io1 ?io2
      case io1 => intro e; omega
      intro _ _
      iterate 1 walk1
      with_reducible refine MethodCallX ?_ hcall2
      iterate 5 walk1
      refine nameX_L F3 (by with_unfolding_all rfl) ?_ hk k1
      walk1
      refine item_str (by decide) (by omega) (by omega) (fun _ => ?_)
      walk1
      refine index_or hh ?io3 ?io4
      case io3 => intro e; omega
      intro _ _
      iterate 1 walk1
      refine storeX_L F3 N3 (fun h4 F4 N4 => ?_) hk k2
      clear F3 N3
      have hP : 3 * Txt.find (Str.ofString "ugo") (Txt.item y 1) + Txt.find (Str.ofString "rwx") (Txt.item y 0) = ((placeN y : Nat) : Int) := by unfold placeN; omega
      have hm5 : ∀ tp, AllIs (fun y_1 => if y_1 = Str.ofString "place" then some (Value.int ((placeN y : Nat) : Int) tp) else over ((Str.ofString "name", .str y ty) :: (Str.ofString "signs", .ref sa1) :: kn) (fun y_2 => if y_2 = Str.ofString "name" then some (Value.str y ty) else m₁ y_2) y_1) ((Str.ofString "place", Value.int ((placeN y : Nat) : Int) tp) :: (Str.ofString "name", .str y ty) :: (Str.ofString "signs", .ref sa1) :: kn) := fun tp =>
        ⟨rfl, AllIs.set (ps := (Str.ofString "name", .str y ty) :: (Str.ofString "signs", .ref sa1) :: kn) (by rw [over_eq okn.mem]; exact okn) (by rw [List.all_cons, List.all_cons, g2]; rfl)⟩
      rw [hP] at F4
      obtain ⟨tp, m5, ok5, F5⟩ : ∃ tp m5, AllIs m5 ((Str.ofString "place", Value.int ((placeN y : Nat) : Int) tp) :: (Str.ofString "name", .str y ty) :: (Str.ofString "signs", .ref sa1) :: kn) ∧ Fr h₀ L h4 m5 := ⟨_, _, hm5 _, F4⟩
      clear hm5 F4
      generalize hpn : placeN y = p at *
      have F6 := fr_overA _ F5 ok5
      clear F5
      iterate 5 walk1
      refine nameX_L F6 (by with_unfolding_all rfl) ?_ hk k3
      iterate 3 walk1
      refine nameX_L F6 (by with_unfolding_all rfl) ?_ hk k2
      walk1
      refine slice_list (s := ⟨_, _, _, _, _⟩) (lo := none) (hi := some (p : Int)) F6 N4 (N4.isList (.tail _ hsa1)) .none (.int _ _) (fun h7 F7 N7 => ?_) (by with_unfolding_all rfl) (by intro _; with_unfolding_all rfl) (by rw [sizeLine_eq]; simp; omega)
      rw [slicePick_upto'] at N7
      clear F6 N4
      rw [show sv1.toArray.toList = sv1 from rfl] at N7
      have iI := Heap.lt_size (N7 (I, oI) (.tail _ (.head _))).1
      dsimp only
      generalize h4.objs.size + 1 = q1 at *
      iterate 3 walk1
      refine isTrue_plain ?_
      refine nameX_C N7 hcv (List.mem_cons_of_mem _ (List.mem_append_right [(I, oI)] (List.mem_append_right ex hov))) hdv ?_ hk k4
      cases verdict
      · walk1
        rw [if_neg (by decide)]
        iterate 3 walk1
        rename Fr _ _ _ _ => F9
        rename News _ _ _ _ => N9
        refine add_lists (vs := sv1.take p) (ws := [.str (Str.ofString "-") _]) F9 N9 (N9.isList mem1) (N9.isList (.head _)) (fun h10 F10 N10 => ?_) (by rw [sizeLine_eq]; simp only [List.length_take, List.length_cons, List.length_nil]; omega)
        clear F9 N9 F7 N7
        iterate 1 walk1
        refine nameX_L F10 (by with_unfolding_all rfl) ?_ hk k3
        iterate 3 walk1
        refine nameX_L F10 (by with_unfolding_all rfl) ?_ hk k2
        iterate 4 walk1
        have mI : (I, oI) ∈ [(I, oI)] ++ (ex ++ news₀) := .head _
        refine slice_list (s := ⟨_, _, _, _, _⟩) (lo := some ((p : Int) + 1)) (hi := none) F10 N10 (N10.isList (.tail _ (.tail _ (.tail _ (List.mem_append_right [(I, oI)] hsa1))))) (.int _ _) .none (fun h12 F12 N12 => ?_) (by with_unfolding_all rfl) (by intro _; with_unfolding_all rfl) (by rw [sizeLine_eq]; simp; omega)
        rw [show ((p : Int) + 1) = ((p + 1 : Nat) : Int) from rfl, slicePick_from', show sv1.toArray.toList = sv1 from rfl] at N12
        clear F10 N10
        have iI2 := Heap.lt_size (N12 (I, oI) (.tail _ (.tail _ (.tail _ (.tail _ mI))))).1
        have hnw := fun (q : Addr × Obj) (hq : q ∈ news₀) => Nat.ne_of_lt (Heap.lt_size (N12 q (.tail _ (.tail _ (.tail _ (.tail _ (List.mem_append_right [(I, oI)] (List.mem_append_right ex hq))))))).1)
        refine add_lists (vs := sv1.take p ++ [.str (Str.ofString "-") _]) (ws := sv1.drop (p + 1)) F12 N12 (N12.isList mem1) (N12.isList (.head _)) (fun h13 F13 N13 => ?_) (by rw [sizeLine_eq]; simp only [List.length_append, List.length_drop, List.length_take, List.length_cons, List.length_nil]; omega)
        refine storeX_L F13 N13 (fun h14 F14 N14 => ?_) hk k3
        clear F12 N12 F13 N13
        iterate 2 walk1
        exact signs_end rfl F14 N14 iI2 hex hnw hoff ok5 g3 hss1 (by rw [step, setSign, hdp', if_pos rfl, hpn, if_neg (by decide)])
      · walk1
        rw [if_pos rfl]
        walk1
        refine nameX_L F7 (by with_unfolding_all rfl) ?_ hk k1
        walk1
        refine item_str (by decide) (by omega) (by omega) (fun _ => ?_)
        iterate 2 walk1
        rename Fr _ _ _ _ => F9
        rename News _ _ _ _ => N9
        refine add_lists (vs := sv1.take p) (ws := [.str (Txt.item y 0) _]) F9 N9 (N9.isList mem1) (N9.isList (.head _)) (fun h10 F10 N10 => ?_) (by rw [sizeLine_eq]; simp only [List.length_take, List.length_cons, List.length_nil]; omega)
        clear F9 N9 F7 N7
        iterate 1 walk1
        refine nameX_L F10 (by with_unfolding_all rfl) ?_ hk k3
        iterate 3 walk1
        refine nameX_L F10 (by with_unfolding_all rfl) ?_ hk k2
        iterate 4 walk1
        have mI : (I, oI) ∈ [(I, oI)] ++ (ex ++ news₀) := .head _
        refine slice_list (s := ⟨_, _, _, _, _⟩) (lo := some ((p : Int) + 1)) (hi := none) F10 N10 (N10.isList (.tail _ (.tail _ (.tail _ (List.mem_append_right [(I, oI)] hsa1))))) (.int _ _) .none (fun h12 F12 N12 => ?_) (by with_unfolding_all rfl) (by intro _; with_unfolding_all rfl) (by rw [sizeLine_eq]; simp; omega)
        rw [show ((p : Int) + 1) = ((p + 1 : Nat) : Int) from rfl, slicePick_from', show sv1.toArray.toList = sv1 from rfl] at N12
        clear F10 N10
        have iI2 := Heap.lt_size (N12 (I, oI) (.tail _ (.tail _ (.tail _ (.tail _ mI))))).1
        have hnw := fun (q : Addr × Obj) (hq : q ∈ news₀) => Nat.ne_of_lt (Heap.lt_size (N12 q (.tail _ (.tail _ (.tail _ (.tail _ (List.mem_append_right [(I, oI)] (List.mem_append_right ex hq))))))).1)
        refine add_lists (vs := sv1.take p ++ [.str (Txt.item y 0) _]) (ws := sv1.drop (p + 1)) F12 N12 (N12.isList mem1) (N12.isList (.head _)) (fun h13 F13 N13 => ?_) (by rw [sizeLine_eq]; simp only [List.length_append, List.length_drop, List.length_take, List.length_cons, List.length_nil]; omega)
        refine storeX_L F13 N13 (fun h14 F14 N14 => ?_) hk k3
        clear F12 N12 F13 N13
        iterate 2 walk1
        exact signs_end rfl F14 N14 iI2 hex hnw hoff ok5 g3 hss1 (by rw [step, setSign, hdp', if_pos rfl, hpn, if_pos rfl])
    · rename ((Txt.slice y (some 2) none == Str.ofString "/a/b") = false) => hdp
      have hdp' : deepT y = false := hdp
      iterate 2 walk1
      refine ⟨_, _, _, _, rfl, F3, N3, ?_, ex, sa1, sv1, ks1, rfl, hex, hsa0, ?_, ⟨by with_unfolding_all rfl, ?_⟩⟩
      · intro p hp q hq; rw [List.mem_singleton.mp hq]; exact hoff p hp
      · rw [step, setSign, hdp', if_neg (by decide)]; exact hss1
      · rw [over_eq okn.mem]; exact okn.2.2
  · rintro m₁ news₁ h₁ tk₁ hJ F1 N1
    rw [show tv.length = ts.length from hts.length] at hJ
    walk1
    exact ret _ _ _ _ F1 N1 hJ
end Mine

end
section
open PySem PySem.W PySem.Calls PyProof.Rows PyProof.Rows.TI
namespace Mine
noncomputable def ruleAt (rs : List (Str × Bool)) (i : Nat) : Str × Bool := (rs[i]?).getD (Str.ofString "", false)
noncomputable def sizeR (r : Str × Bool) : Int := if r.2 then (r.1.length : Int) + 1 else r.1.length
noncomputable def sign0 : List Str := [Str.ofString "r", Str.ofString "w", Str.ofString "x", Str.ofString "r", Str.ofString "w", Str.ofString "x", Str.ofString "r", Str.ofString "w", Str.ofString "x"]
noncomputable def dueSt (ns : List Str) (rs : List (Str × Bool)) : Nat → List Str × List Str
  | 0 => (ns, sign0)
  | i + 1 => (freeOf ns (dueSt ns rs i).1 (turnedOf (metOf ns (ruleAt rs i).1 (ruleAt rs i).2 (dueSt ns rs i).1) (rs.take i) (sizeR (ruleAt rs i))),
      (turnedOf (metOf ns (ruleAt rs i).1 (ruleAt rs i).2 (dueSt ns rs i).1) (rs.take i) (sizeR (ruleAt rs i))).foldl (setSign (ruleAt rs i).2) (dueSt ns rs i).2)
noncomputable def turnedAt (ns : List Str) (rs : List (Str × Bool)) (i : Nat) : List Str := turnedOf (metOf ns (ruleAt rs i).1 (ruleAt rs i).2 (dueSt ns rs i).1) (rs.take i) (sizeR (ruleAt rs i))
noncomputable def dueD (ns : List Str) (rs : List (Str × Bool)) (i : Nat) : Dat :=
  .tuple [strsD (if (ruleAt rs i).2 then [] else turnedAt ns rs i), strsD (if (ruleAt rs i).2 then turnedAt ns rs i else []), .str (Str.ofString "-" ++ Txt.join (Str.ofString "") (dueSt ns rs (i + 1)).2)]

/- objects apart from those that the turn changes -/
noncomputable def ImmOff (muts : List Addr) (imm : List (Addr × Obj)) : Prop := ∀ p ∈ imm, p.1 ∉ muts
theorem ImmOff.ne {muts : List Addr} {imm : List (Addr × Obj)} {c : Addr} (h : ImmOff muts imm) (hc : c ∈ muts) : ∀ p ∈ imm, p.1 ≠ c := fun p hp e => h p hp (e ▸ hc)
theorem ImmOff.cons {muts : List Addr} {imm : List (Addr × Obj)} {D : Addr} {o : Obj} (h : ImmOff muts imm) (hd : D ∉ muts) : ImmOff muts ((D, o) :: imm) := fun p hp => by
  rcases List.mem_cons.mp hp with e | hp
  · rw [e]; exact hd
  · exact h p hp
theorem ImmOff.app {muts : List Addr} {imm imm' : List (Addr × Obj)} (h : ImmOff muts imm) (k : ImmOff muts imm') : ImmOff muts (imm ++ imm') := fun p hp => by
  rcases List.mem_append.mp hp with hp | hp
  · exact h p hp
  · exact k p hp
theorem off_new {news : List (Addr × Obj)} {muts : List Addr} {D : Addr} (h : ∀ p ∈ news, p.1 ≠ D) (k : ∀ c ∈ muts, c ∈ news.map (·.1)) : D ∉ muts := fun hm => by
  obtain ⟨p, hp, e⟩ := List.mem_map.mp (k D hm)
  exact h p hp e
theorem news_sink {base h : Heap} {L : Addr} {D : Addr × Obj} {pre imm : List (Addr × Obj)} (N : News base L h (D :: (pre ++ imm))) : News base L h (pre ++ D :: imm) := fun p hp => by
  rcases List.mem_append.mp hp with hp | hp
  · exact N p (.tail _ (List.mem_append_left _ hp))
  rcases List.mem_cons.mp hp with e | hp
  · rw [e]; exact N _ (.head _)
  · exact N p (.tail _ (List.mem_append_right _ hp))
theorem off_lt {T d c7 c6 c5 c4 c3 c2 c1 : Addr} {R : Prop} (h : @LT.lt Nat _ d T ∧ @LT.lt Nat _ c7 T ∧ @LT.lt Nat _ c6 T ∧ @LT.lt Nat _ c5 T ∧ @LT.lt Nat _ c4 T ∧ @LT.lt Nat _ c3 T ∧ @LT.lt Nat _ c2 T ∧ @LT.lt Nat _ c1 T ∧ R) : T ∉ [d, c7, c6, c5, c4, c3, c2, c1] := by
  obtain ⟨h0, h7, h6, h5, h4, h3, h2, h1, _⟩ := h
  intro hm
  simp only [List.mem_cons, List.mem_nil_iff, or_false] at hm
  rcases hm with e | e | e | e | e | e | e | e
  · exact absurd e (Nat.ne_of_gt h0)
  · exact absurd e (Nat.ne_of_gt h7)
  · exact absurd e (Nat.ne_of_gt h6)
  · exact absurd e (Nat.ne_of_gt h5)
  · exact absurd e (Nat.ne_of_gt h4)
  · exact absurd e (Nat.ne_of_gt h3)
  · exact absurd e (Nat.ne_of_gt h2)
  · exact absurd e (Nat.ne_of_gt h1)
theorem off_lt' {T d c7 c6 c5 c4 c3 c2 c1 : Addr} (hd : @LT.lt Nat _ T d) (h : @LT.lt Nat _ c7 T ∧ @LT.lt Nat _ c6 T ∧ @LT.lt Nat _ c5 T ∧ @LT.lt Nat _ c4 T ∧ @LT.lt Nat _ c3 T ∧ @LT.lt Nat _ c2 T ∧ @LT.lt Nat _ c1 T) : T ∉ [d, c7, c6, c5, c4, c3, c2, c1] := by
  obtain ⟨h7, h6, h5, h4, h3, h2, h1⟩ := h
  intro hm
  simp only [List.mem_cons, List.mem_nil_iff, or_false] at hm
  rcases hm with e | e | e | e | e | e | e | e
  · exact absurd e (Nat.ne_of_lt hd)
  · exact absurd e (Nat.ne_of_gt h7)
  · exact absurd e (Nat.ne_of_gt h6)
  · exact absurd e (Nat.ne_of_gt h5)
  · exact absurd e (Nat.ne_of_gt h4)
  · exact absurd e (Nat.ne_of_gt h3)
  · exact absurd e (Nat.ne_of_gt h2)
  · exact absurd e (Nat.ne_of_gt h1)
local macro_rules | `(tactic| k_ne) => `(tactic| ((try dsimp only); first | assumption | (refine Ne.symm ?_; assumption) | (refine Nat.ne_of_lt ?_; (repeat (first | exact Nat.lt_succ_self _ | refine Nat.lt_succ_of_lt ?_)); done) | (refine Nat.ne_of_gt ?_; (repeat (first | exact Nat.lt_succ_self _ | refine Nat.lt_succ_of_lt ?_)); done)))
local macro_rules | `(tactic| k_all) => `(tactic| exact ImmOff.ne (by assumption) (by first | exact .head _ | exact mem1 | exact mem2 | exact mem3 | exact mem4 | exact mem5 | exact mem6 | exact mem7))
set_option genSizeOf false in
set_option genInjectivity false in
structure DuC where
  (base : Heap) (L dl nl rl : Addr)
noncomputable abbrev DuC.muts (c : DuC) : List Addr := [c.dl, c.L + 1 + 1 + 1 + 1 + 1 + 1 + 1, c.L + 1 + 1 + 1 + 1 + 1 + 1, c.L + 1 + 1 + 1 + 1 + 1, c.L + 1 + 1 + 1 + 1, c.L + 1 + 1 + 1, c.L + 1 + 1, c.L + 1]
/- the loop's state -/
inductive DJ (c : DuC) (ns : List Str) (rs : List (Str × Bool)) (i : Nat) (m : Str → Option Value) (news : List (Addr × Obj)) : Prop
  | mk (fa : Addr) (fv : List Value) (sa : Addr) (sv : List Value) (ks : Nat) (dv : List Value) (kd : Nat) (ot oz ov of ok orr ou : Obj) (vt vz vv vf vk : Option Value) (imm : List (Addr × Obj)) (okm : AllIs m [(Str.ofString "names", Value.ref c.nl), (Str.ofString "signs", Value.ref sa), (Str.ofString "due", Value.ref c.dl)])
    (e : news = (c.dl, listOf (List.toArray dv) kd) :: (c.L + 1 + 1 + 1 + 1 + 1 + 1 + 1, ot) :: (c.L + 1 + 1 + 1 + 1 + 1 + 1, oz) :: (c.L + 1 + 1 + 1 + 1 + 1, ov) :: (c.L + 1 + 1 + 1 + 1, of) :: (c.L + 1 + 1 + 1, ok) :: (c.L + 1 + 1, orr) :: (c.L + 1, ou) :: imm)
    (et : ot.data = .cell vt) (ez : oz.data = .cell vz) (ev : ov.data = .cell vv) (ef : of.data = .cell vf) (ek : ok.data = .cell vk) (er : orr.data = .cell (some (.ref fa))) (eu : ou.data = .cell (some (.ref c.rl)))
    (hfa : ∀ h : Heap, c.base.StaysIn h → (∀ p ∈ imm, h.get? p.1 = some p.2) → h.IsList fa (List.toArray fv)) (hfv : StrsAre fv (dueSt ns rs i).1) (hsa : (sa, listOf (List.toArray sv) ks) ∈ imm) (hsv : StrsAre sv (dueSt ns rs i).2)
    (hdv : DatAll imm dv ((List.range i).map (dueD ns rs))) (off : ImmOff c.muts imm)

theorem fold_len9 (v : Bool) : ∀ (ts ss : List Str), (∀ y ∈ ts, placeN y < ss.length) → (ts.foldl (setSign v) ss).length = ss.length
  | [], ss, _ => rfl
  | t :: ts, ss, h => by
    have e : (setSign v ss t).length = ss.length := by
      unfold setSign
      have := h t (.head _)
      split
      · simp only [List.length_append, List.length_take, List.length_drop, List.length_cons, List.length_nil]; omega
      · rfl
    rw [List.foldl_cons, fold_len9 v ts (setSign v ss t) (fun y hy => by rw [e]; exact h y (.tail _ hy)), e]
theorem dueSt_len {ns : List Str} {rs : List (Str × Bool)} (hnn : ∀ n ∈ ns, n ∈ nameS) : ∀ i, (dueSt ns rs i).2.length = 9
  | 0 => rfl
  | i + 1 => by
    have ih := dueSt_len (rs := rs) hnn i
    rw [dueSt, fold_len9, ih]
    intro y hy
    rw [ih]
    have hy' := name_facts y (hnn y (List.mem_filter.mp (List.mem_filter.mp hy).1).1)
    unfold placeN
    omega
theorem setSign_one {v : Bool} {ss : List Str} {y : Str} (h : ∀ c ∈ ss, c.length = 1) : ∀ c ∈ setSign v ss y, c.length = 1 := by
  intro c hc
  unfold setSign at hc
  split at hc
  · rcases List.mem_append.mp hc with hc | hc
    · rcases List.mem_append.mp hc with hc | hc
      · exact h c (List.mem_of_mem_take hc)
      · rw [List.mem_singleton.mp hc]
        cases v
        · rw [if_neg (by decide)]; decide +kernel
        · exact len_item y 0
    · exact h c (List.mem_of_mem_drop hc)
  · exact h c hc
theorem fold_one {v : Bool} : ∀ {ts ss : List Str}, (∀ c ∈ ss, c.length = 1) → ∀ c ∈ ts.foldl (setSign v) ss, c.length = 1
  | [], _, h => h
  | t :: ts, ss, h => fold_one (ts := ts) (ss := setSign v ss t) (setSign_one h)
theorem dueSt_one {ns : List Str} {rs : List (Str × Bool)} : ∀ i, ∀ c ∈ (dueSt ns rs i).2, c.length = 1
  | 0 => show ∀ c ∈ sign0, c.length = 1 by decide +kernel
  | i + 1 => fold_one (dueSt_one i)
theorem sum_one : ∀ {xs : List Str}, (∀ c ∈ xs, c.length = 1) → (xs.map (·.length)).sum = xs.length
  | [], _ => rfl
  | x :: xs, h => by
    rw [List.map_cons, List.sum_cons, sum_one (fun c hc => h c (.tail _ hc)), h x (.head _), List.length_cons]; omega
/- two cells bound -/
theorem assignC2 {prog : Program} {w : World} {A : Around} {E : Value → Shared → Prop} {s : Shared} {h₀ : Heap} {L a : Addr} {m : Str → Option Value} {cn : Str} {cs : Scope} {ccd : Value} {cl : List (Str × Addr)} {xi xc : Str} {pk pv pt : Pos} {x1 : Nat} {T c1 c2 : Addr} {va vb : Value} {o1 o2 : Obj} {v1 v2 : Option Value} {news : List (Addr × Obj)} {g1 : Obj → List (Addr × Obj)} {g2 : Obj → Obj → List (Addr × Obj)} {Q : Unit → Shared → Prop} (hh : A.handled = none)
    (hk : cs.kind = .function) (hxi : (envX cn cs L a ccd cl).kindOf xi = some .cell) (hxc : (envX cn cs L a ccd cl).kindOf xc = some .cell) (hc1 : cl.lookup xi = some c1) (hc2 : cl.lookup xc = some c2)
    (ht : s.heap.IsTuple T #[va, vb]) (F : Fr h₀ L s.heap m) (N : News h₀ L s.heap news) (U1 : UpdF c1 o1 news g1) (U2 : ∀ o', UpdF c2 o2 (g1 o') (g2 o')) (hd1 : o1.data = .cell v1) (hd2 : o2.data = .cell v2)
    (h : ∀ h' tk o1' o2', Fr h₀ L h' m → News h₀ L h' (g2 o1' o2') → o1'.data = .cell (some va) → o2'.data = .cell (some vb) → Q () { s with heap := h', toks := tk }) :
    wpAny (model prog w) A (assign (.Tuple [.Name xi pk, .Name xc pv] x1 pt) (envX cn cs L a ccd cl) (.ref T)) Q E s := by
  refine wpAny_assign_Tuple hh ht rfl rfl fun h₃ hx₃ => ?_
  have up₃ : ∀ b o, s.heap.get? b = some o → h₃.get? b = some o := fun b o x => hx₃ b o (Nat.ne_of_lt (Heap.lt_size x)) x
  have F₃ : Fr h₀ L h₃ m := ⟨F.ns.at' fun o e => up₃ _ o e, fun b o e => up₃ b o (F.keep b o e), F.above⟩
  have N₃ : News h₀ L h₃ news := fun p hp => ⟨up₃ _ _ (N p hp).1, (N p hp).2⟩
  show wpAny _ A (do holding [vb] (assign (.Name xi pk) (envX cn cs L a ccd cl) va); do holding [] (assign (.Name xc pv) (envX cn cs L a ccd cl) vb); pure ()) _ _ _
  refine wpAny_bind (wpAny_holding (wpAny_assign_Name (storeX_C F₃ N₃ hc1 U1 hd1 (fun h₄ o1' F₄ N₄ e1 => ?_) hk hxi)))
  refine wpAny_bind (wpAny_holding (wpAny_assign_Name (storeX_C F₄ N₄ hc2 (U2 o1') hd2 (fun h₅ o2' F₅ N₅ e2 => wpAny_pure ?_) hk hxc)))
  exact h h₅ _ o1' o2' F₅ N₅ e1 e2
theorem due_end {base h : Heap} {L dl nl rl I T E0 fa sa : Addr} {oI oT oE ot oz ov of ok orr ou : Obj} {vt vz vv vf vk : Option Value} {ns : List Str} {rs : List (Str × Bool)} {i ks kd : Nat} {m : Str → Option Value} {fv sv dv : List Value} {imm : List (Addr × Obj)} {s s' : Shared} {tk : Nat} {Q : Flow → Shared → Prop}
    (hs' : s' = { s with heap := h, toks := tk }) (F : Fr base L h m) (okm : AllIs m [(Str.ofString "names", Value.ref nl), (Str.ofString "signs", Value.ref sa), (Str.ofString "due", Value.ref dl)])
    (N : News base L h ((T, oT) :: (E0, oE) :: (I, oI) :: (dl, listOf (List.toArray dv) kd) :: (L + 1 + 1 + 1 + 1 + 1 + 1 + 1, ot) :: (L + 1 + 1 + 1 + 1 + 1 + 1, oz) :: (L + 1 + 1 + 1 + 1 + 1, ov) :: (L + 1 + 1 + 1 + 1, of) :: (L + 1 + 1 + 1, ok) :: (L + 1 + 1, orr) :: (L + 1, ou) :: imm))
    (et : ot.data = .cell vt) (ez : oz.data = .cell vz) (ev : ov.data = .cell vv) (ef : of.data = .cell vf) (ek : ok.data = .cell vk) (er : orr.data = .cell (some (.ref fa))) (eu : ou.data = .cell (some (.ref rl)))
    (hfa : (fa, listOf (List.toArray fv) 0) ∈ imm ∨ ∃ k, (fa, listOf (List.toArray fv) k) ∈ imm) (hfv : StrsAre fv (dueSt ns rs (i + 1)).1) (hsa : (sa, listOf (List.toArray sv) ks) ∈ imm) (hsv : StrsAre sv (dueSt ns rs (i + 1)).2)
    (hdat : DatAll ((T, oT) :: (E0, oE) :: imm) dv ((List.range (i + 1)).map (dueD ns rs))) (off : ImmOff (DuC.muts ⟨base, L, dl, nl, rl⟩) imm) (hT : T ∉ DuC.muts ⟨base, L, dl, nl, rl⟩) (hE : E0 ∉ DuC.muts ⟨base, L, dl, nl, rl⟩)
    (nI : ∀ c ∈ DuC.muts ⟨base, L, dl, nl, rl⟩, c ≠ I) (nT : T ≠ I) (nE : E0 ≠ I) (nimm : ∀ p ∈ imm, p.1 ≠ I) :
    TurnG base L (DJ ⟨base, L, dl, nl, rl⟩ ns rs (i + 1)) [(I, oI)] s Q .next s' := by
  subst hs'
  obtain ⟨kf, hfa⟩ : ∃ k, (fa, listOf (List.toArray fv) k) ∈ imm := hfa.elim (fun h => ⟨0, h⟩) id
  refine ⟨h, tk, m, (dl, listOf (List.toArray dv) kd) :: (L + 1 + 1 + 1 + 1 + 1 + 1 + 1, ot) :: (L + 1 + 1 + 1 + 1 + 1 + 1, oz) :: (L + 1 + 1 + 1 + 1 + 1, ov) :: (L + 1 + 1 + 1 + 1, of) :: (L + 1 + 1 + 1, ok) :: (L + 1 + 1, orr) :: (L + 1, ou) :: (T, oT) :: (E0, oE) :: imm, rfl, F, ?_, ?_,
    fa, fv, sa, sv, ks, dv, kd, ot, oz, ov, of, ok, orr, ou, vt, vz, vv, vf, vk, (T, oT) :: (E0, oE) :: imm, okm, rfl, et, ez, ev, ef, ek, er, eu, (fun h' _ hp => ⟨_, hp _ (.tail _ (.tail _ hfa)), rfl, _, rfl⟩), hfv, .tail _ (.tail _ hsa), hsv, hdat, (off.cons hE).cons hT⟩
  · exact news_cons (N _ mem2) <| news_cons (N _ mem3) <| news_cons (N _ mem4) <| news_cons (N _ mem5) <| news_cons (N _ mem6) <| news_cons (N _ mem7) <| news_cons (N _ mem8) <| news_cons (N _ mem9) <| news_cons (N _ mem10) <| news_cons (N _ (.head _)) <| news_cons (N _ mem1) (fun p hp => N p (.tail _ (.tail _ (memT9 hp))))
  · intro p hp q hq
    rw [List.mem_singleton.mp hq]
    exact (ap_cons (nI _ (.head _)) <| ap_cons (nI _ mem1) <| ap_cons (nI _ mem2) <| ap_cons (nI _ mem3) <| ap_cons (nI _ mem4) <| ap_cons (nI _ mem5) <| ap_cons (nI _ mem6) <| ap_cons (nI _ mem7) <| ap_cons nT <| ap_cons nE nimm) p hp

theorem due_spec {w : World} {mean : ExcName → Option Value} {mg mb : Str → Option Value} {A : Around} {g : Heap}
  {s : Shared} {rl nl : Addr} {rv nv : List Value} {ps : List (Value × Value)} {rs : List (Str × Bool)} {ns : List Str} {Q E : Value → Shared → Prop}
  (G : Gr w mean mg mb g) (st : g.StaysIn s.heap) (hroom : A.depth + 3 < recursionLimit) (hh : A.handled = none) (hun : A.units + 100 < cLine)
  (hl : s.heap.IsList nl nv.toArray) (hns : StrsAre nv ns) (hlen : ns.length ≤ 1000) (hnn : ∀ n ∈ ns, n ∈ nameS)
  (hr : s.heap.IsList rl rv.toArray) (hpr : PairsAt s.heap rv ps) (hpl : ps.length = rs.length) (hpa : ∀ (i : Nat) (r : Str × Bool), rs[i]? = some r → ∃ t, ps[i]? = some (Value.str r.1 t, Value.bool r.2)) (hfl : ∀ r ∈ rs, r.1.length ≤ 64) (hok : ∀ r ∈ rs, PyData.strOk r.1 = true) (hrn : rs.length ≤ 1000)
  (ret : ∀ h' tk a dv n imm, s.heap.StaysIn h' → h'.get? a = some (listOf (List.toArray dv) n) → s.heap.get? a = none →
    (∀ p ∈ imm, h'.get? p.1 = some p.2 ∧ s.heap.get? p.1 = none) → DatAll imm dv ((List.range rs.length).map (dueD ns rs)) → Q (.ref a) { s with heap := h', toks := tk }) :
  wpAny (model PySem.Challenge.rw_nq0100_01.row.prog w) A (call (.ref 139) [.ref rl, .ref nl]) Q E s := by
  have hs9 : ∀ i, i < rs.length → (dueSt ns rs i).2.length ≤ 1000 := fun i _ => by rw [dueSt_len hnn]; decide
  have X := G.X.keeps st
  have T := G.T.keeps st
  revert X; k_fill; intro X
  refine wpAny_call ?_
  k_dflt (refine' enterC (hid := []) (binds := [(Str.ofString "rules", .ref rl), (Str.ofString "names", .ref nl)]) (fun q hq => nomatch hq) X T ?k6 ?k7 (by omega) ?k9 ?kB ?kD ?_ ?c2 ?c3 ?c4; (case k6 => k_is); (case k7 => k_is); (case k9 => exact BindsTo.of_eq rfl); (case kB => exact rfl); (case kD => decide +kernel); (case c2 => exact rfl); (case c3 => exact rfl); (case c4 => exact rfl))
  intro L' h' tk' cells' hL F' N' Y' l1
  simp only [List.map_nil, List.append_nil] at F' N'
  change Fr s.heap _ _ _ at F'
  change News s.heap _ _ _ at N'
  k_cells Y'
  rename_i ot oz ov of ok orr ou dt dz dv df dk dr du
  have du' : ou.data = .cell (some (.ref rl)) := du
  dsimp only
  (try k_unmd); k_fold
  k_steps
  rename Fr _ _ _ _ => F1
  rename News _ _ _ _ => N1
  rename_i rwx _ lt1 sg _ lt2 _ _ dl _ lt3 _
  rename (Obj.data _ = Data.cell (some (Value.ref nl))) => dr'
  have hrvl : rv.toArray.size = rs.length := by simp [hpr.1, hpl]
  refine For_turnsE F1 ?_
  iterate 10 walk1
  refine PyProof.Rows.len_list (hr.at fun o e => F1.keep _ _ e) (by rw [hrvl]; omega) ?_
  rw [hrvl]
  walk1
  refine range1_rows F1 N1 (fun h2 tk2 t2 u2 v2 hR F2 N2 _ => ?_)
  clear F1 N1
  refine iter_rangeC (n := rs.length) (DJ ⟨s.heap, L', dl, nl, rl⟩ ns rs) hh hR (small_one (by decide) (by decide) (by omega) (by omega)) (by rw [rangeSize_one]; split <;> omega) F2 (news := (dl, _) :: (L' + 1 + 1 + 1 + 1 + 1 + 1 + 1, _) :: (L' + 1 + 1 + 1 + 1 + 1 + 1, _) :: (L' + 1 + 1 + 1 + 1 + 1, _) :: (L' + 1 + 1 + 1 + 1, _) :: (L' + 1 + 1 + 1, _) :: (L' + 1 + 1, _) :: (L' + 1, _) :: [(sg, _), (rwx, _)])
    (news_cons (N2 _ (.head _)) <| news_cons (N2 _ mem3) <| news_cons (N2 _ mem4) <| news_cons (N2 _ mem5) <| news_cons (N2 _ mem6) <| news_cons (N2 _ mem7) <| news_cons (N2 _ mem8) <| news_cons (N2 _ mem9) <| news_cons (N2 _ mem1) <| news_cons (N2 _ mem2) (fun p hp => nomatch hp))
    ⟨nl, nv, sg, _, 0, [], 0, ot, oz, ov, of, ok, _, ou, _, _, _, _, _, _, ⟨rfl, rfl, rfl, trivial⟩, rfl, dt, dz, dv, df, dk, dr', du', (fun h st' _ => hl.at fun o e => st' _ _ e), hns, .head _, ?sg0, .nil, ?off0⟩ ?_ ?_
  case sg0 => exact .cons _ _ (.cons _ _ (.cons _ _ (.cons _ _ (.cons _ _ (.cons _ _ (.cons _ _ (.cons _ _ (.cons _ _ .nil))))))))
  case off0 =>
    exact ImmOff.cons (ImmOff.cons (fun p hp => nomatch hp) (off_lt' lt3.2.1 lt1)) (off_lt' lt3.1 lt2.2)
  · rintro i t₁ m₁ news₁ h₁ tk₁ I oI hi hoff ⟨fa, fv, sa, sv, ks, dv1, kd, ot1, oz1, ov1, of1, ok1, or1, ou1, vt, vz, vv, vf, vk, imm, okm, rfl, et, ez, ev, ef, ek, er, eu, hfa, hfv, hsa, hsv, hdv, off⟩ F3 N3
    clear F2 N2
    dsimp only at okm N3 eu hfa off hoff
    dsimp only [List.cons_append, List.nil_append] at N3
    obtain ⟨⟨front, verdict⟩, hri⟩ : ∃ r, rs[i]? = some r := ⟨_, List.getElem?_eq_getElem hi⟩
    have hra : ruleAt rs i = (front, verdict) := by unfold ruleAt; rw [hri]; rfl
    obtain ⟨tf, hpi⟩ := hpa i _ hri
    obtain ⟨T₁, hT₁, hTt⟩ := hpr.2 i _ hpi
    have hff : front.length ≤ 64 := hfl _ (List.mem_of_getElem? hri)
    have w0 : I ≠ L' + 1 + 1 + 1 + 1 + 1 + 1 + 1 := (hoff _ mem1).symm
    have w1 : I ≠ L' + 1 + 1 + 1 + 1 + 1 + 1 := (hoff _ mem2).symm
    have w2 : I ≠ L' + 1 + 1 + 1 + 1 + 1 := (hoff _ mem3).symm
    have w3 : I ≠ L' + 1 + 1 + 1 + 1 := (hoff _ mem4).symm
    have w4 : I ≠ L' + 1 + 1 + 1 := (hoff _ mem5).symm
    have w5 : I ≠ L' + 1 + 1 := (hoff _ mem6).symm
    have w6 : I ≠ L' + 1 := (hoff _ mem7).symm
    have w7 : I ≠ dl := (hoff _ (.head _)).symm
    have x0 : L' + 1 + 1 + 1 + 1 + 1 + 1 + 1 ≠ dl := Nat.ne_of_lt lt3.2.2.1
    have x1 : L' + 1 + 1 + 1 + 1 + 1 + 1 ≠ dl := Nat.ne_of_lt lt3.2.2.2.1
    have x2 : L' + 1 + 1 + 1 + 1 + 1 ≠ dl := Nat.ne_of_lt lt3.2.2.2.2.1
    have x3 : L' + 1 + 1 + 1 + 1 ≠ dl := Nat.ne_of_lt lt3.2.2.2.2.2.1
    have x4 : L' + 1 + 1 + 1 ≠ dl := Nat.ne_of_lt lt3.2.2.2.2.2.2.1
    have x5 : L' + 1 + 1 ≠ dl := Nat.ne_of_lt lt3.2.2.2.2.2.2.2.1
    have x6 : L' + 1 ≠ dl := Nat.ne_of_lt lt3.2.2.2.2.2.2.2.2
    have F4 := fr_overA _ F3 okm
    clear F3
    iterate 7 walk1
    rename Fr _ _ _ _ => F5
    rename News _ _ _ _ => N5
    rename (Obj.data _ = Data.cell (some (Value.int ↑i t₁))) => ek'
    refine item_in (hr.at fun o e => F5.keep _ _ e) (Int.natCast_nonneg _) (by omega) (by rw [Int.toNat_natCast]; exact hT₁) ?_ (by with_unfolding_all rfl)
    have hTt' : s.heap.IsTuple T₁ #[.str front tf, .bool verdict] := hTt
    refine' assignC2 hh rfl rfl rfl rfl rfl (hTt'.at fun o e => F5.keep _ _ e) F5 N5 ?U1 ?U2 ef ev ?kk
    case U1 => k_updF
    case U2 => intro o'; k_updF
    rintro h6 tk6 of6 ov6 F6 N6 ef6 ev6
    clear F5 N5 F4 N3 hTt
    dsimp only at N6 ⊢
    have im6 : ∀ p ∈ imm, h6.get? p.1 = some p.2 := fun p hp => (N6 p (memT9 hp)).1
    have nn64 : ∀ n ∈ ns, n.length ≤ 64 := fun n hn => (name_facts n (hnn n hn)).1
    iterate 1 walk1
    refine metAssign (nl := nl) (hsw := rfl) (hy₀ := rfl) (hp := rfl) (hnL := F6.ns) G (stays_trans st F6.keep) hh rfl rfl rfl (by decide) rfl (by decide) (fun C => rfl) (fun C => rfl) (fun C => rfl) (fun C => rfl) (fun C => rfl) rfl (N6.get mem5) ef6 rfl (N6.get mem7) er rfl (N6.get mem4) ev6 (hfa _ F6.keep im6) hfv hff ?hit (hl.at fun o e => F6.keep _ _ e) hns hlen nn64 (by intro _; rfl) ?ret
    case hit =>
      intro Q1 E1 hq
      walk1
      exact hq
    rintro ma h7 tk7 mv7 km7 keep7 hns7 hD7 hg7 hmv7
    have F7 := fr_bound F6 keep7 hns7
    have N7 := news_sink (pre := [(I, oI), (dl, _), (L' + 1 + 1 + 1 + 1 + 1 + 1 + 1, _), (L' + 1 + 1 + 1 + 1 + 1 + 1, _), (L' + 1 + 1 + 1 + 1 + 1, _), (L' + 1 + 1 + 1 + 1, _), (L' + 1 + 1 + 1, _), (L' + 1 + 1, _), (L' + 1, _)]) (news_bound F6 N6 keep7 hD7 hg7)
    have d7 := news_lt N6 hD7
    have nI7 : ma ≠ I := (d7 _ (.head _)).symm
    have off7 := off.cons (o := W.listOf (List.toArray mv7) km7) (off_new d7 (fun c hc => by
      simp only [List.map_cons]
      exact .tail _ (List.mem_append_left (List.map (fun x : Addr × Obj => x.1) imm) hc)))
    clear F6 N6 d7
    dsimp only [List.cons_append, List.nil_append] at N7
    dsimp only
    walk1
    refine wpAny_Assign_Name ?_
    refine wpAny_mono (show wpAny _ _ _ (fun v s₁ => ∃ t tk, v = Value.int (sizeR (front, verdict)) t ∧ s₁ = ({ s with heap := h7, toks := tk } : Shared)) _ _ from ?sz) (fun v s₁ hv => ?_) (fun _ _ e => e)
    case sz =>
      cases verdict
      · k_steps
      · k_steps
    obtain ⟨tz, tk8, rfl, rfl⟩ := hv
    walk1
    rename Fr _ _ _ _ => F8
    rename News _ _ _ _ => N8
    rename (Obj.data _ = Data.cell (some (Value.int (sizeR (front, verdict)) tz))) => ez8
    iterate 2 walk1
    refine turnedEval (kk := i) (rl := rl) (ma := ma) (cl2 := fun C => _) G (stays_trans st F8.keep) hh ?hu rfl rfl rfl rfl (by decide) (fun h => rfl) (fun a => rfl) (fun C => rfl) (fun C => rfl) (fun C => rfl) (fun C => rfl) (N8.get mem8) eu (fun C => rfl) (N8.get mem6) ek' (fun C => rfl) (by decide) rfl (by decide) (fun C C2 => rfl) (fun C C2 => rfl) (fun C C2 => rfl) (fun C C2 => rfl) (fun C C2 => rfl) (fun C => rfl) (fun C => rfl) (N8.get mem3) ez8 (hr.at fun o e => F8.keep _ _ e) (hpr.keeps F8.keep) hpl (fun j r e => let ⟨t, h⟩ := hpa j r e; ⟨t, _, h⟩) hfl hok hrn ?hit2 (N8.isList mem9) hmv7 (Nat.le_trans (List.length_filter_le _ _) hlen) (fun n hn => nn64 n (List.mem_filter.mp hn).1) (by intro _; rfl) ?ret2
    case hu => show A.units + 3 + 64 < cLine; omega
    case hit2 =>
      intro Q1 E1 hq
      walk1
      exact hq
    rintro ta h9 tk9 tv9 kt9 st9 hD9 hg9 htv9
    have F9 := F8.keeps st9
    have N9 := news_sink (pre := [(I, oI), (dl, _), (L' + 1 + 1 + 1 + 1 + 1 + 1 + 1, _), (L' + 1 + 1 + 1 + 1 + 1 + 1, _), (L' + 1 + 1 + 1 + 1 + 1, _), (L' + 1 + 1 + 1 + 1, _), (L' + 1 + 1 + 1, _), (L' + 1 + 1, _), (L' + 1, _)]) (news_comp F8 N8 st9 hD9 hg9)
    have d9 := news_lt N8 hD9
    have nI9 : ta ≠ I := (d9 _ (.head _)).symm
    have off9 := off7.cons (o := W.listOf (List.toArray tv9) kt9) (off_new d9 (fun c hc => by
      simp only [List.map_cons]
      exact .tail _ (List.mem_append_left (ma :: List.map (fun x : Addr × Obj => x.1) imm) hc)))
    clear F8 N8 d9 off7
    dsimp only [List.cons_append, List.nil_append] at N9
    dsimp only
    walk1
    rename Fr _ _ _ _ => F10
    rename News _ _ _ _ => N10
    rename (Obj.data _ = Data.cell (some (Value.ref ta))) => et10
    iterate 3 walk1
    have im10 : ∀ p ∈ imm, _ := fun p hp => (N10 p (memT9 (.tail _ (.tail _ hp)))).1
    refine freeEval (nl := nl) (fa := fa) (ta := ta) hh rfl (by decide) rfl (by decide) (fun C => rfl) (fun C => rfl) (fun C => rfl) rfl (N10.get mem7) er rfl (N10.get mem2) et10 (hfa _ F10.keep im10) hfv (N10.isList mem9) htv9 ?hit3 (hl.at fun o e => F10.keep _ _ e) hns hlen (by intro _; rfl) ?ret3
    case hit3 =>
      intro Q1 E1 hq
      walk1
      exact hq
    rintro fa11 h11 tk11 fv11 kf11 st11 hD11 hg11 hfv11
    have F11 := F10.keeps st11
    have N11 := news_sink (pre := [(I, oI), (dl, _), (L' + 1 + 1 + 1 + 1 + 1 + 1 + 1, _), (L' + 1 + 1 + 1 + 1 + 1 + 1, _), (L' + 1 + 1 + 1 + 1 + 1, _), (L' + 1 + 1 + 1 + 1, _), (L' + 1 + 1 + 1, _), (L' + 1 + 1, _), (L' + 1, _)]) (news_comp F10 N10 st11 hD11 hg11)
    have d11 := news_lt N10 hD11
    have nI11 : fa11 ≠ I := (d11 _ (.head _)).symm
    have off11 := off9.cons (o := W.listOf (List.toArray fv11) kf11) (off_new d11 (fun c hc => by
      simp only [List.map_cons]
      exact .tail _ (List.mem_append_left (ta :: ma :: List.map (fun x : Addr × Obj => x.1) imm) hc)))
    clear F10 N10 d11 off9 im10
    dsimp only [List.cons_append, List.nil_append] at N11
    dsimp only
    walk1
    rename Fr _ _ _ _ => F12
    rename News _ _ _ _ => N12
    rename (Obj.data _ = Data.cell (some (Value.ref fa11))) => er12
    iterate 2 walk1
    have hts9 : ∀ y ∈ turnedOf (metOf ns front verdict (dueSt ns rs i).1) (rs.take i) (sizeR (front, verdict)), y ∈ ns := fun y hy => (List.mem_filter.mp (List.mem_filter.mp hy).1).1
    have hsl : (dueSt ns rs i).2.length ≤ 1000 := hs9 i hi
    refine signsLoop (ta := ta) (sa := sa) (kn := [(Str.ofString "names", Value.ref nl), (Str.ofString "due", Value.ref dl)]) hh rfl F12 N12 rfl rfl rfl rfl rfl mem4 ev6 ?hit4 (by intro _; rfl) mem10 htv9 (fun y hy => hnn y (hts9 y hy)) (Nat.le_trans (List.length_filter_le _ _) (Nat.le_trans (List.length_filter_le _ _) hlen)) (memT9 (.tail _ (.tail _ (.tail _ hsa)))) hsv hsl ⟨rfl, rfl, rfl, trivial⟩ rfl rfl rfl (by passes_own) _ _ rfl rfl ?ret4
    case hit4 =>
      intro Q1 E1 hq
      walk1
      exact hq
    rintro h13 tk13 m13 news13 F13 N13 ⟨ex, sa13, sv13, ks13, rfl, hex, hsa13, hsv13, okm13⟩
    have hts : turnedOf (metOf ns front verdict (dueSt ns rs i).1) (rs.take i) (sizeR (front, verdict)) = turnedAt ns rs i := by unfold turnedAt; rw [hra]
    have hsv14 : StrsAre sv13 (dueSt ns rs (i + 1)).2 := by
      have e : (dueSt ns rs (i + 1)).2 = (turnedAt ns rs i).foldl (setSign verdict) (dueSt ns rs i).2 := by simp only [dueSt, turnedAt, hra]
      rw [hts, List.take_length] at hsv13
      rw [e]; exact hsv13
    have hfv14 : StrsAre fv11 (dueSt ns rs (i + 1)).1 := by
      have e : (dueSt ns rs (i + 1)).1 = freeOf ns (dueSt ns rs i).1 (turnedAt ns rs i) := by simp only [dueSt, turnedAt, hra]
      rw [hts] at hfv11
      rw [e]; exact hfv11
    rw [hts] at htv9
    have offx : ImmOff (DuC.muts ⟨s.heap, L', dl, nl, rl⟩) ex := fun p hp => off_new (fun q hq => hex p hp q hq) (fun c hc => by
      simp only [List.map_cons]
      exact .tail _ (List.mem_append_left (fa11 :: ta :: ma :: List.map (fun x : Addr × Obj => x.1) imm) hc))
    have nIx : ∀ p ∈ ex, p.1 ≠ I := fun p hp => (hex p hp _ (.head _)).symm
    have off14 := offx.app off11
    have hsa14 : (sa13, W.listOf (List.toArray sv13) ks13) ∈ ex ++ (fa11, W.listOf (List.toArray fv11) kf11) :: (ta, W.listOf (List.toArray tv9) kt9) :: (ma, W.listOf (List.toArray mv7) km7) :: imm := by
      rcases List.mem_append.mp hsa13 with h | h
      · exact List.mem_append_left _ h
      · rw [List.mem_singleton.mp h]; exact List.mem_append_right _ (.tail _ (.tail _ (.tail _ hsa)))
    have N14 := news_cons (N13 _ (List.mem_append_right ex (.head _))) <| news_cons (N13 _ (List.mem_append_right ex mem1)) <| news_cons (N13 _ (List.mem_append_right ex mem2)) <| news_cons (N13 _ (List.mem_append_right ex mem3)) <| news_cons (N13 _ (List.mem_append_right ex mem4)) <| news_cons (N13 _ (List.mem_append_right ex mem5)) <| news_cons (N13 _ (List.mem_append_right ex mem6)) <| news_cons (N13 _ (List.mem_append_right ex mem7)) <| news_cons (N13 _ (List.mem_append_right ex mem8)) (fun p (hp : p ∈ ex ++ (fa11, W.listOf (List.toArray fv11) kf11) :: (ta, W.listOf (List.toArray tv9) kt9) :: (ma, W.listOf (List.toArray mv7) km7) :: imm) => (List.mem_append.mp hp).elim (fun h => N13 p (List.mem_append_left _ h)) (fun h => N13 p (List.mem_append_right _ (memT9 h))))
    clear F12 N12 N13 off11 offx
    generalize hI14 : ex ++ (fa11, W.listOf (List.toArray fv11) kf11) :: (ta, W.listOf (List.toArray tv9) kt9) :: (ma, W.listOf (List.toArray mv7) km7) :: imm = imm14 at N14 off14 hsa14
    have F14 := fr_overA _ F13 okm13
    clear F13
    dsimp only
    have hne14 : ∀ p ∈ imm14, p.1 ≠ I := by
      rw [← hI14]
      exact ap_app nIx (ap_cons nI11 (ap_cons nI9 (ap_cons nI7 (fun p hp => hoff p (.tail _ (.tail _ (.tail _ (.tail _ (.tail _ (.tail _ (.tail _ (.tail _ hp)))))))))))) 
    have mt14 : (ta, W.listOf (List.toArray tv9) kt9) ∈ imm14 := by rw [← hI14]; exact List.mem_append_right ex mem1
    have mf14 : (fa11, W.listOf (List.toArray fv11) kf11) ∈ imm14 := by rw [← hI14]; exact List.mem_append_right ex (.head _)
    have sub14 : ∀ p ∈ imm, p ∈ imm14 := fun p hp => by rw [← hI14]; exact List.mem_append_right ex (.tail _ (.tail _ (.tail _ hp)))
    have jl : (Txt.join (Str.ofString "") (dueSt ns rs (i + 1)).2).length ≤ 4 * (17 + 1) := len_join_le (by show ((dueSt ns rs (i + 1)).2.map (·.length)).sum + (dueSt ns rs (i + 1)).2.length ≤ 17 + 1; rw [sum_one (dueSt_one _), dueSt_len hnn]; decide) (by decide +kernel)
    have l0 : (Str.ofString "-").length = 1 := by decide +kernel
    have nI14 : ∀ c ∈ DuC.muts ⟨s.heap, L', dl, nl, rl⟩, c ≠ I := fun c hc e => by
      simp only [List.mem_cons, List.mem_nil_iff, or_false] at hc
      rcases hc with q | q | q | q | q | q | q | q <;> rw [q] at e
      · exact w7 e.symm
      · exact w0 e.symm
      · exact w1 e.symm
      · exact w2 e.symm
      · exact w3 e.symm
      · exact w4 e.symm
      · exact w5 e.symm
      · exact w6 e.symm
    clear hI14 hoff nIx hex
    cases verdict
    · k_steps
      rename Fr _ _ _ _ => F15
      rename News _ _ _ _ => N15
      rename_i E0 _ ltE
      refine join_list (N15.isList (.tail _ (memT9 hsa14))) hsv14 (by rw [sum_one (dueSt_one _), dueSt_len hnn]; decide +kernel) (fun t16 k16 => ?_)
      refine PyProof.Rows.add_str (fun t17 k17 => ?_) (by rw [sizeLine_eq, l0]; omega)
      iterate 3 walk1
      rename Fr _ _ _ _ => F17
      rename News _ _ _ _ => N17
      rename_i Tp _ ltT
      have y1 : Tp ≠ dl := Nat.ne_of_gt ltT.2.2.1
      have y2 : E0 ≠ dl := Nat.ne_of_gt ltE.2.1
      refine' append_K F17 N17 ?U18 (fun h18 F18 N18 => ?_) ?z18
      case U18 => k_upd
      case z18 =>
        simp only [List.size_toArray, sizeLine_eq]
        have := hdv.length
        rw [List.length_map, List.length_range] at this
        omega
      rw [push_list] at N18
      iterate 2 walk1
      refine due_end (L := L') rfl F18 ⟨rfl, rfl, rfl, trivial⟩ N18 (by assumption) (by assumption) (by assumption) (by assumption) (by assumption) er12 eu (.inr ⟨_, mf14⟩) hfv14 hsa14 hsv14 ?dat off14 ?oT ?oE nI14 (Nat.ne_of_gt ltT.2.1) (Nat.ne_of_gt ltE.1) hne14
      case dat =>
        rw [List.range_succ, List.map_append]
        refine DatAll.append (hdv.mono (fun p hp => .tail _ (.tail _ (sub14 p hp)))) (.one ?_)
        unfold dueD
        rw [hra]
        exact DatIn.tuple (vs := [.ref ta, .ref E0, .str _ _]) (.head _) (.cons (.list (.tail _ (.tail _ mt14)) (strs_dat htv9)) (.cons (.list (vs := []) mem1 .nil) (.cons (.str _ _) .nil)))
      case oT => exact off_lt ltT.2.2
      case oE => exact off_lt ltE.2
    · k_steps
      rename Fr _ _ _ _ => F15
      rename News _ _ _ _ => N15
      rename_i E0 _ ltE
      refine join_list (N15.isList (.tail _ (memT9 hsa14))) hsv14 (by rw [sum_one (dueSt_one _), dueSt_len hnn]; decide +kernel) (fun t16 k16 => ?_)
      refine PyProof.Rows.add_str (fun t17 k17 => ?_) (by rw [sizeLine_eq, l0]; omega)
      iterate 3 walk1
      rename Fr _ _ _ _ => F17
      rename News _ _ _ _ => N17
      rename_i Tp _ ltT
      have y1 : Tp ≠ dl := Nat.ne_of_gt ltT.2.2.1
      have y2 : E0 ≠ dl := Nat.ne_of_gt ltE.2.1
      refine' append_K F17 N17 ?U18 (fun h18 F18 N18 => ?_) ?z18
      case U18 => k_upd
      case z18 =>
        simp only [List.size_toArray, sizeLine_eq]
        have := hdv.length
        rw [List.length_map, List.length_range] at this
        omega
      rw [push_list] at N18
      iterate 2 walk1
      refine due_end (L := L') rfl F18 ⟨rfl, rfl, rfl, trivial⟩ N18 (by assumption) (by assumption) (by assumption) (by assumption) (by assumption) er12 eu (.inr ⟨_, mf14⟩) hfv14 hsa14 hsv14 ?dat off14 ?oT ?oE nI14 (Nat.ne_of_gt ltT.2.1) (Nat.ne_of_gt ltE.1) hne14
      case dat =>
        rw [List.range_succ, List.map_append]
        refine DatAll.append (hdv.mono (fun p hp => .tail _ (.tail _ (sub14 p hp)))) (.one ?_)
        unfold dueD
        rw [hra]
        exact DatIn.tuple (vs := [.ref E0, .ref ta, .str _ _]) (.head _) (.cons (.list (vs := []) mem1 .nil) (.cons (.list (.tail _ (.tail _ mt14)) (strs_dat htv9)) (.cons (.str _ _) .nil)))
      case oT => exact off_lt ltT.2.2
      case oE => exact off_lt ltE.2
  · rintro m₁ news₁ h₁ tk₁ ⟨fa, fv, sa, sv, ks, dv1, kd, ot1, oz1, ov1, of1, ok1, or1, ou1, vt, vz, vv, vf, vk, imm, okm, rfl, et, ez, ev, ef, ek, er, eu, hfa, hfv, hsa, hsv, hdv, off⟩ F3 N3
    clear F2 N2
    dsimp only at okm N3
    have F4 := fr_overA [(Str.ofString "due", Value.ref dl)] F3 ⟨okm.2.2.1, trivial⟩
    clear F3
    dsimp only
    iterate 4 walk1
    refine ret _ _ dl dv1 kd imm F4.keep (N3.get (.head _)) (N3 _ (.head _)).2.2 (fun p hp => ?_) hdv
    have z := N3 p (.tail _ (.tail _ (.tail _ (.tail _ (.tail _ (.tail _ (.tail _ (.tail _ hp))))))))
    exact ⟨z.1, z.2.2⟩

end Mine

end
section
open PySem PySem.W PySem.Calls PyProof.Rows
namespace Mine
theorem ok_app {x y : Str} (hx : PyData.strOk x = true) (hy : PyData.strOk y = true) : PyData.strOk (x ++ y) = true := by
  unfold PyData.strOk at *
  rw [Array.all_eq_true_iff_forall_mem] at *
  intro c hc
  have e : (x ++ y).cps = x.cps ++ y.cps := rfl
  rw [e] at hc
  rcases Array.mem_append.mp hc with h | h
  · exact hx c h
  · exact hy c h
theorem ok_item {x : Str} (hx : PyData.strOk x = true) (i : Int) : PyData.strOk (Txt.item x i) = true := by
  unfold PyData.strOk at *
  rw [Array.all_eq_true_iff_forall_mem] at *
  intro c hc
  unfold Txt.item at hc
  have hc' : c = (Txt.charAt x i).getD 0 := by simpa using hc
  rw [hc']
  cases e : Txt.charAt x i with
  | none => decide
  | some d =>
    unfold Txt.charAt at e
    obtain ⟨j, _, hj⟩ := Option.bind_eq_some_iff.mp e
    exact hx d (Array.mem_of_getElem? hj)
theorem len_app (x y : Str) : (x ++ y).length = x.length + y.length := Str.length_append x y
section
variable {M : Model} {A : Around} {E : Value → Shared → Prop} {code : Sem Value} {Q : Value → Shared → Prop} {hp : Heap} {gs : Array GenState} {dr : Drawn} {tk : Nat} {os : OsState}
/- a text's value, known by its length alone -/
theorem cutStr (k : Nat) (h : ∀ (Q' E' : Value → Shared → Prop) (tk : Nat), (∀ x t tk, PyData.strOk x = true → x.length ≤ k → Q' (.str x t) ⟨hp, gs, dr, tk, os⟩) → wpAny M A code Q' E' ⟨hp, gs, dr, tk, os⟩)
    (hk : ∀ x t tk, PyData.strOk x = true → x.length ≤ k → Q (.str x t) ⟨hp, gs, dr, tk, os⟩) : wpAny M A code Q E ⟨hp, gs, dr, tk, os⟩ := h Q E tk hk
theorem cutStrH (k : Nat) {h₀ : Heap} {L : Addr} {m : Str → Option Value} (_ : Fr h₀ L hp m) (h : ∀ (Q' E' : Value → Shared → Prop) (tk : Nat), (∀ x t tk h', PyData.strOk x = true → x.length ≤ k → Fr h₀ L h' m → Q' (.str x t) ⟨h', gs, dr, tk, os⟩) → wpAny M A code Q' E' ⟨hp, gs, dr, tk, os⟩)
    (hk : ∀ x t tk h', PyData.strOk x = true → x.length ≤ k → Fr h₀ L h' m → Q (.str x t) ⟨h', gs, dr, tk, os⟩) : wpAny M A code Q E ⟨hp, gs, dr, tk, os⟩ := h Q E tk hk
end
theorem rule_spec {w : World} {mean : ExcName → Option Value} {mg mb : Str → Option Value} {A : Around} {g : Heap}
  {s : Shared} {n : Int} {t : Tok} {Q E : Value → Shared → Prop}
  (G : Gr w mean mg mb g) (st : g.StaysIn s.heap) (hroom : A.depth < recursionLimit) (hh : A.handled = none)
  (ret : ∀ h' tk a front b tf, s.heap.StaysIn h' → h'.get? a = some { cls := .type "tuple", data := .seq #[.str front tf, .bool b] } → s.heap.get? a = none → front.length ≤ 64 → PyData.strOk front = true → Q (.ref a) { s with heap := h', toks := tk }) :
  wpAny (model PySem.Challenge.rw_nq0100_01.row.prog w) A (call (.ref 117) [.int n t]) Q E s := by
  have X := G.X.keeps st
  have T := G.T.keeps st
  clear G st hh
  obtain ⟨hp, gs, dr, tk, os⟩ := s
  dsimp only at X T ret
  revert X; k_fill; intro X
  refine wpAny_call ?_
  k_dflt (refine' enterP (binds := [(Str.ofString "n", .int n t)]) X T ?k6 ?k7 hroom ?k9 ?kB ?_ ?c2 ?c3 ?c4 ?c5; (case k6 => k_is); (case k7 => k_is); (case k9 => exact BindsTo.of_eq rfl); (case kB => exact locs rfl); (case c2 => exact rfl); (case c3 => exact rfl); (case c4 => exact rfl); (case c5 => decide))
  intro h' F' N'
  dsimp only at F' N'
  generalize hp.objs.size = L at F' N' ⊢
  refine abs_goal (fun Q' E' tk1 kQ => ?_)
  dsimp only
  (try k_unmd)
  have e0 : PyData.strOk (Str.ofString "") = true ∧ (Str.ofString "").length ≤ 0 := by decide +kernel
  iterate 2 walk1
  refine cutStr 1 (fun Q1 E1 tk1 k1 => ?_) (fun act ta tk1 oka la => ?_)
  · clear kQ ret
    k_steps
    · exact k1 _ _ _ (ok_item (by decide +kernel) _) (Nat.le_of_eq (len_item _ _))
    · exact k1 _ _ _ e0.1 (Nat.le_succ_of_le e0.2)
  dsimp only
  iterate 4 walk1
  refine cutStr 1 (fun Q1 E1 tk1 k1 => ?_) (fun who tw tk1 okw lw => ?_)
  · clear kQ ret
    k_steps
    · exact k1 _ _ _ (ok_item (by decide +kernel) _) (Nat.le_of_eq (len_item _ _))
    all_goals exact k1 _ _ _ e0.1 (Nat.le_succ_of_le e0.2)
  dsimp only
  iterate 9 walk1
  rename Fr _ _ _ _ => F1
  dsimp only
  refine cutStrH 4 F1 (fun Q1 E1 tk1 k1 => ?_) (fun pa tp tk1 h1 okp lp F1 => ?_)
  · clear kQ ret
    k_steps
    all_goals (rename Fr _ _ _ _ => F2; exact k1 _ _ _ _ (by decide +kernel) (by decide +kernel) F2)
  have N1 : News hp L h1 [] := News.nil
  k_steps
  rename Fr _ _ _ _ => F2
  rename News _ _ _ _ => N2
  exact kQ _ _ (ret _ _ _ _ _ _ F2.keep (N2.get (.head _)) (N2 _ (.head _)).2.2 (by rw [len_app, len_app]; exact Nat.le_trans (Nat.add_le_add (Nat.add_le_add la lw) lp) (by decide)) (ok_app (ok_app oka okw) okp))
end Mine

end
section
open PySem PySem.W PySem.Calls PyProof.Rows
namespace Mine
noncomputable def sgnc (k : Nat) : Str := if k % 3 = 0 then Str.ofString "r" else if k % 3 = 1 then Str.ofString "w" else Str.ofString "x"
noncomputable def sigs (b : Nat → Bool) : List Str := (List.range 9).map fun k => if b k then sgnc k else Str.ofString "-"
noncomputable def bitsOf (b : Nat → Bool) : List Int := ((List.range 9).filter b).map fun k => (2 : Int) ^ (8 - k)
noncomputable def bn (b0 b1 b2 b3 b4 b5 b6 b7 b8 : Bool) (k : Nat) : Bool := match k with | 0 => b0 | 1 => b1 | 2 => b2 | 3 => b3 | 4 => b4 | 5 => b5 | 6 => b6 | 7 => b7 | 8 => b8 | _ => false
theorem bit_all : ∀ b0 b1 b2 b3 b4 b5 b6 b7 b8 : Bool, 0 ≤ (bitsOf (bn b0 b1 b2 b3 b4 b5 b6 b7 b8)).sum ∧ (bitsOf (bn b0 b1 b2 b3 b4 b5 b6 b7 b8)).sum.toNat < 512 ∧ ∀ k ∈ List.range 9, (bitsOf (bn b0 b1 b2 b3 b4 b5 b6 b7 b8)).sum.toNat.testBit (8 - k) = bn b0 b1 b2 b3 b4 b5 b6 b7 b8 k := by decide +kernel
theorem picks_m : ∀ m ∈ List.range 512, picks (32768 + ((m : Nat) : Int)) 0 tabs = Str.ofString "-" :: sigs (fun k => m.testBit (8 - k)) := by decide +kernel
theorem sigs_congr {b c : Nat → Bool} (h : ∀ k ∈ List.range 9, b k = c k) : sigs b = sigs c := by
  unfold sigs; exact List.map_congr_left fun k hk => by rw [h k hk]
theorem bits_congr {b c : Nat → Bool} (h : ∀ k ∈ List.range 9, b k = c k) : bitsOf b = bitsOf c := by
  unfold bitsOf; rw [List.filter_congr h]
theorem nine {P : Nat → Prop} (h0 : P 0) (h1 : P 1) (h2 : P 2) (h3 : P 3) (h4 : P 4) (h5 : P 5) (h6 : P 6) (h7 : P 7) (h8 : P 8) : ∀ k ∈ List.range 9, P k := by
  intro k hk
  rw [show List.range 9 = [0, 1, 2, 3, 4, 5, 6, 7, 8] from rfl] at hk
  simp only [List.mem_cons, List.mem_nil_iff, or_false] at hk
  rcases hk with e | e | e | e | e | e | e | e | e <;> rw [e] <;> assumption
theorem bn_eq (b : Nat → Bool) : ∀ k ∈ List.range 9, b k = bn (b 0) (b 1) (b 2) (b 3) (b 4) (b 5) (b 6) (b 7) (b 8) k := by
  exact nine rfl rfl rfl rfl rfl rfl rfl rfl rfl
theorem picks_b (b : Nat → Bool) : picks (32768 + (bitsOf b).sum) 0 tabs = Str.ofString "-" :: sigs b := by
  obtain ⟨h1, h2, h3⟩ := bit_all (b 0) (b 1) (b 2) (b 3) (b 4) (b 5) (b 6) (b 7) (b 8)
  rw [bits_congr (bn_eq b), sigs_congr (bn_eq b)]
  have := picks_m _ (List.mem_range.mpr h2)
  rw [Int.toNat_of_nonneg h1] at this
  rw [this]
  congr 1
  exact sigs_congr h3
theorem glue_fold (x : Array Nat) : ∀ (l : List Str) (y : Array Nat), l.foldl (fun acc p => acc ++ (Str.ofString "").cps ++ p.cps) (x ++ y) = x ++ l.foldl (fun acc p => acc ++ (Str.ofString "").cps ++ p.cps) y
  | [], _ => rfl
  | p :: l, y => by
    rw [List.foldl_cons, List.foldl_cons, ← glue_fold x l]
    congr 1
    simp [Array.append_assoc]
theorem join_cons (a b : Str) (l : List Str) : Txt.join (Str.ofString "") (a :: b :: l) = a ++ Txt.join (Str.ofString "") (b :: l) := by
  have e : (Str.ofString "").cps = #[] := by decide +kernel
  show (⟨(b :: l).foldl (fun acc p => acc ++ (Str.ofString "").cps ++ p.cps) a.cps⟩ : Str) = ⟨a.cps ++ l.foldl (fun acc p => acc ++ (Str.ofString "").cps ++ p.cps) b.cps⟩
  rw [List.foldl_cons, ← glue_fold, e]
  simp
theorem signs_b (ns : List Str) (b : Nat → Bool) (h : ∀ k ∈ List.range 9, hasDeep ns k = b k) : signsOf ns = Str.ofString "-" ++ Txt.join (Str.ofString "") (sigs b) := by
  unfold signsOf
  have e : termS ns 9 = bitsOf b := by unfold termS bitsOf; rw [List.filter_congr h]
  rw [e, picks_b]
  exact join_cons _ _ _
theorem nameS_sorted : nameS.Pairwise (fun a b => a.cps.toList < b.cps.toList) := by decide +kernel
/- lists that are sorted -/
theorem dif_filter {p q : Str → Bool} : ∀ {ns : List Str}, ns.Pairwise (fun a b => a.cps.toList < b.cps.toList) → dif (ns.filter p) (ns.filter q) = (ns.filter (fun n => p n && !q n), ns.filter (fun n => q n && !p n))
  | [], _ => by simp [dif_nil_left]
  | a :: ns, hs => by
    obtain ⟨h1, h2⟩ := List.pairwise_cons.mp hs
    have ih := dif_filter (p := p) (q := q) h2
    have hQ : dif (a :: ns.filter p) (ns.filter q) = (a :: (dif (ns.filter p) (ns.filter q)).1, (dif (ns.filter p) (ns.filter q)).2) := by
      cases e : ns.filter q with
      | nil => rw [dif_nil_right, dif_nil_right]
      | cons y Q =>
        have hy : y ∈ ns := (List.mem_filter.mp (e ▸ List.Mem.head _ : y ∈ ns.filter q)).1
        rw [dif_lt (h1 y hy)]
    have hP : dif (ns.filter p) (a :: ns.filter q) = ((dif (ns.filter p) (ns.filter q)).1, a :: (dif (ns.filter p) (ns.filter q)).2) := by
      cases e : ns.filter p with
      | nil => rw [dif_nil_left, dif_nil_left]
      | cons x P =>
        have hx : x ∈ ns := (List.mem_filter.mp (e ▸ List.Mem.head _ : x ∈ ns.filter p)).1
        have hax := h1 x hx
        rw [dif_gt (fun h => lt_irr (List.lt_trans hax h)) hax]
    cases hp : p a <;> cases hq : q a
    · rw [List.filter_cons_of_neg (by simp [hp]), List.filter_cons_of_neg (by simp [hq]), List.filter_cons_of_neg (by simp [hp]), List.filter_cons_of_neg (by simp [hq]), ih]
    · rw [List.filter_cons_of_neg (by simp [hp]), List.filter_cons_of_pos (by simp [hq]), List.filter_cons_of_neg (by simp [hp]), List.filter_cons_of_pos (by simp [hq, hp]), hP, ih]
    · rw [List.filter_cons_of_pos (by simp [hp]), List.filter_cons_of_neg (by simp [hq]), List.filter_cons_of_pos (by simp [hp, hq]), List.filter_cons_of_neg (by simp [hq]), hQ, ih]
    · rw [List.filter_cons_of_pos (by simp [hp]), List.filter_cons_of_pos (by simp [hq]), List.filter_cons_of_neg (by simp [hq]), List.filter_cons_of_neg (by simp [hp]), dif_eq lt_irr lt_irr, ih]
theorem inL_filter {p : Str → Bool} {ns : List Str} {n : Str} (h : n ∈ ns) : inL (ns.filter p) n = p n := by
  unfold inL
  cases hp : p n with
  | true => exact List.any_eq_true.mpr ⟨n, List.mem_filter.mpr ⟨h, hp⟩, beq_self_eq_true n⟩
  | false =>
    refine Bool.eq_false_iff.mpr fun e => ?_
    obtain ⟨x, hx, hxn⟩ := List.any_eq_true.mp e
    rw [beq_iff_eq.mp hxn] at hx
    rw [(List.mem_filter.mp hx).2] at hp
    cases hp
theorem cut_eq (x y : Str) : cut x y = Txt.startswith x y := by
  unfold cut Txt.startswith
  by_cases h : y.length ≤ x.length
  · have e := beq_iff_eq.mp (slice_closes_toL (x := x) (j := (y.length : Int)) (Int.natCast_nonneg _) (by omega))
    rw [e, StrLaws.subAt_eq]
    rw [decide_eq_true (show 0 + y.length ≤ x.length by omega), Bool.true_and]
    obtain ⟨yc⟩ := y
    have e2 : ((yc.size : Int) - 0).toNat = yc.size := by omega
    show ((⟨((x.cps.toList.drop (0 : Int).toNat).take ((yc.size : Int) - 0).toNat).toArray⟩ : Str) == ⟨yc⟩) = ((x.cps.toList.drop 0).take yc.size == yc.toList)
    rw [e2]
    show ((⟨((x.cps.toList.drop 0).take yc.size).toArray⟩ : Str) == ⟨yc⟩) = _
    rw [Bool.eq_iff_iff, beq_iff_eq, beq_iff_eq]
    constructor
    · intro q; injection q with q; have := congrArg Array.toList q; simpa using this
    · intro q; rw [q]
  · rw [decide_eq_false (show ¬ 0 + y.length ≤ x.length by omega), Bool.false_and]
    refine Bool.eq_false_iff.mpr fun q => ?_
    have e := beq_iff_eq.mp q
    have l := (fact_slice_ns x (y.length : Int)).2 (by omega)
    rw [e] at l
    omega
theorem score_eq (front name : Str) : score front name = if cut name front then (front.length : Int) + 1 else 0 := by unfold score; rw [cut_eq]
theorem stp_best (n : Str) {K : Int} (hK : 0 < K) : ∀ (rs : List (Str × Bool)) (st : Int × Bool), K ≤ (rs.foldl (stp n) st).1 ↔ K ≤ st.1 ∨ ∃ r ∈ rs, K ≤ score r.1 n
  | [], st => by simp
  | r :: rs, st => by
    have one : K ≤ (stp n st r).1 ↔ K ≤ st.1 ∨ K ≤ score r.1 n := by
      unfold stp
      split
      · omega
      · split
        · show K ≤ score r.1 n ↔ _; omega
        · split
          · show K ≤ st.1 ↔ _; omega
          · omega
    rw [List.foldl_cons, stp_best n hK rs, one]
    constructor
    · rintro ((h | h) | ⟨x, hx, h⟩)
      · exact .inl h
      · exact .inr ⟨r, .head _, h⟩
      · exact .inr ⟨x, .tail _ hx, h⟩
    · rintro (h | ⟨x, hx, h⟩)
      · exact .inl (.inl h)
      · rcases List.mem_cons.mp hx with e | hx
        · rw [e] at h; exact .inl (.inr h)
        · exact .inr ⟨x, hx, h⟩
theorem blk_iff (n : Str) (rs : List (Str × Bool)) {size : Int} (h : 0 ≤ size) : (blkOf rs size n).isEmpty = decide ((rs.foldl (stp n) (-1, true)).1 ≤ size) := by
  have b := stp_best n (K := size + 1) (by omega) rs (-1, true)
  rw [Bool.eq_iff_iff, decide_eq_true_iff]
  unfold blkOf
  rw [List.isEmpty_iff, List.map_eq_nil_iff, List.filter_eq_nil_iff]
  constructor
  · intro k
    by_cases q : (rs.foldl (stp n) (-1, true)).1 ≤ size
    · exact q
    · rcases b.mp (by omega) with z | ⟨r, hr, z⟩
      · exact absurd z (by show ¬ size + 1 ≤ -1; omega)
      · refine absurd ?_ (k r hr)
        rw [score_eq] at z
        split at z
        · rename_i hc
          rw [hc, Bool.and_true, decide_eq_true_iff]; omega
        · omega
  · intro k r hr q
    rw [Bool.and_eq_true, decide_eq_true_iff] at q
    have : size + 1 ≤ (rs.foldl (stp n) (-1, true)).1 := b.mpr (.inr ⟨r, hr, by rw [score_eq, if_pos q.2]; omega⟩)
    omega
theorem stp_change (n : Str) (st : Int × Bool) (r : Str × Bool) : (st.2 != (stp n st r).2) = (cut n r.1 && (st.2 != r.2) && decide (st.1 ≤ sizeR r)) := by
  obtain ⟨b, a⟩ := st
  obtain ⟨f, v⟩ := r
  unfold stp sizeR
  simp only [score_eq]
  cases hc : cut n f
  · simp
  · have hl : (0 : Int) ≤ f.length := Int.natCast_nonneg _
    simp only [if_true]
    rw [if_neg (by omega)]
    rcases Int.lt_trichotomy b ((f.length : Int) + 1) with h | h | h
    · rw [if_pos h]
      cases a <;> cases v <;> simp <;> omega
    · rw [if_neg (by omega)]
      cases a <;> cases v <;> simp [h] <;> omega
    · rw [if_neg (by omega), if_neg (by intro q; have := q.1; omega)]
      cases a <;> cases v <;> simp <;> omega
theorem allow_next {rs : List (Str × Bool)} {i : Nat} {r : Str × Bool} (h : rs[i]? = some r) (n : Str) : allow (rs.take (i + 1)) n = (stp n ((rs.take i).foldl (stp n) (-1, true)) r).2 := by
  unfold allow; rw [take_snoc h, List.foldl_append]; rfl
theorem sizeR_nonneg (r : Str × Bool) : 0 ≤ sizeR r := by unfold sizeR; split <;> omega
theorem turned_eq {ns : List Str} {rs : List (Str × Bool)} {i : Nat} {r : Str × Bool} (h : rs[i]? = some r) :
    turnedOf (metOf ns r.1 r.2 (ns.filter (allow (rs.take i)))) (rs.take i) (sizeR r) = ns.filter (fun n => allow (rs.take i) n != allow (rs.take (i + 1)) n) := by
  unfold turnedOf metOf
  rw [List.filter_filter]
  refine List.filter_congr fun n hn => ?_
  rw [inL_filter hn, blk_iff n _ (sizeR_nonneg r), allow_next h, show allow (rs.take i) n = ((rs.take i).foldl (stp n) (-1, true)).2 from rfl, stp_change]
  rw [Bool.and_comm, Bool.and_assoc]
theorem ruleAt_eq {rs : List (Str × Bool)} {i : Nat} {r : Str × Bool} (h : rs[i]? = some r) : ruleAt rs i = r := by unfold ruleAt; rw [h]; rfl
theorem due_free {ns : List Str} {rs : List (Str × Bool)} : ∀ i, i ≤ rs.length → (dueSt ns rs i).1 = ns.filter (allow (rs.take i))
  | 0, _ => by
    show ns = _
    rw [List.filter_eq_self.mpr]
    intro n _; rfl
  | i + 1, hi => by
    obtain ⟨r, hr⟩ : ∃ r, rs[i]? = some r := ⟨_, List.getElem?_eq_getElem hi⟩
    have ih := due_free (ns := ns) (rs := rs) i (by omega)
    rw [dueSt]
    dsimp only
    rw [ih, ruleAt_eq hr, turned_eq hr]
    unfold freeOf
    refine List.filter_congr fun n hn => ?_
    rw [inL_filter hn, inL_filter (p := fun n => allow (rs.take i) n != allow (rs.take (i + 1)) n) hn]
    cases allow (rs.take i) n <;> cases allow (rs.take (i + 1)) n <;> rfl
theorem turnedAt_eq {ns : List Str} {rs : List (Str × Bool)} {i : Nat} (hi : i < rs.length) : turnedAt ns rs i = ns.filter (fun n => allow (rs.take i) n != allow (rs.take (i + 1)) n) := by
  obtain ⟨r, hr⟩ : ∃ r, rs[i]? = some r := ⟨_, List.getElem?_eq_getElem hi⟩
  unfold turnedAt
  rw [due_free i (by omega), ruleAt_eq hr, turned_eq hr]
/- what turns takes the rule's verdict -/
theorem turned_verdict {rs : List (Str × Bool)} {i : Nat} {r : Str × Bool} (h : rs[i]? = some r) {n : Str} (hn : (allow (rs.take i) n != allow (rs.take (i + 1)) n) = true) : allow (rs.take i) n = !r.2 ∧ allow (rs.take (i + 1)) n = r.2 := by
  have e := hn
  rw [allow_next h, show allow (rs.take i) n = ((rs.take i).foldl (stp n) (-1, true)).2 from rfl, stp_change, Bool.and_eq_true, Bool.and_eq_true] at e
  have e2 := e.1.2
  have e3 : ((rs.take i).foldl (stp n) (-1, true)).2 = allow (rs.take i) n := rfl
  rw [e3] at e2
  revert hn e2
  cases allow (rs.take i) n <;> cases allow (rs.take (i + 1)) n <;> cases r.2 <;> simp
noncomputable def deepAt (k : Nat) : Str := (deepS[k]?).getD (Str.ofString "")
theorem deep_name : ∀ k ∈ List.range 9, deepAt k ∈ nameS ∧ deepT (deepAt k) = true ∧ placeN (deepAt k) = k := by decide +kernel
theorem name_deep : ∀ y ∈ nameS, deepT y = true → placeN y < 9 ∧ deepAt (placeN y) = y ∧ Txt.item y 0 = sgnc (placeN y) := by decide +kernel
theorem hasDeep_eq (ns : List Str) : ∀ k ∈ List.range 9, hasDeep ns k = inL ns (deepAt k) := by
  intro k hk
  have hk' : k < deepS.length := List.mem_range.mp hk
  unfold hasDeep deepAt inL
  rw [List.getElem?_eq_getElem hk']
  rfl
theorem set_range (f : Nat → Str) (x : Str) : ∀ p < 9, ((List.range 9).map f).take p ++ [x] ++ ((List.range 9).map f).drop (p + 1) = (List.range 9).map (fun k => if k = p then x else f k) := by
  intro p hp
  exact nine (P := fun p => ((List.range 9).map f).take p ++ [x] ++ ((List.range 9).map f).drop (p + 1) = (List.range 9).map (fun k => if k = p then x else f k)) rfl rfl rfl rfl rfl rfl rfl rfl rfl p (List.mem_range.mpr hp)
theorem setSign_sigs (v : Bool) (b : Nat → Bool) {y : Str} (hy : y ∈ nameS) : setSign v (sigs b) y = sigs (fun k => if deepT y && k == placeN y then v else b k) := by
  unfold setSign
  cases hd : deepT y with
  | false => rw [if_neg (by decide)]; simp
  | true =>
    obtain ⟨h1, _, h3⟩ := name_deep y hy hd
    rw [if_pos rfl]
    unfold sigs
    rw [set_range _ _ _ h1]
    refine List.map_congr_left fun k _ => ?_
    by_cases e : k = placeN y
    · rw [if_pos e]
      simp only [e, Bool.true_and, beq_self_eq_true, if_true, h3]
    · rw [if_neg e]
      simp [e]
theorem fold_sigs (v : Bool) : ∀ (ts : List Str) (b : Nat → Bool), (∀ y ∈ ts, y ∈ nameS) → ts.foldl (setSign v) (sigs b) = sigs (fun k => if inL ts (deepAt k) then v else b k)
  | [], b, _ => by simp [inL]
  | y :: ts, b, h => by
    rw [List.foldl_cons, setSign_sigs v b (h y (.head _)), fold_sigs v ts _ (fun z hz => h z (.tail _ hz))]
    refine sigs_congr fun k hk => ?_
    have e : inL (y :: ts) (deepAt k) = ((y == deepAt k) || inL ts (deepAt k)) := by unfold inL; rw [List.any_cons]
    have e2 : (deepT y && k == placeN y) = (y == deepAt k) := by
      rw [Bool.eq_iff_iff, Bool.and_eq_true, beq_iff_eq, beq_iff_eq]
      constructor
      · rintro ⟨h1, h2⟩
        rw [h2]; exact (name_deep y (h y (.head _)) h1).2.1.symm
      · intro q
        have := deep_name k hk
        rw [q]; exact ⟨this.2.1, this.2.2.symm⟩
    rw [e, e2]
    cases (y == deepAt k) <;> cases inL ts (deepAt k) <;> rfl
theorem sign0_eq : sign0 = sigs (fun _ => true) := by decide +kernel
theorem due_signs {rs : List (Str × Bool)} : ∀ i, i ≤ rs.length → (dueSt nameS rs i).2 = sigs (fun k => allow (rs.take i) (deepAt k))
  | 0, _ => sign0_eq
  | i + 1, hi => by
    obtain ⟨r, hr⟩ : ∃ r, rs[i]? = some r := ⟨_, List.getElem?_eq_getElem hi⟩
    have ih := due_signs (rs := rs) i (by omega)
    rw [dueSt]
    dsimp only
    rw [ih, due_free i (by omega), ruleAt_eq hr, turned_eq hr, fold_sigs _ _ _ (fun y hy => (List.mem_filter.mp hy).1)]
    refine sigs_congr fun k hk => ?_
    rw [inL_filter (p := fun n => allow (rs.take i) n != allow (rs.take (i + 1)) n) (deep_name k hk).1]
    cases hc : (allow (rs.take i) (deepAt k) != allow (rs.take (i + 1)) (deepAt k)) with
    | true => rw [if_pos rfl]; exact (turned_verdict hr hc).2.symm
    | false =>
      rw [if_neg (by decide)]
      revert hc
      cases allow (rs.take i) (deepAt k) <;> cases allow (rs.take (i + 1)) (deepAt k) <;> simp
/- the plain law -/
theorem told_due {rs : List (Str × Bool)} {i : Nat} (hi : i < rs.length) : toldD nameS rs i = dueD nameS rs i := by
  obtain ⟨r, hr⟩ : ∃ r, rs[i]? = some r := ⟨_, List.getElem?_eq_getElem hi⟩
  unfold toldD dueD
  rw [turnedAt_eq hi, ruleAt_eq hr, due_signs (i + 1) (by omega)]
  unfold allowed
  rw [dif_filter nameS_sorted]
  have hs : signsOf (nameS.filter (allow (rs.take (i + 1)))) = Str.ofString "-" ++ Txt.join (Str.ofString "") (sigs (fun k => allow (rs.take (i + 1)) (deepAt k))) :=
    signs_b _ _ (fun k hk => by rw [hasDeep_eq _ k hk, inL_filter (deep_name k hk).1])
  rw [hs]
  have key : ∀ n, (allow (rs.take i) n && !allow (rs.take (i + 1)) n) = (!r.2 && (allow (rs.take i) n != allow (rs.take (i + 1)) n)) ∧ (allow (rs.take (i + 1)) n && !allow (rs.take i) n) = (r.2 && (allow (rs.take i) n != allow (rs.take (i + 1)) n)) := by
    intro n
    cases hc : (allow (rs.take i) n != allow (rs.take (i + 1)) n) with
    | true =>
      obtain ⟨h1, h2⟩ := turned_verdict hr hc
      rw [h1, h2]; cases r.2 <;> simp
    | false =>
      revert hc
      cases allow (rs.take i) n <;> cases allow (rs.take (i + 1)) n <;> simp
  have k1 : nameS.filter (fun n => allow (rs.take i) n && !allow (rs.take (i + 1)) n) = if r.2 then [] else nameS.filter (fun n => allow (rs.take i) n != allow (rs.take (i + 1)) n) := by
    rw [List.filter_congr fun n _ => (key n).1]
    cases r.2 <;> simp
  have k2 : nameS.filter (fun n => allow (rs.take (i + 1)) n && !allow (rs.take i) n) = if r.2 then nameS.filter (fun n => allow (rs.take i) n != allow (rs.take (i + 1)) n) else [] := by
    rw [List.filter_congr fun n _ => (key n).2]
    cases r.2 <;> simp
  rw [k1, k2]
theorem told_due_all (rs : List (Str × Bool)) : (List.range rs.length).map (toldD nameS rs) = (List.range rs.length).map (dueD nameS rs) :=
  List.map_congr_left fun i hi => told_due (List.mem_range.mp hi)
end Mine

end
section
open PySem PySem.W PySem.Calls PyProof.Rows PyProof.Rows.TI
namespace Mine
inductive MidX (h₀ : Heap) (C I : Addr) (oI : Obj) (D : Addr) (J : List Value → List (Addr × Obj) → Prop) (gs : Array GenState) (dr : Drawn) (os : OsState) (s' : Shared) : Prop
  | mk (h' : Heap) (tk : Nat) (m₂ : Str → Option Value) (ys' : List Value) (k' : Nat) (ex' : List (Addr × Obj)) (e : s' = ⟨h', gs, dr, tk, os⟩) (F : Fr h₀ C h' m₂) (N : News h₀ C h' ((I, oI) :: (D, listOf (List.toArray ys') k') :: ex')) (ha : ∀ p ∈ ex', p.1 ≠ I ∧ p.1 ≠ D) (hJ : J ys' ex')
inductive InvX (I D : Addr) (J : List Value → List (Addr × Obj) → Prop) (news : List (Addr × Obj)) : Prop
  | mk (ys : List Value) (k : Nat) (ex : List (Addr × Obj)) (e : news = (D, listOf (List.toArray ys) k) :: ex) (hex : ∀ p ∈ ex, p.1 ≠ I ∧ p.1 ≠ D) (hJ : J ys ex)
section
variable {prog : Program} {w : World} {A : Around} {E : Value → Shared → Prop} {s : Shared} {env : Env} {h₀ : Heap}
/- the turns of an inner clause over a list on the ledger -/
theorem compInList {R : Result → Shared → Prop} {elt : Expr} {gens : List Comprehension} {scope : Scope} {pos : Pos} {d : Nat} {acc : Value} {p px : Pos} {mid : Addr → Sem Fin} {x : Str} {l : Addr} {vs : List Value} {kl : Nat} {g : Comprehension} {m : Str → Option Value} {news : List (Addr × Obj)}
    (hh : A.handled = none) (hg : gens[d]? = some g) (hga : g.is_async = 0)
    (hT : ∀ I : Addr, compTurn (.ListComp elt gens scope pos) d (.ref I) acc env = (standAt p >>= fun _ => pyNext (.ref I) >>= fun r => match r with
      | none => pure (.done .next)
      | some v => letOwnedTupleGo (.Name x px) (.ref I) v >>= fun _ => assign (.Name x px) env v >>= fun _ => mid I))
    (hx : env.kindOf x = some .local) (hp : (env.scope.kind == .class || (env.scope.kind == .module && env.locals != env.globals)) = false)
    (F : Fr h₀ env.locals s.heap m) (N : News h₀ env.locals s.heap news)
    (J : Nat → (Str → Option Value) → List (Addr × Obj) → Prop) (hl : ∀ i m news, J i m news → (l, listOf vs.toArray kl) ∈ news) (h0 : J 0 m news)
    (step : ∀ I i v m₁ news₁ h₁ tk₁ oI (E' : Value → Shared → Prop), vs[i]? = some v → J i m₁ news₁ → (∀ p ∈ news₁, p.1 ≠ I) →
      Fr h₀ env.locals h₁ (fun y => if y = x then some v else m₁ y) → News h₀ env.locals h₁ ((I, oI) :: news₁) →
      wpAny (model prog w) A (mid I)
        (fun fin s₃ => fin = .again (.compLoop (.ListComp elt gens scope pos) d (.ref I) acc env) ∧ MidN h₀ env.locals I oI (J (i + 1)) s.gens s.drawn s.os s₃) E' { s with heap := h₁, toks := tk₁ })
    (hR : ∀ h' tk m' news', Fr h₀ env.locals h' m' → News h₀ env.locals h' news' → J vs.length m' news' → R (.ok .next) { s with heap := h', toks := tk }) :
    wpAny (model prog w) A (pyIter (.ref l)) (fun it s₂ => codeAny (model prog w) A (.compStart (.ListComp elt gens scope pos) d it acc env) R s₂) E s := by
  have ml := N _ (hl 0 m news h0)
  have hls : s.heap.IsList l vs.toArray := N.isList (hl 0 m news h0)
  have hne : l ≠ s.heap.objs.size := Nat.ne_of_lt (Heap.lt_size ml.1)
  refine wpAny_pyIter_list hls ?_
  have W := Walks.list (prog := prog) (w := w) hh s.heap.objs.size l hne vs.toArray
  have hlen : vs.toArray.size = vs.length := by simp
  rw [hlen] at W
  have hI0 : h₀.get? s.heap.objs.size = none := next_is_new F
  have hLI : env.locals ≠ s.heap.objs.size := Nat.ne_of_lt F.ns.lt
  have hnI : ∀ p ∈ news, p.1 ≠ s.heap.objs.size := fun p hp e => absurd (Heap.lt_size (N p hp).1) (e ▸ Nat.lt_irrefl _)
  have kp : s.heap.StaysIn (s.heap.push { cls := .type "list_iterator", data := .fields #[.ref l, .int 0 0] }) := fun b o e => Heap.get?_push_of_some _ e
  have hst : Heap.IsListIter (s.heap.push { cls := .type "list_iterator", data := .fields #[.ref l, .int 0 0] }) s.heap.objs.size l 0 ∧ Heap.IsList (s.heap.push { cls := .type "list_iterator", data := .fields #[.ref l, .int 0 0] }) l vs.toArray := ⟨⟨_, Heap.get?_push_size _ rfl, rfl, rfl⟩, hls.at fun o e => kp _ _ e⟩
  refine compStartF hg hga (fun Q E hq => W.self 0 _ Q E hst hq) ?_
  generalize hI : s.heap.objs.size = I at *
  refine compLoopF (s := { s with heap := s.heap.push _ }) (h₀ := h₀) (hT I) (KTurns.ofWalks (target := .Name x px) W (fun i v s Q E _ hq => wpAny_pure hq)) ?_ (fun b hb => (List.mem_singleton.mp hb) ▸ hI0) (fun p hp hq => hnI p hp (List.mem_singleton.mp hq)) hst (F.push _) (fun p hp => ⟨kp _ _ (N p hp).1, (N p hp).2⟩) J h0 ?_ ?_
  · intro hm
    rcases List.mem_cons.mp hm with e | hm
    · exact hLI e
    · exact ml.2.1 (List.mem_singleton.mp hm).symm
  · intro i v m₁ news₁ h₁ tk₁ own E' hi hP hJ hoff hown hownh hall hst' F₁ N₁
    obtain ⟨⟨oI, hoI, _⟩, _⟩ := id hst'
    have hP' : vs[i]? = some v := by simpa using hP
    have hIown : (I, oI) ∈ own := hall _ (.head _) hI0 _ hoI
    have hlo := (N₁ _ (List.mem_append_right own (hl i m₁ news₁ hJ))).1
    have hone : ∀ p ∈ own, p = (I, oI) ∨ p = (l, listOf vs.toArray kl) := fun p hp => by
      rcases List.mem_cons.mp (hown p hp) with e | e
      · left
        have := hownh p hp
        rw [e, hoI] at this
        exact Prod.ext e (Option.some.inj this).symm
      · right
        have e := List.mem_singleton.mp e
        have := hownh p hp
        rw [e] at this
        exact Prod.ext e (Option.some.inj (this.symm.trans hlo))
    have N₂ : News h₀ env.locals h₁ ((I, oI) :: news₁) := fun p hp => by
      rcases List.mem_cons.mp hp with h | h
      · rw [h]; exact N₁ _ (List.mem_append_left _ hIown)
      · exact N₁ p (List.mem_append_right _ h)
    refine wpAny_assign_Name (wpAny_storeName_local hx F₁.ns (fun h₂ hn₂ hs₂ => ?_) hp)
    replace hs₂ : Heap.SameBut env.locals h₁ h₂ := hs₂
    refine wpAny_mono (step I i v m₁ news₁ h₂ _ oI E' hP' hJ (fun p hp e => hoff p hp (List.mem_singleton.mpr e)) (F₁.set hn₂ hs₂) (N₂.set hs₂)) (fun fin s₃ h₃ => ?_) fun _ _ e => e
    obtain ⟨e1, h', tk, m₂, news₂, e2, F₃, N₃, ho, hj⟩ := h₃
    refine ⟨e1, h', tk, m₂, news₂, e2, F₃, fun p hp => ?_, fun p hp hq => ho p hp (List.mem_singleton.mp hq), hj⟩
    rcases List.mem_append.mp hp with h1 | h1
    · rcases hone p h1 with e | e
      · rw [e]; exact N₃ _ (.head _)
      · rw [e]; exact N₃ _ (.tail _ (hl _ _ _ hj))
    · exact N₃ p (.tail _ h1)
  · intro h' tk m' news' F' N' ho hj
    exact hR h' tk m' news' F' N' hj

inductive CompAX (prog : Program) (w : World) (A : Around) (env : Env) (elt iter : Expr) (ifs : List Expr) (scope : Scope) (cl : List (Str × Addr)) (pos px : Pos) (x y : Str) (mid : Addr → Addr → Addr → Sem Fin) (J : Nat → List Value → List (Addr × Obj) → Prop) (Q : Flow → Shared → Prop) (xv : Value) (s₁ : Shared) : Prop
  | mk (l : Addr) (vs : List Value) (m : Str → Option Value) (e : xv = .ref l) (hl : s₁.heap.IsList l vs.toArray) (hn : s₁.heap.Ns env.locals m) (hJ0 : J 0 [] [])
      (step : ∀ I C D i v ys k ex (m₁ : Str → Option Value) h₁ tk₁ oI (E' : Value → Shared → Prop), (I < D) → (D < C) → vs[i]? = some v → J i ys ex →
        Fr s₁.heap C h₁ (fun y => if y = x then some v else m₁ y) → News s₁.heap C h₁ ((I, oI) :: (D, listOf (List.toArray ys) k) :: ex) → (∀ p ∈ ex, p.1 ≠ I ∧ p.1 ≠ D) →
        wpAny (model prog w) A (mid I C D)
          (fun fin s₃ => fin = .again (.compLoop (.ListComp elt [⟨.Name x px, iter, ifs, 0⟩] scope pos) 0 (.ref I) (.ref D) (compEnvC scope cl C env)) ∧ MidX s₁.heap C I oI D (J (i + 1)) s₁.gens s₁.drawn s₁.os s₃) E' { s₁ with heap := h₁, toks := tk₁ })
      (ret : ∀ D h' tk ys k ex, (∀ b o, b ≠ env.locals → s₁.heap.get? b = some o → h'.get? b = some o) → h'.Ns env.locals (fun z => if z = y then some (.ref D) else m z) → s₁.heap.get? D = none → h'.get? D = some (listOf (List.toArray ys) k) → (∀ p ∈ ex, h'.get? p.1 = some p.2 ∧ s₁.heap.get? p.1 = none) → (∀ p ∈ ex, p.1 ≠ D) → J vs.length ys ex → Q .next { s₁ with heap := h', toks := tk })
/- a comprehension over a list, bound at once to a local name; what its turns make stays on the ledger -/
theorem compAssignX {elt iter : Expr} {ifs : List Expr} {scope : Scope} {cl : List (Str × Addr)} {pos px py spos : Pos} {x y : Str} {p : Pos} {mid : Addr → Addr → Addr → Sem Fin} {Q : Flow → Shared → Prop} (J : Nat → List Value → List (Addr × Obj) → Prop)
    (hsw : swapsWith (.ListComp elt [⟨.Name x px, iter, ifs, 0⟩] scope pos) (some (.Name y py)) spos.line env = pure true)
    (hclos : closureFor scope env = pure cl) (hcell : ∀ y ∈ scope.names, y.2 ≠ .cell) (hkind : scope.kind = .function)
    (hnames : ∀ y ∈ scope.names, y.2 = .local → scope.names.lookup y.1 = some .local)
    (hy : env.kindOf y = some .local) (hp : (env.scope.kind == .class || (env.scope.kind == .module && env.locals != env.globals)) = false) (hh : A.handled = none)
    (hT : ∀ I C D : Addr, compTurn (.ListComp elt [⟨.Name x px, iter, ifs, 0⟩] scope pos) 0 (.ref I) (.ref D) (compEnvC scope cl C env) = (standAt p >>= fun _ => pyNext (.ref I) >>= fun r => match r with
      | none => pure (.done .next)
      | some v => letOwnedTupleGo (.Name x px) (.ref I) v >>= fun _ => assign (.Name x px) (compEnvC scope cl C env) v >>= fun _ => mid I C D))
    (hx : ∀ C, (compEnvC scope cl C env).kindOf x = some .local)
    (h : wpAny (model prog w) A (eval iter env) (CompAX prog w A env elt iter ifs scope cl pos px x y mid J Q) E s)
    (hs : ∀ x, foldedSetIterable iter env x = pure x := by intro _; rfl) :
    wpAny (model prog w) A (exec (.Assign [.Name y py] (.ListComp elt [⟨.Name x px, iter, ifs, 0⟩] scope pos) spos) env) Q E s := by
  rw [exec_Assign_Name_used _ _ _ _ hsw]
  refine wpAny_bind (wpAny_standAt (wpAny_bind ?_))
  show wpAny _ A (do let _ ← comprehension (.ListComp elt [⟨.Name x px, iter, ifs, 0⟩] scope pos) scope env _ (newList []) false (eval iter env) (some (assign (.Name y py) env))) _ _ s
  refine wpAny_bind (wpAny_mono (wpAny_comprehension_free (use := some (assign (.Name y py) env)) (Q := fun _ s' => Q .next s') rfl hs hclos hkind hnames
    (wpAny_mono h (fun xv s₁ h₁ => ?_) fun _ _ e => e)) (fun _ s' hq => wpAny_pure (wpAny_pure hq)) fun _ _ e => e)
  obtain ⟨l, vs, m, rfl, hl, hn, hJ0, step, ret⟩ := h₁
  obtain ⟨ol, hol, _⟩ := id hl
  have hne : l ≠ s₁.heap.objs.size := Nat.ne_of_lt (Heap.lt_size hol)
  refine wpAny_pyIter_list hl ?_
  have W := Walks.list (prog := prog) (w := w) hh s₁.heap.objs.size l hne vs.toArray
  have hlen : vs.toArray.size = vs.length := by simp
  rw [hlen] at W
  have hIn : s₁.heap.get? s₁.heap.objs.size = none := Heap.get?_none_of_le (Nat.le_refl _)
  refine wpAny_newObj_type (wpAny_newFunctionEnv hcell (by intro y hy; simp at hy) (fun h₁ hns₁ hsb₁ => ?_) hkind)
  dsimp only at hns₁ hsb₁ ⊢
  generalize hH1 : s₁.heap.push { cls := .type "list_iterator", data := .fields #[.ref l, .int 0 0] } = H1 at hns₁ hsb₁ ⊢
  generalize hI : s₁.heap.objs.size = I at *
  have sH1 : H1.objs.size = I + 1 := by rw [← hH1, Heap.size_push, hI]
  generalize hH2 : H1.push { cls := .type "list", dict := none, data := .seq ([] : List Value).toArray } = H2 at hns₁ hsb₁ ⊢
  have sH2 : H2.objs.size = I + 2 := by rw [← hH2, Heap.size_push, sH1]
  have fresh : ∀ a, I ≤ a → s₁.heap.get? a = none := fun a ha => Heap.get?_none_of_le (hI ▸ ha)
  have k1 : s₁.heap.StaysIn H1 := fun b o e => hH1 ▸ Heap.get?_push_of_some _ e
  have k2 : H1.StaysIn H2 := fun b o e => hH2 ▸ Heap.get?_push_of_some _ e
  rw [sH2] at hns₁ hsb₁
  have k3 : ∀ b o, b ≠ I + 2 → H2.get? b = some o → h₁.get? b = some o := fun b o hb e => hsb₁.extBut b o hb (Heap.get?_push_of_some _ e)
  have gI : h₁.get? I = some { cls := .type "list_iterator", data := .fields #[.ref l, .int 0 0] } := k3 _ _ (Nat.ne_of_lt (show I < I + 2 by omega)) (k2 _ _ (by rw [← hH1, ← hI]; exact Heap.get?_push_size _ rfl))
  have gD : h₁.get? (I + 1) = some (listOf #[] 0) := k3 _ _ (Nat.ne_of_lt (Nat.lt_succ_self _)) (by rw [← hH2, ← sH1]; exact Heap.get?_push_size _ rfl)
  have k03 : s₁.heap.StaysIn h₁ := fun b o e => k3 b o (fun q => by rw [q, fresh _ (by omega)] at e; cases e) (k2 _ _ (k1 _ _ e))
  have F : Fr s₁.heap (I + 2) h₁ (fun _ => none) := ⟨hns₁, k03, by rw [hI]; omega⟩
  have N : News s₁.heap (I + 2) h₁ [(I + 1, listOf #[] 0)] := news_cons ⟨gD, Nat.ne_of_lt (Nat.lt_succ_self _), fresh _ (Nat.le_succ _)⟩ (fun p hp => nomatch hp)
  have hst : (h₁.IsListIter I l 0 ∧ h₁.IsList l vs.toArray) := ⟨⟨_, gI, rfl, rfl⟩, hl.at fun o e => k03 _ _ e⟩
  rw [sH2, sH1]
  refine compStartF (s := { s₁ with heap := h₁, toks := _ }) (g := ⟨.Name x px, iter, ifs, 0⟩) rfl rfl (fun Q E hq => W.self 0 _ Q E hst hq) ?_
  have nD : I + 1 ≠ I := Nat.ne_of_gt (Nat.lt_succ_self I)
  refine comp1 (s := { s₁ with heap := h₁, toks := _ }) (env := compEnvC scope cl (I + 2) env) (h₀ := s₁.heap) (news := [(I + 1, listOf #[] 0)]) (hT I (I + 2) (I + 1)) W (fun i h st => let ⟨o, ho, _⟩ := st.1; ⟨o, ho⟩) (fun b hb => by
      rcases List.mem_cons.mp hb with e | hb
      · exact .inl e
      · exact .inr ⟨ol, (List.mem_singleton.mp hb) ▸ hol⟩) hIn (Nat.ne_of_gt (show I < I + 2 by omega)) (hx _) (by simp [compEnvC, relabel, hkind]) (ap_cons nD ap_nil) hst F N
    (fun i _ news => InvX I (I + 1) (J i) news) ⟨[], 0, [], rfl, (fun p hp => nomatch hp), hJ0⟩ ?_ ?_
  · rintro i v m₁ news₁ h₁ tk₁ oI E' hi hP ⟨ys, k, ex, rfl, hex, hJ⟩ hoff F₁ N₁
    refine wpAny_mono (step I (I + 2) (I + 1) i v ys k ex m₁ h₁ tk₁ oI E' (Nat.lt_succ_self _) (Nat.lt_succ_self _) (by simpa using hP) hJ F₁ N₁ hex) (fun fin s₃ h₃ => ?_) fun _ _ e => e
    obtain ⟨e1, h', tk', m₂, ys', k', ex', e2, F', N', hex', hj⟩ := h₃
    exact ⟨e1, h', tk', m₂, (I + 1, _) :: ex', e2, F', N', ap_cons nD (fun p hp => (hex' p hp).1), ys', k', ex', rfl, hex', hj⟩
  · rintro h' tk' m' news' F' N' _ ⟨ys, k, ex, rfl, hex, hJ⟩
    show wpAny _ A (assign (.Name y py) env (.ref (I + 1))) _ _ _
    have hLn : env.locals ≠ I + 1 := by intro q; obtain ⟨o, _, _, ho, _⟩ := hn; rw [q, fresh _ (by omega)] at ho; cases ho
    have hLC : env.locals ≠ I + 2 := by intro q; obtain ⟨o, _, _, ho, _⟩ := hn; rw [q, fresh _ (by omega)] at ho; cases ho
    refine wpAny_assign_Name (wpAny_storeName_local hy (hn.at' fun o e => F'.keep _ o e) (fun h2 hn2 hs2 => ?_) hp)
    refine ⟨m', F'.ns.at' fun o e => hs2.extBut _ _ hLC.symm e, fun h3 hs3 => ?_⟩
    replace hs3 : Heap.SameBut (I + 2) h2 h3 := hs3
    have gD' := N' _ (.head _)
    refine ret (I + 1) h3 _ ys k ex (fun b o hb e => hs3.extBut b o (fun q => by rw [q, fresh _ (by omega)] at e; cases e) (hs2.extBut b o hb (F'.keep b o e))) (hn2.at' fun o e => hs3.extBut _ _ hLC e) (fresh _ (by omega)) (hs3.extBut _ _ gD'.2.1 (hs2.extBut _ _ hLn.symm gD'.1)) (fun p hp => ?_) (fun p hp => (hex p hp).2) hJ
    have z := N' p (.tail _ hp)
    refine ⟨hs3.extBut _ _ z.2.1 (hs2.extBut _ _ (fun q => ?_) z.1), z.2.2⟩
    obtain ⟨o, _, _, ho, _⟩ := hn; rw [← q, z.2.2] at ho; cases ho
end
end Mine

end
section
open PySem PySem.W PySem.Calls PyProof.Rows PyProof.Rows.TI
namespace Mine
theorem le_tr {a b c : List Nat} (h : ¬ b < a) (k : ¬ c < b) : ¬ c < a := fun q => List.not_lt.mpr (List.le_trans (List.not_lt.mp h) (List.not_lt.mp k)) q
theorem le_an {a b : List Nat} (h : ¬ b < a) (k : ¬ a < b) : a = b := List.le_antisymm (List.not_lt.mp h) (List.not_lt.mp k)
theorem perm_uniq {R : Str → Str → Prop} (anti : ∀ a b, R a b → R b a → a = b) : ∀ {l l' : List Str}, l.Perm l' → l.Pairwise R → l'.Pairwise R → l = l'
  | [], l', p, _, _ => (List.nil_perm.mp p).symm
  | a :: l, [], p, _, _ => absurd (List.perm_nil.mp p) (by simp)
  | a :: l, b :: r, p, h, h' => by
    obtain ⟨h1, h2⟩ := List.pairwise_cons.mp h
    obtain ⟨h3, h4⟩ := List.pairwise_cons.mp h'
    have e : a = b := by
      rcases List.mem_cons.mp (p.mem_iff.mp (List.Mem.head _)) with e | ha
      · exact e
      rcases List.mem_cons.mp (p.mem_iff.mpr (List.Mem.head _)) with e | hb
      · exact e.symm
      exact anti a b (h1 b hb) (h3 a ha)
    subst e
    rw [perm_uniq anti (List.Perm.cons_inv p) h2 h4]
theorem rising_pw : ∀ (r : List Str) (p : Str), risingS p r = true → (∀ x ∈ r, ¬ x.cps.toList < p.cps.toList) ∧ r.Pairwise (fun a b => ¬ b.cps.toList < a.cps.toList)
  | [], _, _ => ⟨(fun x hx => nomatch hx), List.Pairwise.nil⟩
  | y :: r, p, h => by
    rw [risingS, Bool.and_eq_true, Bool.not_eq_true', ltCps_eq, decide_eq_false_iff_not] at h
    obtain ⟨i1, i2⟩ := rising_pw r y h.2
    refine ⟨fun x hx => ?_, List.pairwise_cons.mpr ⟨i1, i2⟩⟩
    rcases List.mem_cons.mp hx with e | hx
    · rw [e]; exact h.1
    · exact le_tr h.1 (i1 x hx)
theorem sorted_pw : ∀ {l : List Str}, sortedS l = true → l.Pairwise (fun a b => ¬ b.cps.toList < a.cps.toList)
  | [], _ => .nil
  | x :: r, h => let ⟨a, b⟩ := rising_pw r x h; List.pairwise_cons.mpr ⟨a, b⟩
noncomputable def rawS : List Str := [Str.ofString "ru/a", Str.ofString "ru/a/b", Str.ofString "rg/a", Str.ofString "rg/a/b", Str.ofString "ro/a", Str.ofString "ro/a/b", Str.ofString "wu/a", Str.ofString "wu/a/b", Str.ofString "wg/a", Str.ofString "wg/a/b", Str.ofString "wo/a", Str.ofString "wo/a/b", Str.ofString "xu/a", Str.ofString "xu/a/b", Str.ofString "xg/a", Str.ofString "xg/a/b", Str.ofString "xo/a", Str.ofString "xo/a/b"]
theorem raw_perm : rawS.Perm nameS := List.isPerm_iff.mp (by decide +kernel)
theorem sorted_names {ss : List Str} (h : ss.Perm rawS) (k : sortedS ss = true) : ss = nameS := by
  refine perm_uniq (R := fun a b => ¬ b.cps.toList < a.cps.toList) (fun a b h1 h2 => ?_) (h.trans raw_perm) (sorted_pw k) (sorted_pw (by decide +kernel))
  have := le_an h1 h2
  obtain ⟨a⟩ := a; obtain ⟨b⟩ := b
  congr
  exact Array.toList_inj.mp this
noncomputable def pathS : List Str := [Str.ofString "/a", Str.ofString "/a/b"]
theorem raw_get {i j k c1 c2 : Nat} {q : Str} (h1 : (Str.ofString "rwx").cps[i]? = some c1) (h2 : (Str.ofString "ugo").cps[j]? = some c2) (h3 : pathS[k]? = some q) : rawS[6 * i + 2 * j + k]? = some ((⟨#[c1]⟩ : Str) ++ (⟨#[c2]⟩ : Str) ++ q) := by
  have e1 : (Str.ofString "rwx").cps = #[114, 119, 120] := by decide +kernel
  have e2 : (Str.ofString "ugo").cps = #[117, 103, 111] := by decide +kernel
  have key : ∀ i ∈ List.range 3, ∀ j ∈ List.range 3, ∀ k ∈ List.range 2, rawS[6 * i + 2 * j + k]? = some ((⟨#[(#[114, 119, 120] : Array Nat)[i]?.getD 0]⟩ : Str) ++ (⟨#[(#[117, 103, 111] : Array Nat)[j]?.getD 0]⟩ : Str) ++ (pathS[k]?).getD (Str.ofString "")) := by decide +kernel
  rw [e1] at h1
  rw [e2] at h2
  obtain ⟨b1, _⟩ := Array.getElem?_eq_some_iff.mp h1
  obtain ⟨b2, _⟩ := Array.getElem?_eq_some_iff.mp h2
  obtain ⟨b3, _⟩ := List.getElem?_eq_some_iff.mp h3
  rw [key i (List.mem_range.mpr b1) j (List.mem_range.mpr b2) k (List.mem_range.mpr b3), h1, h2, h3]
  rfl
theorem pair_item {ta tb : Tok} {kk : Nat} {v : Value} (h : [Value.str (Str.ofString "/a") ta, Value.str (Str.ofString "/a/b") tb][kk]? = some v) : ∃ q uq, v = .str q uq ∧ pathS[kk]? = some q := by
  cases kk with
  | zero => cases h; exact ⟨_, _, rfl, rfl⟩
  | succ kk =>
    cases kk with
    | zero => cases h; exact ⟨_, _, rfl, rfl⟩
    | succ kk => cases h
inductive NI3 (l I2 I D : Addr) (oI2 oI : Obj) (ta tb : Tok) (c1 c2 : Nat) (u1 u2 : Tok) (P : List Value → Prop) (m : Str → Option Value) (news : List (Addr × Obj)) : Prop
  | mk (hw : m (Str.ofString "act") = some (.str ⟨#[c1]⟩ u1)) (hv : m (Str.ofString "who") = some (.str ⟨#[c2]⟩ u2)) (ys : List Value) (k : Nat)
    (e : news = [(l, listOf (List.toArray [.str (Str.ofString "/a") ta, .str (Str.ofString "/a/b") tb]) 0), (I2, oI2), (I, oI), (D, listOf (List.toArray ys) k)]) (h : P ys)
theorem namesEval {w : World} {A : Around} {s : Shared} {env : Env} {scope : Scope} {cl : List (Str × Addr)} {p1 p2 p3 p4 p5 p6 p7 p8 p9 p10 p11 p12 p13 p14 : Pos} {Q E : Value → Shared → Prop}
  (hh : A.handled = none) (hclos : closureFor scope env = pure cl) (hcell : ∀ y ∈ scope.names, y.2 ≠ .cell) (hkind : scope.kind = .function)
  (hnames : ∀ y ∈ scope.names, y.2 = .local → scope.names.lookup y.1 = some .local)
  (hk1 : ∀ C, (compEnvC scope cl C env).kindOf (Str.ofString "act") = some .local) (hk2 : ∀ C, (compEnvC scope cl C env).kindOf (Str.ofString "who") = some .local) (hk3 : ∀ C, (compEnvC scope cl C env).kindOf (Str.ofString "path") = some .local)
  (ret : ∀ D h' tk ys k, s.heap.StaysIn h' → s.heap.get? D = none → h'.get? D = some (listOf (List.toArray ys) k) → StrsAre ys rawS → Q (.ref D) { s with heap := h', toks := tk }) :
  wpAny (model PySem.Challenge.rw_nq0100_01.row.prog w) A (eval (.ListComp (.BinOp (.BinOp (.Name (Str.ofString "act") p1) .Add (.Name (Str.ofString "who") p2) p3) .Add (.Name (Str.ofString "path") p4) p5) [⟨.Name (Str.ofString "act") p6, .Constant (.str (Str.ofString "rwx")) 0 p7, [], 0⟩, ⟨.Name (Str.ofString "who") p8, .Constant (.str (Str.ofString "ugo")) 0 p9, [], 0⟩, ⟨.Name (Str.ofString "path") p10, .List [.Constant (.str (Str.ofString "/a")) 0 p11, .Constant (.str (Str.ofString "/a/b")) 0 p12] p13, [], 0⟩] scope p14) env) Q E s := by
  refine compEvalG hclos hcell hkind hnames ?_
  walk1
  refine wpAny_mono (compStr (s := { s with toks := s.toks + 1 }) (Q := Q) (E := E) (by decide +kernel) hh (fun I C D => turn_13 _ _ _ _ _ _ _ _ _ _ _ _) hk1 hkind (fun i ys => StrsAre ys (rawS.take (6 * i))) .nil ?_ ?_) (fun it s₂ h => h) fun _ _ e => e
  · rintro I C D i v ys k m₁ h₁ tk₁ oI E' hID hDC hi ⟨c1, u1, hc1, rfl⟩ hys F1 N1
    have hsk : (compEnvC scope cl C env).scope.kind = .function := hkind
    refine mid_in ?_
    walk1
    refine compInStr (g := ⟨_, _, _, 0⟩) (by decide +kernel) hh rfl rfl (fun I => turn_23 _ _ _ _ _ _ _ _ _ _ _ _) (hk2 C) (by simp [compEnvC, relabel, hkind]) F1 N1 (fun j => NI2 (Str.ofString "act") (.str ⟨#[c1]⟩ u1) I D oI (fun ys => StrsAre ys (rawS.take (6 * i + 2 * j)))) ⟨set_eq, ys, k, rfl, hys⟩ ?_ ?_
    · rintro I2 j v m₂ news₁ h₂ tk₂ oI2 E2 hj ⟨c2, u2, hc2, rfl⟩ ⟨hw, ys2, k2, rfl, hys2⟩ hoff F2 N2
      have n1 : I2 ≠ D := fun q => hoff _ (.tail _ (.head _)) q.symm
      have n2 : I2 ≠ I := fun q => hoff _ (.head _) q.symm
      refine mid_in ?_
      iterate 6 walk1
      refine newList_K F2 N2 (fun l h3 F3 N3' ltl => ?_) (by rw [sizeLine_eq]; simp)
      obtain ⟨ta, tb, N3⟩ : ∃ ta tb, News s.heap C h3 ((l, listOf (List.toArray [.str (Str.ofString "/a") ta, .str (Str.ofString "/a/b") tb]) 0) :: (I2, oI2) :: (I, oI) :: [(D, listOf (List.toArray ys2) k2)]) := ⟨_, _, N3'⟩
      have nl : l ≠ D := Nat.ne_of_gt (ltl (D, _) mem2)
      clear F2 N2 N3'
      refine compInList (l := l) (g := ⟨_, _, _, 0⟩) (vs := [.str (Str.ofString "/a") ta, .str (Str.ofString "/a/b") tb]) (kl := 0) hh rfl rfl (fun I => turn_33 _ _ _ _ _ _ _ _ _ _ _) (hk3 C) (by simp [compEnvC, relabel, hkind]) F3 N3 (fun kk => NI3 l I2 I D oI2 oI ta tb c1 c2 u1 u2 (fun ys => StrsAre ys (rawS.take (6 * i + 2 * j + kk)))) (fun kk m news x => by cases x with | mk _ _ ys k e _ => rw [e]; exact .head _) ⟨set_ne rfl hw, set_eq, ys2, k2, rfl, hys2⟩ ?_ ?_
      · rintro I3 kk v m₃ news₃ h₃ tk₃ oI3 E3 hkk ⟨ha, hwo, ys3, k3, rfl, hys3⟩ hoff3 F4 N4
        obtain ⟨q, uq, rfl, hq⟩ := pair_item hkk
        have hql : q.length ≤ 4 := by
          have : ∀ q ∈ pathS, q.length ≤ 4 := by decide +kernel
          exact this q (List.mem_of_getElem? hq)
        have F5 : Fr s.heap C h₃ _ := fr_overA [(Str.ofString "act", .str ⟨#[c1]⟩ u1), (Str.ofString "who", .str ⟨#[c2]⟩ u2), (Str.ofString "path", .str q uq)] F4 ⟨set_ne rfl ha, set_ne rfl hwo, set_eq, trivial⟩
        replace N4 : News s.heap C h₃ _ := N4
        clear F4
        have ly : ys3.length ≤ 18 := by rw [hys3.length, List.length_take]; exact Nat.min_le_right _ _
        refine mid_nil ?_
        iterate 2 walk1
        refine nm_own F5 (by with_unfolding_all rfl) ?_ hsk (hk1 C)
        refine nm_own F5 (by with_unfolding_all rfl) ?_ hsk (hk2 C)
        refine PyProof.Rows.add_str (fun t6 k6 => ?_) (by rw [sizeLine_eq]; show 1 + 1 ≤ _; omega)
        refine nm_own F5 (by with_unfolding_all rfl) ?_ hsk (hk3 C)
        refine PyProof.Rows.add_str (fun t7 k7 => ?_) (by rw [sizeLine_eq, len_app]; show 1 + 1 + q.length ≤ _; omega)
        have m1 : I3 ≠ D := (hoff3 _ mem3).symm
        have m2 : I ≠ D := Nat.ne_of_lt hID
        refine append_K F5 N4 (.tail m1 (.tail nl (.tail n1 (.tail m2 (.head ap_nil))))) (fun h8 F8 N8 => ?_) (by simp only [List.size_toArray, sizeLine_eq]; omega)
        rw [push_list] at N8
        refine ⟨rfl, _, _, _, [(l, _), (I2, oI2), (I, oI), (D, _)], rfl, F8, N8, ?_, rfl, rfl, _, _, rfl, ?_⟩
        · exact ap_cons (hoff3 (l, _) (.head _)) (ap_cons (hoff3 (I2, _) mem1) (ap_cons (hoff3 (I, _) mem2) (ap_cons (hoff3 (D, listOf (List.toArray ys3) k3) mem3) ap_nil)))
        · rw [← Nat.add_assoc, List.take_add_one, raw_get hc1 hc2 hq]
          exact StrsAre.append' hys3 (.cons _ _ .nil)
      · rintro h9 tk9 m9 news9 F9 N9 ⟨ha, hwo, ys3, k3, rfl, hys3⟩
        refine ⟨rfl, trivial, _, _, _, [(I, oI), (D, _)], rfl, F9, news_drop1 N9, ?_, ha, _, _, rfl, ?_⟩
        · exact ap_cons n2.symm (ap_cons n1.symm ap_nil)
        · have e : 6 * i + 2 * j + [Value.str (Str.ofString "/a") 0, Value.str (Str.ofString "/a/b") 0].length = 6 * i + 2 * (j + 1) := by show 6 * i + 2 * j + 2 = _; omega
          rw [← e]; exact hys3
    · rintro h3 tk3 m3 news3 F3 N3 ⟨hw, ys2, k2, rfl, hys2⟩
      exact ⟨rfl, rfl, _, _, _, ys2, k2, rfl, F3, N3, hys2⟩
  · rintro D h3 tk3 ys k k3 hD hne hget hys
    exact ret D h3 tk3 ys k k3 hD hget hys
end Mine

end
section
open PySem PySem.W PySem.Calls PyProof.Rows PyProof.Rows.TI
namespace Mine
noncomputable def tupO (p : Value × Value) : Obj := { cls := .type "tuple", data := .seq #[p.1, p.2] }
/- the rules made so far -/
inductive RJ (i : Nat) (ys : List Value) (ex : List (Addr × Obj)) : Prop
  | mk (rs : List (Str × Bool)) (ps : List (Value × Value)) (e1 : rs.length = i) (e2 : ys.length = ps.length) (e3 : ps.length = rs.length)
  (k1 : ∀ (j : Nat) p, ps[j]? = some p → ∃ T : Addr, ys[j]? = some (Value.ref T) ∧ (T, tupO p) ∈ ex) (k2 : ∀ (j : Nat) r, rs[j]? = some r → ∃ t, ps[j]? = some (Value.str r.1 t, Value.bool r.2)) (k3 : ∀ r ∈ rs, r.1.length ≤ 64 ∧ PyData.strOk r.1 = true)
theorem snoc_get {α : Type} {l : List α} {x y : α} {j : Nat} (h : (l ++ [x])[j]? = some y) : (j < l.length ∧ l[j]? = some y) ∨ (j = l.length ∧ y = x) := by
  rcases Nat.lt_or_ge j l.length with q | q
  · rw [List.getElem?_append_left q] at h; exact .inl ⟨q, h⟩
  · rw [List.getElem?_append_right q] at h
    rcases Nat.eq_zero_or_pos (j - l.length) with z | z
    · rw [z] at h; exact .inr ⟨by omega, by simpa using h.symm⟩
    · rw [List.getElem?_eq_none (show [x].length ≤ j - l.length from z)] at h; cases h
theorem get_snoc {α : Type} {l : List α} {x : α} : (l ++ [x])[l.length]? = some x := by simp
theorem get_left {α : Type} {l : List α} {x y : α} {j : Nat} (h : l[j]? = some y) : (l ++ [x])[j]? = some y := by
  obtain ⟨q, _⟩ := List.getElem?_eq_some_iff.mp h
  rw [List.getElem?_append_left q]; exact h
theorem RJ.snoc {i : Nat} {ys : List Value} {ex : List (Addr × Obj)} {T : Addr} {f : Str} {b : Bool} {t : Tok} (x : RJ i ys ex) (h1 : f.length ≤ 64) (h2 : PyData.strOk f = true) : RJ (i + 1) (ys ++ [.ref T]) ((T, tupO (.str f t, .bool b)) :: ex) := by
  obtain ⟨rs, ps, e1, e2, e3, k1, k2, k3⟩ := x
  refine ⟨rs ++ [(f, b)], ps ++ [(.str f t, .bool b)], by simp [e1], by simp [e2], by simp [e3], fun j p e => ?_, fun j r e => ?_, fun r hr => ?_⟩
  · rcases snoc_get e with ⟨_, q⟩ | ⟨q1, q2⟩
    · obtain ⟨T', a1, a2⟩ := k1 j p q; exact ⟨T', get_left a1, .tail _ a2⟩
    · subst q2; rw [q1, ← e2]; exact ⟨T, get_snoc, .head _⟩
  · rcases snoc_get e with ⟨_, q⟩ | ⟨q1, q2⟩
    · obtain ⟨t', a1⟩ := k2 j r q; exact ⟨t', get_left a1⟩
    · subst q2; rw [q1, ← e3]; exact ⟨t, get_snoc⟩
  · rcases List.mem_append.mp hr with hr | hr
    · exact k3 r hr
    · rw [List.mem_singleton.mp hr]; exact ⟨h1, h2⟩
theorem ints_item {vs : List Value} {ns : List Int} (x : IntsAre vs ns) : ∀ (i : Nat) v, vs[i]? = some v → ∃ n t, v = Value.int n t := by
  induction x with
  | nil => intro i v h; cases h
  | cons n t r ih =>
    intro i v h
    cases i with
    | zero => cases h; exact ⟨n, t, rfl⟩
    | succ i => exact ih i v h
section
variable {M : Model} {A : Around} {E : Value → Shared → Prop} {s : Shared} {K : Frag} {h₀ : Heap} {C : Addr} {m mg mb : Str → Option Value} {scope : Scope} {cl : List (Str × Addr)} {env : Env} {x : Str} {pos : Pos} {v : Value} {Q : Value → Shared → Prop} {p : Program} {loose : List Str} {mean : ExcName → Option Value}
/- a def's name in a comprehension -/
theorem nm_glob (F : Fr h₀ C s.heap m) (X : K.In h₀) (T : Top p loose mean mg mb h₀) (e : nsIn K mainGlobals x = some (some v)) (h : Q v s) (hg : env.globals = mainGlobals)
    (hk : (compEnvC scope cl C env).scope.kind = .function := by rfl) (hl : (compEnvC scope cl C env).kindOf x = some .globalImplicit := by rfl) (hd : (x == ("__debug__" : Str)) = false := by decide) :
    wpAny M A (eval (.Name x pos) (compEnvC scope cl C env)) Q E s := by
  have TR : TopRead p loose mg mb h₀ := topRead_of T
  refine Name_function_global hk hl ?_ hd
  obtain ⟨sc, lo, gl, ce, qu, fu, co, fr, bu⟩ := env
  cases hg
  exact loadGlobal_global (env := compEnvC scope cl C _) (TR.g.keeps F.keep) (mg_of X TR.g e) h
end
theorem dec_true {P : Prop} {i : Decidable P} (h : P) : @decide P i = true := decide_eq_true h
theorem ne_of_get {h : Heap} {a b : Addr} {o : Obj} (h1 : h.get? a = none) (h2 : h.get? b = some o) : a ≠ b := fun q => by rw [q, h2] at h1; cases h1
theorem fr_told {base h h' : Heap} {L : Addr} {m : Str → Option Value} {oL : Obj} {sl : Array (Option Value)} (F : Fr base L h m) (hoL : h.get? L = some oL) (n119 : base.get? 119 = none) (k : ∀ b o, b ≠ 119 → b ≠ L → h.get? b = some o → h'.get? b = some o) (hL : h'.get? L = some { oL with slots := sl }) : Fr base L h' m :=
  fr_slots F hoL n119 (fun b o h1 h2 e => k b o h2 h1 e) hL
theorem name_ok : ∀ y ∈ nameS, PyData.strOk y = true := by decide +kernel
theorem join_ok : ∀ {l : List Str}, (∀ x ∈ l, PyData.strOk x = true) → PyData.strOk (Txt.join (Str.ofString "") l) = true
  | [], _ => by decide +kernel
  | [a], h => h a (.head _)
  | a :: b :: l, h => by rw [join_cons]; exact ok_app (h a (.head _)) (join_ok fun x hx => h x (.tail _ hx))
theorem sigs_ok (b : Nat → Bool) : ∀ x ∈ sigs b, PyData.strOk x = true := by
  intro x hx
  unfold sigs at hx
  obtain ⟨k, hk, rfl⟩ := List.mem_map.mp hx
  have : ∀ k ∈ List.range 9, PyData.strOk (sgnc k) = true ∧ PyData.strOk (Str.ofString "-") = true := by decide +kernel
  split
  · exact (this k hk).1
  · exact (this k hk).2
theorem strsD_ok {xs : List Str} (h : ∀ x ∈ xs, x ∈ nameS) : kqdOk 7 (strsD xs) = true := by
  unfold strsD
  rw [kqdOk, List.all_eq_true]
  intro d hd
  obtain ⟨x, hx, rfl⟩ := List.mem_map.mp hd
  rw [kqdOk]; exact name_ok x (h x hx)
theorem due_ok {rs : List (Str × Bool)} {i : Nat} (hi : i < rs.length) : kqdOk 8 (dueD nameS rs i) = true := by
  have ht : ∀ x ∈ turnedAt nameS rs i, x ∈ nameS := fun x hx => by rw [turnedAt_eq hi] at hx; exact (List.mem_filter.mp hx).1
  unfold dueD
  rw [due_signs (i + 1) (by omega), kqdOk, List.all_cons, List.all_cons, List.all_cons, List.all_nil, Bool.and_true, Bool.and_eq_true, Bool.and_eq_true]
  refine ⟨strsD_ok ?_, strsD_ok ?_, ?_⟩
  · split
    · intro x hx; cases hx
    · exact ht
  · split
    · exact ht
    · intro x hx; cases hx
  · rw [kqdOk]
    exact ok_app (by decide +kernel) (join_ok (sigs_ok _))
theorem due_ok_all (rs : List (Str × Bool)) : ∀ d ∈ (List.range rs.length).map (dueD nameS rs), kqdOk 8 d = true := by
  intro d hd
  obtain ⟨i, hi, rfl⟩ := List.mem_map.mp hd
  exact due_ok (List.mem_range.mp hi)
theorem law_all : PySem.Challenge.rw_nq0100_01.Holds := hd (by
  k_go0
  (all_goals try k_fold)
  rename Fr _ _ _ _ => F0
  rename News _ _ _ _ => N0
  rename Top _ _ _ _ _ _ => T0
  rename (Frag.In _ _) => X0
  rename IntsAre _ _ => hI0
  have G : Gr _ _ _ _ _ := ⟨X0, T0, codeHd, (N0 _ (.head _)).2.2⟩
  walk1
  refine compAssignX RJ rfl rfl (by decide) rfl (by decide) rfl rfl rfl (fun I C D => turn_11 _ _ _ _ _ _ _ _ _) (fun C => rfl) ?_
  iterate 23 walk1
  rename Fr _ _ _ _ => F1
  rename News _ _ _ _ => N1
  rename IntsAre _ _ => hI1
  have X1 := X0.keeps F1.keep
  have T1 := T0.keeps F1.keep
  refine ⟨_, _, _, rfl, N1.isList (.head _), F1.ns, ⟨[], [], rfl, rfl, rfl, (fun j p e => by simp at e), (fun j r e => by simp at e), (fun r hr => nomatch hr)⟩, ?_, ?_⟩
  · rintro I C D i v ys k ex m₁ h₁ tk₁ oI E' hID hDC hi hJ F2 N2 hex
    obtain ⟨n, t, rfl⟩ := ints_item hI1 i v hi
    have F3 := fr_overA [(Str.ofString "n", .int n t)] F2 ⟨set_eq, trivial⟩
    clear F2
    dsimp only at F3 N2
    refine mid_nil ?_
    iterate 2 walk1
    k_dflt (refine' nm_glob (x := Str.ofString "_law_rule") F3 X1 T1 ?eA ?_ ?gA ?gB ?gC; (case gA => rfl); (case gB => rfl); (case gC => rfl); (case eA => k_is))
    iterate 2 walk1
    refine nm_own F3 (by with_unfolding_all rfl) ?_ rfl rfl
    walk1
    refine ⟨X1.keeps F3.keep, ?_⟩
    refine rule_spec G (stays_trans F1.keep F3.keep) (by show 1 + claimMargin + 1 < recursionLimit; decide +kernel) rfl (fun h4 tk4 T front b tf k4 hT hTn hlen hok => ?_)
    have F4 := F3.keeps k4
    have N4 := news_comp F3 N2 k4 hTn hT
    have q := news_lt N2 hTn
    have hyl : ys.length ≤ 8 := by
      obtain ⟨rs, ps, e1, e2, e3, _⟩ := id hJ
      obtain ⟨hlt, _⟩ := List.getElem?_eq_some_iff.mp hi
      have hl := hI1.length
      rw [List.length_append, List.length_take] at hl
      have h5 : [3, 98, 64, 1, (67 : Int)].length = 5 := rfl
      omega
    refine append_K F4 N4 (.tail (q (D, _) mem1).symm (.tail (Nat.ne_of_lt hID) (.head (fun p hp => (hex p hp).2)))) (fun h5 F5 N5 => ?_) (by simp only [List.size_toArray, sizeLine_eq]; omega)
    rw [push_list] at N5
    refine ⟨rfl, _, _, _, _, _, (T, tupO (.str front tf, .bool b)) :: ex, rfl, F5, news_cons (N5 _ mem1) (news_cons (N5 _ mem2) (news_cons (N5 _ (.head _)) (fun p hp => N5 p (.tail _ (.tail _ (.tail _ hp)))))), (fun p hp => ?_), hJ.snoc hlen hok⟩
    rcases List.mem_cons.mp hp with e | hp
    · rw [e]; exact ⟨(q (I, _) (.head _)).symm, (q (D, _) mem1).symm⟩
    · exact hex p hp
  · rintro D h' tk ys k ex keep hns hD hg hexs hexD ⟨rs, ps, e1, e2, e3, k1, k2, k3⟩
    have F2 := fr_bound F1 keep hns
    have N1' : News _ _ _ [(119, tabObj #[])] := fun p hp => N1 p (.tail _ (.tail _ (.tail _ hp)))
    have N2a := news_bound F1 N1' keep hD hg
    have N2 : News _ _ h' ((D, listOf ys.toArray k) :: (119, tabObj #[]) :: ex) := news_cons (N2a _ (.head _)) (news_cons (N2a _ mem1) (fun p hp => ⟨(hexs p hp).1, (fun q => by obtain ⟨oL, _, _, z, _⟩ := F1.ns; rw [← q, (hexs p hp).2] at z; cases z), of_sub F1.keep (hexs p hp).2⟩))
    have ex119 : ∀ p ∈ ex, p.1 ≠ 119 := fun p hp q => by have := (hexs p hp).2; rw [q, (N1' _ (.head _)).1] at this; cases this
    have hD119 : D ≠ 119 := fun q => by have := hD; rw [q, (N1' _ (.head _)).1] at this; cases this
    have hrn : rs.length ≤ 1000 := by
      have hl := hI1.length
      rw [List.length_append, List.length_take] at hl
      have h5 : [3, 98, 64, 1, (67 : Int)].length = 5 := rfl
      omega
    clear F1 N1 N1' N2a keep hns X1 T1 hexs e1 hI1
    dsimp only
    iterate 6 walk1
    refine namesEval rfl rfl (by decide) rfl (by decide) (fun C => rfl) (fun C => rfl) (fun C => rfl) (fun D2 h3 tk3 ys3 k3' st3 hD3 hg3 hys3 => ?_)
    have F3 := F2.keeps st3
    have N3 := news_comp F2 N2 st3 hD3 hg3
    walk1
    refine sorted_N_str F3 N3 (N3.isList (.head _)) hys3 (by rw [hys3.length]; decide) (fun h4 vs4 ss4 e4 F4 N4 hS4 hp4 hs4 => ?_)
    obtain rfl := sorted_names hp4 hs4
    have l119 : h3.objs.size + 1 ≠ 119 := Nat.ne_of_gt (Nat.lt_succ_of_lt (Heap.lt_size (N3 (119, _) mem2).1))
    clear F3 N3 F2 N2
    dsimp only at N4 ⊢
    generalize h3.objs.size + 1 = nl at N4 l119 ⊢
    iterate 13 walk1
    rename Fr _ _ _ _ => F5
    rename News _ _ _ _ => N5
    obtain ⟨oL, esL, epL, hoL, hdL, _⟩ := id F5.ns
    refine ⟨X0.keeps F5.keep, ?_⟩
    have mex : ∀ p ∈ ex, _ := fun p hp => N5 p (.tail _ (.tail _ (.tail _ (.tail _ hp))))
    have b119 := (N5 _ mem3).2.2
    refine told_spec (rs := rs) (ps := ps) (ns := nameS) (nv := vs4) (rv := ys) G F5.keep (by show 1 + claimMargin + 1 + 3 < recursionLimit; decide +kernel) rfl rfl ⟨(fun q => by cases q), rfl, ⟨esL, epL, hdL⟩, trivial⟩ hoL (Heap.get?_none_of_le F5.above) (N5.get mem3) (N5 _ mem3).2.1.symm ⟨_, N5.get (.head _), rfl, _, rfl⟩ hS4 (by decide) nameS_sorted (N5.isList mem2) ?hpr e3 k2 (fun r hr => (k3 r hr).1) hrn ?ret
    case hpr =>
      refine ⟨e2, fun j p e => ?_⟩
      obtain ⟨T, a1, a2⟩ := k1 j p e
      refine ⟨T, a1, ⟨_, hideAll_get _ (mex _ a2).1 (fun hm => ?_), rfl, _, rfl⟩⟩
      rcases List.mem_cons.mp hm with q | hm
      · exact ex119 _ a2 q
      · exact (mex _ a2).2.1 (List.mem_singleton.mp hm)
    rintro h6 tk6 a6 tv6 n6 tp6 imm6 sl6 keep6 h119' hL6 ha6 na6 him6 hdat6
    have F6 := fr_told F5 hoL b119 keep6 hL6
    have N6 : News _ _ h6 ((a6, listOf (List.toArray tv6) n6) :: (119, tabObj tp6) :: (nl, seqObj "list" vs4.toArray e4) :: (D, listOf ys.toArray k) :: (ex ++ imm6)) :=
      news_cons ⟨ha6, ne_of_get na6 hoL, of_sub F5.keep na6⟩ <| news_cons ⟨h119', (N5 _ mem3).2⟩ <| news_cons ⟨keep6 _ _ l119 (N5 _ (.head _)).2.1 (N5.get (.head _)), (N5 _ (.head _)).2⟩ <| news_cons ⟨keep6 _ _ hD119 (N5 _ mem2).2.1 (N5.get mem2), (N5 _ mem2).2⟩
        (fun p hp => (List.mem_append.mp hp).elim (fun h => ⟨keep6 _ _ (ex119 p h) (mex p h).2.1 (mex p h).1, (mex p h).2⟩) (fun h => ⟨(him6 p h).1, ne_of_get (him6 p h).2 hoL, of_sub F5.keep (him6 p h).2⟩))
    clear F5 N5 mex hoL keep6 hL6 h119' ha6 na6 him6 hdL
    iterate 8 walk1
    refine ⟨X0.keeps F6.keep, ?_⟩
    refine due_spec (rs := rs) (ps := ps) (ns := nameS) (nv := vs4) (rv := ys) G F6.keep (by show 1 + claimMargin + 1 + 3 < recursionLimit; decide +kernel) rfl (by show 4 + 3 + 100 < cLine; decide) ⟨_, N6.get mem2, rfl, _, rfl⟩ hS4 (by decide) (fun n hn => hn) (N6.isList mem3) ?hpr2 e3 k2 (fun r hr => (k3 r hr).1) (fun r hr => (k3 r hr).2) hrn ?ret2
    case hpr2 =>
      refine ⟨e2, fun j p e => ?_⟩
      obtain ⟨T, a1, a2⟩ := k1 j p e
      exact ⟨T, a1, ⟨_, (N6 _ (.tail _ (.tail _ (.tail _ (.tail _ (List.mem_append_left _ a2)))))).1, rfl, _, rfl⟩⟩
    rintro h7 tk7 a7 dv7 n7 imm7 st7 ha7 na7 him7 hdat7
    have F7 := F6.keeps st7
    have gL : ∃ oL, h6.get? _ = some oL := let ⟨oL, _, _, z, _⟩ := F6.ns; ⟨oL, z⟩
    obtain ⟨oL7, hoL7⟩ := gL
    have N7 : News _ _ h7 ((a6, listOf (List.toArray tv6) n6) :: (a7, listOf (List.toArray dv7) n7) :: (119, tabObj tp6) :: (imm6 ++ imm7)) :=
      news_cons ⟨st7 _ _ (N6 _ (.head _)).1, (N6 _ (.head _)).2⟩ <| news_cons ⟨ha7, ne_of_get na7 hoL7, of_sub F6.keep na7⟩ <| news_cons ⟨st7 _ _ (N6 _ mem1).1, (N6 _ mem1).2⟩
        (fun p hp => (List.mem_append.mp hp).elim (fun h => have z := N6 p (.tail _ (.tail _ (.tail _ (.tail _ (List.mem_append_right _ h))))); ⟨st7 _ _ z.1, z.2⟩) (fun h => ⟨(him7 p h).1, ne_of_get (him7 p h).2 hoL7, of_sub F6.keep (him7 p h).2⟩))
    clear F6 N6 hoL7 ha7 na7 him7
    rw [← told_due_all] at hdat7
    have hokd : ∀ d ∈ (List.range rs.length).map (toldD nameS rs), kqdOk 8 d = true := by rw [told_due_all]; exact due_ok_all rs
    refine kqd_eq N7 (.head _) rfl rfl hdat6 (fun p hp => .tail _ (.tail _ (.tail _ (List.mem_append_left _ hp)))) mem1 rfl rfl hdat7 (fun p hp => .tail _ (.tail _ (.tail _ (List.mem_append_right _ hp)))) hokd hokd (by show 4 + 3 + 64 < cLine; decide) ?_
    rw [dec_true (rfl : (List.range rs.length).map (toldD nameS rs) = _)]
    k_steps)
end Mine

end
theorem PySem.Challenge.cw_nq0100_01_holds : PySem.Challenge.rw_nq0100_01.Holds := by
  exact Mine.law_all

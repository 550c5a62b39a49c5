import PyProof.Rows.All
import Wide.All
import OpenK.AllK
import Wide.FinOn
import Lean
import PySem.Challenge.RW_rs0039_01

-- Hd0
open PySem PySem.W PyProof.Rows
set_option Elab.async false
set_option maxRecDepth 100000
set_option maxHeartbeats 8000000
namespace Mine
open_top hd for PySem.Challenge.rw_rs0039_01
end Mine

-- B1
open PySem PySem.W PyProof.Rows PySem.Calls
set_option Elab.async false
set_option maxRecDepth 100000
set_option maxHeartbeats 8000000
namespace Mine

/-- a call that leaves all that stands as it stands -/
noncomputable def Told1 (lv : Nat) (w : World) (mean : ExcName → Option Value) (mg mb : Str → Option Value) (f : Addr) (vs : List Value) (Pre : Heap → Prop) (Post : Heap → Value → Heap → Prop) : Prop :=
  ∀ (dp un : Nat) (gd : Option (List Code)) (cn : Str) (cs : Scope) (a : Addr) (ccd : Value) (cl : List (Str × Addr)) (outer : List Env) (A₀ : Around) (base h₀ : Heap) (L : Addr) (m : Str → Option Value) (s : Shared) (Q E : Value → Shared → Prop),
    Below A₀ base outer h₀ → Fr h₀ L s.heap m → (hd.heap_39 w.params).In h₀ → Top hd.view_39 (looseW hd.view_39 []) mean mg mb h₀ → cs.kind = .function →
    dp + lv < recursionLimit → un + 32 * lv < cLine → Pre s.heap →
    (∀ v h' tk', s.heap.StaysIn h' → Post s.heap v h' → Q v { s with heap := h', toks := tk' }) →
    wpAny (model PySem.Challenge.rw_rs0039_01.row.prog w) (ktrTop dp un gd cn cs L a ccd cl outer) (call (.ref f) vs) Q E s

section
variable {prog : Program} {w : World} {A₀ A : Around} {s : Shared} {base h₀ : Heap} {outer : List Env} {L : Addr} {m mg mb : Str → Option Value} {env : Env} {K : Frag} {p : Program} {loose : List Str} {mean : ExcName → Option Value}
  {R : Result → Shared → Prop} {name qual : Str} {params : Arguments} {body : List Stmt} {scope : Scope} {dV kV doc pm cdv ct oc : Value} {an od : Option Addr} {osl : Array (Option Value)} {f : Addr} {args : Args} {binds : List (Str × Value)}

theorem frStays {h₀ h h' : Heap} {L : Addr} {m : Str → Option Value} (F : Fr h₀ L h m) (st : h.StaysIn h') : Fr h₀ L h' m := by
  obtain ⟨oL, es, ep, hL, r⟩ := F.ns
  exact ⟨⟨oL, es, ep, st _ _ hL, r⟩, fun b o e => st _ _ (F.keep b o e), F.above⟩
theorem newsStays {h₀ h h' : Heap} {L : Addr} {news : List (Addr × Obj)} (N : News h₀ L h news) (st : h.StaysIn h') : News h₀ L h' news :=
  fun p hp => ⟨st _ _ (N p hp).1, (N p hp).2⟩

/-- entering a def, all that stands being ground -/
theorem enterS (B : Below A₀ base outer h₀) (F : Fr h₀ L s.heap m) (X₀ : K.In h₀) (T : Top p loose mean mg mb h₀) (hA : A.frames = some (env :: outer)) (hf : env.frame = some L) (hke : env.scope.kind = .function)
    (ho : K.lookup f = some ⟨oc, od, .func (fnOf name qual params body scope dV kV doc pm an cdv ct), osl⟩) (hcd : codeIn K cdv qual = true) (hroom : A.depth < recursionLimit)
    (hbind : BindsTo s (fnOf name qual params body scope dV kV doc pm an cdv ct) args binds) (hloc : ∀ y ∈ binds, scope.names.lookup y.1 = some .local)
    (h : ∀ L' h₁, L' = s.heap.objs.size → Fr s.heap L' h₁ (fun y => binds.reverse.lookup y) → News s.heap L' h₁ [] → Below A base (env :: outer) s.heap → K.In s.heap → Top p loose mean mg mb s.heap →
      wpAny (model prog w) (A.deeper (envOf qual scope L' f cdv)) (execs body (envOf qual scope L' f cdv))
        (fun fl s' => LeaveK h₀ L m s.heap (fun r s'' => s.heap.StaysIn s''.heap → R r s'') (match fl with | .ret v => v | _ => .none) s')
        (fun e s' => wpAny (model prog w) (A.deeper (envOf qual scope L' f cdv)) (leaving (envOf qual scope L' f cdv) e) (fun _ s'' => R (.error e) s'') (fun e' s'' => R (.error e') s'') s')
        { s with heap := h₁, toks := s.toks + binds.length })
    (hco : scope.isCoroutine = false) (hgen : scope.isGenerator = false) (hk : scope.kind = .function)
    (hcell : ∀ x ∈ scope.names, x.2 ≠ .cell) : codeAny (model prog w) A (.call (.ref f) args) R s := by
  have st : h₀.StaysIn s.heap := F.keep
  have X := X₀.keeps st
  have B₁ := pushX B F hf hke
  refine codeAny_call_def (fd := fnOf name qual params body scope dV kV doc pm an cdv ct) (body := body) (binds := binds) hroom (X _ _ ho) rfl (T.nolimit.keeps st) (codeRec_of X hcd) rfl hbind hcell hloc (fun h₁ hns hk₁ => ?_) hco hgen hk
  refine wpAny_mono (h s.heap.objs.size h₁ rfl ⟨hns, hk₁, Nat.le_refl _⟩ News.nil ⟨hA, B₁.stays, B₁.frames⟩ X (T.keeps st)) (fun fl s' hl => ?_) fun _ _ y => y
  obtain ⟨L', m', news', F', N', k⟩ := hl
  obtain ⟨oL, es, ep, hL, r⟩ := F.ns
  refine k (frStays F F'.keep) (fun p hp => ⟨(N' p hp).1, fun q => ?_, ?_⟩) F'.keep
  · have := (N' p hp).2.2; rw [q, hL] at this; cases this
  · cases q : h₀.get? p.1 with
    | none => rfl
    | some o => have := (N' p hp).2.2; rw [st _ _ q] at this; cases this
end
end Mine

-- B2
open PySem PySem.W PyProof.Rows PySem.Calls
set_option Elab.async false
set_option maxRecDepth 100000
set_option maxHeartbeats 8000000
namespace Mine
section
variable {prog : Program} {w : World} {A₀ A : Around} {s : Shared} {base h₀ : Heap} {outer : List Env} {L : Addr} {m mg mb : Str → Option Value} {env : Env} {K : Frag} {p : Program} {loose : List Str} {mean : ExcName → Option Value}
  {R : Result → Shared → Prop} {name qual : Str} {params : Arguments} {body : List Stmt} {scope : Scope} {dV kV doc pm cdv ct oc : Value} {an od : Option Addr} {osl : Array (Option Value)} {f : Addr} {args : Args} {binds : List (Str × Value)}
/-- entering a def that has cells, all that stands being ground -/
theorem enterC (B : Below A₀ base outer h₀) (F : Fr h₀ L s.heap m) (X₀ : K.In h₀) (T : Top p loose mean mg mb h₀) (hA : A.frames = some (env :: outer)) (hf : env.frame = some L) (hke : env.scope.kind = .function)
    (ho : K.lookup f = some ⟨oc, od, .func (fnOf name qual params body scope dV kV doc pm an cdv ct), osl⟩) (hcd : codeIn K cdv qual = true) (hroom : A.depth < recursionLimit)
    (hbind : BindsTo s (fnOf name qual params body scope dV kV doc pm an cdv ct) args binds) (hkind : (binds.all fun y => scope.names.lookup y.1 == some .local || scope.names.lookup y.1 == some .cell) = true)
    (hnd : ((cellsFrom 0 scope.names []).map (·.1)).Nodup)
    (h : ∀ L' h₁ tk cells, L' = s.heap.objs.size → Fr s.heap L' h₁ (bindL (envOfC qual scope L' f cdv).kindOf binds fun _ => none) → News s.heap L' h₁ cells →
      CellsAre (bindC (envOfC qual scope L' f cdv).kindOf binds fun _ => none) (cellsFrom (L' + 1) scope.names []) cells → Below A base (env :: outer) s.heap → K.In s.heap → Top p loose mean mg mb s.heap →
      wpAny (model prog w) (A.deeper (envOfC qual scope L' f cdv)) (execs body (envOfC qual scope L' f cdv))
        (fun fl s' => LeaveK h₀ L m s.heap (fun r s'' => s.heap.StaysIn s''.heap → R r s'') (match fl with | .ret v => v | _ => .none) s')
        (fun e s' => wpAny (model prog w) (A.deeper (envOfC qual scope L' f cdv)) (leaving (envOfC qual scope L' f cdv) e) (fun _ s'' => R (.error e) s'') (fun e' s'' => R (.error e') s'') s')
        { s with heap := h₁, toks := tk })
    (hco : scope.isCoroutine = false) (hgen : scope.isGenerator = false) (hk : scope.kind = .function) : codeAny (model prog w) A (.call (.ref f) args) R s := by
  have st : h₀.StaysIn s.heap := F.keep
  have X := X₀.keeps st
  have B₁ := pushX B F hf hke
  refine codeAny_call_function hroom (X _ _ ho) rfl hco hgen rfl (codeRec_of X hcd) (hbind _ _ _ _ ?_)
  refine wpAny_newFunctionEnv_cells hk (kindsX hkind _) fun env' he s' x => ?_
  subst he
  refine ⟨(T.nolimit.keeps st).keeps x.toInCall.keep, codeAny_func ?_⟩
  obtain ⟨h₁, tk, rfl, _⟩ := x.done
  obtain ⟨cells, NC, Y⟩ := Cl.news (h₀ := s.heap) (Nat.le_refl _) fun n c hm => ⟨x.cell n c (lookup_of_mem_nodup (cellsFrom_names scope.names 0 (s.heap.objs.size + 1) [] [] rfl ▸ hnd) hm), x.above n c hm⟩
  refine wpAny_mono (h s.heap.objs.size h₁ tk cells rfl ⟨x.toInCall.ns, x.toInCall.keep, Nat.le_refl _⟩ NC Y ⟨hA, B₁.stays, B₁.frames⟩ X (T.keeps st)) (fun fl s' hl => ?_) fun _ _ y => y
  obtain ⟨L', m', news', F', N', k⟩ := hl
  obtain ⟨oL, es, ep, hL, r⟩ := F.ns
  refine k (frStays F F'.keep) (fun p hp => ⟨(N' p hp).1, fun q => ?_, ?_⟩) F'.keep
  · have := (N' p hp).2.2; rw [q, hL] at this; cases this
  · cases q : h₀.get? p.1 with
    | none => rfl
    | some o => have := (N' p hp).2.2; rw [st _ _ q] at this; cases this
end
end Mine

-- C1
open PySem PySem.W PyProof.Rows PySem.Calls
set_option Elab.async false
set_option maxRecDepth 100000
set_option maxHeartbeats 8000000
namespace Mine
theorem whlBoth {b : Bool} {T F : Prop} (t : b = true → T) (f : b = false → F) : WhlIf b T F := by
  cases h : b with
  | true => exact WhlIf.yes rfl (t h)
  | false => exact WhlIf.no rfl (f h)
theorem dT {p : Prop} [Decidable p] (h : p) : decide p = true := decide_eq_true h
theorem dF {p : Prop} [Decidable p] (h : ¬ p) : decide p = false := decide_eq_false h
noncomputable def octRest : Nat → Int → List Int
  | 0, _ => []
  | k + 1, n => if n > 63 then (64 + (n / 64) % 64) :: octRest k (n / 64) else []
noncomputable def octs (n : Int) : List Int := ((n % 64) :: octRest 3 n).reverse
theorem octs1 {n : Int} (h : ¬ 63 < n) : octs n = [n % 64] := by
  simp [octs, octRest, show ¬ n > 63 from h]
theorem octs2 {n : Int} (h : 63 < n) (h2 : ¬ 63 < n / 64) : octs n = [64 + n / 64 % 64, n % 64] := by
  simp [octs, octRest, show n > 63 from h, show ¬ n / 64 > 63 from h2]
theorem octs3 {n : Int} (h : 63 < n) (h2 : 63 < n / 64) (h3 : ¬ 63 < n / 64 / 64) : octs n = [64 + n / 64 / 64 % 64, 64 + n / 64 % 64, n % 64] := by
  simp [octs, octRest, show n > 63 from h, show n / 64 > 63 from h2, show ¬ n / 64 / 64 > 63 from h3]
theorem octs4 {n : Int} (h : 63 < n) (h2 : 63 < n / 64) (h3 : 63 < n / 64 / 64) : octs n = [64 + n / 64 / 64 / 64 % 64, 64 + n / 64 / 64 % 64, 64 + n / 64 % 64, n % 64] := by
  simp [octs, octRest, show n > 63 from h, show n / 64 > 63 from h2, show n / 64 / 64 > 63 from h3]
theorem fd64 (n : Int) : n.fdiv 64 = n / 64 := Int.fdiv_eq_ediv_of_nonneg n (by decide)
theorem fm64 (n : Int) : n.fmod 64 = n % 64 := Int.fmod_eq_emod_of_nonneg n (by decide)
local macro_rules | `(tactic| walk_at "WhlIf") => `(tactic| first | (refine WhlIf.yes (dT ?_) ?_; (focus (simp only [fd64, fm64] at *; omega))) | (refine WhlIf.no (dF ?_) ?_; (focus (simp only [fd64, fm64] at *; omega))) | (refine whlBoth ?_ ?_ <;> (intro hW; (simp only [decide_eq_true_eq, decide_eq_false_iff_not] at hW))))
/-- a list of ints that stands at a -/
noncomputable def IntsAt (h : Heap) (a : Addr) (ns : List Int) : Prop := ∃ vs k, h.get? a = some { cls := .type "list", data := .seq vs.toArray k } ∧ IntsAre vs ns
theorem oct_spec (w : World) (mean : ExcName → Option Value) (mg mb : Str → Option Value) (n : Int) (tn : Tok) (h0 : 0 ≤ n) (h1 : n < 16777216) :
   Told1 2 w mean mg mb 68 [.int n tn] (fun _ => True) (fun h v h' => ∃ a, v = .ref a ∧ h.get? a = none ∧ IntsAt h' a (octs n)) := by
  unfold Told1
  w_top off
  k_with_none
  k_fill
  intro dp un gd cn cs a0 ccd cl outer A₀ base h₀ L m s Q E B F X T hcs hdp hun hpre hret
  refine wpAny_call ?_
  k_dflt (refine' enterS (binds := [(Str.ofString "number", .int n tn)]) ?k1 ?k2 ?k3 ?k5 ?kA ?kF ?kK ?k6 ?k7 ?k8 ?k9 ?kB ?_ ?c2 ?c3 ?c4 ?c5; (case kA => exact rfl); (case kF => exact rfl); (case kK => assumption); (case k1 => k_asm); (case k2 => k_asm); (case k3 => k_asm); (case k5 => k_asm); (case k6 => k_is); (case k7 => k_is); (case k8 => ktr_room); (case k9 => exact BindsTo.of_eq rfl); (case c5 => decide); (case kB => exact locs rfl); (case c2 => exact rfl); (case c3 => exact rfl); (case c4 => exact rfl); k_whole; intro L' h' hL' F' N' B' X' T'; (try dsimp only); (try k_fold))
  clear B F X T
  repeat' (first | (k_unfold; (try dsimp only)) | walk1 | (dsimp only; first | walk1 | (k_unfold; (try dsimp only))) | (leave1; walk_say "STEP leave1"; try dsimp only) | fail "no step")
  all_goals (simp only [fd64, fm64] at *)
  all_goals (
    (rename News _ _ _ _ => N1)
    refine leaveK_ (by k_asm) (by k_asm) (fun _ _ st => ?_)
    refine hret _ _ _ st ⟨_, rfl, N1.fresh (List.Mem.head _), ⟨_, _, N1.get (List.Mem.head _), ?_⟩⟩
    first
    | (rw [octs1 (by assumption)]; repeat' constructor)
    | (rw [octs2 (by assumption) (by assumption)]; repeat' constructor)
    | (rw [octs3 (by assumption) (by assumption) (by assumption)]; repeat' constructor)
    | (rw [octs4 (by assumption) (by assumption) (by assumption)]; repeat' constructor)
    | trace_state)
end Mine

-- D1
open PySem PySem.W PyProof.Rows PySem.Calls
set_option Elab.async false
set_option maxRecDepth 100000
set_option maxHeartbeats 8000000
namespace Mine
abbrev iterOf (l : Addr) (i : Nat) : Obj := { cls := .type "list_iterator", data := .fields #[.ref l, .int i 0] }
abbrev iterEnd (i : Nat) : Obj := { cls := .type "list_iterator", data := .fields #[.none, .int i 0] }
section
variable {prog : Program} {w : World} {A : Around} {E : Value → Shared → Prop} {s : Shared} {h₀ : Heap} {L it l : Addr} {m : Str → Option Value} {news : List (Addr × Obj)} {i : Nat} {items : Array Value} {x : Value} {Q : Value → Shared → Prop}

theorem next_item (F : Fr h₀ L s.heap m) (N : News h₀ L s.heap ((it, iterOf l i) :: news)) (hd : ∀ p ∈ news, p.1 ≠ it) (hl : s.heap.IsList l items) (hx : items[i]? = some x)
    (h : ∀ h', Fr h₀ L h' m → News h₀ L h' ((it, iterOf l (i + 1)) :: news) → Q x { s with heap := h' }) :
    wpAny (model prog w) A (call (.builtin "next") [.ref it]) Q E s := by
  have hm := N _ (List.Mem.head _)
  have hit : s.heap.IsListIter it l i := ⟨_, hm.1, rfl, rfl⟩
  have ho := hm.1
  obtain ⟨ol, hol, _, nl, hdl⟩ := hl
  refine call_function_entry (by decide +kernel) (by decide +kernel) kdk_entry_next (kdk_args_next _) ?_
  unfold Builtin.«next»
  refine wpAny_bind (m := someArgs "next" 1 2 _) (wpAny_of_eq (a := [Value.ref it]) (by first | rfl | kernel_rfl!) ?_)
  dsimp only
  refine wpAny_bind (wpAny_specialOf (name := Str.ofString "__next__") hit.typeIs slot_listiter_next.lookup ?_)
  refine wpAny_ite_split (fun hab => absurd hab (by decide)) (fun _ => ?_)
  refine wpAny_bind (wpAny_callSpecial?_slot (name := Str.ofString "__next__") hit.typeIs slot_listiter_next
    (wpAny_call_entry slot_listiter_next hit.typeIs entry_listiter_next ?_ (args_listiter_next _)))
  show wpAny _ _ (field (.ref it) 0 >>= _) _ _ s
  refine wpAny_bind (wpAny_field ho rfl (x := .ref l) rfl ?_)
  show wpAny _ _ (if (Value.ref l == Value.none) = true then _ else _) _ _ s
  rw [if_neg (show ¬ ((Value.ref l == Value.none) = true) from Bool.false_ne_true)]
  show wpAny _ _ (field (.ref it) 1 >>= _) _ _ s
  refine wpAny_bind (wpAny_field ho rfl (x := .int i 0) rfl ?_)
  show wpAny _ _ (seqItems? (.ref l) >>= _) _ _ s
  refine wpAny_bind (wpAny_seqItems hol hdl ?_)
  simp only [Int.toNat_natCast, hx]
  refine wpAny_bind (wpAny_setField ho rfl (by simp) (wpAny_pure ⟨x, rfl, wpAny_pure ⟨_, rfl, ?_⟩⟩))
  have hU := news_upd (pre := []) (post := news) (f := Obj.mapFields (·.setIfInBounds 1 (rawInt ((i : Int) + 1)))) (o' := iterOf l (i + 1)) F N (fun _ h => nomatch h) hd (by simp [Obj.mapFields, rawInt]) rfl
  exact h _ hU.1 hU.2

theorem next_end (hh : A.handled = none) (F : Fr h₀ L s.heap m) (N : News h₀ L s.heap ((it, iterOf l i) :: news)) (hd : ∀ p ∈ news, p.1 ≠ it) (hl : s.heap.IsList l items) (hx : items[i]? = none)
    (h : ∀ h' h'' e, Fr h₀ L h' m → News h₀ L h' ((it, iterEnd i) :: news) → Heap.NewExc h' h'' e "StopIteration" → E (.ref e) { s with heap := h'' }) :
    wpAny (model prog w) A (call (.builtin "next") [.ref it]) Q E s := by
  have hm := N _ (List.Mem.head _)
  have hit : s.heap.IsListIter it l i := ⟨_, hm.1, rfl, rfl⟩
  have ho := hm.1
  obtain ⟨ol, hol, _, nl, hdl⟩ := hl
  refine call_function_entry (by decide +kernel) (by decide +kernel) kdk_entry_next (kdk_args_next _) ?_
  unfold Builtin.«next»
  refine wpAny_bind (m := someArgs "next" 1 2 _) (wpAny_of_eq (a := [Value.ref it]) (by first | rfl | kernel_rfl!) ?_)
  dsimp only
  refine wpAny_bind (wpAny_specialOf (name := Str.ofString "__next__") hit.typeIs slot_listiter_next.lookup ?_)
  refine wpAny_ite_split (fun hab => absurd hab (by decide)) (fun _ => ?_)
  refine wpAny_bind (wpAny_callSpecial?_slot (name := Str.ofString "__next__") hit.typeIs slot_listiter_next
    (wpAny_call_entry slot_listiter_next hit.typeIs entry_listiter_next ?_ (args_listiter_next _)))
  show wpAny _ _ (field (.ref it) 0 >>= _) _ _ s
  refine wpAny_bind (wpAny_field ho rfl (x := .ref l) rfl ?_)
  show wpAny _ _ (if (Value.ref l == Value.none) = true then _ else _) _ _ s
  rw [if_neg (show ¬ ((Value.ref l == Value.none) = true) from Bool.false_ne_true)]
  show wpAny _ _ (field (.ref it) 1 >>= _) _ _ s
  refine wpAny_bind (wpAny_field ho rfl (x := .int i 0) rfl ?_)
  show wpAny _ _ (seqItems? (.ref l) >>= _) _ _ s
  refine wpAny_bind (wpAny_seqItems hol hdl ?_)
  simp only [Int.toNat_natCast, hx]
  refine wpAny_bind (wpAny_rule (wpAny_bind (wpAny_setField ho rfl (by simp) ?_)))
  have hU := news_upd (pre := []) (post := news) (f := Obj.mapFields (·.setIfInBounds 0 Value.none)) (o' := iterEnd i) F N (fun _ h => nomatch h) hd (by simp [Obj.mapFields]) rfl
  show wpAny _ _ (newExc (.type "StopIteration") [] >>= _) _ _ _
  refine wpAny_bind ?_
  simp only [newExc, newTuple]
  refine wpAny_bind (wpAny_newObj_type ?_ (by size_fits))
  refine wpAny_bind (m := firstArgMember _ _) (wpAny_of_eq (a := Value.none) (by first | rfl | (simp only [firstArgMember]; rfl)) ?_)
  refine wpAny_newObj_type ?_ (by size_fits)
  simp only [raiseNew]
  refine wpAny_bind (wpAny_handled ?_)
  first | rw [show A.in1.handled = none from hh] | rw [show A.in1.in1.handled = none from hh] | rw [hh]
  refine wpAny_bind (wpAny_pure (wpAny_throw ?_))
  exact h _ _ _ hU.1 hU.2 ⟨fun b o hb => Heap.get?_push_of_some _ (Heap.get?_push_of_some _ hb), Heap.get?_none_of_le (by simp), _, _, Heap.get?_push_size _ rfl, rfl, rfl⟩
end
end Mine

-- D2
open PySem PySem.W PyProof.Rows PySem.Calls
set_option Elab.async false
set_option maxRecDepth 100000
set_option maxHeartbeats 8000000
namespace Mine
theorem and64a {y : Int} (h0 : 0 ≤ y) (h1 : y < 64) : Builtin.bitAnd (64 + y) 64 = 64 := by
  have h := kbt_bit (64 + y) 6
  have e : (2 : Int) ^ 6 = 64 := by decide
  rw [e] at h; rw [h]; omega
theorem and64b {y : Int} (h0 : 0 ≤ y) (h1 : y < 64) : Builtin.bitAnd y 64 = 0 := by
  have h := kbt_bit y 6
  have e : (2 : Int) ^ 6 = 64 := by decide
  rw [e] at h; rw [h]; omega
theorem and63a {y : Int} (h0 : 0 ≤ y) (h1 : y < 64) : Builtin.bitAnd (64 + y) 63 = y := by
  have h := kbt_mask (64 + y) 6
  have e : (2 : Int) ^ 6 = 64 := by decide
  rw [e] at h; rw [show (63 : Int) = 64 - 1 from rfl, h]; omega
theorem and63b {y : Int} (h0 : 0 ≤ y) (h1 : y < 64) : Builtin.bitAnd y 63 = y := by
  have h := kbt_mask y 6
  have e : (2 : Int) ^ 6 = 64 := by decide
  rw [e] at h; rw [show (63 : Int) = 64 - 1 from rfl, h]; omega
theorem or64 {v y : Int} (h0 : 0 ≤ y) (h1 : y < 64) : Builtin.bitOr (v * 64) y = v * 64 + y := by
  have key : ∀ k : Nat, ∀ v y : Int, 0 ≤ y → y < 2 ^ k → Builtin.bitAnd (v * 2 ^ k) y = 0 := by
    intro k
    induction k with
    | zero => intro v y h0 h1; have : y = 0 := by simp at h1; omega
              subst this; rw [bitAnd_comm]; have := kbt_mask (v * 2 ^ 0) 0; simp at this; rw [bitAnd_comm]; simpa using this
    | succ k ih =>
      intro v y h0 h1
      have e : v * 2 ^ (k + 1) = 2 * (v * 2 ^ k) := by rw [Int.pow_succ, Int.mul_comm (2 ^ k) 2, ← Int.mul_assoc, Int.mul_comm v 2, Int.mul_assoc]
      have e2 : (2 : Int) ^ (k + 1) = 2 * 2 ^ k := by rw [Int.pow_succ]; omega
      rw [kbt_halves, e]
      have d : 2 * (v * 2 ^ k) / 2 = v * 2 ^ k := by omega
      have d2 : ¬ (2 * (v * 2 ^ k) % 2 = 1 ∧ y % 2 = 1) := by omega
      rw [d, if_neg d2, ih v (y / 2) (by omega) (by omega)]
      rfl
  have := key 6 v y h0 (by omega)
  have e : (2 : Int) ^ 6 = 64 := by decide
  rw [e] at this
  rw [bitOr_and, this]; omega
section
variable {prog : Program} {w : World} {A : Around} {E : Value → Shared → Prop} {s : Shared} {Q : Value → Shared → Prop} {t u : Tok} {v y : Int}
theorem andHi63 (h0 : 0 ≤ y) (h1 : y < 64) (h : Q (.int y s.toks) { s with toks := s.toks + 1 }) : wpAny (model prog w) A (binaryOp .BitAnd (.int (64 + y) t) (.int 63 u)) Q E s := and_int (by rw [and63a h0 h1]; exact h)
theorem andLo63 (h0 : 0 ≤ y) (h1 : y < 64) (h : Q (.int y s.toks) { s with toks := s.toks + 1 }) : wpAny (model prog w) A (binaryOp .BitAnd (.int y t) (.int 63 u)) Q E s := and_int (by rw [and63b h0 h1]; exact h)
theorem shl6 (h0 : 0 ≤ v) (h1 : v < 16777216) (h : Q (.int (v * 64) s.toks) { s with toks := s.toks + 1 }) : wpAny (model prog w) A (inplaceOp .LShift (.int v t) (.int 6 u)) Q E s :=
  ilshift_int_small (by decide) (by decide) (by omega) (by rw [show (2 : Int) ^ (6 : Int).toNat = 64 from by decide]; exact h)
theorem or6 (h0 : 0 ≤ y) (h1 : y < 64) (h : Q (.int (v * 64 + y) s.toks) { s with toks := s.toks + 1 }) : wpAny (model prog w) A (inplaceOp .BitOr (.int (v * 64) t) (.int y u)) Q E s := ior_int (by rw [or64 h0 h1]; exact h)
end
theorem parse1 (w : World) (mean : ExcName → Option Value) (mg mb : Str → Option Value) (items : Array Value) (y0 : Int) (t0 : Tok) (i : Nat) (it l : Addr) (news : List (Addr × Obj))
   (hx0 : items[i]? = some (.int y0 t0))
   (h00 : 0 ≤ y0) (h01 : y0 < 64) (hn : ∀ p ∈ news, p.1 ≠ it) :
   ∀ (dp un : Nat) (gd : Option (List Code)) (cn : Str) (cs : Scope) (a : Addr) (ccd : Value) (cl : List (Str × Addr)) (outer : List Env) (A₀ : Around) (base h₀ : Heap) (L : Addr) (m : Str → Option Value) (s : Shared) (Q E : Value → Shared → Prop),
    Below A₀ base outer h₀ → Fr h₀ L s.heap m → (hd.heap_39 w.params).In h₀ → Top hd.view_39 (looseW hd.view_39 []) mean mg mb h₀ → cs.kind = .function →
    dp + 2 < recursionLimit → un + 64 < cLine → News h₀ L s.heap ((it, iterOf l i) :: news) → h₀.IsList l items →
    (∀ t h' tk', Fr h₀ L h' m → News h₀ L h' ((it, iterOf l (i + 1)) :: news) → Q (.int y0 t) { s with heap := h', toks := tk' }) →
    wpAny (model PySem.Challenge.rw_rs0039_01.row.prog w) (ktrTop dp un gd cn cs L a ccd cl outer) (call (.ref 42) [.ref it]) Q E s := by
  w_top off
  k_with_none
  k_fill
  intro dp un gd cn cs a ccd cl outer A₀ base h₀ L m s Q E B F X T hcs hdp hun N hL hret
  refine wpAny_call ?_
  k_dflt (refine' code_def (binds := [(Str.ofString "iterator", .ref it)]) ?k1 ?k2 ?k3 ?k4 ?k5 ?kA ?kF ?kK ?k6 ?k7 ?k8 ?k9 ?kB ?_ ?c2 ?c3 ?c4 ?c5; (case kA => exact rfl); (case kF => exact rfl); (case kK => assumption); (case k1 => k_asm); (case k2 => k_asm); (case k3 => k_asm); (case k4 => k_asm); (case k5 => k_asm); (case k6 => k_is); (case k7 => k_is); (case k8 => ktr_room); (case k9 => exact BindsTo.of_eq rfl); (case c5 => decide); (case kB => exact locs rfl); (case c2 => exact rfl); (case c3 => exact rfl); (case c4 => exact rfl); k_whole; intro g' L' h' FG' F' N' B' X' T'; (try dsimp only); (try k_fold))
  have hL' := stays_list FG'.keep hL
  clear B F X T N
  repeat' (first | (k_unfold; (try dsimp only)) | ((with_reducible show wpAny _ _ (exec (Stmt.While _ _ _ _) _) _ _ _); k_dflt (refine whl_start 100 ?_)) | (with_reducible refine WhlIf.yes (by rw [and64a (by assumption) (by assumption)]; decide) ?_) | (with_reducible refine WhlIf.no (by rw [and64b (by assumption) (by assumption)]; decide) ?_) | (with_reducible refine andHi63 (by assumption) (by assumption) ?_) | (with_reducible refine andLo63 (by assumption) (by assumption) ?_) | (with_reducible refine shl6 (by omega) (by omega) ?_) | (with_reducible refine or6 (by assumption) (by assumption) ?_) | ((with_reducible show wpAny _ _ (call (Value.builtin "next") _) _ _ _); refine next_item (by k_asm) (by k_asm) (by assumption) (by is_list) (by assumption) ?_; intro h' F' N'; (try k_sweep)) | walk1 | (dsimp only; first | walk1 | (k_unfold; (try dsimp only))) | (leave1; walk_say "STEP leave1"; try dsimp only) | fail "no step")
  exact leaveK_ (by k_asm) (by k_asm) (fun kF kN => hret _ _ _ kF kN)
theorem parse2 (w : World) (mean : ExcName → Option Value) (mg mb : Str → Option Value) (items : Array Value) (y0 y1 : Int) (t0 t1 : Tok) (i : Nat) (it l : Addr) (news : List (Addr × Obj))
   (hx0 : items[i]? = some (.int (64 + y0) t0)) (hx1 : items[i + 1]? = some (.int y1 t1))
   (h00 : 0 ≤ y0) (h01 : y0 < 64) (h10 : 0 ≤ y1) (h11 : y1 < 64) (hn : ∀ p ∈ news, p.1 ≠ it) :
   ∀ (dp un : Nat) (gd : Option (List Code)) (cn : Str) (cs : Scope) (a : Addr) (ccd : Value) (cl : List (Str × Addr)) (outer : List Env) (A₀ : Around) (base h₀ : Heap) (L : Addr) (m : Str → Option Value) (s : Shared) (Q E : Value → Shared → Prop),
    Below A₀ base outer h₀ → Fr h₀ L s.heap m → (hd.heap_39 w.params).In h₀ → Top hd.view_39 (looseW hd.view_39 []) mean mg mb h₀ → cs.kind = .function →
    dp + 2 < recursionLimit → un + 64 < cLine → News h₀ L s.heap ((it, iterOf l i) :: news) → h₀.IsList l items →
    (∀ t h' tk', Fr h₀ L h' m → News h₀ L h' ((it, iterOf l (i + 1 + 1)) :: news) → Q (.int (y0 * 64 + y1) t) { s with heap := h', toks := tk' }) →
    wpAny (model PySem.Challenge.rw_rs0039_01.row.prog w) (ktrTop dp un gd cn cs L a ccd cl outer) (call (.ref 42) [.ref it]) Q E s := by
  w_top off
  k_with_none
  k_fill
  intro dp un gd cn cs a ccd cl outer A₀ base h₀ L m s Q E B F X T hcs hdp hun N hL hret
  refine wpAny_call ?_
  k_dflt (refine' code_def (binds := [(Str.ofString "iterator", .ref it)]) ?k1 ?k2 ?k3 ?k4 ?k5 ?kA ?kF ?kK ?k6 ?k7 ?k8 ?k9 ?kB ?_ ?c2 ?c3 ?c4 ?c5; (case kA => exact rfl); (case kF => exact rfl); (case kK => assumption); (case k1 => k_asm); (case k2 => k_asm); (case k3 => k_asm); (case k4 => k_asm); (case k5 => k_asm); (case k6 => k_is); (case k7 => k_is); (case k8 => ktr_room); (case k9 => exact BindsTo.of_eq rfl); (case c5 => decide); (case kB => exact locs rfl); (case c2 => exact rfl); (case c3 => exact rfl); (case c4 => exact rfl); k_whole; intro g' L' h' FG' F' N' B' X' T'; (try dsimp only); (try k_fold))
  have hL' := stays_list FG'.keep hL
  clear B F X T N
  repeat' (first | (k_unfold; (try dsimp only)) | ((with_reducible show wpAny _ _ (exec (Stmt.While _ _ _ _) _) _ _ _); k_dflt (refine whl_start 100 ?_)) | (with_reducible refine WhlIf.yes (by rw [and64a (by assumption) (by assumption)]; decide) ?_) | (with_reducible refine WhlIf.no (by rw [and64b (by assumption) (by assumption)]; decide) ?_) | (with_reducible refine andHi63 (by assumption) (by assumption) ?_) | (with_reducible refine andLo63 (by assumption) (by assumption) ?_) | (with_reducible refine shl6 (by omega) (by omega) ?_) | (with_reducible refine or6 (by assumption) (by assumption) ?_) | ((with_reducible show wpAny _ _ (call (Value.builtin "next") _) _ _ _); refine next_item (by k_asm) (by k_asm) (by assumption) (by is_list) (by assumption) ?_; intro h' F' N'; (try k_sweep)) | walk1 | (dsimp only; first | walk1 | (k_unfold; (try dsimp only))) | (leave1; walk_say "STEP leave1"; try dsimp only) | fail "no step")
  exact leaveK_ (by k_asm) (by k_asm) (fun kF kN => hret _ _ _ kF kN)
theorem parse3 (w : World) (mean : ExcName → Option Value) (mg mb : Str → Option Value) (items : Array Value) (y0 y1 y2 : Int) (t0 t1 t2 : Tok) (i : Nat) (it l : Addr) (news : List (Addr × Obj))
   (hx0 : items[i]? = some (.int (64 + y0) t0)) (hx1 : items[i + 1]? = some (.int (64 + y1) t1)) (hx2 : items[i + 1 + 1]? = some (.int y2 t2))
   (h00 : 0 ≤ y0) (h01 : y0 < 64) (h10 : 0 ≤ y1) (h11 : y1 < 64) (h20 : 0 ≤ y2) (h21 : y2 < 64) (hn : ∀ p ∈ news, p.1 ≠ it) :
   ∀ (dp un : Nat) (gd : Option (List Code)) (cn : Str) (cs : Scope) (a : Addr) (ccd : Value) (cl : List (Str × Addr)) (outer : List Env) (A₀ : Around) (base h₀ : Heap) (L : Addr) (m : Str → Option Value) (s : Shared) (Q E : Value → Shared → Prop),
    Below A₀ base outer h₀ → Fr h₀ L s.heap m → (hd.heap_39 w.params).In h₀ → Top hd.view_39 (looseW hd.view_39 []) mean mg mb h₀ → cs.kind = .function →
    dp + 2 < recursionLimit → un + 64 < cLine → News h₀ L s.heap ((it, iterOf l i) :: news) → h₀.IsList l items →
    (∀ t h' tk', Fr h₀ L h' m → News h₀ L h' ((it, iterOf l (i + 1 + 1 + 1)) :: news) → Q (.int ((y0 * 64 + y1) * 64 + y2) t) { s with heap := h', toks := tk' }) →
    wpAny (model PySem.Challenge.rw_rs0039_01.row.prog w) (ktrTop dp un gd cn cs L a ccd cl outer) (call (.ref 42) [.ref it]) Q E s := by
  w_top off
  k_with_none
  k_fill
  intro dp un gd cn cs a ccd cl outer A₀ base h₀ L m s Q E B F X T hcs hdp hun N hL hret
  refine wpAny_call ?_
  k_dflt (refine' code_def (binds := [(Str.ofString "iterator", .ref it)]) ?k1 ?k2 ?k3 ?k4 ?k5 ?kA ?kF ?kK ?k6 ?k7 ?k8 ?k9 ?kB ?_ ?c2 ?c3 ?c4 ?c5; (case kA => exact rfl); (case kF => exact rfl); (case kK => assumption); (case k1 => k_asm); (case k2 => k_asm); (case k3 => k_asm); (case k4 => k_asm); (case k5 => k_asm); (case k6 => k_is); (case k7 => k_is); (case k8 => ktr_room); (case k9 => exact BindsTo.of_eq rfl); (case c5 => decide); (case kB => exact locs rfl); (case c2 => exact rfl); (case c3 => exact rfl); (case c4 => exact rfl); k_whole; intro g' L' h' FG' F' N' B' X' T'; (try dsimp only); (try k_fold))
  have hL' := stays_list FG'.keep hL
  clear B F X T N
  repeat' (first | (k_unfold; (try dsimp only)) | ((with_reducible show wpAny _ _ (exec (Stmt.While _ _ _ _) _) _ _ _); k_dflt (refine whl_start 100 ?_)) | (with_reducible refine WhlIf.yes (by rw [and64a (by assumption) (by assumption)]; decide) ?_) | (with_reducible refine WhlIf.no (by rw [and64b (by assumption) (by assumption)]; decide) ?_) | (with_reducible refine andHi63 (by assumption) (by assumption) ?_) | (with_reducible refine andLo63 (by assumption) (by assumption) ?_) | (with_reducible refine shl6 (by omega) (by omega) ?_) | (with_reducible refine or6 (by assumption) (by assumption) ?_) | ((with_reducible show wpAny _ _ (call (Value.builtin "next") _) _ _ _); refine next_item (by k_asm) (by k_asm) (by assumption) (by is_list) (by assumption) ?_; intro h' F' N'; (try k_sweep)) | walk1 | (dsimp only; first | walk1 | (k_unfold; (try dsimp only))) | (leave1; walk_say "STEP leave1"; try dsimp only) | fail "no step")
  exact leaveK_ (by k_asm) (by k_asm) (fun kF kN => hret _ _ _ kF kN)
theorem parse4 (w : World) (mean : ExcName → Option Value) (mg mb : Str → Option Value) (items : Array Value) (y0 y1 y2 y3 : Int) (t0 t1 t2 t3 : Tok) (i : Nat) (it l : Addr) (news : List (Addr × Obj))
   (hx0 : items[i]? = some (.int (64 + y0) t0)) (hx1 : items[i + 1]? = some (.int (64 + y1) t1)) (hx2 : items[i + 1 + 1]? = some (.int (64 + y2) t2)) (hx3 : items[i + 1 + 1 + 1]? = some (.int y3 t3))
   (h00 : 0 ≤ y0) (h01 : y0 < 64) (h10 : 0 ≤ y1) (h11 : y1 < 64) (h20 : 0 ≤ y2) (h21 : y2 < 64) (h30 : 0 ≤ y3) (h31 : y3 < 64) (hn : ∀ p ∈ news, p.1 ≠ it) :
   ∀ (dp un : Nat) (gd : Option (List Code)) (cn : Str) (cs : Scope) (a : Addr) (ccd : Value) (cl : List (Str × Addr)) (outer : List Env) (A₀ : Around) (base h₀ : Heap) (L : Addr) (m : Str → Option Value) (s : Shared) (Q E : Value → Shared → Prop),
    Below A₀ base outer h₀ → Fr h₀ L s.heap m → (hd.heap_39 w.params).In h₀ → Top hd.view_39 (looseW hd.view_39 []) mean mg mb h₀ → cs.kind = .function →
    dp + 2 < recursionLimit → un + 64 < cLine → News h₀ L s.heap ((it, iterOf l i) :: news) → h₀.IsList l items →
    (∀ t h' tk', Fr h₀ L h' m → News h₀ L h' ((it, iterOf l (i + 1 + 1 + 1 + 1)) :: news) → Q (.int (((y0 * 64 + y1) * 64 + y2) * 64 + y3) t) { s with heap := h', toks := tk' }) →
    wpAny (model PySem.Challenge.rw_rs0039_01.row.prog w) (ktrTop dp un gd cn cs L a ccd cl outer) (call (.ref 42) [.ref it]) Q E s := by
  w_top off
  k_with_none
  k_fill
  intro dp un gd cn cs a ccd cl outer A₀ base h₀ L m s Q E B F X T hcs hdp hun N hL hret
  refine wpAny_call ?_
  k_dflt (refine' code_def (binds := [(Str.ofString "iterator", .ref it)]) ?k1 ?k2 ?k3 ?k4 ?k5 ?kA ?kF ?kK ?k6 ?k7 ?k8 ?k9 ?kB ?_ ?c2 ?c3 ?c4 ?c5; (case kA => exact rfl); (case kF => exact rfl); (case kK => assumption); (case k1 => k_asm); (case k2 => k_asm); (case k3 => k_asm); (case k4 => k_asm); (case k5 => k_asm); (case k6 => k_is); (case k7 => k_is); (case k8 => ktr_room); (case k9 => exact BindsTo.of_eq rfl); (case c5 => decide); (case kB => exact locs rfl); (case c2 => exact rfl); (case c3 => exact rfl); (case c4 => exact rfl); k_whole; intro g' L' h' FG' F' N' B' X' T'; (try dsimp only); (try k_fold))
  have hL' := stays_list FG'.keep hL
  clear B F X T N
  repeat' (first | (k_unfold; (try dsimp only)) | ((with_reducible show wpAny _ _ (exec (Stmt.While _ _ _ _) _) _ _ _); k_dflt (refine whl_start 100 ?_)) | (with_reducible refine WhlIf.yes (by rw [and64a (by assumption) (by assumption)]; decide) ?_) | (with_reducible refine WhlIf.no (by rw [and64b (by assumption) (by assumption)]; decide) ?_) | (with_reducible refine andHi63 (by assumption) (by assumption) ?_) | (with_reducible refine andLo63 (by assumption) (by assumption) ?_) | (with_reducible refine shl6 (by omega) (by omega) ?_) | (with_reducible refine or6 (by assumption) (by assumption) ?_) | ((with_reducible show wpAny _ _ (call (Value.builtin "next") _) _ _ _); refine next_item (by k_asm) (by k_asm) (by assumption) (by is_list) (by assumption) ?_; intro h' F' N'; (try k_sweep)) | walk1 | (dsimp only; first | walk1 | (k_unfold; (try dsimp only))) | (leave1; walk_say "STEP leave1"; try dsimp only) | fail "no step")
  exact leaveK_ (by k_asm) (by k_asm) (fun kF kN => hret _ _ _ kF kN)
end Mine

-- D3
open PySem PySem.W PyProof.Rows PySem.Calls
set_option Elab.async false
set_option maxRecDepth 100000
set_option maxHeartbeats 8000000
namespace Mine
theorem intsAt {vs : List Value} {ns : List Int} (h : IntsAre vs ns) {i : Nat} {n : Int} {r : List Int} (e : ns.drop i = n :: r) : ∃ t, vs.toArray[i]? = some (.int n t) ∧ ns.drop (i + 1) = r := by
  have h2 := h.drop i
  rw [e] at h2
  obtain ⟨t, vs', e2, _⟩ := h2.cons_inv
  refine ⟨t, ?_, ?_⟩
  · have : (vs.drop i)[0]? = some (.int n t) := by rw [e2]; rfl
    rw [List.getElem?_drop] at this
    simpa using this
  · have := congrArg List.tail e
    simpa [List.tail_drop] using this
theorem parse_ok (w : World) (mean : ExcName → Option Value) (mg mb : Str → Option Value) (vs : List Value) (tape rest : List Int) (n : Int) (i : Nat) (it l : Addr) (news : List (Addr × Obj)) (hI : IntsAre vs tape) (h0 : 0 ≤ n) (h1 : n < 16777216) (hT : tape.drop i = octs n ++ rest) (hn : ∀ p ∈ news, p.1 ≠ it) :
   ∀ (dp un : Nat) (gd : Option (List Code)) (cn : Str) (cs : Scope) (a : Addr) (ccd : Value) (cl : List (Str × Addr)) (outer : List Env) (A₀ : Around) (base h₀ : Heap) (L : Addr) (m : Str → Option Value) (s : Shared) (Q E : Value → Shared → Prop),
    Below A₀ base outer h₀ → Fr h₀ L s.heap m → (hd.heap_39 w.params).In h₀ → Top hd.view_39 (looseW hd.view_39 []) mean mg mb h₀ → cs.kind = .function →
    dp + 2 < recursionLimit → un + 64 < cLine → News h₀ L s.heap ((it, iterOf l i) :: news) → h₀.IsList l vs.toArray →
    (∀ t h' tk' j, tape.drop j = rest → Fr h₀ L h' m → News h₀ L h' ((it, iterOf l j) :: news) → Q (.int n t) { s with heap := h', toks := tk' }) →
    wpAny (model PySem.Challenge.rw_rs0039_01.row.prog w) (ktrTop dp un gd cn cs L a ccd cl outer) (call (.ref 42) [.ref it]) Q E s := by
  intro dp un gd cn cs a ccd cl outer A₀ base h₀ L m s Q E B F X T hcs hdp hun N hL hret
  by_cases c1 : 63 < n
  · by_cases c2 : 63 < n / 64
    · by_cases c3 : 63 < n / 64 / 64
      · rw [octs4 c1 c2 c3] at hT
        obtain ⟨t0, x0, e0⟩ := intsAt hI hT
        obtain ⟨t1, x1, e1⟩ := intsAt hI e0
        obtain ⟨t2, x2, e2⟩ := intsAt hI e1
        obtain ⟨t3, x3, e3⟩ := intsAt hI e2
        refine parse4 w mean mg mb vs.toArray (n / 64 / 64 / 64 % 64) (n / 64 / 64 % 64) (n / 64 % 64) (n % 64) t0 t1 t2 t3 i it l news x0 x1 x2 x3 (by omega) (by omega) (by omega) (by omega) (by omega) (by omega) (by omega) (by omega) hn dp un gd cn cs a ccd cl outer A₀ base h₀ L m s Q E B F X T hcs hdp hun N hL ?_
        intro t h' tk' F' N'
        have e : ((n / 64 / 64 / 64 % 64 * 64 + n / 64 / 64 % 64) * 64 + n / 64 % 64) * 64 + n % 64 = n := by omega
        rw [e]
        exact hret t h' tk' _ e3 F' N'
      · rw [octs3 c1 c2 c3] at hT
        obtain ⟨t0, x0, e0⟩ := intsAt hI hT
        obtain ⟨t1, x1, e1⟩ := intsAt hI e0
        obtain ⟨t2, x2, e2⟩ := intsAt hI e1
        refine parse3 w mean mg mb vs.toArray (n / 64 / 64 % 64) (n / 64 % 64) (n % 64) t0 t1 t2 i it l news x0 x1 x2 (by omega) (by omega) (by omega) (by omega) (by omega) (by omega) hn dp un gd cn cs a ccd cl outer A₀ base h₀ L m s Q E B F X T hcs hdp hun N hL ?_
        intro t h' tk' F' N'
        have e : (n / 64 / 64 % 64 * 64 + n / 64 % 64) * 64 + n % 64 = n := by omega
        rw [e]
        exact hret t h' tk' _ e2 F' N'
    · rw [octs2 c1 c2] at hT
      obtain ⟨t0, x0, e0⟩ := intsAt hI hT
      obtain ⟨t1, x1, e1⟩ := intsAt hI e0
      refine parse2 w mean mg mb vs.toArray (n / 64 % 64) (n % 64) t0 t1 i it l news x0 x1 (by omega) (by omega) (by omega) (by omega) hn dp un gd cn cs a ccd cl outer A₀ base h₀ L m s Q E B F X T hcs hdp hun N hL ?_
      intro t h' tk' F' N'
      have e : n / 64 % 64 * 64 + n % 64 = n := by omega
      rw [e]
      exact hret t h' tk' _ e1 F' N'
  · rw [octs1 c1] at hT
    obtain ⟨t0, x0, e0⟩ := intsAt hI hT
    refine parse1 w mean mg mb vs.toArray (n % 64) t0 i it l news x0 (by omega) (by omega) hn dp un gd cn cs a ccd cl outer A₀ base h₀ L m s Q E B F X T hcs hdp hun N hL ?_
    intro t h' tk' F' N'
    have e : n % 64 = n := by omega
    rw [e]
    exact hret t h' tk' _ e0 F' N'
theorem parse_end (w : World) (mean : ExcName → Option Value) (mg mb : Str → Option Value) (vs : List Value) (tape : List Int) (i : Nat) (it l : Addr) (news : List (Addr × Obj)) (hI : IntsAre vs tape) (hT : tape.drop i = []) (hn : ∀ p ∈ news, p.1 ≠ it) :
   ∀ (dp un : Nat) (gd : Option (List Code)) (cn : Str) (cs : Scope) (a : Addr) (ccd : Value) (cl : List (Str × Addr)) (outer : List Env) (A₀ : Around) (base h₀ : Heap) (L : Addr) (m : Str → Option Value) (s : Shared) (Q E : Value → Shared → Prop),
    Below A₀ base outer h₀ → Fr h₀ L s.heap m → (hd.heap_39 w.params).In h₀ → Top hd.view_39 (looseW hd.view_39 []) mean mg mb h₀ → cs.kind = .function →
    dp + 2 < recursionLimit → un + 64 < cLine → News h₀ L s.heap ((it, iterOf l i) :: news) → h₀.IsList l vs.toArray →
    (∀ g h' tk' e, Fr h₀ L g m → RaisedSN base g (envX cn cs L a ccd cl :: outer) e (.type "StopIteration") ((it, iterEnd i) :: news) h' → g.UpToSlots h' → E (.ref e) { s with heap := h', toks := tk' }) →
    wpAny (model PySem.Challenge.rw_rs0039_01.row.prog w) (ktrTop dp un gd cn cs L a ccd cl outer) (call (.ref 42) [.ref it]) Q E s := by
  w_top off
  k_with_none
  k_fill
  intro dp un gd cn cs a ccd cl outer A₀ base h₀ L m s Q E B F X T hcs hdp hun N hL hret
  have hx : vs.toArray[i]? = none := by
    have h2 := hI.drop i
    rw [hT] at h2
    have h3 := h2.nil_inv
    have h4 : (vs.drop i)[0]? = none := by rw [h3]; rfl
    rw [List.getElem?_drop] at h4
    simpa using h4
  refine wpAny_call ?_
  k_dflt (refine' code_def (binds := [(Str.ofString "iterator", .ref it)]) ?k1 ?k2 ?k3 ?k4 ?k5 ?kA ?kF ?kK ?k6 ?k7 ?k8 ?k9 ?kB ?_ ?c2 ?c3 ?c4 ?c5; (case kA => exact rfl); (case kF => exact rfl); (case kK => assumption); (case k1 => k_asm); (case k2 => k_asm); (case k3 => k_asm); (case k4 => k_asm); (case k5 => k_asm); (case k6 => k_is); (case k7 => k_is); (case k8 => ktr_room); (case k9 => exact BindsTo.of_eq rfl); (case c5 => decide); (case kB => exact locs rfl); (case c2 => exact rfl); (case c3 => exact rfl); (case c4 => exact rfl); k_whole; intro g' L' h' FG' F' N' B' X' T'; (try dsimp only); (try k_fold))
  have hL' := stays_list FG'.keep hL
  clear B F X T N
  repeat' (first | (k_unfold; (try dsimp only)) | ((with_reducible show wpAny _ _ (call (Value.builtin "next") _) _ _ _); refine next_end rfl (by k_asm) (by k_asm) (by assumption) (by is_list) (by assumption) ?_; intro h' h'' e' F' N' X'; (try k_sweep)) | ((with_reducible show wpAny _ _ (leaving _ _) _ _ _); refine leave_newS (by assumption) (by assumption) (by assumption) (by assumption) ?_; intro h9 S9 R9 U9) | walk1 | (dsimp only; first | walk1 | (k_unfold; (try dsimp only))) | (leave1; walk_say "STEP leave1"; try dsimp only) | fail "no step")
  exact hret _ _ _ _ FG' (by assumption) (by assumption)
end Mine

-- E0
open PySem PySem.W PyProof.Rows PySem.Calls
set_option Elab.async false
set_option maxRecDepth 100000
set_option maxHeartbeats 8000000
namespace Mine
section
variable {prog : Program} {w : World} {A₀ A : Around} {s : Shared} {base h₀ : Heap} {outer : List Env} {L : Addr} {m mg mb : Str → Option Value} {env : Env} {K : Frag} {p : Program} {loose : List Str} {mean : ExcName → Option Value}
  {R : Result → Shared → Prop} {name qual : Str} {params : Arguments} {body : List Stmt} {scope : Scope} {dV kV doc pm cdv ct oc : Value} {an od : Option Addr} {osl : Array (Option Value)} {f : Addr} {args : Args} {binds : List (Str × Value)}
/-- entering a def; what comes back is told bare -/
theorem enterR (B : Below A₀ base outer h₀) (F : Fr h₀ L s.heap m) (X₀ : K.In h₀) (T : Top p loose mean mg mb h₀) (hA : A.frames = some (env :: outer)) (hf : env.frame = some L) (hke : env.scope.kind = .function)
    (ho : K.lookup f = some ⟨oc, od, .func (fnOf name qual params body scope dV kV doc pm an cdv ct), osl⟩) (hcd : codeIn K cdv qual = true) (hroom : A.depth < recursionLimit)
    (hbind : BindsTo s (fnOf name qual params body scope dV kV doc pm an cdv ct) args binds) (hloc : ∀ y ∈ binds, scope.names.lookup y.1 = some .local)
    (h : ∀ L' h₁, L' = s.heap.objs.size → Fr s.heap L' h₁ (fun y => binds.reverse.lookup y) → News s.heap L' h₁ [] → Below A base (env :: outer) s.heap → K.In s.heap → Top p loose mean mg mb s.heap →
      wpAny (model prog w) (A.deeper (envOf qual scope L' f cdv)) (execs body (envOf qual scope L' f cdv))
        (fun fl s' => R (.ok (.ret (match fl with | .ret v => v | _ => .none))) s')
        (fun e s' => wpAny (model prog w) (A.deeper (envOf qual scope L' f cdv)) (leaving (envOf qual scope L' f cdv) e) (fun _ s'' => R (.error e) s'') (fun e' s'' => R (.error e') s'') s')
        { s with heap := h₁, toks := s.toks + binds.length })
    (hco : scope.isCoroutine = false) (hgen : scope.isGenerator = false) (hk : scope.kind = .function)
    (hcell : ∀ x ∈ scope.names, x.2 ≠ .cell) : codeAny (model prog w) A (.call (.ref f) args) R s := by
  have st : h₀.StaysIn s.heap := F.keep
  have X := X₀.keeps st
  have B₁ := pushX B F hf hke
  refine codeAny_call_def (fd := fnOf name qual params body scope dV kV doc pm an cdv ct) (body := body) (binds := binds) hroom (X _ _ ho) rfl (T.nolimit.keeps st) (codeRec_of X hcd) rfl hbind hcell hloc (fun h₁ hns hk₁ => ?_) hco hgen hk
  exact h s.heap.objs.size h₁ rfl ⟨hns, hk₁, Nat.le_refl _⟩ News.nil ⟨hA, B₁.stays, B₁.frames⟩ X (T.keeps st)
end
section
variable {prog : Program} {w : World} {A : Around} {E : Value → Shared → Prop} {s : Shared} {h₀ : Heap} {L l : Addr} {m : Str → Option Value} {news : List (Addr × Obj)} {items : Array Value} {Q : Value → Shared → Prop}
theorem iter_list (F : Fr h₀ L s.heap m) (N : News h₀ L s.heap news) (hl : s.heap.IsList l items)
    (h : ∀ (I : Addr) h', Fr h₀ L h' m → News h₀ L h' ((I, iterOf l 0) :: news) → (∀ p ∈ news, p.1 < I) → Q (.ref I) { s with heap := h' }) :
    wpAny (model prog w) A (call (.builtin "iter") [.ref l]) Q E s := by
  refine call_function_entry (by decide +kernel) (by decide +kernel) kdk_entry_iter (kdk_args_iter _) ?_
  unfold Builtin.«iter»
  refine wpAny_bind (m := someArgs "iter" 1 2 _) (wpAny_of_eq (a := [Value.ref l]) (by first | rfl | kernel_rfl!) ?_)
  show wpAny _ _ (pyIter (.ref l) >>= _) _ _ _
  refine wpAny_bind (wpAny_pyIter_list hl ?_)
  exact wpAny_pure ⟨_, rfl, h _ _ (F.push _) (News.push F N _ rfl) (fun q hq => Heap.lt_size (N q hq).1)⟩
end
theorem whlInd {prog : Program} {w : World} {A : Around} {E : Value → Shared → Prop} {env : Env} {test : PySem.Expr} {body orelse : List Stmt} {Q : Flow → Shared → Prop} (I : Nat → Shared → Prop)
    (step : ∀ n s, (∀ n' s' k, n' < n → I n' s' → WhlRest prog w A E env test body orelse Q k s') → I n s → WhlRest prog w A E env test body orelse Q (100 + 1) s) (n : Nat) {k : Nat} {s : Shared} (h : I n s) : WhlRest prog w A E env test body orelse Q k s := by
  have all : ∀ N n s, n < N → I n s → WhlRest prog w A E env test body orelse Q (100 + 1) s := by
    intro N
    induction N with
    | zero => intro n s h; exact absurd h (Nat.not_lt_zero _)
    | succ N ih => intro n s h hI; exact step n s (fun n' s' k' h' hI' => ih n' s' (by omega) hI') hI
  exact all (n + 1) n s (Nat.lt_succ_self _) h
inductive StrsAre : List Value → List Str → Prop
  | nil : StrsAre [] []
  | cons (x : Str) (t : Tok) {vs xs} : StrsAre vs xs → StrsAre (.str x t :: vs) (x :: xs)
theorem StrsAre.length {vs : List Value} {xs : List Str} (h : StrsAre vs xs) : vs.length = xs.length := by
  induction h with
  | nil => rfl
  | cons _ _ _ ih => simp [ih]
theorem StrsAre.snoc {vs : List Value} {xs : List Str} (h : StrsAre vs xs) (x : Str) (t : Tok) : StrsAre (vs ++ [.str x t]) (xs ++ [x]) := by
  induction h with
  | nil => exact .cons x t .nil
  | cons y u _ ih => exact .cons y u ih
theorem StrsAre.last {vs : List Value} {xs : List Str} {x : Str} (h : StrsAre vs (xs ++ [x])) : ∃ us t, vs = us ++ [.str x t] ∧ StrsAre us xs := by
  induction xs generalizing vs with
  | nil => cases h with | cons _ t r => cases r; exact ⟨[], t, rfl, .nil⟩
  | cons y ys ih => cases h with
    | cons _ t r =>
      obtain ⟨us, t', e, h'⟩ := ih r
      exact ⟨.str y t :: us, t', by rw [e]; rfl, .cons y t h'⟩
theorem frIf {g h : Heap} {L : Addr} {m : Str → Option Value} {x : Str} {v : Value} (F : Fr g L h m) (h1 : m x = some v) : Fr g L h (fun y => if y = x then some v else m y) := by
  have e : (fun y => if y = x then some v else m y) = m := by
    funext y
    by_cases q : y = x
    · simp [q, h1]
    · simp [q]
  rw [e]; exact F
section
variable {prog : Program} {w : World} {A : Around} {E : Value → Shared → Prop} {s : Shared} {h₀ : Heap} {L D : Addr} {m : Str → Option Value} {news news' : List (Addr × Obj)} {n : Nat}
theorem item_last {value slice : PySem.Expr} {l : Addr} {us : List Value} {y : Value} {t : Tok} {Q : Value → Shared → Prop} (hl : s.heap.IsList l (us ++ [y]).toArray) (hz : us.length < 2 ^ 62) (h : Q y s)
    (hs : subscripted slice false (.ref l) (.int (-1) t) = operate [.ref l, .int (-1) t] (getItem (.ref l) (.int (-1) t)) := by with_unfolding_all rfl) :
    wpAny (model prog w) A (subscriptTail value slice (.ref l) (.int (-1) t)) Q E s :=
  tail_any hl.typeIs slot_list_getitem.lookup (wpAny_getItem_list_neg hl (by omega) (by simp; omega) (by omega) (by
    have e : (-1 + (((us ++ [y]).toArray.size : Nat) : Int)).toNat = us.length := by simp; omega
    rw [e]; simp) h) hs
theorem pop_last {us : List Value} {y : Value} {Q : Value → Shared → Prop} (F : Fr h₀ L s.heap m) (N : News h₀ L s.heap news) (U : Upd D (W.listOf (us ++ [y]).toArray n) (W.listOf us.toArray (n + 1)) news news')
    (hz : us.length + 1 ≤ sizeLine) (h : ∀ h', Fr h₀ L h' m → News h₀ L h' news' → Q y { s with heap := h' }) : wpAny (model prog w) A (call (.builtin "list.pop") [.ref D]) Q E s :=
  kl_pop F N (p := us) (y := y) (by simpa using kpa_last y us) U (by simpa using hz) h
end
theorem wp_hide {α : Type} {M : Model} {A : Around} {c : Sem α} {Q : α → Shared → Prop} {E : Value → Shared → Prop} {s : Shared} (h : ∀ R : α → Shared → Prop, (∀ v s', Q v s' → R v s') → wpAny M A c R E s) : wpAny M A c Q E s := h Q (fun _ _ x => x)
theorem wp_hide2 {α : Type} {M : Model} {A : Around} {c : Sem α} {Q : α → Shared → Prop} {E : Value → Shared → Prop} {s : Shared} (h : ∀ R : α → Shared → Prop, (∀ v s', Q v s' → R v s') → ∀ S : Value → Shared → Prop, (∀ v s', E v s' → S v s') → wpAny M A c R S s) : wpAny M A c Q E s := h Q (fun _ _ x => x) E (fun _ _ x => x)
theorem lt5 {i : Nat} (h : i < 5) : i = 0 ∨ i = 1 ∨ i = 2 ∨ i = 3 ∨ i = 4 := by omega
theorem ex_1 {A0 : Type} {P : A0 → Prop} {G : Prop} (h : ∃ a0, P a0) (f : ∀ a0, P a0 → G) : G := by
  obtain ⟨a0, p⟩ := h
  exact f a0 p
theorem ex_2 {A0 A1 : Type} {P : A0 → A1 → Prop} {G : Prop} (h : ∃ a0 a1, P a0 a1) (f : ∀ a0 a1, P a0 a1 → G) : G := by
  obtain ⟨a0, a1, p⟩ := h
  exact f a0 a1 p
theorem ex_3 {A0 A1 A2 : Type} {P : A0 → A1 → A2 → Prop} {G : Prop} (h : ∃ a0 a1 a2, P a0 a1 a2) (f : ∀ a0 a1 a2, P a0 a1 a2 → G) : G := by
  obtain ⟨a0, a1, a2, p⟩ := h
  exact f a0 a1 a2 p
theorem ex_4 {A0 A1 A2 A3 : Type} {P : A0 → A1 → A2 → A3 → Prop} {G : Prop} (h : ∃ a0 a1 a2 a3, P a0 a1 a2 a3) (f : ∀ a0 a1 a2 a3, P a0 a1 a2 a3 → G) : G := by
  obtain ⟨a0, a1, a2, a3, p⟩ := h
  exact f a0 a1 a2 a3 p
theorem ex_5 {A0 A1 A2 A3 A4 : Type} {P : A0 → A1 → A2 → A3 → A4 → Prop} {G : Prop} (h : ∃ a0 a1 a2 a3 a4, P a0 a1 a2 a3 a4) (f : ∀ a0 a1 a2 a3 a4, P a0 a1 a2 a3 a4 → G) : G := by
  obtain ⟨a0, a1, a2, a3, a4, p⟩ := h
  exact f a0 a1 a2 a3 a4 p
theorem ex_6 {A0 A1 A2 A3 A4 A5 : Type} {P : A0 → A1 → A2 → A3 → A4 → A5 → Prop} {G : Prop} (h : ∃ a0 a1 a2 a3 a4 a5, P a0 a1 a2 a3 a4 a5) (f : ∀ a0 a1 a2 a3 a4 a5, P a0 a1 a2 a3 a4 a5 → G) : G := by
  obtain ⟨a0, a1, a2, a3, a4, a5, p⟩ := h
  exact f a0 a1 a2 a3 a4 a5 p
theorem ex_7 {A0 A1 A2 A3 A4 A5 A6 : Type} {P : A0 → A1 → A2 → A3 → A4 → A5 → A6 → Prop} {G : Prop} (h : ∃ a0 a1 a2 a3 a4 a5 a6, P a0 a1 a2 a3 a4 a5 a6) (f : ∀ a0 a1 a2 a3 a4 a5 a6, P a0 a1 a2 a3 a4 a5 a6 → G) : G := by
  obtain ⟨a0, a1, a2, a3, a4, a5, a6, p⟩ := h
  exact f a0 a1 a2 a3 a4 a5 a6 p
theorem ex_8 {A0 A1 A2 A3 A4 A5 A6 A7 : Type} {P : A0 → A1 → A2 → A3 → A4 → A5 → A6 → A7 → Prop} {G : Prop} (h : ∃ a0 a1 a2 a3 a4 a5 a6 a7, P a0 a1 a2 a3 a4 a5 a6 a7) (f : ∀ a0 a1 a2 a3 a4 a5 a6 a7, P a0 a1 a2 a3 a4 a5 a6 a7 → G) : G := by
  obtain ⟨a0, a1, a2, a3, a4, a5, a6, a7, p⟩ := h
  exact f a0 a1 a2 a3 a4 a5 a6 a7 p
theorem ex_9 {A0 A1 A2 A3 A4 A5 A6 A7 A8 : Type} {P : A0 → A1 → A2 → A3 → A4 → A5 → A6 → A7 → A8 → Prop} {G : Prop} (h : ∃ a0 a1 a2 a3 a4 a5 a6 a7 a8, P a0 a1 a2 a3 a4 a5 a6 a7 a8) (f : ∀ a0 a1 a2 a3 a4 a5 a6 a7 a8, P a0 a1 a2 a3 a4 a5 a6 a7 a8 → G) : G := by
  obtain ⟨a0, a1, a2, a3, a4, a5, a6, a7, a8, p⟩ := h
  exact f a0 a1 a2 a3 a4 a5 a6 a7 a8 p
theorem ex_10 {A0 A1 A2 A3 A4 A5 A6 A7 A8 A9 : Type} {P : A0 → A1 → A2 → A3 → A4 → A5 → A6 → A7 → A8 → A9 → Prop} {G : Prop} (h : ∃ a0 a1 a2 a3 a4 a5 a6 a7 a8 a9, P a0 a1 a2 a3 a4 a5 a6 a7 a8 a9) (f : ∀ a0 a1 a2 a3 a4 a5 a6 a7 a8 a9, P a0 a1 a2 a3 a4 a5 a6 a7 a8 a9 → G) : G := by
  obtain ⟨a0, a1, a2, a3, a4, a5, a6, a7, a8, a9, p⟩ := h
  exact f a0 a1 a2 a3 a4 a5 a6 a7 a8 a9 p
theorem ex_11 {A0 A1 A2 A3 A4 A5 A6 A7 A8 A9 A10 : Type} {P : A0 → A1 → A2 → A3 → A4 → A5 → A6 → A7 → A8 → A9 → A10 → Prop} {G : Prop} (h : ∃ a0 a1 a2 a3 a4 a5 a6 a7 a8 a9 a10, P a0 a1 a2 a3 a4 a5 a6 a7 a8 a9 a10) (f : ∀ a0 a1 a2 a3 a4 a5 a6 a7 a8 a9 a10, P a0 a1 a2 a3 a4 a5 a6 a7 a8 a9 a10 → G) : G := by
  obtain ⟨a0, a1, a2, a3, a4, a5, a6, a7, a8, a9, a10, p⟩ := h
  exact f a0 a1 a2 a3 a4 a5 a6 a7 a8 a9 a10 p
theorem an_2 {P0 P1 G : Prop} (h : P0 ∧ P1) (f : P0 → P1 → G) : G := by
  obtain ⟨p0, p1⟩ := h
  exact f p0 p1
theorem an_3 {P0 P1 P2 G : Prop} (h : P0 ∧ P1 ∧ P2) (f : P0 → P1 → P2 → G) : G := by
  obtain ⟨p0, p1, p2⟩ := h
  exact f p0 p1 p2
theorem an_4 {P0 P1 P2 P3 G : Prop} (h : P0 ∧ P1 ∧ P2 ∧ P3) (f : P0 → P1 → P2 → P3 → G) : G := by
  obtain ⟨p0, p1, p2, p3⟩ := h
  exact f p0 p1 p2 p3
theorem an_5 {P0 P1 P2 P3 P4 G : Prop} (h : P0 ∧ P1 ∧ P2 ∧ P3 ∧ P4) (f : P0 → P1 → P2 → P3 → P4 → G) : G := by
  obtain ⟨p0, p1, p2, p3, p4⟩ := h
  exact f p0 p1 p2 p3 p4
theorem an_6 {P0 P1 P2 P3 P4 P5 G : Prop} (h : P0 ∧ P1 ∧ P2 ∧ P3 ∧ P4 ∧ P5) (f : P0 → P1 → P2 → P3 → P4 → P5 → G) : G := by
  obtain ⟨p0, p1, p2, p3, p4, p5⟩ := h
  exact f p0 p1 p2 p3 p4 p5
theorem an_7 {P0 P1 P2 P3 P4 P5 P6 G : Prop} (h : P0 ∧ P1 ∧ P2 ∧ P3 ∧ P4 ∧ P5 ∧ P6) (f : P0 → P1 → P2 → P3 → P4 → P5 → P6 → G) : G := by
  obtain ⟨p0, p1, p2, p3, p4, p5, p6⟩ := h
  exact f p0 p1 p2 p3 p4 p5 p6
theorem an_8 {P0 P1 P2 P3 P4 P5 P6 P7 G : Prop} (h : P0 ∧ P1 ∧ P2 ∧ P3 ∧ P4 ∧ P5 ∧ P6 ∧ P7) (f : P0 → P1 → P2 → P3 → P4 → P5 → P6 → P7 → G) : G := by
  obtain ⟨p0, p1, p2, p3, p4, p5, p6, p7⟩ := h
  exact f p0 p1 p2 p3 p4 p5 p6 p7
theorem an_9 {P0 P1 P2 P3 P4 P5 P6 P7 P8 G : Prop} (h : P0 ∧ P1 ∧ P2 ∧ P3 ∧ P4 ∧ P5 ∧ P6 ∧ P7 ∧ P8) (f : P0 → P1 → P2 → P3 → P4 → P5 → P6 → P7 → P8 → G) : G := by
  obtain ⟨p0, p1, p2, p3, p4, p5, p6, p7, p8⟩ := h
  exact f p0 p1 p2 p3 p4 p5 p6 p7 p8
theorem an_10 {P0 P1 P2 P3 P4 P5 P6 P7 P8 P9 G : Prop} (h : P0 ∧ P1 ∧ P2 ∧ P3 ∧ P4 ∧ P5 ∧ P6 ∧ P7 ∧ P8 ∧ P9) (f : P0 → P1 → P2 → P3 → P4 → P5 → P6 → P7 → P8 → P9 → G) : G := by
  obtain ⟨p0, p1, p2, p3, p4, p5, p6, p7, p8, p9⟩ := h
  exact f p0 p1 p2 p3 p4 p5 p6 p7 p8 p9
theorem an_11 {P0 P1 P2 P3 P4 P5 P6 P7 P8 P9 P10 G : Prop} (h : P0 ∧ P1 ∧ P2 ∧ P3 ∧ P4 ∧ P5 ∧ P6 ∧ P7 ∧ P8 ∧ P9 ∧ P10) (f : P0 → P1 → P2 → P3 → P4 → P5 → P6 → P7 → P8 → P9 → P10 → G) : G := by
  obtain ⟨p0, p1, p2, p3, p4, p5, p6, p7, p8, p9, p10⟩ := h
  exact f p0 p1 p2 p3 p4 p5 p6 p7 p8 p9 p10
theorem an_12 {P0 P1 P2 P3 P4 P5 P6 P7 P8 P9 P10 P11 G : Prop} (h : P0 ∧ P1 ∧ P2 ∧ P3 ∧ P4 ∧ P5 ∧ P6 ∧ P7 ∧ P8 ∧ P9 ∧ P10 ∧ P11) (f : P0 → P1 → P2 → P3 → P4 → P5 → P6 → P7 → P8 → P9 → P10 → P11 → G) : G := by
  obtain ⟨p0, p1, p2, p3, p4, p5, p6, p7, p8, p9, p10, p11⟩ := h
  exact f p0 p1 p2 p3 p4 p5 p6 p7 p8 p9 p10 p11
theorem an_13 {P0 P1 P2 P3 P4 P5 P6 P7 P8 P9 P10 P11 P12 G : Prop} (h : P0 ∧ P1 ∧ P2 ∧ P3 ∧ P4 ∧ P5 ∧ P6 ∧ P7 ∧ P8 ∧ P9 ∧ P10 ∧ P11 ∧ P12) (f : P0 → P1 → P2 → P3 → P4 → P5 → P6 → P7 → P8 → P9 → P10 → P11 → P12 → G) : G := by
  obtain ⟨p0, p1, p2, p3, p4, p5, p6, p7, p8, p9, p10, p11, p12⟩ := h
  exact f p0 p1 p2 p3 p4 p5 p6 p7 p8 p9 p10 p11 p12
end Mine

-- E1
open PySem PySem.W PyProof.Rows PySem.Calls
set_option Elab.async false
set_option maxRecDepth 100000
set_option maxHeartbeats 8000000
namespace Mine
theorem iseof_spec (w : World) (mean : ExcName → Option Value) (mg mb : Str → Option Value) (x : Int) (tx : Tok) : Told1 2 w mean mg mb 35 [.int x tx] (fun _ => True) (fun _ v _ => v = .bool (decide (x = 0))) := by
  unfold Told1
  w_top off
  k_with_none
  k_fill
  intro dp un gd cn cs a0 ccd cl outer A₀ base h₀ L m s Q E B F X T hcs hdp hun hpre hret
  refine wpAny_call ?_
  k_dflt (refine' enterS (binds := [(Str.ofString "x", .int x tx)]) ?k1 ?k2 ?k3 ?k5 ?kA ?kF ?kK ?k6 ?k7 ?k8 ?k9 ?kB ?_ ?c2 ?c3 ?c4 ?c5; (case kA => exact rfl); (case kF => exact rfl); (case kK => assumption); (case k1 => k_asm); (case k2 => k_asm); (case k3 => k_asm); (case k5 => k_asm); (case k6 => k_is); (case k7 => k_is); (case k8 => ktr_room); (case k9 => exact BindsTo.of_eq rfl); (case c5 => decide); (case kB => exact locs rfl); (case c2 => exact rfl); (case c3 => exact rfl); (case c4 => exact rfl); k_whole; intro L' h' hL' F' N' B' X' T'; (try dsimp only); (try k_fold))
  clear B F X T
  repeat' (first | (k_unfold; (try dsimp only)) | walk1 | (dsimp only; first | walk1 | (k_unfold; (try dsimp only))) | (leave1; walk_say "STEP leave1"; try dsimp only) | fail "no step")
  exact leaveK_ (by k_asm) (by k_asm) (fun _ _ st => hret _ _ _ st rfl)
theorem isnon_spec (w : World) (mean : ExcName → Option Value) (mg mb : Str → Option Value) (x : Int) (tx : Tok) : Told1 2 w mean mg mb 28 [.int x tx] (fun _ => True) (fun _ v _ => v = .bool (decide (256 ≤ x))) := by
  unfold Told1
  w_top off
  k_with_none
  k_fill
  intro dp un gd cn cs a0 ccd cl outer A₀ base h₀ L m s Q E B F X T hcs hdp hun hpre hret
  refine wpAny_call ?_
  k_dflt (refine' enterS (binds := [(Str.ofString "x", .int x tx)]) ?k1 ?k2 ?k3 ?k5 ?kA ?kF ?kK ?k6 ?k7 ?k8 ?k9 ?kB ?_ ?c2 ?c3 ?c4 ?c5; (case kA => exact rfl); (case kF => exact rfl); (case kK => assumption); (case k1 => k_asm); (case k2 => k_asm); (case k3 => k_asm); (case k5 => k_asm); (case k6 => k_is); (case k7 => k_is); (case k8 => ktr_room); (case k9 => exact BindsTo.of_eq rfl); (case c5 => decide); (case kB => exact locs rfl); (case c2 => exact rfl); (case c3 => exact rfl); (case c4 => exact rfl); k_whole; intro L' h' hL' F' N' B' X' T'; (try dsimp only); (try k_fold))
  clear B F X T
  repeat' (first | (k_unfold; (try dsimp only)) | walk1 | (dsimp only; first | walk1 | (k_unfold; (try dsimp only))) | (leave1; walk_say "STEP leave1"; try dsimp only) | fail "no step")
  exact leaveK_ (by k_asm) (by k_asm) (fun _ _ st => hret _ _ _ st rfl)
theorem ister_spec (w : World) (mean : ExcName → Option Value) (mg mb : Str → Option Value) (x : Int) (tx : Tok) : Told1 2 w mean mg mb 21 [.int x tx] (fun _ => True) (fun _ v _ => v = .bool (decide (x < 256))) := by
  unfold Told1
  w_top off
  k_with_none
  k_fill
  intro dp un gd cn cs a0 ccd cl outer A₀ base h₀ L m s Q E B F X T hcs hdp hun hpre hret
  refine wpAny_call ?_
  k_dflt (refine' enterS (binds := [(Str.ofString "x", .int x tx)]) ?k1 ?k2 ?k3 ?k5 ?kA ?kF ?kK ?k6 ?k7 ?k8 ?k9 ?kB ?_ ?c2 ?c3 ?c4 ?c5; (case kA => exact rfl); (case kF => exact rfl); (case kK => assumption); (case k1 => k_asm); (case k2 => k_asm); (case k3 => k_asm); (case k5 => k_asm); (case k6 => k_is); (case k7 => k_is); (case k8 => ktr_room); (case k9 => exact BindsTo.of_eq rfl); (case c5 => decide); (case kB => exact locs rfl); (case c2 => exact rfl); (case c3 => exact rfl); (case c4 => exact rfl); k_whole; intro L' h' hL' F' N' B' X' T'; (try dsimp only); (try k_fold))
  clear B F X T
  repeat' (first | (k_unfold; (try dsimp only)) | walk1 | (dsimp only; first | walk1 | (k_unfold; (try dsimp only))) | (leave1; walk_say "STEP leave1"; try dsimp only) | fail "no step")
  exact leaveK_ (by k_asm) (by k_asm) (fun _ _ st => hret _ _ _ st rfl)
def wOk : List Int → Nat → Prop
  | [], _ => True
  | x :: r, d => 0 < d ∧ 0 ≤ x ∧ x < 16777216 ∧ (if x = 0 then wOk r (d - 1) else if 256 ≤ x then wOk r (d + 1) else wOk r d)
theorem si_isExc : isSubtype (.type "StopIteration") (.type "BaseException") = pure true := by rw [isSubtype_type]; kernel_rfl
theorem si_sub : isSubtype (.type "StopIteration") (.type "StopIteration") = pure true := by rw [isSubtype_type]; kernel_rfl
theorem si_notTuple : isSubtype (.type ((Manifest.find? "StopIteration").elim "type" fun x => x.metatype)) (.type "tuple") = pure false := by
  rw [show ((Manifest.find? "StopIteration").elim "type" fun x => x.metatype) = "type" from by kernel_rfl, isSubtype_type]; kernel_rfl
theorem si_boot : bootBuiltins (Str.ofString "StopIteration") = some (.type "StopIteration") := by first | boot_fast | decide +kernel
noncomputable def newWord (letters : String) (p : Int) (w : Str) : Str := if 0 < p then Txt.slice w none (some (p - 1)) ++ Txt.item (Str.ofString letters) (p - 1) ++ Txt.slice w (some p) none else w
noncomputable def wordsRun : List Int → List Str → List (PyData × PyData) → List (PyData × PyData)
  | [], _, D => D
  | x :: r, pile, D =>
    if x = 0 then wordsRun r pile.dropLast D
    else if 256 ≤ x then wordsRun r (pile ++ [newWord "ABCD" ((x - 255).fmod 5) (pile.getLastD Str.empty)]) (PyProof.V.putD (.int ((x - 255).fmod 5)) (.str (newWord "ABCD" ((x - 255).fmod 5) (pile.getLastD Str.empty))) D)
    else wordsRun r pile (PyProof.V.putD (.int ((256 - x).fmod 5)) (.str (newWord "1234" ((256 - x).fmod 5) (pile.getLastD Str.empty))) D)
theorem strFour {w : Str} (h : w.length = 4) : ∃ a b c d, w = ⟨#[a, b, c, d]⟩ := by
  obtain ⟨⟨l⟩⟩ := w
  match l, h with
  | [a, b, c, d], _ => exact ⟨a, b, c, d, rfl⟩
theorem newWord_len {letters : String} {p : Int} {w : Str} (hl : letters = "ABCD" ∨ letters = "1234") (h : w.length = 4) (h0 : 0 ≤ p) (h1 : p < 5) : (newWord letters p w).length = 4 := by
  obtain ⟨a, b, c, d, rfl⟩ := strFour h
  have hp : p = 0 ∨ p = 1 ∨ p = 2 ∨ p = 3 ∨ p = 4 := by omega
  rcases hl with rfl | rfl <;> rcases hp with rfl | rfl | rfl | rfl | rfl <;> kernel_rfl
theorem newWord_pos {letters : String} {p : Int} {w : Str} (h : 0 < p) : newWord letters p w = Txt.slice w none (some (p - 1)) ++ Txt.item (Str.ofString letters) (p - 1) ++ Txt.slice w (some p) none := if_pos h
theorem newWord_zero {letters : String} {p : Int} {w : Str} (h : ¬ 0 < p) : newWord letters p w = w := if_neg h
theorem fmod5 (x : Int) : 0 ≤ x.fmod 5 ∧ x.fmod 5 < 5 := ⟨Int.fmod_nonneg_of_pos _ (by decide), Int.fmod_lt_of_pos _ (by decide)⟩
set_option pp.deepTerms false in
theorem words_spec (w : World) (mean : ExcName → Option Value) (mg mb : Str → Option Value) (vs : List Value) (tape syms : List Int) (tp : Addr) (hI : IntsAre vs tape) (hT : tape = syms.flatMap octs) (hok : wOk syms 1) (hlen : syms.length ≤ 100) (DW : List (PyData × PyData)) (hrun : wordsRun syms [Str.ofString "abcd"] [] = DW) :
   ∀ (dp un : Nat) (gd : Option (List Code)) (cn : Str) (cs : Scope) (a : Addr) (ccd : Value) (cl : List (Str × Addr)) (outer : List Env) (A₀ : Around) (base h₀ : Heap) (L : Addr) (m : Str → Option Value) (s : Shared) (Q E : Value → Shared → Prop),
    Below A₀ base outer h₀ → Fr h₀ L s.heap m → (hd.heap_39 w.params).In h₀ → Top hd.view_39 (looseW hd.view_39 []) mean mg mb h₀ → cs.kind = .function →
    dp + 4 < recursionLimit → un + 128 < cLine → outer = [] → (hd.heap_39 w.params).In base → Top hd.view_39 (looseW hd.view_39 []) mean mg mb base → s.heap.IsList tp vs.toArray →
    (∀ d h' tk', Fr h₀ L h' m → (∀ b o, s.heap.get? b = some o → b ≠ L → h'.get? b = some o) → s.heap.get? d = none → TabAt (intKind PySem.Challenge.rw_rs0039_01.row.prog w) PyData.int h' d DW → Q (.ref d) { s with heap := h', toks := tk' }) →
    wpAny (model PySem.Challenge.rw_rs0039_01.row.prog w) (ktrTop dp un gd cn cs L a ccd cl outer) (call (.ref 82) [.ref tp]) Q E s := by
  w_top off
  k_with_none
  k_fill
  intro dp un gd cn cs a ccd cl outer A₀ base h₀ L m s Q E B F X T hcs hdp hun hou XB TB hL hret
  refine wpAny_call ?_
  k_dflt (refine' enterR (binds := [(Str.ofString "tape", .ref tp)]) ?k1 ?k2 ?k3 ?k5 ?kA ?kF ?kK ?k6 ?k7 ?k8 ?k9 ?kB ?_ ?c2 ?c3 ?c4 ?c5; (case kA => exact rfl); (case kF => exact rfl); (case kK => assumption); (case k1 => k_asm); (case k2 => k_asm); (case k3 => k_asm); (case k5 => k_asm); (case k6 => k_is); (case k7 => k_is); (case k8 => ktr_room); (case k9 => exact BindsTo.of_eq rfl); (case c5 => decide); (case kB => exact locs rfl); (case c2 => exact rfl); (case c3 => exact rfl); (case c4 => exact rfl); k_whole; intro L' h' hL' F' N' B' X' T'; (try dsimp only); (try k_fold))
  repeat' (first | (k_unfold; (try dsimp only)) | ((with_reducible show wpAny _ _ (call (Value.builtin "iter") _) _ _ _); refine iter_list (by k_asm) (by k_asm) (by is_list) ?_; intro I' h' F' N' l1; (try k_lt l1); (try k_sweep)) | ((fail_if_success (with_reducible show wpAny _ _ (exec (Stmt.While _ _ _ _) _) _ _ _)); walk1) | (dsimp only; first | ((fail_if_success (with_reducible show wpAny _ _ (exec (Stmt.While _ _ _ _) _) _ _ _)); walk1) | (k_unfold; (try dsimp only))) | (leave1; walk_say "STEP leave1"; try dsimp only) | fail "no step")
  rename News _ _ _ _ => N1
  rename Fr _ _ _ _ => F1
  rename Obj.IsDictOf (intKind _ _) _ _ => hi1
  rename (_ == sysModules) = false => lo1
  rename PyProof.V.FlatPairs PyData.int _ _ => fi1
  rename (_ < _ ∧ _ < _) => l1
  rename_i tk0 d1 _ o1 _ _ l2 _ p1 _ h1
  have N2 : News s.heap L' h1 [(I', iterOf tp 0), (p1, W.listOf [Value.str (Str.ofString "abcd") (tk0 + 1)].toArray 0), (d1, o1)] := fun p hp => N1 p (by simp only [List.mem_cons, List.not_mem_nil, or_false] at hp ⊢; rcases hp with h | h | h <;> simp [h])
  have F2 := frIf (x := Str.ofString "iterator") (v := .ref I') (frIf (x := Str.ofString "words") (v := .ref d1) (frIf (x := Str.ofString "pile") (v := .ref p1) F1 rfl) rfl) rfl
  clear N1 F1
  refine whl_start 100 ?_
  refine whlInd (I := fun n s' => ∃ (ss : List Int) (i np : Nat) (pvs : List Value) (pile : List Str) (o : Obj) (kvs : List (Int × Value)) (D : List (PyData × PyData)) (u : Str → Option Value) (h : Heap) (tk : Nat),
    ss.length = n ∧ s' = { s with heap := h, toks := tk } ∧ tape.drop i = ss.flatMap octs ∧ wordsRun ss pile D = DW ∧ wOk ss pile.length ∧ D.length + ss.length ≤ 100 ∧ pile.length + ss.length ≤ 101 ∧ (∀ x ∈ pile, x.length = 4) ∧ StrsAre pvs pile ∧ o.IsDictOf (intKind PySem.Challenge.rw_rs0039_01.row.prog w) kvs ∧ PyProof.V.FlatPairs PyData.int kvs D ∧
    News s.heap L' h [(I', iterOf tp i), (p1, W.listOf pvs.toArray np), (d1, o)] ∧ Fr s.heap L' h (fun y => if y = Str.ofString "iterator" then some (Value.ref I') else if y = Str.ofString "words" then some (Value.ref d1) else if y = Str.ofString "pile" then some (Value.ref p1) else u y)) ?_ syms.length
    ⟨syms, 0, 0, _, [Str.ofString "abcd"], o1, [], [], _, h1, _, rfl, rfl, by simpa using hT, hrun, hok, by simpa using hlen, by simp; omega, by intro x hx; rw [List.mem_singleton.mp hx]; decide, .cons _ _ .nil, hi1, fi1, N2, F2⟩
  clear N2 F2 hi1 fi1
  rintro n s' IH hOB
  (refine ex_11 hOB fun ss i np pvs pile o kvs D u h tk hOBx => ?_; clear hOB; refine an_13 hOBx fun eOB0 eOB1 hT' hR hok' hD hP hW hS hi1 fi1 N1 F1 => ?_; clear hOBx; subst eOB0; subst eOB1)
  cases ss with
  | nil =>
    simp only [List.flatMap_nil] at hT'
    have hR' : D = DW := hR
    subst hR'
    have hn2 : ∀ p ∈ [(p1, W.listOf pvs.toArray np), (d1, o)], p.1 ≠ I' := by
      intro p hp
      simp only [List.mem_cons, List.not_mem_nil, or_false] at hp
      rcases hp with h | h <;> (subst h; show (_ : Nat) ≠ _; omega)
    have hKD : KtsDicts ((envX cn cs L a ccd cl :: outer).filterMap (·.frame)) s.heap := by
      obtain ⟨oL, es, ep, hoL, hoD, _⟩ := F.ns
      subst hou
      intro b hb
      have e : b = L := by simpa using hb
      subst e
      exact ⟨oL, es, ep, hoL, hoD⟩
    k_dflt (refine' whl_turn ?hE ?_; (case hE => first | passes_own | with_unfolding_all passes_own))
    repeat' (first | (k_unfold; (try dsimp only)) | ((with_reducible show wpAny _ _ (call (Value.ref 42) _) _ _ _); refine parse_end w mean mg mb vs tape i I' tp _ hI hT' hn2 _ _ _ _ _ _ _ _ _ _ _ _ _ _ _ _ _ (by k_asm) (by k_asm) (by k_asm) (by k_asm) (by first | rfl | assumption) (by ktr_room) (by ktr_units) (by k_asm) (by is_list) ?_; intro g9 h9 tk9 e9 F9 R9 U9) | ((fail_if_success (with_reducible show WhlRest _ _ _ _ _ _ _ _ _ _ _)); (fail_if_success (with_reducible show wpAny _ _ (noteFrame _ _) _ _ _)); walk1) | (dsimp only; first | ((fail_if_success (with_reducible show WhlRest _ _ _ _ _ _ _ _ _ _ _)); (fail_if_success (with_reducible show wpAny _ _ (noteFrame _ _) _ _ _)); walk1) | (k_unfold; (try dsimp only))) | (leave1; walk_say "STEP leave1"; try dsimp only) | fail "no step")
    k_dflt (refine' caught_SN0 (T' := "StopIteration") R9 F9 B' U9 XB TB hKD KtsTurn.refl ?ex si_boot ?hn si_isExc si_notTuple si_sub ?_; (case ex => k_is); (case hn => decide); k_whole)
    intro h8 g8 T8 F8 N8 K8 X8 P8 D8
    clear F1 N1 F9 R9
    repeat' (first | (k_unfold; (try dsimp only)) | walk1 | (dsimp only; first | walk1 | (k_unfold; (try dsimp only))) | (leave1; walk_say "STEP leave1"; try dsimp only) | fail "no step")
    have hnd : s.heap.get? d1 = none := by
      have hz := N8.fresh (a := d1) (o := o) (List.Mem.tail _ (List.Mem.tail _ (List.Mem.head _)))
      cases hq : s.heap.get? d1 with
      | none => rfl
      | some oo => obtain ⟨sl, hsl⟩ := T8.up hq; rw [hz] at hsl; cases hsl
    have hst : ∀ b o, s.heap.get? b = some o → b ≠ L → h8.get? b = some o := by
      intro b o hb hbL
      refine F8.keep b o (T8.other b o hb ?_)
      subst hou
      simpa using hbL
    have hFr : Fr h₀ L h8 m := by
      obtain ⟨oL, es, ep, hoL, hoD, r1, r2⟩ := F.ns
      obtain ⟨sl, hsl⟩ := T8.up hoL
      refine ⟨⟨_, es, ep, F8.keep _ _ hsl, hoD, r1, r2⟩, fun b o hb => hst b o (F.keep b o hb) ?_, F.above⟩
      intro e; subst e
      exact absurd (Nat.lt_of_lt_of_le (Heap.lt_size hb) F.above) (Nat.lt_irrefl _)
    exact hret d1 _ _ hFr hst hnd (TabAt.ofNews N8 (List.Mem.tail _ (List.Mem.tail _ (List.Mem.head _))) lo1 hi1 fi1)
  | cons x r =>
    simp only [List.flatMap_cons] at hT'
    have hOB := hok'
    (refine an_4 hOB fun hp0 hx0 hx1 hok2 => ?_; clear hOB)
    obtain ⟨pile, top, rfl⟩ : ∃ p t, pile = p ++ [t] := ⟨pile.dropLast, pile.getLast (by intro e; rw [e] at hp0; exact absurd hp0 (by decide)), (List.dropLast_concat_getLast _).symm⟩
    have hOB := hS.last
    (refine ex_2 hOB fun us tt hOBx => ?_; clear hOB; refine an_2 hOBx fun eOB0 hS' => ?_; clear hOBx; subst eOB0)
    have hul := hS'.length
    have htl : top.length = 4 := hW top (by simp)
    have htl2 : top.length ≤ 100 := by omega
    simp only [List.length_append, List.length_cons, List.length_nil] at hP hD hok2 hp0
    have hn2 : ∀ p ∈ [(p1, W.listOf (us ++ [Value.str top tt]).toArray np), (d1, o)], p.1 ≠ I' := by
      intro p hp
      simp only [List.mem_cons, List.not_mem_nil, or_false] at hp
      rcases hp with h | h <;> (subst h; show (_ : Nat) ≠ _; omega)
    have hg : (pile ++ [top]).getLastD Str.empty = top := by simp
    have hdl : (pile ++ [top]).dropLast = pile := by simp
    by_cases c0 : x = 0
    · rw [wordsRun, if_pos c0, hdl] at hR
      rw [if_pos c0] at hok2
      k_dflt (refine' whl_turn ?hE ?_; (case hE => first | passes_own | with_unfolding_all passes_own))
      repeat' (first | (k_unfold; (try dsimp only)) | ((fail_if_success (with_reducible show wpAny _ _ (execs _ _) _ _ _)); walk1) | (dsimp only; first | ((fail_if_success (with_reducible show wpAny _ _ (execs _ _) _ _ _)); walk1) | (k_unfold; (try dsimp only))) | (leave1; walk_say "STEP leave1"; try dsimp only) | fail "no step")
      refine wp_hide2 fun Rz hRz Sz hSz => ?_
      repeat' (first | (k_unfold; (try dsimp only)) | ((with_reducible show wpAny _ _ (call (Value.ref 42) _) _ _ _); refine parse_ok w mean mg mb vs tape _ x i I' tp _ hI hx0 hx1 hT' hn2 _ _ _ _ _ _ _ _ _ _ _ _ _ _ _ _ _ (by k_asm) (by k_asm) (by k_asm) (by k_asm) (by first | rfl | assumption) (by ktr_room) (by ktr_units) (by k_asm) (by is_list) ?_; intro t9 h9 tk9 j hj F9 N9) | ((with_reducible show wpAny _ _ (call (Value.builtin "list.pop") _) _ _ _); k_dflt (refine' pop_last ?F ?N ?U ?z ?_; (case F => k_asm); (case N => k_asm); (case U => k_upd); (case z => (rw [PySem.sizeLine_eq]; omega))); intro h' F' N'; (try k_sweep)) | ((with_reducible show wpAny _ _ (subscriptTail _ _ _ (Value.int (-1) _)) _ _ _); k_dflt (refine' item_last ?l ?z ?_; (case l => exact News.isList (by k_asm) (by k_mem)); (case z => omega))) | ((with_reducible show wpAny _ _ (call (Value.ref 35) _) _ _ _); refine iseof_spec w mean mg mb _ _ _ _ _ _ _ _ _ _ _ _ _ _ _ _ _ _ _ (by k_asm) (by k_asm) (by k_asm) (by k_asm) (by first | rfl | assumption) (by ktr_room) (by ktr_units) trivial ?_; intro v9 h9 tk9 st9 hp9; (rename News _ _ _ _ => N8); (rename Fr _ _ _ _ => F8); (have F9 := frStays F8 st9); (have N9 := newsStays N8 st9); (subst hp9); (clear F8 N8); (try dsimp only)) | ((with_reducible show wpAny _ _ (call (Value.ref 28) _) _ _ _); refine isnon_spec w mean mg mb _ _ _ _ _ _ _ _ _ _ _ _ _ _ _ _ _ _ _ (by k_asm) (by k_asm) (by k_asm) (by k_asm) (by first | rfl | assumption) (by ktr_room) (by ktr_units) trivial ?_; intro v9 h9 tk9 st9 hp9; (rename News _ _ _ _ => N8); (rename Fr _ _ _ _ => F8); (have F9 := frStays F8 st9); (have N9 := newsStays N8 st9); (subst hp9); (clear F8 N8); (try dsimp only)) | ((with_reducible show wpAny _ _ (call (Value.ref 21) _) _ _ _); refine ister_spec w mean mg mb _ _ _ _ _ _ _ _ _ _ _ _ _ _ _ _ _ _ _ (by k_asm) (by k_asm) (by k_asm) (by k_asm) (by first | rfl | assumption) (by ktr_room) (by ktr_units) trivial ?_; intro v9 h9 tk9 st9 hp9; (rename News _ _ _ _ => N8); (rename Fr _ _ _ _ => F8); (have F9 := frStays F8 st9); (have N9 := newsStays N8 st9); (subst hp9); (clear F8 N8); (try dsimp only)) | ((with_reducible show wpAny _ _ (setItem _ (Value.int _ _) _) _ _ _); k_dflt (refine' setItem_K PyProof.V.same_int (intKind_is _ _ _ _) ?v ?F ?N ?U ?d ?f ?_ ?z; (case F => k_asm); (case N => k_asm); (case U => k_updF); (case d => k_asm); (case f => k_asm); (case z => (rw [PySem.sizeLine_eq]; omega)); (case v => k_flat)); intro h' o' F' N' hd' hf'; (try dsimp only at N'); (try k_sweep)) | ((fail_if_success (with_reducible show WhlRest _ _ _ _ _ _ _ _ _ _ _)); walk1) | (dsimp only; first | ((fail_if_success (with_reducible show WhlRest _ _ _ _ _ _ _ _ _ _ _)); walk1) | (k_unfold; (try dsimp only))) | (leave1; walk_say "STEP leave1"; try dsimp only) | fail "no step")
      refine hRz _ _ ?_
      repeat' (first | (k_unfold; (try dsimp only)) | ((fail_if_success (with_reducible show WhlRest _ _ _ _ _ _ _ _ _ _ _)); walk1) | (dsimp only; first | ((fail_if_success (with_reducible show WhlRest _ _ _ _ _ _ _ _ _ _ _)); walk1) | (k_unfold; (try dsimp only))) | (leave1; walk_say "STEP leave1"; try dsimp only) | fail "no step")
      rename News _ _ _ _ => N1
      rename Fr _ _ _ _ => F1
      exact IH r.length _ _ (by simp) ⟨r, j, _, us, pile, _, _, _, _, _, _, rfl, rfl, hj, hR, by simpa using hok2, by omega, by omega, fun y hy => hW y (by simp [hy]), hS', hi1, fi1, N1, (frIf (x := Str.ofString "iterator") (v := .ref I') (frIf (x := Str.ofString "words") (v := .ref d1) (frIf (x := Str.ofString "pile") (v := .ref p1) F1 rfl) rfl) rfl)⟩
    · by_cases c1 : 256 ≤ x
      · rw [wordsRun, if_neg c0, if_pos c1, hg] at hR
        rw [if_neg c0, if_pos c1] at hok2
        have hp5 := fmod5 (x - 255)
        have hwl := newWord_len (letters := "ABCD") (.inl rfl) htl hp5.1 hp5.2
        by_cases c2 : 0 < (x - 255).fmod 5
        · rw [newWord_pos c2] at hR hwl
          k_dflt (refine' whl_turn ?hE ?_; (case hE => first | passes_own | with_unfolding_all passes_own))
          repeat' (first | (k_unfold; (try dsimp only)) | ((fail_if_success (with_reducible show wpAny _ _ (execs _ _) _ _ _)); walk1) | (dsimp only; first | ((fail_if_success (with_reducible show wpAny _ _ (execs _ _) _ _ _)); walk1) | (k_unfold; (try dsimp only))) | (leave1; walk_say "STEP leave1"; try dsimp only) | fail "no step")
          refine wp_hide2 fun Rz hRz Sz hSz => ?_
          repeat' (first | (k_unfold; (try dsimp only)) | ((with_reducible show wpAny _ _ (call (Value.ref 42) _) _ _ _); refine parse_ok w mean mg mb vs tape _ x i I' tp _ hI hx0 hx1 hT' hn2 _ _ _ _ _ _ _ _ _ _ _ _ _ _ _ _ _ (by k_asm) (by k_asm) (by k_asm) (by k_asm) (by first | rfl | assumption) (by ktr_room) (by ktr_units) (by k_asm) (by is_list) ?_; intro t9 h9 tk9 j hj F9 N9) | ((with_reducible show wpAny _ _ (call (Value.builtin "list.pop") _) _ _ _); k_dflt (refine' pop_last ?F ?N ?U ?z ?_; (case F => k_asm); (case N => k_asm); (case U => k_upd); (case z => (rw [PySem.sizeLine_eq]; omega))); intro h' F' N'; (try k_sweep)) | ((with_reducible show wpAny _ _ (subscriptTail _ _ _ (Value.int (-1) _)) _ _ _); k_dflt (refine' item_last ?l ?z ?_; (case l => exact News.isList (by k_asm) (by k_mem)); (case z => omega))) | ((with_reducible show wpAny _ _ (call (Value.ref 35) _) _ _ _); refine iseof_spec w mean mg mb _ _ _ _ _ _ _ _ _ _ _ _ _ _ _ _ _ _ _ (by k_asm) (by k_asm) (by k_asm) (by k_asm) (by first | rfl | assumption) (by ktr_room) (by ktr_units) trivial ?_; intro v9 h9 tk9 st9 hp9; (rename News _ _ _ _ => N8); (rename Fr _ _ _ _ => F8); (have F9 := frStays F8 st9); (have N9 := newsStays N8 st9); (subst hp9); (clear F8 N8); (try dsimp only)) | ((with_reducible show wpAny _ _ (call (Value.ref 28) _) _ _ _); refine isnon_spec w mean mg mb _ _ _ _ _ _ _ _ _ _ _ _ _ _ _ _ _ _ _ (by k_asm) (by k_asm) (by k_asm) (by k_asm) (by first | rfl | assumption) (by ktr_room) (by ktr_units) trivial ?_; intro v9 h9 tk9 st9 hp9; (rename News _ _ _ _ => N8); (rename Fr _ _ _ _ => F8); (have F9 := frStays F8 st9); (have N9 := newsStays N8 st9); (subst hp9); (clear F8 N8); (try dsimp only)) | ((with_reducible show wpAny _ _ (call (Value.ref 21) _) _ _ _); refine ister_spec w mean mg mb _ _ _ _ _ _ _ _ _ _ _ _ _ _ _ _ _ _ _ (by k_asm) (by k_asm) (by k_asm) (by k_asm) (by first | rfl | assumption) (by ktr_room) (by ktr_units) trivial ?_; intro v9 h9 tk9 st9 hp9; (rename News _ _ _ _ => N8); (rename Fr _ _ _ _ => F8); (have F9 := frStays F8 st9); (have N9 := newsStays N8 st9); (subst hp9); (clear F8 N8); (try dsimp only)) | ((with_reducible show wpAny _ _ (setItem _ (Value.int _ _) _) _ _ _); k_dflt (refine' setItem_K PyProof.V.same_int (intKind_is _ _ _ _) ?v ?F ?N ?U ?d ?f ?_ ?z; (case F => k_asm); (case N => k_asm); (case U => k_updF); (case d => k_asm); (case f => k_asm); (case z => (rw [PySem.sizeLine_eq]; omega)); (case v => k_flat)); intro h' o' F' N' hd' hf'; (try dsimp only at N'); (try k_sweep)) | ((fail_if_success (with_reducible show WhlRest _ _ _ _ _ _ _ _ _ _ _)); walk1) | (dsimp only; first | ((fail_if_success (with_reducible show WhlRest _ _ _ _ _ _ _ _ _ _ _)); walk1) | (k_unfold; (try dsimp only))) | (leave1; walk_say "STEP leave1"; try dsimp only) | fail "no step")
          refine hRz _ _ ?_
          repeat' (first | (k_unfold; (try dsimp only)) | ((fail_if_success (with_reducible show WhlRest _ _ _ _ _ _ _ _ _ _ _)); walk1) | (dsimp only; first | ((fail_if_success (with_reducible show WhlRest _ _ _ _ _ _ _ _ _ _ _)); walk1) | (k_unfold; (try dsimp only))) | (leave1; walk_say "STEP leave1"; try dsimp only) | fail "no step")
          rename News _ _ _ _ => N1
          rename Fr _ _ _ _ => F1
          simp only [List.push_toArray] at N1
          exact IH r.length _ _ (by simp) ⟨r, j, _, _, _, _, _, _, _, _, _, rfl, rfl, hj, hR, by simpa using hok2, (by refine Nat.le_trans (Nat.add_le_add_right (PyProof.V.putD_length_le _ _ _) _) ?_; omega), by simp; omega, by intro y hy; rcases List.mem_append.mp hy with hy | hy; exact hW y hy; rw [List.mem_singleton.mp hy]; exact hwl, hS.snoc _ _, hd', hf', N1, (frIf (x := Str.ofString "iterator") (v := .ref I') (frIf (x := Str.ofString "words") (v := .ref d1) (frIf (x := Str.ofString "pile") (v := .ref p1) F1 rfl) rfl) rfl)⟩
        · rw [newWord_zero c2] at hR hwl
          k_dflt (refine' whl_turn ?hE ?_; (case hE => first | passes_own | with_unfolding_all passes_own))
          repeat' (first | (k_unfold; (try dsimp only)) | ((fail_if_success (with_reducible show wpAny _ _ (execs _ _) _ _ _)); walk1) | (dsimp only; first | ((fail_if_success (with_reducible show wpAny _ _ (execs _ _) _ _ _)); walk1) | (k_unfold; (try dsimp only))) | (leave1; walk_say "STEP leave1"; try dsimp only) | fail "no step")
          refine wp_hide2 fun Rz hRz Sz hSz => ?_
          repeat' (first | (k_unfold; (try dsimp only)) | ((with_reducible show wpAny _ _ (call (Value.ref 42) _) _ _ _); refine parse_ok w mean mg mb vs tape _ x i I' tp _ hI hx0 hx1 hT' hn2 _ _ _ _ _ _ _ _ _ _ _ _ _ _ _ _ _ (by k_asm) (by k_asm) (by k_asm) (by k_asm) (by first | rfl | assumption) (by ktr_room) (by ktr_units) (by k_asm) (by is_list) ?_; intro t9 h9 tk9 j hj F9 N9) | ((with_reducible show wpAny _ _ (call (Value.builtin "list.pop") _) _ _ _); k_dflt (refine' pop_last ?F ?N ?U ?z ?_; (case F => k_asm); (case N => k_asm); (case U => k_upd); (case z => (rw [PySem.sizeLine_eq]; omega))); intro h' F' N'; (try k_sweep)) | ((with_reducible show wpAny _ _ (subscriptTail _ _ _ (Value.int (-1) _)) _ _ _); k_dflt (refine' item_last ?l ?z ?_; (case l => exact News.isList (by k_asm) (by k_mem)); (case z => omega))) | ((with_reducible show wpAny _ _ (call (Value.ref 35) _) _ _ _); refine iseof_spec w mean mg mb _ _ _ _ _ _ _ _ _ _ _ _ _ _ _ _ _ _ _ (by k_asm) (by k_asm) (by k_asm) (by k_asm) (by first | rfl | assumption) (by ktr_room) (by ktr_units) trivial ?_; intro v9 h9 tk9 st9 hp9; (rename News _ _ _ _ => N8); (rename Fr _ _ _ _ => F8); (have F9 := frStays F8 st9); (have N9 := newsStays N8 st9); (subst hp9); (clear F8 N8); (try dsimp only)) | ((with_reducible show wpAny _ _ (call (Value.ref 28) _) _ _ _); refine isnon_spec w mean mg mb _ _ _ _ _ _ _ _ _ _ _ _ _ _ _ _ _ _ _ (by k_asm) (by k_asm) (by k_asm) (by k_asm) (by first | rfl | assumption) (by ktr_room) (by ktr_units) trivial ?_; intro v9 h9 tk9 st9 hp9; (rename News _ _ _ _ => N8); (rename Fr _ _ _ _ => F8); (have F9 := frStays F8 st9); (have N9 := newsStays N8 st9); (subst hp9); (clear F8 N8); (try dsimp only)) | ((with_reducible show wpAny _ _ (call (Value.ref 21) _) _ _ _); refine ister_spec w mean mg mb _ _ _ _ _ _ _ _ _ _ _ _ _ _ _ _ _ _ _ (by k_asm) (by k_asm) (by k_asm) (by k_asm) (by first | rfl | assumption) (by ktr_room) (by ktr_units) trivial ?_; intro v9 h9 tk9 st9 hp9; (rename News _ _ _ _ => N8); (rename Fr _ _ _ _ => F8); (have F9 := frStays F8 st9); (have N9 := newsStays N8 st9); (subst hp9); (clear F8 N8); (try dsimp only)) | ((with_reducible show wpAny _ _ (setItem _ (Value.int _ _) _) _ _ _); k_dflt (refine' setItem_K PyProof.V.same_int (intKind_is _ _ _ _) ?v ?F ?N ?U ?d ?f ?_ ?z; (case F => k_asm); (case N => k_asm); (case U => k_updF); (case d => k_asm); (case f => k_asm); (case z => (rw [PySem.sizeLine_eq]; omega)); (case v => k_flat)); intro h' o' F' N' hd' hf'; (try dsimp only at N'); (try k_sweep)) | ((fail_if_success (with_reducible show WhlRest _ _ _ _ _ _ _ _ _ _ _)); walk1) | (dsimp only; first | ((fail_if_success (with_reducible show WhlRest _ _ _ _ _ _ _ _ _ _ _)); walk1) | (k_unfold; (try dsimp only))) | (leave1; walk_say "STEP leave1"; try dsimp only) | fail "no step")
          refine hRz _ _ ?_
          repeat' (first | (k_unfold; (try dsimp only)) | ((fail_if_success (with_reducible show WhlRest _ _ _ _ _ _ _ _ _ _ _)); walk1) | (dsimp only; first | ((fail_if_success (with_reducible show WhlRest _ _ _ _ _ _ _ _ _ _ _)); walk1) | (k_unfold; (try dsimp only))) | (leave1; walk_say "STEP leave1"; try dsimp only) | fail "no step")
          rename News _ _ _ _ => N1
          rename Fr _ _ _ _ => F1
          simp only [List.push_toArray] at N1
          exact IH r.length _ _ (by simp) ⟨r, j, _, _, _, _, _, _, _, _, _, rfl, rfl, hj, hR, by simpa using hok2, (by refine Nat.le_trans (Nat.add_le_add_right (PyProof.V.putD_length_le _ _ _) _) ?_; omega), by simp; omega, by intro y hy; rcases List.mem_append.mp hy with hy | hy; exact hW y hy; rw [List.mem_singleton.mp hy]; exact hwl, hS.snoc _ _, hd', hf', N1, (frIf (x := Str.ofString "iterator") (v := .ref I') (frIf (x := Str.ofString "words") (v := .ref d1) (frIf (x := Str.ofString "pile") (v := .ref p1) F1 rfl) rfl) rfl)⟩
      · rw [wordsRun, if_neg c0, if_neg c1, hg] at hR
        rw [if_neg c0, if_neg c1] at hok2
        have hp5 := fmod5 (256 - x)
        by_cases c2 : 0 < (256 - x).fmod 5
        · rw [newWord_pos c2] at hR
          k_dflt (refine' whl_turn ?hE ?_; (case hE => first | passes_own | with_unfolding_all passes_own))
          repeat' (first | (k_unfold; (try dsimp only)) | ((fail_if_success (with_reducible show wpAny _ _ (execs _ _) _ _ _)); walk1) | (dsimp only; first | ((fail_if_success (with_reducible show wpAny _ _ (execs _ _) _ _ _)); walk1) | (k_unfold; (try dsimp only))) | (leave1; walk_say "STEP leave1"; try dsimp only) | fail "no step")
          refine wp_hide2 fun Rz hRz Sz hSz => ?_
          repeat' (first | (k_unfold; (try dsimp only)) | ((with_reducible show wpAny _ _ (call (Value.ref 42) _) _ _ _); refine parse_ok w mean mg mb vs tape _ x i I' tp _ hI hx0 hx1 hT' hn2 _ _ _ _ _ _ _ _ _ _ _ _ _ _ _ _ _ (by k_asm) (by k_asm) (by k_asm) (by k_asm) (by first | rfl | assumption) (by ktr_room) (by ktr_units) (by k_asm) (by is_list) ?_; intro t9 h9 tk9 j hj F9 N9) | ((with_reducible show wpAny _ _ (call (Value.builtin "list.pop") _) _ _ _); k_dflt (refine' pop_last ?F ?N ?U ?z ?_; (case F => k_asm); (case N => k_asm); (case U => k_upd); (case z => (rw [PySem.sizeLine_eq]; omega))); intro h' F' N'; (try k_sweep)) | ((with_reducible show wpAny _ _ (subscriptTail _ _ _ (Value.int (-1) _)) _ _ _); k_dflt (refine' item_last ?l ?z ?_; (case l => exact News.isList (by k_asm) (by k_mem)); (case z => omega))) | ((with_reducible show wpAny _ _ (call (Value.ref 35) _) _ _ _); refine iseof_spec w mean mg mb _ _ _ _ _ _ _ _ _ _ _ _ _ _ _ _ _ _ _ (by k_asm) (by k_asm) (by k_asm) (by k_asm) (by first | rfl | assumption) (by ktr_room) (by ktr_units) trivial ?_; intro v9 h9 tk9 st9 hp9; (rename News _ _ _ _ => N8); (rename Fr _ _ _ _ => F8); (have F9 := frStays F8 st9); (have N9 := newsStays N8 st9); (subst hp9); (clear F8 N8); (try dsimp only)) | ((with_reducible show wpAny _ _ (call (Value.ref 28) _) _ _ _); refine isnon_spec w mean mg mb _ _ _ _ _ _ _ _ _ _ _ _ _ _ _ _ _ _ _ (by k_asm) (by k_asm) (by k_asm) (by k_asm) (by first | rfl | assumption) (by ktr_room) (by ktr_units) trivial ?_; intro v9 h9 tk9 st9 hp9; (rename News _ _ _ _ => N8); (rename Fr _ _ _ _ => F8); (have F9 := frStays F8 st9); (have N9 := newsStays N8 st9); (subst hp9); (clear F8 N8); (try dsimp only)) | ((with_reducible show wpAny _ _ (call (Value.ref 21) _) _ _ _); refine ister_spec w mean mg mb _ _ _ _ _ _ _ _ _ _ _ _ _ _ _ _ _ _ _ (by k_asm) (by k_asm) (by k_asm) (by k_asm) (by first | rfl | assumption) (by ktr_room) (by ktr_units) trivial ?_; intro v9 h9 tk9 st9 hp9; (rename News _ _ _ _ => N8); (rename Fr _ _ _ _ => F8); (have F9 := frStays F8 st9); (have N9 := newsStays N8 st9); (subst hp9); (clear F8 N8); (try dsimp only)) | ((with_reducible show wpAny _ _ (setItem _ (Value.int _ _) _) _ _ _); k_dflt (refine' setItem_K PyProof.V.same_int (intKind_is _ _ _ _) ?v ?F ?N ?U ?d ?f ?_ ?z; (case F => k_asm); (case N => k_asm); (case U => k_updF); (case d => k_asm); (case f => k_asm); (case z => (rw [PySem.sizeLine_eq]; omega)); (case v => k_flat)); intro h' o' F' N' hd' hf'; (try dsimp only at N'); (try k_sweep)) | ((fail_if_success (with_reducible show WhlRest _ _ _ _ _ _ _ _ _ _ _)); walk1) | (dsimp only; first | ((fail_if_success (with_reducible show WhlRest _ _ _ _ _ _ _ _ _ _ _)); walk1) | (k_unfold; (try dsimp only))) | (leave1; walk_say "STEP leave1"; try dsimp only) | fail "no step")
          refine hRz _ _ ?_
          repeat' (first | (k_unfold; (try dsimp only)) | ((fail_if_success (with_reducible show WhlRest _ _ _ _ _ _ _ _ _ _ _)); walk1) | (dsimp only; first | ((fail_if_success (with_reducible show WhlRest _ _ _ _ _ _ _ _ _ _ _)); walk1) | (k_unfold; (try dsimp only))) | (leave1; walk_say "STEP leave1"; try dsimp only) | fail "no step")
          rename News _ _ _ _ => N1
          rename Fr _ _ _ _ => F1
          exact IH r.length _ _ (by simp) ⟨r, j, _, _, _, _, _, _, _, _, _, rfl, rfl, hj, hR, by simpa using hok2, (by refine Nat.le_trans (Nat.add_le_add_right (PyProof.V.putD_length_le _ _ _) _) ?_; omega), by simp; omega, hW, hS, hd', hf', N1, (frIf (x := Str.ofString "iterator") (v := .ref I') (frIf (x := Str.ofString "words") (v := .ref d1) (frIf (x := Str.ofString "pile") (v := .ref p1) F1 rfl) rfl) rfl)⟩
        · rw [newWord_zero c2] at hR
          k_dflt (refine' whl_turn ?hE ?_; (case hE => first | passes_own | with_unfolding_all passes_own))
          repeat' (first | (k_unfold; (try dsimp only)) | ((fail_if_success (with_reducible show wpAny _ _ (execs _ _) _ _ _)); walk1) | (dsimp only; first | ((fail_if_success (with_reducible show wpAny _ _ (execs _ _) _ _ _)); walk1) | (k_unfold; (try dsimp only))) | (leave1; walk_say "STEP leave1"; try dsimp only) | fail "no step")
          refine wp_hide2 fun Rz hRz Sz hSz => ?_
          repeat' (first | (k_unfold; (try dsimp only)) | ((with_reducible show wpAny _ _ (call (Value.ref 42) _) _ _ _); refine parse_ok w mean mg mb vs tape _ x i I' tp _ hI hx0 hx1 hT' hn2 _ _ _ _ _ _ _ _ _ _ _ _ _ _ _ _ _ (by k_asm) (by k_asm) (by k_asm) (by k_asm) (by first | rfl | assumption) (by ktr_room) (by ktr_units) (by k_asm) (by is_list) ?_; intro t9 h9 tk9 j hj F9 N9) | ((with_reducible show wpAny _ _ (call (Value.builtin "list.pop") _) _ _ _); k_dflt (refine' pop_last ?F ?N ?U ?z ?_; (case F => k_asm); (case N => k_asm); (case U => k_upd); (case z => (rw [PySem.sizeLine_eq]; omega))); intro h' F' N'; (try k_sweep)) | ((with_reducible show wpAny _ _ (subscriptTail _ _ _ (Value.int (-1) _)) _ _ _); k_dflt (refine' item_last ?l ?z ?_; (case l => exact News.isList (by k_asm) (by k_mem)); (case z => omega))) | ((with_reducible show wpAny _ _ (call (Value.ref 35) _) _ _ _); refine iseof_spec w mean mg mb _ _ _ _ _ _ _ _ _ _ _ _ _ _ _ _ _ _ _ (by k_asm) (by k_asm) (by k_asm) (by k_asm) (by first | rfl | assumption) (by ktr_room) (by ktr_units) trivial ?_; intro v9 h9 tk9 st9 hp9; (rename News _ _ _ _ => N8); (rename Fr _ _ _ _ => F8); (have F9 := frStays F8 st9); (have N9 := newsStays N8 st9); (subst hp9); (clear F8 N8); (try dsimp only)) | ((with_reducible show wpAny _ _ (call (Value.ref 28) _) _ _ _); refine isnon_spec w mean mg mb _ _ _ _ _ _ _ _ _ _ _ _ _ _ _ _ _ _ _ (by k_asm) (by k_asm) (by k_asm) (by k_asm) (by first | rfl | assumption) (by ktr_room) (by ktr_units) trivial ?_; intro v9 h9 tk9 st9 hp9; (rename News _ _ _ _ => N8); (rename Fr _ _ _ _ => F8); (have F9 := frStays F8 st9); (have N9 := newsStays N8 st9); (subst hp9); (clear F8 N8); (try dsimp only)) | ((with_reducible show wpAny _ _ (call (Value.ref 21) _) _ _ _); refine ister_spec w mean mg mb _ _ _ _ _ _ _ _ _ _ _ _ _ _ _ _ _ _ _ (by k_asm) (by k_asm) (by k_asm) (by k_asm) (by first | rfl | assumption) (by ktr_room) (by ktr_units) trivial ?_; intro v9 h9 tk9 st9 hp9; (rename News _ _ _ _ => N8); (rename Fr _ _ _ _ => F8); (have F9 := frStays F8 st9); (have N9 := newsStays N8 st9); (subst hp9); (clear F8 N8); (try dsimp only)) | ((with_reducible show wpAny _ _ (setItem _ (Value.int _ _) _) _ _ _); k_dflt (refine' setItem_K PyProof.V.same_int (intKind_is _ _ _ _) ?v ?F ?N ?U ?d ?f ?_ ?z; (case F => k_asm); (case N => k_asm); (case U => k_updF); (case d => k_asm); (case f => k_asm); (case z => (rw [PySem.sizeLine_eq]; omega)); (case v => k_flat)); intro h' o' F' N' hd' hf'; (try dsimp only at N'); (try k_sweep)) | ((fail_if_success (with_reducible show WhlRest _ _ _ _ _ _ _ _ _ _ _)); walk1) | (dsimp only; first | ((fail_if_success (with_reducible show WhlRest _ _ _ _ _ _ _ _ _ _ _)); walk1) | (k_unfold; (try dsimp only))) | (leave1; walk_say "STEP leave1"; try dsimp only) | fail "no step")
          refine hRz _ _ ?_
          repeat' (first | (k_unfold; (try dsimp only)) | ((fail_if_success (with_reducible show WhlRest _ _ _ _ _ _ _ _ _ _ _)); walk1) | (dsimp only; first | ((fail_if_success (with_reducible show WhlRest _ _ _ _ _ _ _ _ _ _ _)); walk1) | (k_unfold; (try dsimp only))) | (leave1; walk_say "STEP leave1"; try dsimp only) | fail "no step")
          rename News _ _ _ _ => N1
          rename Fr _ _ _ _ => F1
          exact IH r.length _ _ (by simp) ⟨r, j, _, _, _, _, _, _, _, _, _, rfl, rfl, hj, hR, by simpa using hok2, (by refine Nat.le_trans (Nat.add_le_add_right (PyProof.V.putD_length_le _ _ _) _) ?_; omega), by simp; omega, hW, hS, hd', hf', N1, (frIf (x := Str.ofString "iterator") (v := .ref I') (frIf (x := Str.ofString "words") (v := .ref d1) (frIf (x := Str.ofString "pile") (v := .ref p1) F1 rfl) rfl) rfl)⟩
end Mine

-- F0
open PySem PySem.W PyProof.Rows PySem.Calls
set_option Elab.async false
set_option maxRecDepth 100000
set_option maxHeartbeats 8000000
namespace Mine
theorem newsMore {g h h' : Heap} {L a : Addr} {m : Str → Option Value} {news : List (Addr × Obj)} {o : Obj} (F : Fr g L h m) (N : News g L h news) (st : h.StaysIn h') (hn : h.get? a = none) (ho : h'.get? a = some o) : News g L h' ((a, o) :: news) := by
  intro p hp
  rcases List.mem_cons.mp hp with rfl | hp
  · refine ⟨ho, fun e => ?_, ?_⟩
    · obtain ⟨oL, _, _, hL, _⟩ := F.ns
      subst e
      rw [hn] at hL; cases hL
    · cases q : g.get? a with
      | none => rfl
      | some oo => have := F.keep _ _ q; rw [hn] at this; cases this
  · exact newsStays N st p hp
theorem listObj {h : Heap} {a : Addr} {vs : Array Value} {k : Nat} (e : h.get? a = some { cls := .type "list", data := .seq vs k }) : h.IsList a vs := ⟨_, e, rfl, _, rfl⟩
section
variable {prog : Program} {w : World} {A : Around} {E : Value → Shared → Prop} {s : Shared} {h₀ : Heap} {L D b : Addr} {m : Str → Option Value} {news : List (Addr × Obj)} {g : Obj → List (Addr × Obj)} {n n2 : Nat} {its its2 : Array Value}
theorem ext_any {Q : Value → Shared → Prop} (F : Fr h₀ L s.heap m) (N : News h₀ L s.heap news) (hb : s.heap.get? b = some (W.listOf its2 n2)) (U : UpdF D (W.listOf its n) news g) (hz : its.size + its2.size ≤ 100000)
    (h : ∀ h' n', Fr h₀ L h' m → News h₀ L h' (g (W.listOf (its ++ its2) n')) → Q .none { s with heap := h' }) : wpAny (model prog w) A (call (.builtin "list.extend") [.ref D, .ref b]) Q E s := by
  obtain ⟨pre, post, rfl, hg, a, c⟩ := U.split
  have z := N (D, W.listOf its n) (List.mem_append.mpr (.inr (.head _)))
  have q := PySem.IsL.update z.1 (fun x => x ++ its2)
  have hz1 : its.size ≤ sizeLine := by rw [PySem.sizeLine_eq]; omega
  have hz2 : its.size + its2.size ≤ sizeLine + 1 := by rw [PySem.sizeLine_eq]; omega
  have hl : ¬(!its.isEmpty && Builtin.List.listTooLong (its.size + its2.size)) = true := by
    intro e
    have := (Bool.and_eq_true_iff.mp e).2
    simp only [Builtin.List.listTooLong, decide_eq_true_eq] at this
    have hs := PySem.sizeLine_eq
    omega
  exact call_meets PySem.F.slot_list_extend ⟨_, z.1, rfl⟩ PySem.F.entry_list_extend (PySem.F.args_list_extend_2 _ _) (PySem.AutoSeq1.list_extend_list_list_0 D its n b its2 n2 hl hz1 hz2) ⟨z.1, hb, h _ _ (F.change (Heap.SameBut.update ..) z.2.1 z.2.2) (hg _ ▸ N.setIn a c (Heap.SameBut.update ..) q)⟩
theorem item_at {value slice : PySem.Expr} {l : Addr} {items : Array Value} {k : Int} {u : Tok} {v : Value} {Q : Value → Shared → Prop} (hl : s.heap.IsList l items) (h0 : 0 ≤ k) (h1 : k < 1000000) (hx : items[k.toNat]? = some v) (h : Q v s)
    (hs : subscripted slice false (.ref l) (.int k u) = operate [.ref l, .int k u] (getItem (.ref l) (.int k u)) := by with_unfolding_all rfl) :
    wpAny (model prog w) A (subscriptTail value slice (.ref l) (.int k u)) Q E s :=
  tail_any hl.typeIs slot_list_getitem.lookup (wpAny_getItem_list hl h0 (by omega) hx h) hs
end
theorem intsGet {vs : List Value} {ns : List Int} (h : IntsAre vs ns) {i : Nat} (hi : i < ns.length) : ∃ t, vs.toArray[i]? = some (.int (ns.getD i 0) t) := by
  have hl := h.length
  have : vs[i]? = some (vs[i]'(by omega)) := List.getElem?_eq_getElem (by omega)
  obtain ⟨t, e⟩ := h.int_at i _ this
  exact ⟨t, by rw [List.getElem?_toArray, this, e]⟩
end Mine

-- F1
open PySem PySem.W PyProof.Rows PySem.Calls
set_option Elab.async false
set_option maxRecDepth 100000
set_option maxHeartbeats 8000000
namespace Mine
noncomputable def num2 (x d : Int) : Int := 255 - (x - 1) - (d.fdiv 8).fmod 51 * 5
noncomputable def num1 (x d : Int) : Int := 256 + (x - 1).fmod 5 + d.fdiv 8 * 5
noncomputable def tapeRun (ds ws : List Int) (ks : List (List Int)) : Nat → List Int → List Int
  | 0, _ => []
  | f + 1, W => match W.getLast? with
    | none => []
    | some x => if x < 0 then 0 :: tapeRun ds ws ks f W.dropLast
      else if ws.getD x.toNat 0 = 2 then num2 x (ds.getD x.toNat 0) :: tapeRun ds ws ks f W.dropLast
      else num1 x (ds.getD x.toNat 0) :: tapeRun ds ws ks f (W.dropLast ++ [-1] ++ ks.getD x.toNat [])
def tapeOk (ds ws : List Int) (ks : List (List Int)) : Nat → List Int → Prop
  | 0, W => W = []
  | f + 1, W => match W.getLast? with
    | none => True
    | some x => W.length ≤ 100 ∧ (if x < 0 then tapeOk ds ws ks f W.dropLast
      else x < 5 ∧ (if ws.getD x.toNat 0 = 2 then 0 ≤ num2 x (ds.getD x.toNat 0) ∧ num2 x (ds.getD x.toNat 0) < 16777216 ∧ tapeOk ds ws ks f W.dropLast
        else 0 ≤ num1 x (ds.getD x.toNat 0) ∧ num1 x (ds.getD x.toNat 0) < 16777216 ∧ (ks.getD x.toNat []).length ≤ 100 ∧ tapeOk ds ws ks f (W.dropLast ++ [-1] ++ ks.getD x.toNat [])))
theorem newsTail {g h : Heap} {L : Addr} {p : Addr × Obj} {r : List (Addr × Obj)} (N : News g L h (p :: r)) : News g L h r := fun q hq => N q (.tail _ hq)
theorem intsLast {vs : List Value} {xs : List Int} {x : Int} (h : IntsAre vs (xs ++ [x])) : ∃ us t, vs = us ++ [.int x t] ∧ IntsAre us xs := by
  induction xs generalizing vs with
  | nil => cases h with | cons _ t r => cases r; exact ⟨[], t, rfl, .nil⟩
  | cons y ys ih => cases h with
    | cons _ t r =>
      obtain ⟨us, t', e, h'⟩ := ih r
      exact ⟨.int y t :: us, t', by rw [e]; rfl, .cons y t h'⟩
theorem octs_len (n : Int) : (octs n).length ≤ 4 := by
  simp only [octs, octRest, List.length_reverse, List.length_cons]
  split <;> (try split) <;> (try split) <;> simp
set_option pp.deepTerms false in
theorem tape_spec (w : World) (mean : ExcName → Option Value) (mg mb : Str → Option Value) (dr kd wt : Addr) (dvs wvs : List Value) (ds ws : List Int) (kas : List Addr) (ks : List (List Int)) (f : Nat) (hdl : ds.length = 5) (hwl : ws.length = 5) (hal : kas.length = 5) (hkl : ks.length = 5) (hD : IntsAre dvs ds) (hWt : IntsAre wvs ws)
   (hok : tapeOk ds ws ks f [0]) (hf : f ≤ 100) :
   Told1 4 w mean mg mb 75 [.ref dr, .ref kd, .ref wt] (fun h => h.IsList dr dvs.toArray ∧ h.IsList wt wvs.toArray ∧ h.IsList kd (kas.map Value.ref).toArray ∧ ∀ i, i < 5 → IntsAt h (kas.getD i 0) (ks.getD i []))
     (fun h v h' => ∃ a, v = .ref a ∧ h.get? a = none ∧ IntsAt h' a ((tapeRun ds ws ks f [0]).flatMap octs)) := by
  unfold Told1
  w_top off
  k_with_none
  k_fill
  intro dp un gd cn cs a0 ccd cl outer A₀ base h₀ L m s Q E B F X T hcs hdp hun hpre hret
  obtain ⟨hP1, hP2, hP3, hP4⟩ := hpre
  refine wpAny_call ?_
  k_dflt (refine' enterS (binds := [(Str.ofString "drawn", .ref dr), (Str.ofString "kids", .ref kd), (Str.ofString "weights", .ref wt)]) ?k1 ?k2 ?k3 ?k5 ?kA ?kF ?kK ?k6 ?k7 ?k8 ?k9 ?kB ?_ ?c2 ?c3 ?c4 ?c5; (case kA => exact rfl); (case kF => exact rfl); (case kK => assumption); (case k1 => k_asm); (case k2 => k_asm); (case k3 => k_asm); (case k5 => k_asm); (case k6 => k_is); (case k7 => k_is); (case k8 => ktr_room); (case k9 => exact BindsTo.of_eq rfl); (case c5 => decide); (case kB => exact locs rfl); (case c2 => exact rfl); (case c3 => exact rfl); (case c4 => exact rfl); k_whole; intro L' h' hL' F' N' B' X' T'; (try dsimp only); (try k_fold))
  clear B F X T
  repeat' (first | (k_unfold; (try dsimp only)) | ((fail_if_success (with_reducible show wpAny _ _ (exec (Stmt.While _ _ _ _) _) _ _ _)); walk1) | (dsimp only; first | ((fail_if_success (with_reducible show wpAny _ _ (exec (Stmt.While _ _ _ _) _) _ _ _)); walk1) | (k_unfold; (try dsimp only))) | (leave1; walk_say "STEP leave1"; try dsimp only) | fail "no step")
  rename News _ _ _ _ => N1
  rename Fr _ _ _ _ => F1
  rename_i _ ta _ _ _ tk0 wa _ lt h1
  refine whl_start 100 ?_
  refine whlInd (I := fun n s' => ∃ (W T : List Int) (wv tv : List Value) (nW nT : Nat) (u : Str → Option Value) (h : Heap) (tk : Nat),
    s' = { s with heap := h, toks := tk } ∧ tapeOk ds ws ks n W ∧ T ++ (tapeRun ds ws ks n W).flatMap octs = (tapeRun ds ws ks f [0]).flatMap octs ∧ T.length + 4 * n ≤ 1000 ∧ IntsAre wv W ∧ IntsAre tv T ∧
    News s.heap L' h [(wa, PySem.W.listOf wv.toArray nW), (ta, PySem.W.listOf tv.toArray nT)] ∧ Fr s.heap L' h (fun y => if y = Str.ofString "waiting" then some (Value.ref wa) else if y = Str.ofString "tape" then some (Value.ref ta) else if y = Str.ofString "drawn" then some (Value.ref dr) else if y = Str.ofString "kids" then some (Value.ref kd) else if y = Str.ofString "weights" then some (Value.ref wt) else u y)) ?_ f
    ⟨[0], [], _, [], _, _, _, h1, _, rfl, hok, rfl, by simp; omega, .cons _ _ .nil, .nil, N1, (frIf (x := Str.ofString "waiting") (v := .ref wa) (frIf (x := Str.ofString "tape") (v := .ref ta) (frIf (x := Str.ofString "drawn") (v := .ref dr) (frIf (x := Str.ofString "kids") (v := .ref kd) (frIf (x := Str.ofString "weights") (v := .ref wt) F1 rfl) rfl) rfl) rfl) rfl)⟩
  clear N1 F1
  rintro n s' IH hOB
  (refine ex_9 hOB fun W T wv tv nW nT u h tk hOBx => ?_; clear hOB; refine an_8 hOBx fun eOB0 hok' hrun hTl hWv hTv N1 F1 => ?_; clear hOBx; subst eOB0)
  k_dflt (refine' whl_turn ?hE ?_; (case hE => first | passes_own | with_unfolding_all passes_own))
  repeat' (first | (k_unfold; (try dsimp only)) | ((fail_if_success (with_reducible show WhlRest _ _ _ _ _ _ _ _ _ _ _)); (fail_if_success (with_reducible show WhlIf _ _ _)); walk1) | (dsimp only; first | ((fail_if_success (with_reducible show WhlRest _ _ _ _ _ _ _ _ _ _ _)); (fail_if_success (with_reducible show WhlIf _ _ _)); walk1) | (k_unfold; (try dsimp only))) | (leave1; walk_say "STEP leave1"; try dsimp only) | fail "no step")
  by_cases hW0 : W = []
  · refine WhlIf.no (by simp [hW0]) ?_
    have hfin : T = (tapeRun ds ws ks f [0]).flatMap octs := by
      rw [← hrun, hW0]
      cases n <;> simp [tapeRun]
    repeat' (first | (k_unfold; (try dsimp only)) | walk1 | (dsimp only; first | walk1 | (k_unfold; (try dsimp only))) | (leave1; walk_say "STEP leave1"; try dsimp only) | fail "no step")
    rename News _ _ _ _ => N1
    refine leaveK_ (by k_asm) (by k_asm) (fun _ _ st => ?_)
    exact hret _ _ _ st ⟨ta, rfl, N1.fresh (o := PySem.W.listOf tv.toArray nT) (by simp), ⟨tv, nT, N1.get (by simp), hfin ▸ hTv⟩⟩
  refine WhlIf.yes (by simp [hW0]) ?_
  refine wp_hide2 fun R hR S hS => ?_
  obtain ⟨W, x, rfl⟩ : ∃ p t, W = p ++ [t] := ⟨W.dropLast, W.getLast hW0, (List.dropLast_concat_getLast _).symm⟩
  cases n with
  | zero => exact absurd hok' (by simp [tapeOk])
  | succ g =>
  simp only [tapeOk, tapeRun, List.getLast?_append, List.getLast?_singleton, Option.some_or, List.dropLast_concat] at hok' hrun
  have hOB := intsLast hWv
  (refine ex_2 hOB fun us tt hOBx => ?_; clear hOB; refine an_2 hOBx fun eOB0 hUs => ?_; clear hOBx; subst eOB0)
  have hul := hUs.length
  simp only [List.length_append, List.length_cons, List.length_nil] at hok'
  obtain ⟨hWl, hok'⟩ := hok'
  have hvl := hTv.length
  by_cases c0 : x < 0
  · rw [if_pos c0] at hok' hrun
    repeat' (first | (k_unfold; (try dsimp only)) | ((with_reducible show wpAny _ _ (call (Value.builtin "list.pop") _) _ _ _); k_dflt (refine' pop_last ?F ?N ?U ?z ?_; (case F => k_asm); (case N => k_asm); (case U => k_upd); (case z => (rw [PySem.sizeLine_eq]; omega))); intro h' F' N'; (try k_sweep)) | ((with_reducible show wpAny _ _ (subscriptTail _ _ (Value.ref _) (Value.int x _)) _ _ _); k_dflt (refine' item_at ?l ?h0 ?h1 ?hx ?_; (case l => is_list); (case h0 => omega); (case h1 => omega); (case hx => assumption))) | ((with_reducible show wpAny _ _ (call (Value.builtin "list.extend") _) _ _ _); k_dflt (refine' ext_any ?F ?N ?b ?U ?z ?_; (case F => k_asm); (case N => k_asm); (case b => first | assumption | exact Fr.keep (by k_asm) _ _ (by assumption)); (case U => k_updF); (case z => (simp; omega))); intro h' n' F' N'; (try dsimp only at N'); (try k_sweep)) | ((with_reducible show wpAny _ _ (call (Value.ref 68) _) _ _ _); refine (oct_spec w mean mg mb _ _ (by decide) (by decide)) _ _ _ _ _ _ _ _ _ _ _ _ _ _ _ _ _ (by k_asm) (by k_asm) (by k_asm) (by k_asm) (by first | rfl | assumption) (by ktr_room) (by ktr_units) trivial ?_; intro v9 h9 tk9 st9 hp9; (rename News _ _ _ _ => N8); (rename Fr _ _ _ _ => F8); (have F9 := frStays F8 st9); (have N9 := newsStays N8 st9); (obtain ⟨a9, ea9, hn9, vs9, k9, ho9, hi9⟩ := hp9); (subst ea9); (have hl9 : vs9.length ≤ 4 := by rw [hi9.length]; exact octs_len _); (clear F8 N8); (try dsimp only)) | ((fail_if_success (with_reducible show WhlRest _ _ _ _ _ _ _ _ _ _ _)); walk1) | (dsimp only; first | ((fail_if_success (with_reducible show WhlRest _ _ _ _ _ _ _ _ _ _ _)); walk1) | (k_unfold; (try dsimp only))) | (leave1; walk_say "STEP leave1"; try dsimp only) | fail "no step")
    refine hR _ _ ?_
    repeat' (first | (k_unfold; (try dsimp only)) | ((fail_if_success (with_reducible show WhlRest _ _ _ _ _ _ _ _ _ _ _)); walk1) | (dsimp only; first | ((fail_if_success (with_reducible show WhlRest _ _ _ _ _ _ _ _ _ _ _)); walk1) | (k_unfold; (try dsimp only))) | (leave1; walk_say "STEP leave1"; try dsimp only) | fail "no step")
    rename News _ _ _ _ => N1
    rename Fr _ _ _ _ => F1
    simp only [List.append_toArray, List.push_toArray] at N1
    exact IH g _ _ (Nat.lt_succ_self _) ⟨W, T ++ octs (0), _, _, _, _, _, _, _, rfl, hok', by rw [← hrun, List.flatMap_cons, List.append_assoc], by (have := octs_len (0)); rw [List.length_append]; omega, hUs, hTv.append hi9, newsTail N1, (frIf (x := Str.ofString "waiting") (v := .ref wa) (frIf (x := Str.ofString "tape") (v := .ref ta) (frIf (x := Str.ofString "drawn") (v := .ref dr) (frIf (x := Str.ofString "kids") (v := .ref kd) (frIf (x := Str.ofString "weights") (v := .ref wt) F1 rfl) rfl) rfl) rfl) rfl)⟩
  rw [if_neg c0] at hok' hrun
  obtain ⟨c5, hok'⟩ := hok'
  have cN : x.toNat < 5 := by omega
  obtain ⟨tw, hxw⟩ := intsGet hWt (i := x.toNat) (by omega)
  obtain ⟨td, hxd⟩ := intsGet hD (i := x.toNat) (by omega)
  by_cases c1 : ws.getD x.toNat 0 = 2
  · rw [if_pos c1] at hok' hrun
    have hOB := hok'
    (refine an_3 hOB fun b0 b1 hok' => ?_; clear hOB)
    repeat' (first | (k_unfold; (try dsimp only)) | (with_reducible refine ite_pos (beq_iff_eq.mpr c1) ?_) | ((with_reducible show wpAny _ _ (call (Value.builtin "list.pop") _) _ _ _); k_dflt (refine' pop_last ?F ?N ?U ?z ?_; (case F => k_asm); (case N => k_asm); (case U => k_upd); (case z => (rw [PySem.sizeLine_eq]; omega))); intro h' F' N'; (try k_sweep)) | ((with_reducible show wpAny _ _ (subscriptTail _ _ (Value.ref _) (Value.int x _)) _ _ _); k_dflt (refine' item_at ?l ?h0 ?h1 ?hx ?_; (case l => is_list); (case h0 => omega); (case h1 => omega); (case hx => assumption))) | ((with_reducible show wpAny _ _ (call (Value.builtin "list.extend") _) _ _ _); k_dflt (refine' ext_any ?F ?N ?b ?U ?z ?_; (case F => k_asm); (case N => k_asm); (case b => first | assumption | exact Fr.keep (by k_asm) _ _ (by assumption)); (case U => k_updF); (case z => (simp; omega))); intro h' n' F' N'; (try dsimp only at N'); (try k_sweep)) | ((with_reducible show wpAny _ _ (call (Value.ref 68) _) _ _ _); refine (oct_spec w mean mg mb _ _ b0 b1) _ _ _ _ _ _ _ _ _ _ _ _ _ _ _ _ _ (by k_asm) (by k_asm) (by k_asm) (by k_asm) (by first | rfl | assumption) (by ktr_room) (by ktr_units) trivial ?_; intro v9 h9 tk9 st9 hp9; (rename News _ _ _ _ => N8); (rename Fr _ _ _ _ => F8); (have F9 := frStays F8 st9); (have N9 := newsStays N8 st9); (obtain ⟨a9, ea9, hn9, vs9, k9, ho9, hi9⟩ := hp9); (subst ea9); (have hl9 : vs9.length ≤ 4 := by rw [hi9.length]; exact octs_len _); (clear F8 N8); (try dsimp only)) | ((fail_if_success (with_reducible show WhlRest _ _ _ _ _ _ _ _ _ _ _)); walk1) | (dsimp only; first | ((fail_if_success (with_reducible show WhlRest _ _ _ _ _ _ _ _ _ _ _)); walk1) | (k_unfold; (try dsimp only))) | (leave1; walk_say "STEP leave1"; try dsimp only) | fail "no step")
    refine hR _ _ ?_
    repeat' (first | (k_unfold; (try dsimp only)) | ((fail_if_success (with_reducible show WhlRest _ _ _ _ _ _ _ _ _ _ _)); walk1) | (dsimp only; first | ((fail_if_success (with_reducible show WhlRest _ _ _ _ _ _ _ _ _ _ _)); walk1) | (k_unfold; (try dsimp only))) | (leave1; walk_say "STEP leave1"; try dsimp only) | fail "no step")
    rename News _ _ _ _ => N1
    rename Fr _ _ _ _ => F1
    simp only [List.append_toArray, List.push_toArray] at N1
    exact IH g _ _ (Nat.lt_succ_self _) ⟨W, T ++ octs (num2 x (ds.getD x.toNat 0)), _, _, _, _, _, _, _, rfl, hok', by rw [← hrun, List.flatMap_cons, List.append_assoc], by (have := octs_len (num2 x (ds.getD x.toNat 0))); rw [List.length_append]; omega, hUs, hTv.append hi9, newsTail N1, (frIf (x := Str.ofString "waiting") (v := .ref wa) (frIf (x := Str.ofString "tape") (v := .ref ta) (frIf (x := Str.ofString "drawn") (v := .ref dr) (frIf (x := Str.ofString "kids") (v := .ref kd) (frIf (x := Str.ofString "weights") (v := .ref wt) F1 rfl) rfl) rfl) rfl) rfl)⟩
  · rw [if_neg c1] at hok' hrun
    have hOB := hok'
    (refine an_4 hOB fun b0 b1 b2 hok' => ?_; clear hOB)
    have hOB := hP4 x.toNat cN
    (refine ex_2 hOB fun kvs kn hOBx => ?_; clear hOB; refine an_2 hOBx fun hk hki => ?_; clear hOBx)
    have hkl2 := hki.length
    have hxk : (kas.map Value.ref).toArray[x.toNat]? = some (.ref (kas.getD x.toNat 0)) := by
      simp [List.getD_eq_getElem?_getD, List.getElem?_eq_getElem (show x.toNat < kas.length by omega)]
    repeat' (first | (k_unfold; (try dsimp only)) | (with_reducible refine ite_neg (by rw [beq_iff_eq]; exact c1) ?_) | ((with_reducible show wpAny _ _ (call (Value.builtin "list.pop") _) _ _ _); k_dflt (refine' pop_last ?F ?N ?U ?z ?_; (case F => k_asm); (case N => k_asm); (case U => k_upd); (case z => (rw [PySem.sizeLine_eq]; omega))); intro h' F' N'; (try k_sweep)) | ((with_reducible show wpAny _ _ (subscriptTail _ _ (Value.ref _) (Value.int x _)) _ _ _); k_dflt (refine' item_at ?l ?h0 ?h1 ?hx ?_; (case l => is_list); (case h0 => omega); (case h1 => omega); (case hx => assumption))) | ((with_reducible show wpAny _ _ (call (Value.builtin "list.extend") _) _ _ _); k_dflt (refine' ext_any ?F ?N ?b ?U ?z ?_; (case F => k_asm); (case N => k_asm); (case b => first | assumption | exact Fr.keep (by k_asm) _ _ (by assumption)); (case U => k_updF); (case z => (simp; omega))); intro h' n' F' N'; (try dsimp only at N'); (try k_sweep)) | ((with_reducible show wpAny _ _ (call (Value.ref 68) _) _ _ _); refine (oct_spec w mean mg mb _ _ b0 b1) _ _ _ _ _ _ _ _ _ _ _ _ _ _ _ _ _ (by k_asm) (by k_asm) (by k_asm) (by k_asm) (by first | rfl | assumption) (by ktr_room) (by ktr_units) trivial ?_; intro v9 h9 tk9 st9 hp9; (rename News _ _ _ _ => N8); (rename Fr _ _ _ _ => F8); (have F9 := frStays F8 st9); (have N9 := newsStays N8 st9); (obtain ⟨a9, ea9, hn9, vs9, k9, ho9, hi9⟩ := hp9); (subst ea9); (have hl9 : vs9.length ≤ 4 := by rw [hi9.length]; exact octs_len _); (clear F8 N8); (try dsimp only)) | ((fail_if_success (with_reducible show WhlRest _ _ _ _ _ _ _ _ _ _ _)); walk1) | (dsimp only; first | ((fail_if_success (with_reducible show WhlRest _ _ _ _ _ _ _ _ _ _ _)); walk1) | (k_unfold; (try dsimp only))) | (leave1; walk_say "STEP leave1"; try dsimp only) | fail "no step")
    refine hR _ _ ?_
    repeat' (first | (k_unfold; (try dsimp only)) | ((fail_if_success (with_reducible show WhlRest _ _ _ _ _ _ _ _ _ _ _)); walk1) | (dsimp only; first | ((fail_if_success (with_reducible show WhlRest _ _ _ _ _ _ _ _ _ _ _)); walk1) | (k_unfold; (try dsimp only))) | (leave1; walk_say "STEP leave1"; try dsimp only) | fail "no step")
    rename News _ _ _ _ => N1
    rename Fr _ _ _ _ => F1
    simp only [List.append_toArray, List.push_toArray] at N1
    exact IH g _ _ (Nat.lt_succ_self _) ⟨W ++ [-1] ++ ks.getD x.toNat [], T ++ octs (num1 x (ds.getD x.toNat 0)), _, _, _, _, _, _, _, rfl, hok', by rw [← hrun, List.flatMap_cons, List.append_assoc], by (have := octs_len (num1 x (ds.getD x.toNat 0))); rw [List.length_append]; omega, (hUs.append (.cons (-1) _ .nil)).append hki, hTv.append hi9, newsTail N1, (frIf (x := Str.ofString "waiting") (v := .ref wa) (frIf (x := Str.ofString "tape") (v := .ref ta) (frIf (x := Str.ofString "drawn") (v := .ref dr) (frIf (x := Str.ofString "kids") (v := .ref kd) (frIf (x := Str.ofString "weights") (v := .ref wt) F1 rfl) rfl) rfl) rfl) rfl)⟩
end Mine

-- G1
open PySem PySem.W PyProof.Rows PySem.Calls
set_option Elab.async false
set_option maxRecDepth 100000
set_option maxHeartbeats 8000000
namespace Mine
noncomputable def subCost (a b : Str) : Int := if a = b then 0 else if Txt.lower a = Txt.lower b then 1 else 2
theorem sub_spec (w : World) (mean : ExcName → Option Value) (mg mb : Str → Option Value) (a b : Str) (ta tb : Tok) (ha : a.length ≤ 4) (hb : b.length ≤ 4) : Told1 2 w mean mg mb 49 [.str a ta, .str b tb] (fun _ => True) (fun _ v _ => ∃ t, v = .int (subCost a b) t) := by
  unfold Told1
  w_top off
  k_with_none
  k_fill
  intro dp un gd cn cs a0 ccd cl outer A₀ base h₀ L m s Q E B F X T hcs hdp hun hpre hret
  refine wpAny_call ?_
  k_dflt (refine' enterS (binds := [(Str.ofString "ch_a", .str a ta), (Str.ofString "ch_b", .str b tb)]) ?k1 ?k2 ?k3 ?k5 ?kA ?kF ?kK ?k6 ?k7 ?k8 ?k9 ?kB ?_ ?c2 ?c3 ?c4 ?c5; (case kA => exact rfl); (case kF => exact rfl); (case kK => assumption); (case k1 => k_asm); (case k2 => k_asm); (case k3 => k_asm); (case k5 => k_asm); (case k6 => k_is); (case k7 => k_is); (case k8 => ktr_room); (case k9 => exact BindsTo.of_eq rfl); (case c5 => decide); (case kB => exact locs rfl); (case c2 => exact rfl); (case c3 => exact rfl); (case c4 => exact rfl); k_whole; intro L' h' hL' F' N' B' X' T'; (try dsimp only); (try k_fold))
  clear B F X T
  by_cases c1 : a = b
  · repeat' (first | (k_unfold; (try dsimp only)) | (with_reducible refine ite_pos (beq_iff_eq.mpr c1) ?_) | walk1 | (dsimp only; first | walk1 | (k_unfold; (try dsimp only))) | (leave1; walk_say "STEP leave1"; try dsimp only) | fail "no step")
    exact leaveK_ (by k_asm) (by k_asm) (fun _ _ st => hret _ _ _ st ⟨_, by rw [subCost, if_pos c1]⟩)
  by_cases c2 : Txt.lower a = Txt.lower b
  · repeat' (first | (k_unfold; (try dsimp only)) | (with_reducible refine ite_neg (by rw [beq_iff_eq]; exact c1) ?_) | (with_reducible refine ite_pos (beq_iff_eq.mpr c2) ?_) | walk1 | (dsimp only; first | walk1 | (k_unfold; (try dsimp only))) | (leave1; walk_say "STEP leave1"; try dsimp only) | fail "no step")
    exact leaveK_ (by k_asm) (by k_asm) (fun _ _ st => hret _ _ _ st ⟨_, by rw [subCost, if_neg c1, if_pos c2]⟩)
  · repeat' (first | (k_unfold; (try dsimp only)) | (with_reducible refine ite_neg (by rw [beq_iff_eq]; exact c1) ?_) | (with_reducible refine ite_neg (by rw [beq_iff_eq]; exact c2) ?_) | walk1 | (dsimp only; first | walk1 | (k_unfold; (try dsimp only))) | (leave1; walk_say "STEP leave1"; try dsimp only) | fail "no step")
    exact leaveK_ (by k_asm) (by k_asm) (fun _ _ st => hret _ _ _ st ⟨_, by rw [subCost, if_neg c1, if_neg c2]⟩)
end Mine

-- H0
open PySem PySem.W PyProof.Rows PySem.Calls
set_option Elab.async false
set_option maxRecDepth 100000
set_option maxHeartbeats 8000000
namespace Mine
section
variable {prog : Program} {w : World} {A : Around} {E : Value → Shared → Prop} {s : Shared} {env : Env} {h₀ : Heap} {x : Str} {px : Pos} {body : List Stmt} {Q : Flow → Shared → Prop}
abbrev ritOf (x left : Int) : Obj := { cls := .type "range_iterator", dict := none, data := .fields #[rawInt x, rawInt left, rawInt 1], slots := #[] }
/-- what a turn leaves -/
noncomputable def ForPost (h₀ : Heap) (L I : Addr) (o : Obj) (J : (Str → Option Value) → List (Addr × Obj) → Prop) (s₁ : Shared) (Q : Flow → Shared → Prop) (f : Flow) (s₂ : Shared) : Prop :=
  match f with
  | .ret v => Q (.ret v) s₂
  | .brk => Q .next s₂
  | _ => ∃ h' tk m' news', s₂ = { s₁ with heap := h', toks := tk } ∧ Fr h₀ L h' m' ∧ News h₀ L h' ((I, o) :: news') ∧ (∀ p ∈ news', p.1 ≠ I) ∧ J m' news'
theorem forR {r : Addr} {a b : Int} {t u v : Tok} {n : Nat} {m : Str → Option Value} {news : List (Addr × Obj)} (J : Nat → (Str → Option Value) → List (Addr × Obj) → Prop)
    (hh : A.handled = none) (hx : env.kindOf x = some .local) (hp : (env.scope.kind == .class || (env.scope.kind == .module && env.locals != env.globals)) = false)
    (F : Fr h₀ env.locals s.heap m) (N : News h₀ env.locals s.heap news) (hr : IsRange s.heap r a b 1 t u v) (hsm : Builtin.Range.small a b 1 = true) (hn : Builtin.Range.rangeSize a b 1 = (n : Int))
    (hE : PassesOwn (model prog w) A env E) (h0 : J 0 m news)
    (step : ∀ i m₁ news₁ h tk tx I, i < n → J i m₁ news₁ → (∀ p ∈ news₁, p.1 ≠ I) → Fr h₀ env.locals h (fun y => if y = x then some (.int (a + (i : Nat)) tx) else m₁ y) →
      News h₀ env.locals h ((I, ritOf (a + (i : Nat) + 1) ((n : Int) - (i : Nat) - 1)) :: news₁) →
      wpAny (model prog w) A (execs body env) (ForPost h₀ env.locals I (ritOf (a + (i : Nat) + 1) ((n : Int) - (i : Nat) - 1)) (J (i + 1)) s Q) E { s with heap := h, toks := tk })
    (done : ∀ m₁ news₁ h tk, J n m₁ news₁ → Fr h₀ env.locals h m₁ → News h₀ env.locals h news₁ → Q .next { s with heap := h, toks := tk }) :
    wpAny (model prog w) A (pyIter (.ref r)) (fun it s₂ => codeAny (model prog w) A (.forLoop (.Name x px) it body [] env) (fun r s' => match r with | .ok f => Q f s' | .error e => cameBackBy (model prog w) A env E e s') s₂) E s := by
  refine wpAny_pyIter_range hr hsm ?_
  rw [hn]
  have hI₀ : h₀.get? s.heap.objs.size = none := Heap.get?_none_of_le (Nat.le_of_lt (Nat.lt_of_le_of_lt F.above F.ns.lt))
  have hIL : s.heap.objs.size ≠ env.locals := fun e => absurd F.ns.lt (e ▸ Nat.lt_irrefl _)
  have N₀ := News.push F N (ritOf a n) rfl
  have off₀ : ∀ p ∈ news, p.1 ≠ s.heap.objs.size := fun p hp => Nat.ne_of_lt (Heap.lt_size (N p hp).1)
  have F₀ := F.push (ritOf a n)
  generalize s.heap.objs.size = I at *
  refine codeAny_forLoop (R := fun r s' => match r with | .ok f => Q f s' | .error e => cameBackBy (model prog w) A env E e s')
    (fun k s' => ∃ h' tk m' news' i, s' = { s with heap := h', toks := tk } ∧ J i m' news' ∧ (∀ p ∈ news', p.1 ≠ I) ∧ i ≤ n ∧ k = n + 1 - i ∧ Fr h₀ env.locals h' m' ∧ News h₀ env.locals h' ((I, ritOf (a + (i : Nat)) ((n : Int) - (i : Nat))) :: news')) ?_ (n + 1)
    ⟨_, s.toks, m, news, 0, rfl, h0, off₀, Nat.zero_le _, rfl, F₀, by simpa using N₀⟩
  rintro k s' hOB
  (refine ex_5 hOB fun h' tk m' news' i hOBx => ?_; clear hOB; refine an_7 hOBx fun eOB0 hJ off hi eOB4 F' N' => ?_; clear hOBx; subst eOB0; subst eOB4)
  have hit : IsRangeIter h' I (a + (i : Nat)) ((n : Int) - (i : Nat)) 1 := (N' _ (.head _)).1
  by_cases hlt : i < n
  · refine wpAny_pyNext_range_item hit (by omega) fun h₁ hit₁ hs₁ => ?_
    have F₁ := F'.change hs₁ hIL hI₀
    have N₁ := N'.setHead off hs₁ hit₁
    refine wpAny_assign_Name (wpAny_storeName_local hx F₁.ns (fun h₂ hn₂ hs₂ => ?_) hp)
    have F₂ := F₁.set hn₂ hs₂
    have N₂ := N₁.set hs₂
    refine wpAny_mono (wpAny_passesOwn hE (step i m' news' _ _ _ I hlt hJ off F₂ N₂)) (fun f s₃ h₃ => ?_) fun _ _ e => e
    cases f with
    | ret v => exact h₃
    | brk => exact h₃
    | next =>
      have hOB := h₃
      (refine ex_4 hOB fun h₄ tk₄ m₄ news₄ hOBx => ?_; clear hOB; refine an_5 hOBx fun eOB0 F₄ N₄ off₄ J₄ => ?_; clear hOBx; subst eOB0)
      have e1 : a + (i : Nat) + 1 = a + ((i + 1 : Nat) : Int) := by push_cast; omega
      have e2 : (n : Int) - (i : Nat) - 1 = (n : Int) - ((i + 1 : Nat) : Int) := by push_cast; omega
      rw [e1, e2] at N₄
      exact ⟨n + 1 - (i + 1), by omega, h₄, tk₄, m₄, news₄, i + 1, rfl, J₄, off₄, hlt, rfl, F₄, N₄⟩
    | cont =>
      have hOB := h₃
      (refine ex_4 hOB fun h₄ tk₄ m₄ news₄ hOBx => ?_; clear hOB; refine an_5 hOBx fun eOB0 F₄ N₄ off₄ J₄ => ?_; clear hOBx; subst eOB0)
      have e1 : a + (i : Nat) + 1 = a + ((i + 1 : Nat) : Int) := by push_cast; omega
      have e2 : (n : Int) - (i : Nat) - 1 = (n : Int) - ((i + 1 : Nat) : Int) := by push_cast; omega
      rw [e1, e2] at N₄
      exact ⟨n + 1 - (i + 1), by omega, h₄, tk₄, m₄, news₄, i + 1, rfl, J₄, off₄, hlt, rfl, F₄, N₄⟩
  · have hin : i = n := by omega
    subst hin
    refine wpAny_pyNext_range_end hh hit (by omega) fun h₁ he₁ => wpAny_execs_nil ?_
    refine done m' news' h₁ tk hJ ⟨F'.ns.extBut he₁ (Ne.symm hIL), fun b o e => he₁ b o (fun q => by rw [q, hI₀] at e; cases e) (F'.keep b o e), F'.above⟩ fun p hp => ?_
    have z := N' p (.tail _ hp)
    exact ⟨he₁ _ _ (off p hp) z.1, z.2⟩
end
section
variable {prog : Program} {w : World} {A : Around} {E : Value → Shared → Prop} {s : Shared} {h₀ : Heap} {L : Addr} {m : Str → Option Value} {Q : Value → Shared → Prop}
theorem list_rangeN {r : Addr} {a b c : Int} {t u v : Tok} {n : Nat} {news : List (Addr × Obj)} (hh : A.handled = none) (Fh : Fr h₀ L s.heap m) (N : News h₀ L s.heap news)
    (hr : IsRange s.heap r a b c t u v) (hsmall : Builtin.Range.small a b c = true) (hn : Builtin.Range.rangeSize a b c = (n : Int)) (hlen : n ≤ 2 ^ 24)
    (hQ : ∀ h' tk (ys : List Value) (D : Addr) (k : Nat), (∀ p ∈ news, p.1 < D) → Fr h₀ L h' m → News h₀ L h' ((D, W.listOf ys.toArray k) :: news) → IntsAre ys (rangeInts a c n) → Q (.ref D) { s with heap := h', toks := tk }) :
    wpAny (model prog w) A (call (.type "list") [.ref r]) Q E s := by
  refine list_rangeD hh Fh N hr hsmall hn hlen fun h' tk ys F' _ st _ _ hp hc => ?_
  obtain ⟨⟨k, ho⟩, _⟩ := hp
  exact hQ h' tk ys _ k (fun p hp => Heap.lt_size (N p hp).1) F' (newsMore Fh N st (Heap.get?_none_of_le (Nat.le_refl _)) ho) (IntsAre.ofCarried hc)
end
noncomputable def mn2 (a b : Int) : Int := if b < a then b else a
theorem min_mn2 {prog : Program} {w : World} {A : Around} {E : Value → Shared → Prop} {s : Shared} {h₀ : Heap} {L : Addr} {m : Str → Option Value} {news : List (Addr × Obj)} {a b : Int} {t u : Tok} {Q : Value → Shared → Prop} (hh : A.handled = none) (F : Fr h₀ L s.heap m) (N : News h₀ L s.heap news)
    (h : ∀ h' tk t', Fr h₀ L h' m → News h₀ L h' news → Q (.int (mn2 a b) t') { s with heap := h', toks := tk }) :
    wpAny (model prog w) A (call (.builtin "min") [.int a t, .int b u]) Q E s := min_two_N hh F N fun h' tk F' N' => h h' tk _ F' N'
end Mine

-- G5
open PySem PySem.W PyProof.Rows PySem.Calls
set_option Elab.async false
set_option maxRecDepth 100000
set_option maxHeartbeats 8000000
namespace Mine
noncomputable def preRun (x y : Str) : Nat → Int → Int
  | 0, k => k
  | f + 1, k => if Txt.item x k = Txt.item y k then preRun x y f (k + 1) else k
theorem preRun_le (x y : Str) : ∀ (f : Nat) (k : Int), 0 ≤ k → 0 ≤ preRun x y f k ∧ preRun x y f k ≤ k + f := by
  intro f
  induction f with
  | zero => intro k h; simp [preRun]; omega
  | succ f ih =>
    intro k h
    simp only [preRun]
    split
    · have := ih (k + 1) (by omega); omega
    · omega
noncomputable def postRun (x y : Str) : Nat → Int → Int
  | 0, p => p
  | f + 1, p => if Txt.item x (p - 1) = Txt.item y (p - 1) then postRun x y f (p - 1) else p
theorem slice_nn (x : Str) : Txt.slice x none none = x := by
  unfold Txt.slice
  have e : (Builtin.Str.strSliceIndices none none 1 x.length).length = x.length := by
    simp only [Builtin.Str.strSliceIndices, sliceRange, show (1 : Int) > 0 by decide, if_true, List.length_map, List.length_range]
    split <;> omega
  rw [if_pos (by simp [e])]
noncomputable def sliceU (x : Str) (j : Int) : Str := if j = 0 then Txt.slice x none none else Txt.slice x none (some j)
theorem postRun_le (x y : Str) : ∀ (f : Nat) (p : Int), p ≤ 0 → postRun x y f p ≤ 0 ∧ p - f ≤ postRun x y f p := by
  intro f
  induction f with
  | zero => intro p h; simp [postRun]; omega
  | succ f ih =>
    intro p h
    simp only [postRun]
    split
    · have := ih (p - 1) (by omega); omega
    · omega
theorem sliceU_len {x : Str} {p : Int} (h0 : p ≤ 0) (h1 : 0 ≤ x.length + p) : (sliceU x p).length = (x.length + p).toNat := by
  unfold sliceU
  split
  · rw [slice_nn]; omega
  · rcases slice_ns_cases' x p with h | h | h <;> omega
noncomputable def levIn (c A : Str) : Nat → Int → Int → Int → Int → List Int → Int × Int × List Int
  | 0, _, _, r, mn, row => (r, mn, row)
  | k + 1, j, d, r, mn, row =>
    levIn c A k (j + 1) (row.getD j.toNat 0) (mn2 (mn2 r (row.getD j.toNat 0) + 2) (d + subCost c (Txt.item A j)))
      (if mn2 (mn2 r (row.getD j.toNat 0) + 2) (d + subCost c (Txt.item A j)) < mn then mn2 (mn2 r (row.getD j.toNat 0) + 2) (d + subCost c (Txt.item A j)) else mn)
      (row.set j.toNat (mn2 (mn2 r (row.getD j.toNat 0) + 2) (d + subCost c (Txt.item A j))))
noncomputable def levOut (B A : Str) (n : Nat) : Nat → Int → Int → List Int → Int
  | 0, _, r, _ => r
  | k + 1, i, _, row =>
    if 6 < (levIn (Txt.item B i) A n 0 (i * 2) (i * 2) 9223372036854775807 row).2.1 then 7
    else levOut B A n k (i + 1) (levIn (Txt.item B i) A n 0 (i * 2) (i * 2) 9223372036854775807 row).1 (levIn (Txt.item B i) A n 0 (i * 2) (i * 2) 9223372036854775807 row).2.2
noncomputable def levTail (B A : Str) : Int := if A.length = 0 then 0 else levOut B A A.length A.length 0 0 (rangeInts 2 2 A.length)
noncomputable def levRest (x y : Str) : Int :=
  levTail (sliceU (Txt.slice y (some (preRun x y 4 0)) none) (postRun (Txt.slice x (some (preRun x y 4 0)) none) (Txt.slice y (some (preRun x y 4 0)) none) (Txt.slice x (some (preRun x y 4 0)) none).length 0))
    (sliceU (Txt.slice x (some (preRun x y 4 0)) none) (postRun (Txt.slice x (some (preRun x y 4 0)) none) (Txt.slice y (some (preRun x y 4 0)) none) (Txt.slice x (some (preRun x y 4 0)) none).length 0))
noncomputable def levFn (x y : Str) : Int := if x = y then 0 else levRest x y
theorem split_str {x y : Str} {P Q : Prop} (h1 : x = y → P) (h2 : ¬ x = y → Q) : if (x == y) = true then P else Q := by
  by_cases c : x = y
  · rw [if_pos (beq_iff_eq.mpr c)]; exact h1 c
  · rw [if_neg (by rw [beq_iff_eq]; exact c)]; exact h2 c
theorem split_lt {x y : Int} {P Q : Prop} (h1 : x < y → P) (h2 : ¬ x < y → Q) : if decide (x < y) = true then P else Q := by
  by_cases c : x < y
  · rw [if_pos (decide_eq_true c)]; exact h1 c
  · rw [if_neg (by rw [decide_eq_true_eq]; exact c)]; exact h2 c
set_option pp.deepTerms false in
theorem lev_spec (w : World) (mean : ExcName → Option Value) (mg mb : Str → Option Value) (x y : Str) (tx ty tm : Tok) (hx : x.length = 4) (hy : y.length = 4) :
   Told1 4 w mean mg mb 56 [.str x tx, .str y ty, .int 6 tm] (fun _ => True) (fun h v h' => ∃ t, v = .int (levFn x y) t) := by
  unfold Told1
  w_top off
  k_with_none
  k_fill
  intro dp un gd cn cs a0 ccd cl outer A₀ base h₀ L m s Q E B F X T hcs hdp hun hpre hret
  refine wpAny_call ?_
  k_dflt (refine' enterS (binds := [(Str.ofString "a", .str x tx), (Str.ofString "b", .str y ty), (Str.ofString "max_cost", .int 6 tm)]) ?k1 ?k2 ?k3 ?k5 ?kA ?kF ?kK ?k6 ?k7 ?k8 ?k9 ?kB ?_ ?c2 ?c3 ?c4 ?c5; (case kA => exact rfl); (case kF => exact rfl); (case kK => assumption); (case k1 => k_asm); (case k2 => k_asm); (case k3 => k_asm); (case k5 => k_asm); (case k6 => k_is); (case k7 => k_is); (case k8 => ktr_room); (case k9 => exact BindsTo.of_eq rfl); (case c5 => decide); (case kB => exact locs rfl); (case c2 => exact rfl); (case c3 => exact rfl); (case c4 => exact rfl); k_whole; intro L' h' hL' F' N' B' X' T'; (try dsimp only); (try k_fold))
  clear B F X T
  by_cases c1 : x = y
  · repeat' (first | (k_unfold; (try dsimp only)) | (with_reducible refine ite_pos (beq_iff_eq.mpr c1) ?_) | walk1 | (dsimp only; first | walk1 | (k_unfold; (try dsimp only))) | (leave1; walk_say "STEP leave1"; try dsimp only) | fail "no step")
    exact leaveK_ (by k_asm) (by k_asm) (fun _ _ st => hret _ _ _ st ⟨_, by rw [levFn, if_pos c1]⟩)
  have hfin : levFn x y = levRest x y := if_neg c1
  unfold levRest at hfin
  repeat' (first | (k_unfold; (try dsimp only)) | (with_reducible refine ite_neg (by rw [beq_iff_eq]; exact c1) ?_) | ((fail_if_success (with_reducible show wpAny _ _ (exec (Stmt.While _ _ _ _) _) _ _ _)); walk1) | (dsimp only; first | ((fail_if_success (with_reducible show wpAny _ _ (exec (Stmt.While _ _ _ _) _) _ _ _)); walk1) | (k_unfold; (try dsimp only))) | (leave1; walk_say "STEP leave1"; try dsimp only) | fail "no step")
  rename Fr _ _ _ _ => F1
  rename News _ _ _ _ => N1
  rename_i h1
  refine wpAny_mono (Q := fun fl s' => fl = Flow.next ∧ ∃ (u : Str → Option Value) (h : Heap) (tk : Nat) (t : Tok), s' = { s with heap := h, toks := tk } ∧ News s.heap L' h [] ∧ Fr s.heap L' h (fun z => if z = Str.ofString "pre" then some (Value.int (preRun x y 4 0) t) else if z = Str.ofString "a" then some (Value.str x tx) else if z = Str.ofString "b" then some (Value.str y ty) else if z = Str.ofString "max_cost" then some (Value.int 6 tm) else u z)) ?_ ?_ (fun _ _ x => x)
  · refine wp_hide fun R hR => ?_
    refine whl_start 100 ?_
    refine whlInd (I := fun n s' => ∃ (k : Int) (u : Str → Option Value) (h : Heap) (tk : Nat) (t : Tok), s' = { s with heap := h, toks := tk } ∧ 0 ≤ k ∧ k + n = 4 ∧ preRun x y n k = preRun x y 4 0 ∧ News s.heap L' h [] ∧ Fr s.heap L' h (fun z => if z = Str.ofString "pre" then some (Value.int k t) else if z = Str.ofString "a" then some (Value.str x tx) else if z = Str.ofString "b" then some (Value.str y ty) else if z = Str.ofString "max_cost" then some (Value.int 6 tm) else u z)) ?_ 4
      ⟨0, _, _, _, _, rfl, by decide, by decide, rfl, N1, frIf (x := Str.ofString "pre") (frIf (x := Str.ofString "a") (v := .str x tx) (frIf (x := Str.ofString "b") (v := .str y ty) (frIf (x := Str.ofString "max_cost") (v := .int 6 tm) F1 rfl) rfl) rfl) rfl⟩
    clear N1 F1
    rintro n s' IH hOB
    (refine ex_5 hOB fun k u h tk t hOBx => ?_; clear hOB; refine an_6 hOBx fun eOB0 hk0 hk4 hrun N1 F1 => ?_; clear hOBx; subst eOB0)
    have e1 : ((Txt.slice x (some k) none).length : Int) = 4 - k := by have := (fact_slice_sn x k).1 hk0 (by omega); omega
    have e2 : ((Txt.slice y (some k) none).length : Int) = 4 - k := by have := (fact_slice_sn y k).1 hk0 (by omega); omega
    cases n with
    | zero =>
      have hrun : k = preRun x y 4 0 := hrun
      k_dflt (refine' whl_turn ?hE ?_; (case hE => first | passes_own | with_unfolding_all passes_own))
      repeat' (first | (k_unfold; (try dsimp only)) | ((with_reducible show wpAny _ _ (subscriptTail _ (PySem.Expr.Slice (some _) none none _) (Value.str _ _) _) _ _ _); (rename Fr _ _ _ _ => F8); (rename News _ _ _ _ => N8); refine slice_strN_sn (hsz := ?hz) (s := ⟨_, _, _, _, _⟩) F8 N8 ?_; (case hz => (rw [PySem.sizeLine_eq]; omega)); intro h7 t7 k7 F7 N7; (clear F8 N8)) | (with_reducible refine ite_neg (by rw [bne_iff_ne]; omega) ?_) | ((fail_if_success (with_reducible show WhlRest _ _ _ _ _ _ _ _ _ _ _)); (fail_if_success (with_reducible show WhlIf _ _ _)); walk1) | (dsimp only; first | ((fail_if_success (with_reducible show WhlRest _ _ _ _ _ _ _ _ _ _ _)); (fail_if_success (with_reducible show WhlIf _ _ _)); walk1) | (k_unfold; (try dsimp only))) | (leave1; walk_say "STEP leave1"; try dsimp only) | fail "no step")
      rename Fr _ _ _ _ => F1
      rename News _ _ _ _ => N1
      exact WhlIf.no rfl (wpAny_execs_nil (hR _ _ ⟨rfl, _, _, _, _, rfl, N1, hrun ▸ F1⟩))
    | succ n =>
      simp only [preRun] at hrun
      k_dflt (refine' whl_turn ?hE ?_; (case hE => first | passes_own | with_unfolding_all passes_own))
      repeat' (first | (k_unfold; (try dsimp only)) | ((with_reducible show wpAny _ _ (subscriptTail _ (PySem.Expr.Slice (some _) none none _) (Value.str _ _) _) _ _ _); (rename Fr _ _ _ _ => F8); (rename News _ _ _ _ => N8); refine slice_strN_sn (hsz := ?hz) (s := ⟨_, _, _, _, _⟩) F8 N8 ?_; (case hz => (rw [PySem.sizeLine_eq]; omega)); intro h7 t7 k7 F7 N7; (clear F8 N8)) | (with_reducible refine ite_pos (by rw [bne_iff_ne]; omega) ?_) | (with_reducible refine split_str ?_ ?_ <;> intro c2) | (with_reducible refine WhlIf.yes rfl ?_) | ((fail_if_success (with_reducible show WhlRest _ _ _ _ _ _ _ _ _ _ _)); (fail_if_success (with_reducible show WhlIf _ _ _)); walk1) | (dsimp only; first | ((fail_if_success (with_reducible show WhlRest _ _ _ _ _ _ _ _ _ _ _)); (fail_if_success (with_reducible show WhlIf _ _ _)); walk1) | (k_unfold; (try dsimp only))) | (leave1; walk_say "STEP leave1"; try dsimp only) | fail "no step")
      · rw [if_pos c2] at hrun
        rename Fr _ _ _ _ => F1
        rename News _ _ _ _ => N1
        exact IH n _ _ (Nat.lt_succ_self _) ⟨k + 1, _, _, _, _, rfl, by omega, by omega, hrun, N1, frIf (x := Str.ofString "pre") (frIf (x := Str.ofString "a") (v := .str x tx) (frIf (x := Str.ofString "b") (v := .str y ty) (frIf (x := Str.ofString "max_cost") (v := .int 6 tm) F1 rfl) rfl) rfl) rfl⟩
      · rw [if_neg c2] at hrun
        rename Fr _ _ _ _ => F1
        rename News _ _ _ _ => N1
        exact WhlIf.no rfl (wpAny_execs_nil (hR _ _ ⟨rfl, _, _, _, _, rfl, N1, hrun ▸ F1⟩))
  rintro fl s' ⟨rfl, hOB⟩
  (refine ex_4 hOB fun u h tk t hOBx => ?_; clear hOB; refine an_3 hOBx fun eOB0 N1 F1 => ?_; clear hOBx; subst eOB0)
  obtain ⟨hK0, hK4⟩ := preRun_le x y 4 0 (by decide)
  have ea : ((Txt.slice x (some (preRun x y 4 0)) none).length : Int) = 4 - preRun x y 4 0 := by have := (fact_slice_sn x (preRun x y 4 0)).1 hK0 (by omega); omega
  have eb : ((Txt.slice y (some (preRun x y 4 0)) none).length : Int) = 4 - preRun x y 4 0 := by have := (fact_slice_sn y (preRun x y 4 0)).1 hK0 (by omega); omega
  generalize preRun x y 4 0 = K0 at *
  (try dsimp only)
  repeat' (first | (k_unfold; (try dsimp only)) | ((with_reducible show wpAny _ _ (subscriptTail _ (PySem.Expr.Slice (some _) none none _) (Value.str _ _) _) _ _ _); (rename Fr _ _ _ _ => F8); (rename News _ _ _ _ => N8); refine slice_strN_sn (hsz := ?hz) (s := ⟨_, _, _, _, _⟩) F8 N8 ?_; (case hz => (rw [PySem.sizeLine_eq]; omega)); intro h7 t7 k7 F7 N7; (clear F8 N8)) | ((fail_if_success (with_reducible show wpAny _ _ (exec (Stmt.While _ _ _ _) _) _ _ _)); walk1) | (dsimp only; first | ((fail_if_success (with_reducible show wpAny _ _ (exec (Stmt.While _ _ _ _) _) _ _ _)); walk1) | (k_unfold; (try dsimp only))) | (leave1; walk_say "STEP leave1"; try dsimp only) | fail "no step")
  generalize hA1 : Txt.slice x (some K0) none = A1 at *
  generalize hB1 : Txt.slice y (some K0) none = B1 at *
  rename Fr _ _ _ _ => F1
  rename News _ _ _ _ => N1
  obtain ⟨n1, hn1, hn4⟩ : ∃ n1 : Nat, A1.length = n1 ∧ n1 ≤ 4 := ⟨_, rfl, by omega⟩
  have hn2 : B1.length = n1 := by omega
  rw [hn1] at hfin
  clear ea eb hA1 hB1
  refine wpAny_mono (Q := fun fl s' => fl = Flow.next ∧ ∃ (u : Str → Option Value) (h : Heap) (tk : Nat) (t ta tb : Tok), s' = { s with heap := h, toks := tk } ∧ News s.heap L' h [] ∧ Fr s.heap L' h (fun z => if z = Str.ofString "post" then some (Value.int (postRun A1 B1 n1 0) t) else if z = Str.ofString "a" then some (Value.str A1 ta) else if z = Str.ofString "b" then some (Value.str B1 tb) else if z = Str.ofString "max_cost" then some (Value.int 6 tm) else u z)) ?_ ?_ (fun _ _ x => x)
  · refine wp_hide fun R hR => ?_
    refine whl_start 100 ?_
    refine whlInd (I := fun n s' => ∃ (p : Int) (u : Str → Option Value) (h : Heap) (tk : Nat) (t ta tb : Tok), s' = { s with heap := h, toks := tk } ∧ p ≤ 0 ∧ p + n1 = n ∧ postRun A1 B1 n p = postRun A1 B1 n1 0 ∧ News s.heap L' h [] ∧ Fr s.heap L' h (fun z => if z = Str.ofString "post" then some (Value.int p t) else if z = Str.ofString "a" then some (Value.str A1 ta) else if z = Str.ofString "b" then some (Value.str B1 tb) else if z = Str.ofString "max_cost" then some (Value.int 6 tm) else u z)) ?_ n1
      ⟨0, _, _, _, _, _, _, rfl, by decide, by omega, rfl, N1, frIf (x := Str.ofString "post") (frIf (x := Str.ofString "a")  (frIf (x := Str.ofString "b")  (frIf (x := Str.ofString "max_cost") (v := .int 6 tm) F1 rfl) rfl) rfl) rfl⟩
    clear N1 F1
    rintro n s' IH hOB
    (refine ex_7 hOB fun p u h tk t ta tb hOBx => ?_; clear hOB; refine an_6 hOBx fun eOB0 hp0 hpn hrun N1 F1 => ?_; clear hOBx; subst eOB0)
    by_cases c0 : p = 0
    · subst c0
      have e1 : ((Txt.slice A1 none none).length : Int) = n := by rw [slice_nn]; omega
      have e2 : ((Txt.slice B1 none none).length : Int) = n := by rw [slice_nn]; omega
      cases n with
      | zero =>
        have hrun : 0 = postRun A1 B1 n1 0 := hrun
        k_dflt (refine' whl_turn ?hE ?_; (case hE => first | passes_own | with_unfolding_all passes_own))
        repeat' (first | (k_unfold; (try dsimp only)) | ((with_reducible show wpAny _ _ (subscriptTail _ (PySem.Expr.Slice none (some _) none _) (Value.str _ _) _) _ _ _); (rename Fr _ _ _ _ => F8); (rename News _ _ _ _ => N8); (first | (refine slice_strN_ns (hsz := ?hz) (s := ⟨_, _, _, _, _⟩) F8 N8 ?_) | (refine slice_strN_nn (hsz := ?hz) (s := ⟨_, _, _, _, _⟩) F8 N8 ?_)); (case hz => (rw [PySem.sizeLine_eq]; omega)); intro h7 t7 k7 F7 N7; (clear F8 N8)) | (with_reducible refine ite_neg (by rw [bne_iff_ne]; omega) ?_) | ((fail_if_success (with_reducible show WhlRest _ _ _ _ _ _ _ _ _ _ _)); (fail_if_success (with_reducible show WhlIf _ _ _)); walk1) | (dsimp only; first | ((fail_if_success (with_reducible show WhlRest _ _ _ _ _ _ _ _ _ _ _)); (fail_if_success (with_reducible show WhlIf _ _ _)); walk1) | (k_unfold; (try dsimp only))) | (leave1; walk_say "STEP leave1"; try dsimp only) | fail "no step")
        rename Fr _ _ _ _ => F1
        rename News _ _ _ _ => N1
        exact WhlIf.no rfl (wpAny_execs_nil (hR _ _ ⟨rfl, _, _, _, _, _, _, rfl, N1, hrun ▸ F1⟩))
      | succ n =>
        simp only [postRun] at hrun
        k_dflt (refine' whl_turn ?hE ?_; (case hE => first | passes_own | with_unfolding_all passes_own))
        repeat' (first | (k_unfold; (try dsimp only)) | ((with_reducible show wpAny _ _ (subscriptTail _ (PySem.Expr.Slice none (some _) none _) (Value.str _ _) _) _ _ _); (rename Fr _ _ _ _ => F8); (rename News _ _ _ _ => N8); (first | (refine slice_strN_ns (hsz := ?hz) (s := ⟨_, _, _, _, _⟩) F8 N8 ?_) | (refine slice_strN_nn (hsz := ?hz) (s := ⟨_, _, _, _, _⟩) F8 N8 ?_)); (case hz => (rw [PySem.sizeLine_eq]; omega)); intro h7 t7 k7 F7 N7; (clear F8 N8)) | (with_reducible refine ite_pos (by rw [bne_iff_ne]; omega) ?_) | (with_reducible refine split_str ?_ ?_ <;> intro c2) | (with_reducible refine WhlIf.yes rfl ?_) | ((fail_if_success (with_reducible show WhlRest _ _ _ _ _ _ _ _ _ _ _)); (fail_if_success (with_reducible show WhlIf _ _ _)); walk1) | (dsimp only; first | ((fail_if_success (with_reducible show WhlRest _ _ _ _ _ _ _ _ _ _ _)); (fail_if_success (with_reducible show WhlIf _ _ _)); walk1) | (k_unfold; (try dsimp only))) | (leave1; walk_say "STEP leave1"; try dsimp only) | fail "no step")
        · rw [if_pos c2] at hrun
          rename Fr _ _ _ _ => F1
          rename News _ _ _ _ => N1
          exact IH n _ _ (Nat.lt_succ_self _) ⟨0 - 1, _, _, _, _, _, _, rfl, by omega, by omega, hrun, N1, frIf (x := Str.ofString "post") (frIf (x := Str.ofString "a")  (frIf (x := Str.ofString "b")  (frIf (x := Str.ofString "max_cost") (v := .int 6 tm) F1 rfl) rfl) rfl) rfl⟩
        · rw [if_neg c2] at hrun
          rename Fr _ _ _ _ => F1
          rename News _ _ _ _ => N1
          exact WhlIf.no rfl (wpAny_execs_nil (hR _ _ ⟨rfl, _, _, _, _, _, _, rfl, N1, hrun ▸ F1⟩))
    · have e1 : ((Txt.slice A1 none (some p)).length : Int) = n := by rcases slice_ns_cases' A1 p with h | h | h <;> omega
      have e2 : ((Txt.slice B1 none (some p)).length : Int) = n := by rcases slice_ns_cases' B1 p with h | h | h <;> omega
      cases n with
      | zero =>
        have hrun : p = postRun A1 B1 n1 0 := hrun
        k_dflt (refine' whl_turn ?hE ?_; (case hE => first | passes_own | with_unfolding_all passes_own))
        repeat' (first | (k_unfold; (try dsimp only)) | ((with_reducible show wpAny _ _ (subscriptTail _ (PySem.Expr.Slice none (some _) none _) (Value.str _ _) _) _ _ _); (rename Fr _ _ _ _ => F8); (rename News _ _ _ _ => N8); (first | (refine slice_strN_ns (hsz := ?hz) (s := ⟨_, _, _, _, _⟩) F8 N8 ?_) | (refine slice_strN_nn (hsz := ?hz) (s := ⟨_, _, _, _, _⟩) F8 N8 ?_)); (case hz => (rw [PySem.sizeLine_eq]; omega)); intro h7 t7 k7 F7 N7; (clear F8 N8)) | (with_reducible refine ite_neg (by rw [bne_iff_ne]; omega) ?_) | (with_reducible refine ite_pos (by rw [bne_iff_ne]; exact c0) ?_) | ((fail_if_success (with_reducible show WhlRest _ _ _ _ _ _ _ _ _ _ _)); (fail_if_success (with_reducible show WhlIf _ _ _)); walk1) | (dsimp only; first | ((fail_if_success (with_reducible show WhlRest _ _ _ _ _ _ _ _ _ _ _)); (fail_if_success (with_reducible show WhlIf _ _ _)); walk1) | (k_unfold; (try dsimp only))) | (leave1; walk_say "STEP leave1"; try dsimp only) | fail "no step")
        rename Fr _ _ _ _ => F1
        rename News _ _ _ _ => N1
        exact WhlIf.no rfl (wpAny_execs_nil (hR _ _ ⟨rfl, _, _, _, _, _, _, rfl, N1, hrun ▸ F1⟩))
      | succ n =>
        simp only [postRun] at hrun
        k_dflt (refine' whl_turn ?hE ?_; (case hE => first | passes_own | with_unfolding_all passes_own))
        repeat' (first | (k_unfold; (try dsimp only)) | ((with_reducible show wpAny _ _ (subscriptTail _ (PySem.Expr.Slice none (some _) none _) (Value.str _ _) _) _ _ _); (rename Fr _ _ _ _ => F8); (rename News _ _ _ _ => N8); (first | (refine slice_strN_ns (hsz := ?hz) (s := ⟨_, _, _, _, _⟩) F8 N8 ?_) | (refine slice_strN_nn (hsz := ?hz) (s := ⟨_, _, _, _, _⟩) F8 N8 ?_)); (case hz => (rw [PySem.sizeLine_eq]; omega)); intro h7 t7 k7 F7 N7; (clear F8 N8)) | (with_reducible refine ite_pos (by rw [bne_iff_ne]; omega) ?_) | (with_reducible refine ite_pos (by rw [bne_iff_ne]; exact c0) ?_) | (with_reducible refine split_str ?_ ?_ <;> intro c2) | (with_reducible refine WhlIf.yes rfl ?_) | ((fail_if_success (with_reducible show WhlRest _ _ _ _ _ _ _ _ _ _ _)); (fail_if_success (with_reducible show WhlIf _ _ _)); walk1) | (dsimp only; first | ((fail_if_success (with_reducible show WhlRest _ _ _ _ _ _ _ _ _ _ _)); (fail_if_success (with_reducible show WhlIf _ _ _)); walk1) | (k_unfold; (try dsimp only))) | (leave1; walk_say "STEP leave1"; try dsimp only) | fail "no step")
        · rw [if_pos c2] at hrun
          rename Fr _ _ _ _ => F1
          rename News _ _ _ _ => N1
          exact IH n _ _ (Nat.lt_succ_self _) ⟨p - 1, _, _, _, _, _, _, rfl, by omega, by omega, hrun, N1, frIf (x := Str.ofString "post") (frIf (x := Str.ofString "a")  (frIf (x := Str.ofString "b")  (frIf (x := Str.ofString "max_cost") (v := .int 6 tm) F1 rfl) rfl) rfl) rfl⟩
        · rw [if_neg c2] at hrun
          rename Fr _ _ _ _ => F1
          rename News _ _ _ _ => N1
          exact WhlIf.no rfl (wpAny_execs_nil (hR _ _ ⟨rfl, _, _, _, _, _, _, rfl, N1, hrun ▸ F1⟩))
  rintro fl s' ⟨rfl, hOB⟩
  (refine ex_6 hOB fun u h tk t ta tb hOBx => ?_; clear hOB; refine an_3 hOBx fun eOB0 N1 F1 => ?_; clear hOBx; subst eOB0)
  obtain ⟨hP0, hPn⟩ := postRun_le A1 B1 n1 0 (by decide)
  generalize postRun A1 B1 n1 0 = P0 at *
  (try dsimp only)
  repeat' (first | (k_unfold; (try dsimp only)) | ((fail_if_success (with_reducible show wpAny _ _ (exec (Stmt.Assign _ _ _) _) _ _ _)); walk1) | (dsimp only; first | ((fail_if_success (with_reducible show wpAny _ _ (exec (Stmt.Assign _ _ _) _) _ _ _)); walk1) | (k_unfold; (try dsimp only))) | (leave1; walk_say "STEP leave1"; try dsimp only) | fail "no step")
  refine wpAny_mono (Q := fun fl s' => fl = Flow.next ∧ ∃ (u : Str → Option Value) (h : Heap) (tk : Nat) (t ta tb : Tok), s' = { s with heap := h, toks := tk } ∧ News s.heap L' h [] ∧ Fr s.heap L' h (fun z => if z = Str.ofString "post" then some (Value.int P0 t) else if z = Str.ofString "a" then some (Value.str (sliceU A1 P0) ta) else if z = Str.ofString "b" then some (Value.str B1 tb) else if z = Str.ofString "max_cost" then some (Value.int 6 tm) else u z)) ?_ ?_ (fun _ _ x => x)
  · refine wp_hide fun R hR => ?_
    by_cases c0 : P0 = 0
    · subst c0
      repeat' (first | (k_unfold; (try dsimp only)) | ((with_reducible show wpAny _ _ (subscriptTail _ (PySem.Expr.Slice none (some _) none _) (Value.str _ _) _) _ _ _); (rename Fr _ _ _ _ => F8); (rename News _ _ _ _ => N8); (first | (refine slice_strN_ns (hsz := ?hz) (s := ⟨_, _, _, _, _⟩) F8 N8 ?_) | (refine slice_strN_nn (hsz := ?hz) (s := ⟨_, _, _, _, _⟩) F8 N8 ?_)); (case hz => (rw [PySem.sizeLine_eq]; omega)); intro h7 t7 k7 F7 N7; (clear F8 N8)) | ((fail_if_success (with_reducible show _ ∧ _)); walk1) | (dsimp only; first | ((fail_if_success (with_reducible show _ ∧ _)); walk1) | (k_unfold; (try dsimp only))) | (leave1; walk_say "STEP leave1"; try dsimp only) | fail "no step")
      rename Fr _ _ _ _ => F1
      rename News _ _ _ _ => N1
      exact hR _ _ ⟨rfl, _, _, _, _, _, _, rfl, N1, frIf (x := Str.ofString "post") (frIf (x := Str.ofString "a") (frIf (x := Str.ofString "b") (frIf (x := Str.ofString "max_cost") (v := .int 6 tm) F1 rfl) rfl) rfl) rfl⟩
    · have hsu : sliceU A1 P0 = Txt.slice A1 none (some P0) := if_neg c0
      repeat' (first | (k_unfold; (try dsimp only)) | ((with_reducible show wpAny _ _ (subscriptTail _ (PySem.Expr.Slice none (some _) none _) (Value.str _ _) _) _ _ _); (rename Fr _ _ _ _ => F8); (rename News _ _ _ _ => N8); (first | (refine slice_strN_ns (hsz := ?hz) (s := ⟨_, _, _, _, _⟩) F8 N8 ?_) | (refine slice_strN_nn (hsz := ?hz) (s := ⟨_, _, _, _, _⟩) F8 N8 ?_)); (case hz => (rw [PySem.sizeLine_eq]; omega)); intro h7 t7 k7 F7 N7; (clear F8 N8)) | (with_reducible refine ite_pos (by rw [bne_iff_ne]; exact c0) ?_) | ((fail_if_success (with_reducible show _ ∧ _)); walk1) | (dsimp only; first | ((fail_if_success (with_reducible show _ ∧ _)); walk1) | (k_unfold; (try dsimp only))) | (leave1; walk_say "STEP leave1"; try dsimp only) | fail "no step")
      rename Fr _ _ _ _ => F1
      rename News _ _ _ _ => N1
      refine hR _ _ ?_
      rw [hsu]
      exact ⟨rfl, _, _, _, _, _, _, rfl, N1, frIf (x := Str.ofString "post") (frIf (x := Str.ofString "a") (frIf (x := Str.ofString "b") (frIf (x := Str.ofString "max_cost") (v := .int 6 tm) F1 rfl) rfl) rfl) rfl⟩
  rintro fl s' ⟨rfl, hOB⟩
  (refine ex_6 hOB fun u h tk t ta tb hOBx => ?_; clear hOB; refine an_3 hOBx fun eOB0 N1 F1 => ?_; clear hOBx; subst eOB0)
  (try dsimp only)
  repeat' (first | (k_unfold; (try dsimp only)) | ((fail_if_success (with_reducible show wpAny _ _ (exec (Stmt.Assign _ _ _) _) _ _ _)); walk1) | (dsimp only; first | ((fail_if_success (with_reducible show wpAny _ _ (exec (Stmt.Assign _ _ _) _) _ _ _)); walk1) | (k_unfold; (try dsimp only))) | (leave1; walk_say "STEP leave1"; try dsimp only) | fail "no step")
  refine wpAny_mono (Q := fun fl s' => fl = Flow.next ∧ ∃ (u : Str → Option Value) (h : Heap) (tk : Nat) (t ta tb : Tok), s' = { s with heap := h, toks := tk } ∧ News s.heap L' h [] ∧ Fr s.heap L' h (fun z => if z = Str.ofString "post" then some (Value.int P0 t) else if z = Str.ofString "a" then some (Value.str (sliceU A1 P0) ta) else if z = Str.ofString "b" then some (Value.str (sliceU B1 P0) tb) else if z = Str.ofString "max_cost" then some (Value.int 6 tm) else u z)) ?_ ?_ (fun _ _ x => x)
  · refine wp_hide fun R hR => ?_
    by_cases c0 : P0 = 0
    · subst c0
      repeat' (first | (k_unfold; (try dsimp only)) | ((with_reducible show wpAny _ _ (subscriptTail _ (PySem.Expr.Slice none (some _) none _) (Value.str _ _) _) _ _ _); (rename Fr _ _ _ _ => F8); (rename News _ _ _ _ => N8); (first | (refine slice_strN_ns (hsz := ?hz) (s := ⟨_, _, _, _, _⟩) F8 N8 ?_) | (refine slice_strN_nn (hsz := ?hz) (s := ⟨_, _, _, _, _⟩) F8 N8 ?_)); (case hz => (rw [PySem.sizeLine_eq]; omega)); intro h7 t7 k7 F7 N7; (clear F8 N8)) | ((fail_if_success (with_reducible show _ ∧ _)); walk1) | (dsimp only; first | ((fail_if_success (with_reducible show _ ∧ _)); walk1) | (k_unfold; (try dsimp only))) | (leave1; walk_say "STEP leave1"; try dsimp only) | fail "no step")
      rename Fr _ _ _ _ => F1
      rename News _ _ _ _ => N1
      exact hR _ _ ⟨rfl, _, _, _, _, _, _, rfl, N1, frIf (x := Str.ofString "post") (frIf (x := Str.ofString "a") (frIf (x := Str.ofString "b") (frIf (x := Str.ofString "max_cost") (v := .int 6 tm) F1 rfl) rfl) rfl) rfl⟩
    · have hsu : sliceU B1 P0 = Txt.slice B1 none (some P0) := if_neg c0
      repeat' (first | (k_unfold; (try dsimp only)) | ((with_reducible show wpAny _ _ (subscriptTail _ (PySem.Expr.Slice none (some _) none _) (Value.str _ _) _) _ _ _); (rename Fr _ _ _ _ => F8); (rename News _ _ _ _ => N8); (first | (refine slice_strN_ns (hsz := ?hz) (s := ⟨_, _, _, _, _⟩) F8 N8 ?_) | (refine slice_strN_nn (hsz := ?hz) (s := ⟨_, _, _, _, _⟩) F8 N8 ?_)); (case hz => (rw [PySem.sizeLine_eq]; omega)); intro h7 t7 k7 F7 N7; (clear F8 N8)) | (with_reducible refine ite_pos (by rw [bne_iff_ne]; exact c0) ?_) | ((fail_if_success (with_reducible show _ ∧ _)); walk1) | (dsimp only; first | ((fail_if_success (with_reducible show _ ∧ _)); walk1) | (k_unfold; (try dsimp only))) | (leave1; walk_say "STEP leave1"; try dsimp only) | fail "no step")
      rename Fr _ _ _ _ => F1
      rename News _ _ _ _ => N1
      refine hR _ _ ?_
      rw [hsu]
      exact ⟨rfl, _, _, _, _, _, _, rfl, N1, frIf (x := Str.ofString "post") (frIf (x := Str.ofString "a") (frIf (x := Str.ofString "b") (frIf (x := Str.ofString "max_cost") (v := .int 6 tm) F1 rfl) rfl) rfl) rfl⟩
  rintro fl s' ⟨rfl, hOB⟩
  (refine ex_6 hOB fun u h tk t ta tb hOBx => ?_; clear hOB; refine an_3 hOBx fun eOB0 N1 F1 => ?_; clear hOBx; subst eOB0)
  (try dsimp only)
  obtain ⟨n2, hA2, hB2, hn24⟩ : ∃ n2 : Nat, (sliceU A1 P0).length = n2 ∧ (sliceU B1 P0).length = n2 ∧ n2 ≤ 4 := ⟨_, rfl, by rw [sliceU_len, sliceU_len] <;> omega, by rw [sliceU_len] <;> omega⟩
  generalize sliceU A1 P0 = A2 at *
  generalize sliceU B1 P0 = B2 at *
  by_cases c3 : n2 = 0
  · have hz : levFn x y = 0 := by rw [hfin, levTail, if_pos (by omega)]
    repeat' (first | (k_unfold; (try dsimp only)) | walk1 | (dsimp only; first | walk1 | (k_unfold; (try dsimp only))) | (leave1; walk_say "STEP leave1"; try dsimp only) | fail "no step")
    all_goals first | (exfalso; omega) | exact leaveK_ (by k_asm) (by k_asm) (fun _ _ st => hret _ _ _ st ⟨_, by rw [hz, show 2 * ((A2.length : Int) + (B2.length : Int)) = 0 by omega]⟩) | trace_state
  have hz : levFn x y = levOut B2 A2 n2 n2 0 0 (rangeInts 2 2 n2) := by rw [hfin, levTail, if_neg (by omega), hA2]
  clear hfin
  have hn2c : n2 = 1 ∨ n2 = 2 ∨ n2 = 3 ∨ n2 = 4 := (lt5 (Nat.lt_succ_of_le hn24)).resolve_left c3
  repeat' (first | (k_unfold; (try dsimp only)) | ((with_reducible show wpAny _ _ (call (Value.type "list") [Value.ref _]) _ _ _); (rename IsRange _ _ _ _ _ _ _ _ => R8); (rename Fr _ _ _ _ => F8); (rename News _ _ _ _ => N8); refine list_rangeN (n := n2) rfl F8 N8 R8 ?sm ?sz ?le ?_; (case sm => (rw [hA2]; rcases hn2c with e | e | e | e <;> (subst e; decide))); (case sz => (rw [hA2]; rcases hn2c with e | e | e | e <;> (subst e; decide))); (case le => omega); intro h9 tk9 ys9 ra c9 lt9 F9 N9 hi9; (clear F8 N8 R8); (try dsimp only)) | ((fail_if_success (with_reducible show wpAny _ _ (exec (Stmt.For _ _ _ _ _) _) _ _ _)); walk1) | (dsimp only; first | ((fail_if_success (with_reducible show wpAny _ _ (exec (Stmt.For _ _ _ _ _) _) _ _ _)); walk1) | (k_unfold; (try dsimp only))) | (leave1; walk_say "STEP leave1"; try dsimp only) | fail "no step")
  rotate_left
  · exfalso; omega
  · exfalso; omega
  rename Fr _ _ _ _ => F1
  rename News _ _ _ _ => N1
  generalize hrow0 : rangeInts 2 2 n2 = row0 at hi9 hz
  have hrl : row0.length = n2 := by rw [← hrow0, rangeInts_length]
  refine wpAny_mono (Q := fun fl s' => (fl = Flow.next ∧ ∃ (u : Str → Option Value) (h : Heap) (tk : Nat) (tr : Tok), s' = { s with heap := h, toks := tk } ∧ News s.heap L' h [] ∧ Fr s.heap L' h (fun z => if z = Str.ofString "result" then some (Value.int (levOut B2 A2 n2 n2 0 0 row0) tr) else u z)) ∨ (∃ (u : Str → Option Value) (h : Heap) (tk : Nat) (tr : Tok), fl = Flow.ret (Value.int (levOut B2 A2 n2 n2 0 0 row0) tr) ∧ s' = { s with heap := h, toks := tk } ∧ News s.heap L' h [] ∧ Fr s.heap L' h u)) ?_ ?_ (fun _ _ x => x)
  · refine wp_hide fun R hR => ?_
    refine wpAny_For ?_
    repeat' (first | (k_unfold; (try dsimp only)) | ((fail_if_success (with_reducible show wpAny _ _ (pyIter _) _ _ _)); walk1) | (dsimp only; first | ((fail_if_success (with_reducible show wpAny _ _ (pyIter _) _ _ _)); walk1) | (k_unfold; (try dsimp only))) | (leave1; walk_say "STEP leave1"; try dsimp only) | fail "no step")
    rename Fr _ _ _ _ => F1
    rename News _ _ _ _ => N1
    rename IsRange _ _ _ _ _ _ _ _ => R1
    have F2 := (frIf (x := Str.ofString "row") (v := .ref ra) (frIf (x := Str.ofString "result") (frIf (x := Str.ofString "a") (v := .str A2 ta) (frIf (x := Str.ofString "b") (v := .str B2 tb) (frIf (x := Str.ofString "max_cost") (v := .int 6 tm) F1 rfl) rfl) rfl) rfl) rfl)
    clear F1
    refine forR (n := n2) (J := fun i m₁ news₁ => ∃ (r : Int) (row : List Int) (vs : List Value) (c : Nat) (tr : Tok) (u : Str → Option Value), m₁ = (fun z => if z = Str.ofString "row" then some (Value.ref ra) else if z = Str.ofString "result" then some (Value.int r tr) else if z = Str.ofString "a" then some (Value.str A2 ta) else if z = Str.ofString "b" then some (Value.str B2 tb) else if z = Str.ofString "max_cost" then some (Value.int 6 tm) else u z) ∧ news₁ = [(ra, PySem.W.listOf vs.toArray c)] ∧ IntsAre vs row ∧ row.length = n2 ∧ levOut B2 A2 n2 (n2 - i) (0 + (i : Int)) r row = levOut B2 A2 n2 n2 0 0 row0) rfl rfl rfl F2 N1 R1 ?zsm ?zsz ?zE ?z0 ?zst ?zdn
    case zsm => rw [hB2]; rcases hn2c with e | e | e | e <;> (subst e; decide)
    case zsz => rw [hB2]; rcases hn2c with e | e | e | e <;> (subst e; decide)
    case zE => first | passes_own | with_unfolding_all passes_own
    case z0 => exact ⟨0, row0, ys9, c9, _, _, rfl, rfl, hi9, hrl, by simp⟩
    case zdn =>
      rintro m₁ news₁ h tk hOB F2 N2
      (refine ex_6 hOB fun r row vs c tr u hOBx => ?_; clear hOB; refine an_5 hOBx fun eOB0 eOB1 hI hl hlev => ?_; clear hOBx; subst eOB0; subst eOB1)
      refine hR _ _ (.inl ⟨rfl, _, h, tk, tr, rfl, News.nil, frIf (x := Str.ofString "result") F2 ?_⟩)
      have e : r = levOut B2 A2 n2 n2 0 0 row0 := by rw [← hlev, Nat.sub_self]; rfl
      rw [← e]; rfl
    case zst =>
      rintro i m₁ news₁ h tk ti I hin hOB off F2 N2
      (refine ex_6 hOB fun r row vs c tr u hOBx => ?_; clear hOB; refine an_5 hOBx fun eOB0 eOB1 hI hl hlev => ?_; clear hOBx; subst eOB0; subst eOB1)
      have hof : @Ne Nat ra I := off _ (.head _)
      clear N1 off R1
      obtain ⟨k, hk, hk0, hk1⟩ : ∃ k : Int, k = 0 + (i : Int) ∧ 0 ≤ k ∧ k < n2 := ⟨_, rfl, by omega, by omega⟩
      rw [← hk] at hlev F2
      dsimp only at F2 N2
      obtain ⟨n3, hn3⟩ : ∃ n3, n2 - i = n3 + 1 := ⟨n2 - i - 1, (Nat.sub_add_cancel (Nat.sub_pos_of_lt hin)).symm⟩
      rw [hn3, levOut] at hlev
      generalize hO : ritOf _ _ = oI at N2 ⊢
      refine wp_hide fun R2 hR2 => ?_
      repeat' (first | (k_unfold; (try dsimp only)) | ((fail_if_success (with_reducible show wpAny _ _ (exec (Stmt.For _ _ _ _ _) _) _ _ _)); walk1) | (dsimp only; first | ((fail_if_success (with_reducible show wpAny _ _ (exec (Stmt.For _ _ _ _ _) _) _ _ _)); walk1) | (k_unfold; (try dsimp only))) | (leave1; walk_say "STEP leave1"; try dsimp only) | fail "no step")
      rename Fr _ _ _ _ => F1
      rename News _ _ _ _ => N1
      refine wpAny_mono (Q := fun fl s' => fl = Flow.next ∧ ∃ (u : Str → Option Value) (h : Heap) (tk : Nat) (tr tq : Tok) (vs : List Value) (c : Nat), s' = { s with heap := h, toks := tk } ∧ News s.heap L' h [(I, oI), (ra, PySem.W.listOf vs.toArray c)] ∧ IntsAre vs (levIn (Txt.item B2 k) A2 n2 0 (k * 2) (k * 2) 9223372036854775807 row).2.2 ∧ (levIn (Txt.item B2 k) A2 n2 0 (k * 2) (k * 2) 9223372036854775807 row).2.2.length = n2 ∧ Fr s.heap L' h (fun z => if z = Str.ofString "row" then some (Value.ref ra) else if z = Str.ofString "result" then some (Value.int (levIn (Txt.item B2 k) A2 n2 0 (k * 2) (k * 2) 9223372036854775807 row).1 tr) else if z = Str.ofString "minimum" then some (Value.int (levIn (Txt.item B2 k) A2 n2 0 (k * 2) (k * 2) 9223372036854775807 row).2.1 tq) else if z = Str.ofString "a" then some (Value.str A2 ta) else if z = Str.ofString "b" then some (Value.str B2 tb) else if z = Str.ofString "max_cost" then some (Value.int 6 tm) else u z)) ?_ ?_ (fun _ _ x => x)
      · refine wp_hide fun R3 hR3 => ?_
        refine wpAny_For ?_
        repeat' (first | (k_unfold; (try dsimp only)) | ((fail_if_success (with_reducible show wpAny _ _ (pyIter _) _ _ _)); walk1) | (dsimp only; first | ((fail_if_success (with_reducible show wpAny _ _ (pyIter _) _ _ _)); walk1) | (k_unfold; (try dsimp only))) | (leave1; walk_say "STEP leave1"; try dsimp only) | fail "no step")
        rename Fr _ _ _ _ => F1
        rename News _ _ _ _ => N1
        rename IsRange _ _ _ _ _ _ _ _ => R1
        have F3 := (frIf (x := Str.ofString "row") (v := .ref ra) (frIf (x := Str.ofString "result") (frIf (x := Str.ofString "distance") (frIf (x := Str.ofString "minimum") (frIf (x := Str.ofString "bchar") (frIf (x := Str.ofString "a") (v := .str A2 ta) (frIf (x := Str.ofString "b") (v := .str B2 tb) (frIf (x := Str.ofString "max_cost") (v := .int 6 tm) F1 rfl) rfl) rfl) rfl) rfl) rfl) rfl) rfl)
        clear F1
        refine forR (n := n2) (J := fun j m₁ news₁ => ∃ (d r' mn : Int) (row' : List Int) (vs : List Value) (c : Nat) (td tr tq tc : Tok) (u : Str → Option Value), m₁ = (fun z => if z = Str.ofString "row" then some (Value.ref ra) else if z = Str.ofString "result" then some (Value.int r' tr) else if z = Str.ofString "distance" then some (Value.int d td) else if z = Str.ofString "minimum" then some (Value.int mn tq) else if z = Str.ofString "bchar" then some (Value.str (Txt.item B2 k) tc) else if z = Str.ofString "a" then some (Value.str A2 ta) else if z = Str.ofString "b" then some (Value.str B2 tb) else if z = Str.ofString "max_cost" then some (Value.int 6 tm) else u z) ∧ news₁ = [(I, oI), (ra, PySem.W.listOf vs.toArray c)] ∧ IntsAre vs row' ∧ row'.length = n2 ∧ levIn (Txt.item B2 k) A2 (n2 - j) (0 + (j : Int)) d r' mn row' = (levIn (Txt.item B2 k) A2 n2 0 (k * 2) (k * 2) 9223372036854775807 row)) rfl rfl rfl F3 N1 R1 ?ysm ?ysz ?yE ?y0 ?yst ?ydn
        case ysm => rw [hA2]; rcases hn2c with e | e | e | e <;> (subst e; decide)
        case ysz => rw [hA2]; rcases hn2c with e | e | e | e <;> (subst e; decide)
        case yE => first | passes_own | with_unfolding_all passes_own
        case y0 => exact ⟨k * 2, k * 2, _, row, vs, c, _, _, _, _, _, rfl, rfl, hI, hl, by simp⟩
        case ydn =>
          rintro m₁ news₁ h tk hOB F2 N2
          (refine ex_11 hOB fun d r' mn row' vs c td tr tq tc u hOBx => ?_; clear hOB; refine an_5 hOBx fun eOB0 eOB1 hI' hl' hlev' => ?_; clear hOBx; subst eOB0; subst eOB1)
          rw [Nat.sub_self, levIn] at hlev'
          refine hR3 _ _ ?_
          rw [← hlev']
          exact ⟨rfl, _, h, tk, tr, tq, vs, c, rfl, N2, hI', hl', (frIf (x := Str.ofString "row") (v := .ref ra) (frIf (x := Str.ofString "result") (v := .int r' tr) (frIf (x := Str.ofString "minimum") (v := .int mn tq) (frIf (x := Str.ofString "a") (v := .str A2 ta) (frIf (x := Str.ofString "b") (v := .str B2 tb) (frIf (x := Str.ofString "max_cost") (v := .int 6 tm) F2 rfl) rfl) rfl) rfl) rfl) rfl)⟩
        case yst =>
          rintro j m₁ news₁ h tk tj I2 hjn hOB off F2 N2
          (refine ex_11 hOB fun d r' mn row' vs' c' td tr' tq tc u' hOBx => ?_; clear hOB; refine an_5 hOBx fun eOB0 eOB1 hI' hl' hlev' => ?_; clear hOBx; subst eOB0; subst eOB1)
          have hof1 : @Ne Nat I I2 := off (I, oI) (.head _)
          have hof2 : @Ne Nat ra I2 := off (ra, _) (.tail _ (.head _))
          clear N1 off R1
          obtain ⟨q, hq, hq0, hq1⟩ : ∃ q : Int, q = 0 + (j : Int) ∧ 0 ≤ q ∧ q < n2 := ⟨_, rfl, by omega, by omega⟩
          rw [← hq] at hlev' F2
          dsimp only at F2 N2
          obtain ⟨n4, hn4'⟩ : ∃ n4, n2 - j = n4 + 1 := ⟨n2 - j - 1, (Nat.sub_add_cancel (Nat.sub_pos_of_lt hjn)).symm⟩
          rw [hn4', levIn] at hlev'
          generalize hO2 : ritOf _ _ = oI2 at N2 ⊢
          clear hret hpre hlev hI hl
          have hql : q < row'.length := by omega
          refine wp_hide fun R4 hR4 => ?_
          repeat' (first | (k_unfold; (try dsimp only)) | (with_reducible refine split_lt ?_ ?_ <;> intro c6) | ((with_reducible show wpAny _ _ (call (Value.builtin "min") _) _ _ _); (rename Fr _ _ _ _ => F8); (rename News _ _ _ _ => N8); refine min_mn2 rfl F8 N8 ?_; intro h7 k7 t7 F7 N7; (clear F8 N8)) | ((with_reducible show wpAny _ _ (call (Value.ref 49) _) _ _ _); refine sub_spec w mean mg mb _ _ _ _ (Nat.le_trans (Nat.le_of_eq (len_item _ _)) (by decide)) (Nat.le_trans (Nat.le_of_eq (len_item _ _)) (by decide)) _ _ _ _ _ _ _ _ _ _ _ _ _ _ _ _ _ (by k_asm) (by k_asm) (by k_asm) (by k_asm) (by first | rfl | assumption) (by ktr_room) (by ktr_units) trivial ?_; intro v9 h9 tk9 st9 hp9; (rename News _ _ _ _ => N8); (rename Fr _ _ _ _ => F8); (have F9 := frStays F8 st9); (have N9 := newsStays N8 st9); (obtain ⟨t9, rfl⟩ := hp9); (clear F8 N8); (try dsimp only)) | ((fail_if_success (with_reducible show ForPost _ _ _ _ _ _ _ _ _)); walk1) | (dsimp only; first | ((fail_if_success (with_reducible show ForPost _ _ _ _ _ _ _ _ _)); walk1) | (k_unfold; (try dsimp only))) | (leave1; walk_say "STEP leave1"; try dsimp only) | fail "no step")
          · rw [if_pos c6] at hlev'
            rename Fr _ _ _ _ => F1
            rename News _ _ _ _ => N1
            refine hR4 _ _ ⟨_, _, _, [(I, oI), (ra, _)], rfl, (frIf (x := Str.ofString "row") (v := .ref ra) (frIf (x := Str.ofString "result") (frIf (x := Str.ofString "distance") (frIf (x := Str.ofString "minimum") (frIf (x := Str.ofString "bchar") (v := .str (Txt.item B2 k) tc) (frIf (x := Str.ofString "a") (v := .str A2 ta) (frIf (x := Str.ofString "b") (v := .str B2 tb) (frIf (x := Str.ofString "max_cost") (v := .int 6 tm) F1 rfl) rfl) rfl) rfl) rfl) rfl) rfl) rfl), N1, ?_, ⟨_, _, _, _, _, _, _, _, _, _, _, rfl, rfl, by assumption, by rw [List.length_set]; exact hl', ?_⟩⟩
            · intro p hp
              simp only [List.mem_cons, List.not_mem_nil, or_false] at hp
              rcases hp with h | h <;> (subst h; assumption)
            · rw [← hlev', show n2 - (j + 1) = n4 by rw [Nat.sub_add_eq, hn4']; rfl, show (0 : Int) + ((j + 1 : Nat) : Int) = q + 1 by omega]
          · rw [if_neg c6] at hlev'
            rename Fr _ _ _ _ => F1
            rename News _ _ _ _ => N1
            refine hR4 _ _ ⟨_, _, _, [(I, oI), (ra, _)], rfl, (frIf (x := Str.ofString "row") (v := .ref ra) (frIf (x := Str.ofString "result") (frIf (x := Str.ofString "distance") (frIf (x := Str.ofString "minimum") (frIf (x := Str.ofString "bchar") (v := .str (Txt.item B2 k) tc) (frIf (x := Str.ofString "a") (v := .str A2 ta) (frIf (x := Str.ofString "b") (v := .str B2 tb) (frIf (x := Str.ofString "max_cost") (v := .int 6 tm) F1 rfl) rfl) rfl) rfl) rfl) rfl) rfl) rfl), N1, ?_, ⟨_, _, _, _, _, _, _, _, _, _, _, rfl, rfl, by assumption, by rw [List.length_set]; exact hl', ?_⟩⟩
            · intro p hp
              simp only [List.mem_cons, List.not_mem_nil, or_false] at hp
              rcases hp with h | h <;> (subst h; assumption)
            · rw [← hlev', show n2 - (j + 1) = n4 by rw [Nat.sub_add_eq, hn4']; rfl, show (0 : Int) + ((j + 1 : Nat) : Int) = q + 1 by omega]
      rintro fl s' ⟨rfl, hOB⟩
      (refine ex_7 hOB fun u' h' tk' tr' tq vs' c' hOBx => ?_; clear hOB; refine an_5 hOBx fun eOB0 N1 hI' hl' F1 => ?_; clear hOBx; subst eOB0)
      (try dsimp only)
      clear F2 N2 hI hl
      revert hlev hI' hl' F1
      generalize (levIn (Txt.item B2 k) A2 n2 0 (k * 2) (k * 2) 9223372036854775807 row) = lv
      obtain ⟨lr, lm, lrow⟩ := lv
      dsimp only
      intro hlev hI' hl' F1
      by_cases c7 : 6 < lm
      · rw [if_pos c7] at hlev
        repeat' (first | (k_unfold; (try dsimp only)) | ((fail_if_success (with_reducible show ForPost _ _ _ _ _ _ _ _ _)); walk1) | (dsimp only; first | ((fail_if_success (with_reducible show ForPost _ _ _ _ _ _ _ _ _)); walk1) | (k_unfold; (try dsimp only))) | (leave1; walk_say "STEP leave1"; try dsimp only) | fail "no step")
        rename Fr _ _ _ _ => F1
        exact hR2 _ _ (hR _ _ (.inr ⟨_, _, _, _, congrArg (fun z => Flow.ret (Value.int z _)) hlev, rfl, News.nil, F1⟩))
      · rw [if_neg c7] at hlev
        repeat' (first | (k_unfold; (try dsimp only)) | ((fail_if_success (with_reducible show ForPost _ _ _ _ _ _ _ _ _)); walk1) | (dsimp only; first | ((fail_if_success (with_reducible show ForPost _ _ _ _ _ _ _ _ _)); walk1) | (k_unfold; (try dsimp only))) | (leave1; walk_say "STEP leave1"; try dsimp only) | fail "no step")
        rename Fr _ _ _ _ => F1
        rename News _ _ _ _ => N1
        refine hR2 _ _ ⟨_, _, _, [(ra, _)], rfl, (frIf (x := Str.ofString "row") (v := .ref ra) (frIf (x := Str.ofString "result") (frIf (x := Str.ofString "a") (v := .str A2 ta) (frIf (x := Str.ofString "b") (v := .str B2 tb) (frIf (x := Str.ofString "max_cost") (v := .int 6 tm) F1 rfl) rfl) rfl) rfl) rfl), N1, ?_, ⟨_, _, _, _, _, _, rfl, rfl, hI', hl', ?_⟩⟩
        · intro p hp
          rw [List.mem_singleton.mp hp]; assumption
        · rw [← hlev, show n2 - (i + 1) = n3 by rw [Nat.sub_add_eq, hn3]; rfl, show (0 : Int) + ((i + 1 : Nat) : Int) = k + 1 by omega]
  rintro fl s' h
  rcases h with ⟨rfl, u, h, tk, tr, rfl, N1, F1⟩ | ⟨u, h, tk, tr, rfl, rfl, N1, F1⟩
  · (try dsimp only)
    repeat' (first | (k_unfold; (try dsimp only)) | walk1 | (dsimp only; first | walk1 | (k_unfold; (try dsimp only))) | (leave1; walk_say "STEP leave1"; try dsimp only) | fail "no step")
    exact leaveK_ (by k_asm) (by k_asm) (fun _ _ st => hret _ _ _ st ⟨_, by rw [hz]⟩)
  · (try dsimp only)
    exact leaveK_ F1 N1 (fun _ _ st => hret _ _ _ st ⟨_, by rw [hz]⟩)
end Mine

-- J0
open PySem PySem.W PyProof.Rows PySem.Calls
set_option Elab.async false
set_option maxRecDepth 100000
set_option maxHeartbeats 8000000
namespace Mine
open LCg in
theorem compRest_ind {prog : Program} {w : World} {A : Around} {h₀ : Heap} {L : Addr} {m : Str → Option Value} {env : Env} {elt : PySem.Expr} {x : Str} {scope : Scope} {cl : List (Str × Addr)} {s : Shared} {S : List (Addr × Obj) → Prop} {P : Nat → Value → Prop}
    {Fin : List Value → List (Addr × Obj) → Prop} (J : Nat → List Value → List (Addr × Obj) → Prop) (n : Nat)
    (step : ∀ i ys news, i < n → J i ys news → ∀ v I oI C oC D m₂ h tk (E' : Value → Shared → Prop), P i v → NsObj oC m₂ → m₂ x = some v → Fr h₀ L h m → News h₀ L h ((I, oI) :: (C, oC) :: (D, lst ys) :: news) → Off3 I C D news →
      ((@Ne Nat I C) ∧ (@Ne Nat I D) ∧ (@Ne Nat C D)) →
      wpAny (model prog w) A (eval elt (compEnvC scope cl C env)) (CompEnd h₀ L m { s with heap := h, toks := tk } I oI C oC D (lst ys) S (fun y news' => J (i + 1) (ys ++ [y]) news')) E' { s with heap := h, toks := tk })
    (fin : ∀ ys news, J n ys news → Fin ys news) : ∀ k i ys news, i + k = n → J i ys news → CompRest prog w A h₀ L m env elt x scope cl s S P Fin k i ys news := by
  intro k
  induction k with
  | zero => intro i ys news e h; exact fin _ _ ((show i = n by omega) ▸ h)
  | succ k ih =>
    intro i ys news e h v I oI C oC D m₂ hh tk E' hv hC hx F N off ne
    refine wpAny_mono (step i ys news (by omega) h v I oI C oC D m₂ hh tk E' hv hC hx F N off ne) (fun y s₂ he => ?_) (fun _ _ e => e)
    obtain ⟨h', tk', news', e', F', N', o', S', r⟩ := he
    exact ⟨h', tk', news', e', F', N', o', S', ih (i + 1) _ _ (by omega) r⟩
open LCg LCt in
theorem compRestT_ind {prog : Program} {w : World} {A : Around} {h₀ : Heap} {L : Addr} {m : Str → Option Value} {env : Env} {ct elt : PySem.Expr} {x : Str} {scope : Scope} {cl : List (Str × Addr)} {s : Shared} {S : List (Addr × Obj) → Prop} {P : Nat → Value → Prop}
    {Fin : List Value → List (Addr × Obj) → Prop} (J : Nat → List Value → List (Addr × Obj) → Prop) (n : Nat)
    (step : ∀ i ys news, i < n → J i ys news → ∀ v I oI C oC D m₂ h tk (E' : Value → Shared → Prop), P i v → NsObj oC m₂ → m₂ x = some v → Fr h₀ L h m → News h₀ L h ((I, oI) :: (C, oC) :: (D, lst ys) :: news) → Off3 I C D news →
      ((@Ne Nat I C) ∧ (@Ne Nat I D) ∧ (@Ne Nat C D)) →
      wpAny (model prog w) A (isTrue ct (compEnvC scope cl C env) (eval ct (compEnvC scope cl C env))) (fun ok s' => if ok = true then
        wpAny (model prog w) A (eval elt (compEnvC scope cl C env)) (CompEnd h₀ L m { s with heap := h, toks := tk } I oI C oC D (lst ys) S (fun y news' => J (i + 1) (ys ++ [y]) news')) E' s'
        else CompEnd h₀ L m { s with heap := h, toks := tk } I oI C oC D (lst ys) S (fun _ news' => J (i + 1) ys news') Value.none s') E' { s with heap := h, toks := tk })
    (fin : ∀ ys news, J n ys news → Fin ys news) : ∀ k i ys news, i + k = n → J i ys news → CompRestT prog w A h₀ L m env ct elt x scope cl s S P Fin k i ys news := by
  intro k
  induction k with
  | zero => intro i ys news e h; exact fin _ _ ((show i = n by omega) ▸ h)
  | succ k ih =>
    intro i ys news e h v I oI C oC D m₂ hh tk E' hv hC hx F N off ne
    refine wpAny_mono (step i ys news (by omega) h v I oI C oC D m₂ hh tk E' hv hC hx F N off ne) (fun ok s₂ he => ?_) (fun _ _ e => e)
    cases ok with
    | true =>
      simp only [if_true] at he ⊢
      refine wpAny_mono he (fun y s₃ hz => ?_) (fun _ _ e => e)
      obtain ⟨h', tk', news', e', F', N', o', S', r⟩ := hz
      exact ⟨h', tk', news', e', F', N', o', S', ih (i + 1) _ _ (by omega) r⟩
    | false =>
      simp only [Bool.false_eq_true, if_false] at he ⊢
      obtain ⟨h', tk', news', e', F', N', o', S', r⟩ := he
      exact ⟨h', tk', news', e', F', N', o', S', ih (i + 1) _ _ (by omega) r⟩
theorem pickInts {vs : List Value} {ns : List Int} (h : IntsAre vs ns) (is : List Nat) : ∃ ms, IntsAre (is.filterMap (vs.toArray[·]?)) ms ∧ ms.length ≤ is.length ∧ ∀ x ∈ ms, x ∈ ns := by
  induction is with
  | nil => exact ⟨[], .nil, Nat.le_refl _, fun _ h => nomatch h⟩
  | cons i is ih =>
    obtain ⟨ms, a, b, c⟩ := ih
    cases e : vs.toArray[i]? with
    | none => exact ⟨ms, by rw [List.filterMap_cons_none e]; exact a, by simp; omega, c⟩
    | some v =>
      obtain ⟨hi, hv⟩ := List.getElem?_eq_some_iff.mp (by simpa using e : vs[i]? = some v)
      have hi' : i < ns.length := by rw [← h.length]; exact hi
      obtain ⟨t, et⟩ := intsGet h hi'
      rw [e] at et
      have hv' : v = .int (ns.getD i 0) t := Option.some.inj et
      refine ⟨ns.getD i 0 :: ms, ?_, by simp; omega, ?_⟩
      · rw [List.filterMap_cons_some e, hv']; exact .cons _ _ a
      · intro x hx
        rcases List.mem_cons.mp hx with rfl | hx
        · rw [List.getD_eq_getElem?_getD, List.getElem?_eq_getElem hi', Option.getD_some]; exact List.getElem_mem hi'
        · exact c x hx
theorem pickFour {vs : List Value} {ns : List Int} (h : IntsAre vs ns) (hn : ns.length ≤ 63) (k : Int) (h0 : 0 ≤ k) : ∃ ms, IntsAre (slicePick vs.toArray (some k) none (some 4)).toList ms ∧ ms.length ≤ 16 ∧ ∀ x ∈ ms, x ∈ ns := by
  obtain ⟨ms, a, b, c⟩ := pickInts h (sliceRange (sliceBounds (some k) none (some 4) vs.toArray.size).1 (sliceBounds (some k) none (some 4) vs.toArray.size).2.1 (sliceBounds (some k) none (some 4) vs.toArray.size).2.2)
  refine ⟨ms, a, ?_, c⟩
  refine Nat.le_trans b ?_
  have hl := h.length
  simp only [sliceBounds, sliceRange, Option.getD_some, List.length_map, List.length_range, List.size_toArray]
  have e4 : ((4 : Int) > 0) = True := by simp
  simp only [e4, if_true]
  split <;> (try split) <;> omega
section
variable {prog : Program} {w : World} {A : Around} {E : Value → Shared → Prop} {s : Shared} {h₀ : Heap} {L l : Addr} {m : Str → Option Value} {news : List (Addr × Obj)} {value slice : PySem.Expr} {vs : List Value} {ns : List Int} {k : Int} {t u : Tok} {Q : Value → Shared → Prop}
theorem slice_four {ops : List Value} (F : Fr h₀ L s.heap m) (N : News h₀ L s.heap news) (hl : s.heap.IsList l vs.toArray) (hI : IntsAre vs ns) (hn : ns.length ≤ 63) (h0 : 0 ≤ k)
    (h : ∀ D ws ms h', Fr h₀ L h' m → News h₀ L h' ((D, W.listOf (List.toArray ws) 0) :: news) → (∀ p ∈ news, p.1 < D) → IntsAre ws ms → ms.length ≤ 16 → (∀ x ∈ ms, x ∈ ns) → Q (.ref D) { s with heap := h' })
    (hs : subscripted slice false (.ref l) (.ref s.heap.objs.size) = operate ops (getItem (.ref l) (.ref s.heap.objs.size))) (ht : ∀ r, letTemporaryGo value (.ref l) r = pure ()) :
    wpAny (model prog w) A (subscriptTail value slice (.ref l) (.ref s.heap.objs.size)) Q E { s with heap := s.heap.push { cls := .type "slice", data := .fields #[.int k t, .none, .int 4 u] } } := by
  obtain ⟨ms, a, b, c⟩ := pickFour hI hn k h0
  exact kmk_slice3_lit F N hl (IsPart.int _ _) IsPart.none (IsPart.int _ _) (by decide) rfl (fun D h' F' N' l1 => h D _ ms h' F' N' l1 a b c) hs ht (by rw [List.size_toArray, hI.length, PySem.sizeLine_eq]; omega)
end
theorem modBound {ns : List Int} {x : Int} (h : x ∈ ns.map (fun k' => k'.fmod 1000000)) : 0 ≤ x ∧ x < 1000000 := by
  obtain ⟨y, _, rfl⟩ := List.mem_map.mp h
  exact ⟨Int.fmod_nonneg_of_pos _ (by decide), Int.fmod_lt_of_pos _ (by decide)⟩
theorem sumBound {ms : List Int} {M : Int} (h : ∀ x ∈ ms, 0 ≤ x ∧ x < M) : 0 ≤ ms.sum ∧ ms.sum ≤ ms.length * (M - 1) := by
  induction ms with
  | nil => simp
  | cons x ms ih =>
    have a := h x (.head _)
    have b := ih fun y hy => h y (.tail _ hy)
    simp only [List.sum_cons, List.length_cons, Int.natCast_add, Int.natCast_one, Int.add_mul, Int.one_mul]
    generalize ((ms.length : Int) * (M - 1)) = z at *
    omega
theorem sumMill {ns ms : List Int} (h : ∀ x ∈ ms, x ∈ ns.map (fun k' => k'.fmod 1000000)) (hl : ms.length ≤ 16) : 0 ≤ ms.sum ∧ ms.sum < 16000000 := by
  have := sumBound (M := 1000000) fun x hx => modBound (h x hx)
  omega
end Mine

-- J1
open PySem PySem.W PyProof.Rows PySem.Calls
set_option Elab.async false
set_option maxRecDepth 100000
set_option maxHeartbeats 8000000
namespace Mine
set_option pp.deepTerms false in
theorem drawn_spec (w : World) (mean : ExcName → Option Value) (mg mb : Str → Option Value) (vs : List Value) (ns : List Int) (l : Addr) (hI : IntsAre vs ns) (hlen : ns.length ≤ 63) :
   Told1 2 w mean mg mb 61 [.ref l] (fun h => h.IsList l vs.toArray) (fun h v h' => ∃ a d1 d2 d3 d4, v = .ref a ∧ h.get? a = none ∧ IntsAt h' a [0, d1, d2, d3, d4] ∧ (0 ≤ d1 ∧ d1 < 16777216) ∧ (0 ≤ d2 ∧ d2 < 16777216) ∧ (0 ≤ d3 ∧ d3 < 16777216) ∧ (0 ≤ d4 ∧ d4 < 16777216)) := by
  unfold Told1
  w_top off
  k_with_none
  k_fill
  intro dp un gd cn cs a0 ccd cl outer A₀ base h₀ L m s Q E B F X T hcs hdp hun hpre hret
  refine wpAny_call ?_
  k_dflt (refine' enterC (binds := [(Str.ofString "script", .ref l)]) ?k1 ?k2 ?k3 ?k5 ?kA ?kF ?kK ?k6 ?k7 ?k8 ?k9 ?kB ?kD ?_ ?c2 ?c3 ?c4; (case kA => exact rfl); (case kF => exact rfl); (case kK => assumption); (case k1 => k_asm); (case k2 => k_asm); (case k3 => k_asm); (case k5 => k_asm); (case k6 => k_is); (case k7 => k_is); (case k8 => ktr_room); (case k9 => exact BindsTo.of_eq rfl); (case kB => exact rfl); (case kD => decide +kernel); (case c2 => exact rfl); (case c3 => exact rfl); (case c4 => exact rfl); k_whole; intro L' h' tk' cells' hL' F' N' Y' B' X' T'; k_cells Y'; (try simp only [List.cons_append, List.nil_append] at N'); (try dsimp only); (try k_fold))
  have hvl := hI.length
  repeat' (first | (k_unfold; (try dsimp only)) | ((fail_if_success (with_reducible show wpAny _ _ (eval (PySem.Expr.ListComp (PySem.Expr.BinOp (PySem.Expr.Subscript _ _ _) _ _ _) _ _ _) _) _ _ _)); walk1) | (dsimp only; first | ((fail_if_success (with_reducible show wpAny _ _ (eval (PySem.Expr.ListComp (PySem.Expr.BinOp (PySem.Expr.Subscript _ _ _) _ _ _) _ _ _) _) _ _ _)); walk1) | (k_unfold; (try dsimp only))) | (leave1; walk_say "STEP leave1"; try dsimp only) | fail "no step")
  rename_i hIy hLy Db hb tkb o1b hc oc dc lc hd Fd Nd l1d
  have N2 : News s.heap L' hd [(lc, W.listOf #[.int 0 tk] 0), (Db, LCg.lst ys), (L' + 1, oc)] := fun p hp => Nd p (by simp only [List.mem_cons, List.not_mem_nil, or_false] at hp ⊢; rcases hp with h | h | h <;> simp [h])
  clear Nd l1d o1b
  (k_dflt (refine LCg.ListComp_U (F₀ := by k_asm) (by with_unfolding_all rfl) (by decide) (by rfl) (by decide) (by rfl) ?_); repeat' (first | (k_unfold; (try dsimp only)) | ((fail_if_success (with_reducible show LCg.CompSrc _ _ _ _ _ _ _ _ _ _ _ _ _ _)); walk1) | (dsimp only; first | ((fail_if_success (with_reducible show LCg.CompSrc _ _ _ _ _ _ _ _ _ _ _ _ _ _)); walk1) | (k_unfold; (try dsimp only))) | (leave1; walk_say "STEP leave1"; try dsimp only) | fail "no step"))
  (k_dflt (refine LCg.CompSrc.range (by rfl) (by k_asm) (by k_asm) (by assumption) (by first | decide | rfl) (by first | rfl | decide) (by first | size_fits | exact Nat.le_of_ble_eq_true rfl) ?_); intro g')
  refine compRest_ind (J := fun i yt news => news = [(lc, W.listOf #[.int 0 tk] 0), (Db, LCg.lst ys), (L' + 1, oc)] ∧ ∃ ds, IntsAre yt ds ∧ ds.length = i ∧ ∀ d ∈ ds, 0 ≤ d ∧ d < 16777216) 4 ?_ ?_ 4 0 [] _ rfl ⟨rfl, [], .nil, rfl, fun _ h => nomatch h⟩
  · rintro i yt news hi ⟨rfl, ds, hds, hdl, hdb⟩ v I oI C oC D m₂ h tk0 E' ⟨t, rfl⟩ hC hx F3 N3 off ne
    clear hret
    have off0 := off
    simp only [LCg.Off3, and_true] at off
    have hi4 : i = 0 ∨ i = 1 ∨ i = 2 ∨ i = 3 := by omega
    rcases hi4 with rfl | rfl | rfl | rfl
    all_goals (
      repeat' (first | (k_unfold; (try dsimp only)) | ((with_reducible show wpAny _ _ (subscriptTail _ (PySem.Expr.Slice _ _ (some _) _) (Value.ref _) (Value.ref _)) _ _ _); k_dflt (refine' slice_four ?F ?N ?l ?i ?n ?h ?_ ?s ?t; (case F => k_asm); (case N => k_asm); (case l => kmk_list); (case i => l_ints); (case n => (rw [List.length_map, List.length_take]; omega)); (case h => omega); (case s => with_unfolding_all rfl); (case t => kmk_pure)); intro D' ws' ms' h' F' N' l1 hI' hl' hm'; (try k_lt l1); (have hS' := sumMill hm' hl'); (try k_sweep)) | ((fail_if_success (with_reducible show LCg.CompEnd _ _ _ _ _ _ _ _ _ _ _ _ _ _)); walk1) | (dsimp only; first | ((fail_if_success (with_reducible show LCg.CompEnd _ _ _ _ _ _ _ _ _ _ _ _ _ _)); walk1) | (k_unfold; (try dsimp only))) | (leave1; walk_say "STEP leave1"; try dsimp only) | fail "no step"))
    all_goals (
      rename News _ _ _ _ => N1
      rename Fr _ _ _ _ => F1
      refine LCg.CompEnd.intro F1 N1 [(lc, W.listOf #[.int 0 tk] 0), (Db, LCg.lst ys), (L' + 1, oc)] (by lcg_sub) off0 trivial ⟨rfl, _, hds.append (.cons _ _ .nil), by rw [List.length_append, hdl]; rfl, ?_⟩
      intro d hd
      rcases List.mem_append.mp hd with hd | hd
      · exact hdb d hd
      · rw [List.mem_singleton.mp hd]; constructor <;> omega)
  rintro yt news ⟨rfl, ds, hds, hdl, hdb⟩
  repeat' (first | (k_unfold; (try dsimp only)) | ((fail_if_success (with_reducible show LeaveK _ _ _ _ _ _ _)); walk1) | (dsimp only; first | ((fail_if_success (with_reducible show LeaveK _ _ _ _ _ _ _)); walk1) | (k_unfold; (try dsimp only))) | (leave1; walk_say "STEP leave1"; try dsimp only) | fail "no step")
  rename News _ _ _ _ => N1
  rename Fr _ _ _ _ => F1
  rename_i _ Dz wz hz hfin _
  match ds, hdl, hfin, hdb with
  | [d1, d2, d3, d4], _, hfin, hdb =>
    exact leaveK_ F1 N1 (fun _ _ st => hret _ _ _ st ⟨_, d1, d2, d3, d4, rfl, N1.fresh (o := W.listOf wz.toArray 0) (List.Mem.head _), ⟨wz, 0, N1.get (List.Mem.head _), hfin⟩, hdb _ (by simp), hdb _ (by simp), hdb _ (by simp), hdb _ (by simp)⟩)
end Mine

-- M0
open PySem PySem.W PyProof.Rows PySem.Calls
set_option Elab.async false
set_option maxRecDepth 100000
set_option maxHeartbeats 8000000
namespace Mine
/-- four addresses that are none of a ledger's -/
noncomputable def Off4 (I C c D : Addr) (news : List (Addr × Obj)) : Prop := ∀ p ∈ news, @Ne Nat p.1 I ∧ @Ne Nat p.1 C ∧ @Ne Nat p.1 c ∧ @Ne Nat p.1 D
/-- what a turn of the comprehension leaves -/
noncomputable def CellEnd (h₀ : Heap) (L : Addr) (m : Str → Option Value) (I : Addr) (oI : Obj) (C : Addr) (oC : Obj) (c : Addr) (oc : Obj) (D : Addr) (ys : List Value) (J : Value → List (Addr × Obj) → Prop) (s : Shared) (y : Value) (s' : Shared) : Prop :=
  ∃ h' tk' news', s' = { s with heap := h', toks := tk' } ∧ Fr h₀ L h' m ∧ News h₀ L h' ((I, oI) :: (C, oC) :: (c, oc) :: (D, LCg.lst ys) :: news') ∧ Off4 I C c D news' ∧ J y news'
section
variable {prog : Program} {w : World} {A : Around} {E : Value → Shared → Prop} {s : Shared} {h₀ : Heap} {L : Addr} {m : Str → Option Value} {env : Env}
theorem newEnvCell {M : Model} {scope : Scope} {cl : List (Str × Addr)} {x : Str} {Q : Env → Shared → Prop}
    (hcells : ∀ k acc, cellsFrom k scope.names acc = (x, k) :: acc) (hpush : ∀ h : Heap, pushCells h scope.names = h.push { cls := .type "cell", data := .cell none })
    (h : Q (newEnv scope s.heap.objs.size env.globals ((x, s.heap.objs.size + 1) :: cl) env.qual none .none (some env) builtinsNs)
      { s with heap := (s.heap.push { cls := .type "dict", data := .dict #[] }).push { cls := .type "cell", data := .cell none } }) :
    wpAny M A (newFunctionEnv scope env.globals cl [] env.qual none .none (some env)) Q E s := by
  simp only [newFunctionEnv, Option.isSome_some, if_true]
  refine wpAny_bind (wpAny_alloc ?_)
  refine wpAny_bind (wpAny_layCells _ (fun name kind cells => by cases hkc : kind == NameKind.cell <;> simp [hkc]) _ _ _ _ ?_)
  rw [hcells, hpush]
  rw [List.forIn_nil]
  refine wpAny_bind (wpAny_pure (wpAny_pure ?_))
  rw [show ({ s with heap := s.heap.push { cls := .type "dict", data := .dict #[] } } : Shared).heap.objs.size = s.heap.objs.size + 1 from Heap.size_push ..]
  exact h
theorem compCellCore {elt iter : PySem.Expr} {x : Str} {px : Pos} {scope : Scope} {cl : List (Str × Addr)} {pos : Pos} {use : Option (Value → Sem Unit)} {Q : Value → Shared → Prop} {n : Nat} {a b : Int} (J : Nat → List Value → List (Addr × Obj) → Prop) (F₀ : Fr h₀ L s.heap m)
    (hh : A.handled = none) (hclos : closureFor scope env = pure cl) (hkind : scope.kind = .function) (hnames : ∀ y ∈ scope.names, y.2 = .local → scope.names.lookup y.1 = some .local)
    (hcells : ∀ k acc, cellsFrom k scope.names acc = (x, k) :: acc) (hpush : ∀ h : Heap, pushCells h scope.names = h.push { cls := .type "cell", data := .cell none })
    (hxk : ∀ C c, (compEnvC scope ((x, c) :: cl) C env).kindOf x = some .cell) (hn : n ≤ 1000)
    (hiter : wpAny (model prog w) A (eval iter env) (fun xv s₁ => ∃ r t u v h tk news, s₁ = { s with heap := h, toks := tk } ∧ xv = .ref r ∧ Fr h₀ L h m ∧ News h₀ L h news ∧ IsRange h r a b 1 t u v ∧ Builtin.Range.small a b 1 = true ∧ Builtin.Range.rangeSize a b 1 = (n : Int) ∧ J 0 [] news) E s)
    (step : ∀ i ys news I oI C oC c oc D h tk t (E' : Value → Shared → Prop), i < n → J i ys news → oc.data = .cell (some (.int (a + (i : Nat)) t)) → Fr h₀ L h m → News h₀ L h ((I, oI) :: (C, oC) :: (c, oc) :: (D, LCg.lst ys) :: news) → Off4 I C c D news →
      (@Ne Nat I C ∧ @Ne Nat I c ∧ @Ne Nat I D) ∧ (@Ne Nat C c ∧ @Ne Nat C D) ∧ @Ne Nat c D →
      wpAny (model prog w) A (eval elt (compEnvC scope ((x, c) :: cl) C env)) (CellEnd h₀ L m I oI C oC c oc D ys (fun y news' => J (i + 1) (ys ++ [y]) news') { s with heap := h, toks := tk }) E' { s with heap := h, toks := tk })
    (fin : ∀ ys news C oC D h tk, J n ys news → Fr h₀ L h m → News h₀ L h ((C, oC) :: (D, LCg.lst ys) :: news) → LCg.NsObj oC (fun _ => none) → @Ne Nat C D → (∀ p ∈ news, @Ne Nat p.1 C ∧ @Ne Nat p.1 D) → compPost (model prog w) A E use Q (.ref D) C (.ok .next) { s with heap := h, toks := tk })
    (hs : ∀ x, foldedSetIterable iter env x = pure x) :
    wpAny (model prog w) A (comprehension (.ListComp elt [⟨.Name x px, iter, [], 0⟩] scope pos) scope env (firstIterPos [⟨.Name x px, iter, [], 0⟩] pos) (newList []) false (eval iter env) use) Q E s := by
  refine wpAny_comprehension_free (use := use) rfl hs hclos hkind hnames (wpAny_mono hiter (fun xv s₁ h₁ => ?_) fun _ _ e => e)
  have hOB := h₁
  (refine ex_7 hOB fun r t u v h tk news hOBx => ?_; clear hOB; refine an_8 hOBx fun eOB0 eOB1 F N hr hsm hsz J0 => ?_; clear hOBx; subst eOB0; subst eOB1)
  refine wpAny_pyIter_range hr hsm ?_
  rw [hsz]
  have F₁ := F.push (ritOf a n)
  have N₁ := News.push F N (ritOf a n) rfl
  have off₁ : ∀ p ∈ news, @Ne Nat p.1 h.objs.size := fun p hp => Nat.ne_of_lt (Heap.lt_size (N p hp).1)
  generalize hI : h.objs.size = I at N₁ off₁ ⊢
  refine wpAny_newObj_type ?_
  dsimp only
  have F₂ := F₁.push (LCg.lst [])
  have N₂ := News.push F₁ N₁ (LCg.lst []) rfl
  have off₂ : ∀ p ∈ (I, ritOf a n) :: news, @Ne Nat p.1 (h.push (ritOf a n)).objs.size := fun p hp => Nat.ne_of_lt (Heap.lt_size (N₁ p hp).1)
  generalize hH₁ : h.push (ritOf a n) = H₁ at F₁ N₁ F₂ N₂ off₂ ⊢
  generalize hD : H₁.objs.size = D at N₂ off₂ ⊢
  refine newEnvCell hcells hpush ?_
  dsimp only
  rw [show (H₁.push { cls := .type "list", dict := none, data := .seq ([] : List Value).toArray 0 }) = H₁.push (LCg.lst []) from rfl]
  have F₃ := F₂.push { cls := .type "dict", data := .dict #[] }
  have N₃ := News.push F₂ N₂ { cls := .type "dict", data := .dict #[] } rfl
  have nC := Heap.Ns.new (H₁.push (LCg.lst [])) (.type "dict")
  have off₃ : ∀ p ∈ (D, LCg.lst []) :: (I, ritOf a n) :: news, @Ne Nat p.1 (H₁.push (LCg.lst [])).objs.size := fun p hp => Nat.ne_of_lt (Heap.lt_size (N₂ p hp).1)
  generalize hH₂ : H₁.push (LCg.lst []) = H₂ at F₂ N₂ F₃ N₃ nC off₃ ⊢
  have hc : (H₂.push { cls := .type "dict", data := .dict #[] }).objs.size = H₂.objs.size + 1 := Heap.size_push ..
  generalize hC : H₂.objs.size = C at N₃ nC off₃ hc ⊢
  have F₄ := F₃.push { cls := .type "cell", data := .cell none }
  have N₄ := News.push F₃ N₃ { cls := .type "cell", data := .cell none } rfl
  have off₄ : ∀ p ∈ (C, _) :: (D, LCg.lst []) :: (I, ritOf a n) :: news, @Ne Nat p.1 (H₂.push { cls := .type "dict", data := .dict #[] }).objs.size := fun p hp => Nat.ne_of_lt (Heap.lt_size (N₃ p hp).1)
  obtain ⟨oC, hoC, hnC⟩ := LCg.ns_obj nC
  have eoC : oC = { cls := .type "dict", data := .dict #[] } := by
    have := (N₃ _ (.head _)).1
    rw [hoC] at this; exact Option.some.inj this
  rw [hc] at N₄ off₄
  subst eoC
  generalize hc' : C + 1 = c at N₄ off₄ hc ⊢
  generalize hH₃ : (H₂.push { cls := .type "dict", data := .dict #[] }).push { cls := .type "cell", data := .cell none } = H₄ at F₄ N₄ ⊢
  have nIC : @Ne Nat I C := off₃ (I, _) (.tail _ (.head _))
  have nIc : @Ne Nat I c := off₄ (I, _) (.tail _ (.tail _ (.head _)))
  have nID : @Ne Nat I D := off₂ (I, _) (.head _)
  have nCc : @Ne Nat C c := off₄ (C, _) (.head _)
  have nDC : @Ne Nat D C := off₃ (D, _) (.head _)
  have nDc : @Ne Nat D c := off₄ (D, _) (.tail _ (.head _))
  have off : Off4 I C c D news := fun p hp => ⟨off₁ p hp, off₃ p (.tail _ (.tail _ hp)), off₄ p (.tail _ (.tail _ (.tail _ hp))), off₂ p (.tail _ hp)⟩
  have N₅ : News h₀ L H₄ ((I, ritOf a n) :: (C, { cls := .type "dict", data := .dict #[] }) :: (c, { cls := .type "cell", data := .cell none }) :: (D, LCg.lst []) :: news) := fun p hp => N₄ p (by
    simp only [List.mem_cons] at hp ⊢
    rcases hp with h | h | h | h | h
    · exact .inr (.inr (.inr (.inl h)))
    · exact .inr (.inl h)
    · exact .inl h
    · exact .inr (.inr (.inl h))
    · exact .inr (.inr (.inr (.inr h))))
  clear N₄ off₄ off₃ off₂ off₁ N₃ N₂ N₁ N F₃ F₂ F₁ F hr
  generalize hoc : ({ cls := .type "dict", data := .dict #[] } : Obj) = oC at hnC N₅ ⊢
  have loop : ∀ s₃ : Shared, s₃ = { s with heap := H₄, toks := tk } →
      codeAny (model prog w) A (.compLoop (.ListComp elt [⟨.Name x px, iter, [], 0⟩] scope pos) 0 (.ref I) (.ref D) (compEnvC scope ((x, c) :: cl) C env))
        (compPost (model prog w) A E use Q (.ref D) C) s₃ := by
    rintro s₃ rfl
    refine codeAny_compLoop_tests
      (fun k s' => ∃ h' tk i ys v₀ oc news', s' = { s with heap := h', toks := tk } ∧ i ≤ n ∧ k = n + 1 - i ∧ ys.length = i ∧ J i ys news' ∧ oc.data = .cell v₀ ∧ Fr h₀ L h' m ∧
        News h₀ L h' ((I, ritOf (a + (i : Nat)) ((n : Int) - (i : Nat))) :: (C, oC) :: (c, oc) :: (D, LCg.lst ys) :: news') ∧ Off4 I C c D news') ?_ (n + 1)
      ⟨H₄, tk, 0, [], none, _, news, rfl, Nat.zero_le _, rfl, rfl, J0, rfl, F₄, by simpa using N₅, off⟩
    rintro k s' hOB
    (refine ex_7 hOB fun h' tk' i ys v₀ oc news' hOBx => ?_; clear hOB; refine an_9 hOBx fun eOB0 hi eOB2 hyl J' hoc' F' N' off' => ?_; clear hOBx; subst eOB0; subst eOB2)
    have hit : IsRangeIter h' I (a + (i : Nat)) ((n : Int) - (i : Nat)) 1 := (N' _ (.head _)).1
    have zI := (N' _ (.head _)).2
    have zC := (N' _ (.tail _ (.head _))).2
    have zc := (N' _ (.tail _ (.tail _ (.head _)))).2
    have zD := (N' _ (.tail _ (.tail _ (.tail _ (.head _))))).2
    have offI : ∀ p ∈ (C, oC) :: (c, oc) :: (D, LCg.lst ys) :: news', p.1 ≠ I := by
      intro p hp
      simp only [List.mem_cons] at hp
      rcases hp with rfl | rfl | rfl | hp
      · exact nIC.symm
      · exact nIc.symm
      · exact nID.symm
      · exact (off' p hp).1
    by_cases hlt : i < n
    · refine wpAny_pyNext_range_item hit (by omega) fun h₁ hit₁ hs₁ => ?_
      have F₁ := F'.change hs₁ zI.1 zI.2
      have N₁ := N'.setHead offI hs₁ hit₁
      have hcell : h₁.IsCell c v₀ := ⟨oc, (N₁ _ (.tail _ (.tail _ (.head _)))).1, hoc'⟩
      refine wpAny_assign_Name (wpAny_storeName_cell hkind (hxk C c) (by simp [compEnvC]) hcell fun h₂ hv₂ hs₂ => ?_)
      obtain ⟨oc₂, ho₂, hd₂⟩ := hv₂
      have F₂ := F₁.change hs₂ zc.1 zc.2
      have N₂ := News.setAt (own := [(I, _), (C, oC)]) N₁ (by
        intro p hp
        simp only [List.mem_cons, List.not_mem_nil, or_false] at hp
        rcases hp with rfl | rfl
        · exact nIc
        · exact nCc) (by
        intro p hp
        rcases List.mem_cons.mp hp with rfl | hp
        · exact nDc
        · exact (off' p hp).2.2.1) hs₂ ho₂
      refine wpAny_tests_nil ?_
      simp only [if_true]
      refine wpAny_mono (step i ys news' I _ C oC c oc₂ D h₂ _ _ _ hlt J' hd₂ F₂ N₂ off' ⟨⟨nIC, nIc, nID⟩, ⟨nCc, nDC.symm⟩, nDc.symm⟩) (fun y s₄ h₄ => ?_) fun _ _ e => e
      have hOB := h₄
      (refine ex_3 hOB fun h₄ tk₄ news₄ hOBx => ?_; clear hOB; refine an_5 hOBx fun eOB0 F₄' N₄' off₄' J₄ => ?_; clear hOBx; subst eOB0)
      have wD := (N₄' _ (.tail _ (.tail _ (.tail _ (.head _))))).1
      refine append_at (hsz := by show ys.toArray.size ≤ sizeLine; rw [List.size_toArray, hyl, PySem.sizeLine_eq]; omega) wD fun h₅ hs₅ hD₅ => ?_
      have hD₅' : h₅.get? D = some (LCg.lst (ys ++ [y])) := hD₅.trans (congrArg some (LCg.lst_snoc ys y))
      have N₅' := News.setAt (own := [(I, _), (C, oC), (c, oc₂)]) N₄' (by
        intro p hp
        simp only [List.mem_cons, List.not_mem_nil, or_false] at hp
        rcases hp with rfl | rfl | rfl
        · exact nID
        · exact nDC.symm
        · exact nDc.symm) (fun p hp => (off₄' p hp).2.2.2) hs₅ hD₅'
      have e1 : a + (i : Nat) + 1 = a + ((i + 1 : Nat) : Int) := by push_cast; omega
      have e2 : (n : Int) - (i : Nat) - 1 = (n : Int) - ((i + 1 : Nat) : Int) := by push_cast; omega
      rw [e1, e2] at N₅'
      exact ⟨n + 1 - (i + 1), by omega, h₅, tk₄, i + 1, ys ++ [y], _, oc₂, news₄, rfl, hlt, rfl, by rw [List.length_append, hyl]; rfl, J₄, hd₂, F₄'.change hs₅ zD.1 zD.2, N₅', off₄'⟩
    · obtain rfl : i = n := Nat.le_antisymm hi (Nat.not_lt.mp hlt)
      refine wpAny_pyNext_range_end hh hit (by omega) fun h₁ he₁ => ?_
      have F₁ : Fr h₀ L h₁ m := ⟨F'.ns.extBut he₁ (Ne.symm zI.1), fun b o e => he₁ b o (fun q => by rw [q, zI.2] at e; cases e) (F'.keep b o e), F'.above⟩
      have N₁ : News h₀ L h₁ ((C, oC) :: (c, oc) :: (D, LCg.lst ys) :: news') := fun p hp => ⟨he₁ _ _ (offI p hp) (N' p (.tail _ hp)).1, (N' p (.tail _ hp)).2⟩
      exact fin ys news' C oC D h₁ tk' J' F₁ (fun p hp => N₁ p (by
        simp only [List.mem_cons] at hp ⊢
        rcases hp with h | h | h
        · exact .inl h
        · exact .inr (.inr (.inl h))
        · exact .inr (.inr (.inr h)))) hnC nDC.symm (fun p hp => ⟨(off' p hp).2.1, (off' p hp).2.2.2⟩)
  have hself : IsRangeIter H₄ I a n 1 := (N₅ _ (.head _)).1
  exact codeAny_compStart_list (loop _ rfl) (wpAny_pyIter_rangeiter hself (loop _ rfl))

theorem compCell {elt iter : PySem.Expr} {x : Str} {px : Pos} {scope : Scope} {cl : List (Str × Addr)} {pos : Pos} {Q : Value → Shared → Prop} {n : Nat} {a b : Int} (J : Nat → List Value → List (Addr × Obj) → Prop) (F₀ : Fr h₀ L s.heap m)
    (hh : A.handled = none) (hclos : closureFor scope env = pure cl) (hkind : scope.kind = .function) (hnames : ∀ y ∈ scope.names, y.2 = .local → scope.names.lookup y.1 = some .local)
    (hcells : ∀ k acc, cellsFrom k scope.names acc = (x, k) :: acc) (hpush : ∀ h : Heap, pushCells h scope.names = h.push { cls := .type "cell", data := .cell none })
    (hxk : ∀ C c, (compEnvC scope ((x, c) :: cl) C env).kindOf x = some .cell) (hn : n ≤ 1000)
    (hiter : wpAny (model prog w) A (eval iter env) (fun xv s₁ => ∃ r t u v h tk news, s₁ = { s with heap := h, toks := tk } ∧ xv = .ref r ∧ Fr h₀ L h m ∧ News h₀ L h news ∧ IsRange h r a b 1 t u v ∧ Builtin.Range.small a b 1 = true ∧ Builtin.Range.rangeSize a b 1 = (n : Int) ∧ J 0 [] news) E s)
    (step : ∀ i ys news I oI C oC c oc D h tk t (E' : Value → Shared → Prop), i < n → J i ys news → oc.data = .cell (some (.int (a + (i : Nat)) t)) → Fr h₀ L h m → News h₀ L h ((I, oI) :: (C, oC) :: (c, oc) :: (D, LCg.lst ys) :: news) → Off4 I C c D news →
      (@Ne Nat I C ∧ @Ne Nat I c ∧ @Ne Nat I D) ∧ (@Ne Nat C c ∧ @Ne Nat C D) ∧ @Ne Nat c D →
      wpAny (model prog w) A (eval elt (compEnvC scope ((x, c) :: cl) C env)) (CellEnd h₀ L m I oI C oC c oc D ys (fun y news' => J (i + 1) (ys ++ [y]) news') { s with heap := h, toks := tk }) E' { s with heap := h, toks := tk })
    (fin : ∀ ys news D h tk, J n ys news → Fr h₀ L h m → News h₀ L h ((D, LCg.lst ys) :: news) → (∀ p ∈ news, @Ne Nat p.1 D) → Q (.ref D) { s with heap := h, toks := tk })
    (hs : ∀ x, foldedSetIterable iter env x = pure x := by intro _; rfl) :
    wpAny (model prog w) A (eval (.ListComp elt [⟨.Name x px, iter, [], 0⟩] scope pos) env) Q E s := by
  rw [eval_ListComp]
  refine compCellCore (use := none) J F₀ hh hclos hkind hnames hcells hpush hxk hn hiter step (fun ys news C oC D h tk hJ F N hC nCD off => ?_) hs
  have zC := (N _ (.head _)).2
  refine ⟨_, hC.ns (N _ (.head _)).1, fun h'' hs'' => ?_⟩
  refine fin ys news D h'' tk hJ (F.change hs'' zC.1 zC.2) (fun p hp => ?_) (fun p hp => (off p hp).2)
  have q := N p (.tail _ hp)
  refine ⟨(hs''.2 p.1 ?_).trans q.1, q.2⟩
  rcases List.mem_cons.mp hp with rfl | hp
  · exact nCD.symm
  · exact (off p hp).1
theorem compCellA {elt iter : PySem.Expr} {x y : Str} {px py : Pos} {scope : Scope} {cl : List (Str × Addr)} {pos spos : Pos} {Q : Flow → Shared → Prop} {n : Nat} {a b : Int} (J : Nat → List Value → List (Addr × Obj) → Prop) (F₀ : Fr h₀ L s.heap m) (hLe : env.locals = L)
    (hsw : swapsWith (.ListComp elt [⟨.Name x px, iter, [], 0⟩] scope pos) (some (.Name y py)) spos.line env = pure true)
    (hy : env.kindOf y = some .local) (hp : (env.scope.kind == .class || (env.scope.kind == .module && env.locals != env.globals)) = false)
    (hh : A.handled = none) (hclos : closureFor scope env = pure cl) (hkind : scope.kind = .function) (hnames : ∀ y ∈ scope.names, y.2 = .local → scope.names.lookup y.1 = some .local)
    (hcells : ∀ k acc, cellsFrom k scope.names acc = (x, k) :: acc) (hpush : ∀ h : Heap, pushCells h scope.names = h.push { cls := .type "cell", data := .cell none })
    (hxk : ∀ C c, (compEnvC scope ((x, c) :: cl) C env).kindOf x = some .cell) (hn : n ≤ 1000)
    (hiter : wpAny (model prog w) A (eval iter env) (fun xv s₁ => ∃ r t u v h tk news, s₁ = { s with heap := h, toks := tk } ∧ xv = .ref r ∧ Fr h₀ L h m ∧ News h₀ L h news ∧ IsRange h r a b 1 t u v ∧ Builtin.Range.small a b 1 = true ∧ Builtin.Range.rangeSize a b 1 = (n : Int) ∧ J 0 [] news) E s)
    (step : ∀ i ys news I oI C oC c oc D h tk t (E' : Value → Shared → Prop), i < n → J i ys news → oc.data = .cell (some (.int (a + (i : Nat)) t)) → Fr h₀ L h m → News h₀ L h ((I, oI) :: (C, oC) :: (c, oc) :: (D, LCg.lst ys) :: news) → Off4 I C c D news →
      (@Ne Nat I C ∧ @Ne Nat I c ∧ @Ne Nat I D) ∧ (@Ne Nat C c ∧ @Ne Nat C D) ∧ @Ne Nat c D →
      wpAny (model prog w) A (eval elt (compEnvC scope ((x, c) :: cl) C env)) (CellEnd h₀ L m I oI C oC c oc D ys (fun y news' => J (i + 1) (ys ++ [y]) news') { s with heap := h, toks := tk }) E' { s with heap := h, toks := tk })
    (fin : ∀ ys news D h tk, J n ys news → Fr h₀ L h (fun z => if z = y then some (.ref D) else m z) → News h₀ L h ((D, LCg.lst ys) :: news) → (∀ p ∈ news, @Ne Nat p.1 D) → Q .next { s with heap := h, toks := tk })
    (hs : ∀ x, foldedSetIterable iter env x = pure x := by intro _; rfl) :
    wpAny (model prog w) A (exec (.Assign [.Name y py] (.ListComp elt [⟨.Name x px, iter, [], 0⟩] scope pos) spos) env) Q E s := by
  subst hLe
  rw [exec_Assign_Name_used _ _ _ _ hsw]
  refine wpAny_bind (wpAny_standAt (wpAny_bind ?_))
  show wpAny _ A (do let _ ← comprehension (.ListComp elt [⟨.Name x px, iter, [], 0⟩] scope pos) scope env _ (newList []) false (eval iter env) (some (assign (.Name y py) env))) _ _ s
  refine wpAny_bind (wpAny_mono (compCellCore (use := some (assign (.Name y py) env)) (Q := fun _ s' => Q .next s') J F₀ hh hclos hkind hnames hcells hpush hxk hn hiter step (fun ys news C oC D h tk hJ F N hC nCD off => ?_) hs) (fun _ s' hq => wpAny_pure (wpAny_pure hq)) fun _ _ e => e)
  have zC := (N _ (.head _)).2
  show wpAny _ A (assign (.Name y py) env (.ref D)) _ _ _
  refine wpAny_assign_Name (wpAny_storeName_local hy F.ns (fun h₂ hn₂ hs₂ => ?_) hp)
  have F₂ := F.set hn₂ hs₂
  have N₂ := N.set hs₂
  refine ⟨_, hC.ns (N₂ _ (.head _)).1, fun h'' hs'' => ?_⟩
  refine fin ys news D h'' _ hJ (F₂.change hs'' zC.1 zC.2) (fun p hp => ?_) (fun p hp => (off p hp).2)
  have q := N₂ p (.tail _ hp)
  refine ⟨(hs''.2 p.1 ?_).trans q.1, q.2⟩
  rcases List.mem_cons.mp hp with rfl | hp
  · exact nCD.symm
  · exact (off p hp).1
end
end Mine

-- M1
open PySem PySem.W PyProof.Rows PySem.Calls
set_option Elab.async false
set_option maxRecDepth 100000
set_option maxHeartbeats 8000000
namespace Mine
/-- two addresses that differ, told so that omega does not split by it -/
noncomputable def Dif (a b : Addr) : Prop := @Ne Nat a b
theorem Dif.ne {a b : Addr} (h : Dif a b) : @Ne Nat a b := h
theorem Dif.ne' {a b : Addr} (h : Dif b a) : @Ne Nat a b := fun e => h e.symm
theorem difOf {a b : Addr} (h : @Ne Nat a b) : Dif a b := h
/-- made lists of ints, the newest first -/
inductive Rows (f : Nat → List Int) : Nat → List (Addr × Obj) → List Value → Prop
  | nil : Rows f 0 [] []
  | cons {i : Nat} {rows : List (Addr × Obj)} {ys : List Value} {a : Addr} {vs : List Value} {c : Nat} : Rows f i rows ys → IntsAre vs (f i) → (∀ p ∈ rows, Dif p.1 a) → Rows f (i + 1) ((a, PySem.W.listOf vs.toArray c) :: rows) (ys ++ [.ref a])
theorem Rows.five {f : Nat → List Int} {rows : List (Addr × Obj)} {ys : List Value} (h : Rows f 5 rows ys) : ∃ a0 a1 a2 a3 a4 v0 v1 v2 v3 v4 c0 c1 c2 c3 c4,
    rows = [(a4, PySem.W.listOf (List.toArray v4) c4), (a3, PySem.W.listOf (List.toArray v3) c3), (a2, PySem.W.listOf (List.toArray v2) c2), (a1, PySem.W.listOf (List.toArray v1) c1), (a0, PySem.W.listOf (List.toArray v0) c0)] ∧
    ys = [.ref a0, .ref a1, .ref a2, .ref a3, .ref a4] ∧ (IntsAre v0 (f 0) ∧ IntsAre v1 (f 1) ∧ IntsAre v2 (f 2) ∧ IntsAre v3 (f 3) ∧ IntsAre v4 (f 4)) ∧
    (Dif a3 a4 ∧ Dif a2 a4 ∧ Dif a1 a4 ∧ Dif a0 a4) ∧ (Dif a2 a3 ∧ Dif a1 a3 ∧ Dif a0 a3) ∧ (Dif a1 a2 ∧ Dif a0 a2) ∧ Dif a0 a1 := by
  obtain _ | ⟨h, i4, n4⟩ := h
  obtain _ | ⟨h, i3, n3⟩ := h
  obtain _ | ⟨h, i2, n2⟩ := h
  obtain _ | ⟨h, i1, n1⟩ := h
  obtain _ | ⟨h, i0, n0⟩ := h
  cases h
  rename_i a4 v4 c4 a3 v3 c3 a2 v2 c2 a1 v1 c1 a0 v0 c0
  exact ⟨a0, a1, a2, a3, a4, v0, v1, v2, v3, v4, c0, c1, c2, c3, c4, rfl, rfl, ⟨i0, i1, i2, i3, i4⟩, ⟨n4 _ (.head _), n4 _ (.tail _ (.head _)), n4 _ (.tail _ (.tail _ (.head _))), n4 _ (.tail _ (.tail _ (.tail _ (.head _))))⟩, ⟨n3 _ (.head _), n3 _ (.tail _ (.head _)), n3 _ (.tail _ (.tail _ (.head _)))⟩, ⟨n2 _ (.head _), n2 _ (.tail _ (.head _))⟩, n1 _ (.head _)⟩
/-- a list of five lists of ints, all made since h -/
noncomputable def MatNew (h h' : Heap) (a : Addr) (f : Nat → List Int) : Prop := ∃ (as : List Addr) (c : Nat), as.length = 5 ∧ h'.get? a = some (PySem.W.listOf (as.map Value.ref).toArray c) ∧ h.get? a = none ∧
  ∀ i, i < 5 → ∃ vs k, h'.get? (as.getD i 0) = some (PySem.W.listOf (List.toArray vs) k) ∧ h.get? (as.getD i 0) = none ∧ IntsAre vs (f i)
theorem allLt_mem {d : Nat} : ∀ {l : List (Addr × Obj)}, AllLt d l → ∀ p ∈ l, @LT.lt Nat _ p.1 d
  | [], _, _, h => nomatch h
  | _ :: _, h, p, hp => by
    rcases List.mem_cons.mp hp with rfl | hp
    · exact h.1
    · exact allLt_mem h.2 p hp
theorem newsSub {h₀ h : Heap} {L : Addr} {l all : List (Addr × Obj)} (N : News h₀ L h all) (sub : ∀ p ∈ l, p ∈ all) : News h₀ L h l := fun p hp => N p (sub p hp)
theorem intsTo {vs : List Value} {ns ms : List Int} (h : IntsAre vs ns) (e : ns = ms) : IntsAre vs ms := e ▸ h
/-- a list of five lists of ints -/
noncomputable def MatAt (h : Heap) (a : Addr) (f : Nat → List Int) : Prop := ∃ as : List Addr, as.length = 5 ∧ h.IsList a (as.map Value.ref).toArray ∧ ∀ i, i < 5 → IntsAt h (as.getD i 0) (f i)
end Mine

-- M2
open PySem PySem.W PyProof.Rows PySem.Calls
set_option Elab.async false
set_option maxRecDepth 100000
set_option maxHeartbeats 8000000
namespace Mine
section
variable {prog : Program} {w : World} {A : Around} {E : Value → Shared → Prop} {s : Shared} {l : Addr} {as : List Addr} {vs : List Value} {ns : List Int} {k : Int} {u : Tok} {Q : Value → Shared → Prop}
theorem mat_row {value slice : PySem.Expr} (hl : s.heap.IsList l (as.map Value.ref).toArray) (hn : as.length = 5) (h0 : 0 ≤ k) (h1 : k < 5) (h : Q (.ref (as.getD k.toNat 0)) s)
    (hs : subscripted slice false (.ref l) (.int k u) = operate [.ref l, .int k u] (getItem (.ref l) (.int k u)) := by with_unfolding_all rfl) :
    wpAny (model prog w) A (subscriptTail value slice (.ref l) (.int k u)) Q E s :=
  item_at hl h0 (by omega) (by simp [List.getD_eq_getElem?_getD, List.getElem?_eq_getElem (show k.toNat < as.length by omega)]) h hs
theorem ints_item {value slice : PySem.Expr} (hl : s.heap.IsList l vs.toArray) (hi : IntsAre vs ns) (hn : ns.length = 5) (h0 : 0 ≤ k) (h1 : k < 5) (h : ∀ t, Q (.int (ns.getD k.toNat 0) t) s)
    (hs : subscripted slice false (.ref l) (.int k u) = operate [.ref l, .int k u] (getItem (.ref l) (.int k u)) := by with_unfolding_all rfl) :
    wpAny (model prog w) A (subscriptTail value slice (.ref l) (.int k u)) Q E s := by
  obtain ⟨t, e⟩ := intsGet hi (i := k.toNat) (by omega)
  exact item_at hl h0 (by omega) e (h t) hs
theorem mat_rowN {value slice : PySem.Expr} {i : Nat} (hl : s.heap.IsList l (as.map Value.ref).toArray) (hn : as.length = 5) (hi : i < 5) (h : Q (.ref (as.getD i 0)) s)
    (hs : subscripted slice false (.ref l) (.int (0 + (i : Int)) u) = operate [.ref l, .int (0 + (i : Int)) u] (getItem (.ref l) (.int (0 + (i : Int)) u)) := by with_unfolding_all rfl) :
    wpAny (model prog w) A (subscriptTail value slice (.ref l) (.int (0 + (i : Int)) u)) Q E s :=
  mat_row hl hn (by omega) (by omega) (by rw [show (0 + (i : Int)).toNat = i by omega]; exact h) hs
theorem ints_itemN {value slice : PySem.Expr} {i : Nat} (hl : s.heap.IsList l vs.toArray) (hv : IntsAre vs ns) (hn : ns.length = 5) (hi : i < 5) (h : ∀ t, Q (.int (ns.getD i 0) t) s)
    (hs : subscripted slice false (.ref l) (.int (0 + (i : Int)) u) = operate [.ref l, .int (0 + (i : Int)) u] (getItem (.ref l) (.int (0 + (i : Int)) u)) := by with_unfolding_all rfl) :
    wpAny (model prog w) A (subscriptTail value slice (.ref l) (.int (0 + (i : Int)) u)) Q E s :=
  ints_item hl hv hn (by omega) (by omega) (fun t => by rw [show (0 + (i : Int)).toNat = i by omega]; exact h t) hs
theorem ints_itemF {value slice : PySem.Expr} {f : Nat → Int} {i : Nat} (hl : s.heap.IsList l vs.toArray) (hv : IntsAre vs ((List.range 5).map f)) (hi : i < 5) (h : ∀ t, Q (.int (f i) t) s)
    (hs : subscripted slice false (.ref l) (.int (0 + (i : Int)) u) = operate [.ref l, .int (0 + (i : Int)) u] (getItem (.ref l) (.int (0 + (i : Int)) u)) := by with_unfolding_all rfl) :
    wpAny (model prog w) A (subscriptTail value slice (.ref l) (.int (0 + (i : Int)) u)) Q E s :=
  ints_itemN hl hv (by simp) hi (fun t => by
    have e : ((List.range 5).map f).getD i 0 = f i := by rw [List.getD_eq_getElem?_getD, List.getElem?_map, List.getElem?_range hi]; rfl
    rw [e]; exact h t) hs
theorem len_ints (hl : s.heap.IsList l vs.toArray) (hi : IntsAre vs ns) (hn : ns.length ≤ 100000) (h : Q (.int ns.length (s.toks + 1)) { s with toks := s.toks + 1 + 1 }) :
    wpAny (model prog w) A (call (.builtin "len") [.ref l]) Q E s := by
  have e : vs.toArray.size = ns.length := by rw [List.size_toArray, hi.length]
  refine PyProof.Rows.len_list hl (by rw [e]; omega) ?_
  rw [e]; exact h
end
theorem intsSnocR {ys : List Value} {f : Nat → Int} {i : Nat} (h : IntsAre ys ((List.range i).map f)) (t : Tok) : IntsAre (ys ++ [.int (f i) t]) ((List.range (i + 1)).map f) := by
  rw [List.range_succ, List.map_append]
  exact h.append (.cons _ _ .nil)
theorem off1_mem {D : Addr} : ∀ {l : List (Addr × Obj)}, LCg.Off1 D l → ∀ p ∈ l, @Ne Nat p.1 D
  | [], _, _, h => nomatch h
  | _ :: _, h, p, hp => by
    rcases List.mem_cons.mp hp with rfl | hp
    · exact h.1
    · exact off1_mem h.2 p hp
noncomputable def rowOf (M : Nat → Nat → Int) (r : Nat) : List Int := [M r 0, M r 1, M r 2, M r 3, M r 4]
theorem rowRange (g : Nat → Int) : (List.range 5).map g = [g 0, g 1, g 2, g 3, g 4] := rfl
end Mine

-- M3
open PySem PySem.W PyProof.Rows PySem.Calls
set_option Elab.async false
set_option maxRecDepth 100000
set_option maxHeartbeats 8000000
namespace Mine
/-- the rows of a made table, told by their addresses, their items, their rooms -/
noncomputable def matRows (as : List Addr) (vs : Nat → List Value) (c : Nat → Nat) : List (Addr × Obj) :=
  [(as.getD 0 0, PySem.W.listOf (vs 0).toArray (c 0)), (as.getD 1 0, PySem.W.listOf (vs 1).toArray (c 1)), (as.getD 2 0, PySem.W.listOf (vs 2).toArray (c 2)), (as.getD 3 0, PySem.W.listOf (vs 3).toArray (c 3)), (as.getD 4 0, PySem.W.listOf (vs 4).toArray (c 4))]
noncomputable def MatIs (vs : Nat → List Value) (M : Nat → Nat → Int) : Prop := ∀ r, r < 5 → IntsAre (vs r) (rowOf M r)
noncomputable def Apart5 (as : List Addr) : Prop := ∀ r q, r < 5 → q < 5 → r ≠ q → Dif (as.getD r 0) (as.getD q 0)
noncomputable def updM (M : Nat → Nat → Int) (r c : Nat) (v : Int) : Nat → Nat → Int := fun a b => if a = r ∧ b = c then v else M a b
theorem mem_rows {as : List Addr} {vs : Nat → List Value} {c : Nat → Nat} {r : Nat} (h : r < 5) : (as.getD r 0, PySem.W.listOf (vs r).toArray (c r)) ∈ matRows as vs c := by
  have h5 : r = 0 ∨ r = 1 ∨ r = 2 ∨ r = 3 ∨ r = 4 := lt5 (by first | assumption | omega)
  rcases h5 with rfl | rfl | rfl | rfl | rfl
  · exact .head _
  · exact .tail _ (.head _)
  · exact .tail _ (.tail _ (.head _))
  · exact .tail _ (.tail _ (.tail _ (.head _)))
  · exact .tail _ (.tail _ (.tail _ (.tail _ (.head _))))
theorem rows_cases {as : List Addr} {vs : Nat → List Value} {c : Nat → Nat} {p : Addr × Obj} (h : p ∈ matRows as vs c) : ∃ r, r < 5 ∧ p = (as.getD r 0, PySem.W.listOf (vs r).toArray (c r)) := by
  simp only [matRows, List.mem_cons, List.not_mem_nil, or_false] at h
  rcases h with h | h | h | h | h
  · exact ⟨0, by decide, h⟩
  · exact ⟨1, by decide, h⟩
  · exact ⟨2, by decide, h⟩
  · exact ⟨3, by decide, h⟩
  · exact ⟨4, by decide, h⟩
theorem upd_len {ns : List Int} {M : Nat → Nat → Int} {r c : Nat} {x : Int} (hc : c < 5) (e : ns = rowOf M r) : ns.set c x = rowOf (updM M r c x) r := by
  subst e
  have h5 : c = 0 ∨ c = 1 ∨ c = 2 ∨ c = 3 ∨ c = 4 := lt5 (by first | assumption | omega)
  rcases h5 with rfl | rfl | rfl | rfl | rfl <;> simp [rowOf, updM, List.set]
theorem upd_other {M : Nat → Nat → Int} {r q c : Nat} {x : Int} (h : q ≠ r) : rowOf (updM M r c x) q = rowOf M q := by
  simp [rowOf, updM, h]
section
variable {prog : Program} {w : World} {A : Around} {E : Value → Shared → Prop} {s : Shared} {h₀ : Heap} {L : Addr} {m : Str → Option Value} {pre : List (Addr × Obj)} {as : List Addr} {vs : Nat → List Value} {cc : Nat → Nat} {M : Nat → Nat → Int} {r c : Nat} {k x : Int} {t u : Tok}
theorem get_mat {Q : Value → Shared → Prop} (N : News h₀ L s.heap (pre ++ matRows as vs cc)) (hM : MatIs vs M) (hr : r < 5) (hk : k = (c : Int)) (hc : c < 5) (h : ∀ t', Q (.int (M r c) t') s) : wpAny (model prog w) A (getItem (.ref (as.getD r 0)) (.int k t)) Q E s := by
  have z := (N _ (List.mem_append_right _ (mem_rows (as := as) (vs := vs) (c := cc) hr))).1
  refine getItem_intsK (PySem.IsL.isList (n := cc r) z) (hM r hr) (by omega) (by show k < ((5 : Nat) : Int); omega) (by omega) fun t' => ?_
  have e : (rowOf M r).getD k.toNat 0 = M r c := by
    rw [show k.toNat = c by omega]
    have h5 : c = 0 ∨ c = 1 ∨ c = 2 ∨ c = 3 ∨ c = 4 := lt5 (by first | assumption | omega)
    rcases h5 with rfl | rfl | rfl | rfl | rfl <;> rfl
  rw [e]; exact h t'
theorem set_mat {Q : Unit → Shared → Prop} (F : Fr h₀ L s.heap m) (N : News h₀ L s.heap (pre ++ matRows as vs cc)) (hM : MatIs vs M) (ha : Apart5 as) (hp : ∀ p ∈ pre, ∀ q, q < 5 → @Ne Nat p.1 (as.getD q 0)) (hr : r < 5) (hk : k = (c : Int)) (hc : c < 5)
    (h : ∀ h' vs', Fr h₀ L h' m → News h₀ L h' (pre ++ matRows as vs' cc) → MatIs vs' (updM M r c x) → Q () { s with heap := h' }) : wpAny (model prog w) A (setItem (.ref (as.getD r 0)) (.int k t) (.int x u)) Q E s := by
  have z := N _ (List.mem_append_right _ (mem_rows (as := as) (vs := vs) (c := cc) hr))
  have hl := (hM r hr).length
  have hl5 : (vs r).length = 5 := hl
  refine ki_setAt (n := cc r) z.1 (by omega) (by omega) (by rw [List.size_toArray, hl5]; omega) ?_
  have hup := PySem.IsL.update z.1 (·.setIfInBounds k.toNat (.int x u))
  have F' := F.change (Heap.SameBut.update s.heap (as.getD r 0) (Obj.mapSeq (·.setIfInBounds k.toNat (.int x u)))) z.2.1 z.2.2
  have hs := Heap.SameBut.update s.heap (as.getD r 0) (Obj.mapSeq (·.setIfInBounds k.toNat (.int x u)))
  have hck : k.toNat = c := by omega
  have ea : (vs r).toArray.setIfInBounds k.toNat (.int x u) = ((vs r).set c (.int x u)).toArray := by
    rw [hck]; apply Array.toList_inj.mp; simp
  have q' : (s.heap.update (as.getD r 0) (Obj.mapSeq (·.setIfInBounds k.toNat (.int x u)))).get? (as.getD r 0) = some (PySem.W.listOf ((vs r).set c (.int x u)).toArray (cc r)) := by
    rw [ea] at hup
    simpa using hup
  generalize s.heap.update (as.getD r 0) (Obj.mapSeq (·.setIfInBounds k.toNat (.int x u))) = h' at F' hs q' ⊢
  refine h h' (fun q => if q = r then (vs r).set c (.int x u) else vs q) F' (fun p hp' => ?_) (fun q hq => ?_)
  · rcases List.mem_append.mp hp' with hm | hm
    · have y := N p (List.mem_append_left _ hm)
      exact ⟨(hs.2 p.1 (hp p hm r hr)).trans y.1, y.2⟩
    · obtain ⟨q, hq, rfl⟩ := rows_cases hm
      by_cases e : q = r
      · subst e
        simp only [if_true]
        exact ⟨q', z.2⟩
      · have y := N _ (List.mem_append_right _ (mem_rows (as := as) (vs := vs) (c := cc) hq))
        simp only [if_neg e]
        exact ⟨(hs.2 _ (ha q r hq hr e)).trans y.1, y.2⟩
  · by_cases e : q = r
    · subst e
      simp only [if_true]
      exact intsTo (ints_set (hM q hq) c) (upd_len hc rfl)
    · simp only [if_neg e]
      exact intsTo (hM q hq) (upd_other e).symm
end
section
variable {prog : Program} {w : World} {A : Around} {E : Value → Shared → Prop} {s : Shared} {l : Addr} {as : List Addr} {vs : List Value} {ns : List Int} {u : Tok} {i : Nat} {x : Int} {Q : Value → Shared → Prop}
theorem mat_rowS {value slice : PySem.Expr} (hl : s.heap.IsList l (as.map Value.ref).toArray) (hn : as.length = 5) (hi : i < 4) (h : Q (.ref (as.getD (i + 1) 0)) s)
    (hs : subscripted slice false (.ref l) (.int (1 + (i : Int)) u) = operate [.ref l, .int (1 + (i : Int)) u] (getItem (.ref l) (.int (1 + (i : Int)) u)) := by with_unfolding_all rfl) :
    wpAny (model prog w) A (subscriptTail value slice (.ref l) (.int (1 + (i : Int)) u)) Q E s :=
  mat_row hl hn (by omega) (by omega) (by rw [show (1 + (i : Int)).toNat = i + 1 by omega]; exact h) hs
theorem mat_rowI {value slice : PySem.Expr} (hl : s.heap.IsList l (as.map Value.ref).toArray) (hn : as.length = 5) (hi : i < 5) (h : Q (.ref (as.getD i 0)) s)
    (hs : subscripted slice false (.ref l) (.int (i : Int) u) = operate [.ref l, .int (i : Int) u] (getItem (.ref l) (.int (i : Int) u)) := by with_unfolding_all rfl) :
    wpAny (model prog w) A (subscriptTail value slice (.ref l) (.int (i : Int) u)) Q E s :=
  mat_row hl hn (by omega) (by omega) (by rw [show (i : Int).toNat = i by omega]; exact h) hs
theorem ints_itemSE {value slice : PySem.Expr} (hl : s.heap.IsList l vs.toArray) (hv : IntsAre vs ns) (hn : ns.length = 5) (hi : i < 4) (e : ns.getD (i + 1) 0 = x) (h : ∀ t, Q (.int x t) s)
    (hs : subscripted slice false (.ref l) (.int (1 + (i : Int)) u) = operate [.ref l, .int (1 + (i : Int)) u] (getItem (.ref l) (.int (1 + (i : Int)) u)) := by with_unfolding_all rfl) :
    wpAny (model prog w) A (subscriptTail value slice (.ref l) (.int (1 + (i : Int)) u)) Q E s :=
  ints_item hl hv hn (by omega) (by omega) (fun t => by rw [show (1 + (i : Int)).toNat = i + 1 by omega, e]; exact h t) hs
end
theorem matNewRows {h₀ h : Heap} {L a : Addr} {c : Nat} {as : List Addr} {vs : Nat → List Value} {cc : Nat → Nat} {M : Nat → Nat → Int} (hl : as.length = 5) (N : News h₀ L h ((a, PySem.W.listOf (as.map Value.ref).toArray c) :: matRows as vs cc)) (hM : MatIs vs M) : MatNew h₀ h a (rowOf M) :=
  ⟨as, c, hl, (N _ (.head _)).1, (N _ (.head _)).2.2, fun i hi => by
    have z := N _ (.tail _ (mem_rows (as := as) (vs := vs) (c := cc) hi))
    exact ⟨_, _, z.1, z.2.2, hM i hi⟩⟩
theorem Rows.mat {f : Nat → List Int} {M : Nat → Nat → Int} {rows : List (Addr × Obj)} {ys : List Value} (h : Rows f 5 rows ys) (e : ∀ r, r < 5 → f r = rowOf M r) :
    ∃ as vs cc, List.length as = 5 ∧ ys = as.map Value.ref ∧ Apart5 as ∧ MatIs vs M ∧ ∀ p ∈ matRows as vs cc, p ∈ rows := by
  obtain ⟨a0, a1, a2, a3, a4, v0, v1, v2, v3, v4, c0, c1, c2, c3, c4, rfl, rfl, ⟨i0, i1, i2, i3, i4⟩, ⟨n34, n24, n14, n04⟩, ⟨n23, n13, n03⟩, ⟨n12, n02⟩, n01⟩ := h.five
  refine ⟨[a0, a1, a2, a3, a4], fun r => [v0, v1, v2, v3, v4].getD r [], fun r => [c0, c1, c2, c3, c4].getD r 0, rfl, rfl, fun r q hr hq hn => ?_, fun r hr => ?_, fun p hp => ?_⟩
  · have h5 : r = 0 ∨ r = 1 ∨ r = 2 ∨ r = 3 ∨ r = 4 := lt5 (by first | assumption | omega)
    have g5 : q = 0 ∨ q = 1 ∨ q = 2 ∨ q = 3 ∨ q = 4 := lt5 (by first | assumption | omega)
    rcases h5 with rfl | rfl | rfl | rfl | rfl <;> rcases g5 with rfl | rfl | rfl | rfl | rfl <;> first | exact absurd rfl hn | assumption | exact Dif.ne' (by assumption)
  · have h5 : r = 0 ∨ r = 1 ∨ r = 2 ∨ r = 3 ∨ r = 4 := lt5 (by first | assumption | omega)
    rw [← e r hr]
    rcases h5 with rfl | rfl | rfl | rfl | rfl <;> assumption
  · obtain ⟨r, hr, rfl⟩ := rows_cases hp
    have h5 : r = 0 ∨ r = 1 ∨ r = 2 ∨ r = 3 ∨ r = 4 := lt5 (by first | assumption | omega)
    rcases h5 with rfl | rfl | rfl | rfl | rfl
    · exact .tail _ (.tail _ (.tail _ (.tail _ (.head _))))
    · exact .tail _ (.tail _ (.tail _ (.head _)))
    · exact .tail _ (.tail _ (.head _))
    · exact .tail _ (.head _)
    · exact .head _
end Mine

-- K1
open PySem PySem.W PyProof.Rows PySem.Calls
set_option Elab.async false
set_option maxRecDepth 100000
set_option maxHeartbeats 8000000
namespace Mine
local macro_rules | `(tactic| k_ne) => `(tactic| (refine neN ?_; (try dsimp only); first | exact Dif.ne (by with_reducible assumption) | exact Dif.ne' (by with_reducible assumption) | omega))
noncomputable def LV (W : List Str) (a b : Nat) : Int := levFn (W.getD a Str.empty) (W.getD b Str.empty)
noncomputable def apC (W : List Str) (i r c : Nat) : Int := if r < i ∧ c < i ∧ r ≠ c then LV W (min r c) (max r c) else 0
noncomputable def apRow (W : List Str) (i r : Nat) : List Int := [apC W i r 0, apC W i r 1, apC W i r 2, apC W i r 3, apC W i r 4]
theorem apRow_len (W : List Str) (i r : Nat) : (apRow W i r).length = 5 := rfl
section
variable {prog : Program} {w : World} {A : Around} {E : Value → Shared → Prop} {s : Shared} {d : Addr} {DW : List (PyData × PyData)} {x : Str} {i : Int} {t : Tok} {value slice : PySem.Expr} {Q : Value → Shared → Prop}
theorem item_word (T : TabAt (intKind prog w) PyData.int s.heap d DW) (hl : PySem.Spec.lookup (.int i) DW = some (.str x)) (h : ∀ t', Q (.str x t') { s with toks := s.toks + 1 })
    (hs : subscripted slice false (.ref d) (.int i t) = operate [.ref d, .int i t] (getItem (.ref d) (.int i t)) := by with_unfolding_all rfl) (hg : ∀ r, letTemporaryGo value (.ref d) r = pure () := by intro _; with_unfolding_all rfl) :
    wpAny (model prog w) A (subscriptTail value slice (.ref d) (.int i t)) Q E s :=
  item_intTab T hl (fun v hv => by cases hv s.heap; exact h _) hs hg
theorem item_wordN {n : Nat} (T : TabAt (intKind prog w) PyData.int s.heap d DW) (hl : PySem.Spec.lookup (.int n) DW = some (.str x)) (h : ∀ t', Q (.str x t') { s with toks := s.toks + 1 })
    (hs : subscripted slice false (.ref d) (.int (0 + (n : Int)) t) = operate [.ref d, .int (0 + (n : Int)) t] (getItem (.ref d) (.int (0 + (n : Int)) t)) := by with_unfolding_all rfl) (hg : ∀ r, letTemporaryGo value (.ref d) r = pure () := by intro _; with_unfolding_all rfl) :
    wpAny (model prog w) A (subscriptTail value slice (.ref d) (.int (0 + (n : Int)) t)) Q E s :=
  item_word T (by rw [show (0 : Int) + (n : Int) = n by omega]; exact hl) h hs hg
end
noncomputable def inM (W : List Str) (i j r c : Nat) : Int := if (r = i ∧ c < j) ∨ (c = i ∧ r < j) then LV W (min r c) (max r c) else apC W i r c
theorem inM_zero (W : List Str) (i : Nat) : inM W i 0 = apC W i := by
  funext r c
  unfold inM
  rw [if_neg (by omega)]
theorem inM_done (W : List Str) (i : Nat) : inM W i i = apC W (i + 1) := by
  funext r c
  unfold inM apC
  by_cases h : (r = i ∧ c < i) ∨ (c = i ∧ r < i)
  · rw [if_pos h, if_pos (h.elim (fun h => ⟨h.1 ▸ Nat.lt_succ_self _, Nat.lt_succ_of_lt h.2, fun e => Nat.ne_of_lt h.2 (e.symm.trans h.1)⟩) (fun h => ⟨Nat.lt_succ_of_lt h.2, h.1 ▸ Nat.lt_succ_self _, fun e => Nat.ne_of_lt h.2 (e.trans h.1)⟩))]
  · rw [if_neg h]
    by_cases h2 : r < i ∧ c < i ∧ r ≠ c
    · rw [if_pos h2, if_pos ⟨Nat.lt_succ_of_lt h2.1, Nat.lt_succ_of_lt h2.2.1, h2.2.2⟩]
    · rw [if_neg h2, if_neg (fun ⟨a, b, n⟩ => (Nat.lt_succ_iff_lt_or_eq.mp a).elim (fun a => (Nat.lt_succ_iff_lt_or_eq.mp b).elim (fun b => h2 ⟨a, b, n⟩) (fun b => h (.inr ⟨b, a⟩))) (fun a => (Nat.lt_succ_iff_lt_or_eq.mp b).elim (fun b => h (.inl ⟨a, b⟩)) (fun b => n (a.trans b.symm))))]
theorem inM_step (W : List Str) {i j : Nat} (h : j < i) : updM (updM (inM W i j) i j (LV W j i)) j i (LV W j i) = inM W i (j + 1) := by
  funext r c
  unfold updM inM
  by_cases c1 : r = j ∧ c = i
  · rw [if_pos c1, if_pos (.inr ⟨c1.2, c1.1 ▸ Nat.lt_succ_self _⟩), c1.1, c1.2, Nat.min_eq_left (by omega), Nat.max_eq_right (by omega)]
  · rw [if_neg c1]
    by_cases c2 : r = i ∧ c = j
    · rw [if_pos c2, if_pos (.inl ⟨c2.1, c2.2 ▸ Nat.lt_succ_self _⟩), c2.1, c2.2, Nat.min_eq_right (by omega), Nat.max_eq_left (by omega)]
    · rw [if_neg c2]
      by_cases c3 : (r = i ∧ c < j) ∨ (c = i ∧ r < j)
      · rw [if_pos c3, if_pos (c3.imp (fun h => ⟨h.1, Nat.lt_succ_of_lt h.2⟩) (fun h => ⟨h.1, Nat.lt_succ_of_lt h.2⟩))]
      · rw [if_neg c3, if_neg (fun h => h.elim (fun ⟨a, b⟩ => (Nat.lt_succ_iff_lt_or_eq.mp b).elim (fun b => c3 (.inl ⟨a, b⟩)) (fun b => c2 ⟨a, b⟩)) (fun ⟨a, b⟩ => (Nat.lt_succ_iff_lt_or_eq.mp b).elim (fun b => c3 (.inr ⟨a, b⟩)) (fun b => c1 ⟨b, a⟩)))]
set_option pp.deepTerms false in
theorem apart_spec (w : World) (mean : ExcName → Option Value) (mg mb : Str → Option Value) (d : Addr) (DW : List (PyData × PyData)) (W : List Str) (hW : ∀ j : Nat, j < 5 → PySem.Spec.lookup (.int j) DW = some (.str (W.getD j Str.empty))) (hl4 : ∀ j : Nat, j < 5 → (W.getD j Str.empty).length = 4) :
   Told1 6 w mean mg mb 87 [.ref d] (fun h => TabAt (intKind PySem.Challenge.rw_rs0039_01.row.prog w) PyData.int h d DW) (fun h v h' => ∃ a, v = .ref a ∧ MatNew h h' a (rowOf (apC W 5))) := by
  unfold Told1
  w_top off
  k_with_none
  k_fill
  intro dp un gd cn cs a0 ccd cl outer A₀ base h₀ L m s Q E B F X T hcs hdp hun hpre hret
  have hTab := hpre
  refine wpAny_call ?_
  k_dflt (refine' enterS (binds := [(Str.ofString "words", .ref d)]) ?k1 ?k2 ?k3 ?k5 ?kA ?kF ?kK ?k6 ?k7 ?k8 ?k9 ?kB ?_ ?c2 ?c3 ?c4 ?c5; (case kA => exact rfl); (case kF => exact rfl); (case kK => assumption); (case k1 => k_asm); (case k2 => k_asm); (case k3 => k_asm); (case k5 => k_asm); (case k6 => k_is); (case k7 => k_is); (case k8 => ktr_room); (case k9 => exact BindsTo.of_eq rfl); (case c5 => decide); (case kB => exact locs rfl); (case c2 => exact rfl); (case c3 => exact rfl); (case c4 => exact rfl); k_whole; intro L' h' hL' F' N' B' X' T'; (try dsimp only); (try k_fold))
  clear B F X T
  repeat' (first | (k_unfold; (try dsimp only)) | ((fail_if_success (with_reducible show wpAny _ _ (exec (Stmt.Assign _ (PySem.Expr.ListComp _ _ _ _) _) _) _ _ _)); walk1) | (dsimp only; first | ((fail_if_success (with_reducible show wpAny _ _ (exec (Stmt.Assign _ (PySem.Expr.ListComp _ _ _ _) _) _) _ _ _)); walk1) | (k_unfold; (try dsimp only))) | (leave1; walk_say "STEP leave1"; try dsimp only) | fail "no step")
  (k_dflt (refine LCg.Assign_ListComp_U (F₀ := by k_asm) (by rfl) (by with_unfolding_all rfl) (by with_unfolding_all rfl) (by decide) (by rfl) (by decide) (by rfl) (by rfl) (by rfl) ?_); repeat' (first | (k_unfold; (try dsimp only)) | ((fail_if_success (with_reducible show LCg.CompSrc _ _ _ _ _ _ _ _ _ _ _ _ _ _)); walk1) | (dsimp only; first | ((fail_if_success (with_reducible show LCg.CompSrc _ _ _ _ _ _ _ _ _ _ _ _ _ _)); walk1) | (k_unfold; (try dsimp only))) | (leave1; walk_say "STEP leave1"; try dsimp only) | fail "no step"))
  (k_dflt (refine LCg.CompSrc.range (by rfl) (by k_asm) (by k_asm) (by assumption) (by first | decide | rfl) (by first | rfl | decide) (by first | size_fits | exact Nat.le_of_ble_eq_true rfl) ?_); intro g')
  refine compRest_ind (J := fun i ys news => Rows (fun _ => [0, 0, 0, 0, 0]) i news ys) 5 ?_ ?_ 5 0 [] _ rfl .nil
  · rintro i yt news hi hR v I oI C oC D m₂ h tk0 E' hOB hC hx F3 N3 off ne
    (refine ex_1 hOB fun t eOB0 => ?_; clear hOB; subst eOB0)
    clear hret hl4 hW
    repeat' (first | (k_unfold; (try dsimp only)) | ((fail_if_success (with_reducible show LCg.CompEnd _ _ _ _ _ _ _ _ _ _ _ _ _ _)); walk1) | (dsimp only; first | ((fail_if_success (with_reducible show LCg.CompEnd _ _ _ _ _ _ _ _ _ _ _ _ _ _)); walk1) | (k_unfold; (try dsimp only))) | (leave1; walk_say "STEP leave1"; try dsimp only) | fail "no step")
    rename_i lz hz Fz Nz l1z Dn hn Fn Nn i1 n1 s1 e1 e2 e3 l1
    exact LCg.CompEnd.intro Fn Nn ((Dn, PySem.W.listOf (List.toArray (List.replicate (Int.toNat 5) [Value.int 0 tk0]).flatten) 0) :: news) (fun p hp => by simp only [List.mem_cons] at hp ⊢; rcases hp with h | h | h | h | h <;> simp [h]) ⟨⟨Nat.ne_of_gt l1.2.1, Nat.ne_of_gt l1.2.2.1, Nat.ne_of_gt l1.2.2.2.1⟩, off⟩ trivial
      (.cons hR i1 (fun p hp => difOf (Nat.ne_of_lt (allLt_mem l1.2.2.2.2 p hp))))
  rintro yt news hR
  repeat' (first | (k_unfold; (try dsimp only)) | ((fail_if_success (with_reducible show wpAny _ _ (exec (Stmt.For _ _ _ _ _) _) _ _ _)); walk1) | (dsimp only; first | ((fail_if_success (with_reducible show wpAny _ _ (exec (Stmt.For _ _ _ _ _) _) _ _ _)); walk1) | (k_unfold; (try dsimp only))) | (leave1; walk_say "STEP leave1"; try dsimp only) | fail "no step")
  rename_i ap _ _ _ _ o1
  have hOB := hR.mat (M := apC W 0) (fun r _ => by simp [rowOf, apC])
  (refine ex_3 hOB fun as5 vs5 cc5 hOBx => ?_; clear hOB; refine an_5 hOBx fun hl5 eOB1 hA5 hM5 hsub => ?_; clear hOBx; subst eOB1)
  have hap : ∀ q, q < 5 → @Ne Nat ap (as5.getD q 0) := fun q hq e => off1_mem o1 _ (hsub _ (mem_rows hq)) e.symm
  rename News _ _ _ _ => N1
  rename Fr _ _ _ _ => F1
  have N4 := newsSub (l := (ap, LCg.lst (as5.map Value.ref)) :: matRows as5 vs5 cc5) N1 (fun p hp => by
    rcases List.mem_cons.mp hp with h | h
    · rw [h]; exact .head _
    · exact .tail _ (hsub p h))
  clear N1 o1 hR hsub
  refine wpAny_For ?_
  repeat' (first | (k_unfold; (try dsimp only)) | ((fail_if_success (with_reducible show wpAny _ _ (pyIter _) _ _ _)); walk1) | (dsimp only; first | ((fail_if_success (with_reducible show wpAny _ _ (pyIter _) _ _ _)); walk1) | (k_unfold; (try dsimp only))) | (leave1; walk_say "STEP leave1"; try dsimp only) | fail "no step")
  rename Fr _ _ _ _ => F1
  rename News _ _ _ _ => N1
  rename IsRange _ _ _ _ _ _ _ _ => R1
  have F2 := (frIf (x := Str.ofString "apart") (v := .ref ap) (frIf (x := Str.ofString "words") (v := .ref d) F1 rfl) rfl)
  clear F1
  refine forR (n := 5) (J := fun i m₁ news₁ => ∃ (vs : Nat → List Value) (u : Str → Option Value), m₁ = (fun z => if z = Str.ofString "apart" then some (.ref ap) else if z = Str.ofString "words" then some (.ref d) else u z) ∧
    news₁ = (ap, LCg.lst (as5.map Value.ref)) :: matRows as5 vs cc5 ∧ MatIs vs (apC W i)) rfl rfl rfl F2 N1 R1 ?zsm ?zsz ?zE ?z0 ?zst ?zdn
  case zsm => decide
  case zsz => decide
  case zE => first | passes_own | with_unfolding_all passes_own
  case z0 => exact ⟨vs5, _, rfl, rfl, hM5⟩
  case zdn =>
    rintro m₁ news₁ h tk hOB F2 N2
    (refine ex_2 hOB fun vs u hOBx => ?_; clear hOB; refine an_3 hOBx fun eOB0 eOB1 hM => ?_; clear hOBx; subst eOB0; subst eOB1)
    clear N1 R1 hW hl4
    repeat' (first | (k_unfold; (try dsimp only)) | ((fail_if_success (with_reducible show LeaveK _ _ _ _ _ _ _)); walk1) | (dsimp only; first | ((fail_if_success (with_reducible show LeaveK _ _ _ _ _ _ _)); walk1) | (k_unfold; (try dsimp only))) | (leave1; walk_say "STEP leave1"; try dsimp only) | fail "no step")
    exact leaveK_ F2 N2 (fun _ _ st => hret _ _ _ st ⟨ap, rfl, matNewRows hl5 N2 hM⟩)
  case zst =>
    rintro i m₁ news₁ h tk ti I hi hOB off F2 N2
    (refine ex_2 hOB fun vs u hOBx => ?_; clear hOB; refine an_3 hOBx fun eOB0 eOB1 hM => ?_; clear hOBx; subst eOB0; subst eOB1)
    clear N1 R1 hret hM5
    have offs : @Ne Nat ap I := off (ap, _) (.head _)
    have offI : ∀ q, q < 5 → @Ne Nat I (as5.getD q 0) := fun q hq e => off _ (.tail _ (mem_rows hq)) e.symm
    clear off
    dsimp only at F2 N2
    generalize hO : ritOf _ _ = oI at N2 ⊢
    clear hO
    rw [← inM_zero] at hM
    (try dsimp only)
    repeat' (first | (k_unfold; (try dsimp only)) | ((fail_if_success (with_reducible show wpAny _ _ (exec (Stmt.For _ _ _ _ _) _) _ _ _)); walk1) | (dsimp only; first | ((fail_if_success (with_reducible show wpAny _ _ (exec (Stmt.For _ _ _ _ _) _) _ _ _)); walk1) | (k_unfold; (try dsimp only))) | (leave1; walk_say "STEP leave1"; try dsimp only) | fail "no step")
    refine wpAny_For ?_
    repeat' (first | (k_unfold; (try dsimp only)) | ((fail_if_success (with_reducible show wpAny _ _ (pyIter _) _ _ _)); walk1) | (dsimp only; first | ((fail_if_success (with_reducible show wpAny _ _ (pyIter _) _ _ _)); walk1) | (k_unfold; (try dsimp only))) | (leave1; walk_say "STEP leave1"; try dsimp only) | fail "no step")
    rename Fr _ _ _ _ => F1
    rename News _ _ _ _ => N1
    rename IsRange _ _ _ _ _ _ _ _ => R1
    have F3 := (frIf (x := Str.ofString "apart") (v := .ref ap) (frIf (x := Str.ofString "words") (v := .ref d) (frIf (x := Str.ofString "i") F1 rfl) rfl) rfl)
    clear F1
    refine forR (n := i) (a := 0) (b := 0 + (i : Int)) (J := fun j m₁ news₁ => ∃ (vs : Nat → List Value) (ti : Tok) (u : Str → Option Value), m₁ = (fun z => if z = Str.ofString "apart" then some (.ref ap) else if z = Str.ofString "words" then some (.ref d) else if z = Str.ofString "i" then some (.int (0 + (i : Int)) ti) else u z) ∧
      news₁ = (I, oI) :: (ap, LCg.lst (as5.map Value.ref)) :: matRows as5 vs cc5 ∧ MatIs vs (inM W i j)) rfl rfl rfl F3 N1 R1 ?ysm ?ysz ?yE ?y0 ?yst ?ydn
    case ysm => have h5 : i = 0 ∨ i = 1 ∨ i = 2 ∨ i = 3 ∨ i = 4 := lt5 (by first | assumption | omega)
                rcases h5 with e | e | e | e | e <;> (subst e; decide)
    case ysz => have h5 : i = 0 ∨ i = 1 ∨ i = 2 ∨ i = 3 ∨ i = 4 := lt5 (by first | assumption | omega)
                rcases h5 with e | e | e | e | e <;> (subst e; decide)
    case yE => first | passes_own | with_unfolding_all passes_own
    case y0 => exact ⟨vs, _, _, rfl, rfl, hM⟩
    case ydn =>
      rintro m₁ news₁ h tk hOB F2 N2
      (refine ex_3 hOB fun vs ti u hOBx => ?_; clear hOB; refine an_3 hOBx fun eOB0 eOB1 hM => ?_; clear hOBx; subst eOB0; subst eOB1)
      clear N1 R1 hW hl4
      rw [inM_done] at hM
      (try dsimp only)
      repeat' (first | (k_unfold; (try dsimp only)) | ((fail_if_success (with_reducible show ForPost _ _ _ _ _ _ _ _ _)); walk1) | (dsimp only; first | ((fail_if_success (with_reducible show ForPost _ _ _ _ _ _ _ _ _)); walk1) | (k_unfold; (try dsimp only))) | (leave1; walk_say "STEP leave1"; try dsimp only) | fail "no step")
      refine ⟨_, _, _, (ap, LCg.lst (as5.map Value.ref)) :: matRows as5 _ cc5, rfl, (frIf (x := Str.ofString "apart") (v := .ref ap) (frIf (x := Str.ofString "words") (v := .ref d) F2 rfl) rfl), N2, ?_, ⟨_, _, rfl, rfl, hM⟩⟩
      intro p hp
      rcases List.mem_cons.mp hp with rfl | hp
      · exact offs
      · obtain ⟨q, hq, rfl⟩ := rows_cases hp
        exact fun e => offI q hq e.symm
    case yst =>
      rintro j m₁ news₁ h tk tj I2 hj hOB off F2 N2
      (refine ex_3 hOB fun vs ti u hOBx => ?_; clear hOB; refine an_3 hOBx fun eOB0 eOB1 hM => ?_; clear hOBx; subst eOB0; subst eOB1)
      clear N1 R1
      have offs2 : @Ne Nat ap I2 := off (ap, _) (.tail _ (.head _))
      have offs3 : @Ne Nat I I2 := off (I, _) (.head _)
      have offI2 : ∀ q, q < 5 → @Ne Nat I2 (as5.getD q 0) := fun q hq e => off _ (.tail _ (.tail _ (mem_rows hq))) e.symm
      clear off
      dsimp only at F2 N2
      generalize hO2 : ritOf _ _ = oI2 at N2 ⊢
      clear hO2
      have hpre : ∀ p ∈ [(I2, oI2), (I, oI), (ap, LCg.lst (as5.map Value.ref))], ∀ q, q < 5 → @Ne Nat p.1 (as5.getD q 0) := by
        intro p hp q hq
        simp only [List.mem_cons, List.not_mem_nil, or_false] at hp
        rcases hp with rfl | rfl | rfl
        · exact offI2 q hq
        · exact offI q hq
        · exact hap q hq
      have hj5 : j < 5 := by omega
      have ki : (0 : Int) + (i : Int) = (i : Int) := by omega
      have kj : (0 : Int) + (j : Int) = (j : Int) := by omega
      (try dsimp only)
      repeat' (first | (k_unfold; (try dsimp only)) | ((with_reducible show wpAny _ _ (subscriptTail _ _ (Value.ref d) (Value.int (0 + (j : Int)) _)) _ _ _); refine item_wordN (TabAt.ofFr hTab (by k_asm)) (hW j hj5) ?_; intro t9) | ((with_reducible show wpAny _ _ (subscriptTail _ _ (Value.ref d) (Value.int (0 + (i : Int)) _)) _ _ _); refine item_wordN (TabAt.ofFr hTab (by k_asm)) (hW i hi) ?_; intro t9) | ((with_reducible show wpAny _ _ (call (Value.ref 56) _) _ _ _); refine lev_spec w mean mg mb _ _ _ _ _ (hl4 j hj5) (hl4 i hi) _ _ _ _ _ _ _ _ _ _ _ _ _ _ _ _ _ (by k_asm) (by k_asm) (by k_asm) (by k_asm) (by first | rfl | assumption) (by ktr_room) (by ktr_units) trivial ?_; intro v9 h9 tk9 st9 hp9; (rename News _ _ _ _ => N8); (rename Fr _ _ _ _ => F8); (have F9 := frStays F8 st9); (have N9 := newsStays N8 st9); (obtain ⟨t9, rfl⟩ := hp9); (clear F8 N8); (try dsimp only)) | ((with_reducible show wpAny _ _ (subscriptTail _ _ (Value.ref ap) (Value.int (0 + (i : Int)) _)) _ _ _); refine mat_rowN (by kmk_list) hl5 hi ?_) | ((with_reducible show wpAny _ _ (subscriptTail _ _ (Value.ref ap) (Value.int (0 + (j : Int)) _)) _ _ _); refine mat_rowN (by kmk_list) hl5 hj5 ?_) | ((with_reducible show wpAny _ _ (setItem (Value.ref (as5.getD i 0)) _ _) _ _ _); (rename News _ _ _ _ => N8); (rename Fr _ _ _ _ => F8); refine set_mat (r := i) (c := j) (pre := [(I2, oI2), (I, oI), (ap, LCg.lst (as5.map Value.ref))]) F8 N8 (by with_reducible assumption) hA5 hpre hi kj hj5 ?_; intro h7 vs7 F7 N7 hM7; (simp only [List.cons_append, List.nil_append] at N7); (clear F8 N8)) | ((with_reducible show wpAny _ _ (setItem (Value.ref (as5.getD j 0)) _ _) _ _ _); (rename News _ _ _ _ => N8); (rename Fr _ _ _ _ => F8); refine set_mat (r := j) (c := i) (pre := [(I2, oI2), (I, oI), (ap, LCg.lst (as5.map Value.ref))]) F8 N8 (by with_reducible assumption) hA5 hpre hj5 ki hi ?_; intro h7 vs7 F7 N7 hM7; (simp only [List.cons_append, List.nil_append] at N7); (clear F8 N8)) | ((fail_if_success (with_reducible show ForPost _ _ _ _ _ _ _ _ _)); walk1) | (dsimp only; first | ((fail_if_success (with_reducible show ForPost _ _ _ _ _ _ _ _ _)); walk1) | (k_unfold; (try dsimp only))) | (leave1; walk_say "STEP leave1"; try dsimp only) | fail "no step")
      rename Fr _ _ _ _ => F1
      rename News _ _ _ _ => N1
      rename MatIs _ _ => hM9
      have hM10 : MatIs _ (inM W i (j + 1)) := inM_step W hj ▸ hM9
      refine ⟨_, _, _, (I, oI) :: (ap, LCg.lst (as5.map Value.ref)) :: matRows as5 _ cc5, rfl, (frIf (x := Str.ofString "apart") (v := .ref ap) (frIf (x := Str.ofString "words") (v := .ref d) (frIf (x := Str.ofString "i") (v := .int (0 + (i : Int)) ti) F1 rfl) rfl) rfl), N1, ?_, ⟨_, _, _, rfl, rfl, hM10⟩⟩
      intro p hp
      rcases List.mem_cons.mp hp with rfl | hp
      · exact offs3
      rcases List.mem_cons.mp hp with rfl | hp
      · exact offs2
      · obtain ⟨q, hq, rfl⟩ := rows_cases hp
        exact fun e => offI2 q hq e.symm
end Mine

-- N1
open PySem PySem.W PyProof.Rows PySem.Calls
set_option Elab.async false
set_option maxRecDepth 100000
set_option maxHeartbeats 8000000
namespace Mine
local macro_rules | `(tactic| k_ne) => `(tactic| (refine neN ?_; (try dsimp only); first | exact Dif.ne (by with_reducible assumption) | exact Dif.ne' (by with_reducible assumption) | omega))
noncomputable def leanF (ks : Nat → List Int) (i : Nat) : Int := 2 - (ks i).length - mn2 (0 + (i : Int)) 1
noncomputable def tieM (M : Nat → Nat → Int) (n o : Nat) (sh : Int) : Nat → Nat → Int :=
  updM (updM (updM (updM M n n (M n n - sh)) o o (updM M n n (M n n - sh) o o - sh)) n o (updM (updM M n n (M n n - sh)) o o (updM M n n (M n n - sh) o o - sh) n o + sh)) o n
    (updM (updM (updM M n n (M n n - sh)) o o (updM M n n (M n n - sh) o o - sh)) n o (updM (updM M n n (M n n - sh)) o o (updM M n n (M n n - sh) o o - sh) n o + sh) o n + sh)
noncomputable def undoM (ks : Nat → List Int) (ps ws : List Int) (worth : Int) : Nat → Nat → Nat → Int
  | 0 => fun a b => 2 * leanF ks a * leanF ks b
  | i + 1 => tieM (undoM ks ps ws worth i) (i + 1) (ps.getD (i + 1) 0).toNat ((2 * worth).fdiv (ws.getD (i + 1) 0))
set_option pp.deepTerms false in
theorem undo_spec (w : World) (mean : ExcName → Option Value) (mg mb : Str → Option Value) (pr kd wt : Addr) (pvs wvs : List Value) (ps ws : List Int) (ks : Nat → List Int) (worth : Int) (tw : Tok) (hpl : ps.length = 5) (hwl : ws.length = 5) (hP : IntsAre pvs ps) (hWt : IntsAre wvs ws)
   (hpb : ∀ i : Nat, 1 ≤ i → i < 5 → 0 ≤ ps.getD i 0 ∧ ps.getD i 0 < i) (hwb : ∀ i : Nat, i < 5 → ws.getD i 0 = 1 ∨ ws.getD i 0 = 2) (hkb : ∀ i : Nat, i < 5 → (ks i).length ≤ 4) (hw0 : 0 ≤ worth) (hw1 : worth ≤ 100) :
   Told1 4 w mean mg mb 92 [.ref pr, .ref kd, .ref wt, .int worth tw] (fun h => h.IsList pr pvs.toArray ∧ h.IsList wt wvs.toArray ∧ MatAt h kd ks)
     (fun h v h' => ∃ a, v = .ref a ∧ MatNew h h' a (rowOf (undoM ks ps ws worth 4))) := by
  unfold Told1
  w_top off
  k_with_none
  k_fill
  intro dp un gd cn cs a0 ccd cl outer A₀ base h₀ L m s Q E B F X T hcs hdp hun hpre hret
  obtain ⟨hP1, hP2, as, hal, hP3, hP4⟩ := hpre
  refine wpAny_call ?_
  k_dflt (refine' enterC (binds := [(Str.ofString "parents", .ref pr), (Str.ofString "kids", .ref kd), (Str.ofString "weights", .ref wt), (Str.ofString "worth", .int worth tw)]) ?k1 ?k2 ?k3 ?k5 ?kA ?kF ?kK ?k6 ?k7 ?k8 ?k9 ?kB ?kD ?_ ?c2 ?c3 ?c4; (case kA => exact rfl); (case kF => exact rfl); (case kK => assumption); (case k1 => k_asm); (case k2 => k_asm); (case k3 => k_asm); (case k5 => k_asm); (case k6 => k_is); (case k7 => k_is); (case k8 => ktr_room); (case k9 => exact BindsTo.of_eq rfl); (case kB => exact rfl); (case kD => decide +kernel); (case c2 => exact rfl); (case c3 => exact rfl); (case c4 => exact rfl); k_whole; intro L' h' tk' cells' hL' F' N' Y' B' X' T'; k_cells Y'; (try simp only [List.cons_append, List.nil_append] at N'); (try dsimp only); (try k_fold))
  clear B F X T
  rename_i oL oK dL dK
  have dK2 : oK.data = .cell (some (.ref kd)) := dK
  have dL2 : oL.data = .cell none := dL
  clear dK dL
  repeat' (first | (k_unfold; (try dsimp only)) | ((fail_if_success (with_reducible show wpAny _ _ (eval (PySem.Expr.ListComp _ _ _ _) _) _ _ _)); walk1) | (dsimp only; first | ((fail_if_success (with_reducible show wpAny _ _ (eval (PySem.Expr.ListComp _ _ _ _) _) _ _ _)); walk1) | (k_unfold; (try dsimp only))) | (leave1; walk_say "STEP leave1"; try dsimp only) | fail "no step")
  (k_dflt (refine LCg.ListComp_U (F₀ := by k_asm) (by with_unfolding_all rfl) (by decide) (by rfl) (by decide) (by rfl) ?_); repeat' (first | (k_unfold; (try dsimp only)) | ((fail_if_success (with_reducible show LCg.CompSrc _ _ _ _ _ _ _ _ _ _ _ _ _ _)); walk1) | (dsimp only; first | ((fail_if_success (with_reducible show LCg.CompSrc _ _ _ _ _ _ _ _ _ _ _ _ _ _)); walk1) | (k_unfold; (try dsimp only))) | (leave1; walk_say "STEP leave1"; try dsimp only) | fail "no step"))
  (k_dflt (refine LCg.CompSrc.range (by rfl) (by k_asm) (by k_asm) (by assumption) (by first | decide | rfl) (by first | rfl | decide) (by first | size_fits | exact Nat.le_of_ble_eq_true rfl) ?_); intro g')
  refine compRest_ind (J := fun i yt news => news = [(L' + 1 + 1, oL), (L' + 1, oK)] ∧ IntsAre yt ((List.range i).map (leanF ks))) 5 ?_ ?_ 5 0 [] _ rfl ⟨rfl, .nil⟩
  · rintro i yt news hi hOB v I oI C oC D m₂ h tk0 E' hOB1 hC hx F3 N3 off ne
    (refine an_2 hOB fun eOB0 hys => ?_; clear hOB; subst eOB0)
    (refine ex_1 hOB1 fun t eOB0 => ?_; clear hOB1; subst eOB0)
    clear hret
    have off0 := off
    simp only [LCg.Off3, and_true] at off
    have hOB := hP4 i hi
    (refine ex_2 hOB fun kv kc hOBx => ?_; clear hOB; refine an_2 hOBx fun hk1 hk2 => ?_; clear hOBx)
    have hkl := listObj hk1
    refine wp_hide2 fun R1 hR1 S1 hS1 => ?_
    repeat' (first | (k_unfold; (try dsimp only)) | ((with_reducible show wpAny _ _ (subscriptTail _ _ (Value.ref kd) (Value.int (0 + (i : Int)) _)) _ _ _); refine mat_rowN (by is_list) hal hi ?_) | ((with_reducible show wpAny _ _ (call (Value.builtin "len") [Value.ref _]) _ _ _); refine len_ints (by is_list) hk2 (by have := hkb i hi; omega) ?_) | ((with_reducible show wpAny _ _ (call (Value.builtin "min") _) _ _ _); (rename Fr _ _ _ _ => F8); (rename News _ _ _ _ => N8); refine min_mn2 rfl F8 N8 ?_; intro h7 k7 t7 F7 N7; (clear F8 N8)) | ((fail_if_success (with_reducible show LCg.CompEnd _ _ _ _ _ _ _ _ _ _ _ _ _ _)); walk1) | (dsimp only; first | ((fail_if_success (with_reducible show LCg.CompEnd _ _ _ _ _ _ _ _ _ _ _ _ _ _)); walk1) | (k_unfold; (try dsimp only))) | (leave1; walk_say "STEP leave1"; try dsimp only) | fail "no step")
    rename Fr _ _ _ _ => F1
    rename News _ _ _ _ => N1
    exact hR1 _ _ (LCg.CompEnd.intro F1 N1 [(L' + 1 + 1, oL), (L' + 1, oK)] (by lcg_sub) off0 trivial ⟨rfl, intsSnocR hys _⟩)
  rintro yt news hOB
  (refine an_2 hOB fun eOB0 hys => ?_; clear hOB; subst eOB0)
  repeat' (first | (k_unfold; (try dsimp only)) | ((fail_if_success (with_reducible show wpAny _ _ (exec (Stmt.Assign _ (PySem.Expr.ListComp _ _ _ _) _) _) _ _ _)); walk1) | (dsimp only; first | ((fail_if_success (with_reducible show wpAny _ _ (exec (Stmt.Assign _ (PySem.Expr.ListComp _ _ _ _) _) _) _ _ _)); walk1) | (k_unfold; (try dsimp only))) | (leave1; walk_say "STEP leave1"; try dsimp only) | fail "no step")
  rename_i Dl _ _ o1l hT oT _ _ dT
  rename Fr _ _ _ _ => F1
  rename News _ _ _ _ => N1
  have hlb : ∀ i : Nat, i < 5 → -4 ≤ leanF ks i ∧ leanF ks i ≤ 2 := by
    intro i hi
    have a := hkb i hi
    unfold leanF mn2
    split <;> omega
  clear hkb hP4 hP3
  refine compCellA (n := 5) (a := 0) (b := 5) (J := fun i ys news => ∃ rows, news = (Dl, LCg.lst yt) :: (L' + 1 + 1, oT) :: (L' + 1, oK) :: rows ∧ Rows (fun r => (List.range 5).map (fun k => 2 * leanF ks r * leanF ks k)) i rows ys) (hLe := rfl) (F₀ := by k_asm) (hsw := by with_unfolding_all rfl) (hy := by rfl) (hp := by rfl) (hh := by rfl) (hclos := by with_unfolding_all rfl) (hkind := by rfl) (hnames := by decide) (hcells := by intro _ _; rfl) (hpush := by intro _; rfl) (hxk := by intro _ _; rfl) (hn := by decide) ?iter ?step ?fin
  case iter =>
    repeat' (first | (k_unfold; (try dsimp only)) | ((fail_if_success (with_reducible show Exists _)); walk1) | (dsimp only; first | ((fail_if_success (with_reducible show Exists _)); walk1) | (k_unfold; (try dsimp only))) | (leave1; walk_say "STEP leave1"; try dsimp only) | fail "no step")
    rename Fr _ _ _ _ => F2
    rename News _ _ _ _ => N2
    rename IsRange _ _ _ _ _ _ _ _ => R2
    exact ⟨_, _, _, _, _, _, _, rfl, rfl, F2, N2, R2, by decide, by decide, ⟨[], rfl, .nil⟩⟩
  case step =>
    rintro i ys _ I oI C oC c oc D h tk t E' hi hOB hoc F3 N3 off ⟨⟨nIC, nIc, nID⟩, ⟨nCc, nCD⟩, ncD⟩
    (refine ex_1 hOB fun rows hOBx => ?_; clear hOB; refine an_2 hOBx fun eOB0 hR => ?_; clear hOBx; subst eOB0)
    clear hret F1 N1
    have hbi := hlb i hi
    (k_dflt (refine LCg.ListComp_U (F₀ := by k_asm) (by with_unfolding_all rfl) (by decide) (by rfl) (by decide) (by rfl) ?_); repeat' (first | (k_unfold; (try dsimp only)) | ((fail_if_success (with_reducible show LCg.CompSrc _ _ _ _ _ _ _ _ _ _ _ _ _ _)); walk1) | (dsimp only; first | ((fail_if_success (with_reducible show LCg.CompSrc _ _ _ _ _ _ _ _ _ _ _ _ _ _)); walk1) | (k_unfold; (try dsimp only))) | (leave1; walk_say "STEP leave1"; try dsimp only) | fail "no step"))
    (k_dflt (refine LCg.CompSrc.range (by rfl) (by k_asm) (by k_asm) (by assumption) (by first | decide | rfl) (by first | rfl | decide) (by first | size_fits | exact Nat.le_of_ble_eq_true rfl) ?_); intro g')
    refine compRest_ind (J := fun k zt news => news = (I, oI) :: (C, oC) :: (c, oc) :: (D, LCg.lst ys) :: (Dl, LCg.lst yt) :: (L' + 1 + 1, oT) :: (L' + 1, oK) :: rows ∧ IntsAre zt ((List.range k).map (fun k => 2 * leanF ks i * leanF ks k))) 5 ?_ ?_ 5 0 [] _ rfl ⟨rfl, .nil⟩
    · rintro k zt _ hk hOB v I2 oI2 C2 oC2 D2 m₂ h2 tk2 E2 hOB1 hC2 hx2 F4 N4 off2 ne2
      (refine an_2 hOB fun eOB0 hzt => ?_; clear hOB; subst eOB0)
      (refine ex_1 hOB1 fun t2 eOB0 => ?_; clear hOB1; subst eOB0)
      have hbk := hlb k hk
      refine wp_hide2 fun R1 hR1 S1 hS1 => ?_
      repeat' (first | (k_unfold; (try dsimp only)) | ((with_reducible show wpAny _ _ (subscriptTail _ _ (Value.ref Dl) (Value.int (0 + (i : Int)) _)) _ _ _); refine ints_itemF (f := leanF ks) (by kmk_list) hys hi ?_; intro t9) | ((with_reducible show wpAny _ _ (subscriptTail _ _ (Value.ref Dl) (Value.int (0 + (k : Int)) _)) _ _ _); refine ints_itemF (f := leanF ks) (by kmk_list) hys hk ?_; intro t9) | ((fail_if_success (with_reducible show LCg.CompEnd _ _ _ _ _ _ _ _ _ _ _ _ _ _)); walk1) | (dsimp only; first | ((fail_if_success (with_reducible show LCg.CompEnd _ _ _ _ _ _ _ _ _ _ _ _ _ _)); walk1) | (k_unfold; (try dsimp only))) | (leave1; walk_say "STEP leave1"; try dsimp only) | fail "no step")
      rename Fr _ _ _ _ => F5
      rename News _ _ _ _ => N5
      exact hR1 _ _ (LCg.CompEnd.intro F5 N5 ((I, oI) :: (C, oC) :: (c, oc) :: (D, LCg.lst ys) :: (Dl, LCg.lst yt) :: (L' + 1 + 1, oT) :: (L' + 1, oK) :: rows) (fun p hp => by simpa using hp) off2 trivial ⟨rfl, intsSnocR (f := fun k => 2 * leanF ks i * leanF ks k) hzt _⟩)
    rintro zt _ hOB D2 h2 tk2 F4 N4 o2
    (refine an_2 hOB fun eOB0 hzt => ?_; clear hOB; subst eOB0)
    have o2' := off1_mem o2
    refine ⟨_, _, (Dl, LCg.lst yt) :: (L' + 1 + 1, oT) :: (L' + 1, oK) :: (D2, PySem.W.listOf zt.toArray zt.length) :: rows, rfl, F4, newsSub N4 ?_, ?_, ⟨_, rfl, .cons hR hzt (fun p hp => difOf (o2' p (by simp [hp])))⟩⟩
    · intro p hp
      simp only [List.mem_cons] at hp ⊢
      rcases hp with h | h | h | h | h | h | h | h | h <;> simp [h]
    · intro p hp
      simp only [List.mem_cons] at hp
      rcases hp with h | h | h | h | h
      · exact off p (by simp [h])
      · exact off p (by simp [h])
      · exact off p (by simp [h])
      · subst h
        exact ⟨fun e => o2' (I, oI) (by simp) e.symm, fun e => o2' (C, oC) (by simp) e.symm, fun e => o2' (c, oc) (by simp) e.symm, fun e => o2' (D, LCg.lst ys) (by simp) e.symm⟩
      · exact off p (by simp [h])
  case fin =>
    rintro ys _ Dt h tk hOB F3 N3 off
    (refine ex_1 hOB fun rows hOBx => ?_; clear hOB; refine an_2 hOBx fun eOB0 hR => ?_; clear hOBx; subst eOB0)
    clear F1 N1
    have hOB := hR.mat (M := undoM ks ps ws worth 0) (fun r _ => rfl)
    (refine ex_3 hOB fun as5 vs5 cc5 hOBx => ?_; clear hOB; refine an_5 hOBx fun hl5 eOB1 hA5 hM5 hsub => ?_; clear hOBx; subst eOB1)
    have hDt : ∀ q, q < 5 → @Ne Nat Dt (as5.getD q 0) := fun q hq e => off _ (.tail _ (.tail _ (.tail _ (hsub _ (mem_rows hq))))) e.symm
    have N4 := newsSub (l := (Dt, LCg.lst (as5.map Value.ref)) :: matRows as5 vs5 cc5) N3 (fun p hp => by
      rcases List.mem_cons.mp hp with h | h
      · rw [h]; exact .head _
      · exact .tail _ (.tail _ (.tail _ (.tail _ (hsub p h)))))
    clear N3 off hlb hys hR o1l dT dK2 dL2 hsub
    (try dsimp only)
    repeat' (first | (k_unfold; (try dsimp only)) | ((fail_if_success (with_reducible show wpAny _ _ (exec (Stmt.For _ _ _ _ _) _) _ _ _)); walk1) | (dsimp only; first | ((fail_if_success (with_reducible show wpAny _ _ (exec (Stmt.For _ _ _ _ _) _) _ _ _)); walk1) | (k_unfold; (try dsimp only))) | (leave1; walk_say "STEP leave1"; try dsimp only) | fail "no step")
    refine wpAny_For ?_
    repeat' (first | (k_unfold; (try dsimp only)) | ((fail_if_success (with_reducible show wpAny _ _ (pyIter _) _ _ _)); walk1) | (dsimp only; first | ((fail_if_success (with_reducible show wpAny _ _ (pyIter _) _ _ _)); walk1) | (k_unfold; (try dsimp only))) | (leave1; walk_say "STEP leave1"; try dsimp only) | fail "no step")
    rename Fr _ _ _ _ => F1
    rename News _ _ _ _ => N1
    rename IsRange _ _ _ _ _ _ _ _ => R1
    have F2 := (frIf (x := Str.ofString "table") (v := .ref Dt) (frIf (x := Str.ofString "parents") (v := .ref pr) (frIf (x := Str.ofString "weights") (v := .ref wt) (frIf (x := Str.ofString "worth") (v := .int worth tw) F1 rfl) rfl) rfl) rfl)
    clear F1
    refine forR (n := 4) (J := fun i m₁ news₁ => ∃ (vs : Nat → List Value) (u : Str → Option Value), m₁ = (fun z => if z = Str.ofString "table" then some (.ref Dt) else if z = Str.ofString "parents" then some (.ref pr) else if z = Str.ofString "weights" then some (.ref wt) else if z = Str.ofString "worth" then some (.int worth tw) else u z) ∧
      news₁ = (Dt, LCg.lst (as5.map Value.ref)) :: matRows as5 vs cc5 ∧ MatIs vs (undoM ks ps ws worth i)) rfl rfl rfl F2 N1 R1 ?zsm ?zsz ?zE ?z0 ?zst ?zdn
    case zsm => decide
    case zsz => decide
    case zE => first | passes_own | with_unfolding_all passes_own
    case z0 => exact ⟨vs5, _, rfl, rfl, hM5⟩
    case zdn =>
      rintro m₁ news₁ h tk hOB F2 N2
      (refine ex_2 hOB fun vs u hOBx => ?_; clear hOB; refine an_3 hOBx fun eOB0 eOB1 hM => ?_; clear hOBx; subst eOB0; subst eOB1)
      clear N1 R1
      repeat' (first | (k_unfold; (try dsimp only)) | ((fail_if_success (with_reducible show LeaveK _ _ _ _ _ _ _)); walk1) | (dsimp only; first | ((fail_if_success (with_reducible show LeaveK _ _ _ _ _ _ _)); walk1) | (k_unfold; (try dsimp only))) | (leave1; walk_say "STEP leave1"; try dsimp only) | fail "no step")
      exact leaveK_ F2 N2 (fun _ _ st => hret _ _ _ st ⟨Dt, rfl, matNewRows hl5 N2 hM⟩)
    case zst =>
      rintro i m₁ news₁ h tk ti I hi hOB off F2 N2
      (refine ex_2 hOB fun vs u hOBx => ?_; clear hOB; refine an_3 hOBx fun eOB0 eOB1 hM => ?_; clear hOBx; subst eOB0; subst eOB1)
      clear N1 R1 hret hM5
      have offs : @Ne Nat Dt I := off (Dt, _) (.head _)
      have hpre : ∀ p ∈ [(I, ritOf (1 + (i : Nat) + 1) ((4 : Nat) - (i : Nat) - 1)), (Dt, LCg.lst (as5.map Value.ref))], ∀ q, q < 5 → @Ne Nat p.1 (as5.getD q 0) := by
        intro p hp q hq
        simp only [List.mem_cons, List.not_mem_nil, or_false] at hp
        rcases hp with rfl | rfl
        · exact fun e => off _ (.tail _ (mem_rows hq)) e.symm
        · exact hDt q hq
      clear off
      dsimp only at F2 N2 hpre
      generalize hO : ritOf _ _ = oI at N2 hpre ⊢
      clear hO
      have hpo := hpb (i + 1) (by omega) (by omega)
      have hw12 : ws.getD (i + 1) 0 = 1 ∨ ws.getD (i + 1) 0 = 2 := hwb (i + 1) (by omega)
      rw [undoM]
      generalize undoM ks ps ws worth i = M at hM ⊢
      obtain ⟨o, ho, ho1⟩ : ∃ o : Nat, ps.getD (i + 1) 0 = (o : Int) ∧ o < i + 1 := ⟨(ps.getD (i + 1) 0).toNat, by omega, by omega⟩
      obtain ⟨wv, hwv⟩ : ∃ wv, ws.getD (i + 1) 0 = wv := ⟨_, rfl⟩
      rw [hwv] at hw12
      rw [ho, hwv]
      have eo : (o : Int).toNat = o := by omega
      rw [eo]
      clear hpo hpb hwb eo
      have hi5 : i + 1 < 5 := by omega
      have ho5 : o < 5 := by omega
      have k1 : (1 : Int) + (i : Int) = ((i + 1 : Nat) : Int) := by omega
      repeat' (first | (k_unfold; (try dsimp only)) | ((with_reducible show wpAny _ _ (subscriptTail _ _ (Value.ref pr) (Value.int _ _)) _ _ _); refine ints_itemSE (by is_list) hP hpl hi ho ?_; intro t9) | ((with_reducible show wpAny _ _ (subscriptTail _ _ (Value.ref wt) (Value.int _ _)) _ _ _); refine ints_itemSE (by is_list) hWt hwl hi hwv ?_; intro t9) | ((with_reducible show wpAny _ _ (subscriptTail _ _ (Value.ref Dt) (Value.int (1 + (i : Int)) _)) _ _ _); refine mat_rowS (by kmk_list) hl5 hi ?_) | ((with_reducible show wpAny _ _ (subscriptTail _ _ (Value.ref Dt) (Value.int (o : Int) _)) _ _ _); refine mat_rowI (by kmk_list) hl5 ho5 ?_) | ((with_reducible show wpAny _ _ (getItem (Value.ref _) (Value.int (1 + (i : Int)) _)) _ _ _); (rename News _ _ _ _ => N8); refine get_mat (c := i + 1) (pre := [(I, oI), (Dt, LCg.lst (as5.map Value.ref))]) N8 (by with_reducible assumption) (by omega) k1 hi5 ?_; intro t9) | ((with_reducible show wpAny _ _ (getItem (Value.ref _) (Value.int (o : Int) _)) _ _ _); (rename News _ _ _ _ => N8); refine get_mat (c := o) (pre := [(I, oI), (Dt, LCg.lst (as5.map Value.ref))]) N8 (by with_reducible assumption) (by omega) rfl ho5 ?_; intro t9) | ((with_reducible show wpAny _ _ (setItem (Value.ref _) (Value.int (1 + (i : Int)) _) _) _ _ _); (rename News _ _ _ _ => N8); (rename Fr _ _ _ _ => F8); refine set_mat (c := i + 1) (pre := [(I, oI), (Dt, LCg.lst (as5.map Value.ref))]) F8 N8 (by with_reducible assumption) hA5 hpre (by omega) k1 hi5 ?_; intro h7 vs7 F7 N7 hM7; (simp only [List.cons_append, List.nil_append] at N7); (clear F8 N8)) | ((with_reducible show wpAny _ _ (setItem (Value.ref _) (Value.int (o : Int) _) _) _ _ _); (rename News _ _ _ _ => N8); (rename Fr _ _ _ _ => F8); refine set_mat (c := o) (pre := [(I, oI), (Dt, LCg.lst (as5.map Value.ref))]) F8 N8 (by with_reducible assumption) hA5 hpre (by omega) rfl ho5 ?_; intro h7 vs7 F7 N7 hM7; (simp only [List.cons_append, List.nil_append] at N7); (clear F8 N8)) | ((fail_if_success (with_reducible show ForPost _ _ _ _ _ _ _ _ _)); walk1) | (dsimp only; first | ((fail_if_success (with_reducible show ForPost _ _ _ _ _ _ _ _ _)); walk1) | (k_unfold; (try dsimp only))) | (leave1; walk_say "STEP leave1"; try dsimp only) | fail "no step")
      rename Fr _ _ _ _ => F1
      rename News _ _ _ _ => N1
      rename MatIs _ _ => hM9
      refine ⟨_, _, _, (Dt, LCg.lst (as5.map Value.ref)) :: matRows as5 _ cc5, rfl, (frIf (x := Str.ofString "table") (v := .ref Dt) (frIf (x := Str.ofString "parents") (v := .ref pr) (frIf (x := Str.ofString "weights") (v := .ref wt) (frIf (x := Str.ofString "worth") (v := .int worth tw) F1 rfl) rfl) rfl) rfl), N1, ?_, ⟨_, _, rfl, rfl, hM9⟩⟩
      intro p hp
      rcases List.mem_cons.mp hp with rfl | hp
      · exact offs
      · obtain ⟨q, hq, rfl⟩ := rows_cases hp
        exact fun e => hpre (I, oI) (.head _) q hq e.symm
end Mine

-- P0
open PySem PySem.W PyProof.Rows PySem.Calls
set_option Elab.async false
set_option maxRecDepth 100000
set_option maxHeartbeats 8000000
namespace Mine
/-- addresses that are none of the law's six cells -/
noncomputable def Apart6 (L : Nat) (base : List (Addr × Obj)) : Prop := ∀ p ∈ base, ∀ k, 1 ≤ k → k ≤ 6 → @Ne Nat p.1 (L + k)
theorem Apart6.nil {L : Nat} : Apart6 L [] := fun _ h => nomatch h
theorem Apart6.append {L : Nat} {x y : List (Addr × Obj)} (hx : Apart6 L x) (hy : Apart6 L y) : Apart6 L (x ++ y) := fun p hp => (List.mem_append.mp hp).elim (hx p) (hy p)
theorem Apart6.a1 {L : Nat} {b : List (Addr × Obj)} (h : Apart6 L b) : ∀ p ∈ b, p.1 ≠ L + 1 := fun p hp => h p hp 1 (by decide) (by decide)
theorem Apart6.a2 {L : Nat} {b : List (Addr × Obj)} (h : Apart6 L b) : ∀ p ∈ b, p.1 ≠ L + 1 + 1 := fun p hp => h p hp 2 (by decide) (by decide)
theorem Apart6.a3 {L : Nat} {b : List (Addr × Obj)} (h : Apart6 L b) : ∀ p ∈ b, p.1 ≠ L + 1 + 1 + 1 := fun p hp => h p hp 3 (by decide) (by decide)
theorem Apart6.a4 {L : Nat} {b : List (Addr × Obj)} (h : Apart6 L b) : ∀ p ∈ b, p.1 ≠ L + 1 + 1 + 1 + 1 := fun p hp => h p hp 4 (by decide) (by decide)
theorem Apart6.a5 {L : Nat} {b : List (Addr × Obj)} (h : Apart6 L b) : ∀ p ∈ b, p.1 ≠ L + 1 + 1 + 1 + 1 + 1 := fun p hp => h p hp 5 (by decide) (by decide)
theorem Apart6.a6 {L : Nat} {b : List (Addr × Obj)} (h : Apart6 L b) : ∀ p ∈ b, p.1 ≠ L + 1 + 1 + 1 + 1 + 1 + 1 := fun p hp => h p hp 6 (by decide) (by decide)
theorem memL {α : Type} {a : α} {l : List α} (h : a ∈ l) : List.Mem a l := h
noncomputable def Cells6 (L : Nat) (h : Heap) : Prop := ∀ k : Nat, 1 ≤ k → k ≤ 6 → ∃ o, h.get? ((L + k : Nat) : Addr) = some o
theorem cells6Of {g h : Heap} {L : Nat} {o1 o2 o3 o4 o5 o6 : Obj} {base : List (Addr × Obj)} (N : News g L h ((L + 1 + 1 + 1 + 1 + 1 + 1, o6) :: (L + 1 + 1 + 1 + 1 + 1, o5) :: (L + 1 + 1 + 1 + 1, o4) :: (L + 1 + 1 + 1, o3) :: (L + 1 + 1, o2) :: (L + 1, o1) :: base)) : Cells6 L h := by
  intro k h1 h2
  have hk : k = 1 ∨ k = 2 ∨ k = 3 ∨ k = 4 ∨ k = 5 ∨ k = 6 := by omega
  rcases hk with rfl | rfl | rfl | rfl | rfl | rfl
  · exact ⟨_, (N _ (.tail _ (.tail _ (.tail _ (.tail _ (.tail _ (.head _))))))).1⟩
  · exact ⟨_, (N _ (.tail _ (.tail _ (.tail _ (.tail _ (.head _)))))).1⟩
  · exact ⟨_, (N _ (.tail _ (.tail _ (.tail _ (.head _))))).1⟩
  · exact ⟨_, (N _ (.tail _ (.tail _ (.head _)))).1⟩
  · exact ⟨_, (N _ (.tail _ (.head _))).1⟩
  · exact ⟨_, (N _ (.head _)).1⟩
theorem apart6One {L : Nat} {h : Heap} {a : Addr} {o : Obj} (C : Cells6 L h) (hn : h.get? a = none) : Apart6 L [(a, o)] := by
  intro p hp k h1 h2 e
  rw [List.mem_singleton.mp hp] at e
  obtain ⟨o', ho⟩ := C k h1 h2
  have e' : a = L + k := e
  rw [← e', hn] at ho; cases ho
theorem newsOne {g h h' : Heap} {L a : Addr} {m : Str → Option Value} {o : Obj} (F : Fr g L h m) (hn : h.get? a = none) (ho : h'.get? a = some o) : News g L h' [(a, o)] := by
  intro p hp
  rw [List.mem_singleton.mp hp]
  refine ⟨ho, fun e => ?_, ?_⟩
  · obtain ⟨oL, _, _, hL, _⟩ := F.ns
    have e' : a = L := e
    rw [e', hL] at hn; cases hn
  · cases q : g.get? a with
    | none => rfl
    | some oo => have := F.keep _ _ q; rw [hn] at this; cases this
theorem newsJoin {g h : Heap} {L : Addr} {x y : List (Addr × Obj)} (hx : News g L h x) (hy : News g L h y) : News g L h (x ++ y) := fun p hp => (List.mem_append.mp hp).elim (hx p) (hy p)
noncomputable def IntsIn (base : List (Addr × Obj)) (a : Addr) (ns : List Int) : Prop := ∃ vs k, (a, PySem.W.listOf (List.toArray vs) k) ∈ base ∧ IntsAre vs ns
noncomputable def MatIn (base : List (Addr × Obj)) (a : Addr) (f : Nat → List Int) : Prop := ∃ (as : List Addr) (c : Nat), as.length = 5 ∧ (a, PySem.W.listOf (as.map Value.ref).toArray c) ∈ base ∧ ∀ i, i < 5 → IntsIn base (as.getD i 0) (f i)
theorem IntsIn.mono {b b' : List (Addr × Obj)} {a : Addr} {ns : List Int} (h : IntsIn b a ns) (s : ∀ p ∈ b, p ∈ b') : IntsIn b' a ns := let ⟨vs, k, m, i⟩ := h; ⟨vs, k, s _ m, i⟩
theorem MatIn.mono {b b' : List (Addr × Obj)} {a : Addr} {f : Nat → List Int} (h : MatIn b a f) (s : ∀ p ∈ b, p ∈ b') : MatIn b' a f := let ⟨as, c, l, m, i⟩ := h; ⟨as, c, l, s _ m, fun j hj => (i j hj).mono s⟩
theorem IntsIn.ats {g h : Heap} {L a : Addr} {b all : List (Addr × Obj)} {ns : List Int} (x : IntsIn b a ns) (N : News g L h all) (s : ∀ p ∈ b, p ∈ all) : IntsAt h a ns :=
  let ⟨vs, k, m, i⟩ := x; ⟨vs, k, (N _ (s _ m)).1, i⟩
theorem MatIn.ats {g h : Heap} {L a : Addr} {b all : List (Addr × Obj)} {f : Nat → List Int} (x : MatIn b a f) (N : News g L h all) (s : ∀ p ∈ b, p ∈ all) : MatAt h a f :=
  let ⟨as, _, l, m, i⟩ := x; ⟨as, l, listObj (N _ (s _ m)).1, fun j hj => (i j hj).ats N s⟩
theorem intsAdd {g h h' : Heap} {L : Nat} {L₀ a : Addr} {m : Str → Option Value} {ns : List Int} (F : Fr g L₀ h m) (C : Cells6 L h) (hn : h.get? a = none) (x : IntsAt h' a ns) : ∃ ext, News g L₀ h' ext ∧ Apart6 L ext ∧ IntsIn ext a ns := by
  obtain ⟨vs, k, ho, hi⟩ := x
  exact ⟨_, newsOne F hn ho, apart6One C hn, vs, k, .head _, hi⟩
theorem matAdd {g h h' : Heap} {L : Nat} {L₀ a : Addr} {m : Str → Option Value} {f : Nat → List Int} (F : Fr g L₀ h m) (C : Cells6 L h) (x : MatNew h h' a f) : ∃ ext, News g L₀ h' ext ∧ Apart6 L ext ∧ MatIn ext a f := by
  obtain ⟨as, c, hl, ho, hn, hr⟩ := x
  obtain ⟨w0, k0, p0, q0, r0⟩ := hr 0 (by decide)
  obtain ⟨w1, k1, p1, q1, r1⟩ := hr 1 (by decide)
  obtain ⟨w2, k2, p2, q2, r2⟩ := hr 2 (by decide)
  obtain ⟨w3, k3, p3, q3, r3⟩ := hr 3 (by decide)
  obtain ⟨w4, k4, p4, q4, r4⟩ := hr 4 (by decide)
  refine ⟨[(a, _)] ++ ([(as.getD 0 0, _)] ++ ([(as.getD 1 0, _)] ++ ([(as.getD 2 0, _)] ++ ([(as.getD 3 0, _)] ++ [(as.getD 4 0, _)])))),
    newsJoin (newsOne F hn ho) (newsJoin (newsOne F q0 p0) (newsJoin (newsOne F q1 p1) (newsJoin (newsOne F q2 p2) (newsJoin (newsOne F q3 p3) (newsOne F q4 p4))))),
    (apart6One C hn).append ((apart6One C q0).append ((apart6One C q1).append ((apart6One C q2).append ((apart6One C q3).append (apart6One C q4))))), as, c, hl, .head _, fun i hi => ?_⟩
  have hi5 : i = 0 ∨ i = 1 ∨ i = 2 ∨ i = 3 ∨ i = 4 := lt5 (by first | assumption | omega)
  rcases hi5 with rfl | rfl | rfl | rfl | rfl
  · exact ⟨w0, k0, .tail _ (.head _), r0⟩
  · exact ⟨w1, k1, .tail _ (.tail _ (.head _)), r1⟩
  · exact ⟨w2, k2, .tail _ (.tail _ (.tail _ (.head _))), r2⟩
  · exact ⟨w3, k3, .tail _ (.tail _ (.tail _ (.tail _ (.head _)))), r3⟩
  · exact ⟨w4, k4, .tail _ (.tail _ (.tail _ (.tail _ (.tail _ (.head _))))), r4⟩
theorem pushBase {g h : Heap} {L : Nat} {L₀ D : Addr} {o o1 o2 o3 o4 o5 o6 : Obj} {base : List (Addr × Obj)}
    (N : News g L₀ h ((D, o) :: (L + 1 + 1 + 1 + 1 + 1 + 1, o6) :: (L + 1 + 1 + 1 + 1 + 1, o5) :: (L + 1 + 1 + 1 + 1, o4) :: (L + 1 + 1 + 1, o3) :: (L + 1 + 1, o2) :: (L + 1, o1) :: base))
    (off : ∀ p ∈ ((L + 1 + 1 + 1 + 1 + 1 + 1, o6) :: (L + 1 + 1 + 1 + 1 + 1, o5) :: (L + 1 + 1 + 1 + 1, o4) :: (L + 1 + 1 + 1, o3) :: (L + 1 + 1, o2) :: (L + 1, o1) :: base : List (Addr × Obj)), @Ne Nat p.1 D) (ha : Apart6 L base) :
    News g L₀ h ((L + 1 + 1 + 1 + 1 + 1 + 1, o6) :: (L + 1 + 1 + 1 + 1 + 1, o5) :: (L + 1 + 1 + 1 + 1, o4) :: (L + 1 + 1 + 1, o3) :: (L + 1 + 1, o2) :: (L + 1, o1) :: ((D, o) :: base)) ∧ Apart6 L ((D, o) :: base) := by
  refine ⟨fun p hp => N p (by simp only [List.mem_cons] at hp ⊢; rcases hp with h | h | h | h | h | h | h | h <;> simp [h]), fun p hp k h1 h2 => ?_⟩
  rcases List.mem_cons.mp hp with rfl | hp
  · have hk : k = 1 ∨ k = 2 ∨ k = 3 ∨ k = 4 ∨ k = 5 ∨ k = 6 := by omega
    rcases hk with rfl | rfl | rfl | rfl | rfl | rfl
    · exact fun e => off (L + 1, o1) (.tail _ (.tail _ (.tail _ (.tail _ (.tail _ (.head _)))))) e.symm
    · exact fun e => off (L + 1 + 1, o2) (.tail _ (.tail _ (.tail _ (.tail _ (.head _))))) e.symm
    · exact fun e => off (L + 1 + 1 + 1, o3) (.tail _ (.tail _ (.tail _ (.head _)))) e.symm
    · exact fun e => off (L + 1 + 1 + 1 + 1, o4) (.tail _ (.tail _ (.head _))) e.symm
    · exact fun e => off (L + 1 + 1 + 1 + 1 + 1, o5) (.tail _ (.head _)) e.symm
    · exact fun e => off (L + 1 + 1 + 1 + 1 + 1 + 1, o6) (.head _) e.symm
  · exact ha p hp k h1 h2
theorem apart6Of {L : Nat} {D : Addr} {o o1 o2 o3 o4 o5 o6 : Obj} {all : List (Addr × Obj)} (off : ∀ p ∈ all, @Ne Nat p.1 D)
    (s : ∀ p ∈ ([(L + 1 + 1 + 1 + 1 + 1 + 1, o6), (L + 1 + 1 + 1 + 1 + 1, o5), (L + 1 + 1 + 1 + 1, o4), (L + 1 + 1 + 1, o3), (L + 1 + 1, o2), (L + 1, o1)] : List (Addr × Obj)), p ∈ all) : Apart6 L [(D, o)] := by
  intro p hp k h1 h2
  rw [List.mem_singleton.mp hp]
  have hk : k = 1 ∨ k = 2 ∨ k = 3 ∨ k = 4 ∨ k = 5 ∨ k = 6 := by omega
  rcases hk with rfl | rfl | rfl | rfl | rfl | rfl
  · exact fun e => off (L + 1, o1) (s _ (.tail _ (.tail _ (.tail _ (.tail _ (.tail _ (.head _))))))) e.symm
  · exact fun e => off (L + 1 + 1, o2) (s _ (.tail _ (.tail _ (.tail _ (.tail _ (.head _)))))) e.symm
  · exact fun e => off (L + 1 + 1 + 1, o3) (s _ (.tail _ (.tail _ (.tail _ (.head _))))) e.symm
  · exact fun e => off (L + 1 + 1 + 1 + 1, o4) (s _ (.tail _ (.tail _ (.head _)))) e.symm
  · exact fun e => off (L + 1 + 1 + 1 + 1 + 1, o5) (s _ (.tail _ (.head _))) e.symm
  · exact fun e => off (L + 1 + 1 + 1 + 1 + 1 + 1, o6) (s _ (.head _)) e.symm
/-- a row made in a turn of a comprehension over the cells goes to the rows -/
theorem turnRow {g h : Heap} {L : Nat} {L₀ I C c D D2 : Addr} {o oI oC oc oD o1 o2 o3 o4 o5 o6 : Obj} {rows base : List (Addr × Obj)}
    (N : News g L₀ h ((D2, o) :: (I, oI) :: (C, oC) :: (c, oc) :: (D, oD) :: (L + 1 + 1 + 1 + 1 + 1 + 1, o6) :: (L + 1 + 1 + 1 + 1 + 1, o5) :: (L + 1 + 1 + 1 + 1, o4) :: (L + 1 + 1 + 1, o3) :: (L + 1 + 1, o2) :: (L + 1, o1) :: (rows ++ base)))
    (off : Off4 I C c D ((L + 1 + 1 + 1 + 1 + 1 + 1, o6) :: (L + 1 + 1 + 1 + 1 + 1, o5) :: (L + 1 + 1 + 1 + 1, o4) :: (L + 1 + 1 + 1, o3) :: (L + 1 + 1, o2) :: (L + 1, o1) :: (rows ++ base)))
    (n : ∀ p ∈ ((I, oI) :: (C, oC) :: (c, oc) :: (D, oD) :: (L + 1 + 1 + 1 + 1 + 1 + 1, o6) :: (L + 1 + 1 + 1 + 1 + 1, o5) :: (L + 1 + 1 + 1 + 1, o4) :: (L + 1 + 1 + 1, o3) :: (L + 1 + 1, o2) :: (L + 1, o1) :: (rows ++ base) : List (Addr × Obj)), @Ne Nat p.1 D2) (hAr : Apart6 L rows) :
    News g L₀ h ((I, oI) :: (C, oC) :: (c, oc) :: (D, oD) :: (L + 1 + 1 + 1 + 1 + 1 + 1, o6) :: (L + 1 + 1 + 1 + 1 + 1, o5) :: (L + 1 + 1 + 1 + 1, o4) :: (L + 1 + 1 + 1, o3) :: (L + 1 + 1, o2) :: (L + 1, o1) :: (((D2, o) :: rows) ++ base)) ∧
    Off4 I C c D ((L + 1 + 1 + 1 + 1 + 1 + 1, o6) :: (L + 1 + 1 + 1 + 1 + 1, o5) :: (L + 1 + 1 + 1 + 1, o4) :: (L + 1 + 1 + 1, o3) :: (L + 1 + 1, o2) :: (L + 1, o1) :: (((D2, o) :: rows) ++ base)) ∧ Apart6 L ((D2, o) :: rows) ∧ (∀ p ∈ rows, Dif p.1 D2) := by
  refine ⟨fun p hp => N p ?_, fun p hp => ?_, Apart6.append (x := [(D2, o)]) (apart6Of (o1 := o1) (o2 := o2) (o3 := o3) (o4 := o4) (o5 := o5) (o6 := o6) n (fun p hp => ?_)) hAr, fun p hp => difOf (n p ?_)⟩
  · simp only [List.mem_cons, List.cons_append] at hp ⊢
    rcases hp with h | h | h | h | h | h | h | h | h | h | h | h <;> simp [h]
  · simp only [List.mem_cons, List.cons_append] at hp
    rcases hp with h | h | h | h | h | h | h | h
    · exact off p (by simp [h])
    · exact off p (by simp [h])
    · exact off p (by simp [h])
    · exact off p (by simp [h])
    · exact off p (by simp [h])
    · exact off p (by simp [h])
    · subst h
      exact ⟨fun e => n (I, oI) (by simp) e.symm, fun e => n (C, oC) (by simp) e.symm, fun e => n (c, oc) (by simp) e.symm, fun e => n (D, oD) (by simp) e.symm⟩
    · exact off p (by simp only [List.mem_cons]; exact .inr (.inr (.inr (.inr (.inr (.inr h))))))
  · simp only [List.mem_cons, List.not_mem_nil, or_false] at hp ⊢
    rcases hp with h | h | h | h | h | h <;> simp [h]
  · simp [hp]
theorem rowsIn {f : Nat → List Int} {rows : List (Addr × Obj)} {ys : List Value} {D : Addr} {c : Nat} {base : List (Addr × Obj)} (h : Rows f 5 rows ys) : MatIn ((D, PySem.W.listOf ys.toArray c) :: (rows ++ base)) D f := by
  obtain ⟨a0, a1, a2, a3, a4, v0, v1, v2, v3, v4, c0, c1, c2, c3, c4, rfl, rfl, ⟨i0, i1, i2, i3, i4⟩, _⟩ := h.five
  refine ⟨[a0, a1, a2, a3, a4], c, rfl, .head _, fun i hi => ?_⟩
  have hi5 : i = 0 ∨ i = 1 ∨ i = 2 ∨ i = 3 ∨ i = 4 := lt5 (by first | assumption | omega)
  rcases hi5 with rfl | rfl | rfl | rfl | rfl
  · exact ⟨v0, c0, .tail _ (.tail _ (.tail _ (.tail _ (.tail _ (.head _))))), i0⟩
  · exact ⟨v1, c1, .tail _ (.tail _ (.tail _ (.tail _ (.head _)))), i1⟩
  · exact ⟨v2, c2, .tail _ (.tail _ (.tail _ (.head _))), i2⟩
  · exact ⟨v3, c3, .tail _ (.tail _ (.head _)), i3⟩
  · exact ⟨v4, c4, .tail _ (.head _), i4⟩
noncomputable def kidL (ps : List Int) (i : Nat) : Nat → List Int
  | 0 => []
  | k + 1 => if ps.getD (k + 1) 0 = (0 + (i : Int)) then kidL ps i k ++ [1 + (k : Int)] else kidL ps i k
noncomputable def mx2 (a b : Int) : Int := if b > a then b else a
section
variable {prog : Program} {w : World} {A : Around} {E : Value → Shared → Prop} {s : Shared} {h₀ : Heap} {L : Addr} {m : Str → Option Value} {news : List (Addr × Obj)}
theorem ints_itemS {value slice : PySem.Expr} {l : Addr} {vs : List Value} {ns : List Int} {u : Tok} {k : Nat} {Q : Value → Shared → Prop} (hl : s.heap.IsList l vs.toArray) (hv : IntsAre vs ns) (hn : ns.length = 5) (hk : k < 4) (h : ∀ t, Q (.int (ns.getD (k + 1) 0) t) s)
    (hs : subscripted slice false (.ref l) (.int (1 + (k : Int)) u) = operate [.ref l, .int (1 + (k : Int)) u] (getItem (.ref l) (.int (1 + (k : Int)) u)) := by with_unfolding_all rfl) :
    wpAny (model prog w) A (subscriptTail value slice (.ref l) (.int (1 + (k : Int)) u)) Q E s :=
  ints_item hl hv hn (by omega) (by omega) (fun t => by rw [show (1 + (k : Int)).toNat = k + 1 by omega]; exact h t) hs
theorem ints_itemM {value slice : PySem.Expr} {l : Addr} {vs : List Value} {M : Nat → Nat → Int} {u : Tok} {r j : Nat} {Q : Value → Shared → Prop} (hl : s.heap.IsList l vs.toArray) (hv : IntsAre vs (rowOf M r)) (hj : j < 5) (h : ∀ t, Q (.int (M r j) t) s)
    (hs : subscripted slice false (.ref l) (.int (0 + (j : Int)) u) = operate [.ref l, .int (0 + (j : Int)) u] (getItem (.ref l) (.int (0 + (j : Int)) u)) := by with_unfolding_all rfl) :
    wpAny (model prog w) A (subscriptTail value slice (.ref l) (.int (0 + (j : Int)) u)) Q E s := by
  have e : (rowOf M r).getD j 0 = M r j := by
    have hj5 : j = 0 ∨ j = 1 ∨ j = 2 ∨ j = 3 ∨ j = 4 := lt5 (by first | assumption | omega)
    rcases hj5 with rfl | rfl | rfl | rfl | rfl <;> rfl
  exact ints_itemN hl hv rfl hj (fun t => by rw [e]; exact h t) hs
theorem mul_small {a b : Int} {t u : Tok} {Q : Value → Shared → Prop} (h0 : -1000 ≤ a) (h1 : a ≤ 1000) (h : Q (.int (a * b) s.toks) { s with toks := s.toks + 1 }) : wpAny (model prog w) A (binaryOp .Mult (.int a t) (.int b u)) Q E s :=
  mul_int h (.of_left (intBits_le_64 (by omega) (by omega)))
theorem max_mx2 {a b : Int} {t u : Tok} {Q : Value → Shared → Prop} (hh : A.handled = none) (F : Fr h₀ L s.heap m) (N : News h₀ L s.heap news)
    (h : ∀ h' tk t', Fr h₀ L h' m → News h₀ L h' news → Q (.int (mx2 a b) t') { s with heap := h', toks := tk }) :
    wpAny (model prog w) A (call (.builtin "max") [.int a t, .int b u]) Q E s := max_two_N hh F N fun h' tk F' N' => h h' tk _ F' N'
noncomputable def rowD (M : Nat → Nat → Int) (r : Nat) : PyData := .list [.int (M r 0), .int (M r 1), .int (M r 2), .int (M r 3), .int (M r 4)]
noncomputable def matD (M : Nat → Nat → Int) : PyData := .list [rowD M 0, rowD M 1, rowD M 2, rowD M 3, rowD M 4]
theorem rowReads {h : Heap} {a : Addr} {M : Nat → Nat → Int} {r : Nat} (x : IntsAt h a (rowOf M r)) : Reads h (.ref a) (rowD M r) [a] := by
  obtain ⟨vs, k, ho, hi⟩ := x
  exact reads_of_ints (listObj ho) hi
theorem matReads {h : Heap} {a : Addr} {M : Nat → Nat → Int} (x : MatAt h a (rowOf M)) : ∃ bs, Reads h (.ref a) (matD M) bs := by
  obtain ⟨as, hl, ⟨o, ho, hc, n, hd⟩, hr⟩ := x
  match as, hl with
  | [a0, a1, a2, a3, a4], _ =>
    exact ⟨_, .list ho hc hd (.cons (rowReads (hr 0 (by decide))) (.cons (rowReads (hr 1 (by decide))) (.cons (rowReads (hr 2 (by decide))) (.cons (rowReads (hr 3 (by decide))) (.cons (rowReads (hr 4 (by decide))) .nil)))))⟩
theorem matSame {M M' : Nat → Nat → Int} (e : ∀ i k, i < 5 → k < 5 → M i k = M' i k) : matD M = matD M' := by
  have row : ∀ r, r < 5 → rowD M r = rowD M' r := fun r hr => by
    unfold rowD
    rw [e r 0 hr (by decide), e r 1 hr (by decide), e r 2 hr (by decide), e r 3 hr (by decide), e r 4 hr (by decide)]
  unfold matD
  rw [row 0 (by decide), row 1 (by decide), row 2 (by decide), row 3 (by decide), row 4 (by decide)]
theorem eq_mat {a b : Addr} {M M' : Nat → Nat → Int} {Q : Value → Shared → Prop} (ha : MatAt s.heap a (rowOf M)) (hb : MatAt s.heap b (rowOf M')) (e : ∀ i k, i < 5 → k < 5 → M i k = M' i k) (hu : A.units + 64 < cLine) (h : Q (.bool true) s) :
    wpAny (model prog w) A (compareOp .Eq (.ref a) (.ref b)) Q E s := by
  obtain ⟨as, ra⟩ := matReads ha
  obtain ⟨bs, rb⟩ := matReads hb
  rw [← matSame e] at rb
  refine eq_dataH_same ra rb (by rfl) (by rfl) hu (by rfl) ?_
  have : PySem.Spec.same (matD M) (matD M) = true := by simp [matD, rowD, PySem.Spec.same, PySem.Spec.sameAll]
  rw [this]; exact h
end
noncomputable def parF (ds : List Int) (i : Nat) : Int := (ds.getD i 0).fmod (mx2 (0 + (i : Int)) 1)
noncomputable def wF (ks : Nat → List Int) (ds : List Int) (i : Nat) : Int := if ks i = [] then (if ((ds.getD i 0).fdiv (mx2 (0 + (i : Int)) 1)).fmod 2 = 1 then 1 else 2) else 1
theorem newsBut {g h h' : Heap} {L : Addr} {news : List (Addr × Obj)} (N : News g L h news) (st : ∀ b o, h.get? b = some o → b ≠ L → h'.get? b = some o) : News g L h' news := fun p hp => ⟨st _ _ (N p hp).1 (N p hp).2.1, (N p hp).2⟩
theorem getRangeL {f : Nat → List Int} {i : Nat} (h : i < 5) : ((List.range 5).map f).getD i [] = f i := by
  rw [List.getD_eq_getElem?_getD, List.getElem?_map, List.getElem?_range h]; rfl
noncomputable def sumT (A U : Nat → Nat → Int) (i k : Nat) : Int := ((List.range 5).map (fun j => A i j * U j k)).sum
noncomputable def diagT (worth : Int) (i k : Nat) : Int := if i = k then 4 * worth else 0
theorem notDec {p : Prop} [Decidable p] (h : p) : ¬ ((!decide p) = true) := by simp [h]
theorem yesDec {p : Prop} [Decidable p] (h : ¬ p) : (!decide p) = true := by simp [h]
end Mine

-- R0
open PySem PySem.W PyProof.Rows PySem.Calls
set_option Elab.async false
set_option maxRecDepth 100000
set_option maxHeartbeats 8000000
namespace Mine
inductive Sy
  | z
  | t (x : Nat)
  | n (x : Nat)
noncomputable def symNum (ds : List Int) : Sy → Int
  | .z => 0
  | .t x => num2 x (ds.getD x 0)
  | .n x => num1 x (ds.getD x 0)
noncomputable def symOk : Sy → Bool
  | .z => true
  | .t x => decide (1 ≤ x) && decide (x < 5)
  | .n x => decide (x < 5)
noncomputable def absRun (ws : List Int) (ks : List (List Int)) : Nat → List Int → List Sy
  | 0, _ => []
  | f + 1, W => match W.getLast? with
    | none => []
    | some x => if x < 0 then .z :: absRun ws ks f W.dropLast
      else if ws.getD x.toNat 0 = 2 then .t x.toNat :: absRun ws ks f W.dropLast
      else .n x.toNat :: absRun ws ks f (W.dropLast ++ [-1] ++ ks.getD x.toNat [])
noncomputable def absOk (ws : List Int) (ks : List (List Int)) : Nat → List Int → Bool
  | 0, W => W.isEmpty
  | f + 1, W => match W.getLast? with
    | none => true
    | some x => decide (W.length ≤ 100) && (if x < 0 then absOk ws ks f W.dropLast
      else decide (x < 5) && (if ws.getD x.toNat 0 = 2 then absOk ws ks f W.dropLast
        else decide ((ks.getD x.toNat []).length ≤ 100) && absOk ws ks f (W.dropLast ++ [-1] ++ ks.getD x.toNat [])))
noncomputable def absW : List Sy → List Str → List (PyData × PyData) → List (PyData × PyData)
  | [], _, D => D
  | .z :: r, pile, D => absW r pile.dropLast D
  | .n x :: r, pile, D => absW r (pile ++ [newWord "ABCD" x (pile.getLastD Str.empty)]) (PyProof.V.putD (.int x) (.str (newWord "ABCD" x (pile.getLastD Str.empty))) D)
  | .t x :: r, pile, D => absW r pile (PyProof.V.putD (.int x) (.str (newWord "1234" x (pile.getLastD Str.empty))) D)
noncomputable def absD : List Sy → Nat → Bool
  | [], _ => true
  | .z :: r, d => decide (0 < d) && absD r (d - 1)
  | .n _ :: r, d => decide (0 < d) && absD r (d + 1)
  | .t _ :: r, d => decide (0 < d) && absD r d
theorem run_eq {ds ws : List Int} {ks : List (List Int)} : ∀ (f : Nat) (W : List Int), tapeRun ds ws ks f W = (absRun ws ks f W).map (symNum ds) := by
  intro f
  induction f with
  | zero => intro W; rfl
  | succ f ih =>
    intro W
    cases hW : W.getLast? with
    | none => simp only [tapeRun, absRun, hW, List.map_nil]
    | some x =>
      simp only [tapeRun, absRun, hW]
      by_cases c : x < 0
      · rw [if_pos c, if_pos c, List.map_cons, ih]; rfl
      · have hx : ((x.toNat : Nat) : Int) = x := by omega
        rw [if_neg c, if_neg c]
        by_cases c2 : ws.getD x.toNat 0 = 2
        · rw [if_pos c2, if_pos c2, List.map_cons, ih]
          show _ = num2 ((x.toNat : Nat) : Int) _ :: _
          rw [hx]
        · rw [if_neg c2, if_neg c2, List.map_cons, ih]
          show _ = num1 ((x.toNat : Nat) : Int) _ :: _
          rw [hx]
theorem num2_b {x d : Int} (h1 : 0 ≤ x) (h2 : x < 5) : 0 ≤ num2 x d ∧ num2 x d < 16777216 := by
  unfold num2
  have a := Int.fmod_nonneg_of_pos (d.fdiv 8) (show (0 : Int) < 51 by decide)
  have b := Int.fmod_lt_of_pos (d.fdiv 8) (show (0 : Int) < 51 by decide)
  omega
theorem fdiv8 (d : Int) : d.fdiv 8 = d / 8 := Int.fdiv_eq_ediv_of_nonneg d (by decide)
theorem fmod5e (x : Int) : x.fmod 5 = x % 5 := Int.fmod_eq_emod_of_nonneg x (by decide)
theorem num1_b {x d : Int} (hd : 0 ≤ d) (hd2 : d < 16777216) : 0 ≤ num1 x d ∧ num1 x d < 16777216 := by
  unfold num1
  rw [fdiv8, fmod5e]
  omega
theorem tape_ok {ds ws : List Int} {ks : List (List Int)} (hd : ∀ i : Nat, i < 5 → 0 ≤ ds.getD i 0 ∧ ds.getD i 0 < 16777216) : ∀ (f : Nat) (W : List Int), absOk ws ks f W = true → tapeOk ds ws ks f W := by
  intro f
  induction f with
  | zero => intro W h; exact List.isEmpty_iff.mp h
  | succ f ih =>
    intro W h
    unfold absOk at h
    unfold tapeOk
    split
    · trivial
    · rename_i x hx
      rw [hx] at h
      simp only [Bool.and_eq_true, decide_eq_true_eq] at h
      refine ⟨h.1, ?_⟩
      have h2 := h.2
      split
      · rename_i c; rw [if_pos c] at h2; exact ih _ h2
      · rename_i c
        rw [if_neg c] at h2
        simp only [Bool.and_eq_true, decide_eq_true_eq] at h2
        refine ⟨h2.1, ?_⟩
        have h3 := h2.2
        have hb := hd x.toNat (by omega)
        split
        · rename_i c2; rw [if_pos c2] at h3
          have := num2_b (d := ds.getD x.toNat 0) (show 0 ≤ x by omega) h2.1
          exact ⟨this.1, this.2, ih _ h3⟩
        · rename_i c2; rw [if_neg c2] at h3
          simp only [Bool.and_eq_true, decide_eq_true_eq] at h3
          have := num1_b (x := x) hb.1 hb.2
          exact ⟨this.1, this.2, h3.1, ih _ h3.2⟩
theorem symT {x : Nat} {d : Int} (h1 : 1 ≤ x) (h2 : x < 5) : num2 x d ≠ 0 ∧ ¬ 256 ≤ num2 x d ∧ (256 - num2 x d).fmod 5 = x := by
  unfold num2
  have a := Int.fmod_nonneg_of_pos (d.fdiv 8) (show (0 : Int) < 51 by decide)
  have b := Int.fmod_lt_of_pos (d.fdiv 8) (show (0 : Int) < 51 by decide)
  rw [fmod5e]
  omega
theorem symN {x : Nat} {d : Int} (hd : 0 ≤ d) (h2 : x < 5) : num1 x d ≠ 0 ∧ 256 ≤ num1 x d ∧ (num1 x d - 255).fmod 5 = x := by
  unfold num1
  rw [fdiv8, fmod5e, fmod5e]
  omega
theorem words_eq {ds : List Int} (hd : ∀ i : Nat, i < 5 → 0 ≤ ds.getD i 0 ∧ ds.getD i 0 < 16777216) : ∀ (l : List Sy) (pile : List Str) (D : List (PyData × PyData)), l.all symOk = true → wordsRun (l.map (symNum ds)) pile D = absW l pile D := by
  intro l
  induction l with
  | nil => intro pile D _; rfl
  | cons a l ih =>
    intro pile D h
    simp only [List.all_cons, Bool.and_eq_true] at h
    rw [List.map_cons]
    cases a with
    | z => rw [wordsRun, absW, if_pos (show symNum ds .z = 0 from rfl)]; exact ih _ _ h.2
    | t x =>
      have hx : 1 ≤ x ∧ x < 5 := by have := h.1; simp only [symOk, Bool.and_eq_true, decide_eq_true_eq] at this; exact this
      obtain ⟨a, b, c⟩ := symT (d := ds.getD x 0) hx.1 hx.2
      rw [wordsRun, absW, show symNum ds (.t x) = num2 x (ds.getD x 0) from rfl, if_neg a, if_neg b, c]
      exact ih _ _ h.2
    | n x =>
      have hx : x < 5 := by have := h.1; simp only [symOk, decide_eq_true_eq] at this; exact this
      obtain ⟨a, b, c⟩ := symN (x := x) (hd x hx).1 hx
      rw [wordsRun, absW, show symNum ds (.n x) = num1 x (ds.getD x 0) from rfl, if_neg a, if_pos b, c]
      exact ih _ _ h.2
theorem w_ok {ds : List Int} (hd : ∀ i : Nat, i < 5 → 0 ≤ ds.getD i 0 ∧ ds.getD i 0 < 16777216) : ∀ (l : List Sy) (d : Nat), l.all symOk = true → absD l d = true → wOk (l.map (symNum ds)) d := by
  intro l
  induction l with
  | nil => intro d _ _; trivial
  | cons a l ih =>
    intro d h hd2
    simp only [List.all_cons, Bool.and_eq_true] at h
    rw [List.map_cons]
    cases a with
    | z =>
      simp only [absD, Bool.and_eq_true, decide_eq_true_eq] at hd2
      exact ⟨hd2.1, Int.le_refl _, (show (0 : Int) < 16777216 by decide), by rw [if_pos (show symNum ds .z = 0 from rfl)]; exact ih _ h.2 hd2.2⟩
    | t x =>
      have hx : 1 ≤ x ∧ x < 5 := by have := h.1; simp only [symOk, Bool.and_eq_true, decide_eq_true_eq] at this; exact this
      obtain ⟨a, b, c⟩ := symT (d := ds.getD x 0) hx.1 hx.2
      simp only [absD, Bool.and_eq_true, decide_eq_true_eq] at hd2
      have nb := num2_b (x := (x : Int)) (d := ds.getD x 0) (by omega) (by omega)
      exact ⟨hd2.1, nb.1, nb.2, by rw [show symNum ds (.t x) = num2 x (ds.getD x 0) from rfl, if_neg a, if_neg b]; exact ih _ h.2 hd2.2⟩
    | n x =>
      have hx : x < 5 := by have := h.1; simp only [symOk, decide_eq_true_eq] at this; exact this
      obtain ⟨a, b, c⟩ := symN (x := x) (hd x hx).1 hx
      simp only [absD, Bool.and_eq_true, decide_eq_true_eq] at hd2
      have nb := num1_b (x := (x : Int)) (hd x hx).1 (hd x hx).2
      exact ⟨hd2.1, nb.1, nb.2, by rw [show symNum ds (.n x) = num1 x (ds.getD x 0) from rfl, if_neg a, if_pos b]; exact ih _ h.2 hd2.2⟩
end Mine

-- R2
open PySem PySem.W PyProof.Rows PySem.Calls
set_option Elab.async false
set_option maxRecDepth 100000
set_option maxHeartbeats 8000000
namespace Mine
noncomputable def kindN (c p : Nat) : Nat := c / 3 ^ p % 3
noncomputable def letN (p k : Nat) : Nat := if k = 0 then 97 + p else if k = 1 then 65 + p else 49 + p
/-- the word of a code: four places, each the letter small, large or a figure -/
noncomputable def decS (c : Nat) : Str := ⟨#[letN 0 (kindN c 0), letN 1 (kindN c 1), letN 2 (kindN c 2), letN 3 (kindN c 3)]⟩
noncomputable def kcost (x y : Nat) : Int := if x = y then 0 else if x = 2 then 2 else if y = 2 then 2 else 1
noncomputable def costC (a b : Nat) : Int := kcost (kindN a 0) (kindN b 0) + kcost (kindN a 1) (kindN b 1) + kcost (kindN a 2) (kindN b 2) + kcost (kindN a 3) (kindN b 3)
noncomputable def pairsP : List (Nat × Nat) := [(0, 1), (0, 2), (0, 3), (0, 4), (0, 6), (0, 7), (0, 9), (0, 10), (0, 12), (0, 13), (0, 18), (0, 19), (0, 21), (0, 22), (0, 27), (0, 28), (0, 30), (0, 31), (0, 36), (0, 37), (0, 39), (0, 40), (0, 54), (0, 55), (0, 57), (0, 58), (0, 63), (0, 64), (0, 66), (0, 67), (1, 3), (1, 4), (1, 6), (1, 7), (1, 9), (1, 10), (1, 12), (1, 13), (1, 18), (1, 19), (1, 21), (1, 22), (1, 27), (1, 28), (1, 30), (1, 31), (1, 36), (1, 37), (1, 39), (1, 40), (1, 54), (1, 55), (1, 57), (1, 58), (1, 63), (1, 64), (1, 66), (1, 67), (2, 3), (2, 6), (2, 9), (2, 12), (2, 18), (2, 21), (2, 27), (2, 30), (2, 36), (2, 39), (2, 54), (2, 57), (2, 63), (2, 66), (3, 9), (3, 10), (3, 12), (3, 18), (3, 19), (3, 21), (3, 27), (3, 28), (3, 30), (3, 36), (3, 37), (3, 39), (3, 54), (3, 55), (3, 57), (3, 63), (3, 64), (3, 66), (4, 9), (4, 10), (4, 13), (4, 18), (4, 19), (4, 22), (4, 27), (4, 28), (4, 31), (4, 36), (4, 37), (4, 40), (4, 54), (4, 55), (4, 58), (4, 63), (4, 64), (4, 67), (6, 9), (6, 10), (6, 18), (6, 19), (6, 27), (6, 28), (6, 36), (6, 37), (6, 54), (6, 55), (6, 63), (6, 64), (7, 9), (7, 10), (7, 18), (7, 19), (7, 27), (7, 28), (7, 36), (7, 37), (7, 54), (7, 55), (7, 63), (7, 64), (9, 27), (9, 28), (9, 30), (9, 31), (9, 36), (9, 54), (9, 55), (9, 57), (9, 58), (9, 63), (10, 27), (10, 28), (10, 30), (10, 31), (10, 37), (10, 54), (10, 55), (10, 57), (10, 58), (10, 64), (12, 27), (12, 28), (12, 30), (12, 39), (12, 54), (12, 55), (12, 57), (12, 66), (13, 27), (13, 28), (13, 31), (13, 40), (13, 54), (13, 55), (13, 58), (13, 67), (18, 27), (18, 28), (18, 30), (18, 31), (18, 54), (18, 55), (18, 57), (18, 58), (19, 27), (19, 28), (19, 30), (19, 31), (19, 54), (19, 55), (19, 57), (19, 58), (21, 27), (21, 28), (21, 30), (21, 54), (21, 55), (21, 57), (22, 27), (22, 28), (22, 31), (22, 54), (22, 55), (22, 58)]
noncomputable def levAll (l : List (Nat × Nat)) : Bool := l.all fun p => decide (levFn (decS p.1) (decS p.2) = costC p.1 p.2)
noncomputable def pP0 : List (Nat × Nat) := [(0, 1), (0, 2), (0, 3), (0, 4), (0, 6), (0, 7), (0, 9), (0, 10), (0, 12), (0, 13), (0, 18), (0, 19), (0, 21), (0, 22), (0, 27), (0, 28), (0, 30), (0, 31), (0, 36), (0, 37), (0, 39), (0, 40), (0, 54), (0, 55), (0, 57), (0, 58), (0, 63), (0, 64)]
theorem lP0 : levAll pP0 = true := by decide +kernel
noncomputable def pP1 : List (Nat × Nat) := [(0, 66), (0, 67), (1, 3), (1, 4), (1, 6), (1, 7), (1, 9), (1, 10), (1, 12), (1, 13), (1, 18), (1, 19), (1, 21), (1, 22), (1, 27), (1, 28), (1, 30), (1, 31), (1, 36), (1, 37), (1, 39), (1, 40), (1, 54), (1, 55), (1, 57), (1, 58), (1, 63), (1, 64)]
theorem lP1 : levAll pP1 = true := by decide +kernel
noncomputable def pP2 : List (Nat × Nat) := [(1, 66), (1, 67), (2, 3), (2, 6), (2, 9), (2, 12), (2, 18), (2, 21), (2, 27), (2, 30), (2, 36), (2, 39), (2, 54), (2, 57), (2, 63), (2, 66), (3, 9), (3, 10), (3, 12), (3, 18), (3, 19), (3, 21), (3, 27), (3, 28), (3, 30), (3, 36), (3, 37), (3, 39)]
theorem lP2 : levAll pP2 = true := by decide +kernel
noncomputable def pP3 : List (Nat × Nat) := [(3, 54), (3, 55), (3, 57), (3, 63), (3, 64), (3, 66), (4, 9), (4, 10), (4, 13), (4, 18), (4, 19), (4, 22), (4, 27), (4, 28), (4, 31), (4, 36), (4, 37), (4, 40), (4, 54), (4, 55), (4, 58), (4, 63), (4, 64), (4, 67), (6, 9), (6, 10), (6, 18), (6, 19)]
theorem lP3 : levAll pP3 = true := by decide +kernel
noncomputable def pP4 : List (Nat × Nat) := [(6, 27), (6, 28), (6, 36), (6, 37), (6, 54), (6, 55), (6, 63), (6, 64), (7, 9), (7, 10), (7, 18), (7, 19), (7, 27), (7, 28), (7, 36), (7, 37), (7, 54), (7, 55), (7, 63), (7, 64), (9, 27), (9, 28), (9, 30), (9, 31), (9, 36), (9, 54), (9, 55), (9, 57)]
theorem lP4 : levAll pP4 = true := by decide +kernel
noncomputable def pP5 : List (Nat × Nat) := [(9, 58), (9, 63), (10, 27), (10, 28), (10, 30), (10, 31), (10, 37), (10, 54), (10, 55), (10, 57), (10, 58), (10, 64), (12, 27), (12, 28), (12, 30), (12, 39), (12, 54), (12, 55), (12, 57), (12, 66), (13, 27), (13, 28), (13, 31), (13, 40), (13, 54), (13, 55), (13, 58), (13, 67)]
theorem lP5 : levAll pP5 = true := by decide +kernel
noncomputable def pP6 : List (Nat × Nat) := [(18, 27), (18, 28), (18, 30), (18, 31), (18, 54), (18, 55), (18, 57), (18, 58), (19, 27), (19, 28), (19, 30), (19, 31), (19, 54), (19, 55), (19, 57), (19, 58), (21, 27), (21, 28), (21, 30), (21, 54), (21, 55), (21, 57), (22, 27), (22, 28), (22, 31), (22, 54), (22, 55), (22, 58)]
theorem lP6 : levAll pP6 = true := by decide +kernel
theorem levP {a b : Nat} (h : (a, b) ∈ pairsP) : levFn (decS a) (decS b) = costC a b := by
  have e : pairsP = ((((((pP0 ++ pP1) ++ pP2) ++ pP3) ++ pP4) ++ pP5) ++ pP6) := rfl
  rw [e] at h
  simp only [List.mem_append] at h
  have go : ∀ l : List (Nat × Nat), levAll l = true → (a, b) ∈ l → levFn (decS a) (decS b) = costC a b := fun l hl hm => of_decide_eq_true (List.all_eq_true.mp hl _ hm)
  rcases h with (((((h | h) | h) | h) | h) | h) | h
  · exact go _ lP0 h
  · exact go _ lP1 h
  · exact go _ lP2 h
  · exact go _ lP3 h
  · exact go _ lP4 h
  · exact go _ lP5 h
  · exact go _ lP6 h
noncomputable def cstep (ps ws : List Int) (cs : List Nat) (j : Nat) : List Nat := cs ++ [cs.getD (ps.getD j 0).toNat 0 + 3 ^ (j - 1) * (if ws.getD j 0 = 2 then 2 else 1)]
noncomputable def codes (ps ws : List Int) : List Nat := [1, 2, 3, 4].foldl (cstep ps ws) [0]
noncomputable def all5 (p : Nat → Bool) : Bool := p 0 && p 1 && p 2 && p 3 && p 4
theorem all5_get {p : Nat → Bool} (h : all5 p = true) {i : Nat} (hi : i < 5) : p i = true := by
  simp only [all5, Bool.and_eq_true] at h
  obtain ⟨⟨⟨⟨a, b⟩, c⟩, d⟩, e⟩ := h
  have hi5 : i = 0 ∨ i = 1 ∨ i = 2 ∨ i = 3 ∨ i = 4 := lt5 (by first | assumption | omega)
  rcases hi5 with rfl | rfl | rfl | rfl | rfl <;> assumption
noncomputable def isWord (D : List (PyData × PyData)) (cs : List Nat) (j : Nat) : Bool := match PySem.Spec.lookup (.int j) D with
  | some (.str w) => decide (w = decS (cs.getD j 0))
  | _ => false
theorem isWord_get {D : List (PyData × PyData)} {cs : List Nat} {j : Nat} (h : isWord D cs j = true) : PySem.Spec.lookup (.int j) D = some (.str (decS (cs.getD j 0))) := by
  unfold isWord at h
  split at h
  · rename_i w e; rw [e, of_decide_eq_true h]
  · cases h
noncomputable def mC (cs : List Nat) (i k : Nat) : Int := if i = k then 0 else costC (cs.getD (min i k) 0) (cs.getD (max i k) 0)
noncomputable def kidsOf (ps : List Int) : List (List Int) := (List.range 5).map (fun r => kidL ps r 4)
noncomputable def chk1 (ws : List Int) (KS : List (List Int)) (sy : List Sy) : Bool := absOk ws KS 12 [0] && sy.all symOk && absD sy 1 && decide (sy.length ≤ 100)
noncomputable def chk3 (cs : List Nat) (U : Nat → Nat → Int) (worth : Int) : Bool := all5 fun i => all5 fun k => (decide (i ≥ k) || decide ((cs.getD i 0, cs.getD k 0) ∈ pairsP)) && decide (-1000 ≤ mC cs i k) && decide (mC cs i k ≤ 1000) && decide (sumT (mC cs) U i k = diagT worth i k)
noncomputable def chk4 (ps ws : List Int) : Bool := all5 fun i => (decide (i = 0) || (decide (0 ≤ ps.getD i 0) && decide (ps.getD i 0 < i))) && (decide (ws.getD i 0 = 1) || decide (ws.getD i 0 = 2)) && decide ((kidL ps i 4).length ≤ 4)
noncomputable def chk (ps ws : List Int) : Bool :=
  chk1 ws (kidsOf ps) (absRun ws (kidsOf ps) 12 [0]) && all5 (isWord (absW (absRun ws (kidsOf ps) 12 [0]) [Str.ofString "abcd"] []) (codes ps ws)) && chk4 ps ws && decide (0 ≤ (ws.drop 1).sum) && decide ((ws.drop 1).sum ≤ 100) &&
  chk3 (codes ps ws) (undoM (fun r => kidL ps r 4) ps ws (ws.drop 1).sum 4) (ws.drop 1).sum
noncomputable def optW (ps : List Int) (j : Nat) : List Int := if kidL ps j 4 = [] then [1, 2] else [1]
noncomputable def chkTree (ps : List Int) : Bool := (optW ps 1).all fun a => (optW ps 2).all fun b => (optW ps 3).all fun c => (optW ps 4).all fun d => chk ps [1, a, b, c, d]
end Mine

-- R1
open PySem PySem.W PyProof.Rows PySem.Calls
set_option Elab.async false
set_option maxRecDepth 100000
set_option maxHeartbeats 8000000
namespace Mine
theorem tree000 : chkTree [0, 0, 0, 0, 0] = true := by decide +kernel
theorem tree001 : chkTree [0, 0, 0, 0, 1] = true := by decide +kernel
theorem tree002 : chkTree [0, 0, 0, 0, 2] = true := by decide +kernel
theorem tree003 : chkTree [0, 0, 0, 0, 3] = true := by decide +kernel
theorem tree010 : chkTree [0, 0, 0, 1, 0] = true := by decide +kernel
theorem tree011 : chkTree [0, 0, 0, 1, 1] = true := by decide +kernel
theorem tree012 : chkTree [0, 0, 0, 1, 2] = true := by decide +kernel
theorem tree013 : chkTree [0, 0, 0, 1, 3] = true := by decide +kernel
theorem tree020 : chkTree [0, 0, 0, 2, 0] = true := by decide +kernel
theorem tree021 : chkTree [0, 0, 0, 2, 1] = true := by decide +kernel
theorem tree022 : chkTree [0, 0, 0, 2, 2] = true := by decide +kernel
theorem tree023 : chkTree [0, 0, 0, 2, 3] = true := by decide +kernel
theorem tree100 : chkTree [0, 0, 1, 0, 0] = true := by decide +kernel
theorem tree101 : chkTree [0, 0, 1, 0, 1] = true := by decide +kernel
theorem tree102 : chkTree [0, 0, 1, 0, 2] = true := by decide +kernel
theorem tree103 : chkTree [0, 0, 1, 0, 3] = true := by decide +kernel
theorem tree110 : chkTree [0, 0, 1, 1, 0] = true := by decide +kernel
theorem tree111 : chkTree [0, 0, 1, 1, 1] = true := by decide +kernel
theorem tree112 : chkTree [0, 0, 1, 1, 2] = true := by decide +kernel
theorem tree113 : chkTree [0, 0, 1, 1, 3] = true := by decide +kernel
theorem tree120 : chkTree [0, 0, 1, 2, 0] = true := by decide +kernel
theorem tree121 : chkTree [0, 0, 1, 2, 1] = true := by decide +kernel
theorem tree122 : chkTree [0, 0, 1, 2, 2] = true := by decide +kernel
theorem tree123 : chkTree [0, 0, 1, 2, 3] = true := by decide +kernel
theorem rangeS {f : Nat → Str} {j : Nat} (hj : j < 5) : ((List.range 5).map f).getD j Str.empty = f j := by
  rw [List.getD_eq_getElem?_getD, List.getElem?_map, List.getElem?_range hj]; rfl
theorem mC_eq {cs : List Nat} (hP : ∀ i k : Nat, i < k → k < 5 → (cs.getD i 0, cs.getD k 0) ∈ pairsP) {i k : Nat} (hi : i < 5) (hk : k < 5) : apC ((List.range 5).map (fun j => decS (cs.getD j 0))) 5 i k = mC cs i k := by
  have gW : ∀ j : Nat, j < 5 → ((List.range 5).map (fun j => decS (cs.getD j 0))).getD j Str.empty = decS (cs.getD j 0) := fun j hj => by
    rw [List.getD_eq_getElem?_getD, List.getElem?_map, List.getElem?_range hj]; rfl
  unfold apC mC
  by_cases e : i = k
  · rw [if_pos e, if_neg (fun h => h.2.2 e)]
  · rw [if_neg e, if_pos ⟨hi, hk, e⟩]
    unfold LV
    rw [gW _ (by omega), gW _ (by omega)]
    exact levP (hP _ _ (by omega) (by omega))
theorem plainOf {ds ps ws : List Int} {KS : List (List Int)} (hd : ∀ i : Nat, i < 5 → 0 ≤ ds.getD i 0 ∧ ds.getD i 0 < 16777216)
    (hws : ws = (List.range 5).map (wF (fun r => kidL ps r 4) ds)) (hKS : KS = (List.range 5).map (fun r => kidL ps r 4)) (h0 : kidL ps 0 4 ≠ []) (hT : chkTree ps = true) :
    tapeOk ds ws KS 12 [0] ∧ wOk (tapeRun ds ws KS 12 [0]) 1 ∧ (tapeRun ds ws KS 12 [0]).length ≤ 100 ∧ ∃ W : List Str,
      (∀ j : Nat, j < 5 → PySem.Spec.lookup (.int j) (wordsRun (tapeRun ds ws KS 12 [0]) [Str.ofString "abcd"] []) = some (.str (W.getD j Str.empty))) ∧ (∀ j : Nat, j < 5 → (W.getD j Str.empty).length = 4) ∧
      (∀ i k : Nat, i < 5 → k < 5 → -1000 ≤ apC W 5 i k ∧ apC W 5 i k ≤ 1000) ∧
      (∀ i k : Nat, i < 5 → k < 5 → sumT (apC W 5) (undoM (fun r => kidL ps r 4) ps ws (ws.drop 1).sum 4) i k = diagT (ws.drop 1).sum i k) ∧
      (∀ i : Nat, 1 ≤ i → i < 5 → 0 ≤ ps.getD i 0 ∧ ps.getD i 0 < i) ∧ (∀ i : Nat, i < 5 → ws.getD i 0 = 1 ∨ ws.getD i 0 = 2) ∧ (∀ i : Nat, i < 5 → (kidL ps i 4).length ≤ 4) ∧ 0 ≤ (ws.drop 1).sum ∧ (ws.drop 1).sum ≤ 100 := by
  have hopt : ∀ j, wF (fun r => kidL ps r 4) ds j ∈ optW ps j := fun j => by
    unfold wF optW
    by_cases c : kidL ps j 4 = []
    · rw [if_pos c, if_pos c]
      split <;> simp
    · rw [if_neg c, if_neg c]
      simp
  have hw : ws = [1, wF (fun r => kidL ps r 4) ds 1, wF (fun r => kidL ps r 4) ds 2, wF (fun r => kidL ps r 4) ds 3, wF (fun r => kidL ps r 4) ds 4] := by
    rw [hws, rowRange]
    have : wF (fun r => kidL ps r 4) ds 0 = 1 := if_neg h0
    rw [this]
  have hC : chk ps ws = true := by
    rw [hw]
    exact List.all_eq_true.mp (List.all_eq_true.mp (List.all_eq_true.mp (List.all_eq_true.mp hT _ (hopt 1)) _ (hopt 2)) _ (hopt 3)) _ (hopt 4)
  clear hws hw hopt hT
  unfold chk at hC
  simp only [Bool.and_eq_true, decide_eq_true_eq] at hC
  obtain ⟨⟨⟨⟨⟨c1, c2⟩, c4⟩, s0⟩, s1⟩, c3⟩ := hC
  have eK : kidsOf ps = KS := hKS.symm
  rw [eK] at c1 c2
  unfold chk1 at c1
  simp only [Bool.and_eq_true, decide_eq_true_eq] at c1
  obtain ⟨⟨⟨a1, a2⟩, a3⟩, a4⟩ := c1
  rw [run_eq]
  have hP : ∀ i k : Nat, i < k → k < 5 → ((codes ps ws).getD i 0, (codes ps ws).getD k 0) ∈ pairsP := fun i k h1 h2 => by
    have := all5_get (all5_get c3 (i := i) (by omega)) h2
    simp only [Bool.and_eq_true, Bool.or_eq_true, decide_eq_true_eq] at this
    rcases this.1.1.1 with h | h
    · omega
    · exact h
  refine ⟨tape_ok hd _ _ a1, w_ok hd _ _ a2 a3, by rw [List.length_map]; exact a4, (List.range 5).map (fun j => decS ((codes ps ws).getD j 0)), fun j hj => ?_, fun j hj => ?_, fun i k hi hk => ?_, fun i k hi hk => ?_, fun i h1 hi => ?_, fun i hi => ?_, fun i hi => ?_, s0, s1⟩
  · rw [words_eq hd _ _ _ a2, isWord_get (all5_get c2 hj), rangeS hj]
  · rw [rangeS hj]; rfl
  · rw [mC_eq hP hi hk]
    have := all5_get (all5_get c3 hi) hk
    simp only [Bool.and_eq_true, decide_eq_true_eq] at this
    exact ⟨this.1.1.2, this.1.2⟩
  · have := all5_get (all5_get c3 hi) hk
    simp only [Bool.and_eq_true, decide_eq_true_eq] at this
    rw [← this.2]
    unfold sumT
    congr 1
    refine List.map_congr_left fun j hj => ?_
    rw [mC_eq hP hi (List.mem_range.mp hj)]
  · have := all5_get c4 hi
    simp only [Bool.and_eq_true, Bool.or_eq_true, decide_eq_true_eq] at this
    rcases this.1.1 with h | h
    · omega
    · exact h
  · have := all5_get c4 hi
    simp only [Bool.and_eq_true, Bool.or_eq_true, decide_eq_true_eq] at this
    exact this.1.2
  · have := all5_get c4 hi
    simp only [Bool.and_eq_true, Bool.or_eq_true, decide_eq_true_eq] at this
    exact this.2
theorem plain {ds ps ws : List Int} {KS : List (List Int)} {d1 d2 d3 d4 : Int} (hds : ds = [0, d1, d2, d3, d4]) (h1 : 0 ≤ d1 ∧ d1 < 16777216) (h2 : 0 ≤ d2 ∧ d2 < 16777216) (h3 : 0 ≤ d3 ∧ d3 < 16777216) (h4 : 0 ≤ d4 ∧ d4 < 16777216)
    (hps : ps = (List.range 5).map (parF ds)) (hws : ws = (List.range 5).map (wF (fun r => kidL ps r 4) ds)) (hKS : KS = (List.range 5).map (fun r => kidL ps r 4)) :
    tapeOk ds ws KS 12 [0] ∧ wOk (tapeRun ds ws KS 12 [0]) 1 ∧ (tapeRun ds ws KS 12 [0]).length ≤ 100 ∧ ∃ W : List Str,
      (∀ j : Nat, j < 5 → PySem.Spec.lookup (.int j) (wordsRun (tapeRun ds ws KS 12 [0]) [Str.ofString "abcd"] []) = some (.str (W.getD j Str.empty))) ∧ (∀ j : Nat, j < 5 → (W.getD j Str.empty).length = 4) ∧
      (∀ i k : Nat, i < 5 → k < 5 → -1000 ≤ apC W 5 i k ∧ apC W 5 i k ≤ 1000) ∧
      (∀ i k : Nat, i < 5 → k < 5 → sumT (apC W 5) (undoM (fun r => kidL ps r 4) ps ws (ws.drop 1).sum 4) i k = diagT (ws.drop 1).sum i k) ∧
      (∀ i : Nat, 1 ≤ i → i < 5 → 0 ≤ ps.getD i 0 ∧ ps.getD i 0 < i) ∧ (∀ i : Nat, i < 5 → ws.getD i 0 = 1 ∨ ws.getD i 0 = 2) ∧ (∀ i : Nat, i < 5 → (kidL ps i 4).length ≤ 4) ∧ 0 ≤ (ws.drop 1).sum ∧ (ws.drop 1).sum ≤ 100 := by
  have hd : ∀ i : Nat, i < 5 → 0 ≤ ds.getD i 0 ∧ ds.getD i 0 < 16777216 := by
    intro i hi
    have hi5 : i = 0 ∨ i = 1 ∨ i = 2 ∨ i = 3 ∨ i = 4 := lt5 (by first | assumption | omega)
    rw [hds]
    rcases hi5 with rfl | rfl | rfl | rfl | rfl
    · exact ⟨Int.le_refl _, by show (0 : Int) < _; decide⟩
    · exact h1
    · exact h2
    · exact h3
    · exact h4
  have e0 : parF ds 0 = 0 := by rw [hds]; rfl
  have e1 : parF ds 1 = 0 := by
    rw [hds]
    show d1.fmod 1 = 0
    exact Int.fmod_one d1
  have e2 : parF ds 2 = d2.fmod 2 := by rw [hds]; rfl
  have e3 : parF ds 3 = d3.fmod 3 := by rw [hds]; rfl
  have e4 : parF ds 4 = d4.fmod 4 := by rw [hds]; rfl
  have b2 := And.intro (Int.fmod_nonneg_of_pos d2 (show (0 : Int) < 2 by decide)) (Int.fmod_lt_of_pos d2 (show (0 : Int) < 2 by decide))
  have b3 := And.intro (Int.fmod_nonneg_of_pos d3 (show (0 : Int) < 3 by decide)) (Int.fmod_lt_of_pos d3 (show (0 : Int) < 3 by decide))
  have b4 := And.intro (Int.fmod_nonneg_of_pos d4 (show (0 : Int) < 4 by decide)) (Int.fmod_lt_of_pos d4 (show (0 : Int) < 4 by decide))
  have hps2 : ps = [0, 0, d2.fmod 2, d3.fmod 3, d4.fmod 4] := by rw [hps, rowRange, e0, e1, e2, e3, e4]
  clear hps e0 e1 e2 e3 e4
  generalize d2.fmod 2 = p2 at *
  generalize d3.fmod 3 = p3 at *
  generalize d4.fmod 4 = p4 at *
  have c2 : p2 = 0 ∨ p2 = 1 := by omega
  have c3 : p3 = 0 ∨ p3 = 1 ∨ p3 = 2 := by omega
  have c4 : p4 = 0 ∨ p4 = 1 ∨ p4 = 2 ∨ p4 = 3 := by omega
  clear b2 b3 b4 h1 h2 h3 h4 hds
  subst hps2
  rcases c2 with rfl | rfl
  · rcases c3 with rfl | rfl | rfl
    · rcases c4 with rfl | rfl | rfl | rfl
      · exact plainOf hd hws hKS (by decide) tree000
      · exact plainOf hd hws hKS (by decide) tree001
      · exact plainOf hd hws hKS (by decide) tree002
      · exact plainOf hd hws hKS (by decide) tree003
    · rcases c4 with rfl | rfl | rfl | rfl
      · exact plainOf hd hws hKS (by decide) tree010
      · exact plainOf hd hws hKS (by decide) tree011
      · exact plainOf hd hws hKS (by decide) tree012
      · exact plainOf hd hws hKS (by decide) tree013
    · rcases c4 with rfl | rfl | rfl | rfl
      · exact plainOf hd hws hKS (by decide) tree020
      · exact plainOf hd hws hKS (by decide) tree021
      · exact plainOf hd hws hKS (by decide) tree022
      · exact plainOf hd hws hKS (by decide) tree023
  · rcases c3 with rfl | rfl | rfl
    · rcases c4 with rfl | rfl | rfl | rfl
      · exact plainOf hd hws hKS (by decide) tree100
      · exact plainOf hd hws hKS (by decide) tree101
      · exact plainOf hd hws hKS (by decide) tree102
      · exact plainOf hd hws hKS (by decide) tree103
    · rcases c4 with rfl | rfl | rfl | rfl
      · exact plainOf hd hws hKS (by decide) tree110
      · exact plainOf hd hws hKS (by decide) tree111
      · exact plainOf hd hws hKS (by decide) tree112
      · exact plainOf hd hws hKS (by decide) tree113
    · rcases c4 with rfl | rfl | rfl | rfl
      · exact plainOf hd hws hKS (by decide) tree120
      · exact plainOf hd hws hKS (by decide) tree121
      · exact plainOf hd hws hKS (by decide) tree122
      · exact plainOf hd hws hKS (by decide) tree123
end Mine

-- P1
open PySem PySem.W PyProof.Rows PySem.Calls
set_option Elab.async false
set_option maxRecDepth 100000
set_option maxHeartbeats 8000000
namespace Mine

local macro_rules | `(tactic| k_ne) => `(tactic| (refine neN ?_; (try dsimp only); first | exact Dif.ne (by with_reducible assumption) | exact Dif.ne' (by with_reducible assumption) | omega))
local macro_rules | `(tactic| k_mem) => `(tactic| first | with_reducible assumption | exact memL (by with_reducible assumption) | exact List.Mem.head _ | (refine List.Mem.tail _ ?_; k_mem))
local macro_rules | `(tactic| k_all) => `(tactic| first | exact Apart6.a1 (by with_reducible assumption) | exact Apart6.a2 (by with_reducible assumption) | exact Apart6.a3 (by with_reducible assumption) | exact Apart6.a4 (by with_reducible assumption) | exact Apart6.a5 (by with_reducible assumption) | exact Apart6.a6 (by with_reducible assumption))
set_option maxHeartbeats 0 in
set_option pp.deepTerms false in
theorem law_walk : PySem.Challenge.rw_rs0039_01.Holds := hd (by
  k_go0
  rename_i wW s₀ s₁ mg mb G Y fa oo pm doc ho hg KX XX V GL T BB TE TW w15 w14 M w13 w12 hcd ns hs hlay0 hLz hr hl2 w10 w9 l vs w6 hL ra w1 r0 hI hr2 hc1 hc2 K0 hD h₁ tk₁ F0 o6 o5 o4 o3 o2 o1 e6 e5 e4 e3 e2 e1 N0 X0
  have g6 : o6.data = .cell none := e6
  have g5 : o5.data = .cell none := e5
  have g4 : o4.data = .cell none := e4
  have g3 : o3.data = .cell none := e3
  have g2 : o2.data = .cell none := e2
  have g1 : o1.data = .cell none := e1
  have hlen : ns.length ≤ 63 := by omega
  have K1 : Below callerA s₁.heap [] s₁.heap := K0
  clear K0
  clear e6 e5 e4 e3 e2 e1 X0 hc1 hc2 hr2 r0 w1 ra hs hlay0 hLz hr hl2 hD hcd G Y ho XX V GL BB TE TW M
  generalize hLs : s₁.heap.objs.size = L at *
  (try dsimp only at *)
  (try k_fold)
  refine wp_hide2 fun R0 hR0 S0 hS0 => ?_
  repeat' (first | (k_unfold; (try dsimp only)) | ((with_reducible show wpAny _ _ (eval (PySem.Expr.Name _ _) (compEnvC _ _ _ _)) _ _ _); k_dflt (first | (refine' lcf_cell ?N ?c ?m ?d ?_ ?a ?b; (case a => rfl); (case b => rfl); (case N => k_asm); (case c => rfl); (case m => k_mem); (case d => k_asm); k_whole) | refine LCgL.ld_own (by k_asm) (by k_mem) (by assumption) (by assumption) ?_ | refine LCgL.ld_built (by k_asm) (by k_asm) (by k_asm) (by k_is) (by boot_by_name) (by decide) ?_)) | ((with_reducible show wpAny _ _ (call (Value.ref 61) _) _ _ _); refine drawn_spec _ _ _ _ vs ns l hI hlen _ _ _ _ _ _ _ _ _ _ _ _ _ _ _ _ _ (by k_asm) (by k_asm) (by k_asm) (by k_asm) (by first | rfl | assumption) (by ktr_room) (by ktr_units) (by is_list) ?_; intro v9 h9 tk9 st9 hp9; (rename News _ _ _ _ => N8); (rename Fr _ _ _ _ => F8); (have F9 := frStays F8 st9); (have N9 := newsStays N8 st9); (obtain ⟨dr, d1, d2, d3, d4, rfl, hn9, hA9, hb1, hb2, hb3, hb4⟩ := hp9); (obtain ⟨ext, NX, AX, IX⟩ := intsAdd F8 (cells6Of N8) hn9 hA9); (clear F8 N8); (try dsimp only)) | ((fail_if_success (with_reducible show wpAny _ _ (storeName _ _ _) _ _ _)); walk1) | (dsimp only; first | ((fail_if_success (with_reducible show wpAny _ _ (storeName _ _ _) _ _ _)); walk1) | (k_unfold; (try dsimp only))) | (leave1; walk_say "STEP leave1"; try dsimp only) | fail "no step")
  have NJ : News s₁.heap L h9 ((L + 1 + 1 + 1 + 1 + 1 + 1, o6) :: (L + 1 + 1 + 1 + 1 + 1, o5) :: (L + 1 + 1 + 1 + 1, o4) :: (L + 1 + 1 + 1, o3) :: (L + 1 + 1, o2) :: (L + 1, o1) :: ext) := newsJoin N9 NX
  clear N9 NX hA9 hn9 st9
  obtain ⟨ds, hds⟩ : ∃ ds, ds = [0, d1, d2, d3, d4] := ⟨_, rfl⟩
  have hdl : ds.length = 5 := by rw [hds]; rfl
  rw [← hds] at IX
  have hdb : ∀ i : Nat, i < 5 → 0 ≤ ds.getD i 0 ∧ ds.getD i 0 < 16777216 := by
    intro i hi
    have hi5 : i = 0 ∨ i = 1 ∨ i = 2 ∨ i = 3 ∨ i = 4 := lt5 (by first | assumption | omega)
    rw [hds]
    rcases hi5 with rfl | rfl | rfl | rfl | rfl
    · exact ⟨Int.le_refl _, by show (0 : Int) < _; decide⟩
    · exact hb1
    · exact hb2
    · exact hb3
    · exact hb4
  obtain ⟨dvs, dk, hdm, hdv⟩ := IX
  repeat' (first | (k_unfold; (try dsimp only)) | ((with_reducible show wpAny _ _ (eval (PySem.Expr.Name _ _) (compEnvC _ _ _ _)) _ _ _); k_dflt (first | (refine' lcf_cell ?N ?c ?m ?d ?_ ?a ?b; (case a => rfl); (case b => rfl); (case N => k_asm); (case c => rfl); (case m => k_mem); (case d => k_asm); k_whole) | refine LCgL.ld_own (by k_asm) (by k_mem) (by assumption) (by assumption) ?_ | refine LCgL.ld_built (by k_asm) (by k_asm) (by k_asm) (by k_is) (by boot_by_name) (by decide) ?_)) | ((fail_if_success (with_reducible show wpAny _ _ (eval (PySem.Expr.ListComp _ _ _ _) _) _ _ _)); walk1) | (dsimp only; first | ((fail_if_success (with_reducible show wpAny _ _ (eval (PySem.Expr.ListComp _ _ _ _) _) _ _ _)); walk1) | (k_unfold; (try dsimp only))) | (leave1; walk_say "STEP leave1"; try dsimp only) | fail "no step")
  rename_i hD1 oD _ _ gD
  clear g1
  (k_dflt (refine LCg.ListComp_U (cl := [(Str.ofString "drawn", L + 1)]) (F₀ := by k_asm) (by kernel_rfl!) (by decide) (by rfl) (by decide) (by rfl) ?_); repeat' (first | (k_unfold; (try dsimp only)) | ((with_reducible show wpAny _ _ (eval (PySem.Expr.Name _ _) (compEnvC _ _ _ _)) _ _ _); k_dflt (first | (refine' lcf_cell ?N ?c ?m ?d ?_ ?a ?b; (case a => rfl); (case b => rfl); (case N => k_asm); (case c => rfl); (case m => k_mem); (case d => k_asm); k_whole) | refine LCgL.ld_own (by k_asm) (by k_mem) (by assumption) (by assumption) ?_ | refine LCgL.ld_built (by k_asm) (by k_asm) (by k_asm) (by k_is) (by boot_by_name) (by decide) ?_)) | ((fail_if_success (with_reducible show LCg.CompSrc _ _ _ _ _ _ _ _ _ _ _ _ _ _)); walk1) | (dsimp only; first | ((fail_if_success (with_reducible show LCg.CompSrc _ _ _ _ _ _ _ _ _ _ _ _ _ _)); walk1) | (k_unfold; (try dsimp only))) | (leave1; walk_say "STEP leave1"; try dsimp only) | fail "no step"))
  (k_dflt (refine LCg.CompSrc.range (by rfl) (by k_asm) (by k_asm) (by assumption) (by first | decide | rfl) (by first | rfl | decide) (by first | size_fits | exact Nat.le_of_ble_eq_true rfl) ?_); intro g')
  refine compRest_ind (J := fun i zt news => news = ((L + 1 + 1 + 1 + 1 + 1 + 1, o6) :: (L + 1 + 1 + 1 + 1 + 1, o5) :: (L + 1 + 1 + 1 + 1, o4) :: (L + 1 + 1 + 1, o3) :: (L + 1 + 1, o2) :: (L + 1, oD) :: ext) ∧ IntsAre zt ((List.range i).map (parF ds))) 5 ?_ ?_ 5 0 [] _ rfl ⟨rfl, .nil⟩
  · rintro i zt _ hi hOB v I oI C oC D m₂ h tk0 E' hOB1 hC hx F3 N3 off ne
    (refine an_2 hOB fun eOB0 hzt => ?_; clear hOB; subst eOB0)
    (refine ex_1 hOB1 fun t eOB0 => ?_; clear hOB1; subst eOB0)
    have hmx : 1 ≤ mx2 (0 + (i : Int)) 1 := by unfold mx2; split <;> omega
    refine wp_hide2 fun R1 hR1 S1 hS1 => ?_
    repeat' (first | (k_unfold; (try dsimp only)) | ((with_reducible show wpAny _ _ (eval (PySem.Expr.Name _ _) (compEnvC _ _ _ _)) _ _ _); k_dflt (first | (refine' lcf_cell ?N ?c ?m ?d ?_ ?a ?b; (case a => rfl); (case b => rfl); (case N => k_asm); (case c => rfl); (case m => k_mem); (case d => k_asm); k_whole) | refine LCgL.ld_own (by k_asm) (by k_mem) (by assumption) (by assumption) ?_ | refine LCgL.ld_built (by k_asm) (by k_asm) (by k_asm) (by k_is) (by boot_by_name) (by decide) ?_)) | ((with_reducible show wpAny _ _ (subscriptTail _ _ (Value.ref dr) (Value.int (0 + (i : Int)) _)) _ _ _); refine ints_itemN (by kmk_list) hdv hdl hi ?_; intro t9) | ((with_reducible show wpAny _ _ (call (Value.builtin "max") _) _ _ _); (rename Fr _ _ _ _ => F8); (rename News _ _ _ _ => N8); refine max_mx2 rfl F8 N8 ?_; intro h7 k7 t7 F7 N7; (clear F8 N8)) | ((fail_if_success (with_reducible show LCg.CompEnd _ _ _ _ _ _ _ _ _ _ _ _ _ _)); walk1) | (dsimp only; first | ((fail_if_success (with_reducible show LCg.CompEnd _ _ _ _ _ _ _ _ _ _ _ _ _ _)); walk1) | (k_unfold; (try dsimp only))) | (leave1; walk_say "STEP leave1"; try dsimp only) | fail "no step")
    rename Fr _ _ _ _ => F5
    rename News _ _ _ _ => N5
    exact hR1 _ _ (LCg.CompEnd.intro F5 N5 ((L + 1 + 1 + 1 + 1 + 1 + 1, o6) :: (L + 1 + 1 + 1 + 1 + 1, o5) :: (L + 1 + 1 + 1 + 1, o4) :: (L + 1 + 1 + 1, o3) :: (L + 1 + 1, o2) :: (L + 1, oD) :: ext) (fun p hp => by simpa using hp) off trivial ⟨rfl, intsSnocR (f := parF ds) hzt _⟩)
  rintro zt _ hOB Dp h2 tk2 F4 N4 o2x
  (refine an_2 hOB fun eOB0 hpv => ?_; clear hOB; subst eOB0)
  obtain ⟨N4', AX2⟩ := pushBase N4 (off1_mem o2x) AX
  have hpm : (Dp, LCg.lst zt) ∈ (Dp, LCg.lst zt) :: ext := .head _
  have hdm2 : (dr, PySem.W.listOf dvs.toArray dk) ∈ (Dp, LCg.lst zt) :: ext := .tail _ hdm
  generalize (Dp, LCg.lst zt) :: ext = base at N4' AX2 hpm hdm2
  clear N4 o2x AX hdm
  (try dsimp only)
  repeat' (first | (k_unfold; (try dsimp only)) | ((with_reducible show wpAny _ _ (eval (PySem.Expr.Name _ _) (compEnvC _ _ _ _)) _ _ _); k_dflt (first | (refine' lcf_cell ?N ?c ?m ?d ?_ ?a ?b; (case a => rfl); (case b => rfl); (case N => k_asm); (case c => rfl); (case m => k_mem); (case d => k_asm); k_whole) | refine LCgL.ld_own (by k_asm) (by k_mem) (by assumption) (by assumption) ?_ | refine LCgL.ld_built (by k_asm) (by k_asm) (by k_asm) (by k_is) (by boot_by_name) (by decide) ?_)) | ((fail_if_success (with_reducible show wpAny _ _ (eval (PySem.Expr.ListComp _ _ _ _) _) _ _ _)); walk1) | (dsimp only; first | ((fail_if_success (with_reducible show wpAny _ _ (eval (PySem.Expr.ListComp _ _ _ _) _) _ _ _)); walk1) | (k_unfold; (try dsimp only))) | (leave1; walk_say "STEP leave1"; try dsimp only) | fail "no step")
  rename_i hP2 oP _ _ gP
  clear g2
  obtain ⟨ps, hps⟩ : ∃ ps, ps = (List.range 5).map (parF ds) := ⟨_, rfl⟩
  have hpl : ps.length = 5 := by rw [hps]; simp
  rw [← hps] at hpv
  refine compCell (n := 5) (a := 0) (b := 5) (J := fun i ys news => ∃ rows, news = ((L + 1 + 1 + 1 + 1 + 1 + 1, o6) :: (L + 1 + 1 + 1 + 1 + 1, o5) :: (L + 1 + 1 + 1 + 1, o4) :: (L + 1 + 1 + 1, o3) :: (L + 1 + 1, oP) :: (L + 1, oD) :: (rows ++ base)) ∧ Rows (fun r => kidL ps r 4) i rows ys ∧ Apart6 L rows) (F₀ := by k_asm) (hh := by rfl) (cl := [(Str.ofString "parents", L + 1 + 1)]) (hclos := by kernel_rfl!) (hkind := by rfl) (hnames := by decide) (hcells := by intro _ _; rfl) (hpush := by intro _; rfl) (hxk := by intro _ _; rfl) (hn := by decide) ?iter ?step ?fin
  case iter =>
    repeat' (first | (k_unfold; (try dsimp only)) | ((with_reducible show wpAny _ _ (eval (PySem.Expr.Name _ _) (compEnvC _ _ _ _)) _ _ _); k_dflt (first | (refine' lcf_cell ?N ?c ?m ?d ?_ ?a ?b; (case a => rfl); (case b => rfl); (case N => k_asm); (case c => rfl); (case m => k_mem); (case d => k_asm); k_whole) | refine LCgL.ld_own (by k_asm) (by k_mem) (by assumption) (by assumption) ?_ | refine LCgL.ld_built (by k_asm) (by k_asm) (by k_asm) (by k_is) (by boot_by_name) (by decide) ?_)) | ((fail_if_success (with_reducible show Exists _)); walk1) | (dsimp only; first | ((fail_if_success (with_reducible show Exists _)); walk1) | (k_unfold; (try dsimp only))) | (leave1; walk_say "STEP leave1"; try dsimp only) | fail "no step")
    rename Fr _ _ _ _ => F2
    rename News _ _ _ _ => N2
    rename IsRange _ _ _ _ _ _ _ _ => R2
    exact ⟨_, _, _, _, _, _, _, rfl, rfl, F2, N2, R2, by decide, by decide, ⟨[], rfl, .nil, .nil⟩⟩
  case step =>
    rintro i ys _ I oI C oC c oc D h tk t E' hi hOB hoc F3 N3 off nes
    (refine ex_1 hOB fun rows hOBx => ?_; clear hOB; refine an_3 hOBx fun eOB0 hR hAr => ?_; clear hOBx; subst eOB0)
    have hpm3 : (Dp, LCg.lst zt) ∈ rows ++ base := List.mem_append_right _ hpm
    (k_dflt (refine LCt.ListComp_T (cl := [(Str.ofString "parents", L + 1 + 1), (Str.ofString "owner", c)]) (F₀ := by k_asm) (by kernel_rfl!) (by decide) (by rfl) (by decide) (by rfl) ?_); (repeat' (first | (k_unfold; (try dsimp only)) | ((with_reducible show wpAny _ _ (eval (PySem.Expr.Name _ _) (compEnvC _ _ _ _)) _ _ _); k_dflt (first | (refine' lcf_cell ?N ?c ?m ?d ?_ ?a ?b; (case a => rfl); (case b => rfl); (case N => k_asm); (case c => rfl); (case m => k_mem); (case d => k_asm); k_whole) | refine LCgL.ld_own (by k_asm) (by k_mem) (by assumption) (by assumption) ?_ | refine LCgL.ld_built (by k_asm) (by k_asm) (by k_asm) (by k_is) (by boot_by_name) (by decide) ?_)) | ((fail_if_success (with_reducible show LCt.CompSrcT _ _ _ _ _ _ _ _ _ _ _ _ _ _ _)); walk1) | (dsimp only; first | ((fail_if_success (with_reducible show LCt.CompSrcT _ _ _ _ _ _ _ _ _ _ _ _ _ _ _)); walk1) | (k_unfold; (try dsimp only))) | (leave1; walk_say "STEP leave1"; try dsimp only) | fail "no step")); k_dflt (refine LCt.CompSrcT.range (by rfl) (by k_asm) (by k_asm) (by assumption) (by first | decide | rfl) (by first | rfl | decide) (by first | size_fits | exact Nat.le_of_ble_eq_true rfl) ?_); intro g')
    refine compRestT_ind (J := fun k qt news => news = (I, oI) :: (C, oC) :: (c, oc) :: (D, LCg.lst ys) :: ((L + 1 + 1 + 1 + 1 + 1 + 1, o6) :: (L + 1 + 1 + 1 + 1 + 1, o5) :: (L + 1 + 1 + 1 + 1, o4) :: (L + 1 + 1 + 1, o3) :: (L + 1 + 1, oP) :: (L + 1, oD) :: (rows ++ base)) ∧ IntsAre qt (kidL ps i k)) 4 ?_ ?_ 4 0 [] _ rfl ⟨rfl, .nil⟩
    · rintro k qt _ hk hOB v I2 oI2 C2 oC2 D2 m₂ h2 tk2 E2 hOB1 hC2 hx2 F4 N4 off2 ne2
      (refine an_2 hOB fun eOB0 hqt => ?_; clear hOB; subst eOB0)
      (refine ex_1 hOB1 fun t2 eOB0 => ?_; clear hOB1; subst eOB0)
      by_cases cc : ps.getD (k + 1) 0 = 0 + (i : Int)
      · repeat' (first | (k_unfold; (try dsimp only)) | ((with_reducible show wpAny _ _ (eval (PySem.Expr.Name _ _) (compEnvC _ _ _ _)) _ _ _); k_dflt (first | (refine' lcf_cell ?N ?c ?m ?d ?_ ?a ?b; (case a => rfl); (case b => rfl); (case N => k_asm); (case c => rfl); (case m => k_mem); (case d => k_asm); k_whole) | refine LCgL.ld_own (by k_asm) (by k_mem) (by assumption) (by assumption) ?_ | refine LCgL.ld_built (by k_asm) (by k_asm) (by k_asm) (by k_is) (by boot_by_name) (by decide) ?_)) | ((with_reducible show wpAny _ _ (subscriptTail _ _ (Value.ref Dp) (Value.int (1 + (k : Int)) _)) _ _ _); refine ints_itemS (by kmk_list) hpv hpl hk ?_; intro t9) | (with_reducible refine ite_pos (beq_iff_eq.mpr cc) ?_) | ((fail_if_success (with_reducible show LCg.CompEnd _ _ _ _ _ _ _ _ _ _ _ _ _ _)); walk1) | (dsimp only; first | ((fail_if_success (with_reducible show LCg.CompEnd _ _ _ _ _ _ _ _ _ _ _ _ _ _)); walk1) | (k_unfold; (try dsimp only))) | (leave1; walk_say "STEP leave1"; try dsimp only) | fail "no step")
        rename Fr _ _ _ _ => F5
        rename News _ _ _ _ => N5
        exact LCg.CompEnd.intro F5 N5 ((I, oI) :: (C, oC) :: (c, oc) :: (D, LCg.lst ys) :: ((L + 1 + 1 + 1 + 1 + 1 + 1, o6) :: (L + 1 + 1 + 1 + 1 + 1, o5) :: (L + 1 + 1 + 1 + 1, o4) :: (L + 1 + 1 + 1, o3) :: (L + 1 + 1, oP) :: (L + 1, oD) :: (rows ++ base))) (fun p hp => hp) off2 trivial ⟨rfl, by rw [kidL, if_pos cc]; exact hqt.append (.cons _ _ .nil)⟩
      · repeat' (first | (k_unfold; (try dsimp only)) | ((with_reducible show wpAny _ _ (eval (PySem.Expr.Name _ _) (compEnvC _ _ _ _)) _ _ _); k_dflt (first | (refine' lcf_cell ?N ?c ?m ?d ?_ ?a ?b; (case a => rfl); (case b => rfl); (case N => k_asm); (case c => rfl); (case m => k_mem); (case d => k_asm); k_whole) | refine LCgL.ld_own (by k_asm) (by k_mem) (by assumption) (by assumption) ?_ | refine LCgL.ld_built (by k_asm) (by k_asm) (by k_asm) (by k_is) (by boot_by_name) (by decide) ?_)) | ((with_reducible show wpAny _ _ (subscriptTail _ _ (Value.ref Dp) (Value.int (1 + (k : Int)) _)) _ _ _); refine ints_itemS (by kmk_list) hpv hpl hk ?_; intro t9) | (with_reducible refine ite_neg (by rw [beq_iff_eq]; exact cc) ?_) | ((fail_if_success (with_reducible show LCg.CompEnd _ _ _ _ _ _ _ _ _ _ _ _ _ _)); walk1) | (dsimp only; first | ((fail_if_success (with_reducible show LCg.CompEnd _ _ _ _ _ _ _ _ _ _ _ _ _ _)); walk1) | (k_unfold; (try dsimp only))) | (leave1; walk_say "STEP leave1"; try dsimp only) | fail "no step")
        rename Fr _ _ _ _ => F5
        rename News _ _ _ _ => N5
        exact LCg.CompEnd.intro F5 N5 ((I, oI) :: (C, oC) :: (c, oc) :: (D, LCg.lst ys) :: ((L + 1 + 1 + 1 + 1 + 1 + 1, o6) :: (L + 1 + 1 + 1 + 1 + 1, o5) :: (L + 1 + 1 + 1 + 1, o4) :: (L + 1 + 1 + 1, o3) :: (L + 1 + 1, oP) :: (L + 1, oD) :: (rows ++ base))) (fun p hp => hp) off2 trivial ⟨rfl, by rw [kidL, if_neg cc]; exact hqt⟩
    rintro qt _ hOB D2 h2 tk2 F4 N4 o2x
    (refine an_2 hOB fun eOB0 hqt => ?_; clear hOB; subst eOB0)
    have hOB := turnRow N4 off (off1_mem o2x) hAr
    (refine an_4 hOB fun NT OT AT dT => ?_; clear hOB)
    exact ⟨_, _, _, rfl, F4, NT, OT, _, rfl, .cons hR hqt dT, AT⟩
  case fin =>
    rintro ys _ Dk h tk hOB F3 N3 off
    (refine ex_1 hOB fun rows hOBx => ?_; clear hOB; refine an_3 hOBx fun eOB0 hR hAr => ?_; clear hOBx; subst eOB0)
    obtain ⟨N5, AX5⟩ := pushBase N3 off (hAr.append AX2)
    have hkm : MatIn ((Dk, LCg.lst ys) :: (rows ++ base)) Dk (fun r => kidL ps r 4) := rowsIn hR
    have hpm5 : (Dp, LCg.lst zt) ∈ (Dk, LCg.lst ys) :: (rows ++ base) := .tail _ (List.mem_append_right _ hpm)
    have hdm5 : (dr, PySem.W.listOf dvs.toArray dk) ∈ (Dk, LCg.lst ys) :: (rows ++ base) := .tail _ (List.mem_append_right _ hdm2)
    generalize (Dk, LCg.lst ys) :: (rows ++ base) = base5 at N5 AX5 hkm hpm5 hdm5
    clear N3 off hpm hdm2 AX2 hR hAr
    (try dsimp only)
    repeat' (first | (k_unfold; (try dsimp only)) | ((with_reducible show wpAny _ _ (eval (PySem.Expr.Name _ _) (compEnvC _ _ _ _)) _ _ _); k_dflt (first | (refine' lcf_cell ?N ?c ?m ?d ?_ ?a ?b; (case a => rfl); (case b => rfl); (case N => k_asm); (case c => rfl); (case m => k_mem); (case d => k_asm); k_whole) | refine LCgL.ld_own (by k_asm) (by k_mem) (by assumption) (by assumption) ?_ | refine LCgL.ld_built (by k_asm) (by k_asm) (by k_asm) (by k_is) (by boot_by_name) (by decide) ?_)) | ((fail_if_success (with_reducible show wpAny _ _ (exec (Stmt.Assign _ (PySem.Expr.ListComp _ _ _ _) _) _) _ _ _)); walk1) | (dsimp only; first | ((fail_if_success (with_reducible show wpAny _ _ (exec (Stmt.Assign _ (PySem.Expr.ListComp _ _ _ _) _) _) _ _ _)); walk1) | (k_unfold; (try dsimp only))) | (leave1; walk_say "STEP leave1"; try dsimp only) | fail "no step")
    rename_i hK3 oK _ _ gK
    clear g3
    have hOB := hkm
    (refine ex_2 hOB fun kas kc hOBx => ?_; clear hOB; refine an_3 hOBx fun hkal hkmm hkr => ?_; clear hOBx)
    (k_dflt (refine LCg.Assign_ListComp_U (cl := [(Str.ofString "kids", L + 1 + 1 + 1), (Str.ofString "drawn", L + 1)]) (F₀ := by k_asm) (by rfl) (by with_unfolding_all rfl) (by kernel_rfl!) (by decide) (by rfl) (by decide) (by rfl) (by rfl) (by rfl) ?_); repeat' (first | (k_unfold; (try dsimp only)) | ((with_reducible show wpAny _ _ (eval (PySem.Expr.Name _ _) (compEnvC _ _ _ _)) _ _ _); k_dflt (first | (refine' lcf_cell ?N ?c ?m ?d ?_ ?a ?b; (case a => rfl); (case b => rfl); (case N => k_asm); (case c => rfl); (case m => k_mem); (case d => k_asm); k_whole) | refine LCgL.ld_own (by k_asm) (by k_mem) (by assumption) (by assumption) ?_ | refine LCgL.ld_built (by k_asm) (by k_asm) (by k_asm) (by k_is) (by boot_by_name) (by decide) ?_)) | ((fail_if_success (with_reducible show LCg.CompSrc _ _ _ _ _ _ _ _ _ _ _ _ _ _)); walk1) | (dsimp only; first | ((fail_if_success (with_reducible show LCg.CompSrc _ _ _ _ _ _ _ _ _ _ _ _ _ _)); walk1) | (k_unfold; (try dsimp only))) | (leave1; walk_say "STEP leave1"; try dsimp only) | fail "no step"))
    (k_dflt (refine LCg.CompSrc.range (by rfl) (by k_asm) (by k_asm) (by assumption) (by first | decide | rfl) (by first | rfl | decide) (by first | size_fits | exact Nat.le_of_ble_eq_true rfl) ?_); intro g')
    refine compRest_ind (J := fun i qt news => news = ((L + 1 + 1 + 1 + 1 + 1 + 1, o6) :: (L + 1 + 1 + 1 + 1 + 1, o5) :: (L + 1 + 1 + 1 + 1, o4) :: (L + 1 + 1 + 1, oK) :: (L + 1 + 1, oP) :: (L + 1, oD) :: base5) ∧ IntsAre qt ((List.range i).map (wF (fun r => kidL ps r 4) ds))) 5 ?_ ?_ 5 0 [] _ rfl ⟨rfl, .nil⟩
    · rintro i qt _ hi hOB v I oI C oC D m₂ h tk0 E' hOB1 hC hx F3 N3 off ne
      (refine an_2 hOB fun eOB0 hqt => ?_; clear hOB; subst eOB0)
      (refine ex_1 hOB1 fun t eOB0 => ?_; clear hOB1; subst eOB0)
      have hmx : 1 ≤ mx2 (0 + (i : Int)) 1 := by unfold mx2; split <;> omega
      have hOB := hkr i hi
      (refine ex_2 hOB fun kvs kk hOBx => ?_; clear hOB; refine an_2 hOBx fun hkm1 hki => ?_; clear hOBx)
      have hdbi := hdb i hi
      by_cases cc : kidL ps i 4 = []
      · by_cases c2 : ((ds.getD i 0).fdiv (mx2 (0 + (i : Int)) 1)).fmod 2 = 1
        · refine wp_hide2 fun R1 hR1 S1 hS1 => ?_
          repeat' (first | (k_unfold; (try dsimp only)) | ((with_reducible show wpAny _ _ (eval (PySem.Expr.Name _ _) (compEnvC _ _ _ _)) _ _ _); k_dflt (first | (refine' lcf_cell ?N ?c ?m ?d ?_ ?a ?b; (case a => rfl); (case b => rfl); (case N => k_asm); (case c => rfl); (case m => k_mem); (case d => k_asm); k_whole) | refine LCgL.ld_own (by k_asm) (by k_mem) (by assumption) (by assumption) ?_ | refine LCgL.ld_built (by k_asm) (by k_asm) (by k_asm) (by k_is) (by boot_by_name) (by decide) ?_)) | ((with_reducible show wpAny _ _ (subscriptTail _ _ (Value.ref Dk) (Value.int (0 + (i : Int)) _)) _ _ _); refine mat_rowN (by kmk_list) hkal hi ?_) | ((with_reducible show wpAny _ _ (compareOp CmpOp.NotEq (Value.ref _) (Value.ref _)) _ _ _); refine ne_intsK (by kmk_list) hki (by kmk_list) .nil (by ktr_units) ?_) | (with_reducible refine ite_pos (beq_iff_eq.mpr c2) ?_) | (with_reducible refine ite_neg (notDec cc) ?_) | ((with_reducible show wpAny _ _ (binaryOp Operator.FloorDiv _ (Value.int (mx2 _ _) _)) _ _ _); refine floordiv_int (by omega) ?_) | ((with_reducible show wpAny _ _ (subscriptTail _ _ (Value.ref dr) (Value.int (0 + (i : Int)) _)) _ _ _); refine ints_itemN (by kmk_list) hdv hdl hi ?_; intro t9) | ((with_reducible show wpAny _ _ (call (Value.builtin "max") _) _ _ _); (rename Fr _ _ _ _ => F8); (rename News _ _ _ _ => N8); refine max_mx2 rfl F8 N8 ?_; intro h7 k7 t7 F7 N7; (clear F8 N8)) | ((fail_if_success (with_reducible show LCg.CompEnd _ _ _ _ _ _ _ _ _ _ _ _ _ _)); walk1) | (dsimp only; first | ((fail_if_success (with_reducible show LCg.CompEnd _ _ _ _ _ _ _ _ _ _ _ _ _ _)); walk1) | (k_unfold; (try dsimp only))) | (leave1; walk_say "STEP leave1"; try dsimp only) | fail "no step")
          rename Fr _ _ _ _ => F5
          rename News _ _ _ _ => N5
          refine hR1 _ _ (LCg.CompEnd.intro F5 N5 ((L + 1 + 1 + 1 + 1 + 1 + 1, o6) :: (L + 1 + 1 + 1 + 1 + 1, o5) :: (L + 1 + 1 + 1 + 1, o4) :: (L + 1 + 1 + 1, oK) :: (L + 1 + 1, oP) :: (L + 1, oD) :: base5) (fun p hp => by first | exact hp | exact List.mem_cons_of_mem _ hp) off trivial ⟨rfl, ?_⟩)
          have ew : wF (fun r => kidL ps r 4) ds i = 1 := by unfold wF; rw [if_pos cc, if_pos c2]
          exact ew ▸ intsSnocR (f := wF (fun r => kidL ps r 4) ds) hqt _
        · refine wp_hide2 fun R1 hR1 S1 hS1 => ?_
          repeat' (first | (k_unfold; (try dsimp only)) | ((with_reducible show wpAny _ _ (eval (PySem.Expr.Name _ _) (compEnvC _ _ _ _)) _ _ _); k_dflt (first | (refine' lcf_cell ?N ?c ?m ?d ?_ ?a ?b; (case a => rfl); (case b => rfl); (case N => k_asm); (case c => rfl); (case m => k_mem); (case d => k_asm); k_whole) | refine LCgL.ld_own (by k_asm) (by k_mem) (by assumption) (by assumption) ?_ | refine LCgL.ld_built (by k_asm) (by k_asm) (by k_asm) (by k_is) (by boot_by_name) (by decide) ?_)) | ((with_reducible show wpAny _ _ (subscriptTail _ _ (Value.ref Dk) (Value.int (0 + (i : Int)) _)) _ _ _); refine mat_rowN (by kmk_list) hkal hi ?_) | ((with_reducible show wpAny _ _ (compareOp CmpOp.NotEq (Value.ref _) (Value.ref _)) _ _ _); refine ne_intsK (by kmk_list) hki (by kmk_list) .nil (by ktr_units) ?_) | (with_reducible refine ite_neg (by rw [beq_iff_eq]; exact c2) ?_) | (with_reducible refine ite_neg (notDec cc) ?_) | ((with_reducible show wpAny _ _ (binaryOp Operator.FloorDiv _ (Value.int (mx2 _ _) _)) _ _ _); refine floordiv_int (by omega) ?_) | ((with_reducible show wpAny _ _ (subscriptTail _ _ (Value.ref dr) (Value.int (0 + (i : Int)) _)) _ _ _); refine ints_itemN (by kmk_list) hdv hdl hi ?_; intro t9) | ((with_reducible show wpAny _ _ (call (Value.builtin "max") _) _ _ _); (rename Fr _ _ _ _ => F8); (rename News _ _ _ _ => N8); refine max_mx2 rfl F8 N8 ?_; intro h7 k7 t7 F7 N7; (clear F8 N8)) | ((fail_if_success (with_reducible show LCg.CompEnd _ _ _ _ _ _ _ _ _ _ _ _ _ _)); walk1) | (dsimp only; first | ((fail_if_success (with_reducible show LCg.CompEnd _ _ _ _ _ _ _ _ _ _ _ _ _ _)); walk1) | (k_unfold; (try dsimp only))) | (leave1; walk_say "STEP leave1"; try dsimp only) | fail "no step")
          rename Fr _ _ _ _ => F5
          rename News _ _ _ _ => N5
          refine hR1 _ _ (LCg.CompEnd.intro F5 N5 ((L + 1 + 1 + 1 + 1 + 1 + 1, o6) :: (L + 1 + 1 + 1 + 1 + 1, o5) :: (L + 1 + 1 + 1 + 1, o4) :: (L + 1 + 1 + 1, oK) :: (L + 1 + 1, oP) :: (L + 1, oD) :: base5) (fun p hp => by first | exact hp | exact List.mem_cons_of_mem _ hp) off trivial ⟨rfl, ?_⟩)
          have ew : wF (fun r => kidL ps r 4) ds i = 2 := by unfold wF; rw [if_pos cc, if_neg c2]
          exact ew ▸ intsSnocR (f := wF (fun r => kidL ps r 4) ds) hqt _
      · refine wp_hide2 fun R1 hR1 S1 hS1 => ?_
        repeat' (first | (k_unfold; (try dsimp only)) | ((with_reducible show wpAny _ _ (eval (PySem.Expr.Name _ _) (compEnvC _ _ _ _)) _ _ _); k_dflt (first | (refine' lcf_cell ?N ?c ?m ?d ?_ ?a ?b; (case a => rfl); (case b => rfl); (case N => k_asm); (case c => rfl); (case m => k_mem); (case d => k_asm); k_whole) | refine LCgL.ld_own (by k_asm) (by k_mem) (by assumption) (by assumption) ?_ | refine LCgL.ld_built (by k_asm) (by k_asm) (by k_asm) (by k_is) (by boot_by_name) (by decide) ?_)) | ((with_reducible show wpAny _ _ (subscriptTail _ _ (Value.ref Dk) (Value.int (0 + (i : Int)) _)) _ _ _); refine mat_rowN (by kmk_list) hkal hi ?_) | ((with_reducible show wpAny _ _ (compareOp CmpOp.NotEq (Value.ref _) (Value.ref _)) _ _ _); refine ne_intsK (by kmk_list) hki (by kmk_list) .nil (by ktr_units) ?_) | (with_reducible refine ite_pos (yesDec cc) ?_) | ((with_reducible show wpAny _ _ (binaryOp Operator.FloorDiv _ (Value.int (mx2 _ _) _)) _ _ _); refine floordiv_int (by omega) ?_) | ((with_reducible show wpAny _ _ (subscriptTail _ _ (Value.ref dr) (Value.int (0 + (i : Int)) _)) _ _ _); refine ints_itemN (by kmk_list) hdv hdl hi ?_; intro t9) | ((with_reducible show wpAny _ _ (call (Value.builtin "max") _) _ _ _); (rename Fr _ _ _ _ => F8); (rename News _ _ _ _ => N8); refine max_mx2 rfl F8 N8 ?_; intro h7 k7 t7 F7 N7; (clear F8 N8)) | ((fail_if_success (with_reducible show LCg.CompEnd _ _ _ _ _ _ _ _ _ _ _ _ _ _)); walk1) | (dsimp only; first | ((fail_if_success (with_reducible show LCg.CompEnd _ _ _ _ _ _ _ _ _ _ _ _ _ _)); walk1) | (k_unfold; (try dsimp only))) | (leave1; walk_say "STEP leave1"; try dsimp only) | fail "no step")
        rename Fr _ _ _ _ => F5
        rename News _ _ _ _ => N5
        refine hR1 _ _ (LCg.CompEnd.intro F5 N5 ((L + 1 + 1 + 1 + 1 + 1 + 1, o6) :: (L + 1 + 1 + 1 + 1 + 1, o5) :: (L + 1 + 1 + 1 + 1, o4) :: (L + 1 + 1 + 1, oK) :: (L + 1 + 1, oP) :: (L + 1, oD) :: base5) (fun p hp => by first | exact hp | exact List.mem_cons_of_mem _ hp) off trivial ⟨rfl, ?_⟩)
        have ew : wF (fun r => kidL ps r 4) ds i = 1 := by unfold wF; rw [if_neg cc]
        exact ew ▸ intsSnocR (f := wF (fun r => kidL ps r 4) ds) hqt _
    rintro qt _ hOB Dw h2 tk2 F4 N4 o2x
    (refine an_2 hOB fun eOB0 hwv => ?_; clear hOB; subst eOB0)
    obtain ⟨N5', AX7⟩ := pushBase N4 (off1_mem o2x) AX5
    have hwm : (Dw, LCg.lst qt) ∈ (Dw, LCg.lst qt) :: base5 := .head _
    have hkm7 : MatIn ((Dw, LCg.lst qt) :: base5) Dk (fun r => kidL ps r 4) := ⟨kas, kc, hkal, .tail _ hkmm, fun j hj => (hkr j hj).mono fun p hp => .tail _ hp⟩
    have hpm7 : (Dp, LCg.lst zt) ∈ (Dw, LCg.lst qt) :: base5 := .tail _ hpm5
    have hdm7 : (dr, PySem.W.listOf dvs.toArray dk) ∈ (Dw, LCg.lst qt) :: base5 := .tail _ hdm5
    generalize (Dw, LCg.lst qt) :: base5 = base7 at N5' AX7 hkm7 hpm7 hdm7 hwm
    clear N4 o2x AX5 hkmm hkr hpm5 hdm5
    obtain ⟨ws, hws⟩ : ∃ ws, ws = (List.range 5).map (wF (fun r => kidL ps r 4) ds) := ⟨_, rfl⟩
    have hwl : ws.length = 5 := by rw [hws]; simp
    rw [← hws] at hwv
    (try dsimp only)
    obtain ⟨KS, hKS⟩ : ∃ KS, KS = (List.range 5).map (fun r => kidL ps r 4) := ⟨_, rfl⟩
    obtain ⟨hok, hwok, hsl, W, hW, hl4, hab, hprod, hpb, hwb, hkb, hwo0, hwo1⟩ := plain hds hb1 hb2 hb3 hb4 hps hws hKS
    repeat' (first | (k_unfold; (try dsimp only)) | ((with_reducible show wpAny _ _ (eval (PySem.Expr.Name _ _) (compEnvC _ _ _ _)) _ _ _); k_dflt (first | (refine' lcf_cell ?N ?c ?m ?d ?_ ?a ?b; (case a => rfl); (case b => rfl); (case N => k_asm); (case c => rfl); (case m => k_mem); (case d => k_asm); k_whole) | refine LCgL.ld_own (by k_asm) (by k_mem) (by assumption) (by assumption) ?_ | refine LCgL.ld_built (by k_asm) (by k_asm) (by k_asm) (by k_is) (by boot_by_name) (by decide) ?_)) | ((fail_if_success (with_reducible show wpAny _ _ (storeName _ _ _) _ _ _)); walk1) | (dsimp only; first | ((fail_if_success (with_reducible show wpAny _ _ (storeName _ _ _) _ _ _)); walk1) | (k_unfold; (try dsimp only))) | (leave1; walk_say "STEP leave1"; try dsimp only) | fail "no step")
    rename News _ _ _ _ => Nw
    have Nz := newsSub (l := ((L + 1 + 1 + 1 + 1 + 1 + 1, o6) :: (L + 1 + 1 + 1 + 1 + 1, o5) :: (L + 1 + 1 + 1 + 1, o4) :: (L + 1 + 1 + 1, oK) :: (L + 1 + 1, oP) :: (L + 1, oD) :: base7)) Nw (fun p hp => .tail _ hp)
    clear Nw
    obtain ⟨worth, hwo⟩ : ∃ worth, worth = (ws.drop 1).sum := ⟨_, rfl⟩
    rw [← hwo] at hwo0 hwo1 hprod ⊢
    repeat' (first | (k_unfold; (try dsimp only)) | ((with_reducible show wpAny _ _ (eval (PySem.Expr.Name _ _) (compEnvC _ _ _ _)) _ _ _); k_dflt (first | (refine' lcf_cell ?N ?c ?m ?d ?_ ?a ?b; (case a => rfl); (case b => rfl); (case N => k_asm); (case c => rfl); (case m => k_mem); (case d => k_asm); k_whole) | refine LCgL.ld_own (by k_asm) (by k_mem) (by assumption) (by assumption) ?_ | refine LCgL.ld_built (by k_asm) (by k_asm) (by k_asm) (by k_is) (by boot_by_name) (by decide) ?_)) | ((fail_if_success (with_reducible show wpAny _ _ (eval (PySem.Expr.Call _ _ _ _) _) _ _ _)); walk1) | (dsimp only; first | ((fail_if_success (with_reducible show wpAny _ _ (eval (PySem.Expr.Call _ _ _ _) _) _ _ _)); walk1) | (k_unfold; (try dsimp only))) | (leave1; walk_say "STEP leave1"; try dsimp only) | fail "no step")
    rename_i hW4 oW _ _ gW
    clear g4
    have hOB := hkm7
    (refine ex_2 hOB fun kas kc hOBx => ?_; clear hOB; refine an_3 hOBx fun hkal hkmm hkr => ?_; clear hOBx)
    have hKl : KS.length = 5 := by rw [hKS]; simp
    repeat' (first | (k_unfold; (try dsimp only)) | ((with_reducible show wpAny _ _ (eval (PySem.Expr.Name _ _) (compEnvC _ _ _ _)) _ _ _); k_dflt (first | (refine' lcf_cell ?N ?c ?m ?d ?_ ?a ?b; (case a => rfl); (case b => rfl); (case N => k_asm); (case c => rfl); (case m => k_mem); (case d => k_asm); k_whole) | refine LCgL.ld_own (by k_asm) (by k_mem) (by assumption) (by assumption) ?_ | refine LCgL.ld_built (by k_asm) (by k_asm) (by k_asm) (by k_is) (by boot_by_name) (by decide) ?_)) | ((with_reducible show wpAny _ _ (call (Value.ref 75) _) _ _ _); refine tape_spec _ _ _ _ dr Dk Dw dvs qt ds ws kas KS 12 hdl hwl hkal hKl hdv hwv hok (by decide) _ _ _ _ _ _ _ _ _ _ _ _ _ _ _ _ _ (by k_asm) (by k_asm) (by k_asm) (by k_asm) (by first | rfl | assumption) (by ktr_room) (by ktr_units) ⟨by kmk_list, by kmk_list, by kmk_list, fun i hi => by rw [hKS, getRangeL hi]; exact IntsIn.ats (hkr i hi) (by k_asm) (fun p hp => by k_mem)⟩ ?_; intro v9 h9 tk9 st9 hp9; (rename News _ _ _ _ => N8); (rename Fr _ _ _ _ => F8); (have F9 := frStays F8 st9); (have N9 := newsStays N8 st9); (obtain ⟨tp, rfl, hnT, tvs, tkT, hoT, hiT⟩ := hp9); (clear F8 N8); (try dsimp only)) | ((fail_if_success (with_reducible show wpAny _ _ (call (Value.ref 82) _) _ _ _)); walk1) | (dsimp only; first | ((fail_if_success (with_reducible show wpAny _ _ (call (Value.ref 82) _) _ _ _)); walk1) | (k_unfold; (try dsimp only))) | (leave1; walk_say "STEP leave1"; try dsimp only) | fail "no step")
    refine words_spec _ _ _ _ tvs _ (tapeRun ds ws KS 12 [0]) tp hiT rfl hwok hsl _ rfl _ _ _ _ _ _ _ _ _ _ _ _ _ _ _ _ _ (by k_asm) (by k_asm) (by k_asm) (by k_asm) (by first | rfl | assumption) (by ktr_room) (by ktr_units) rfl (by k_asm) (by k_asm) (listObj hoT) ?_
    intro dd h8 tk8 F8 st8 hn8 hT8
    have N8 := newsBut N9 st8
    clear N9 F9 st9 hoT hnT hiT
    (try dsimp only)
    repeat' (first | (k_unfold; (try dsimp only)) | ((with_reducible show wpAny _ _ (eval (PySem.Expr.Name _ _) (compEnvC _ _ _ _)) _ _ _); k_dflt (first | (refine' lcf_cell ?N ?c ?m ?d ?_ ?a ?b; (case a => rfl); (case b => rfl); (case N => k_asm); (case c => rfl); (case m => k_mem); (case d => k_asm); k_whole) | refine LCgL.ld_own (by k_asm) (by k_mem) (by assumption) (by assumption) ?_ | refine LCgL.ld_built (by k_asm) (by k_asm) (by k_asm) (by k_is) (by boot_by_name) (by decide) ?_)) | ((with_reducible show wpAny _ _ (call (Value.ref 87) _) _ _ _); refine apart_spec _ _ _ _ dd _ W hW hl4 _ _ _ _ _ _ _ _ _ _ _ _ _ _ _ _ _ (by k_asm) (by k_asm) (by k_asm) (by k_asm) (by first | rfl | assumption) (by ktr_room) (by ktr_units) hT8 ?_; intro v9 h9 tk9 st9 hp9; (rename News _ _ _ _ => N8); (rename Fr _ _ _ _ => F8); (have F9 := frStays F8 st9); (have N9 := newsStays N8 st9); (obtain ⟨ap, rfl, hM⟩ := hp9); (obtain ⟨ext6, NX, AX6, hap6⟩ := matAdd F8 (cells6Of N8) hM); (clear F8 N8); (try dsimp only)) | ((fail_if_success (with_reducible show wpAny _ _ (storeName _ _ _) _ _ _)); walk1) | (dsimp only; first | ((fail_if_success (with_reducible show wpAny _ _ (storeName _ _ _) _ _ _)); walk1) | (k_unfold; (try dsimp only))) | (leave1; walk_say "STEP leave1"; try dsimp only) | fail "no step")
    have NJ : News s₁.heap L _ ((L + 1 + 1 + 1 + 1 + 1 + 1, o6) :: (L + 1 + 1 + 1 + 1 + 1, o5) :: (L + 1 + 1 + 1 + 1, oW) :: (L + 1 + 1 + 1, oK) :: (L + 1 + 1, oP) :: (L + 1, oD) :: (ext6 ++ base7)) := fun p hp => (by
      simp only [List.mem_cons, List.mem_append] at hp
      rcases hp with h | h | h | h | h | h | h | h
      · exact N9 p (by simp [h])
      · exact N9 p (by simp [h])
      · exact N9 p (by simp [h])
      · exact N9 p (by simp [h])
      · exact N9 p (by simp [h])
      · exact N9 p (by simp [h])
      · exact NX p h
      · exact N9 p (by simp [h]))
    have AX8 : Apart6 L (ext6 ++ base7) := AX6.append AX7
    have hap8 : MatIn (ext6 ++ base7) ap (rowOf (apC W 5)) := hap6.mono fun p hp => List.mem_append_left _ hp
    have hkm8 : MatIn (ext6 ++ base7) Dk (fun r => kidL ps r 4) := ⟨kas, kc, hkal, List.mem_append_right _ hkmm, fun j hj => (hkr j hj).mono fun p hp => List.mem_append_right _ hp⟩
    have hpm8 : (Dp, LCg.lst zt) ∈ ext6 ++ base7 := List.mem_append_right _ hpm7
    have hwm8 : (Dw, LCg.lst qt) ∈ ext6 ++ base7 := List.mem_append_right _ hwm
    generalize ext6 ++ base7 = base8 at NJ AX8 hap8 hkm8 hpm8 hwm8
    clear N9 NX AX6 hap6 hM hT8 hn8 hkmm hkr hpm7 hdm7 hwm AX7
    repeat' (first | (k_unfold; (try dsimp only)) | ((with_reducible show wpAny _ _ (eval (PySem.Expr.Name _ _) (compEnvC _ _ _ _)) _ _ _); k_dflt (first | (refine' lcf_cell ?N ?c ?m ?d ?_ ?a ?b; (case a => rfl); (case b => rfl); (case N => k_asm); (case c => rfl); (case m => k_mem); (case d => k_asm); k_whole) | refine LCgL.ld_own (by k_asm) (by k_mem) (by assumption) (by assumption) ?_ | refine LCgL.ld_built (by k_asm) (by k_asm) (by k_asm) (by k_is) (by boot_by_name) (by decide) ?_)) | ((fail_if_success (with_reducible show wpAny _ _ (eval (PySem.Expr.Call _ _ _ _) _) _ _ _)); walk1) | (dsimp only; first | ((fail_if_success (with_reducible show wpAny _ _ (eval (PySem.Expr.Call _ _ _ _) _) _ _ _)); walk1) | (k_unfold; (try dsimp only))) | (leave1; walk_say "STEP leave1"; try dsimp only) | fail "no step")
    rename_i hA5 oA _ _ gA
    clear g5
    repeat' (first | (k_unfold; (try dsimp only)) | ((with_reducible show wpAny _ _ (eval (PySem.Expr.Name _ _) (compEnvC _ _ _ _)) _ _ _); k_dflt (first | (refine' lcf_cell ?N ?c ?m ?d ?_ ?a ?b; (case a => rfl); (case b => rfl); (case N => k_asm); (case c => rfl); (case m => k_mem); (case d => k_asm); k_whole) | refine LCgL.ld_own (by k_asm) (by k_mem) (by assumption) (by assumption) ?_ | refine LCgL.ld_built (by k_asm) (by k_asm) (by k_asm) (by k_is) (by boot_by_name) (by decide) ?_)) | ((with_reducible show wpAny _ _ (call (Value.ref 92) _) _ _ _); refine undo_spec _ _ _ _ Dp Dk Dw zt qt ps ws (fun r => kidL ps r 4) worth _ hpl hwl hpv hwv hpb hwb hkb hwo0 hwo1 _ _ _ _ _ _ _ _ _ _ _ _ _ _ _ _ _ (by k_asm) (by k_asm) (by k_asm) (by k_asm) (by first | rfl | assumption) (by ktr_room) (by ktr_units) ⟨by kmk_list, by kmk_list, MatIn.ats hkm8 (by k_asm) (fun p hp => by k_mem)⟩ ?_; intro v9 h9 tk9 st9 hp9; (rename News _ _ _ _ => N8); (rename Fr _ _ _ _ => F8); (have F9 := frStays F8 st9); (have N9 := newsStays N8 st9); (obtain ⟨ud, rfl, hM⟩ := hp9); (obtain ⟨ext7, NX, AX7, hud7⟩ := matAdd F8 (cells6Of N8) hM); (clear F8 N8); (try dsimp only)) | ((fail_if_success (with_reducible show wpAny _ _ (storeName _ _ _) _ _ _)); walk1) | (dsimp only; first | ((fail_if_success (with_reducible show wpAny _ _ (storeName _ _ _) _ _ _)); walk1) | (k_unfold; (try dsimp only))) | (leave1; walk_say "STEP leave1"; try dsimp only) | fail "no step")
    have NJ2 : News s₁.heap L _ ((L + 1 + 1 + 1 + 1 + 1 + 1, o6) :: (L + 1 + 1 + 1 + 1 + 1, oA) :: (L + 1 + 1 + 1 + 1, oW) :: (L + 1 + 1 + 1, oK) :: (L + 1 + 1, oP) :: (L + 1, oD) :: (ext7 ++ base8)) := fun p hp => (by
      simp only [List.mem_cons, List.mem_append] at hp
      rcases hp with h | h | h | h | h | h | h | h
      · exact N9 p (by simp [h])
      · exact N9 p (by simp [h])
      · exact N9 p (by simp [h])
      · exact N9 p (by simp [h])
      · exact N9 p (by simp [h])
      · exact N9 p (by simp [h])
      · exact NX p h
      · exact N9 p (by simp [h]))
    have AX9 : Apart6 L (ext7 ++ base8) := AX7.append AX8
    have hap9 : MatIn (ext7 ++ base8) ap (rowOf (apC W 5)) := hap8.mono fun p hp => List.mem_append_right _ hp
    have hud9 : MatIn (ext7 ++ base8) ud (rowOf (undoM (fun r => kidL ps r 4) ps ws worth 4)) := hud7.mono fun p hp => List.mem_append_left _ hp
    generalize ext7 ++ base8 = base9 at NJ2 AX9 hap9 hud9
    clear N9 NX AX7 hud7 hM hkm8 hpm8 hwm8 AX8 hap8
    generalize undoM (fun r => kidL ps r 4) ps ws worth 4 = U at hud9 hprod
    generalize apC W 5 = M at hap9 hprod hab
    clear hok hwok hsl hW hl4 hpb hwb hkb
    repeat' (first | (k_unfold; (try dsimp only)) | ((with_reducible show wpAny _ _ (eval (PySem.Expr.Name _ _) (compEnvC _ _ _ _)) _ _ _); k_dflt (first | (refine' lcf_cell ?N ?c ?m ?d ?_ ?a ?b; (case a => rfl); (case b => rfl); (case N => k_asm); (case c => rfl); (case m => k_mem); (case d => k_asm); k_whole) | refine LCgL.ld_own (by k_asm) (by k_mem) (by assumption) (by assumption) ?_ | refine LCgL.ld_built (by k_asm) (by k_asm) (by k_asm) (by k_is) (by boot_by_name) (by decide) ?_)) | ((fail_if_success (with_reducible show wpAny _ _ (exec (Stmt.Assign _ (PySem.Expr.ListComp _ _ _ _) _) _) _ _ _)); walk1) | (dsimp only; first | ((fail_if_success (with_reducible show wpAny _ _ (exec (Stmt.Assign _ (PySem.Expr.ListComp _ _ _ _) _) _) _ _ _)); walk1) | (k_unfold; (try dsimp only))) | (leave1; walk_say "STEP leave1"; try dsimp only) | fail "no step")
    rename_i hU6 oU _ _ gU
    clear g6
    have hOB := hap9
    (refine ex_2 hOB fun aas ac hOBx => ?_; clear hOB; refine an_3 hOBx fun haal haam haar => ?_; clear hOBx)
    have hOB := hud9
    (refine ex_2 hOB fun uas uc hOBx => ?_; clear hOB; refine an_3 hOBx fun hual huam huar => ?_; clear hOBx)
    refine compCellA (n := 5) (a := 0) (b := 5) (J := fun i ys news => ∃ rows, news = ((L + 1 + 1 + 1 + 1 + 1 + 1, oU) :: (L + 1 + 1 + 1 + 1 + 1, oA) :: (L + 1 + 1 + 1 + 1, oW) :: (L + 1 + 1 + 1, oK) :: (L + 1 + 1, oP) :: (L + 1, oD) :: (rows ++ base9)) ∧ Rows (fun r => (List.range 5).map (fun k => sumT M U r k)) i rows ys ∧ Apart6 L rows) (hLe := rfl) (F₀ := by k_asm) (hsw := by with_unfolding_all rfl) (hy := by rfl) (hp := by rfl) (hh := by rfl) (cl := [(Str.ofString "undoing", L + 1 + 1 + 1 + 1 + 1 + 1), (Str.ofString "apart", L + 1 + 1 + 1 + 1 + 1)]) (hclos := by kernel_rfl!) (hkind := by rfl) (hnames := by decide) (hcells := by intro _ _; rfl) (hpush := by intro _; rfl) (hxk := by intro _ _; rfl) (hn := by decide) ?iter ?step ?fin
    case iter =>
      repeat' (first | (k_unfold; (try dsimp only)) | ((with_reducible show wpAny _ _ (eval (PySem.Expr.Name _ _) (compEnvC _ _ _ _)) _ _ _); k_dflt (first | (refine' lcf_cell ?N ?c ?m ?d ?_ ?a ?b; (case a => rfl); (case b => rfl); (case N => k_asm); (case c => rfl); (case m => k_mem); (case d => k_asm); k_whole) | refine LCgL.ld_own (by k_asm) (by k_mem) (by assumption) (by assumption) ?_ | refine LCgL.ld_built (by k_asm) (by k_asm) (by k_asm) (by k_is) (by boot_by_name) (by decide) ?_)) | ((fail_if_success (with_reducible show Exists _)); walk1) | (dsimp only; first | ((fail_if_success (with_reducible show Exists _)); walk1) | (k_unfold; (try dsimp only))) | (leave1; walk_say "STEP leave1"; try dsimp only) | fail "no step")
      rename Fr _ _ _ _ => F2
      rename News _ _ _ _ => N2
      rename IsRange _ _ _ _ _ _ _ _ => R2
      exact ⟨_, _, _, _, _, _, _, rfl, rfl, F2, N2, R2, by decide, by decide, ⟨[], rfl, .nil, .nil⟩⟩
    case step =>
      rintro i ys _ I oI C oC c oc D h tk t E' hi hOB hoc F3 N3 off nes
      (refine ex_1 hOB fun rows hOBx => ?_; clear hOB; refine an_3 hOBx fun eOB0 hR hAr => ?_; clear hOBx; subst eOB0)
      have hOB := haar i hi
      (refine ex_2 hOB fun avs ak hOBx => ?_; clear hOB; refine an_2 hOBx fun haim haii => ?_; clear hOBx)
      have haam2 : (ap, PySem.W.listOf (aas.map Value.ref).toArray ac) ∈ rows ++ base9 := List.mem_append_right _ haam
      have huam2 : (ud, PySem.W.listOf (uas.map Value.ref).toArray uc) ∈ rows ++ base9 := List.mem_append_right _ huam
      have haim2 : (aas.getD i 0, PySem.W.listOf avs.toArray ak) ∈ rows ++ base9 := List.mem_append_right _ haim
      refine compCell (n := 5) (a := 0) (b := 5) (J := fun k qt news => news = (I, oI) :: (C, oC) :: (c, oc) :: (D, LCg.lst ys) :: ((L + 1 + 1 + 1 + 1 + 1 + 1, oU) :: (L + 1 + 1 + 1 + 1 + 1, oA) :: (L + 1 + 1 + 1 + 1, oW) :: (L + 1 + 1 + 1, oK) :: (L + 1 + 1, oP) :: (L + 1, oD) :: (rows ++ base9)) ∧ IntsAre qt ((List.range k).map (fun k => sumT M U i k))) (F₀ := by k_asm) (hh := by rfl) (cl := [(Str.ofString "undoing", L + 1 + 1 + 1 + 1 + 1 + 1), (Str.ofString "i", c), (Str.ofString "apart", L + 1 + 1 + 1 + 1 + 1)]) (hclos := by kernel_rfl!) (hkind := by rfl) (hnames := by decide) (hcells := by intro _ _; rfl) (hpush := by intro _; rfl) (hxk := by intro _ _; rfl) (hn := by decide) ?iterB ?stepB ?finB
      case iterB =>
        repeat' (first | (k_unfold; (try dsimp only)) | ((with_reducible show wpAny _ _ (eval (PySem.Expr.Name _ _) (compEnvC _ _ _ _)) _ _ _); k_dflt (first | (refine' lcf_cell ?N ?c ?m ?d ?_ ?a ?b; (case a => rfl); (case b => rfl); (case N => k_asm); (case c => rfl); (case m => k_mem); (case d => k_asm); k_whole) | refine LCgL.ld_own (by k_asm) (by k_mem) (by assumption) (by assumption) ?_ | refine LCgL.ld_built (by k_asm) (by k_asm) (by k_asm) (by k_is) (by boot_by_name) (by decide) ?_)) | ((fail_if_success (with_reducible show Exists _)); walk1) | (dsimp only; first | ((fail_if_success (with_reducible show Exists _)); walk1) | (k_unfold; (try dsimp only))) | (leave1; walk_say "STEP leave1"; try dsimp only) | fail "no step")
        rename Fr _ _ _ _ => F2
        rename News _ _ _ _ => N2
        rename IsRange _ _ _ _ _ _ _ _ => R2
        exact ⟨_, _, _, _, _, _, _, rfl, rfl, F2, N2, R2, by decide, by decide, ⟨rfl, .nil⟩⟩
      case stepB =>
        rintro k qt2 _ I2 oI2 C2 oC2 c2 oc2 D2 h2 tk2 t2 E2 hk hOB hoc2 F4 N4 off2 nes2
        (refine an_2 hOB fun eOB0 hqt2 => ?_; clear hOB; subst eOB0)
        repeat' (first | (k_unfold; (try dsimp only)) | ((with_reducible show wpAny _ _ (eval (PySem.Expr.Name _ _) (compEnvC _ _ _ _)) _ _ _); k_dflt (first | (refine' lcf_cell ?N ?c ?m ?d ?_ ?a ?b; (case a => rfl); (case b => rfl); (case N => k_asm); (case c => rfl); (case m => k_mem); (case d => k_asm); k_whole) | refine LCgL.ld_own (by k_asm) (by k_mem) (by assumption) (by assumption) ?_ | refine LCgL.ld_built (by k_asm) (by k_asm) (by k_asm) (by k_is) (by boot_by_name) (by decide) ?_)) | ((fail_if_success (with_reducible show wpAny _ _ (eval (PySem.Expr.ListComp _ _ _ _) _) _ _ _)); walk1) | (dsimp only; first | ((fail_if_success (with_reducible show wpAny _ _ (eval (PySem.Expr.ListComp _ _ _ _) _) _ _ _)); walk1) | (k_unfold; (try dsimp only))) | (leave1; walk_say "STEP leave1"; try dsimp only) | fail "no step")
        (k_dflt (refine LCg.ListComp_U (cl := [(Str.ofString "undoing", L + 1 + 1 + 1 + 1 + 1 + 1), (Str.ofString "k", c2), (Str.ofString "i", c), (Str.ofString "apart", L + 1 + 1 + 1 + 1 + 1)]) (F₀ := by k_asm) (by kernel_rfl!) (by decide) (by rfl) (by decide) (by rfl) ?_); repeat' (first | (k_unfold; (try dsimp only)) | ((with_reducible show wpAny _ _ (eval (PySem.Expr.Name _ _) (compEnvC _ _ _ _)) _ _ _); k_dflt (first | (refine' lcf_cell ?N ?c ?m ?d ?_ ?a ?b; (case a => rfl); (case b => rfl); (case N => k_asm); (case c => rfl); (case m => k_mem); (case d => k_asm); k_whole) | refine LCgL.ld_own (by k_asm) (by k_mem) (by assumption) (by assumption) ?_ | refine LCgL.ld_built (by k_asm) (by k_asm) (by k_asm) (by k_is) (by boot_by_name) (by decide) ?_)) | ((fail_if_success (with_reducible show LCg.CompSrc _ _ _ _ _ _ _ _ _ _ _ _ _ _)); walk1) | (dsimp only; first | ((fail_if_success (with_reducible show LCg.CompSrc _ _ _ _ _ _ _ _ _ _ _ _ _ _)); walk1) | (k_unfold; (try dsimp only))) | (leave1; walk_say "STEP leave1"; try dsimp only) | fail "no step"))
        (k_dflt (refine LCg.CompSrc.range (by rfl) (by k_asm) (by k_asm) (by assumption) (by first | decide | rfl) (by first | rfl | decide) (by first | size_fits | exact Nat.le_of_ble_eq_true rfl) ?_); intro g')
        refine compRest_ind (J := fun j rt news => news = (I2, oI2) :: (C2, oC2) :: (c2, oc2) :: (D2, LCg.lst qt2) :: (I, oI) :: (C, oC) :: (c, oc) :: (D, LCg.lst ys) :: ((L + 1 + 1 + 1 + 1 + 1 + 1, oU) :: (L + 1 + 1 + 1 + 1 + 1, oA) :: (L + 1 + 1 + 1 + 1, oW) :: (L + 1 + 1 + 1, oK) :: (L + 1 + 1, oP) :: (L + 1, oD) :: (rows ++ base9)) ∧ IntsAre rt ((List.range j).map (fun j => M i j * U j k))) 5 ?_ ?_ 5 0 [] _ rfl ⟨rfl, .nil⟩
        · rintro j rt _ hj hOB v I3 oI3 C3 oC3 D3 m₂ h3 tk3 E3 hOB1 hC3 hx3 F5 N5 off3 ne3
          (refine an_2 hOB fun eOB0 hrt => ?_; clear hOB; subst eOB0)
          (refine ex_1 hOB1 fun t3 eOB0 => ?_; clear hOB1; subst eOB0)
          have hOB := huar j hj
          (refine ex_2 hOB fun uvs uk hOBx => ?_; clear hOB; refine an_2 hOBx fun hujm huji => ?_; clear hOBx)
          have hujm2 : (uas.getD j 0, PySem.W.listOf uvs.toArray uk) ∈ rows ++ base9 := List.mem_append_right _ hujm
          have hbij := hab i j hi hj
          refine wp_hide2 fun R1 hR1 S1 hS1 => ?_
          repeat' (first | (k_unfold; (try dsimp only)) | ((with_reducible show wpAny _ _ (eval (PySem.Expr.Name _ _) (compEnvC _ _ _ _)) _ _ _); k_dflt (first | (refine' lcf_cell ?N ?c ?m ?d ?_ ?a ?b; (case a => rfl); (case b => rfl); (case N => k_asm); (case c => rfl); (case m => k_mem); (case d => k_asm); k_whole) | refine LCgL.ld_own (by k_asm) (by k_mem) (by assumption) (by assumption) ?_ | refine LCgL.ld_built (by k_asm) (by k_asm) (by k_asm) (by k_is) (by boot_by_name) (by decide) ?_)) | ((with_reducible show wpAny _ _ (subscriptTail _ _ (Value.ref ap) (Value.int (0 + (i : Int)) _)) _ _ _); refine mat_rowN (by kmk_list) haal hi ?_) | ((with_reducible show wpAny _ _ (subscriptTail _ _ (Value.ref (aas.getD i 0)) (Value.int (0 + (j : Int)) _)) _ _ _); refine ints_itemM (M := M) (by kmk_list) haii hj ?_; intro t9) | ((with_reducible show wpAny _ _ (subscriptTail _ _ (Value.ref ud) (Value.int (0 + (j : Int)) _)) _ _ _); refine mat_rowN (by kmk_list) hual hj ?_) | ((with_reducible show wpAny _ _ (subscriptTail _ _ (Value.ref (uas.getD j 0)) (Value.int (0 + (k : Int)) _)) _ _ _); refine ints_itemM (M := U) (by kmk_list) huji hk ?_; intro t9) | ((with_reducible show wpAny _ _ (binaryOp Operator.Mult (Value.int _ _) (Value.int _ _)) _ _ _); refine mul_small hbij.1 hbij.2 ?_) | ((fail_if_success (with_reducible show LCg.CompEnd _ _ _ _ _ _ _ _ _ _ _ _ _ _)); walk1) | (dsimp only; first | ((fail_if_success (with_reducible show LCg.CompEnd _ _ _ _ _ _ _ _ _ _ _ _ _ _)); walk1) | (k_unfold; (try dsimp only))) | (leave1; walk_say "STEP leave1"; try dsimp only) | fail "no step")
          rename Fr _ _ _ _ => F6
          rename News _ _ _ _ => N6
          exact hR1 _ _ (LCg.CompEnd.intro F6 N6 ((I2, oI2) :: (C2, oC2) :: (c2, oc2) :: (D2, LCg.lst qt2) :: (I, oI) :: (C, oC) :: (c, oc) :: (D, LCg.lst ys) :: ((L + 1 + 1 + 1 + 1 + 1 + 1, oU) :: (L + 1 + 1 + 1 + 1 + 1, oA) :: (L + 1 + 1 + 1 + 1, oW) :: (L + 1 + 1 + 1, oK) :: (L + 1 + 1, oP) :: (L + 1, oD) :: (rows ++ base9))) (fun p hp => hp) off3 trivial ⟨rfl, intsSnocR (f := fun j => M i j * U j k) hrt _⟩)
        rintro rt _ hOB D4 h4 tk4 F6 N6 o4
        (refine an_2 hOB fun eOB0 hrt => ?_; clear hOB; subst eOB0)
        (try dsimp only)
        have z4 : h4.IsList D4 rt.toArray := listObj (N6 _ (.head _)).1
        clear o4
        repeat' (first | (k_unfold; (try dsimp only)) | ((with_reducible show wpAny _ _ (eval (PySem.Expr.Name _ _) (compEnvC _ _ _ _)) _ _ _); k_dflt (first | (refine' lcf_cell ?N ?c ?m ?d ?_ ?a ?b; (case a => rfl); (case b => rfl); (case N => k_asm); (case c => rfl); (case m => k_mem); (case d => k_asm); k_whole) | refine LCgL.ld_own (by k_asm) (by k_mem) (by assumption) (by assumption) ?_ | refine LCgL.ld_built (by k_asm) (by k_asm) (by k_asm) (by k_is) (by boot_by_name) (by decide) ?_)) | ((fail_if_success (with_reducible show wpAny _ _ (call (Value.builtin "sum") _) _ _ _)); walk1) | (dsimp only; first | ((fail_if_success (with_reducible show wpAny _ _ (call (Value.builtin "sum") _) _ _ _)); walk1) | (k_unfold; (try dsimp only))) | (leave1; walk_say "STEP leave1"; try dsimp only) | fail "no step")
        refine sumK (by rfl) F6 N6 z4 hrt ?_
        intro h7 k7 t7 F7 N7
        (try dsimp only)
        exact ⟨_, _, (I, oI) :: (C, oC) :: (c, oc) :: (D, LCg.lst ys) :: ((L + 1 + 1 + 1 + 1 + 1 + 1, oU) :: (L + 1 + 1 + 1 + 1 + 1, oA) :: (L + 1 + 1 + 1 + 1, oW) :: (L + 1 + 1 + 1, oK) :: (L + 1 + 1, oP) :: (L + 1, oD) :: (rows ++ base9)), rfl, F7, newsSub N7 (fun p hp => .tail _ hp), off2, rfl, intsSnocR (f := fun k => sumT M U i k) hqt2 _⟩
      case finB =>
        rintro qt2 _ D2 h2 tk2 hOB F4 N4 off2
        (refine an_2 hOB fun eOB0 hqt2 => ?_; clear hOB; subst eOB0)
        have hOB := turnRow N4 off off2 hAr
        (refine an_4 hOB fun NT OT AT dT => ?_; clear hOB)
        exact ⟨_, _, _, rfl, F4, NT, OT, _, rfl, .cons hR hqt2 dT, AT⟩
    case fin =>
      rintro ys _ Dm h tk hOB F3 N3 off
      (refine ex_1 hOB fun rows hOBx => ?_; clear hOB; refine an_3 hOBx fun eOB0 hR hAr => ?_; clear hOBx; subst eOB0)
      obtain ⟨N5, AX10⟩ := pushBase N3 off (hAr.append AX9)
      have hmm : MatIn ((Dm, LCg.lst ys) :: (rows ++ base9)) Dm (rowOf (sumT M U)) := rowsIn hR
      generalize (Dm, LCg.lst ys) :: (rows ++ base9) = base10 at N5 AX10 hmm
      clear N3 off AX9 hR hAr haam haar huam huar
      (try dsimp only)
      repeat' (first | (k_unfold; (try dsimp only)) | ((with_reducible show wpAny _ _ (eval (PySem.Expr.Name _ _) (compEnvC _ _ _ _)) _ _ _); k_dflt (first | (refine' lcf_cell ?N ?c ?m ?d ?_ ?a ?b; (case a => rfl); (case b => rfl); (case N => k_asm); (case c => rfl); (case m => k_mem); (case d => k_asm); k_whole) | refine LCgL.ld_own (by k_asm) (by k_mem) (by assumption) (by assumption) ?_ | refine LCgL.ld_built (by k_asm) (by k_asm) (by k_asm) (by k_is) (by boot_by_name) (by decide) ?_)) | ((fail_if_success (with_reducible show wpAny _ _ (eval (PySem.Expr.ListComp _ _ _ _) _) _ _ _)); walk1) | (dsimp only; first | ((fail_if_success (with_reducible show wpAny _ _ (eval (PySem.Expr.ListComp _ _ _ _) _) _ _ _)); walk1) | (k_unfold; (try dsimp only))) | (leave1; walk_say "STEP leave1"; try dsimp only) | fail "no step")
      refine compCell (n := 5) (a := 0) (b := 5) (J := fun i ys news => ∃ rows, news = ((L + 1 + 1 + 1 + 1 + 1 + 1, oU) :: (L + 1 + 1 + 1 + 1 + 1, oA) :: (L + 1 + 1 + 1 + 1, oW) :: (L + 1 + 1 + 1, oK) :: (L + 1 + 1, oP) :: (L + 1, oD) :: (rows ++ base10)) ∧ Rows (fun r => (List.range 5).map (fun k => diagT worth r k)) i rows ys ∧ Apart6 L rows) (F₀ := by k_asm) (hh := by rfl) (cl := [(Str.ofString "worth", L + 1 + 1 + 1 + 1)]) (hclos := by kernel_rfl!) (hkind := by rfl) (hnames := by decide) (hcells := by intro _ _; rfl) (hpush := by intro _; rfl) (hxk := by intro _ _; rfl) (hn := by decide) ?iterC ?stepC ?finC
      case iterC =>
        repeat' (first | (k_unfold; (try dsimp only)) | ((with_reducible show wpAny _ _ (eval (PySem.Expr.Name _ _) (compEnvC _ _ _ _)) _ _ _); k_dflt (first | (refine' lcf_cell ?N ?c ?m ?d ?_ ?a ?b; (case a => rfl); (case b => rfl); (case N => k_asm); (case c => rfl); (case m => k_mem); (case d => k_asm); k_whole) | refine LCgL.ld_own (by k_asm) (by k_mem) (by assumption) (by assumption) ?_ | refine LCgL.ld_built (by k_asm) (by k_asm) (by k_asm) (by k_is) (by boot_by_name) (by decide) ?_)) | ((fail_if_success (with_reducible show Exists _)); walk1) | (dsimp only; first | ((fail_if_success (with_reducible show Exists _)); walk1) | (k_unfold; (try dsimp only))) | (leave1; walk_say "STEP leave1"; try dsimp only) | fail "no step")
        rename Fr _ _ _ _ => F2
        rename News _ _ _ _ => N2
        rename IsRange _ _ _ _ _ _ _ _ => R2
        exact ⟨_, _, _, _, _, _, _, rfl, rfl, F2, N2, R2, by decide, by decide, ⟨[], rfl, .nil, .nil⟩⟩
      case stepC =>
        rintro i yz _ I oI C oC c oc D h tk t E' hi hOB hoc F3 N3 off nes
        (refine ex_1 hOB fun rows hOBx => ?_; clear hOB; refine an_3 hOBx fun eOB0 hR hAr => ?_; clear hOBx; subst eOB0)
        (k_dflt (refine LCg.ListComp_U (cl := [(Str.ofString "worth", L + 1 + 1 + 1 + 1), (Str.ofString "i", c)]) (F₀ := by k_asm) (by kernel_rfl!) (by decide) (by rfl) (by decide) (by rfl) ?_); repeat' (first | (k_unfold; (try dsimp only)) | ((with_reducible show wpAny _ _ (eval (PySem.Expr.Name _ _) (compEnvC _ _ _ _)) _ _ _); k_dflt (first | (refine' lcf_cell ?N ?c ?m ?d ?_ ?a ?b; (case a => rfl); (case b => rfl); (case N => k_asm); (case c => rfl); (case m => k_mem); (case d => k_asm); k_whole) | refine LCgL.ld_own (by k_asm) (by k_mem) (by assumption) (by assumption) ?_ | refine LCgL.ld_built (by k_asm) (by k_asm) (by k_asm) (by k_is) (by boot_by_name) (by decide) ?_)) | ((fail_if_success (with_reducible show LCg.CompSrc _ _ _ _ _ _ _ _ _ _ _ _ _ _)); walk1) | (dsimp only; first | ((fail_if_success (with_reducible show LCg.CompSrc _ _ _ _ _ _ _ _ _ _ _ _ _ _)); walk1) | (k_unfold; (try dsimp only))) | (leave1; walk_say "STEP leave1"; try dsimp only) | fail "no step"))
        (k_dflt (refine LCg.CompSrc.range (by rfl) (by k_asm) (by k_asm) (by assumption) (by first | decide | rfl) (by first | rfl | decide) (by first | size_fits | exact Nat.le_of_ble_eq_true rfl) ?_); intro g')
        refine compRest_ind (J := fun k qt news => news = (I, oI) :: (C, oC) :: (c, oc) :: (D, LCg.lst yz) :: ((L + 1 + 1 + 1 + 1 + 1 + 1, oU) :: (L + 1 + 1 + 1 + 1 + 1, oA) :: (L + 1 + 1 + 1 + 1, oW) :: (L + 1 + 1 + 1, oK) :: (L + 1 + 1, oP) :: (L + 1, oD) :: (rows ++ base10)) ∧ IntsAre qt ((List.range k).map (fun k => diagT worth i k))) 5 ?_ ?_ 5 0 [] _ rfl ⟨rfl, .nil⟩
        · rintro k qz _ hk hOB v I2 oI2 C2 oC2 D2 m₂ h2 tk2 E2 hOB1 hC2 hx2 F4 N4 off2 ne2
          (refine an_2 hOB fun eOB0 hqz => ?_; clear hOB; subst eOB0)
          (refine ex_1 hOB1 fun t2 eOB0 => ?_; clear hOB1; subst eOB0)
          by_cases cc : i = k
          · have c2 : (0 : Int) + (i : Int) = 0 + (k : Int) := by omega
            refine wp_hide2 fun R1 hR1 S1 hS1 => ?_
            repeat' (first | (k_unfold; (try dsimp only)) | ((with_reducible show wpAny _ _ (eval (PySem.Expr.Name _ _) (compEnvC _ _ _ _)) _ _ _); k_dflt (first | (refine' lcf_cell ?N ?c ?m ?d ?_ ?a ?b; (case a => rfl); (case b => rfl); (case N => k_asm); (case c => rfl); (case m => k_mem); (case d => k_asm); k_whole) | refine LCgL.ld_own (by k_asm) (by k_mem) (by assumption) (by assumption) ?_ | refine LCgL.ld_built (by k_asm) (by k_asm) (by k_asm) (by k_is) (by boot_by_name) (by decide) ?_)) | (with_reducible refine ite_pos (beq_iff_eq.mpr c2) ?_) | ((fail_if_success (with_reducible show LCg.CompEnd _ _ _ _ _ _ _ _ _ _ _ _ _ _)); walk1) | (dsimp only; first | ((fail_if_success (with_reducible show LCg.CompEnd _ _ _ _ _ _ _ _ _ _ _ _ _ _)); walk1) | (k_unfold; (try dsimp only))) | (leave1; walk_say "STEP leave1"; try dsimp only) | fail "no step")
            rename Fr _ _ _ _ => F5
            rename News _ _ _ _ => N5
            refine hR1 _ _ (LCg.CompEnd.intro F5 N5 ((I, oI) :: (C, oC) :: (c, oc) :: (D, LCg.lst yz) :: ((L + 1 + 1 + 1 + 1 + 1 + 1, oU) :: (L + 1 + 1 + 1 + 1 + 1, oA) :: (L + 1 + 1 + 1 + 1, oW) :: (L + 1 + 1 + 1, oK) :: (L + 1 + 1, oP) :: (L + 1, oD) :: (rows ++ base10))) (fun p hp => hp) off2 trivial ⟨rfl, ?_⟩)
            have ew : diagT worth i k = 4 * worth := if_pos cc
            exact ew ▸ intsSnocR (f := fun k => diagT worth i k) hqz _
          · have c2 : ¬ (0 : Int) + (i : Int) = 0 + (k : Int) := by omega
            refine wp_hide2 fun R1 hR1 S1 hS1 => ?_
            repeat' (first | (k_unfold; (try dsimp only)) | ((with_reducible show wpAny _ _ (eval (PySem.Expr.Name _ _) (compEnvC _ _ _ _)) _ _ _); k_dflt (first | (refine' lcf_cell ?N ?c ?m ?d ?_ ?a ?b; (case a => rfl); (case b => rfl); (case N => k_asm); (case c => rfl); (case m => k_mem); (case d => k_asm); k_whole) | refine LCgL.ld_own (by k_asm) (by k_mem) (by assumption) (by assumption) ?_ | refine LCgL.ld_built (by k_asm) (by k_asm) (by k_asm) (by k_is) (by boot_by_name) (by decide) ?_)) | (with_reducible refine ite_neg (by rw [beq_iff_eq]; exact c2) ?_) | ((fail_if_success (with_reducible show LCg.CompEnd _ _ _ _ _ _ _ _ _ _ _ _ _ _)); walk1) | (dsimp only; first | ((fail_if_success (with_reducible show LCg.CompEnd _ _ _ _ _ _ _ _ _ _ _ _ _ _)); walk1) | (k_unfold; (try dsimp only))) | (leave1; walk_say "STEP leave1"; try dsimp only) | fail "no step")
            rename Fr _ _ _ _ => F5
            rename News _ _ _ _ => N5
            refine hR1 _ _ (LCg.CompEnd.intro F5 N5 ((I, oI) :: (C, oC) :: (c, oc) :: (D, LCg.lst yz) :: ((L + 1 + 1 + 1 + 1 + 1 + 1, oU) :: (L + 1 + 1 + 1 + 1 + 1, oA) :: (L + 1 + 1 + 1 + 1, oW) :: (L + 1 + 1 + 1, oK) :: (L + 1 + 1, oP) :: (L + 1, oD) :: (rows ++ base10))) (fun p hp => hp) off2 trivial ⟨rfl, ?_⟩)
            have ew : diagT worth i k = 0 := if_neg cc
            exact ew ▸ intsSnocR (f := fun k => diagT worth i k) hqz _
        rintro qz _ hOB D2 h2 tk2 F4 N4 o2x
        (refine an_2 hOB fun eOB0 hqz => ?_; clear hOB; subst eOB0)
        have hOB := turnRow N4 off (off1_mem o2x) hAr
        (refine an_4 hOB fun NT OT AT dT => ?_; clear hOB)
        exact ⟨_, _, _, rfl, F4, NT, OT, _, rfl, .cons hR hqz dT, AT⟩
      case finC =>
        rintro yz _ Df h tk hOB F3 N3 off
        (refine ex_1 hOB fun rows hOBx => ?_; clear hOB; refine an_3 hOBx fun eOB0 hR hAr => ?_; clear hOBx; subst eOB0)
        obtain ⟨N6, AX11⟩ := pushBase N3 off (hAr.append AX10)
        have hff : MatIn ((Df, LCg.lst yz) :: (rows ++ base10)) Df (rowOf (diagT worth)) := rowsIn hR
        have hmm2 : MatIn ((Df, LCg.lst yz) :: (rows ++ base10)) Dm (rowOf (sumT M U)) := hmm.mono fun p hp => .tail _ (List.mem_append_right _ hp)
        generalize (Df, LCg.lst yz) :: (rows ++ base10) = base11 at N6 AX11 hmm2 hff
        clear N3 off AX10 hR hAr hmm N5
        (try dsimp only)
        repeat' (first | (k_unfold; (try dsimp only)) | ((with_reducible show wpAny _ _ (eval (PySem.Expr.Name _ _) (compEnvC _ _ _ _)) _ _ _); k_dflt (first | (refine' lcf_cell ?N ?c ?m ?d ?_ ?a ?b; (case a => rfl); (case b => rfl); (case N => k_asm); (case c => rfl); (case m => k_mem); (case d => k_asm); k_whole) | refine LCgL.ld_own (by k_asm) (by k_mem) (by assumption) (by assumption) ?_ | refine LCgL.ld_built (by k_asm) (by k_asm) (by k_asm) (by k_is) (by boot_by_name) (by decide) ?_)) | ((with_reducible show wpAny _ _ (compareOp CmpOp.Eq (Value.ref _) (Value.ref _)) _ _ _); refine eq_mat (MatIn.ats hmm2 (by k_asm) (fun p hp => by k_mem)) (MatIn.ats hff (by k_asm) (fun p hp => by k_mem)) hprod (by ktr_units) ?_) | walk1 | (dsimp only; first | walk1 | (k_unfold; (try dsimp only))) | (leave1; walk_say "STEP leave1"; try dsimp only) | fail "no step")
        refine hR0 _ _ ?_
        repeat' (first | (k_unfold; (try dsimp only)) | ((with_reducible show wpAny _ _ (eval (PySem.Expr.Name _ _) (compEnvC _ _ _ _)) _ _ _); k_dflt (first | (refine' lcf_cell ?N ?c ?m ?d ?_ ?a ?b; (case a => rfl); (case b => rfl); (case N => k_asm); (case c => rfl); (case m => k_mem); (case d => k_asm); k_whole) | refine LCgL.ld_own (by k_asm) (by k_mem) (by assumption) (by assumption) ?_ | refine LCgL.ld_built (by k_asm) (by k_asm) (by k_asm) (by k_is) (by boot_by_name) (by decide) ?_)) | walk1 | (dsimp only; first | walk1 | (k_unfold; (try dsimp only))) | (leave1; walk_say "STEP leave1"; try dsimp only) | fail "no step")
        refine goodW_bool F3 hg (raisesW_false ?_) ?_
        · wrow_none_raised
        · wrow_post)
end Mine

theorem PySem.Challenge.cw_rs0039_01_holds : PySem.Challenge.rw_rs0039_01.Holds := by
  exact Mine.law_walk

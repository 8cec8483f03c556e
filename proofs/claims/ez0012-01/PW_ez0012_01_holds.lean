import PyProof.Rows.All
import Wide.All
import OpenK.AllK
import Wide.FinOn
import Lean
import PySem.Challenge.RW_ez0012_01
open PySem PySem.W PyProof.Rows
set_option Elab.async false
set_option maxRecDepth 100000 in
set_option maxHeartbeats 8000000 in
open_top Mine.hd for PySem.Challenge.rw_ez0012_01
section
open PySem PySem.W PyProof.Rows PySem.Calls PySem.Spec
set_option Elab.async false
set_option linter.all false
set_option maxRecDepth 100000
set_option maxHeartbeats 8000000
namespace Mine

noncomputable abbrev ezLoose : List Str := looseW Mine.hd.view_39 [Str.ofString "BTClibValueError", Str.ofString "BTClibTypeError", Str.ofString "bytes_from_octets"]

/-- what comes back of a call: the value r bears the datum d over the new objects tl, all else stands -/
abbrev Back (h₀ : Heap) (L : Addr) (m : Str → Option Value) (news : List (Addr × Obj)) (s : Shared) (Q : Value → Shared → Prop) (d : Dat) : Prop :=
  ∀ (r : Value) (tl : List (Addr × Obj)) (h' : Heap) (tk' : Nat), Fr h₀ L h' m → News h₀ L h' (tl ++ news) → (∀ p ∈ tl, ∀ q ∈ news, p.1 ≠ q.1) → DatIn tl r d → Q r { s with heap := h', toks := tk' }

/-- a call of the def at f with vs hands back a value that bears the datum d -/
def Ct (w : World) (mean : ExcName → Option Value) (mg mb : Str → Option Value) (f : Addr) (D : Nat) (vs : List Value) (d : Dat) : Prop :=
  ∀ (dp un : Nat) (gd : Option (List Code)) (cn : Str) (cs : Scope) (a : Addr) (ccd : Value) (cl : List (Str × Addr)) (outer : List Env) (A₀ : Around) (base h₀ : Heap) (L : Addr) (m : Str → Option Value) (news : List (Addr × Obj)) (s : Shared)
    (Q E : Value → Shared → Prop),
    Below A₀ base outer h₀ → Fr h₀ L s.heap m → (Mine.hd.heap_39 w.params).In h₀ → News h₀ L s.heap news → Top Mine.hd.view_39 ezLoose mean mg mb h₀ → cs.kind = .function → dp + D < recursionLimit → un + 8 * D < cLine →
    Back h₀ L m news s Q d →
    wpAny (model PySem.Challenge.rw_ez0012_01.row.prog w) (ktrTop dp un gd cn cs L a ccd cl outer) (call (.ref f) vs) Q E s

theorem Ct.use {w : World} {mean : ExcName → Option Value} {mg mb : Str → Option Value} {f : Addr} {D : Nat} {vs : List Value} {d : Dat} (C : Ct w mean mg mb f D vs d)
    {dp un : Nat} {gd : Option (List Code)} {cn : Str} {cs : Scope} {a : Addr} {ccd : Value} {cl : List (Str × Addr)} {outer : List Env} {A₀ : Around} {base h₀ : Heap} {L : Addr} {m : Str → Option Value} {news : List (Addr × Obj)} {s : Shared}
    {Q E : Value → Shared → Prop}
    (B : Below A₀ base outer h₀) (F : Fr h₀ L s.heap m) (X : (Mine.hd.heap_39 w.params).In h₀) (N : News h₀ L s.heap news) (T : Top Mine.hd.view_39 ezLoose mean mg mb h₀) (hk : cs.kind = .function) (hd : dp + D < recursionLimit) (hu : un + 8 * D < cLine)
    (ret : ∀ r tl h' tk', Fr h₀ L h' m → News h₀ L h' (tl ++ news) → (∀ p ∈ tl, ∀ q ∈ news, p.1 ≠ q.1) → DatIn tl r d → Q r { s with heap := h', toks := tk' }) :
    wpAny (model PySem.Challenge.rw_ez0012_01.row.prog w) (ktrTop dp un gd cn cs L a ccd cl outer) (call (.ref f) vs) Q E s :=
  C _ _ _ _ _ _ _ _ _ _ _ _ _ _ _ _ _ _ B F X N T hk hd hu ret

/-- an end of a def's body: the caller's objects stand as they stood -/
def Behind (P Q : Prop) : Prop := P → Q

/-- a def of the text is entered; its body sees the caller's objects as what stood before -/
theorem enterW {prog : Program} {w : World} {A A₀ : Around} {s : Shared} {K : Frag} {L : Addr} {h₀ base : Heap} {m mg mb : Str → Option Value} {news : List (Addr × Obj)} {p : Program} {loose : List Str} {mean : ExcName → Option Value}
    {env : Env} {outer : List Env} {R : Result → Shared → Prop} {name qual : Str} {params : Arguments} {body : List Stmt} {scope : Scope} {dV kV doc pm cdv ct oc : Value} {an od : Option Addr} {osl : Array (Option Value)} {f : Addr} {args : Args} {binds : List (Str × Value)}
    (B : Below A₀ base outer h₀) (F : Fr h₀ L s.heap m) (X₀ : K.In h₀) (N : News h₀ L s.heap news) (T : Top p loose mean mg mb h₀) (hA : A.frames = some (env :: outer)) (hf : env.frame = some L) (hke : env.scope.kind = .function)
    (ho : K.lookup f = some ⟨oc, od, .func (fnOf name qual params body scope dV kV doc pm an cdv ct), osl⟩) (hcd : codeIn K cdv qual = true) (hroom : A.depth < recursionLimit)
    (hbind : BindsTo s (fnOf name qual params body scope dV kV doc pm an cdv ct) args binds) (hloc : ∀ y ∈ binds, scope.names.lookup y.1 = some .local)
    (h : ∀ g L' h₁, Fr h₀ L g m → News h₀ L g news → Fr g L' h₁ (fun y => binds.reverse.lookup y) → News g L' h₁ [] → Below A base (env :: outer) g → K.In g → Top p loose mean mg mb g →
      wpAny (model prog w) (A.deeper (envOf qual scope L' f cdv)) (execs body (envOf qual scope L' f cdv))
        (fun fl s' => LeaveK h₀ L m g (fun r s' => Behind (News h₀ L s'.heap news) (R r s')) (match fl with | .ret v => v | _ => .none) s')
        (fun e s' => wpAny (model prog w) (A.deeper (envOf qual scope L' f cdv)) (leaving (envOf qual scope L' f cdv) e) (fun _ s'' => R (.error e) s'') (fun e' s'' => R (.error e') s'') s')
        { s with heap := h₁, toks := s.toks + binds.length })
    (hco : scope.isCoroutine = false) (hgen : scope.isGenerator = false) (hk : scope.kind = .function)
    (hcell : ∀ x ∈ scope.names, x.2 ≠ .cell) : codeAny (model prog w) A (.call (.ref f) args) R s := by
  refine codeAny_call_def (fd := fnOf name qual params body scope dV kV doc pm an cdv ct) (body := body) (binds := binds) hroom ((X₀.keeps F.keep) _ _ ho) rfl (T.nolimit.keeps F.keep) (codeRec_of (X₀.keeps F.keep) hcd) rfl hbind hcell hloc (fun h₁ hns hk₁ => ?_) hco hgen hk
  have B₁ := pushX B F hf hke
  refine wpAny_mono (h s.heap s.heap.objs.size h₁ F N ⟨hns, hk₁, Nat.le_refl _⟩ News.nil ⟨hA, B₁.stays, B₁.frames⟩ (X₀.keeps F.keep) (T.keeps F.keep)) (fun fl s' hl => ?_) fun _ _ y => y
  obtain ⟨L', m', news', F', N', k⟩ := hl
  obtain ⟨oL, es, ep, hL, hLd, hLk, hLf⟩ := F.ns
  have F₂ : Fr h₀ L s'.heap m := ⟨⟨oL, es, ep, F'.keep L oL hL, hLd, hLk, hLf⟩, fun b o e => F'.keep b o (F.keep b o e), F.above⟩
  refine k F₂ (fun q hq => ⟨(N' q hq).1, fun e => ?_, ?_⟩) (fun q hq => ⟨F'.keep _ _ (N q hq).1, (N q hq).2⟩)
  · have := (N' q hq).2.2
    rw [e, hL] at this
    cases this
  · cases e : h₀.get? q.1 with
    | none => rfl
    | some o =>
      have := (N' q hq).2.2
      rw [F.keep _ _ e] at this
      cases this

/-- a def some of whose names are cells -/
theorem enterWC {prog : Program} {w : World} {A A₀ : Around} {s : Shared} {K : Frag} {L : Addr} {h₀ base : Heap} {m mg mb : Str → Option Value} {news : List (Addr × Obj)} {p : Program} {loose : List Str} {mean : ExcName → Option Value}
    {env : Env} {outer : List Env} {R : Result → Shared → Prop} {name qual : Str} {params : Arguments} {body : List Stmt} {scope : Scope} {dV kV doc pm cdv ct oc : Value} {an od : Option Addr} {osl : Array (Option Value)} {f : Addr} {args : Args} {binds : List (Str × Value)}
    (B : Below A₀ base outer h₀) (F : Fr h₀ L s.heap m) (X₀ : K.In h₀) (N : News h₀ L s.heap news) (T : Top p loose mean mg mb h₀) (hA : A.frames = some (env :: outer)) (hf : env.frame = some L) (hke : env.scope.kind = .function)
    (ho : K.lookup f = some ⟨oc, od, .func (fnOf name qual params body scope dV kV doc pm an cdv ct), osl⟩) (hcd : codeIn K cdv qual = true) (hroom : A.depth < recursionLimit)
    (hbind : BindsTo s (fnOf name qual params body scope dV kV doc pm an cdv ct) args binds) (hkind : (binds.all fun y => scope.names.lookup y.1 == some .local || scope.names.lookup y.1 == some .cell) = true)
    (hnd : ((cellsFrom 0 scope.names []).map (·.1)).Nodup)
    (h : ∀ g L' h₁ tk cells, Fr h₀ L g m → News h₀ L g news → Fr g L' h₁ (bindL (envOfC qual scope L' f cdv).kindOf binds fun _ => none) → News g L' h₁ cells →
      CellsAre (bindC (envOfC qual scope L' f cdv).kindOf binds fun _ => none) (cellsFrom (L' + 1) scope.names []) cells → Below A base (env :: outer) g → K.In g → Top p loose mean mg mb g →
      wpAny (model prog w) (A.deeper (envOfC qual scope L' f cdv)) (execs body (envOfC qual scope L' f cdv))
        (fun fl s' => LeaveK h₀ L m g (fun r s' => Behind (News h₀ L s'.heap news) (R r s')) (match fl with | .ret v => v | _ => .none) s')
        (fun e s' => wpAny (model prog w) (A.deeper (envOfC qual scope L' f cdv)) (leaving (envOfC qual scope L' f cdv) e) (fun _ s'' => R (.error e) s'') (fun e' s'' => R (.error e') s'') s')
        { s with heap := h₁, toks := tk })
    (hco : scope.isCoroutine = false) (hgen : scope.isGenerator = false) (hk : scope.kind = .function) : codeAny (model prog w) A (.call (.ref f) args) R s := by
  refine codeAny_call_function (fd := fnOf name qual params body scope dV kV doc pm an cdv ct) (body := body) hroom ((X₀.keeps F.keep) _ _ ho) rfl hco hgen rfl (codeRec_of (X₀.keeps F.keep) hcd) (hbind _ _ _ _ ?_)
  refine wpAny_newFunctionEnv_cells hk (kindsX hkind _) fun env' he s' x => ?_
  subst he
  refine ⟨(T.nolimit.keeps F.keep).keeps x.toInCall.keep, codeAny_func ?_⟩
  obtain ⟨h₁, tk, rfl, _⟩ := x.done
  have hk₁ := x.toInCall.keep
  obtain ⟨cells, NC, Y⟩ := Cl.news (h₀ := s.heap) (Nat.le_refl _) fun n c hm => ⟨x.cell n c (lookup_of_mem_nodup (cellsFrom_names scope.names 0 (s.heap.objs.size + 1) [] [] rfl ▸ hnd) hm), x.above n c hm⟩
  have B₁ := pushX B F hf hke
  refine wpAny_mono (h s.heap s.heap.objs.size h₁ tk cells F N ⟨x.toInCall.ns, hk₁, Nat.le_refl _⟩ (fun p hp => NC p hp) Y ⟨hA, B₁.stays, B₁.frames⟩ (X₀.keeps F.keep) (T.keeps F.keep)) (fun fl s' hl => ?_) fun _ _ y => y
  obtain ⟨L', m', news', F', N', k⟩ := hl
  obtain ⟨oL, es, ep, hL, hLd, hLk, hLf⟩ := F.ns
  have F₂ : Fr h₀ L s'.heap m := ⟨⟨oL, es, ep, F'.keep L oL hL, hLd, hLk, hLf⟩, fun b o e => F'.keep b o (F.keep b o e), F.above⟩
  refine k F₂ (fun q hq => ⟨(N' q hq).1, fun e => ?_, ?_⟩) (fun q hq => ⟨F'.keep _ _ (N q hq).1, (N q hq).2⟩)
  · have := (N' q hq).2.2
    rw [e, hL] at this
    cases this
  · cases e : h₀.get? q.1 with
    | none => rfl
    | some o =>
      have := (N' q hq).2.2
      rw [F.keep _ _ e] at this
      cases this

section
variable {tl news : List (Addr × Obj)} {h₀ h : Heap} {L : Addr}
theorem dBool {x y : Bool} (h : x = y) : DatIn tl (.bool x) (.bool y) := h ▸ .bool x
theorem dInt {x y : Int} {t : Tok} (h : x = y) : DatIn tl (.int x t) (.int y) := h ▸ .int x t
theorem byteArr_bInts (b : Array UInt8) : byteArr (KBw.bInts b) = b := by
  unfold byteArr KBw.bInts
  rw [List.map_map]
  have : (fun n : Int => n.toNat.toUInt8) ∘ (fun c : UInt8 => (c.toNat : Int)) = id := by
    funext c
    simp
  rw [this, List.map_id, Array.toArray_toList]
theorem bInts_eq {b : Array UInt8} {ks : List Int} (h : KBw.bInts b = ks) : b = byteArr ks := by rw [← h, byteArr_bInts]
theorem dBytes {b : Array UInt8} {ks : List Int} {t : Tok} (h : KBw.bInts b = ks) : DatIn tl (.bytes b t) (.bytes (byteArr ks)) := bInts_eq h ▸ .bytes b t
theorem newsR (N : News h₀ L h (tl ++ news)) : News h₀ L h news := fun p hp => N p (List.mem_append.mpr (.inr hp))
theorem newsC {q : Addr × Obj} (N : News h₀ L h (tl ++ news)) (hq : q ∈ tl) : News h₀ L h (q :: news) := fun p hp => N p (by
  rcases List.mem_cons.mp hp with rfl | hp
  · exact List.mem_append.mpr (.inl hq)
  · exact List.mem_append.mpr (.inr hp))

section
variable {m m' : Str → Option Value} {s : Shared} {Q : Value → Shared → Prop} {d : Dat} {r : Value} {h' g : Heap} {L' : Addr} {tk' : Nat} {nx : List (Addr × Obj)}
theorem endV (hret : Back h₀ L m news s Q d) (F : Fr h₀ L h' m) (D : DatIn [] r d) : Behind (News h₀ L h' news) (Q r { s with heap := h', toks := tk' }) :=
  fun N => hret r [] h' tk' F N (fun _ hp => nomatch hp) D
theorem endT (hret : Back h₀ L m news s Q d) (tl : List (Addr × Obj)) (F : Fr h₀ L h' m) (Ng : News h₀ L g news) (N' : News g L' h' nx) (N : News h₀ L h' nx) (ht : ∀ p ∈ tl, p ∈ nx) (D : DatIn tl r d) :
    Behind (News h₀ L h' news) (Q r { s with heap := h', toks := tk' }) :=
  fun N₀ => hret r tl h' tk' F (fun p hp => (List.mem_append.mp hp).elim (fun hp => N p (ht p hp)) (N₀ p)) (fun p hp q hq e => by
    have h1 := (N' p (ht p hp)).2.2
    rw [e, (Ng q hq).1] at h1
    cases h1) D
end
end

section
variable {M : Model} {A : Around} {E : Value → Shared → Prop} {env : Env} {st : Stmt} {rest : List Stmt} {hp : Heap} {k : Nat}
theorem execsC {gens drawn os} {Q : Flow → Shared → Prop} (h : ∀ tk, wpAny M A (exec st env) (fun f s' => match f with | .next => wpAny M A (execs rest env) Q E s' | f => Q f s') E ⟨hp, gens, drawn, tk, os⟩) :
    wpAny M A (execs (st :: rest) env) Q E ⟨hp, gens, drawn, k, os⟩ := wpAny_execs_cons (h k)
theorem execsN {gens drawn os} {Q : Flow → Shared → Prop} (h : ∀ tk, Q .next ⟨hp, gens, drawn, tk, os⟩) : wpAny M A (execs [] env) Q E ⟨hp, gens, drawn, k, os⟩ := wpAny_execs_nil (h k)
end

/-- the bytes of these ints -/
noncomputable abbrev BY (ks : List Int) : Dat := .bytes (byteArr ks)

end Mine
end
section
open PySem PySem.W PyProof.Rows PySem.Calls PySem.Spec
set_option Elab.async false
set_option linter.all false
set_option maxRecDepth 100000
set_option maxHeartbeats 8000000
namespace Mine
local macro_rules | `(tactic| walk_at "execs cons") => `(tactic| (k_here; (with_reducible refine execsC fun tk => ?_); (try dsimp only)))
local macro_rules | `(tactic| walk_at "execs nil") => `(tactic| (k_here; (with_reducible refine execsN fun tk => ?_); (try dsimp only)))
/-! plain readings of the small functions -/
def keyOk (ks : List Int) : Bool := (ks.length == 33 && (ks.getD 0 0 == 2 || ks.getD 0 0 == 3)) || (ks.length == 65 && (ks.getD 0 0 == 4 || ks.getD 0 0 == 6 || ks.getD 0 0 == 7))
def s101 (ks : List Int) : Bool := decide (ks.length = 23 ∧ ks.getD 0 0 = 169 ∧ ks.getD 1 0 = 20 ∧ ks.getD 22 0 = 135)
noncomputable def optBytes : Option (List Int) → Dat
  | none => .none
  | some ks => BY ks
noncomputable def optInt : Option Int → Dat
  | none => .none
  | some k => .int k
theorem t101 (w : World) (mean : ExcName → Option Value) (mg mb : Str → Option Value) (b : Array UInt8) (t : Tok) (ks : List Int) (hb : KBw.bInts b = ks) (hl : ks.length ≤ 1000) : Ct w mean mg mb 101 1 [.bytes b t] (.bool (s101 ks)) := by
  w_top off
  unfold Ct
  k_fill
  intro dp un gd cn cs a ccd cl outer A₀ base h₀ L m news s Q E B F X N T hk hd hu hret
  refine wpAny_call ?_
  k_dflt (refine' enterW ?k1 ?k2 ?k3 ?k4 ?k5 ?kA ?kF ?kK ?k6 ?k7 ?k8 ?k9 ?kB ?_ ?c2 ?c3 ?c4 ?c5; (case kA => exact rfl); (case kF => exact rfl); (case kK => assumption); (case k1 => k_asm); (case k2 => k_asm); (case k3 => k_asm); (case k4 => k_asm); (case k5 => k_asm); (case k6 => k_is); (case k7 => k_is); (case k8 => ktr_room); (case k9 => first | exact BindsTo.of_eq rfl | exact binds_K (by k_in) rfl (by k_is) rfl rfl rfl); (case c5 => decide); (case kB => exact locs rfl); (case c2 => exact rfl); (case c3 => exact rfl); (case c4 => exact rfl); k_whole; intro g' L' h' FG' NG' F' N' B' X' T'; (try dsimp only); (try k_fold))
  k_steps
  all_goals ((refine endV hret (by k_asm) ?_; clear hret); unfold s101; refine dBool ?_)
  all_goals (rw [Bool.eq_iff_iff]; simp only [Bool.false_eq_true, false_iff, decide_eq_true_eq, decide_eq_false_iff_not, Bool.or_eq_true, Bool.or_eq_false_iff, Bool.and_eq_true, Bool.and_eq_false_imp, Bool.false_or, Bool.or_false, Int.reduceToNat, Int.toNat_zero, Int.toNat_one, List.any_cons, List.any_nil, beq_iff_eq, beq_eq_false_iff_ne, ne_eq] at *; omega)
theorem t94 (w : World) (mean : ExcName → Option Value) (mg mb : Str → Option Value) (b : Array UInt8) (t : Tok) (ks : List Int) (hb : KBw.bInts b = ks) (hl : ks.length ≤ 1000) : Ct w mean mg mb 94 1 [.bytes b t] (.bool (keyOk ks)) := by
  w_top off
  unfold Ct
  k_fill
  intro dp un gd cn cs a ccd cl outer A₀ base h₀ L m news s Q E B F X N T hk hd hu hret
  refine wpAny_call ?_
  k_dflt (refine' enterW ?k1 ?k2 ?k3 ?k4 ?k5 ?kA ?kF ?kK ?k6 ?k7 ?k8 ?k9 ?kB ?_ ?c2 ?c3 ?c4 ?c5; (case kA => exact rfl); (case kF => exact rfl); (case kK => assumption); (case k1 => k_asm); (case k2 => k_asm); (case k3 => k_asm); (case k4 => k_asm); (case k5 => k_asm); (case k6 => k_is); (case k7 => k_is); (case k8 => ktr_room); (case k9 => first | exact BindsTo.of_eq rfl | exact binds_K (by k_in) rfl (by k_is) rfl rfl rfl); (case c5 => decide); (case kB => exact locs rfl); (case c2 => exact rfl); (case c3 => exact rfl); (case c4 => exact rfl); k_whole; intro g' L' h' FG' NG' F' N' B' X' T'; (try dsimp only); (try k_fold))
  k_steps
  all_goals ((refine endV hret (by k_asm) ?_; clear hret); unfold keyOk; refine dBool ?_)
  all_goals (rw [Bool.eq_iff_iff]; simp only [Bool.false_eq_true, false_iff, decide_eq_true_eq, decide_eq_false_iff_not, Bool.or_eq_true, Bool.or_eq_false_iff, Bool.and_eq_true, Bool.and_eq_false_imp, Bool.false_or, Bool.or_false, Int.reduceToNat, Int.toNat_zero, Int.toNat_one, List.any_cons, List.any_nil, beq_iff_eq, beq_eq_false_iff_ne, ne_eq] at *; omega)
theorem t197 (w : World) (mean : ExcName → Option Value) (mg mb : Str → Option Value) (b : Array UInt8) (t : Tok) (ks : List Int) (hb : KBw.bInts b = ks) (hl : ks.length ≤ 1000) : Ct w mean mg mb 197 1 [.bytes b t] (.bool (keyOk ks)) := by
  w_top off
  unfold Ct
  k_fill
  intro dp un gd cn cs a ccd cl outer A₀ base h₀ L m news s Q E B F X N T hk hd hu hret
  refine wpAny_call ?_
  k_dflt (refine' enterW ?k1 ?k2 ?k3 ?k4 ?k5 ?kA ?kF ?kK ?k6 ?k7 ?k8 ?k9 ?kB ?_ ?c2 ?c3 ?c4 ?c5; (case kA => exact rfl); (case kF => exact rfl); (case kK => assumption); (case k1 => k_asm); (case k2 => k_asm); (case k3 => k_asm); (case k4 => k_asm); (case k5 => k_asm); (case k6 => k_is); (case k7 => k_is); (case k8 => ktr_room); (case k9 => first | exact BindsTo.of_eq rfl | exact binds_K (by k_in) rfl (by k_is) rfl rfl rfl); (case c5 => decide); (case kB => exact locs rfl); (case c2 => exact rfl); (case c3 => exact rfl); (case c4 => exact rfl); k_whole; intro g' L' h' FG' NG' F' N' B' X' T'; (try dsimp only); (try k_fold))
  k_steps
  all_goals ((refine endV hret (by k_asm) ?_; clear hret); unfold keyOk; refine dBool ?_)
  all_goals (rw [Bool.eq_iff_iff]; simp only [Bool.false_eq_true, false_iff, decide_eq_true_eq, decide_eq_false_iff_not, Bool.or_eq_true, Bool.or_eq_false_iff, Bool.and_eq_true, Bool.and_eq_false_imp, Bool.false_or, Bool.or_false, Int.reduceToNat, Int.toNat_zero, Int.toNat_one, List.any_cons, List.any_nil, beq_iff_eq, beq_eq_false_iff_ne, ne_eq] at *; omega)
def s136 (ks : List Int) (op : Int) : Bool :=
  if ks.length = 0 then op == 0
  else if ks.length = 1 ∧ ((1 ≤ ks.getD 0 0 ∧ ks.getD 0 0 ≤ 16) ∨ ks.getD 0 0 = 129) then false
  else if ks.length ≤ 75 then op == ks.length
  else if ks.length ≤ 255 then op == 76
  else op == 77
theorem t136 (w : World) (mean : ExcName → Option Value) (mg mb : Str → Option Value) (b : Array UInt8) (t : Tok) (ks : List Int) (hb : KBw.bInts b = ks) (hl : ks.length ≤ 1000) (op : Int) (t2 : Tok) : Ct w mean mg mb 136 1 [.bytes b t, .int op t2] (.bool (s136 ks op)) := by
  w_top off
  unfold Ct
  k_fill
  intro dp un gd cn cs a ccd cl outer A₀ base h₀ L m news s Q E B F X N T hk hd hu hret
  refine wpAny_call ?_
  k_dflt (refine' enterW ?k1 ?k2 ?k3 ?k4 ?k5 ?kA ?kF ?kK ?k6 ?k7 ?k8 ?k9 ?kB ?_ ?c2 ?c3 ?c4 ?c5; (case kA => exact rfl); (case kF => exact rfl); (case kK => assumption); (case k1 => k_asm); (case k2 => k_asm); (case k3 => k_asm); (case k4 => k_asm); (case k5 => k_asm); (case k6 => k_is); (case k7 => k_is); (case k8 => ktr_room); (case k9 => first | exact BindsTo.of_eq rfl | exact binds_K (by k_in) rfl (by k_is) rfl rfl rfl); (case c5 => decide); (case kB => exact locs rfl); (case c2 => exact rfl); (case c3 => exact rfl); (case c4 => exact rfl); k_whole; intro g' L' h' FG' NG' F' N' B' X' T'; (try dsimp only); (try k_fold))
  k_steps
  all_goals ((refine endV hret (by k_asm) ?_; clear hret); unfold s136; refine dBool ?_)
  all_goals (repeat' split) <;> first | rfl | (exfalso; simp only [Bool.false_eq_true, false_iff, decide_eq_true_eq, decide_eq_false_iff_not, Bool.or_eq_true, Bool.or_eq_false_iff, Bool.and_eq_true, Bool.and_eq_false_imp, Bool.false_or, Bool.or_false, Int.reduceToNat, Int.toNat_zero, Int.toNat_one, List.any_cons, List.any_nil, beq_iff_eq, beq_eq_false_iff_ne, ne_eq] at *; omega) | (rw [Bool.eq_iff_iff]; simp only [Bool.false_eq_true, false_iff, decide_eq_true_eq, decide_eq_false_iff_not, Bool.or_eq_true, Bool.or_eq_false_iff, Bool.and_eq_true, Bool.and_eq_false_imp, Bool.false_or, Bool.or_false, Int.reduceToNat, Int.toNat_zero, Int.toNat_one, List.any_cons, List.any_nil, beq_iff_eq, beq_eq_false_iff_ne, ne_eq] at *; omega)
def lawNumber (op : Int) (ks : List Int) : Option Int :=
  if 81 ≤ op ∧ op ≤ 96 then some (op - 80)
  else if op = 1 ∧ ks.length = 1 ∧ 17 ≤ ks.getD 0 0 ∧ ks.getD 0 0 ≤ 127 then some (ks.getD 0 0)
  else none
theorem t190 (w : World) (mean : ExcName → Option Value) (mg mb : Str → Option Value) (b : Array UInt8) (t : Tok) (ks : List Int) (hb : KBw.bInts b = ks) (hl : ks.length ≤ 1000) (op : Int) (t2 : Tok) (h3 : 0 ≤ op) (h4 : op < 256) : Ct w mean mg mb 190 1 [.int op t2, .bytes b t] (optInt (lawNumber op ks)) := by
  w_top off
  unfold Ct
  k_fill
  intro dp un gd cn cs a ccd cl outer A₀ base h₀ L m news s Q E B F X N T hk hd hu hret
  refine wpAny_call ?_
  k_dflt (refine' enterW ?k1 ?k2 ?k3 ?k4 ?k5 ?kA ?kF ?kK ?k6 ?k7 ?k8 ?k9 ?kB ?_ ?c2 ?c3 ?c4 ?c5; (case kA => exact rfl); (case kF => exact rfl); (case kK => assumption); (case k1 => k_asm); (case k2 => k_asm); (case k3 => k_asm); (case k4 => k_asm); (case k5 => k_asm); (case k6 => k_is); (case k7 => k_is); (case k8 => ktr_room); (case k9 => first | exact BindsTo.of_eq rfl | exact binds_K (by k_in) rfl (by k_is) rfl rfl rfl); (case c5 => decide); (case kB => exact locs rfl); (case c2 => exact rfl); (case c3 => exact rfl); (case c4 => exact rfl); k_whole; intro g' L' h' FG' NG' F' N' B' X' T'; (try dsimp only); (try k_fold))
  k_steps
  all_goals ((refine endV hret (by k_asm) ?_; clear hret); unfold lawNumber; (repeat' split))
  all_goals (unfold optInt; try simp only [Bool.false_eq_true, false_iff, decide_eq_true_eq, decide_eq_false_iff_not, Bool.or_eq_true, Bool.or_eq_false_iff, Bool.and_eq_true, Bool.and_eq_false_imp, Bool.false_or, Bool.or_false, Int.reduceToNat, Int.toNat_zero, Int.toNat_one, List.any_cons, List.any_nil, beq_iff_eq, beq_eq_false_iff_ne, ne_eq] at *; first | (exfalso; omega) | exact .none | exact dInt rfl)
end Mine
end
section
open PySem PySem.W PyProof.Rows PySem.Calls PySem.Spec
set_option Elab.async false
set_option linter.all false
set_option maxRecDepth 100000
set_option maxHeartbeats 8000000
namespace Mine
local macro_rules | `(tactic| walk_at "execs cons") => `(tactic| (k_here; (with_reducible refine execsC fun tk => ?_); (try dsimp only)))
local macro_rules | `(tactic| walk_at "execs nil") => `(tactic| (k_here; (with_reducible refine execsN fun tk => ?_); (try dsimp only)))
section
variable {prog : Program} {w : World} {M : Model} {A : Around} {E : Value → Shared → Prop} {s : Shared} {h₀ : Heap} {L : Addr} {m : Str → Option Value} {news : List (Addr × Obj)}
theorem fbGrown {n k : Nat} {Q : Value → Shared → Prop} (hn : n < 2 ^ k) (hk : k ≤ 134217728) (h : Q (.int (n : Int) s.toks) { s with toks := s.toks + 1 }) : wpAny M A (mkIntGrown (n : Int)) Q E s := by
  unfold mkIntGrown
  have hb : bitsLine = 134217728 := by first | rfl | decide
  have hl : ¬ ((n : Int).natAbs.log2 ≥ bitsLine) := by
    rw [Int.natAbs_natCast, hb]
    by_cases hz : n = 0
    · subst hz
      decide
    · have h1 := (Nat.log2_lt hz).mpr hn
      omega
  rw [if_neg hl]
  exact wpAny_mkInt h
/-- the keywords of the text's one call -/
abbrev fbKw (u : Tok) : List (Str × Value) := [(Str.ofString "byteorder", .str (Str.ofString "little") u), (Str.ofString "signed", .bool false)]
theorem fbTree {b : Array UInt8} {t u : Tok} {P : Fin → Shared → Prop} (hl : b.size ≤ 100000) (h : P (.done (.ret (.int (KFB.value (KBw.bInts b).reverse) s.toks))) { s with toks := s.toks + 1 }) :
    wpAny M A (Builtin.«int.from_bytes» ⟨[.type "int", .bytes b t], fbKw u⟩) P E s := by
  have hv : ((b.toList.reverse.foldl (fun (acc : Nat) (b : UInt8) => acc * 256 + b.toNat) 0 : Nat) : Int) = KFB.value (KBw.bInts b).reverse := by
    rw [KFB.fold_cast, List.map_reverse]
    rfl
  have hn : b.toList.reverse.foldl (fun (acc : Nat) (b : UInt8) => acc * 256 + b.toNat) 0 < 2 ^ (8 * b.size) := by
    have h1 := KFB.fold_lt b.toList.reverse 0
    rw [Nat.zero_add, Nat.one_mul, List.length_reverse, Array.length_toList] at h1
    rwa [Nat.pow_mul]
  unfold Builtin.«int.from_bytes»
  refine wpAny_bind (wpAny_of_eq (a := true) KFB.type_int ?_)
  refine KFB.if_not rfl ?_
  refine wpAny_bind (wpAny_of_eq (a := true) F.conv_sub_int ?_)
  refine KFB.if_not rfl ?_
  refine wpAny_bind (wpAny_of_eq (a := [some (.bytes b t), some (.str (PySem.Str.ofString "little") u), some (.bool false)]) (by kernel_rfl) ?_)
  refine wpAny_bind (wpAny_of_eq (a := PySem.Str.ofString "little") (by kernel_rfl) ?_)
  refine wpAny_bind (wpAny_of_eq (a := false) (by first | rfl | kernel_rfl) ?_)
  refine wpAny_bind (wpAny_of_eq (a := true) (by kernel_rfl) ?_)
  refine wpAny_bind (wpAny_of_eq (a := b) rfl ?_)
  show wpAny _ _ (mkIntGrown (b.toList.reverse.foldl (fun (acc : Int) (b : UInt8) => acc * 256 + (b.toNat : Int)) ((0 : Nat) : Int)) >>= fun v => _) _ _ _
  rw [KFB.foldI_eq]
  refine wpAny_bind (fbGrown hn (by omega) ?_)
  rw [hv]
  refine KFB.if_so (by decide +kernel) ?_
  exact wpAny_bind (wpAny_pure (wpAny_pure h))
theorem fbCheck {b : Array UInt8} {t u : Tok} : checkBoundCall "int.from_bytes" ⟨[.type "int", .bytes b t], fbKw u⟩ = pure () := by first | kernel_rfl | rfl
theorem fbCall {x : Addr} {b : Array UInt8} {t u : Tok} {ks : List Int} {Q : Value → Shared → Prop} (N : News h₀ L s.heap news) (hm : (x, KFB.bound) ∈ news) (hb : KBw.bInts b = ks) (hl : ks.length ≤ 1000)
    (h : ∀ t' k, Q (.int (KFB.value ks.reverse) t') { s with toks := k }) : wpAny (model prog w) A (call (.ref x) [.bytes b t] (fbKw u)) Q E s := by
  subst hb
  rw [KBw.ints_length] at hl
  refine wpAny_call (codeAny_of_tree ?_)
  show wpAny _ A.in1 (callAny (.ref x) ⟨[.bytes b t], fbKw u⟩) _ _ s
  simp only [callAny]
  refine wpAny_bind (wpAny_load (N.get hm) ?_)
  simp only [KFB.bound]
  refine KFB.if_so (by decide) ?_
  refine wpAny_bind (wpAny_of_eq (a := ()) fbCheck ?_)
  refine wpAny_bind (wpAny_pure (wpAny_pure ?_))
  exact ⟨KFB.quiet_fb, codeAny_builtin KFB.entry_fb (fbTree (by omega) (h _ _))⟩
theorem fbKeeper {x : Addr} (h : Heap) (ho : KFB.StandsAt x h) : ∃ k, (k = Keeper.frame ∨ k = Keeper.machine ∨ k = Keeper.boundFrame) ∧ Looks M h (keeperOf (.ref x)) k := by
  refine ⟨.machine, .inr (.inl rfl), ?_⟩
  unfold keeperOf
  exact (Looks.ld (part := none) ho).andThen (Looks.of_pure rfl)
theorem fbCallWith {pos : Pos} {u : Addr} {first : List Value} {env : Env} {e : Expr} {rest : List Expr} {kws : List Keyword} {Q : Value → Shared → Prop} (_N : News h₀ L s.heap news) (_hm : (u, KFB.bound) ∈ news)
    (hall : (backToKw pos (keywordEach kws env)).all (·.1.isSome) = true)
    (h : wpAny M A (spliced (backTo pos (starEach (e :: rest) env))) (fun vs s₁ => wpAny M A (evalAll ((backToKw pos (keywordEach kws env)).map (·.2)))
      (fun ks s₂ => KFB.StandsAt u s₂.heap ∧ wpAny M A (call (.ref u) (first ++ vs) (((backToKw pos (keywordEach kws env)).filterMap (·.1)).zip ks)) Q E s₂) E s₁) E s)
    (hplain : ((backTo pos (starEach (e :: rest) env)).any (·.1) || (backToKw pos (keywordEach kws env)).any (·.1.isNone)) = false := by rfl) (he : starEach (e :: rest) env = (false, eval e env) :: starEach rest env := by rfl) :
    wpAny M A (callWith pos (.ref u) first (backTo pos (starEach (e :: rest) env)) (backToKw pos (keywordEach kws env))) Q E s :=
  callWith_of hplain (fun h ho => fbKeeper h ho) (evalArgs_kw2 hall h he)
end
end Mine
end
section
local macro_rules | `(tactic| walk_at "zzNone") => `(tactic| skip)
open PySem PySem.W PyProof.Rows PySem.Calls PySem.Spec
set_option Elab.async false
set_option linter.all false
set_option maxRecDepth 100000
set_option maxHeartbeats 8000000
namespace Mine
local macro_rules | `(tactic| walk_at "execs cons") => `(tactic| (k_here; (with_reducible refine execsC fun tk => ?_); (try dsimp only)))
local macro_rules | `(tactic| walk_at "execs nil") => `(tactic| (k_here; (with_reducible refine execsN fun tk => ?_); (try dsimp only)))
/-! slices -/
theorem clip_pos {n : Nat} {i : Int} (h : 0 ≤ i) : clipAt n i = min i.toNat n := by
  have := clipAt_nat n i.toNat
  rwa [Int.toNat_of_nonneg h] at this
/-- ks[i:j] for i, j that are not negative -/
def sl (ks : List Int) (i j : Int) : List Int := (ks.drop i.toNat).take (j.toNat - i.toNat)
theorem sl_clip (ks : List Int) {i j : Int} (hi : 0 ≤ i) (hj : 0 ≤ j) : List.take (clipAt ks.length j - clipAt ks.length i) (List.drop (clipAt ks.length i) ks) = sl ks i j := by
  rw [clip_pos hi, clip_pos hj]
  unfold sl
  by_cases h1 : i.toNat ≤ ks.length
  · rw [Nat.min_eq_left h1]
    by_cases h2 : j.toNat ≤ ks.length
    · rw [Nat.min_eq_left h2]
    · rw [Nat.min_eq_right (by omega), List.take_of_length_le (by simp), List.take_of_length_le (by rw [List.length_drop]; omega)]
  · rw [Nat.min_eq_right (show ks.length ≤ i.toNat by omega), List.drop_of_length_le (Nat.le_refl _), List.drop_of_length_le (by omega)]
    simp
theorem sl_clip1 (ks : List Int) {i : Int} (hi : 0 ≤ i) : List.take (ks.length - clipAt ks.length i) (List.drop (clipAt ks.length i) ks) = ks.drop i.toNat := by
  rw [clip_pos hi]
  by_cases h1 : i.toNat ≤ ks.length
  · rw [Nat.min_eq_left h1, List.take_of_length_le (by simp)]
  · rw [Nat.min_eq_right (by omega), List.drop_of_length_le (by omega), List.drop_of_length_le (by omega)]
    simp
theorem sl_clip0 (ks : List Int) {j : Int} (hj : 0 ≤ j) : List.take (clipAt ks.length j) ks = ks.take j.toNat := by
  rw [clip_pos hj]
  by_cases h2 : j.toNat ≤ ks.length
  · rw [Nat.min_eq_left h2]
  · rw [Nat.min_eq_right (by omega), List.take_of_length_le (by omega), List.take_of_length_le (by omega)]
theorem sl_len (ks : List Int) (i j : Int) : (sl ks i j).length = min (j.toNat - i.toNat) (ks.length - i.toNat) := by
  unfold sl
  rw [List.length_take, List.length_drop]
theorem bytes_beq {b : Array UInt8} {ks : List Int} (h : KBw.bInts b = ks) (l : List UInt8) : (b.toList == l) = decide (ks = l.map fun c => (c.toNat : Int)) := by
  rw [Bool.eq_iff_iff, beq_iff_eq, decide_eq_true_eq, ← h]
  constructor
  · intro e; rw [← e]; rfl
  · intro e
    have q : byteArr (KBw.bInts b) = byteArr (KBw.bInts l.toArray) := by rw [e]; rfl
    rw [byteArr_bInts, byteArr_bInts] at q
    rw [q]
theorem bytes_lit {l : List UInt8} : KBw.bInts l.toArray = l.map fun c => (c.toNat : Int) := rfl

def s108 (ks : List Int) : Bool := decide (ks = [81, 2, 78, 115])
theorem t108 (w : World) (mean : ExcName → Option Value) (mg mb : Str → Option Value) (b : Array UInt8) (t : Tok) (ks : List Int) (hb : KBw.bInts b = ks) (hl : ks.length ≤ 1000) : Ct w mean mg mb 108 1 [.bytes b t] (.bool (s108 ks)) := by
  w_top off
  unfold Ct
  k_fill
  intro dp un gd cn cs a ccd cl outer A₀ base h₀ L m news s Q E B F X N T hk hd hu hret
  refine wpAny_call ?_
  k_dflt (refine' enterW ?k1 ?k2 ?k3 ?k4 ?k5 ?kA ?kF ?kK ?k6 ?k7 ?k8 ?k9 ?kB ?_ ?c2 ?c3 ?c4 ?c5; (case kA => exact rfl); (case kF => exact rfl); (case kK => assumption); (case k1 => k_asm); (case k2 => k_asm); (case k3 => k_asm); (case k4 => k_asm); (case k5 => k_asm); (case k6 => k_is); (case k7 => k_is); (case k8 => ktr_room); (case k9 => first | exact BindsTo.of_eq rfl | exact binds_K (by k_in) rfl (by k_is) rfl rfl rfl); (case c5 => decide); (case kB => exact locs rfl); (case c2 => exact rfl); (case c3 => exact rfl); (case c4 => exact rfl); k_whole; intro g' L' h' FG' NG' F' N' B' X' T'; (try dsimp only); (try k_fold))
  k_steps
  all_goals ((refine endV hret (by k_asm) ?_; clear hret); refine dBool ?_)
  all_goals (rw [bytes_beq hb]; rfl)

def wit (ks : List Int) : Option (Int × List Int) :=
  if 4 ≤ ks.length ∧ ks.length ≤ 42 ∧ (ks.getD 0 0 = 0 ∨ (81 ≤ ks.getD 0 0 ∧ ks.getD 0 0 ≤ 96)) ∧ ks.getD 1 0 + 2 = ks.length then some (if ks.getD 0 0 = 0 then 0 else ks.getD 0 0 - 80, ks.drop 2) else none
noncomputable def datWit : Option (Int × List Int) → Dat
  | none => .none
  | some (v, p) => .tuple [.int v, BY p]
theorem t115 (w : World) (mean : ExcName → Option Value) (mg mb : Str → Option Value) (b : Array UInt8) (t : Tok) (ks : List Int) (hb : KBw.bInts b = ks) (hl : ks.length ≤ 1000) : Ct w mean mg mb 115 1 [.bytes b t] (datWit (wit ks)) := by
  w_top off
  unfold Ct
  k_fill
  intro dp un gd cn cs a ccd cl outer A₀ base h₀ L m news s Q E B F X N T hk hd hu hret
  refine wpAny_call ?_
  k_dflt (refine' enterW ?k1 ?k2 ?k3 ?k4 ?k5 ?kA ?kF ?kK ?k6 ?k7 ?k8 ?k9 ?kB ?_ ?c2 ?c3 ?c4 ?c5; (case kA => exact rfl); (case kF => exact rfl); (case kK => assumption); (case k1 => k_asm); (case k2 => k_asm); (case k3 => k_asm); (case k4 => k_asm); (case k5 => k_asm); (case k6 => k_is); (case k7 => k_is); (case k8 => ktr_room); (case k9 => first | exact BindsTo.of_eq rfl | exact binds_K (by k_in) rfl (by k_is) rfl rfl rfl); (case c5 => decide); (case kB => exact locs rfl); (case c2 => exact rfl); (case c3 => exact rfl); (case c4 => exact rfl); k_whole; intro g' L' h' FG' NG' F' N' B' X' T'; (try dsimp only); (try k_fold))
  k_steps
  all_goals (try simp only [Int.reduceToNat, Int.toNat_zero, Int.toNat_one, ne_eq] at *)
  all_goals first
    | ((refine endV hret (by k_asm) ?_; clear hret); rw [wit, if_neg (by omega)]; exact .none)
    | (exfalso; omega)
    | ((refine endT hret [(_, _)] (by k_asm) NG' (by k_asm) (by k_asm) (fun p hp => by rw [List.mem_singleton.mp hp]; exact .head _) ?_; clear hret)
       rw [wit, if_pos (by omega)]
       first | rw [if_pos (by assumption)] | rw [if_neg (by assumption)]
       rw [sl_clip1 _ (by decide)] at *
       exact DatIn.tuple (.head _) (.cons (dInt rfl) (.cons (dBytes (by assumption)) .nil)))

def s157 (ks : List Int) : Option (List Int) :=
  if ks.length = 25 ∧ ks.take 3 = [118, 169, 20] ∧ ks.drop 23 = [136, 172] then some ((ks.drop 3).take 20) else none
theorem t157 (w : World) (mean : ExcName → Option Value) (mg mb : Str → Option Value) (b : Array UInt8) (t : Tok) (ks : List Int) (hb : KBw.bInts b = ks) (hl : ks.length ≤ 1000) : Ct w mean mg mb 157 1 [.bytes b t] (optBytes (s157 ks)) := by
  w_top off
  unfold Ct
  k_fill
  intro dp un gd cn cs a ccd cl outer A₀ base h₀ L m news s Q E B F X N T hk hd hu hret
  refine wpAny_call ?_
  k_dflt (refine' enterW ?k1 ?k2 ?k3 ?k4 ?k5 ?kA ?kF ?kK ?k6 ?k7 ?k8 ?k9 ?kB ?_ ?c2 ?c3 ?c4 ?c5; (case kA => exact rfl); (case kF => exact rfl); (case kK => assumption); (case k1 => k_asm); (case k2 => k_asm); (case k3 => k_asm); (case k4 => k_asm); (case k5 => k_asm); (case k6 => k_is); (case k7 => k_is); (case k8 => ktr_room); (case k9 => first | exact BindsTo.of_eq rfl | exact binds_K (by k_in) rfl (by k_is) rfl rfl rfl); (case c5 => decide); (case kB => exact locs rfl); (case c2 => exact rfl); (case c3 => exact rfl); (case c4 => exact rfl); k_whole; intro g' L' h' FG' NG' F' N' B' X' T'; (try dsimp only); (try k_fold))
  k_steps
  all_goals ((refine endV hret (by k_asm) ?_; clear hret))
  all_goals (try rw [sl_clip0 _ (by decide)] at *)
  all_goals (try rw [sl_clip1 _ (by decide)] at *)
  all_goals (try rw [sl_clip _ (by decide) (by decide)] at *)
  all_goals (try rw [bytes_beq (by assumption)] at *)
  all_goals first
    | (rw [s157, if_pos ⟨by omega, of_decide_eq_true (by assumption), of_decide_eq_true (by assumption)⟩]; exact dBytes (by assumption))
    | (rw [s157, if_neg (by
        rintro ⟨h1, h2, h3⟩
        first | omega | exact absurd h2 (of_decide_eq_false (by assumption)) | exact absurd h3 (of_decide_eq_false (by assumption)))]; exact .none)

theorem toNat_lo {i : Int} (h : 0 ≤ i) : ((i.toNat : Nat) : Int) = i := Int.toNat_of_nonneg h
/-- the width of the length's own octets -/
def wid (c : Int) : Int := 2 ^ (c - 76).toNat
theorem wid_pos (c : Int) : 0 < wid c := kbt_pos _
def opData (ks : List Int) (st c e : Int) : List Int :=
  if 0 < c ∧ c ≤ 75 then sl ks (st + 1) e else if 76 ≤ c ∧ c ≤ 78 then sl ks (st + 1 + wid c) e else []
theorem t122 (w : World) (mean : ExcName → Option Value) (mg mb : Str → Option Value) (b : Array UInt8) (t : Tok) (ks : List Int) (hb : KBw.bInts b = ks) (hl : ks.length ≤ 1000) (st op en : Int) (t1 t2 t3 : Tok) (h1 : 0 ≤ st) (h5 : 0 ≤ en) :
    Ct w mean mg mb 122 1 [.bytes b t, .int st t1, .int op t2, .int en t3] (BY (opData ks st op en)) := by
  w_top off
  unfold Ct
  k_fill
  intro dp un gd cn cs a ccd cl outer A₀ base h₀ L m news s Q E B F X N T hk hd hu hret
  refine wpAny_call ?_
  k_dflt (refine' enterW ?k1 ?k2 ?k3 ?k4 ?k5 ?kA ?kF ?kK ?k6 ?k7 ?k8 ?k9 ?kB ?_ ?c2 ?c3 ?c4 ?c5; (case kA => exact rfl); (case kF => exact rfl); (case kK => assumption); (case k1 => k_asm); (case k2 => k_asm); (case k3 => k_asm); (case k4 => k_asm); (case k5 => k_asm); (case k6 => k_is); (case k7 => k_is); (case k8 => ktr_room); (case k9 => first | exact BindsTo.of_eq rfl | exact binds_K (by k_in) rfl (by k_is) rfl rfl rfl); (case c5 => decide); (case kB => exact locs rfl); (case c2 => exact rfl); (case c3 => exact rfl); (case c4 => exact rfl); k_whole; intro g' L' h' FG' NG' F' N' B' X' T'; (try dsimp only); (try k_fold))
  k_steps
  all_goals ((refine endV hret (by k_asm) ?_; clear hret))
  all_goals (unfold opData)
  all_goals first
    | (rw [if_pos (by omega)]; rw [sl_clip _ (by omega) (by omega)] at *; exact dBytes (by assumption))
    | (rw [if_neg (by omega), if_neg (by omega)]; exact dBytes rfl)
    | (rw [if_neg (by omega), if_pos (by omega)]; unfold wid; have hw := wid_pos op; unfold wid at hw; rw [sl_clip _ (by omega) (by omega)] at *; exact dBytes (by assumption))

/-- the end of the op that begins at st; none where it is cut short -/
def opEnd (ks : List Int) (st : Int) : Option Int :=
  if (ks.length : Int) ≤ st then none
  else if 0 < ks.getD st.toNat 0 ∧ ks.getD st.toNat 0 ≤ 75 then (if st + 1 + ks.getD st.toNat 0 ≤ ks.length then some (st + 1 + ks.getD st.toNat 0) else none)
  else if 76 ≤ ks.getD st.toNat 0 ∧ ks.getD st.toNat 0 ≤ 78 then
    if st + 1 + wid (ks.getD st.toNat 0) ≤ ks.length then
      if st + 1 + wid (ks.getD st.toNat 0) + KFB.value (sl ks (st + 1) (st + 1 + wid (ks.getD st.toNat 0))).reverse ≤ ks.length then some (st + 1 + wid (ks.getD st.toNat 0) + KFB.value (sl ks (st + 1) (st + 1 + wid (ks.getD st.toNat 0))).reverse) else none
    else none
  else some (st + 1)
noncomputable def datOp (ks : List Int) (st : Int) : Option Int → Dat
  | none => .none
  | some e => .tuple [.int (ks.getD st.toNat 0), .int e]
theorem fb_size {ks : List Int} {st op : Int} (h0 : 0 ≤ st) (h : op ≤ 78) : (List.take (clipAt ks.length (st + 1 + 2 ^ (op - 76).toNat) - clipAt ks.length (st + 1)) (List.drop (clipAt ks.length (st + 1)) ks)).length ≤ 8 := by
  have hw := wid_pos op
  unfold wid at hw
  rw [sl_clip _ (by omega) (by omega), sl_len]
  have h3 : (op - 76).toNat = 0 ∨ (op - 76).toNat = 1 ∨ (op - 76).toNat = 2 := by omega
  rcases h3 with e | e | e <;> rw [e] <;> omega
local macro_rules | `(tactic| walk_at "call ref") => `(tactic| (k_here; (with_reducible show wpAny _ _ (call (Value.ref _) [Value.bytes _ _, Value.str _ _]) _ _ _); kfb_any; k_dflt (refine KFB.call_little (by k_asm) (by k_mem) (by assumption) (fb_size (by omega) (by omega)) ?_); intro _ _))
theorem t21 (w : World) (mean : ExcName → Option Value) (mg mb : Str → Option Value) (b : Array UInt8) (t : Tok) (ks : List Int) (hb : KBw.bInts b = ks) (hl : ks.length ≤ 1000) (st : Int) (t1 : Tok) (h1 : 0 ≤ st) : Ct w mean mg mb 21 1 [.bytes b t, .int st t1] (datOp ks st (opEnd ks st)) := by
  w_top off
  unfold Ct
  k_fill
  intro dp un gd cn cs a ccd cl outer A₀ base h₀ L m news s Q E B F X N T hk hd hu hret
  refine wpAny_call ?_
  k_dflt (refine' enterW ?k1 ?k2 ?k3 ?k4 ?k5 ?kA ?kF ?kK ?k6 ?k7 ?k8 ?k9 ?kB ?_ ?c2 ?c3 ?c4 ?c5; (case kA => exact rfl); (case kF => exact rfl); (case kK => assumption); (case k1 => k_asm); (case k2 => k_asm); (case k3 => k_asm); (case k4 => k_asm); (case k5 => k_asm); (case k6 => k_is); (case k7 => k_is); (case k8 => ktr_room); (case k9 => first | exact BindsTo.of_eq rfl | exact binds_K (by k_in) rfl (by k_is) rfl rfl rfl); (case c5 => decide); (case kB => exact locs rfl); (case c2 => exact rfl); (case c3 => exact rfl); (case c4 => exact rfl); k_whole; intro g' L' h' FG' NG' F' N' B' X' T'; (try dsimp only); (try k_fold))
  k_steps
  all_goals (have hw := wid_pos (ks.getD st.toNat 0); unfold wid at hw; (try rw [sl_clip _ (by omega) (by omega)] at *); unfold opEnd at hret; unfold wid at hret)
  all_goals (repeat (first | rw [if_pos (by omega)] at hret | rw [if_neg (by omega)] at hret))
  all_goals first
    | ((refine endV hret (by k_asm) ?_; clear hret); exact DatIn.none)
    | ((refine endT hret [(_, _)] (by k_asm) NG' (by k_asm) (by k_asm) (fun p hp => by rw [List.mem_singleton.mp hp]; exact .head _) ?_; clear hret); exact DatIn.tuple (.head _) (.cons (dInt rfl) (.cons (dInt rfl) .nil)))
end Mine
end
section
local macro_rules | `(tactic| walk_at "zzNone") => `(tactic| skip)
open PySem PySem.W PyProof.Rows PySem.Calls PySem.Spec
set_option Elab.async false
set_option linter.all false
set_option maxRecDepth 100000
set_option maxHeartbeats 8000000
namespace Mine
local macro_rules | `(tactic| walk_at "execs cons") => `(tactic| (k_here; (with_reducible refine execsC fun tk => ?_); (try dsimp only)))
local macro_rules | `(tactic| walk_at "execs nil") => `(tactic| (k_here; (with_reducible refine execsN fun tk => ?_); (try dsimp only)))
section
local macro_rules | `(tactic| walk_at "callWith ref") => `(tactic| (k_here; kfb_any; k_dflt (refine' fbCallWith ?N ?M ?all ?_; (case N => k_asm); (case M => k_mem); (case all => exact rfl); k_whole)))
local macro_rules | `(tactic| walk_at "call ref") => `(tactic| (k_here; (with_reducible show wpAny _ _ (call (Value.ref _) [Value.bytes _ _] _) _ _ _); kfb_any; k_dflt (refine fbCall (by k_asm) (by k_mem) (by kba_ints2) (by kba_size) ?_); intro _ _))
def decodeNum (ks : List Int) : Int :=
  if ks.length = 0 then 0
  else if 128 ≤ ks.getD (-1 + (ks.length : Int)).toNat 0 then Builtin.bitAnd (KFB.value ks.reverse) ((2 ^ ((ks.length : Int) * 8).toNat - 1 : Int).fdiv (2 ^ Int.toNat 1)) * -1
  else KFB.value ks.reverse
theorem t87 (w : World) (mean : ExcName → Option Value) (mg mb : Str → Option Value) (b : Array UInt8) (t : Tok) (ks : List Int) (hb : KBw.bInts b = ks) (hl : ks.length ≤ 1000) : Ct w mean mg mb 87 1 [.bytes b t] (.int (decodeNum ks)) := by
  w_top off
  unfold Ct
  k_fill
  intro dp un gd cn cs a ccd cl outer A₀ base h₀ L m news s Q E B F X N T hk hd hu hret
  refine wpAny_call ?_
  k_dflt (refine' enterW ?k1 ?k2 ?k3 ?k4 ?k5 ?kA ?kF ?kK ?k6 ?k7 ?k8 ?k9 ?kB ?_ ?c2 ?c3 ?c4 ?c5; (case kA => exact rfl); (case kF => exact rfl); (case kK => assumption); (case k1 => k_asm); (case k2 => k_asm); (case k3 => k_asm); (case k4 => k_asm); (case k5 => k_asm); (case k6 => k_is); (case k7 => k_is); (case k8 => ktr_room); (case k9 => first | exact BindsTo.of_eq rfl | exact binds_K (by k_in) rfl (by k_is) rfl rfl rfl); (case c5 => decide); (case kB => exact locs rfl); (case c2 => exact rfl); (case c3 => exact rfl); (case c4 => exact rfl); k_whole; intro g' L' h' FG' NG' F' N' B' X' T'; (try dsimp only); (try k_fold))
  k_steps
  all_goals ((refine endV hret (by k_asm) ?_; clear hret); unfold decodeNum)
  all_goals (repeat (first | rw [if_pos (by omega)] | rw [if_neg (by omega)]))
  all_goals exact dInt rfl
end
local macro_rules | `(tactic| walk_at "call ref") => `(tactic| (k_here; (with_reducible show wpAny _ _ (call (Value.ref 94) [Value.bytes _ _]) _ _ _); k_dflt (refine' Ct.use (t94 _ _ _ _ _ _ _ ?hb ?hl) ?k1 ?k2 ?k3 ?k4 ?k5 ?kK ?kd ?ku ?_; (case hb => kba_ints2); (case hl => kba_size); (case k1 => k_asm); (case k2 => k_asm); (case k3 => k_asm); (case k4 => k_asm); (case k5 => k_asm); (case kK => first | exact rfl | assumption); (case kd => ktr_room); (case ku => ktr_units)); intro r9 tl9 h9 tk9 F9 N9 o9 d9; cases d9; replace N9 := newsR N9; clear o9; (try dsimp only); (try k_fold)))

local macro_rules | `(tactic| walk_at "call ref") => `(tactic| (k_here; (with_reducible show wpAny _ _ (call (Value.ref 136) [Value.bytes _ _, Value.int _ _]) _ _ _); k_dflt (refine' Ct.use (t136 _ _ _ _ _ _ _ ?hb ?hl _ _) ?k1 ?k2 ?k3 ?k4 ?k5 ?kK ?kd ?ku ?_; (case hb => kba_ints2); (case hl => kba_size); (case k1 => k_asm); (case k2 => k_asm); (case k3 => k_asm); (case k4 => k_asm); (case k5 => k_asm); (case kK => first | exact rfl | assumption); (case kd => ktr_room); (case ku => ktr_units)); intro r9 tl9 h9 tk9 F9 N9 o9 d9; cases d9; replace N9 := newsR N9; clear o9; (try dsimp only); (try k_fold)))

local macro_rules | `(tactic| walk_at "call ref") => `(tactic| (k_here; (with_reducible show wpAny _ _ (call (Value.ref 87) [Value.bytes _ _]) _ _ _); k_dflt (refine' Ct.use (t87 _ _ _ _ _ _ _ ?hb ?hl) ?k1 ?k2 ?k3 ?k4 ?k5 ?kK ?kd ?ku ?_; (case hb => kba_ints2); (case hl => kba_size); (case k1 => k_asm); (case k2 => k_asm); (case k3 => k_asm); (case k4 => k_asm); (case k5 => k_asm); (case kK => first | exact rfl | assumption); (case kd => ktr_room); (case ku => ktr_units)); intro r9 tl9 h9 tk9 F9 N9 o9 d9; cases d9; replace N9 := newsR N9; clear o9; (try dsimp only); (try k_fold)))

local macro_rules | `(tactic| walk_at "ItemsRest") => `(tactic| ((with_unfolding_all refine ItemsRest.val (fun h' tk' F' => ?_)); ktu_objs; (try k_fold)))
def s150 (ks : List Int) : Option (List Int) :=
  if ks.length = 67 ∧ ks.getD 0 0 = 65 ∧ ks.getD (-1 + (ks.length : Int)).toNat 0 = 172 then (if keyOk (sl ks 1 66) = true then some (sl ks 1 66) else none)
  else if ks.length = 35 ∧ ks.getD 0 0 = 33 ∧ ks.getD (-1 + (ks.length : Int)).toNat 0 = 172 then (if keyOk (sl ks 1 34) = true then some (sl ks 1 34) else none)
  else none
theorem t150 (w : World) (mean : ExcName → Option Value) (mg mb : Str → Option Value) (b : Array UInt8) (t : Tok) (ks : List Int) (hb : KBw.bInts b = ks) (hl : ks.length ≤ 1000) : Ct w mean mg mb 150 2 [.bytes b t] (optBytes (s150 ks)) := by
  w_top off
  unfold Ct
  k_fill
  intro dp un gd cn cs a ccd cl outer A₀ base h₀ L m news s Q E B F X N T hk hd hu hret
  refine wpAny_call ?_
  k_dflt (refine' enterW ?k1 ?k2 ?k3 ?k4 ?k5 ?kA ?kF ?kK ?k6 ?k7 ?k8 ?k9 ?kB ?_ ?c2 ?c3 ?c4 ?c5; (case kA => exact rfl); (case kF => exact rfl); (case kK => assumption); (case k1 => k_asm); (case k2 => k_asm); (case k3 => k_asm); (case k4 => k_asm); (case k5 => k_asm); (case k6 => k_is); (case k7 => k_is); (case k8 => ktr_room); (case k9 => first | exact BindsTo.of_eq rfl | exact binds_K (by k_in) rfl (by k_is) rfl rfl rfl); (case c5 => decide); (case kB => exact locs rfl); (case c2 => exact rfl); (case c3 => exact rfl); (case c4 => exact rfl); k_whole; intro g' L' h' FG' NG' F' N' B' X' T'; (try dsimp only); (try k_fold))
  k_steps
  all_goals (try rw [sl_clip _ (by decide) (by decide)] at *)
  all_goals (try simp only [Int.reduceToNat, Int.toNat_zero, Int.toNat_one, Int.reduceAdd, ne_eq] at *)
  all_goals first
    | (exfalso; omega)
    | ((refine endV hret (by k_asm) ?_; clear hret)
       unfold s150
       repeat (first | rw [if_pos (by omega)] | rw [if_neg (by omega)])
       first
       | exact .none
       | exact dBytes (by assumption)
       | (rw [if_pos (by assumption)]; exact dBytes (by assumption))
       | (rw [if_neg (by rw [Bool.not_eq_true]; assumption)]; exact .none))
/-! numbers: an op code or a push -/
theorem value_fold (l : List Int) : ∀ a : Int, l.foldl (fun a k => a * 256 + k) a = a * 256 ^ l.length + KFB.value l := by
  unfold KFB.value
  induction l with
  | nil => intro a; simp
  | cons k r ih =>
    intro a
    rw [List.foldl_cons, ih, List.foldl_cons, ih (0 * 256 + k), List.length_cons, Int.pow_succ]
    have e : a * (256 ^ r.length * 256) = a * 256 * 256 ^ r.length := by rw [Int.mul_comm (256 ^ r.length) 256, Int.mul_assoc]
    rw [e, Int.add_mul, Int.zero_mul, Int.zero_add]
    omega
theorem value_cons (k : Int) (r : List Int) : KFB.value (k :: r) = k * 256 ^ r.length + KFB.value r := by
  have h := value_fold r (0 * 256 + k)
  rw [Int.zero_mul, Int.zero_add] at h
  unfold KFB.value at h ⊢
  rw [List.foldl_cons, Int.zero_mul, Int.zero_add]
  exact h
theorem value_nonneg : ∀ l : List Int, (∀ k ∈ l, 0 ≤ k) → 0 ≤ KFB.value l
  | [], _ => by simp [KFB.value]
  | k :: r, h => by
    rw [value_cons]
    have h1 := value_nonneg r fun x hx => h x (.tail _ hx)
    have h2 := Int.mul_nonneg (h k (.head _)) (Int.le_of_lt (pow_pos_of (b := 256) (by decide) r.length))
    omega
theorem decode_two (r : List Int) (y x : Int) (h : ∀ k ∈ r ++ [y, x], 0 ≤ k ∧ k < 256) (hm : x ≠ 0 ∨ 128 ≤ y) : KFB.value (r ++ [y, x]).reverse > 20 := by
  have e : (r ++ [y, x]).reverse = x :: y :: r.reverse := by simp
  rw [e, value_cons, value_cons, List.length_cons, List.length_reverse]
  have hx := h x (by simp)
  have hy := h y (by simp)
  have h0 := value_nonneg r.reverse fun k hk => (h k (by simp at hk; simp [hk])).1
  have hp : (0 : Int) < 256 ^ r.length := pow_pos_of (b := 256) (by decide) r.length
  rw [Int.pow_succ]
  generalize (256 : Int) ^ r.length = P at *
  have h1 : 0 ≤ x * (P * 256) := Int.mul_nonneg hx.1 (by omega)
  have h2 : 0 ≤ y * P := Int.mul_nonneg hy.1 (by omega)
  rcases hm with hm | hm
  · have h3 : 0 ≤ (x - 1) * (P * 256) := Int.mul_nonneg (by omega) (by omega)
    rw [Int.sub_mul] at h3
    omega
  · have h3 : 0 ≤ (y - 128) * P := Int.mul_nonneg (by omega) (by omega)
    rw [Int.sub_mul] at h3
    omega
theorem split_two : ∀ ks : List Int, 2 ≤ ks.length → ∃ r y x, ks = r ++ [y, x]
  | [], h => absurd h (by decide)
  | [_], h => absurd h (by simp)
  | [y, x], _ => ⟨[], y, x, rfl⟩
  | a :: b :: c :: t, _ => by
    obtain ⟨r, y, x, e⟩ := split_two (b :: c :: t) (by simp)
    exact ⟨a :: r, y, x, by rw [e]; rfl⟩
theorem bitAnd_neg_le (a m : Int) (hm : 0 ≤ m) (ha : 0 ≤ a) : Builtin.bitAnd a m * -1 ≤ 0 := by
  rw [bitAnd_pp ha hm]
  have : (0 : Int) ≤ ((a.toNat &&& m.toNat : Nat) : Int) := Int.natCast_nonneg _
  omega
theorem getD_end2 (r : List Int) (y x : Int) : (r ++ [y, x]).getD (-1 + (((r ++ [y, x]).length : Nat) : Int)).toNat 0 = x ∧ (r ++ [y, x]).getD (-2 + (((r ++ [y, x]).length : Nat) : Int)).toNat 0 = y := by
  have e1 : (-1 + (((r ++ [y, x]).length : Nat) : Int)).toNat = r.length + 1 := by simp; omega
  have e2 : (-2 + (((r ++ [y, x]).length : Nat) : Int)).toNat = r.length := by simp; omega
  rw [e1, e2]
  simp [List.getD_eq_getElem?_getD]
/-- a number of two octets or more, written minimally, is never within 1 .. 20 -/
theorem decode_many {ks : List Int} (h2 : 2 ≤ ks.length) (hk : ∀ k ∈ ks, 0 ≤ k ∧ k < 256)
    (hm : Builtin.bitAnd (ks.getD (-1 + (ks.length : Int)).toNat 0) 127 ≠ 0 ∨ Builtin.bitAnd (ks.getD (-2 + (ks.length : Int)).toNat 0) 128 ≠ 0) : decodeNum ks ≤ 0 ∨ 20 < decodeNum ks := by
  obtain ⟨r, y, x, rfl⟩ := split_two ks h2
  obtain ⟨ex, ey⟩ := getD_end2 r y x
  have hx := hk x (by simp)
  have hy := hk y (by simp)
  unfold decodeNum
  rw [ex, ey] at hm
  rw [ex, if_neg (by simp)]
  by_cases hb : 128 ≤ x
  · rw [if_pos hb]
    refine .inl (bitAnd_neg_le _ _ ?_ (value_nonneg _ fun k hk' => (hk k (List.mem_reverse.mp hk')).1))
    have h3 := kbt_pos ((((r ++ [y, x]).length : Nat) : Int) * 8).toNat
    generalize (2 : Int) ^ ((((r ++ [y, x]).length : Nat) : Int) * 8).toNat = P at *
    exact Int.fdiv_nonneg (by omega) (by decide)
  · rw [if_neg hb]
    refine .inr (decode_two r y x hk ?_)
    rcases hm with hm | hm
    · left
      intro e
      rw [e] at hm
      exact hm (by decide)
    · right
      have h4 := kbt_bit y 7
      rw [show (2 : Int) ^ 7 = 128 by decide] at h4
      rw [h4] at hm
      omega
def numIn (op : Int) (ks : List Int) (lo : Int) : Option Int := if 81 ≤ op ∧ op ≤ 96 then (if lo ≤ op - 80 then some (op - 80) else none)
  else if op = 1 ∧ ks.length = 1 ∧ 17 ≤ ks.getD 0 0 ∧ lo ≤ ks.getD 0 0 ∧ ks.getD 0 0 ≤ 20 then some (ks.getD 0 0) else none
theorem decode_one {ks : List Int} (h1 : ks.length = 1) (hk : ∀ k ∈ ks, 0 ≤ k ∧ k < 256) : (128 ≤ ks.getD 0 0 ∧ decodeNum ks ≤ 0) ∨ (ks.getD 0 0 < 128 ∧ decodeNum ks = ks.getD 0 0) := by
  match ks, h1 with
  | [x], _ =>
    have hx := hk x (by simp)
    show (128 ≤ x ∧ decodeNum [x] ≤ 0) ∨ (x < 128 ∧ decodeNum [x] = x)
    unfold decodeNum
    rw [if_neg (by simp)]
    show (128 ≤ x ∧ (if 128 ≤ x then _ else _) ≤ (0 : Int)) ∨ (x < 128 ∧ (if 128 ≤ x then _ else _) = x)
    have hv : KFB.value [x].reverse = x := by simp [KFB.value]
    by_cases hb : 128 ≤ x
    · rw [if_pos hb]
      exact .inl ⟨hb, bitAnd_neg_le _ _ (by show (0 : Int) ≤ ((2 ^ ((1 : Int) * 8).toNat - 1 : Int)).fdiv (2 ^ Int.toNat 1); decide) (by rw [hv]; exact hx.1)⟩
    · rw [if_neg hb]
      exact .inr ⟨by omega, hv⟩
theorem numIn_push {ks : List Int} {op lo : Int} (hlo : 1 ≤ lo) (h81 : ¬ 81 ≤ op) (h0 : 0 < op) (hk : ∀ k ∈ ks, 0 ≤ k ∧ k < 256) (hs : s136 ks op = true)
    (hm : Builtin.bitAnd (ks.getD (-1 + (ks.length : Int)).toNat 0) 127 ≠ 0 ∨ (ks.length ≠ 1 ∧ Builtin.bitAnd (ks.getD (-2 + (ks.length : Int)).toNat 0) 128 ≠ 0)) :
    numIn op ks lo = if lo ≤ decodeNum ks ∧ decodeNum ks ≤ 20 then some (decodeNum ks) else none := by
  unfold s136 at hs
  unfold numIn
  rw [if_neg (by omega)]
  by_cases hl0 : ks.length = 0
  · rw [if_pos hl0] at hs
    simp at hs
    omega
  by_cases hl1 : ks.length = 1
  · rw [if_neg hl0] at hs
    by_cases hc : ks.length = 1 ∧ ((1 ≤ ks.getD 0 0 ∧ ks.getD 0 0 ≤ 16) ∨ ks.getD 0 0 = 129)
    · rw [if_pos hc] at hs
      cases hs
    · rw [if_neg hc, if_pos (by omega), beq_iff_eq] at hs
      have hd := decode_one hl1 hk
      have hm' : Builtin.bitAnd (ks.getD 0 0) 127 ≠ 0 := by
        rcases hm with hm | hm
        · rw [hl1] at hm; exact hm
        · exact absurd hl1 hm.1
      have hz : ks.getD 0 0 ≠ 0 := fun e => hm' (by rw [e]; decide)
      by_cases hg : lo ≤ decodeNum ks ∧ decodeNum ks ≤ 20
      · rw [if_pos hg, if_pos (by omega)]
        congr 1
        omega
      · rw [if_neg hg, if_neg (by omega)]
  · have hd := decode_many (ks := ks) (by omega) hk (hm.imp id And.right)
    rw [if_neg (by omega), if_neg (by omega)]
theorem numIn_none {ks : List Int} {op lo : Int} (hlo : 1 ≤ lo) (h81 : ¬ 81 ≤ op) (hm : Builtin.bitAnd (ks.getD (-1 + (ks.length : Int)).toNat 0) 127 = 0) (h1 : ks.length = 1) (hk : ∀ k ∈ ks, 0 ≤ k ∧ k < 256) : numIn op ks lo = none := by
  unfold numIn
  rw [if_neg (by omega), if_neg]
  rintro ⟨h2, h3, h4, h5, h6⟩
  rw [h1] at hm
  have h7 := kbt_mask (ks.getD 0 0) 7
  have h8 : Builtin.bitAnd (ks.getD 0 0) 127 = 0 := hm
  rw [show (2 : Int) ^ 7 - 1 = 127 by decide, h8, show (2 : Int) ^ 7 = 128 by decide] at h7
  omega
theorem numIn_min {ks : List Int} {op lo : Int} (h81 : ¬ 81 ≤ op) (hs : s136 ks op = false) : numIn op ks lo = none := by
  unfold numIn
  rw [if_neg (by omega), if_neg]
  rintro ⟨h2, h3, h4, h5, h6⟩
  unfold s136 at hs
  rw [if_neg (by omega), if_neg (by omega), if_pos (by omega), h2, h3] at hs
  cases hs
theorem min_nil {ks : List Int} {op : Int} (h0 : 0 < op) (h : ¬ 0 < ks.length) (hs : s136 ks op = true) : False := by
  unfold s136 at hs
  rw [if_pos (by omega), beq_iff_eq] at hs
  omega
theorem t143 (w : World) (mean : ExcName → Option Value) (mg mb : Str → Option Value) (b : Array UInt8) (t : Tok) (ks : List Int) (hb : KBw.bInts b = ks) (hl : ks.length ≤ 1000) (op lo : Int) (t2 t3 t4 : Tok) (h4 : op < 256) (h5 : 1 ≤ lo) : Ct w mean mg mb 143 2 [.int op t2, .bytes b t, .int lo t3, .int 20 t4] (optInt (numIn op ks lo)) := by
  have hks : ∀ k ∈ ks, 0 ≤ k ∧ k < 256 := fun k hk => KBw.ints_in (hb ▸ hk)
  w_top off
  unfold Ct
  k_fill
  intro dp un gd cn cs a ccd cl outer A₀ base h₀ L m news s Q E B F X N T hk hd hu hret
  refine wpAny_call ?_
  k_dflt (refine' enterW ?k1 ?k2 ?k3 ?k4 ?k5 ?kA ?kF ?kK ?k6 ?k7 ?k8 ?k9 ?kB ?_ ?c2 ?c3 ?c4 ?c5; (case kA => exact rfl); (case kF => exact rfl); (case kK => assumption); (case k1 => k_asm); (case k2 => k_asm); (case k3 => k_asm); (case k4 => k_asm); (case k5 => k_asm); (case k6 => k_is); (case k7 => k_is); (case k8 => ktr_room); (case k9 => first | exact BindsTo.of_eq rfl | exact binds_K (by k_in) rfl (by k_is) rfl rfl rfl); (case c5 => decide); (case kB => exact locs rfl); (case c2 => exact rfl); (case c3 => exact rfl); (case c4 => exact rfl); k_whole; intro g' L' h' FG' NG' F' N' B' X' T'; (try dsimp only); (try k_fold))
  k_steps
  all_goals ((refine endV hret (by k_asm) ?_; clear hret))
  all_goals first
    | (rw [numIn, if_pos (by omega)]; first | (rw [if_pos (by omega)]; exact dInt rfl) | (rw [if_neg (by omega)]; exact .none))
    | (rw [numIn, if_neg (by omega), if_neg (by omega)]; exact .none)
    | exact (min_nil (by assumption) (by assumption) (by assumption)).elim
    | (rw [numIn_none h5 (by omega) (by assumption) (by omega) hks]; exact .none)
    | (rw [numIn_min (by omega) (by assumption)]; exact .none)
    | (rw [numIn_push h5 (by omega) (by omega) hks (by assumption) (by first | exact .inl (by assumption) | exact .inr ⟨by omega, by assumption⟩)]; first | (rw [if_pos (by omega)]; exact dInt rfl) | (rw [if_neg (by omega)]; exact .none))
end Mine
end
section
open PySem PySem.W PyProof.Rows PySem.Calls PySem.Spec
set_option Elab.async false
set_option linter.all false
set_option maxRecDepth 100000
set_option maxHeartbeats 8000000
namespace Mine
local macro_rules | `(tactic| walk_at "execs cons") => `(tactic| (k_here; (with_reducible refine execsC fun tk => ?_); (try dsimp only)))
local macro_rules | `(tactic| walk_at "execs nil") => `(tactic| (k_here; (with_reducible refine execsN fun tk => ?_); (try dsimp only)))
/-! bytes of bytes -/
section
variable {prog : Program} {w : World} {A : Around} {E : Value → Shared → Prop} {s : Shared} {b : Array UInt8} {t : Tok}
theorem bb_look : typeLookup (.type "bytes") "__bytes__" = pure (some (.builtin "bytes.__bytes__")) := by rw [typeLookup_type, builtinLookup_eq_fast]; kernel_rfl
theorem bb_new {Q : Value → Shared → Prop} (hQ : Q (.bytes b t) s) : codeAny (model prog w) A (.call (.builtin "bytes.__new__") ⟨[.type "bytes", .bytes b t], []⟩) (wants Q E) s := by
  refine codeAny_of_tree ?_
  show wpAny _ A.in1 (do checkBuiltinCall "bytes.__new__" ⟨[.type "bytes", .bytes b t], []⟩; again (.builtin "bytes.__new__" ⟨[.type "bytes", .bytes b t], []⟩)) _ _ s
  refine wpAny_bind (wpAny_of_eq (F.bm_newCall _) (wpAny_pure ⟨plainId_quiet F.bm_plain _, codeAny_builtin F.bm_entry ?_⟩))
  rw [Around.under_plainId F.bm_plain _]
  unfold Builtin.«bytes.__new__»
  refine wpAny_bind (wpAny_of_eq (a := true) rfl ?_)
  refine bm_if_false rfl ?_
  refine wpAny_bind (wpAny_of_eq F.bm_sub ?_)
  refine bm_if_false rfl ?_
  refine wpAny_bind (wpAny_of_eq (F.bm_bind _) ?_)
  refine wpAny_bind (wpAny_of_eq (a := ()) rfl ?_)
  refine wpAny_bind (wpAny_of_eq (a := ()) rfl ?_)
  refine bm_if_false rfl ?_
  refine wpAny_bind (wpAny_specialOf (PySem.W.typeIs_bytes _ _ _) bb_look ?_)
  dsimp only
  refine wpAny_bind (wpAny_rule ?_)
  refine wpAny_bind (wpAny_typeOf (PySem.W.typeIs_bytes _ _ _) ?_)
  refine bm_if_true (by decide +kernel) ?_
  exact wpAny_pure hQ
theorem bb_call {Q : Value → Shared → Prop} (hQ : Q (.bytes b t) s) : wpAny (model prog w) A (call (.type "bytes") [.bytes b t]) Q E s := by
  refine callType_codes (Q₁ := fun obj s₁ => s₁.TypeIs obj "bytes" ∧ Q obj s₁) F.bm_called (F.bm_typeCall _) F.entry_object_init
    (bb_new ⟨PySem.W.typeIs_bytes _ _ _, hQ⟩) fun obj s₁ h₁ => ?_
  exact ⟨h₁.1, F.args_object_init_2 obj _, object_init_meets F.bm_called.init.lookup F.bm_called.made (by decide) prog w A.in1 _ s₁ ⟨h₁.1, rfl, h₁.2⟩⟩
end
local macro_rules | `(tactic| walk_at "call type:bytes") => `(tactic| (k_here; (with_reducible show wpAny _ _ (call (Value.type "bytes") [Value.bytes _ _]) _ _ _); refine bb_call ?_))
/-! what solver hands back: a kind and octets -/
noncomputable def dRes (r : String × List (List Int)) : Dat := .tuple [.str (Str.ofString r.1), .list (r.2.map BY)]
local macro_rules | `(tactic| walk_at "call ref") => `(tactic| (k_here; (with_reducible show wpAny _ _ (call (Value.ref 108) [Value.bytes _ _]) _ _ _); k_dflt (refine' Ct.use (t108 _ _ _ _ _ _ _ ?hb ?hl) ?k1 ?k2 ?k3 ?k4 ?k5 ?kK ?kd ?ku ?_; (case hb => kba_ints2); (case hl => kba_size); (case k1 => k_asm); (case k2 => k_asm); (case k3 => k_asm); (case k4 => k_asm); (case k5 => k_asm); (case kK => first | exact rfl | assumption); (case kd => ktr_room); (case ku => ktr_units)); intro r9 tl9 h9 tk9 F9 N9 o9 d9; cases d9; replace N9 := newsR N9; clear o9; (try dsimp only); (try k_fold)))

def solveWit (ks : List Int) (v : Int) (p : List Int) : String × List (List Int) :=
  if v = 0 ∧ p.length = 20 then ("witness_v0_keyhash", [p])
  else if v = 0 ∧ p.length = 32 then ("witness_v0_scripthash", [p])
  else if v = 1 ∧ p.length = 32 then ("witness_v1_taproot", [p])
  else if s108 ks = true then ("anchor", [])
  else if v ≠ 0 then ("witness_unknown", [[v], p])
  else ("nonstandard", [])
theorem byteI {k : Int} {u : UInt8} {tk : Tok} {tl : List (Addr × Obj)} (h : (u.toNat : Int) = k) : DatIn tl (.bytes #[u] tk) (BY [k]) := dBytes (by show [(u.toNat : Int)] = [k]; rw [h])
theorem byteI2 {k j : Int} {u v : UInt8} {tk : Tok} {tl : List (Addr × Obj)} (h : (u.toNat : Int) = k) (h2 : (v.toNat : Int) = j) : DatIn tl (.bytes #[u, v] tk) (BY [k, j]) := dBytes (by show [(u.toNat : Int), (v.toNat : Int)] = [k, j]; rw [h, h2])
theorem t171 (w : World) (mean : ExcName → Option Value) (mg mb : Str → Option Value) (b : Array UInt8) (t : Tok) (ks : List Int) (hb : KBw.bInts b = ks) (hl : ks.length ≤ 1000) (v : Int) (t2 t3 : Tok) (c : Array UInt8) (p : List Int) (hc : KBw.bInts c = p) (hp : p.length ≤ 1000) (h0 : 0 ≤ v) (h1 : v ≤ 16) : Ct w mean mg mb 171 2 [.bytes b t, .int v t2, .bytes c t3] (dRes (solveWit ks v p)) := by
  w_top off
  unfold Ct
  k_fill
  intro dp un gd cn cs a ccd cl outer A₀ base h₀ L m news s Q E B F X N T hk hd hu hret
  refine wpAny_call ?_
  k_dflt (refine' enterW ?k1 ?k2 ?k3 ?k4 ?k5 ?kA ?kF ?kK ?k6 ?k7 ?k8 ?k9 ?kB ?_ ?c2 ?c3 ?c4 ?c5; (case kA => exact rfl); (case kF => exact rfl); (case kK => assumption); (case k1 => k_asm); (case k2 => k_asm); (case k3 => k_asm); (case k4 => k_asm); (case k5 => k_asm); (case k6 => k_is); (case k7 => k_is); (case k8 => ktr_room); (case k9 => first | exact BindsTo.of_eq rfl | exact binds_K (by k_in) rfl (by k_is) rfl rfl rfl); (case c5 => decide); (case kB => exact locs rfl); (case c2 => exact rfl); (case c3 => exact rfl); (case c4 => exact rfl); k_whole; intro g' L' h' FG' NG' F' N' B' X' T'; (try dsimp only); (try k_fold))
  k_steps
  all_goals first
    | (exfalso; omega)
    | ((refine endT hret _ (by k_asm) NG' (by k_asm) (by k_asm) (fun p hp => hp) ?_; clear hret)
       unfold solveWit
       repeat (first | rw [if_pos (by omega)] | rw [if_neg (by omega)] | rw [if_pos (by assumption)] | rw [if_neg (Bool.eq_false_iff.mp (by assumption))])
       first
       | exact .tuple (.head _) (.cons (.str _ _) (.cons (.list (.tail _ (.head _)) .nil) .nil))
       | exact .tuple (.head _) (.cons (.str _ _) (.cons (.list (.tail _ (.head _)) (.cons (dBytes hc) .nil)) .nil))
       | exact .tuple (.head _) (.cons (.str _ _) (.cons (.list (.tail _ (.head _)) (.cons (byteI (by assumption)) (.cons (dBytes hc) .nil))) .nil)))
theorem t66 (w : World) (mean : ExcName → Option Value) (mg mb : Str → Option Value) (b : Array UInt8) (t : Tok) (ks : List Int) (hb : KBw.bInts b = ks) (hl : ks.length ≤ 1000) : Ct w mean mg mb 66 2 [.bytes b t] (BY ks) := by
  w_top off
  unfold Ct
  k_fill
  intro dp un gd cn cs a ccd cl outer A₀ base h₀ L m news s Q E B F X N T hk hd hu hret
  refine wpAny_call ?_
  k_dflt (refine' enterW ?k1 ?k2 ?k3 ?k4 ?k5 ?kA ?kF ?kK ?k6 ?k7 ?k8 ?k9 ?kB ?_ ?c2 ?c3 ?c4 ?c5; (case kA => exact rfl); (case kF => exact rfl); (case kK => assumption); (case k1 => k_asm); (case k2 => k_asm); (case k3 => k_asm); (case k4 => k_asm); (case k5 => k_asm); (case k6 => k_is); (case k7 => k_is); (case k8 => ktr_room); (case k9 => first | exact BindsTo.of_eq rfl | exact binds_K (by k_in) rfl (by k_is) rfl rfl rfl); (case c5 => decide); (case kB => exact locs rfl); (case c2 => exact rfl); (case c3 => exact rfl); (case c4 => exact rfl); k_whole; intro g' L' h' FG' NG' F' N' B' X' T'; (try dsimp only); (try k_fold))
  k_steps
  all_goals ((refine endV hret (by k_asm) ?_; clear hret); exact dBytes hb)
theorem t214 (w : World) (mean : ExcName → Option Value) (mg mb : Str → Option Value) (n : Int) (t : Tok) (x : Bool) (h1 : 0 ≤ n) (h2 : n ≤ 3) : Ct w mean mg mb 214 1 [.int n t, .bool x] (BY (if x = true then [1, n] else [80 + n])) := by
  w_top off
  unfold Ct
  k_fill
  intro dp un gd cn cs a ccd cl outer A₀ base h₀ L m news s Q E B F X N T hk hd hu hret
  refine wpAny_call ?_
  k_dflt (refine' enterW ?k1 ?k2 ?k3 ?k4 ?k5 ?kA ?kF ?kK ?k6 ?k7 ?k8 ?k9 ?kB ?_ ?c2 ?c3 ?c4 ?c5; (case kA => exact rfl); (case kF => exact rfl); (case kK => assumption); (case k1 => k_asm); (case k2 => k_asm); (case k3 => k_asm); (case k4 => k_asm); (case k5 => k_asm); (case k6 => k_is); (case k7 => k_is); (case k8 => ktr_room); (case k9 => first | exact BindsTo.of_eq rfl | exact binds_K (by k_in) rfl (by k_is) rfl rfl rfl); (case c5 => decide); (case kB => exact locs rfl); (case c2 => exact rfl); (case c3 => exact rfl); (case c4 => exact rfl); k_whole; intro g' L' h' FG' NG' F' N' B' X' T'; (try dsimp only); (try k_fold))
  k_steps
  all_goals ((refine endV hret (by k_asm) ?_; clear hret))
  all_goals first
    | (rw [if_pos (by assumption)]; exact byteI2 (by assumption) (by assumption))
    | (rw [if_neg (Bool.eq_false_iff.mp (by assumption))]; exact byteI (by assumption))
end Mine
end
section
open PySem PySem.W PyProof.Rows PySem.Calls PySem.Spec
set_option Elab.async false
set_option linter.all false
set_option maxRecDepth 100000
set_option maxHeartbeats 8000000
namespace Mine
local macro_rules | `(tactic| walk_at "execs cons") => `(tactic| (k_here; (with_reducible refine execsC fun tk => ?_); (try dsimp only)))
local macro_rules | `(tactic| walk_at "execs nil") => `(tactic| (k_here; (with_reducible refine execsN fun tk => ?_); (try dsimp only)))
section
variable {prog : Program} {w : World} {A : Around} {E : Value → Shared → Prop} {s : Shared} {env : Env} {test : PySem.Expr} {body orelse : List Stmt} {Q : Flow → Shared → Prop}
/-- the end of a turn: the loop's word at a lesser measure, or the loop's end -/
def WEnd (I : Nat → Shared → Prop) (n : Nat) (Q : Flow → Shared → Prop) (f : Flow) (s' : Shared) : Prop :=
  match f with
  | .next => ∃ m, m < n ∧ I m s'
  | .cont => ∃ m, m < n ∧ I m s'
  | .brk => Q .next s'
  | .ret v => Q (.ret v) s'
theorem whileRest (hE : PassesOwn (model prog w) A env E) (I : Nat → Shared → Prop)
    (turn : ∀ n s, I n s → wpAny (model prog w) A (isTrue test env (eval test env)) (fun b s₂ => if b = true then wpAny (model prog w) A (execs body env) (WEnd I n Q) E s₂ else wpAny (model prog w) A (execs orelse env) Q E s₂) E s) :
    ∀ n s, I n s → WhlRest prog w A E env test body orelse Q 1 s := by
  intro n
  induction n using Nat.strongRecOn with
  | ind n ih =>
    intro s h
    refine whl_turn (k := 0) hE (wpAny_mono (turn n s h) (fun b s₂ h₂ => ?_) fun _ _ x => x)
    unfold WhlIf
    cases b with
    | false => exact h₂
    | true =>
      refine wpAny_mono (Q := WEnd I n Q) h₂ (fun f s₃ h₃ => ?_) fun _ _ x => x
      cases f with
      | next => obtain ⟨m, hm, hi⟩ := h₃; exact ih m hm s₃ hi
      | cont => obtain ⟨m, hm, hi⟩ := h₃; exact ih m hm s₃ hi
      | brk => exact h₃
      | ret v => exact h₃
theorem whileBy {pos : Pos} (I : Nat → Shared → Prop) (hE : PassesOwn (model prog w) A env E) (n : Nat) (h : I n s)
    (turn : ∀ n s, I n s → wpAny (model prog w) A (isTrue test env (eval test env)) (fun b s₂ => if b = true then wpAny (model prog w) A (execs body env) (WEnd I n Q) E s₂ else wpAny (model prog w) A (execs orelse env) Q E s₂) E s) :
    wpAny (model prog w) A (exec (.While test body orelse pos) env) Q E s := whl_start 1 (whileRest hE I turn n s h)
theorem whileBy3 {pos : Pos} {α β γ : Type} (I : α → β → γ → Nat → Shared → Prop) (hE : PassesOwn (model prog w) A env E) (x : α) (y : β) (z : γ) (n : Nat) (h : I x y z n s)
    (turn : ∀ x y z n s, I x y z n s → wpAny (model prog w) A (isTrue test env (eval test env)) (fun b s₂ => if b = true then wpAny (model prog w) A (execs body env) (WEnd (I x y z) n Q) E s₂ else wpAny (model prog w) A (execs orelse env) Q E s₂) E s) :
    wpAny (model prog w) A (exec (.While test body orelse pos) env) Q E s := whileBy (I x y z) hE n h (turn x y z)
theorem lenLed {h₀ : Heap} {L a : Addr} {nx : List (Addr × Obj)} {vs : List Value} {n : Nat} {Q : Value → Shared → Prop} (N : News h₀ L s.heap nx) (hm : (a, W.listOf vs.toArray n) ∈ nx) (hv : vs.length ≤ 100000)
    (h : Q (.int (vs.length : Nat) (s.toks + 1)) { s with toks := s.toks + 1 + 1 }) : wpAny (model prog w) A (call (.builtin "len") [.ref a]) Q E s := by
  have e : vs.toArray.size = vs.length := List.size_toArray ..
  exact call_len_list (News.isList N hm) (by rw [e]; omega) (by rw [e]; exact h)
end
theorem fr1 {g h : Heap} {L : Addr} {m : Str → Option Value} {x : Str} {v : Value} (F : Fr g L h m) (e : m x = some v) : Fr g L h (fun y => if y = x then some v else m y) := by
  have q : (fun y => if y = x then some v else m y) = m := by
    funext y
    by_cases hy : y = x
    · rw [if_pos hy, hy, e]
    · rw [if_neg hy]
  rw [q]
  exact F
/-- the walk rests here -/
def Rest (P : Prop) : Prop := P
theorem restHere {P : Prop} (h : Rest P) : P := h
/-! what a call of read_op_code brings -/
def AllNe (a : Addr) : List (Addr × Obj) → Prop
  | [] => True
  | q :: r => @Ne Nat a q.1 ∧ AllNe a r
theorem allNe_of {a : Addr} : ∀ {l : List (Addr × Obj)}, (∀ q ∈ l, a ≠ q.1) → AllNe a l
  | [], _ => trivial
  | q :: _, h => ⟨h q (.head _), allNe_of fun p hp => h p (.tail _ hp)⟩
theorem dat_two {tl : List (Addr × Obj)} {r : Value} {c e : Dat} (d : DatIn tl r (.tuple [c, e])) : ∃ a u v n, r = .ref a ∧ (a, ({ cls := .type "tuple", data := .seq [u, v].toArray n } : Obj)) ∈ tl ∧ DatIn tl u c ∧ DatIn tl v e := by
  cases d with
  | tuple hm r =>
    cases r with
    | cons h1 r =>
      cases r with
      | cons h2 r =>
        cases r
        exact ⟨_, _, _, _, rfl, hm, h1, h2⟩
theorem dat_none {tl : List (Addr × Obj)} {r : Value} (d : DatIn tl r .none) : r = .none := by cases d; rfl
theorem dat_op {tl : List (Addr × Obj)} {r : Value} {c e : Int} (d : DatIn tl r (.tuple [.int c, .int e])) : ∃ a t u n, r = .ref a ∧ (a, ({ cls := .type "tuple", data := .seq [.int c t, .int e u].toArray n } : Obj)) ∈ tl := by
  obtain ⟨a, u, v, n, rfl, hm, h1, h2⟩ := dat_two d
  cases h1
  cases h2
  exact ⟨_, _, _, _, rfl, hm⟩
end Mine
end
section
open PySem PySem.W PyProof.Rows PySem.Calls PySem.Spec
set_option Elab.async false
set_option linter.all false
set_option maxRecDepth 100000
set_option maxHeartbeats 8000000
namespace Mine
local macro_rules | `(tactic| walk_at "execs cons") => `(tactic| (k_here; (with_reducible refine execsC fun tk => ?_); (try dsimp only)))
local macro_rules | `(tactic| walk_at "execs nil") => `(tactic| (k_here; (with_reducible refine execsN fun tk => ?_); (try dsimp only)))
theorem sl_mem {ks : List Int} {i j x : Int} (h : x ∈ sl ks i j) : x ∈ ks := List.mem_of_mem_drop (List.mem_of_mem_take h)
theorem opEnd_gt {ks : List Int} (hks : ∀ k ∈ ks, 0 ≤ k ∧ k < 256) {st e : Int} (h : opEnd ks st = some e) : st < ks.length ∧ st < e ∧ e ≤ ks.length := by
  unfold opEnd at h
  have hv := value_nonneg (sl ks (st + 1) (st + 1 + wid (ks.getD st.toNat 0))).reverse fun k hk => (hks k (sl_mem (List.mem_reverse.mp hk))).1
  have hw := wid_pos (ks.getD st.toNat 0)
  (repeat' split at h) <;> first | (cases h; omega) | cases h
theorem opEnd_code {ks : List Int} (hks : ∀ k ∈ ks, 0 ≤ k ∧ k < 256) {st e : Int} (_ : opEnd ks st = some e) : 0 ≤ ks.getD st.toNat 0 ∧ ks.getD st.toNat 0 < 256 := KBw.getD_in hks
/-- nothing above 96 from st on, and nothing cut short -/
def pushOnly (ks : List Int) : Nat → Int → Bool
  | 0, _ => true
  | n + 1, st => if (ks.length : Int) ≤ st then true else match opEnd ks st with
    | none => false
    | some e => if 96 < ks.getD st.toNat 0 then false else pushOnly ks n e
local macro_rules | `(tactic| walk_at "call ref") => `(tactic| (k_here; (with_reducible show wpAny _ _ (call (Value.ref 21) [Value.bytes _ _, Value.int _ _]) _ _ _); k_dflt (refine' Ct.use (t21 _ _ _ _ _ _ _ ?hb ?hl _ _ ?hs) ?k1 ?k2 ?k3 ?k4 ?k5 ?kK ?kd ?ku ?_; (case hb => kba_ints2); (case hl => kba_size); (case hs => omega); (case k1 => k_asm); (case k2 => k_asm); (case k3 => k_asm); (case k4 => k_asm); (case k5 => k_asm); (case kK => first | exact rfl | assumption); (case kd => ktr_room); (case ku => ktr_units)); intro r9 tl9 h9 tk9 F9 N9 o9 d9; (generalize ho9 : opEnd _ _ = oe9 at d9); cases oe9 <;> (dsimp only [datOp] at d9) <;> first | (obtain ⟨a9, x9, y9, n9, er9, hm9⟩ := dat_op d9; (have hg9 := opEnd_gt (by assumption) ho9); (have hc9 := opEnd_code (by assumption) ho9); subst er9; clear d9; replace o9 := allNe_of (o9 _ hm9); replace N9 := newsC N9 hm9; clear hm9; (try simp only [AllNe, and_true] at o9); (try dsimp only); (try k_fold)) | (have er9 := dat_none d9; subst er9; clear d9; replace N9 := newsR N9; clear o9; (try dsimp only); (try k_fold))))

local macro_rules | `(tactic| walk_at "exec While Compare cons nil") => `(tactic| refine restHere ?_)
local macro_rules | `(tactic| walk_at "exec While Compare cons cons") => `(tactic| refine restHere ?_)
local macro_rules | `(tactic| walk_at "WEnd ret") => `(tactic| dsimp only [WEnd])
local macro_rules | `(tactic| walk_at "WEnd brk") => `(tactic| dsimp only [WEnd])
theorem t129 (w : World) (mean : ExcName → Option Value) (mg mb : Str → Option Value) (b : Array UInt8) (t : Tok) (ks : List Int) (hb : KBw.bInts b = ks) (hl : ks.length ≤ 1000) (st : Int) (t1 : Tok) (h0 : 0 ≤ st) : Ct w mean mg mb 129 2 [.bytes b t, .int st t1] (.bool (pushOnly ks ks.length st)) := by
  have hks : ∀ k ∈ ks, 0 ≤ k ∧ k < 256 := fun k hk => KBw.ints_in (hb ▸ hk)
  w_top off
  unfold Ct
  k_fill
  intro dp un gd cn cs a ccd cl outer A₀ base h₀ L m news s Q E B F X N T hk hd hu hret
  refine wpAny_call ?_
  k_dflt (refine' enterW ?k1 ?k2 ?k3 ?k4 ?k5 ?kA ?kF ?kK ?k6 ?k7 ?k8 ?k9 ?kB ?_ ?c2 ?c3 ?c4 ?c5; (case kA => exact rfl); (case kF => exact rfl); (case kK => assumption); (case k1 => k_asm); (case k2 => k_asm); (case k3 => k_asm); (case k4 => k_asm); (case k5 => k_asm); (case k6 => k_is); (case k7 => k_is); (case k8 => ktr_room); (case k9 => first | exact BindsTo.of_eq rfl | exact binds_K (by k_in) rfl (by k_is) rfl rfl rfl); (case c5 => decide); (case kB => exact locs rfl); (case c2 => exact rfl); (case c3 => exact rfl); (case c4 => exact rfl); k_whole; intro g' L' h' FG' NG' F' N' B' X' T'; (try dsimp only); (try k_fold))
  k_steps
  unfold Rest
  refine whileBy (fun n s' => ∃ (h : Heap) (tk : Nat) (u : Str → Option Value) (st' : Int) (t' : Tok), s' = { s with heap := h, toks := tk } ∧ Fr g' L' h (fun y => if y = Str.ofString "start" then some (.int st' t') else if y = Str.ofString "script" then some (.bytes b t) else u y) ∧ News g' L' h [] ∧
      0 ≤ st' ∧ (ks.length - st').toNat ≤ n ∧ pushOnly ks n st' = pushOnly ks ks.length st) ?hE ks.length ?h0 ?turn
  case hE => first | passes_own | with_unfolding_all passes_own
  case h0 => exact ⟨_, _, _, st, t1, rfl, fr1 (fr1 F' (by rfl)) (by rfl), N', h0, by omega, rfl⟩
  case turn =>
    rintro n s' ⟨h, tk, u, st', t', rfl, F', N', hs0, hsn, hp⟩
    k_fold
    k_steps
    · (refine endV hret (by k_asm) ?_; clear hret)
      refine dBool (hp.symm.trans ?_).symm
      cases n with
      | zero => exfalso; omega
      | succ n => rw [pushOnly, if_neg (by omega)]; simp only [*]
    · (refine endV hret (by k_asm) ?_; clear hret)
      refine dBool (hp.symm.trans ?_).symm
      cases n with
      | zero => exfalso; omega
      | succ n => rw [pushOnly, if_neg (by omega)]; simp only [*]; simp
    · rename opEnd _ _ = some _ => ho9
      cases n with
      | zero => exfalso; omega
      | succ n =>
        rw [pushOnly, if_neg (by omega), ho9] at hp
        dsimp only at hp
        rw [if_neg (by assumption)] at hp
        exact ⟨n, Nat.lt_succ_self n, _, _, _, _, _, rfl, fr1 (fr1 (by k_asm) (by rfl)) (by rfl), News.nil, by omega, by omega, hp⟩
    · (refine endV hret (by k_asm) ?_; clear hret)
      refine dBool (hp.symm.trans ?_).symm
      cases n with
      | zero => rfl
      | succ n => rw [pushOnly, if_pos (by omega)]
end Mine
end
section
open PySem PySem.W PyProof.Rows PySem.Calls PySem.Spec
set_option Elab.async false
set_option linter.all false
set_option maxRecDepth 100000
set_option maxHeartbeats 8000000
namespace Mine
local macro_rules | `(tactic| walk_at "execs cons") => `(tactic| (k_here; (with_reducible refine execsC fun tk => ?_); (try dsimp only)))
local macro_rules | `(tactic| walk_at "execs nil") => `(tactic| (k_here; (with_reducible refine execsN fun tk => ?_); (try dsimp only)))
theorem opData_in {ks : List Int} (hks : ∀ k ∈ ks, 0 ≤ k ∧ k < 256) {st c e : Int} : KBa.In (opData ks st c e) := by
  intro n hn
  unfold opData at hn
  (repeat' split at hn) <;> first | exact hks n (sl_mem hn) | cases hn
theorem opData_len {b : Array UInt8} {ks : List Int} {st c e : Int} (_ : KBw.bInts b = opData ks st c e) (hl : ks.length ≤ 1000) : (opData ks st c e).length ≤ 1000 := by
  unfold opData
  (repeat' split) <;> first | (rw [sl_len]; omega) | exact Nat.zero_le _
theorem dat_bytes {tl : List (Addr × Obj)} {r : Value} {ks : List Int} (hi : KBa.In ks) (d : DatIn tl r (BY ks)) : ∃ b t, r = .bytes b t ∧ KBw.bInts b = ks := by
  cases d
  exact ⟨_, _, rfl, KBa.ints_make hi⟩
local macro_rules | `(tactic| walk_at "call ref") => `(tactic| (k_here; (with_reducible show wpAny _ _ (call (Value.ref 94) [Value.bytes _ _]) _ _ _); k_dflt (refine' Ct.use (t94 _ _ _ _ _ _ _ ?hb ?hl) ?k1 ?k2 ?k3 ?k4 ?k5 ?kK ?kd ?ku ?_; (case hb => kba_ints2); (case hl => kba_size); (case k1 => k_asm); (case k2 => k_asm); (case k3 => k_asm); (case k4 => k_asm); (case k5 => k_asm); (case kK => first | exact rfl | assumption); (case kd => ktr_room); (case ku => ktr_units)); intro r9 tl9 h9 tk9 F9 N9 o9 d9; cases d9; replace N9 := newsR N9; clear o9; (try dsimp only); (try k_fold)))

local macro_rules | `(tactic| walk_at "call ref") => `(tactic| (k_here; (with_reducible show wpAny _ _ (call (Value.ref 21) [Value.bytes _ _, Value.int _ _]) _ _ _); k_dflt (refine' Ct.use (t21 _ _ _ _ _ _ _ ?hb ?hl _ _ ?hs) ?k1 ?k2 ?k3 ?k4 ?k5 ?kK ?kd ?ku ?_; (case hb => kba_ints2); (case hl => kba_size); (case hs => omega); (case k1 => k_asm); (case k2 => k_asm); (case k3 => k_asm); (case k4 => k_asm); (case k5 => k_asm); (case kK => first | exact rfl | assumption); (case kd => ktr_room); (case ku => ktr_units)); intro r9 tl9 h9 tk9 F9 N9 o9 d9; (generalize ho9 : opEnd _ _ = oe9 at d9); cases oe9 <;> (dsimp only [datOp] at d9) <;> first | (obtain ⟨a9, x9, y9, n9, er9, hm9⟩ := dat_op d9; (have hg9 := opEnd_gt (by assumption) ho9); (have hc9 := opEnd_code (by assumption) ho9); subst er9; clear d9; replace o9 := allNe_of (o9 _ hm9); replace N9 := newsC N9 hm9; clear hm9; (try simp only [AllNe, and_true] at o9); (try dsimp only); (try k_fold)) | (have er9 := dat_none d9; subst er9; clear d9; replace N9 := newsR N9; clear o9; (try dsimp only); (try k_fold))))

local macro_rules | `(tactic| walk_at "call ref") => `(tactic| (k_here; (with_reducible show wpAny _ _ (call (Value.ref 122) [Value.bytes _ _, Value.int _ _, Value.int _ _, Value.int _ _]) _ _ _); k_dflt (refine' Ct.use (t122 _ _ _ _ _ _ _ ?hb ?hl _ _ _ _ _ _ ?hs ?he) ?k1 ?k2 ?k3 ?k4 ?k5 ?kK ?kd ?ku ?_; (case hb => kba_ints2); (case hl => kba_size); (case hs => omega); (case he => omega); (case k1 => k_asm); (case k2 => k_asm); (case k3 => k_asm); (case k4 => k_asm); (case k5 => k_asm); (case kK => first | exact rfl | assumption); (case kd => ktr_room); (case ku => ktr_units)); intro r9 tl9 h9 tk9 F9 N9 o9 d9; obtain ⟨b9, t9, er9, hb9⟩ := dat_bytes (opData_in (by assumption)) d9; (have hl9 := opData_len hb9 (by assumption)); subst er9; clear d9; replace N9 := newsR N9; clear o9; (try dsimp only); (try k_fold)))

local macro_rules | `(tactic| walk_at "call ref") => `(tactic| (k_here; (with_reducible show wpAny _ _ (call (Value.ref 143) [Value.int _ _, Value.bytes _ _, Value.int _ _, Value.int _ _]) _ _ _); k_dflt (refine' Ct.use (t143 _ _ _ _ _ _ _ ?hb ?hl _ _ _ _ _ ?hs ?he) ?k1 ?k2 ?k3 ?k4 ?k5 ?kK ?kd ?ku ?_; (case hb => kba_ints2); (case hl => kba_size); (case hs => omega); (case he => omega); (case k1 => k_asm); (case k2 => k_asm); (case k3 => k_asm); (case k4 => k_asm); (case k5 => k_asm); (case kK => first | exact rfl | assumption); (case kd => ktr_room); (case ku => ktr_units)); intro r9 tl9 h9 tk9 F9 N9 o9 d9; (generalize ho9 : numIn _ _ _ = oe9 at d9); cases oe9 <;> (dsimp only [optInt] at d9) <;> (cases d9; replace N9 := newsR N9; clear o9; (try dsimp only); (try k_fold))))

local macro_rules | `(tactic| walk_at "exec While Compare cons nil") => `(tactic| refine restHere ?_)
local macro_rules | `(tactic| walk_at "exec While Compare cons cons") => `(tactic| refine restHere ?_)
local macro_rules | `(tactic| walk_at "WEnd ret") => `(tactic| dsimp only [WEnd])
local macro_rules | `(tactic| walk_at "WEnd brk") => `(tactic| dsimp only [WEnd])
local macro_rules | `(tactic| walk_at "call builtin:len") => `(tactic| (k_here; (with_reducible show wpAny _ _ (call (Value.builtin "len") [Value.ref _]) _ _ _); k_dflt (refine' lenLed ?N ?m ?v ?_; (case N => k_asm); (case m => k_mem); (case v => omega))))
def keysFrom (ks : List Int) : Nat → Int → List (List Int) × Int × Int × List Int
  | 0, pos => ([], pos, 255, [])
  | n + 1, pos => match opEnd ks pos with
    | none => ([], pos, 255, [])
    | some e => if keyOk (opData ks pos (ks.getD pos.toNat 0) e) = true then ((opData ks pos (ks.getD pos.toNat 0) e) :: (keysFrom ks n e).1, (keysFrom ks n e).2) else ([], e, ks.getD pos.toNat 0, opData ks pos (ks.getD pos.toNat 0) e)
def multisig (ks : List Int) : Option (Int × List (List Int)) :=
  if ks.length = 0 ∨ ks.getD (-1 + (ks.length : Int)).toNat 0 ≠ 174 then none
  else match opEnd ks 0 with
  | none => none
  | some e => match numIn (ks.getD 0 0) (opData ks 0 (ks.getD 0 0) e) 1 with
    | none => none
    | some req => match numIn (keysFrom ks ks.length e).2.2.1 (keysFrom ks ks.length e).2.2.2 req with
      | none => none
      | some count => if ((keysFrom ks ks.length e).1.length : Int) ≠ count ∨ (keysFrom ks ks.length e).2.1 + 1 ≠ ks.length then none else some (req, (keysFrom ks ks.length e).1)
noncomputable def datMulti : Option (Int × List (List Int)) → Dat
  | none => .none
  | some (r, keys) => .tuple [.int r, .list (keys.map BY)]
theorem numIn_ge {op lo k : Int} {ks : List Int} (h : numIn op ks lo = some k) : lo ≤ k ∧ k ≤ 20 := by
  unfold numIn at h
  (repeat' split at h) <;> first | (cases h; omega) | cases h
theorem multisig_eq {ks : List Int} {e req : Int} {K : List (List Int) × Int × Int × List Int} (h0 : 0 < ks.length) (hl : ks.getD (-1 + (ks.length : Int)).toNat 0 = 174) (ho : opEnd ks 0 = some e)
    (hr : numIn (ks.getD 0 0) (opData ks 0 (ks.getD 0 0) e) 1 = some req) (hq : K = keysFrom ks ks.length e) :
    multisig ks = match numIn K.2.2.1 K.2.2.2 req with
      | none => none
      | some count => if (K.1.length : Int) ≠ count ∨ K.2.1 + 1 ≠ ks.length then none else some (req, K.1) := by
  subst hq
  unfold multisig
  rw [if_neg (by omega), ho]
  dsimp only
  rw [hr]
theorem keysFrom_none {ks : List Int} {n : Nat} {pos : Int} (h : opEnd ks pos = none) : keysFrom ks n pos = ([], pos, 255, []) := by
  cases n with
  | zero => rfl
  | succ n => rw [keysFrom, h]
theorem keysFrom_stop {ks : List Int} {n : Nat} {pos e : Int} (hn : 0 < n) (h : opEnd ks pos = some e) (hk : keyOk (opData ks pos (ks.getD pos.toNat 0) e) = false) : keysFrom ks n pos = ([], e, ks.getD pos.toNat 0, opData ks pos (ks.getD pos.toNat 0) e) := by
  cases n with
  | zero => exact absurd hn (Nat.lt_irrefl 0)
  | succ n =>
    rw [keysFrom, h]
    dsimp only
    rw [if_neg (Bool.eq_false_iff.mp hk)]
theorem keysFrom_step {ks : List Int} {n : Nat} {pos e : Int} (h : opEnd ks pos = some e) (hk : keyOk (opData ks pos (ks.getD pos.toNat 0) e) = true) : keysFrom ks (n + 1) pos = ((opData ks pos (ks.getD pos.toNat 0) e) :: (keysFrom ks n e).1, (keysFrom ks n e).2) := by
  rw [keysFrom, h]
  dsimp only
  rw [if_pos hk]
theorem numIn_255 (l : List Int) (lo : Int) : numIn 255 l lo = none := by
  unfold numIn
  rw [if_neg (by omega), if_neg (by omega)]
theorem t164 (w : World) (mean : ExcName → Option Value) (mg mb : Str → Option Value) (b : Array UInt8) (t : Tok) (ks : List Int) (hb : KBw.bInts b = ks) (hl : ks.length ≤ 1000) : Ct w mean mg mb 164 3 [.bytes b t] (datMulti (multisig ks)) := by
  have hks : ∀ k ∈ ks, 0 ≤ k ∧ k < 256 := fun k hk => KBw.ints_in (hb ▸ hk)
  w_top off
  unfold Ct
  k_fill
  intro dp un gd cn cs a ccd cl outer A₀ base h₀ L m news s Q E B F X N T hk hd hu hret
  refine wpAny_call ?_
  k_dflt (refine' enterW ?k1 ?k2 ?k3 ?k4 ?k5 ?kA ?kF ?kK ?k6 ?k7 ?k8 ?k9 ?kB ?_ ?c2 ?c3 ?c4 ?c5; (case kA => exact rfl); (case kF => exact rfl); (case kK => assumption); (case k1 => k_asm); (case k2 => k_asm); (case k3 => k_asm); (case k4 => k_asm); (case k5 => k_asm); (case k6 => k_is); (case k7 => k_is); (case k8 => ktr_room); (case k9 => first | exact BindsTo.of_eq rfl | exact binds_K (by k_in) rfl (by k_is) rfl rfl rfl); (case c5 => decide); (case kB => exact locs rfl); (case c2 => exact rfl); (case c3 => exact rfl); (case c4 => exact rfl); k_whole; intro g' L' h' FG' NG' F' N' B' X' T'; (try dsimp only); (try k_fold))
  k_steps
  · (refine endV hret (by k_asm) ?_; clear hret); unfold multisig; rw [if_pos (by omega)]; exact .none
  · (refine endV hret (by k_asm) ?_; clear hret); unfold multisig; rw [if_neg (by omega)]; simp only [*]; exact .none
  · rename opEnd _ _ = some _ => ho
    rename numIn _ _ _ = none => hr
    (refine endV hret (by k_asm) ?_; clear hret); unfold multisig; rw [if_neg (by omega), ho]; dsimp only; rw [show numIn (ks.getD 0 0) (opData ks 0 (ks.getD 0 0) _) 1 = none from hr]; exact .none
  · unfold Rest
    refine' whileBy3 (fun (e req : Int) (pk : Addr) n s' => opEnd ks 0 = some e ∧ numIn (ks.getD 0 0) (opData ks 0 (ks.getD 0 0) e) 1 = some req ∧ ∃ (h : Heap) (tk : Nat) (u : Str → Option Value) (pos : Int) (tp tr : Tok) (vs : List Value) (nn : Nat) (acc : List (List Int)), s' = { s with heap := h, toks := tk } ∧
      Fr g' L' h (fun y => if y = Str.ofString "position" then some (.int pos tp) else if y = Str.ofString "pub_keys" then some (.ref pk) else if y = Str.ofString "required" then some (.int req tr) else if y = Str.ofString "script" then some (.bytes b t) else u y) ∧
      News g' L' h [(pk, W.listOf vs.toArray nn)] ∧ DatAll [] vs (acc.map BY) ∧ vs.length = acc.length ∧ 0 < pos ∧ pos ≤ ks.length ∧ (ks.length - pos).toNat ≤ n ∧ (acc.length : Int) ≤ pos ∧ (acc ++ (keysFrom ks n pos).1, (keysFrom ks n pos).2) = keysFrom ks ks.length e) ?hE _ _ _ ks.length ?h0 ?turn
    case hE => first | passes_own | with_unfolding_all passes_own
    case h0 => exact ⟨by assumption, by assumption, _, _, _, _, _, _, [], _, [], rfl, fr1 (fr1 (fr1 (fr1 (by k_asm) (by rfl)) (by rfl)) (by rfl)) (by rfl), fun p hp => (by assumption : News g' L' _ _) p (by rw [List.mem_singleton.mp hp]; exact .tail _ (.head _)), .nil, rfl, by omega, by omega, by omega, by simp; omega, rfl⟩
    case turn =>
      rintro e req pk n s' ⟨ho, hr, h, tk, u, pos, tp, tr, vs, nn, acc, rfl, F', N', hd9, hv9, hp0, hp1, hpn, hac, hq⟩
      have hreq := numIn_ge hr
      with_reducible show wpAny _ _ _ _ _ _
      k_fold
      k_steps
      · (refine endV hret (by k_asm) ?_; clear hret); rw [keysFrom_none (by assumption)] at hq; rw [multisig_eq (by omega) (by omega) ho hr hq]; dsimp only; rw [numIn_255]; exact .none
      · exact absurd ((numIn_255 _ _).symm.trans (by assumption)) (by simp)
      · exact absurd ((numIn_255 _ _).symm.trans (by assumption)) (by simp)
      · exact absurd ((numIn_255 _ _).symm.trans (by assumption)) (by simp)
      · cases n with
        | zero => exfalso; omega
        | succ n =>
          rw [keysFrom_step (by assumption) (by assumption)] at hq
          simp only [List.push_toArray] at *
          exact ⟨n, Nat.lt_succ_self n, ho, hr, _, _, _, _, _, _, vs ++ [_], _, acc ++ [_], rfl, fr1 (fr1 (fr1 (fr1 (by k_asm) (by rfl)) (by rfl)) (by rfl)) (by rfl),
            fun p hp => (by assumption : News g' L' _ _) p (by rw [List.mem_singleton.mp hp]; exact .tail _ (.tail _ (.head _))),
            by rw [List.map_append]; exact hd9.append (.cons (dBytes (by assumption)) .nil), by simp [hv9], by omega, by omega, by omega, by simp; omega, by rw [← hq]; simp⟩
      · (refine endV hret (by k_asm) ?_; clear hret); rw [keysFrom_stop (by omega) (by assumption) (by assumption)] at hq; rw [multisig_eq (by omega) (by omega) ho hr hq]; dsimp only; simp only [*]; exact .none
      · (refine endV hret (by k_asm) ?_; clear hret); rw [keysFrom_stop (by omega) (by assumption) (by assumption)] at hq; rw [multisig_eq (by omega) (by omega) ho hr hq]; dsimp only; rename numIn _ _ req = some _ => hc; rw [hc]; dsimp only; rw [List.append_nil, if_pos (by omega)]; exact .none
      · (refine endV hret (by k_asm) ?_; clear hret); rw [keysFrom_stop (by omega) (by assumption) (by assumption)] at hq; rw [multisig_eq (by omega) (by omega) ho hr hq]; dsimp only; rename numIn _ _ req = some _ => hc; rw [hc]; dsimp only; rw [List.append_nil, if_pos (by omega)]; exact .none
      · (refine endT hret _ (by k_asm) NG' (by k_asm) (by k_asm) (fun p hp => hp) ?_; clear hret); rw [keysFrom_stop (by omega) (by assumption) (by assumption)] at hq; rw [multisig_eq (by omega) (by omega) ho hr hq]; dsimp only; rename numIn _ _ req = some _ => hc; rw [hc]; dsimp only; rw [List.append_nil, if_neg (by omega)]
        exact .tuple (.head _) (.cons (dInt rfl) (.cons (.list (.tail _ (.tail _ (.tail _ (.head _)))) (hd9.mono (by intro _ h; cases h))) .nil))
  · (refine endV hret (by k_asm) ?_; clear hret); unfold multisig; rw [if_pos (by omega)]; exact .none
end Mine
end
section
open PySem PySem.W PyProof.Rows PySem.Calls PySem.Spec
set_option Elab.async false
set_option linter.all false
set_option maxRecDepth 100000
set_option maxHeartbeats 8000000
namespace Mine
local macro_rules | `(tactic| walk_at "execs cons") => `(tactic| (k_here; (with_reducible refine execsC fun tk => ?_); (try dsimp only)))
local macro_rules | `(tactic| walk_at "execs nil") => `(tactic| (k_here; (with_reducible refine execsN fun tk => ?_); (try dsimp only)))
theorem wit_facts {ks : List Int} (hks : ∀ k ∈ ks, 0 ≤ k ∧ k < 256) {x : Int × List Int} (h : wit ks = some x) : 0 ≤ x.1 ∧ x.1 ≤ 16 ∧ x.2.length ≤ 40 ∧ KBa.In x.2 := by
  unfold wit at h
  split at h
  · cases h
    dsimp only
    refine ⟨?_, ?_, ?_, fun n hn => hks n (List.mem_of_mem_drop hn)⟩
    · split <;> omega
    · split <;> omega
    · rw [List.length_drop]; omega
  · cases h
theorem dat_wit {ks : List Int} (hks : ∀ k ∈ ks, 0 ≤ k ∧ k < 256) {x : Int × List Int} (h : wit ks = some x) {tl : List (Addr × Obj)} {r : Value} (d : DatIn tl r (.tuple [.int x.1, BY x.2])) :
    ∃ (a : Addr) (t : Tok) (b : Array UInt8) (u : Tok) (n : Nat), r = .ref a ∧ (a, ({ cls := .type "tuple", data := .seq [.int x.1 t, .bytes b u].toArray n } : Obj)) ∈ tl ∧ KBw.bInts b = x.2 := by
  obtain ⟨a, u, v, n, rfl, hm, h1, h2⟩ := dat_two d
  obtain ⟨b, t, rfl, hb⟩ := dat_bytes (wit_facts hks h).2.2.2 h2
  cases h1
  exact ⟨_, _, _, _, _, rfl, hm, hb⟩
theorem s150_in {ks : List Int} (hks : ∀ k ∈ ks, 0 ≤ k ∧ k < 256) {x : List Int} (h : s150 ks = some x) : KBa.In x := by
  unfold s150 at h
  (repeat' split at h) <;> first | (cases h; exact fun n hn => hks n (sl_mem hn)) | cases h
theorem s157_in {ks : List Int} (hks : ∀ k ∈ ks, 0 ≤ k ∧ k < 256) {x : List Int} (h : s157 ks = some x) : KBa.In x := by
  unfold s157 at h
  split at h
  · cases h; exact fun n hn => hks n (List.mem_of_mem_drop (List.mem_of_mem_take hn))
  · cases h
theorem multi_facts {ks : List Int} {x : Int × List (List Int)} (h : multisig ks = some x) : 1 ≤ x.1 ∧ x.1 ≤ 20 ∧ x.2.length ≤ 20 := by
  unfold multisig at h
  split at h
  · cases h
  · split at h
    · cases h
    · split at h
      · cases h
      · rename_i _ _ req hr
        split at h
        · cases h
        · rename_i _ _ count hc
          split at h
          · cases h
          · cases h
            have h1 := numIn_ge hr
            have h2 := numIn_ge hc
            dsimp only
            omega
theorem dat_multi {tl : List (Addr × Obj)} {r : Value} {k : Int} {keys : List (List Int)} (d : DatIn tl r (.tuple [.int k, .list (keys.map BY)])) :
    ∃ (a l : Addr) (t : Tok) (vs : List Value) (n m : Nat), r = .ref a ∧ (a, ({ cls := .type "tuple", data := .seq [.int k t, .ref l].toArray n } : Obj)) ∈ tl ∧ (l, W.listOf vs.toArray m) ∈ tl ∧ vs.length = keys.length ∧ DatAll tl vs (keys.map BY) := by
  obtain ⟨a, u, v, n, rfl, hm, h1, h2⟩ := dat_two d
  cases h1
  cases h2 with
  | list hl hd => exact ⟨_, _, _, _, _, _, rfl, hm, hl, by rw [hd.length, List.length_map], hd⟩
theorem newsC2 {tl news : List (Addr × Obj)} {h₀ h : Heap} {L : Addr} {q p : Addr × Obj} (N : News h₀ L h (tl ++ news)) (hq : q ∈ tl) (hp : p ∈ tl) : News h₀ L h (q :: p :: news) := fun x hx => N x (by
  rcases List.mem_cons.mp hx with rfl | hx
  · exact List.mem_append.mpr (.inl hq)
  · rcases List.mem_cons.mp hx with rfl | hx
    · exact List.mem_append.mpr (.inl hp)
    · exact List.mem_append.mpr (.inr hx))
theorem bytes_any {tl tl' : List (Addr × Obj)} : ∀ {keys : List (List Int)} {vs : List Value}, DatAll tl' vs (keys.map BY) → DatAll tl vs (keys.map BY)
  | [], _, h => by cases h; exact .nil
  | k :: r, _, h => by
    cases h with
    | cons h1 h2 =>
      cases h1
      exact .cons (.bytes _ _) (bytes_any h2)
theorem multi_out {tl tl' : List (Addr × Obj)} {keys : List (List Int)} {vs : List Value} {u c : UInt8} {t1 t2 : Tok} {r : Int} (h1 : (u.toNat : Int) = r) (h2 : (c.toNat : Int) = (vs.length : Int)) (hv : vs.length = keys.length) (hd : DatAll tl' vs (keys.map BY)) :
    DatAll tl (.bytes #[u] t1 :: (vs ++ [.bytes #[c] t2])) (([r] :: (keys ++ [[(keys.length : Int)]])).map BY) := by
  rw [List.map_cons, List.map_append]
  refine .cons (byteI h1) ((bytes_any hd).append (.cons (byteI ?_) .nil))
  rw [h2, hv]
local macro_rules | `(tactic| walk_at "call ref") => `(tactic| (k_here; (with_reducible show wpAny _ _ (call (Value.ref 66) [_]) _ _ _); k_dflt (refine' Ct.use (?hv) ?k1 ?k2 ?k3 ?k4 ?k5 ?kK ?kd ?ku ?_; (case hv => assumption); (case k1 => k_asm); (case k2 => k_asm); (case k3 => k_asm); (case k4 => k_asm); (case k5 => k_asm); (case kK => first | exact rfl | assumption); (case kd => ktr_room); (case ku => ktr_units)); intro r9 tl9 h9 tk9 F9 N9 o9 d9; obtain ⟨b9, t9, er9, hb9⟩ := dat_bytes (by assumption) d9; subst er9; clear d9; replace N9 := newsR N9; clear o9; (try dsimp only); (try k_fold)))

local macro_rules | `(tactic| walk_at "call ref") => `(tactic| (k_here; (with_reducible show wpAny _ _ (call (Value.ref 101) [Value.bytes _ _]) _ _ _); k_dflt (refine' Ct.use (t101 _ _ _ _ _ _ _ ?hb ?hl) ?k1 ?k2 ?k3 ?k4 ?k5 ?kK ?kd ?ku ?_; (case hb => kba_ints2); (case hl => kba_size); (case k1 => k_asm); (case k2 => k_asm); (case k3 => k_asm); (case k4 => k_asm); (case k5 => k_asm); (case kK => first | exact rfl | assumption); (case kd => ktr_room); (case ku => ktr_units)); intro r9 tl9 h9 tk9 F9 N9 o9 d9; cases d9; replace N9 := newsR N9; clear o9; (try dsimp only); (try k_fold)))

local macro_rules | `(tactic| walk_at "call ref") => `(tactic| (k_here; (with_reducible show wpAny _ _ (call (Value.ref 115) [Value.bytes _ _]) _ _ _); k_dflt (refine' Ct.use (t115 _ _ _ _ _ _ _ ?hb ?hl) ?k1 ?k2 ?k3 ?k4 ?k5 ?kK ?kd ?ku ?_; (case hb => kba_ints2); (case hl => kba_size); (case k1 => k_asm); (case k2 => k_asm); (case k3 => k_asm); (case k4 => k_asm); (case k5 => k_asm); (case kK => first | exact rfl | assumption); (case kd => ktr_room); (case ku => ktr_units)); intro r9 tl9 h9 tk9 F9 N9 o9 d9; (generalize ho9 : wit _ = oe9 at d9); cases oe9 <;> (dsimp only [datWit] at d9) <;> first | (obtain ⟨a9, x9, b9, y9, n9, er9, hm9, hb9⟩ := dat_wit (by assumption) ho9 d9; (have hg9 := wit_facts (by assumption) ho9); subst er9; clear d9; replace o9 := allNe_of (o9 _ hm9); replace N9 := newsC N9 hm9; clear hm9; (try simp only [AllNe, and_true] at o9); (try dsimp only); (try k_fold)) | (have er9 := dat_none d9; subst er9; clear d9; replace N9 := newsR N9; clear o9; (try dsimp only); (try k_fold))))

local macro_rules | `(tactic| walk_at "call ref") => `(tactic| (k_here; (with_reducible show wpAny _ _ (call (Value.ref 171) [Value.bytes _ _, Value.int _ _, Value.bytes _ _]) _ _ _); k_dflt (refine' Ct.use (t171 _ _ _ _ _ _ _ ?hb ?hl _ _ _ _ _ ?hc ?hp ?h0 ?h1) ?k1 ?k2 ?k3 ?k4 ?k5 ?kK ?kd ?ku ?_; (case hb => kba_ints2); (case hl => kba_size); (case hc => assumption); (case hp => omega); (case h0 => omega); (case h1 => omega); (case k1 => k_asm); (case k2 => k_asm); (case k3 => k_asm); (case k4 => k_asm); (case k5 => k_asm); (case kK => first | exact rfl | assumption); (case kd => ktr_room); (case ku => ktr_units)); intro r9 tl9 h9 tk9 F9 N9 o9 d9; (try dsimp only); (try k_fold)))

local macro_rules | `(tactic| walk_at "call ref") => `(tactic| (k_here; (with_reducible show wpAny _ _ (call (Value.ref 129) [Value.bytes _ _, Value.int _ _]) _ _ _); k_dflt (refine' Ct.use (t129 _ _ _ _ _ _ _ ?hb ?hl _ _ ?hs) ?k1 ?k2 ?k3 ?k4 ?k5 ?kK ?kd ?ku ?_; (case hb => kba_ints2); (case hl => kba_size); (case hs => omega); (case k1 => k_asm); (case k2 => k_asm); (case k3 => k_asm); (case k4 => k_asm); (case k5 => k_asm); (case kK => first | exact rfl | assumption); (case kd => ktr_room); (case ku => ktr_units)); intro r9 tl9 h9 tk9 F9 N9 o9 d9; cases d9; replace N9 := newsR N9; clear o9; (try dsimp only); (try k_fold)))

local macro_rules | `(tactic| walk_at "call ref") => `(tactic| (k_here; (with_reducible show wpAny _ _ (call (Value.ref 150) [Value.bytes _ _]) _ _ _); k_dflt (refine' Ct.use (t150 _ _ _ _ _ _ _ ?hb ?hl) ?k1 ?k2 ?k3 ?k4 ?k5 ?kK ?kd ?ku ?_; (case hb => kba_ints2); (case hl => kba_size); (case k1 => k_asm); (case k2 => k_asm); (case k3 => k_asm); (case k4 => k_asm); (case k5 => k_asm); (case kK => first | exact rfl | assumption); (case kd => ktr_room); (case ku => ktr_units)); intro r9 tl9 h9 tk9 F9 N9 o9 d9; (generalize ho9 : s150 _ = oe9 at d9); cases oe9 <;> (dsimp only [optBytes] at d9) <;> first | (obtain ⟨b9, t9, er9, hb9⟩ := dat_bytes (s150_in (by assumption) ho9) d9; subst er9; clear d9; replace N9 := newsR N9; clear o9; (try dsimp only); (try k_fold)) | (have er9 := dat_none d9; subst er9; clear d9; replace N9 := newsR N9; clear o9; (try dsimp only); (try k_fold))))

local macro_rules | `(tactic| walk_at "call ref") => `(tactic| (k_here; (with_reducible show wpAny _ _ (call (Value.ref 157) [Value.bytes _ _]) _ _ _); k_dflt (refine' Ct.use (t157 _ _ _ _ _ _ _ ?hb ?hl) ?k1 ?k2 ?k3 ?k4 ?k5 ?kK ?kd ?ku ?_; (case hb => kba_ints2); (case hl => kba_size); (case k1 => k_asm); (case k2 => k_asm); (case k3 => k_asm); (case k4 => k_asm); (case k5 => k_asm); (case kK => first | exact rfl | assumption); (case kd => ktr_room); (case ku => ktr_units)); intro r9 tl9 h9 tk9 F9 N9 o9 d9; (generalize ho9 : s157 _ = oe9 at d9); cases oe9 <;> (dsimp only [optBytes] at d9) <;> first | (obtain ⟨b9, t9, er9, hb9⟩ := dat_bytes (s157_in (by assumption) ho9) d9; subst er9; clear d9; replace N9 := newsR N9; clear o9; (try dsimp only); (try k_fold)) | (have er9 := dat_none d9; subst er9; clear d9; replace N9 := newsR N9; clear o9; (try dsimp only); (try k_fold))))

local macro_rules | `(tactic| walk_at "call ref") => `(tactic| (k_here; (with_reducible show wpAny _ _ (call (Value.ref 164) [Value.bytes _ _]) _ _ _); k_dflt (refine' Ct.use (t164 _ _ _ _ _ _ _ ?hb ?hl) ?k1 ?k2 ?k3 ?k4 ?k5 ?kK ?kd ?ku ?_; (case hb => kba_ints2); (case hl => kba_size); (case k1 => k_asm); (case k2 => k_asm); (case k3 => k_asm); (case k4 => k_asm); (case k5 => k_asm); (case kK => first | exact rfl | assumption); (case kd => ktr_room); (case ku => ktr_units)); intro r9 tl9 h9 tk9 F9 N9 o9 d9; (generalize ho9 : multisig _ = oe9 at d9); cases oe9 <;> (dsimp only [datMulti] at d9) <;> first | (obtain ⟨a9, l9, t9, vs9, n9, m9, er9, hm9, hl9, hv9, hd9⟩ := dat_multi d9; (have hg9 := multi_facts ho9); subst er9; clear d9; (have o8 := allNe_of (o9 _ hl9)); replace o9 := allNe_of (o9 _ hm9); replace N9 := newsC2 N9 hm9 hl9; (try simp only [AllNe, and_true] at o9 o8); (try dsimp only); (try k_fold)) | (have er9 := dat_none d9; subst er9; clear d9; replace N9 := newsR N9; clear o9; (try dsimp only); (try k_fold))))

local macro_rules | `(tactic| walk_at "StarOf ref") => `(tactic| (k_here; k_dflt (refine' star_seq ?k1 ?k2 ?m ?c ?d ?T ?e ?z ?_; (case k1 => k_asm); (case k2 => k_asm); (case m => k_mem); (case c => exact rfl); (case d => exact rfl); (case T => first | exact .inl rfl | exact .inr rfl); (case e => exact List.toList_toArray ..); (case z => (simp only [List.size_toArray, List.length_cons, List.length_nil, sizeLine_eq]; omega))); intro h' F' N'; (try k_sweep); try dsimp only [List.nil_append, List.cons_append]))
local macro_rules | `(tactic| walk_at "call builtin:len") => `(tactic| (k_here; (with_reducible show wpAny _ _ (call (Value.builtin "len") [Value.ref _]) _ _ _); k_dflt (refine' lenLed ?N ?m ?v ?_; (case N => k_asm); (case m => k_mem); (case v => omega))))
def solverS (ks : List Int) : String × List (List Int) :=
  if s101 ks = true then ("scripthash", [sl ks 2 22])
  else match wit ks with
  | some x => solveWit ks x.1 x.2
  | none =>
    if 0 < ks.length ∧ ks.getD 0 0 = 106 ∧ pushOnly ks ks.length 1 = true then ("nulldata", [])
    else match s150 ks with
    | some k => ("pubkey", [k])
    | none => match s157 ks with
      | some k => ("pubkeyhash", [k])
      | none => match multisig ks with
        | some x => ("multisig", [x.1] :: (x.2 ++ [[(x.2.length : Int)]]))
        | none => ("nonstandard", [])
theorem t178 (w : World) (mean : ExcName → Option Value) (mg mb : Str → Option Value) (v : Value) (ks : List Int) (hks : KBa.In ks) (hl : ks.length ≤ 1000) (hv : Ct w mean mg mb 66 2 [v] (BY ks)) : Ct w mean mg mb 178 5 [v] (dRes (solverS ks)) := by
  have hks1 : ∀ k ∈ ks, 0 ≤ k ∧ k < 256 := hks
  w_top off
  unfold Ct
  k_fill
  intro dp un gd cn cs a ccd cl outer A₀ base h₀ L m news s Q E B F X N T hk hd hu hret
  refine wpAny_call ?_
  k_dflt (refine' enterW ?k1 ?k2 ?k3 ?k4 ?k5 ?kA ?kF ?kK ?k6 ?k7 ?k8 ?k9 ?kB ?_ ?c2 ?c3 ?c4 ?c5; (case kA => exact rfl); (case kF => exact rfl); (case kK => assumption); (case k1 => k_asm); (case k2 => k_asm); (case k3 => k_asm); (case k4 => k_asm); (case k5 => k_asm); (case k6 => k_is); (case k7 => k_is); (case k8 => ktr_room); (case k9 => first | exact BindsTo.of_eq rfl | exact binds_K (by k_in) rfl (by k_is) rfl rfl rfl); (case c5 => decide); (case kB => exact locs rfl); (case c2 => exact rfl); (case c3 => exact rfl); (case c4 => exact rfl); k_whole; intro g' L' h' FG' NG' F' N' B' X' T'; (try dsimp only); (try k_fold))
  k_steps
  all_goals (try rw [sl_clip _ (by decide) (by decide)] at *)
  all_goals ((refine endT hret _ (by k_asm) NG' (by k_asm) (by k_asm) (fun p hp => hp) ?_; clear hret); unfold solverS)
  all_goals (try rw [if_pos (by assumption)])
  all_goals (try rw [if_neg (Bool.eq_false_iff.mp (by assumption))])
  all_goals (try (rename wit _ = _ => h1; rw [h1]; dsimp only))
  all_goals (try rw [if_pos ⟨by omega, by assumption, by assumption⟩])
  all_goals (try rw [if_neg (by rintro ⟨h2, h3, h4⟩; first | omega | contradiction | (rw [h4] at *; contradiction))])
  all_goals (try (rename s150 _ = _ => h5; rw [h5]; dsimp only))
  all_goals (try (rename s157 _ = _ => h6; rw [h6]; dsimp only))
  all_goals (try (rename multisig _ = _ => h7; rw [h7]; dsimp only))
  all_goals (try (rename pushOnly _ _ _ = false => h8; rw [if_neg (fun hh => absurd (h8.symm.trans hh.2.2) Bool.false_ne_true)]))
  all_goals first
    | exact .tuple (.head _) (.cons (.str _ _) (.cons (.list (.tail _ (.head _)) .nil) .nil))
    | exact .tuple (.head _) (.cons (.str _ _) (.cons (.list (.tail _ (.head _)) (.cons (dBytes (by assumption)) .nil)) .nil))
    | exact .tuple (.head _) (.cons (.str _ _) (.cons (.list (.tail _ (.head _)) (multi_out (by assumption) (by assumption) (by assumption) (by assumption))) .nil))
    | exact DatIn.mono (fun _ h => List.mem_append.mpr (.inl h)) (by assumption)
end Mine
end
section
open PySem PySem.W PyProof.Rows PySem.Calls PySem.Spec
set_option Elab.async false
set_option linter.all false
set_option maxRecDepth 100000
set_option maxHeartbeats 8000000
namespace Mine
local macro_rules | `(tactic| walk_at "execs cons") => `(tactic| (k_here; (with_reducible refine execsC fun tk => ?_); (try dsimp only)))
local macro_rules | `(tactic| walk_at "execs nil") => `(tactic| (k_here; (with_reducible refine execsN fun tk => ?_); (try dsimp only)))
local macro_rules | `(tactic| walk_at "exec While Compare cons nil") => `(tactic| refine restHere ?_)
local macro_rules | `(tactic| walk_at "exec While Compare cons cons") => `(tactic| refine restHere ?_)
local macro_rules | `(tactic| walk_at "WEnd ret") => `(tactic| dsimp only [WEnd])
local macro_rules | `(tactic| walk_at "WEnd brk") => `(tactic| dsimp only [WEnd])
local macro_rules | `(tactic| k_all) => `(tactic| assumption)
def reading (ks : List Int) : Nat → Int → Option (List (Int × List Int))
  | 0, _ => some []
  | n + 1, st => if (ks.length : Int) ≤ st then some [] else match opEnd ks st with
    | none => none
    | some e => (reading ks n e).map ((ks.getD st.toNat 0, opData ks st (ks.getD st.toNat 0) e) :: ·)
noncomputable def datStep (p : Int × List Int) : Dat := .tuple [.int p.1, BY p.2]
noncomputable def datReading : Option (List (Int × List Int)) → Dat
  | none => .none
  | some l => .list (l.map datStep)
theorem wid_L {c : Int} (h : 76 ≤ c) (h' : c ≤ 78) : [1, 2, 4].getD (c - 76).toNat 0 = wid c := by
  unfold wid
  have h3 : (c - 76).toNat = 0 ∨ (c - 76).toNat = 1 ∨ (c - 76).toNat = 2 := by omega
  rcases h3 with e | e | e <;> rw [e] <;> decide
theorem take_run : ∀ (n : Nat) (ks : List Int) (i : Nat), i + n ≤ ks.length → (ks.drop i).take n = (List.range' i n).map fun j => ks.getD j 0
  | 0, ks, i, _ => by simp
  | n + 1, ks, i, h => by
    have hi : i < ks.length := by omega
    rw [List.drop_eq_getElem_cons hi, List.take_succ_cons, List.range'_succ, List.map_cons, take_run n ks (i + 1) (by omega)]
    congr 1
    rw [List.getD_eq_getElem?_getD, List.getElem?_eq_getElem hi]
    rfl
theorem sum_L {ks : List Int} {st c : Int} (hks : ∀ k ∈ ks, 0 ≤ k ∧ k < 256) (h0 : 0 ≤ st) (h : 76 ≤ c) (h' : c ≤ 78) (hw : st + 1 + wid c ≤ ks.length) :
    (List.map (fun k' : Int => if 0 ≤ ks.getD (st + 1 + k').toNat 0 ∧ ks.getD (st + 1 + k').toNat 0 < 256 then ks.getD (st + 1 + k').toNat 0 * 256 ^ k'.toNat else k') (rangeKs 0 (wid c - 0).toNat)).sum = KFB.value (sl ks (st + 1) (st + 1 + wid c)).reverse := by
  have e : (fun k' : Int => if 0 ≤ ks.getD (st + 1 + k').toNat 0 ∧ ks.getD (st + 1 + k').toNat 0 < 256 then ks.getD (st + 1 + k').toNat 0 * 256 ^ k'.toNat else k') = fun k' : Int => ks.getD (st + 1 + k').toNat 0 * 256 ^ k'.toNat := by
    funext k'
    rw [if_pos (KBw.getD_in hks)]
  rw [e]
  unfold sl
  have hn : (st + 1 + wid c).toNat - (st + 1).toNat = (wid c).toNat := by have := wid_pos c; omega
  rw [hn, take_run _ _ _ (by have := wid_pos c; omega)]
  have h3 : wid c = 1 ∨ wid c = 2 ∨ wid c = 4 := by
    unfold wid
    have h3 : (c - 76).toNat = 0 ∨ (c - 76).toNat = 1 ∨ (c - 76).toNat = 2 := by omega
    rcases h3 with e | e | e <;> rw [e] <;> decide
  have t1 : (st + 1 + 0).toNat = (st + 1).toNat := by omega
  have t2 : (st + 1 + 1).toNat = (st + 1).toNat + 1 := by omega
  have t3 : (st + 1 + 2).toNat = (st + 1).toNat + 1 + 1 := by omega
  have t4 : (st + 1 + 3).toNat = (st + 1).toNat + 1 + 1 + 1 := by omega
  rcases h3 with e | e | e <;> rw [e]
  · show (ks.getD (st + 1 + 0).toNat 0 * 256 ^ 0 + 0 : Int) = 0 * 256 + ks.getD (st + 1).toNat 0
    rw [t1]; omega
  · show (ks.getD (st + 1 + 0).toNat 0 * 256 ^ 0 + (ks.getD (st + 1 + 1).toNat 0 * 256 ^ 1 + 0) : Int) = (0 * 256 + ks.getD ((st + 1).toNat + 1) 0) * 256 + ks.getD (st + 1).toNat 0
    rw [t1, t2]; omega
  · show (ks.getD (st + 1 + 0).toNat 0 * 256 ^ 0 + (ks.getD (st + 1 + 1).toNat 0 * 256 ^ 1 + (ks.getD (st + 1 + 2).toNat 0 * 256 ^ 2 + (ks.getD (st + 1 + 3).toNat 0 * 256 ^ 3 + 0))) : Int) =
      (((0 * 256 + ks.getD ((st + 1).toNat + 1 + 1 + 1) 0) * 256 + ks.getD ((st + 1).toNat + 1 + 1) 0) * 256 + ks.getD ((st + 1).toNat + 1) 0) * 256 + ks.getD (st + 1).toNat 0
    rw [t1, t2, t3, t4]; omega
theorem reading_cut {ks : List Int} {n : Nat} {st : Int} (hn : 0 < n) (hs : st < ks.length) (h : opEnd ks st = none) : reading ks n st = none := by
  cases n with
  | zero => exact absurd hn (Nat.lt_irrefl 0)
  | succ n => rw [reading, if_neg (by omega), h]
theorem reading_step {ks : List Int} {n : Nat} {st e : Int} (hs : st < ks.length) (h : opEnd ks st = some e) : reading ks (n + 1) st = (reading ks n e).map ((ks.getD st.toNat 0, opData ks st (ks.getD st.toNat 0) e) :: ·) := by
  rw [reading, if_neg (by omega), h]
theorem reading_end {ks : List Int} {n : Nat} {st : Int} (hs : ks.length ≤ st) : reading ks n st = some [] := by
  cases n with
  | zero => rfl
  | succ n => rw [reading, if_pos hs]
theorem opt_snoc {α : Type} {acc : List α} {x : α} {o : Option (List α)} {R : Option (List α)} (h : (o.map (x :: ·)).map (acc ++ ·) = R) : o.map ((acc ++ [x]) ++ ·) = R := by
  rw [← h]
  cases o <;> simp
theorem pick4 {g h : Heap} {L : Addr} {nx tups : List (Addr × Obj)} {a b c d : Addr × Obj} (N : News g L h nx) (ha : a ∈ nx) (hb : b ∈ nx) (hc : c ∈ nx) (hd : d ∈ nx) (ht : ∀ p ∈ tups, p ∈ nx) : News g L h (a :: b :: c :: d :: tups) :=
  fun p hp => N p (by
    rcases List.mem_cons.mp hp with rfl | hp
    · exact ha
    · rcases List.mem_cons.mp hp with rfl | hp
      · exact hb
      · rcases List.mem_cons.mp hp with rfl | hp
        · exact hc
        · rcases List.mem_cons.mp hp with rfl | hp
          · exact hd
          · exact ht p hp)
theorem opEnd_long {ks : List Int} {st : Int} (h0 : st < ks.length) (h : 76 ≤ ks.getD st.toNat 0) (h' : ks.getD st.toNat 0 ≤ 78) (hw : st + 1 + wid (ks.getD st.toNat 0) ≤ ks.length)
    (hv : st + 1 + wid (ks.getD st.toNat 0) + KFB.value (sl ks (st + 1) (st + 1 + wid (ks.getD st.toNat 0))).reverse ≤ ks.length) : opEnd ks st = some (st + 1 + wid (ks.getD st.toNat 0) + KFB.value (sl ks (st + 1) (st + 1 + wid (ks.getD st.toNat 0))).reverse) := by
  unfold opEnd
  rw [if_neg (by omega), if_neg (by omega), if_pos ⟨h, h'⟩, if_pos hw, if_pos hv]
theorem opEnd_long0 {ks : List Int} {st : Int} (h0 : st < ks.length) (h : 76 ≤ ks.getD st.toNat 0) (h' : ks.getD st.toNat 0 ≤ 78) (hw : ¬ st + 1 + wid (ks.getD st.toNat 0) ≤ ks.length) : opEnd ks st = none := by
  unfold opEnd
  rw [if_neg (by omega), if_neg (by omega), if_pos ⟨h, h'⟩, if_neg hw]
theorem opEnd_long1 {ks : List Int} {st : Int} (h0 : st < ks.length) (h : 76 ≤ ks.getD st.toNat 0) (h' : ks.getD st.toNat 0 ≤ 78) (hw : st + 1 + wid (ks.getD st.toNat 0) ≤ ks.length)
    (hv : ¬ st + 1 + wid (ks.getD st.toNat 0) + KFB.value (sl ks (st + 1) (st + 1 + wid (ks.getD st.toNat 0))).reverse ≤ ks.length) : opEnd ks st = none := by
  unfold opEnd
  rw [if_neg (by omega), if_neg (by omega), if_pos ⟨h, h'⟩, if_pos hw, if_neg hv]
theorem opEnd_short {ks : List Int} {st : Int} (h0 : st < ks.length) (h : 0 < ks.getD st.toNat 0) (h' : ks.getD st.toNat 0 ≤ 75) : opEnd ks st = if st + 1 + ks.getD st.toNat 0 ≤ ks.length then some (st + 1 + ks.getD st.toNat 0) else none := by
  unfold opEnd
  rw [if_neg (by omega), if_pos ⟨h, h'⟩]
theorem opEnd_bare {ks : List Int} {st : Int} (h0 : st < ks.length) (h : ¬ (0 < ks.getD st.toNat 0 ∧ ks.getD st.toNat 0 ≤ 78)) : opEnd ks st = some (st + 1) := by
  unfold opEnd
  rw [if_neg (by omega), if_neg (by omega), if_neg (by omega)]
theorem t183 (w : World) (mean : ExcName → Option Value) (mg mb : Str → Option Value) (b : Array UInt8) (t : Tok) (ks : List Int) (hb : KBw.bInts b = ks) (hl : ks.length ≤ 1000) : Ct w mean mg mb 183 1 [.bytes b t] (datReading (reading ks ks.length 0)) := by
  have hks : ∀ k ∈ ks, 0 ≤ k ∧ k < 256 := fun k hk => KBw.ints_in (hb ▸ hk)
  w_top off
  unfold Ct
  k_fill
  intro dp un gd cn cs a ccd cl outer A₀ base h₀ L m news s Q E B F X N T hk hd hu hret
  refine wpAny_call ?_
  k_dflt (refine' enterWC ?k1 ?k2 ?k3 ?k4 ?k5 ?kA ?kF ?kK ?k6 ?k7 ?k8 ?k9 ?kB ?kD ?_ ?c2 ?c3 ?c4; (case kA => exact rfl); (case kF => exact rfl); (case kK => assumption); (case k1 => k_asm); (case k2 => k_asm); (case k3 => k_asm); (case k4 => k_asm); (case k5 => k_asm); (case k6 => k_is); (case k7 => k_is); (case k8 => ktr_room); (case k9 => exact BindsTo.of_eq rfl); (case kB => exact rfl); (case kD => decide +kernel); (case c2 => exact rfl); (case c3 => exact rfl); (case c4 => exact rfl); k_whole; intro g' L' h' tk' cells' FG' NG' F' N' Y' B' X' T'; k_cells Y'; (try simp only [List.cons_append, List.nil_append] at N'); (try dsimp only); (try k_fold))
  k_steps
  unfold Rest
  refine' whileBy3 (fun (fd : Addr) (_ _ : Unit) n s' => ∃ (h : Heap) (tk : Nat) (u : Str → Option Value) (st : Int) (ta : Tok) (vs : List Value) (nn : Nat) (acc : List (Int × List Int)) (tups : List (Addr × Obj)) (oa oo : Obj), s' = { s with heap := h, toks := tk } ∧
      Fr g' L' h (fun y => if y = Str.ofString "found" then some (.ref fd) else u y) ∧
      News g' L' h ((fd, W.listOf vs.toArray nn) :: (L' + 1 + 1, oa) :: (L' + 1, oo) :: tups) ∧ oa.data = .cell (some (.int st ta)) ∧ oo.data = .cell (some (.bytes b t)) ∧ (∀ p ∈ tups, p.1 ≠ fd) ∧ (∀ p ∈ tups, p.1 ≠ L' + 1 + 1) ∧ (∀ p ∈ tups, p.1 ≠ L' + 1) ∧ @Ne Nat fd (L' + 1 + 1) ∧ @Ne Nat fd (L' + 1) ∧
      DatAll tups vs (acc.map datStep) ∧ vs.length = acc.length ∧ 0 ≤ st ∧ st ≤ ks.length ∧ (ks.length - st).toNat ≤ n ∧ (acc.length : Int) ≤ st ∧ (reading ks n st).map (acc ++ ·) = reading ks ks.length 0) ?hE _ () () ks.length ?h0 ?turn
  case hE => first | passes_own | with_unfolding_all passes_own
  case h0 => exact ⟨_, _, _, 0, _, [], _, [], [], _, _, rfl, fr1 (by k_asm) (by rfl), by assumption, by assumption, by assumption, (fun _ h => nomatch h), (fun _ h => nomatch h), (fun _ h => nomatch h), by omega, by omega, .nil, rfl, by omega, by omega, by omega, by simp, by simp⟩
  case turn =>
    rintro fd _ _ n s' ⟨h, tk, u, st, ta, vs, nn, acc, tups, oa, oo, rfl, F', N', hoa, hoo, hne, hne1, hne2, hf1, hf2, hd9, hv9, hs0, hs1, hsn, hac, hq⟩
    with_reducible show wpAny _ _ _ _ _ _
    k_fold
    k_steps
    · (refine endV hret (by k_asm) ?_; clear hret)
      rw [wid_L (by omega) (by omega)] at *
      rw [← hq, reading_cut (by omega) (by assumption) (opEnd_long0 (by assumption) (by omega) (by omega) (by omega))]
      exact .none
    · (refine endV hret (by k_asm) ?_; clear hret)
      rw [wid_L (by omega) (by omega)] at *
      rw [sum_L hks hs0 (by omega) (by omega) (by omega)] at *
      rw [← hq, reading_cut (by omega) (by assumption) (opEnd_long1 (by assumption) (by omega) (by omega) (by omega) (by omega))]
      exact .none
    · rw [wid_L (by omega) (by omega)] at *
      rw [sum_L hks hs0 (by omega) (by omega) (by omega)] at *
      have hv := value_nonneg (sl ks (st + 1) (st + 1 + wid (ks.getD st.toNat 0))).reverse fun k hk => (hks k (sl_mem (List.mem_reverse.mp hk))).1
      have hw := wid_pos (ks.getD st.toNat 0)
      have ho := opEnd_long (by assumption) (by omega) (by omega) (by omega) (show _ from by omega)
      rw [sl_clip _ (by omega) (by omega)] at *
      cases n with
      | zero => exfalso; omega
      | succ n =>
        have hw := wid_pos (ks.getD st.toNat 0)
        rw [reading_step (by assumption) ho] at hq
        simp only [List.push_toArray] at *
        exact ⟨n, Nat.lt_succ_self n, _, _, _, _, _, vs ++ [_], _, acc ++ [(ks.getD st.toNat 0, opData ks st (ks.getD st.toNat 0) _)], (_, _) :: tups, _, _, rfl, fr1 (by k_asm) (by rfl),
          pick4 (by assumption) (by k_mem) (by k_mem) (by k_mem) (.head _) (by intro p hp; repeat (first | assumption | apply List.Mem.tail)), by assumption, hoo,
          List.forall_mem_cons.mpr ⟨neN (by dsimp only; omega), hne⟩, List.forall_mem_cons.mpr ⟨neN (by dsimp only; omega), hne1⟩, List.forall_mem_cons.mpr ⟨neN (by dsimp only; omega), hne2⟩, hf1, hf2,
          by rw [List.map_append]; exact (hd9.mono fun _ h => .tail _ h).append (.cons (.tuple (.head _) (.cons (dInt rfl) (.cons (by unfold opData; rw [if_neg (by omega), if_pos (by omega)]; exact dBytes (by assumption)) .nil))) .nil), by simp [hv9], by omega, by omega, by omega, by rw [List.length_append, List.length_singleton]; omega, opt_snoc hq⟩
    · (refine endV hret (by k_asm) ?_; clear hret)
      rw [← hq, reading_cut (by omega) (by assumption) ((opEnd_short (by assumption) (by omega) (by omega)).trans (if_neg (by omega)))]
      exact .none
    · have ho := (opEnd_short (by assumption) (by omega) (by omega)).trans (if_pos (show st + 1 + ks.getD st.toNat 0 ≤ ks.length from by omega))
      rw [sl_clip _ (by omega) (by omega)] at *
      cases n with
      | zero => exfalso; omega
      | succ n =>
        have hw := wid_pos (ks.getD st.toNat 0)
        rw [reading_step (by assumption) ho] at hq
        simp only [List.push_toArray] at *
        exact ⟨n, Nat.lt_succ_self n, _, _, _, _, _, vs ++ [_], _, acc ++ [(ks.getD st.toNat 0, opData ks st (ks.getD st.toNat 0) _)], (_, _) :: tups, _, _, rfl, fr1 (by k_asm) (by rfl),
          pick4 (by assumption) (by k_mem) (by k_mem) (by k_mem) (.head _) (by intro p hp; repeat (first | assumption | apply List.Mem.tail)), by assumption, hoo,
          List.forall_mem_cons.mpr ⟨neN (by dsimp only; omega), hne⟩, List.forall_mem_cons.mpr ⟨neN (by dsimp only; omega), hne1⟩, List.forall_mem_cons.mpr ⟨neN (by dsimp only; omega), hne2⟩, hf1, hf2,
          by rw [List.map_append]; exact (hd9.mono fun _ h => .tail _ h).append (.cons (.tuple (.head _) (.cons (dInt rfl) (.cons (by unfold opData; rw [if_pos (by omega)]; exact dBytes (by assumption)) .nil))) .nil), by simp [hv9], by omega, by omega, by omega, by rw [List.length_append, List.length_singleton]; omega, opt_snoc hq⟩
    · have ho := opEnd_bare (by assumption) (show ¬ (0 < ks.getD st.toNat 0 ∧ ks.getD st.toNat 0 ≤ 78) from by omega)
      cases n with
      | zero => exfalso; omega
      | succ n =>
        have hw := wid_pos (ks.getD st.toNat 0)
        rw [reading_step (by assumption) ho] at hq
        simp only [List.push_toArray] at *
        exact ⟨n, Nat.lt_succ_self n, _, _, _, _, _, vs ++ [_], _, acc ++ [(ks.getD st.toNat 0, opData ks st (ks.getD st.toNat 0) _)], (_, _) :: tups, _, _, rfl, fr1 (by k_asm) (by rfl),
          pick4 (by assumption) (by k_mem) (by k_mem) (by k_mem) (.head _) (by intro p hp; repeat (first | assumption | apply List.Mem.tail)), by assumption, hoo,
          List.forall_mem_cons.mpr ⟨neN (by dsimp only; omega), hne⟩, List.forall_mem_cons.mpr ⟨neN (by dsimp only; omega), hne1⟩, List.forall_mem_cons.mpr ⟨neN (by dsimp only; omega), hne2⟩, hf1, hf2,
          by rw [List.map_append]; exact (hd9.mono fun _ h => .tail _ h).append (.cons (.tuple (.head _) (.cons (dInt rfl) (.cons (by unfold opData; rw [if_neg (by omega), if_neg (by omega)]; exact dBytes rfl) .nil))) .nil), by simp [hv9], by omega, by omega, by omega, by rw [List.length_append, List.length_singleton]; omega, opt_snoc hq⟩
    · have ho := opEnd_bare (by assumption) (show ¬ (0 < ks.getD st.toNat 0 ∧ ks.getD st.toNat 0 ≤ 78) from by omega)
      cases n with
      | zero => exfalso; omega
      | succ n =>
        have hw := wid_pos (ks.getD st.toNat 0)
        rw [reading_step (by assumption) ho] at hq
        simp only [List.push_toArray] at *
        exact ⟨n, Nat.lt_succ_self n, _, _, _, _, _, vs ++ [_], _, acc ++ [(ks.getD st.toNat 0, opData ks st (ks.getD st.toNat 0) _)], (_, _) :: tups, _, _, rfl, fr1 (by k_asm) (by rfl),
          pick4 (by assumption) (by k_mem) (by k_mem) (by k_mem) (.head _) (by intro p hp; repeat (first | assumption | apply List.Mem.tail)), by assumption, hoo,
          List.forall_mem_cons.mpr ⟨neN (by dsimp only; omega), hne⟩, List.forall_mem_cons.mpr ⟨neN (by dsimp only; omega), hne1⟩, List.forall_mem_cons.mpr ⟨neN (by dsimp only; omega), hne2⟩, hf1, hf2,
          by rw [List.map_append]; exact (hd9.mono fun _ h => .tail _ h).append (.cons (.tuple (.head _) (.cons (dInt rfl) (.cons (by unfold opData; rw [if_neg (by omega), if_neg (by omega)]; exact dBytes rfl) .nil))) .nil), by simp [hv9], by omega, by omega, by omega, by rw [List.length_append, List.length_singleton]; omega, opt_snoc hq⟩
    · (refine endT hret _ (by k_asm) NG' (by k_asm) (by k_asm) (fun p hp => hp) ?_; clear hret)
      rw [← hq, reading_end (by omega)]
      show DatIn _ _ (Dat.list ((acc ++ []).map datStep))
      rw [List.append_nil]
      exact .list (.head _) (hd9.mono fun _ h => .tail _ (.tail _ (.tail _ h)))
end Mine
end
section
open PySem PySem.W PyProof.Rows PySem.Calls PySem.Spec
set_option Elab.async false
set_option linter.all false
set_option maxRecDepth 100000
set_option maxHeartbeats 8000000
namespace Mine
local macro_rules | `(tactic| walk_at "execs cons") => `(tactic| (k_here; (with_reducible refine execsC fun tk => ?_); (try dsimp only)))
local macro_rules | `(tactic| walk_at "execs nil") => `(tactic| (k_here; (with_reducible refine execsN fun tk => ?_); (try dsimp only)))
theorem pick_in {ks : List Int} {i j : Nat} (h : ∀ k ∈ ks, 0 ≤ k ∧ k < 256) : ∀ k ∈ List.take i (List.drop j ks), 0 ≤ k ∧ k < 256 := fun k hk => h k (List.mem_of_mem_drop (List.mem_of_mem_take hk))
theorem reading_facts {ks : List Int} (hks : ∀ k ∈ ks, 0 ≤ k ∧ k < 256) : ∀ {n : Nat} {st : Int} {l : List (Int × List Int)}, reading ks n st = some l → ∀ p ∈ l, 0 ≤ p.1 ∧ p.1 < 256 ∧ KBa.In p.2 ∧ p.2.length ≤ ks.length
  | 0, _, l, h, p, hp => by cases h; cases hp
  | n + 1, st, l, h, p, hp => by
    rw [reading] at h
    split at h
    · cases h; cases hp
    · split at h
      · cases h
      · rename_i e _
        cases hr : reading ks n e with
        | none => rw [hr] at h; cases h
        | some r =>
          rw [hr] at h
          cases h
          rcases List.mem_cons.mp hp with rfl | hp
          · refine ⟨(KBw.getD_in hks).1, (KBw.getD_in hks).2, opData_in hks, ?_⟩
            dsimp only
            unfold opData
            (repeat' split) <;> first | (rw [sl_len]; omega) | exact Nat.zero_le _
          · exact reading_facts hks hr p hp
theorem reading_len {ks : List Int} : ∀ {n : Nat} {st : Int} {l : List (Int × List Int)}, reading ks n st = some l → l.length ≤ n
  | 0, _, l, h => by cases h; exact Nat.le_refl _
  | n + 1, st, l, h => by
    rw [reading] at h
    split at h
    · cases h; exact Nat.zero_le _
    · split at h
      · cases h
      · rename_i e _
        cases hr : reading ks n e with
        | none => rw [hr] at h; cases h
        | some r =>
          rw [hr] at h
          cases h
          exact Nat.succ_le_succ (reading_len hr)
theorem dat_reading {tl : List (Addr × Obj)} {r : Value} {l : List (Int × List Int)} (d : DatIn tl r (.list (l.map datStep))) : ∃ (a : Addr) (vs : List Value) (n : Nat), r = .ref a ∧ (a, W.listOf vs.toArray n) ∈ tl ∧ vs.length = l.length ∧ DatAll tl vs (l.map datStep) := by
  cases d with
  | list hm r => exact ⟨_, _, _, rfl, hm, by rw [r.length, List.length_map], r⟩
theorem newsA {tl : List (Addr × Obj)} {h₀ h : Heap} {L : Addr} {q : Addr × Obj} (N : News h₀ L h (tl ++ [])) (hq : q ∈ tl) : News h₀ L h (q :: tl) := fun p hp => N p (by
  rw [List.append_nil]
  rcases List.mem_cons.mp hp with rfl | hp
  · exact hq
  · exact hp)
section
variable {prog : Program} {w : World} {A : Around} {E : Value → Shared → Prop} {s : Shared} {h₀ : Heap} {L a : Addr}
/-- an item of the list that _law_reading hands back -/
theorem itemStep {value slice : PySem.Expr} {nx tl : List (Addr × Obj)} {vs : List Value} {l : List (Int × List Int)} {n N9 : Nat} {k : Int} {u : Tok} {Q : Value → Shared → Prop} (j : Nat) (N : News h₀ L s.heap nx) (hm : (a, W.listOf vs.toArray n) ∈ nx) (hv : vs.length = l.length) (hd : DatAll tl vs (l.map datStep))
    (hf : ∀ p ∈ l, 0 ≤ p.1 ∧ p.1 < 256 ∧ KBa.In p.2 ∧ p.2.length ≤ N9) (hj : j < l.length) (hl : l.length ≤ 1000) (hk : (0 ≤ k ∧ k = j) ∨ (k < 0 ∧ k + l.length = j))
    (h : ∀ (p : Int × List Int) (t : Addr) (u : Tok) (b : Array UInt8) (w : Tok) (m : Nat), l[j]? = some p → (t, ({ cls := .type "tuple", data := .seq [.int p.1 u, .bytes b w].toArray m } : Obj)) ∈ tl → KBw.bInts b = p.2 → 0 ≤ p.1 → p.1 < 256 → p.2.length ≤ N9 → Q (.ref t) s)
    (hs : subscripted slice false (.ref a) (.int k u) = operate [.ref a, .int k u] (getItem (.ref a) (.int k u)) := by with_unfolding_all rfl) :
    wpAny (model prog w) A (subscriptTail value slice (.ref a) (.int k u)) Q E s := by
  obtain ⟨v, hv9, hD⟩ := hd.get (show j < (l.map datStep).length by rw [List.length_map]; exact hj)
  rw [List.getElem_map] at hD
  have hg := hf _ (List.getElem_mem hj)
  obtain ⟨t, x, y, m, rfl, hm2, h1, h2⟩ := dat_two hD
  obtain ⟨b, w, rfl, hb⟩ := dat_bytes hg.2.2.1 h2
  cases h1
  have hQ := h _ _ _ _ _ _ (List.getElem?_eq_getElem hj) hm2 hb hg.1 hg.2.1 hg.2.2.2
  have hL : s.heap.IsList a vs.toArray := ⟨_, (N _ hm).1, rfl, n, rfl⟩
  rcases hk with ⟨h0, h1⟩ | ⟨h0, h1⟩
  · exact tail_any hL.typeIs slot_list_getitem.lookup (wpAny_getItem_list hL h0 (by omega) (by rw [show k.toNat = j by omega]; simpa using hv9) hQ) hs
  · exact tail_any hL.typeIs slot_list_getitem.lookup (wpAny_getItem_list_neg hL h0 (by rw [List.size_toArray, hv]; omega) (by omega) (by rw [List.size_toArray, hv, show (k + (l.length : Int)).toNat = j by omega]; simpa using hv9) hQ) hs
theorem pick_1_2 {vs : List Value} (h : 4 ≤ vs.length) : kms_pick vs.toArray.toList (some 1) (some (-2)) = (vs.drop 1).take (vs.length - 3) := by
  rw [List.toList_toArray]
  unfold kms_pick
  have h1 : kms_lo (some 1) vs.length = 1 := by simp [kms_lo]; omega
  have h2 : kms_hi (some (-2)) vs.length = vs.length - 2 := by simp [kms_hi]
  rw [h1, h2]
  congr 1
end
theorem datAll_drop {tl : List (Addr × Obj)} : ∀ (n : Nat) {vs : List Value} {ds : List Dat}, DatAll tl vs ds → DatAll tl (vs.drop n) (ds.drop n)
  | 0, _, _, h => h
  | n + 1, _, _, .nil => .nil
  | n + 1, _, _, .cons _ r => datAll_drop n r
theorem datAll_take {tl : List (Addr × Obj)} : ∀ (n : Nat) {vs : List Value} {ds : List Dat}, DatAll tl vs ds → DatAll tl (vs.take n) (ds.take n)
  | 0, _, _, _ => .nil
  | n + 1, _, _, .nil => .nil
  | n + 1, _, _, .cons h r => .cons h (datAll_take n r)
theorem dat_pick {tl : List (Addr × Obj)} {vs : List Value} {l : List (Int × List Int)} (hv : vs.length = l.length) (hd : DatAll tl vs (l.map datStep)) : DatAll tl ((vs.drop 1).take (vs.length - 3)) (((l.drop 1).take (l.length - 3)).map datStep) := by
  rw [hv, List.map_take, List.map_drop]
  exact datAll_take _ (datAll_drop 1 hd)
section
variable {prog : Program} {w : World} {A : Around} {E : Value → Shared → Prop} {s : Shared} {h₀ : Heap} {L : Addr} {m : Str → Option Value} {env : Env} {cl : List (Str × Addr)}
open PyProof.Rows.LCg PyProof.Rows.LCp PyProof.Rows.LCt
theorem restP_data {x x₂ : Str} {pos : Pos} {scope : Scope} {ax : Addr} {its : Array Value} {Fin : List Value → List (Addr × Obj) → Prop} {news tl : List (Addr × Obj)} (hS : SrcAt h₀ ax its news) (hsub : ∀ p ∈ tl, p ∈ news)
    (hk : ∀ C, (compEnvC scope cl C env).scope.kind = .function) (hx : ∀ C, (compEnvC scope cl C env).kindOf x₂ = some .local) (hd : (x₂ == ("__debug__" : Str)) = false) :
    ∀ (k i : Nat) (us : List Value) (l : List (Int × List Int)) (ys : List Value), its.toList.drop i = us → us.length = k → DatAll tl us (l.map datStep) → (∀ p ∈ l, KBa.In p.2) →
      (∀ zs, DatAll [] zs ((l.map (·.2)).map BY) → Fin (ys ++ zs) news) → CompRestP prog w A h₀ L m env (.Name x₂ pos) x x₂ scope cl s (SrcAt h₀ ax its) (fun i v => its[i]? = some v) Fin k i ys news
  | 0, i, us, l, ys, _, e, hd, _, hf => by
    rw [List.length_eq_zero_iff] at e
    subst e
    cases l with
    | nil => exact CompRestP.zero (by have := hf [] .nil; rwa [List.append_nil] at this)
    | cons p r => cases hd
  | k + 1, i, us, l, ys, hi, e, hd', hg, hf => by
    refine CompRestP.succ fun v hv => ?_
    cases us with
    | nil => cases e
    | cons u us =>
      cases l with
      | nil => cases hd'
      | cons p l =>
        have hu : its[i]? = some u := by
          have : (its.toList.drop i)[0]? = some u := by rw [hi]; rfl
          rw [List.getElem?_drop, Nat.add_zero] at this
          rw [← Array.getElem?_toList]
          exact this
        have hi' : its.toList.drop (i + 1) = us := by
          rw [← List.drop_drop, hi]
          rfl
        obtain rfl : u = v := Option.some.inj (hu.symm.trans hv)
        cases hd' with
        | cons h1 h2 =>
          obtain ⟨t, a, b, n, rfl, hm, ha, hb⟩ := dat_two h1
          refine ⟨t, _, a, b, n, rfl, hsub _ hm, rfl, rfl, ?_⟩
          intro I oI C oC D m₂ h tk E' hC h1 h2' F N off ne
          refine LCgL.ld_own N (.tail _ (.head _)) hC h2' ?_ (hk C) (hx C) hd
          refine CompEnd.intro F N news (fun _ h => h) off hS ?_
          refine restP_data hS hsub hk hx hd k (i + 1) us l (ys ++ [b]) hi' (Nat.succ.inj e) h2 (fun p hp => hg p (.tail _ hp)) fun zs hz => ?_
          rw [List.append_assoc]
          obtain ⟨b', t', rfl, hb'⟩ := dat_bytes (hg p (.head _)) hb
          exact hf _ (.cons (dBytes hb') hz)
theorem srcP {x x₂ : Str} {pos : Pos} {scope : Scope} {ax : Addr} {us : List Value} {n : Nat} {Fin : Shared → List Value → List (Addr × Obj) → Prop} {news tl : List (Addr × Obj)} {l : List (Int × List Int)} (hh : A.handled = none) (F : Fr h₀ L s.heap m) (N : News h₀ L s.heap news) (hm : (ax, W.listOf us.toArray n) ∈ news)
    (hd : DatAll tl us (l.map datStep)) (hsub : ∀ p ∈ tl, p ∈ news) (hg : ∀ p ∈ l, KBa.In p.2) (hz : us.length ≤ 1000)
    (hk : ∀ C, (compEnvC scope cl C env).scope.kind = .function) (hx : ∀ C, (compEnvC scope cl C env).kindOf x₂ = some .local) (hdb : (x₂ == ("__debug__" : Str)) = false)
    (h : ∀ g zs, zs.length = l.length → DatAll [] zs ((l.map (·.2)).map BY) → Fin { s with heap := g } zs news) :
    SrcLP prog w A h₀ L m env (.Name x₂ pos) x x₂ scope cl Fin (.ref ax) s := by
  refine SrcLP.ledger hh F N hm (by rw [List.size_toArray, sizeLine_eq]; omega) fun g => ?_
  refine restP_data (.inr ⟨_, hm, rfl, _, rfl⟩) hsub hk hx hdb _ 0 us l [] rfl (by rw [List.size_toArray]) hd hg fun zs hz => ?_
  exact h g _ (by rw [List.nil_append, hz.length, List.length_map, List.length_map]) hz
/-- the end of an item's walk -/
def TEnd (P : Prop) : Prop := P
theorem restT_keep {ct : PySem.Expr} {x : Str} {pos : Pos} {scope : Scope} {ax : Addr} {its : Array Value} {Fin : List Value → List (Addr × Obj) → Prop} {news : List (Addr × Obj)} {keep : List Int → Bool} (hS : SrcAt h₀ ax its news)
    (hk : ∀ C, (compEnvC scope cl C env).scope.kind = .function) (hx : ∀ C, (compEnvC scope cl C env).kindOf x = some .local) (hd : (x == ("__debug__" : Str)) = false)
    (item : ∀ (b : Array UInt8) (t : Tok) (ks : List Int) (ys : List Value), KBw.bInts b = ks → ks.length ≤ 1000 → ∀ I oI C oC D m₂ h tk (E' : Value → Shared → Prop), NsObj oC m₂ → m₂ x = some (.bytes b t) → Fr h₀ L h m → News h₀ L h ((I, oI) :: (C, oC) :: (D, lst ys) :: news) → Off3 I C D news → ((@Ne Nat I C) ∧ (@Ne Nat I D) ∧ (@Ne Nat C D)) →
      wpAny (model prog w) A (isTrue ct (compEnvC scope cl C env) (eval ct (compEnvC scope cl C env))) (fun ok s' => TEnd (ok = keep ks ∧ ∃ h' tk', s' = { s with heap := h', toks := tk' } ∧ Fr h₀ L h' m ∧ News h₀ L h' ((I, oI) :: (C, oC) :: (D, lst ys) :: news))) E' { s with heap := h, toks := tk }) :
    ∀ (k i : Nat) (us : List Value) (l : List (List Int)) (ys : List Value), its.toList.drop i = us → us.length = k → DatAll [] us (l.map BY) → (∀ p ∈ l, KBa.In p ∧ p.length ≤ 1000) →
      (∀ zs, DatAll [] zs ((l.filter keep).map BY) → Fin (ys ++ zs) news) → CompRestT prog w A h₀ L m env ct (.Name x pos) x scope cl s (SrcAt h₀ ax its) (fun i v => its[i]? = some v) Fin k i ys news
  | 0, i, us, l, ys, _, e, hd, _, hf => by
    rw [List.length_eq_zero_iff] at e
    subst e
    cases l with
    | nil => exact CompRestT.zero (by have := hf [] .nil; rwa [List.append_nil] at this)
    | cons p r => cases hd
  | k + 1, i, us, l, ys, hi, e, hd', hg, hf => by
    refine CompRestT.succ ?_
    intro v I oI C oC D m₂ h tk E' hv hC hxv F N off ne
    cases us with
    | nil => cases e
    | cons u us =>
      cases l with
      | nil => cases hd'
      | cons p l =>
        have hu : its[i]? = some u := by
          have : (its.toList.drop i)[0]? = some u := by rw [hi]; rfl
          rw [List.getElem?_drop, Nat.add_zero] at this
          rw [← Array.getElem?_toList]
          exact this
        have hi' : its.toList.drop (i + 1) = us := by
          rw [← List.drop_drop, hi]
          rfl
        obtain rfl : u = v := Option.some.inj (hu.symm.trans hv)
        cases hd' with
        | cons h1 h2 =>
          obtain ⟨b, t, rfl, hb⟩ := dat_bytes (hg p (.head _)).1 h1
          refine wpAny_mono (item b t p ys hb (hg p (.head _)).2 I oI C oC D m₂ h tk E' hC hxv F N off ne) (fun ok s' hs' => ?_) fun _ _ y => y
          obtain ⟨hok, h', tk', rfl, F', N'⟩ := hs'
          by_cases hc : keep p = true
          · rw [if_pos (hok.trans hc)]
            refine LCgL.ld_own N' (.tail _ (.head _)) hC hxv ?_ (hk C) (hx C) hd
            refine CompEnd.intro F' N' news (fun _ h => h) off hS ?_
            refine restT_keep hS hk hx hd item k (i + 1) us l (ys ++ [.bytes b t]) hi' (Nat.succ.inj e) h2 (fun p hp => hg p (.tail _ hp)) fun zs hz => ?_
            rw [List.append_assoc]
            refine hf _ ?_
            rw [List.filter_cons_of_pos hc]
            exact .cons (dBytes hb) hz
          · rw [if_neg (by rw [hok]; exact hc)]
            refine CompEnd.intro F' N' news (fun _ h => h) off hS ?_
            refine restT_keep hS hk hx hd item k (i + 1) us l ys hi' (Nat.succ.inj e) h2 (fun p hp => hg p (.tail _ hp)) fun zs hz => ?_
            refine hf _ ?_
            rw [List.filter_cons_of_neg hc]
            exact hz
theorem srcT {ct : PySem.Expr} {x : Str} {pos : Pos} {scope : Scope} {ax : Addr} {us : List Value} {n : Nat} {Fin : Shared → List Value → List (Addr × Obj) → Prop} {news : List (Addr × Obj)} {l : List (List Int)} {keep : List Int → Bool} (hh : A.handled = none) (F : Fr h₀ L s.heap m) (N : News h₀ L s.heap news) (hm : (ax, W.listOf us.toArray n) ∈ news)
    (hd : DatAll [] us (l.map BY)) (hg : ∀ p ∈ l, KBa.In p ∧ p.length ≤ 1000) (hz : us.length ≤ 1000)
    (hk : ∀ C, (compEnvC scope cl C env).scope.kind = .function) (hx : ∀ C, (compEnvC scope cl C env).kindOf x = some .local) (hdb : (x == ("__debug__" : Str)) = false)
    (item : ∀ (b : Array UInt8) (t : Tok) (ks : List Int) (ys : List Value), KBw.bInts b = ks → ks.length ≤ 1000 → ∀ I oI C oC D m₂ h tk (E' : Value → Shared → Prop), NsObj oC m₂ → m₂ x = some (.bytes b t) → Fr h₀ L h m → News h₀ L h ((I, oI) :: (C, oC) :: (D, lst ys) :: news) → Off3 I C D news → ((@Ne Nat I C) ∧ (@Ne Nat I D) ∧ (@Ne Nat C D)) →
      wpAny (model prog w) A (isTrue ct (compEnvC scope cl C env) (eval ct (compEnvC scope cl C env))) (fun ok s' => TEnd (ok = keep ks ∧ ∃ h' tk', s' = { s with heap := h', toks := tk' } ∧ Fr h₀ L h' m ∧ News h₀ L h' ((I, oI) :: (C, oC) :: (D, lst ys) :: news))) E' { s with heap := h, toks := tk })
    (h : ∀ g zs, zs.length = (l.filter keep).length → DatAll [] zs ((l.filter keep).map BY) → Fin { s with heap := g } zs news) :
    CompSrcT prog w A h₀ L m env ct (.Name x pos) x scope cl Fin (.ref ax) s := by
  refine CompSrcT.ledger hh F N hm (by rw [List.size_toArray, sizeLine_eq]; omega) fun g => ?_
  refine restT_keep (s := { s with heap := g }) (keep := keep) (.inr ⟨_, hm, rfl, _, rfl⟩) hk hx hdb item us.toArray.size 0 us l [] rfl (by rw [List.size_toArray]) hd hg fun zs hz => ?_
  exact h g _ (by rw [List.nil_append, hz.length, List.length_map]) hz
/-- a list against the empty list -/
theorem listNil {a b : Addr} {nx : List (Addr × Obj)} {zs : List Value} {n k : Nat} {Q : Value → Shared → Prop} (N : News h₀ L s.heap nx) (ha : (a, W.listOf zs.toArray n) ∈ nx) (hb : (b, W.listOf #[] k) ∈ nx) (hu : A.units < cLine) (h : Q (.bool (decide (zs.length = 0))) s) :
    wpAny (model prog w) A (compareOp .Eq (.ref a) (.ref b)) Q E s := by
  have hA : s.heap.IsList a zs.toArray := ⟨_, (N _ ha).1, rfl, n, rfl⟩
  have hB : s.heap.IsList b #[] := ⟨_, (N _ hb).1, rfl, k, rfl⟩
  cases zs with
  | nil => exact PySem.SeqAt.eq_listAt (e := fun _ => true) hA hB rfl hu (fun j h1 _ => absurd h1 (Nat.not_lt_zero j)) (by simpa using h)
  | cons z zs => exact PySem.SeqAt.eq_list_lengthsAt hA hB (by simp) hu (by simpa using h)
end
theorem pick_facts {l : List (Int × List Int)} {M : Nat} (h : ∀ p ∈ l, 0 ≤ p.1 ∧ p.1 < 256 ∧ KBa.In p.2 ∧ p.2.length ≤ M) : ∀ p ∈ (l.drop 1).take (l.length - 3), KBa.In p.2 := fun p hp => (h p (List.mem_of_mem_drop (List.mem_of_mem_take hp))).2.2.1
theorem pick_facts2 {l : List (Int × List Int)} {M : Nat} (h : ∀ p ∈ l, 0 ≤ p.1 ∧ p.1 < 256 ∧ KBa.In p.2 ∧ p.2.length ≤ M) (hM : M ≤ 1000) : ∀ p ∈ ((l.drop 1).take (l.length - 3)).map (·.2), KBa.In p ∧ p.length ≤ 1000 := fun p hp => by
  obtain ⟨q, hq, rfl⟩ := List.mem_map.mp hp
  have := h q (List.mem_of_mem_drop (List.mem_of_mem_take hq))
  exact ⟨this.2.2.1, by omega⟩
end Mine
end
section
open PySem PySem.W PyProof.Rows PySem.Calls PySem.Spec
set_option Elab.async false
set_option linter.all false
set_option maxRecDepth 100000
set_option maxHeartbeats 8000000
namespace Mine
local macro_rules | `(tactic| walk_at "execs cons") => `(tactic| (k_here; (with_reducible refine execsC fun tk => ?_); (try dsimp only)))
local macro_rules | `(tactic| walk_at "execs nil") => `(tactic| (k_here; (with_reducible refine execsN fun tk => ?_); (try dsimp only)))
/-! the plain law: what solver tells is what the law's reading tells -/
def manyOf (l : List (Int × List Int)) : Option (Int × List (List Int)) :=
  if l.length < 4 ∨ (l.getD (l.length - 1) (0, [])).1 ≠ 174 then none
  else match lawNumber (l.getD 0 (0, [])).1 (l.getD 0 (0, [])).2, lawNumber (l.getD (l.length - 2) (0, [])).1 (l.getD (l.length - 2) (0, [])).2 with
  | some a, some b => if 1 ≤ a ∧ a ≤ b ∧ b ≤ 20 ∧ ((l.length - 3 : Nat) : Int) = b ∧ ((l.drop 1).take (l.length - 3)).all (fun p => keyOk p.2) = true then some (a, ((l.drop 1).take (l.length - 3)).map (·.2)) else none
  | _, _ => none
def lawMany (ks : List Int) : Option (Int × List (List Int)) := (reading ks ks.length 0).bind manyOf
def lowAll (l : List (Int × List Int)) : Bool := l.all fun p => decide (p.1 ≤ 96)
def due5 (ks : List Int) : String × List (List Int) := match lawMany ks with
  | some x => ("multisig", [x.1] :: (x.2 ++ [[(x.2.length : Int)]]))
  | none => ("nonstandard", [])
def due4 (ks : List Int) : String × List (List Int) := match s157 ks with
  | some k => ("pubkeyhash", [k])
  | none => due5 ks
def due3 (ks : List Int) : String × List (List Int) :=
  if (ks.length = 35 ∨ ks.length = 67) ∧ ks.getD 0 0 + 2 = ks.length ∧ ks.getD (-1 + (ks.length : Int)).toNat 0 = 172 ∧ keyOk (sl ks 1 (-1 + (ks.length : Int))) = true then ("pubkey", [sl ks 1 (-1 + (ks.length : Int))]) else due4 ks
def due2 (ks : List Int) : String × List (List Int) :=
  if 0 < ks.length ∧ ks.getD 0 0 = 106 ∧ ((reading (ks.drop 1) (ks.drop 1).length 0).any lowAll) = true then ("nulldata", []) else due3 ks
def dueW (ks : List Int) : String × List (List Int) :=
  if ks.getD 0 0 = 0 ∧ ks.length = 22 then ("witness_v0_keyhash", [ks.drop 2])
  else if ks.getD 0 0 = 0 ∧ ks.length = 34 then ("witness_v0_scripthash", [ks.drop 2])
  else if ks.getD 0 0 = 81 ∧ ks.length = 34 then ("witness_v1_taproot", [ks.drop 2])
  else if s108 ks = true then ("anchor", [])
  else if 81 ≤ ks.getD 0 0 then ("witness_unknown", [[ks.getD 0 0 - 80], ks.drop 2])
  else ("nonstandard", [])
def due1 (ks : List Int) : String × List (List Int) :=
  if 4 ≤ ks.length ∧ ks.length ≤ 42 ∧ (ks.getD 0 0 = 0 ∨ (81 ≤ ks.getD 0 0 ∧ ks.getD 0 0 ≤ 96)) ∧ ks.getD 1 0 + 2 = ks.length then dueW ks else due2 ks
def dueS (ks : List Int) : String × List (List Int) :=
  if ks.length = 23 ∧ ks.take 2 = [169, 20] ∧ ks.getD 22 0 = 135 then ("scripthash", [sl ks 2 22]) else due1 ks

section
variable {ks : List Int} (hks : ∀ k ∈ ks, 0 ≤ k ∧ k < 256)
include hks
theorem reading_fuel : ∀ (n m : Nat) (st : Int), ((ks.length : Int) - st).toNat ≤ n → ((ks.length : Int) - st).toNat ≤ m → reading ks n st = reading ks m st
  | 0, m, st, h, _ => by rw [reading_end (by omega), reading_end (by omega)]
  | n + 1, 0, st, _, h => by rw [reading_end (by omega), reading_end (by omega)]
  | n + 1, m + 1, st, h1, h2 => by
    by_cases hs : (ks.length : Int) ≤ st
    · rw [reading_end hs, reading_end hs]
    · cases ho : opEnd ks st with
      | none => rw [reading_cut (by omega) (by omega) ho, reading_cut (by omega) (by omega) ho]
      | some e =>
        have := opEnd_gt hks ho
        rw [reading_step (by omega) ho, reading_step (by omega) ho, reading_fuel n m e (by omega) (by omega)]
theorem R_step {st e : Int} (h0 : 0 ≤ st) (ho : opEnd ks st = some e) : reading ks ks.length st = (reading ks ks.length e).map ((ks.getD st.toNat 0, opData ks st (ks.getD st.toNat 0) e) :: ·) := by
  have := opEnd_gt hks ho
  rw [reading_fuel hks ks.length (ks.length + 1) st (by omega) (by omega), reading_step (by omega) ho]
omit hks in
theorem opEnd_past {st : Int} (h : (ks.length : Int) ≤ st) : opEnd ks st = none := by
  unfold opEnd
  rw [if_pos h]
theorem R_inv {st : Int} (h0 : 0 ≤ st) {l : List (Int × List Int)} (h : reading ks ks.length st = some l) : (l = [] ∧ (ks.length : Int) ≤ st) ∨ ∃ e r, opEnd ks st = some e ∧ reading ks ks.length e = some r ∧ l = (ks.getD st.toNat 0, opData ks st (ks.getD st.toNat 0) e) :: r := by
  by_cases hs : (ks.length : Int) ≤ st
  · rw [reading_end hs] at h
    cases h
    exact .inl ⟨rfl, hs⟩
  · cases ho : opEnd ks st with
    | none =>
      rw [reading_cut (by omega) (by omega) ho] at h
      cases h
    | some e =>
      rw [R_step hks h0 ho] at h
      cases hr : reading ks ks.length e with
      | none => rw [hr] at h; cases h
      | some r =>
        rw [hr] at h
        cases h
        exact .inr ⟨e, r, rfl, hr, rfl⟩
omit hks in
theorem opData_link {st c e : Int} (h : 78 < c) : opData ks st c e = [] := by
  unfold opData
  rw [if_neg (by omega), if_neg (by omega)]
omit hks in
theorem reading_link : ∀ {n : Nat} {st : Int} {l : List (Int × List Int)}, reading ks n st = some l → ∀ p ∈ l, 78 < p.1 → p.2 = []
  | 0, _, l, h, p, hp => by cases h; cases hp
  | n + 1, st, l, h, p, hp => by
    rw [reading] at h
    split at h
    · cases h; cases hp
    · split at h
      · cases h
      · rename_i e _
        cases hr : reading ks n e with
        | none => rw [hr] at h; cases h
        | some r =>
          rw [hr] at h
          cases h
          rcases List.mem_cons.mp hp with rfl | hp
          · exact fun hc => opData_link hc
          · exact reading_link hr p hp
/-- what the walk over the keys comes to -/
theorem keys_split : ∀ (n : Nat) (st : Int), 0 ≤ st → ((ks.length : Int) - st).toNat ≤ n → ∃ pre : List (Int × List Int), (∀ p ∈ pre, keyOk p.2 = true) ∧
    ((∃ pos, keysFrom ks n st = (pre.map (·.2), pos, 255, []) ∧ opEnd ks pos = none ∧ st ≤ pos ∧ reading ks ks.length st = (reading ks ks.length pos).map (pre ++ ·)) ∨
     (∃ pos c d, keysFrom ks n st = (pre.map (·.2), pos, c, d) ∧ keyOk d = false ∧ st < pos ∧ pos ≤ ks.length ∧ reading ks ks.length st = (reading ks ks.length pos).map (fun r => pre ++ (c, d) :: r)))
  | 0, st, _, h => ⟨[], (fun _ hp => nomatch hp), .inl ⟨st, rfl, opEnd_past (by omega), Int.le_refl _, by cases reading ks ks.length st <;> rfl⟩⟩
  | n + 1, st, h0, h => by
    cases ho : opEnd ks st with
    | none => exact ⟨[], (fun _ hp => nomatch hp), .inl ⟨st, keysFrom_none ho, ho, Int.le_refl _, by cases reading ks ks.length st <;> rfl⟩⟩
    | some e =>
      have hg := opEnd_gt hks ho
      have hr := R_step hks h0 ho
      cases hk : keyOk (opData ks st (ks.getD st.toNat 0) e) with
      | false => exact ⟨[], (fun _ hp => nomatch hp), .inr ⟨e, _, _, keysFrom_stop (by omega) ho hk, hk, by omega, by omega, hr⟩⟩
      | true =>
        obtain ⟨pre, hp, hh⟩ := keys_split n e (by omega) (by omega)
        refine ⟨(ks.getD st.toNat 0, opData ks st (ks.getD st.toNat 0) e) :: pre, fun p hp' => ?_, ?_⟩
        · rcases List.mem_cons.mp hp' with rfl | hp'
          · exact hk
          · exact hp p hp'
        · rw [keysFrom_step ho hk]
          rcases hh with ⟨pos, e1, e2, e3, e4⟩ | ⟨pos, c, d, e1, e2, e3, e4, e5⟩
          · refine .inl ⟨pos, by rw [e1]; rfl, e2, by omega, ?_⟩
            rw [hr, e4]
            cases reading ks ks.length pos <;> rfl
          · refine .inr ⟨pos, c, d, by rw [e1]; rfl, e2, by omega, e4, ?_⟩
            rw [hr, e5]
            cases reading ks ks.length pos <;> rfl
end
theorem num_iff {op lo k : Int} {d : List Int} : numIn op d lo = some k ↔ lawNumber op d = some k ∧ lo ≤ k ∧ k ≤ 20 := by
  unfold numIn lawNumber
  by_cases h1 : 81 ≤ op ∧ op ≤ 96
  · rw [if_pos h1, if_pos h1]
    by_cases h2 : lo ≤ op - 80
    · rw [if_pos h2]
      constructor
      · intro h; cases h; exact ⟨rfl, h2, by omega⟩
      · exact fun h => h.1
    · rw [if_neg h2]
      constructor
      · intro h; cases h
      · rintro ⟨h, h3, _⟩; cases h; exact absurd h3 h2
  · rw [if_neg h1, if_neg h1]
    by_cases h2 : op = 1 ∧ d.length = 1 ∧ 17 ≤ d.getD 0 0 ∧ d.getD 0 0 ≤ 127
    · rw [if_pos h2]
      by_cases h3 : lo ≤ d.getD 0 0 ∧ d.getD 0 0 ≤ 20
      · rw [if_pos ⟨h2.1, h2.2.1, h2.2.2.1, h3⟩]
        constructor
        · intro h; cases h; exact ⟨rfl, h3⟩
        · exact fun h => h.1
      · rw [if_neg (fun h => h3 h.2.2.2)]
        constructor
        · intro h; cases h
        · rintro ⟨h, h4⟩; cases h; exact absurd h4 h3
    · rw [if_neg h2, if_neg (fun h => h2 ⟨h.1, h.2.1, h.2.2.1, by omega⟩)]
      constructor
      · intro h; cases h
      · rintro ⟨h, _⟩; cases h
theorem lawNumber_key {p : Int × List Int} {k : Int} (hl : 78 < p.1 → p.2 = []) (h : lawNumber p.1 p.2 = some k) : keyOk p.2 = false := by
  have hlen : p.2.length < 2 := by
    unfold lawNumber at h
    split at h
    · rw [hl (by omega)]; decide
    · split at h
      · omega
      · cases h
  unfold keyOk
  rw [Bool.eq_false_iff]
  intro hh
  simp only [Bool.or_eq_true, Bool.and_eq_true, beq_iff_eq] at hh
  omega
theorem tail2_get {f x y : Int × List Int} {pre : List (Int × List Int)} {z : Int × List Int} : (f :: (pre ++ [x, y])).getD (pre.length + 2) z = y ∧ (f :: (pre ++ [x, y])).getD (pre.length + 1) z = x ∧ ((f :: (pre ++ [x, y])).drop 1).take pre.length = pre := by
  refine ⟨?_, ?_, ?_⟩
  · rw [List.getD_cons_succ, List.getD_eq_getElem?_getD, List.getElem?_append_right (by omega), show pre.length + 1 - pre.length = 1 by omega]; rfl
  · rw [List.getD_cons_succ, List.getD_eq_getElem?_getD, List.getElem?_append_right (by omega), Nat.sub_self]; rfl
  · show (pre ++ [x, y]).take pre.length = pre
    exact List.take_left' rfl
theorem manyOf_ok {f x y : Int × List Int} {pre : List (Int × List Int)} : manyOf (f :: (pre ++ [x, y])) =
    if pre.length < 1 ∨ y.1 ≠ 174 then none else match lawNumber f.1 f.2, lawNumber x.1 x.2 with
      | some a, some b => if 1 ≤ a ∧ a ≤ b ∧ b ≤ 20 ∧ (pre.length : Int) = b ∧ pre.all (fun p => keyOk p.2) = true then some (a, pre.map (·.2)) else none
      | _, _ => none := by
  have hl : (f :: (pre ++ [x, y])).length = pre.length + 3 := by simp
  obtain ⟨h1, h2, h3⟩ := @tail2_get f x y pre (0, [])
  unfold manyOf
  rw [hl]
  simp only [Nat.add_sub_cancel, show pre.length + 3 - 1 = pre.length + 2 from rfl, show pre.length + 3 - 2 = pre.length + 1 from rfl, h1, h2, h3, List.getD_cons_zero]
  have : (pre.length + 3 < 4) = (pre.length < 1) := propext ⟨fun h => by omega, fun h => by omega⟩
  simp only [this]
theorem split_last2 : ∀ l : List (Int × List Int), 4 ≤ l.length → ∃ f mid x y, l = f :: (mid ++ [x, y])
  | f :: r, h => by
    have h2 : 2 ≤ r.length := by simp at h; omega
    refine ⟨f, r.take (r.length - 2), r[r.length - 2]'(by omega), r[r.length - 1]'(by omega), ?_⟩
    congr 1
    conv => lhs; rw [← List.take_append_drop (r.length - 2) r]
    congr 1
    rw [List.drop_eq_getElem_cons (by omega)]
    congr 1
    rw [show r.length - 2 + 1 = r.length - 1 by omega, List.drop_eq_getElem_cons (by omega), show r.length - 1 + 1 = r.length by omega, List.drop_length]
theorem manyOf_inv {l : List (Int × List Int)} {a : Int × List (List Int)} (h : manyOf l = some a) : ∃ f mid x y b, l = f :: (mid ++ [x, y]) ∧ y.1 = 174 ∧ lawNumber f.1 f.2 = some a.1 ∧ lawNumber x.1 x.2 = some b ∧
    1 ≤ a.1 ∧ a.1 ≤ b ∧ b ≤ 20 ∧ (mid.length : Int) = b ∧ (∀ p ∈ mid, keyOk p.2 = true) ∧ a.2 = mid.map (·.2) := by
  by_cases h4 : 4 ≤ l.length
  · obtain ⟨f, mid, x, y, rfl⟩ := split_last2 l h4
    rw [manyOf_ok] at h
    split at h
    · cases h
    · rename_i hy
      split at h
      · rename_i a' b h1 h2
        split at h
        · rename_i h5
          cases h
          exact ⟨f, mid, x, y, b, rfl, by omega, h1, h2, h5.1, h5.2.1, h5.2.2.1, h5.2.2.2.1, fun p hp => List.all_eq_true.mp h5.2.2.2.2 p hp, rfl⟩
        · cases h
      · cases h
  · unfold manyOf at h
    rw [if_pos (.inl (by omega))] at h
    cases h
theorem last_one {ks : List Int} (hks : ∀ k ∈ ks, 0 ≤ k ∧ k < 256) {pos : Int} (h0 : 0 ≤ pos) {y : Int × List Int} (h : reading ks ks.length pos = some [y]) (hy : y.1 = 174) : pos + 1 = ks.length ∧ ks.getD pos.toNat 0 = 174 := by
  rcases R_inv hks h0 h with ⟨h1, _⟩ | ⟨e, r, ho, hr, h1⟩
  · cases h1
  · cases h1
    have hc : ks.getD pos.toNat 0 = 174 := hy
    have hg := opEnd_gt hks ho
    have hb := opEnd_bare hg.1 (by omega)
    rw [ho] at hb
    cases hb
    rcases R_inv hks (by omega) hr with ⟨_, h2⟩ | ⟨e, r, _, _, h2⟩
    · exact ⟨by omega, hc⟩
    · cases h2
theorem many_eq {ks : List Int} (hks : ∀ k ∈ ks, 0 ≤ k ∧ k < 256) : multisig ks = lawMany ks := by
  apply Option.ext
  intro a
  constructor
  · intro h
    unfold multisig at h
    split at h
    · cases h
    · rename_i h0
      split at h
      · cases h
      · rename_i e ho
        split at h
        · cases h
        · rename_i req hr
          have hg := opEnd_gt hks ho
          obtain ⟨pre, hp, hh⟩ := keys_split hks ks.length e (by omega) (by omega)
          rcases hh with ⟨pos, e1, e2, e3, e4⟩ | ⟨pos, c, d, e1, e2, e3, e4, e5⟩
          · rw [e1] at h
            simp only [numIn_255] at h
            cases h
          · rw [e1] at h
            dsimp only at h
            split at h
            · cases h
            · rename_i cnt hc
              split at h
              · cases h
              · rename_i hn
                cases h
                have hpos : pos + 1 = ks.length := by omega
                have hlen : ((pre.map (·.2)).length : Int) = cnt := by omega
                rw [List.length_map] at hlen
                have h174 : ks.getD pos.toNat 0 = 174 := by
                  have : ks.getD (-1 + (ks.length : Int)).toNat 0 = 174 := by omega
                  rw [show (-1 + (ks.length : Int)).toNat = pos.toNat by omega] at this
                  exact this
                have hb := opEnd_bare (ks := ks) (st := pos) (by omega) (by omega)
                have hR := R_step hks (by omega) hb
                rw [reading_end (ks := ks) (n := ks.length) (st := pos + 1) (by omega), h174, opData_link (by omega)] at hR
                rw [hR] at e5
                have h00 := R_step hks (Int.le_refl 0) ho
                rw [e5] at h00
                unfold lawMany
                rw [h00]
                show manyOf (_ :: (pre ++ [(c, d), (174, [])])) = _
                obtain ⟨n1, n2, n3⟩ := num_iff.mp hr
                obtain ⟨m1, m2, m3⟩ := num_iff.mp hc
                rw [manyOf_ok, if_neg (by rintro (h | h); · omega
                                          · exact h rfl)]
                simp only [Int.toNat_zero] at n1 ⊢
                rw [n1, m1]
                dsimp only
                rw [if_pos ⟨n2, m2, m3, hlen, List.all_eq_true.mpr hp⟩]
  · intro h
    unfold lawMany at h
    cases hl : reading ks ks.length 0 with
    | none => rw [hl] at h; cases h
    | some l =>
      rw [hl] at h
      obtain ⟨f, mid, x, y, b, rfl, hy, hf, hx, ha1, ha2, ha3, hm, hmid, ha⟩ := manyOf_inv (show manyOf l = some a from h)
      have hlink := reading_link hl
      have hkx : keyOk x.2 = false := lawNumber_key (hlink x (by simp)) hx
      rcases R_inv hks (Int.le_refl 0) hl with ⟨h1, _⟩ | ⟨e, r, ho, hr, h1⟩
      · cases h1
      · obtain ⟨hf', hr'⟩ := List.cons.inj h1
        subst hr'
        have hg := opEnd_gt hks ho
        obtain ⟨pre, hp, hh⟩ := keys_split hks ks.length e (by omega) (by omega)
        have good : ∃ pos c d, keysFrom ks ks.length e = (pre.map (·.2), pos, c, d) ∧ 0 ≤ pos ∧ pre = mid ∧ x = (c, d) ∧ reading ks ks.length pos = some [y] := by
          rcases hh with ⟨pos, e1, e2, e3, e4⟩ | ⟨pos, c, d, e1, e2, e3, e4, e5⟩
          · exfalso
            rw [e4] at hr
            cases hq : reading ks ks.length pos with
            | none => rw [hq] at hr; cases hr
            | some q =>
              rw [hq] at hr
              have hr : pre ++ q = mid ++ [x, y] := Option.some.inj hr
              rcases R_inv hks (by omega) hq with ⟨rfl, _⟩ | ⟨_, _, h9, _⟩
              · rw [List.append_nil] at hr
                have := hp x (by rw [hr]; simp)
                rw [hkx] at this
                cases this
              · rw [e2] at h9; cases h9
          · refine ⟨pos, c, d, e1, by omega, ?_⟩
            rw [e5] at hr
            cases hq : reading ks ks.length pos with
            | none => rw [hq] at hr; cases hr
            | some q =>
              rw [hq] at hr
              have hr : pre ++ (c, d) :: q = mid ++ [x, y] := Option.some.inj hr
              rcases List.append_eq_append_iff.mp hr with ⟨z, h7, h8⟩ | ⟨z, h7, h8⟩
              · cases z with
                | nil => cases h8; rw [List.append_nil] at h7; exact ⟨h7.symm, rfl, rfl⟩
                | cons z0 z =>
                  cases h8
                  have := hmid (c, d) (by rw [h7]; simp)
                  rw [show keyOk ((c, d) : Int × List Int).2 = keyOk d from rfl, e2] at this
                  cases this
              · cases z with
                | nil => cases h8; rw [List.append_nil] at h7; exact ⟨h7, rfl, rfl⟩
                | cons z0 z =>
                  have hxz := (List.cons.inj h8).1
                  have := hp x (by rw [h7, hxz]; simp)
                  rw [hkx] at this
                  cases this
        obtain ⟨pos, c, d, e1, hp0, rfl, rfl, hq⟩ := good
        obtain ⟨h5, h6⟩ := last_one hks hp0 hq hy
        have n1 : numIn (ks.getD 0 0) (opData ks 0 (ks.getD 0 0) e) 1 = some a.1 := num_iff.mpr ⟨by rw [hf'] at hf; exact hf, ha1, by omega⟩
        have n2 : numIn c d a.1 = some b := num_iff.mpr ⟨hx, ha2, ha3⟩
        unfold multisig
        rw [if_neg (by
          rw [show (-1 + (ks.length : Int)).toNat = pos.toNat by omega]
          omega), ho]
        dsimp only
        rw [n1]
        dsimp only
        rw [e1]
        dsimp only
        rw [n2]
        dsimp only
        rw [if_neg (by rw [List.length_map]; omega), ← ha]
/-! the rest of the plain law -/
theorem opEnd_shift {x : Int} {r : List Int} {st : Int} (h0 : 0 ≤ st) : opEnd (x :: r) (st + 1) = (opEnd r st).map (· + 1) := by
  have h1 : (x :: r).getD (st + 1).toNat 0 = r.getD st.toNat 0 := by rw [show (st + 1).toNat = st.toNat + 1 by omega]; rfl
  have h2 : ∀ i j : Int, 0 ≤ i → sl (x :: r) (i + 1) (j + 1) = sl r i j := fun i j hi => by
    unfold sl
    rw [show (i + 1).toNat = i.toNat + 1 by omega, List.drop_succ_cons]
    congr 1
    omega
  have h3 : sl (x :: r) (st + 1 + 1) (st + 1 + 1 + wid (r.getD st.toNat 0)) = sl r (st + 1) (st + 1 + wid (r.getD st.toNat 0)) := by
    rw [← h2 (st + 1) _ (by omega)]
    congr 1
    omega
  unfold opEnd
  rw [h1, h3, List.length_cons, Int.natCast_add]
  (repeat' split) <;> first | rfl | omega | (simp only [Option.map_some, Option.some.injEq]; omega)
theorem push_reading {x : Int} {r : List Int} (hr : ∀ k ∈ r, 0 ≤ k ∧ k < 256) : ∀ (n : Nat) (st : Int), 0 ≤ st → pushOnly (x :: r) n (st + 1) = (reading r n st).any lowAll
  | 0, st, _ => rfl
  | n + 1, st, h0 => by
    have h1 : (x :: r).getD (st + 1).toNat 0 = r.getD st.toNat 0 := by rw [show (st + 1).toNat = st.toNat + 1 by omega]; rfl
    rw [pushOnly, reading, h1, opEnd_shift h0, List.length_cons, Int.natCast_add]
    by_cases hs : (r.length : Int) ≤ st
    · rw [if_pos (by omega), if_pos hs]; rfl
    · rw [if_neg (by omega), if_neg hs]
      cases ho : opEnd r st with
      | none => rfl
      | some e =>
        have hg := opEnd_gt hr ho
        simp only [Option.map_some]
        rw [push_reading hr n e (by omega)]
        cases reading r n e with
        | none => simp
        | some l =>
          simp only [Option.map_some, Option.any_some]
          unfold lowAll
          rw [List.all_cons]
          dsimp only
          by_cases hc : 96 < r.getD st.toNat 0
          · rw [if_pos hc, decide_eq_false (by omega)]; rfl
          · rw [if_neg hc, decide_eq_true (by omega)]; rfl
theorem push_due {ks : List Int} (hks : ∀ k ∈ ks, 0 ≤ k ∧ k < 256) (h : 0 < ks.length) : pushOnly ks ks.length 1 = (reading (ks.drop 1) (ks.drop 1).length 0).any lowAll := by
  cases ks with
  | nil => exact absurd h (Nat.lt_irrefl 0)
  | cons x r =>
    have hr : ∀ k ∈ r, 0 ≤ k ∧ k < 256 := fun k hk => hks k (.tail _ hk)
    show pushOnly (x :: r) (r.length + 1) (0 + 1) = (reading r r.length 0).any lowAll
    rw [push_reading hr _ _ (Int.le_refl 0), reading_fuel hr (r.length + 1) r.length 0 (by omega) (by omega)]
theorem take2_iff {ks : List Int} (h : 2 ≤ ks.length) (a b : Int) : ks.take 2 = [a, b] ↔ ks.getD 0 0 = a ∧ ks.getD 1 0 = b := by
  match ks, h with
  | x :: y :: r, _ => simp
theorem s101_due (ks : List Int) : s101 ks = true ↔ (ks.length = 23 ∧ ks.take 2 = [169, 20] ∧ ks.getD 22 0 = 135) := by
  unfold s101
  rw [decide_eq_true_eq]
  constructor
  · rintro ⟨h1, h2, h3, h4⟩
    exact ⟨h1, (take2_iff (by omega) _ _).mpr ⟨h2, h3⟩, h4⟩
  · rintro ⟨h1, h2, h4⟩
    obtain ⟨h2, h3⟩ := (take2_iff (by omega) _ _).mp h2
    exact ⟨h1, h2, h3, h4⟩
theorem s150_due (ks : List Int) : s150 ks = if (ks.length = 35 ∨ ks.length = 67) ∧ ks.getD 0 0 + 2 = ks.length ∧ ks.getD (-1 + (ks.length : Int)).toNat 0 = 172 ∧ keyOk (sl ks 1 (-1 + (ks.length : Int))) = true then some (sl ks 1 (-1 + (ks.length : Int))) else none := by
  unfold s150
  by_cases h1 : ks.length = 67
  · rw [show (-1 + (ks.length : Int)) = 66 by omega]
    by_cases h2 : ks.getD 0 0 = 65 ∧ ks.getD (66 : Int).toNat 0 = 172
    · rw [if_pos ⟨h1, h2⟩]
      by_cases h3 : keyOk (sl ks 1 66) = true
      · rw [if_pos h3, if_pos ⟨.inr h1, by omega, h2.2, h3⟩]
      · rw [if_neg h3, if_neg (fun h => h3 h.2.2.2)]
    · rw [if_neg (fun h => h2 h.2), if_neg (by omega), if_neg (fun h => h2 ⟨by omega, h.2.2.1⟩)]
  · rw [if_neg (fun h => h1 h.1)]
    by_cases h4 : ks.length = 35
    · rw [show (-1 + (ks.length : Int)) = 34 by omega]
      by_cases h2 : ks.getD 0 0 = 33 ∧ ks.getD (34 : Int).toNat 0 = 172
      · rw [if_pos ⟨h4, h2⟩]
        by_cases h3 : keyOk (sl ks 1 34) = true
        · rw [if_pos h3, if_pos ⟨.inl h4, by omega, h2.2, h3⟩]
        · rw [if_neg h3, if_neg (fun h => h3 h.2.2.2)]
      · rw [if_neg (fun h => h2 h.2), if_neg (fun h => h2 ⟨by omega, h.2.2.1⟩)]
    · rw [if_neg (fun h => h4 h.1), if_neg (fun h => by rcases h.1 with h | h <;> contradiction)]
theorem due_eq {ks : List Int} (hks : ∀ k ∈ ks, 0 ≤ k ∧ k < 256) : solverS ks = dueS ks := by
  have h00 := KBw.getD_in (j := 0) hks
  unfold solverS dueS due1 due2 due3 due4 due5 dueW
  by_cases h1 : s101 ks = true
  · rw [if_pos h1, if_pos ((s101_due ks).mp h1)]
  · rw [if_neg h1, if_neg (fun h => h1 ((s101_due ks).mpr h))]
    by_cases h2 : 4 ≤ ks.length ∧ ks.length ≤ 42 ∧ (ks.getD 0 0 = 0 ∨ (81 ≤ ks.getD 0 0 ∧ ks.getD 0 0 ≤ 96)) ∧ ks.getD 1 0 + 2 = ks.length
    · rw [if_pos h2, show wit ks = some (if ks.getD 0 0 = 0 then 0 else ks.getD 0 0 - 80, ks.drop 2) from if_pos h2]
      have hd : (ks.drop 2).length = ks.length - 2 := List.length_drop ..
      dsimp only
      unfold solveWit
      rw [hd]
      (repeat' split) <;> first | rfl | omega
    · rw [if_neg h2, show wit ks = none from if_neg h2]
      dsimp only
      have e3 : (0 < ks.length ∧ ks.getD 0 0 = 106 ∧ pushOnly ks ks.length 1 = true) ↔ (0 < ks.length ∧ ks.getD 0 0 = 106 ∧ ((reading (ks.drop 1) (ks.drop 1).length 0).any lowAll) = true) :=
        ⟨fun h => ⟨h.1, h.2.1, (push_due hks h.1) ▸ h.2.2⟩, fun h => ⟨h.1, h.2.1, (push_due hks h.1) ▸ h.2.2⟩⟩
      rw [s150_due, many_eq hks]
      by_cases h3 : 0 < ks.length ∧ ks.getD 0 0 = 106 ∧ pushOnly ks ks.length 1 = true
      · rw [if_pos h3, if_pos (e3.mp h3)]
      · rw [if_neg h3, if_neg (fun h => h3 (e3.mpr h))]
        by_cases h4 : (ks.length = 35 ∨ ks.length = 67) ∧ ks.getD 0 0 + 2 = ks.length ∧ ks.getD (-1 + (ks.length : Int)).toNat 0 = 172 ∧ keyOk (sl ks 1 (-1 + (ks.length : Int))) = true
        · rw [if_pos h4, if_pos h4]
        · rw [if_neg h4, if_neg h4]
          first | done | rfl
end Mine
end
section
open PySem PySem.W PyProof.Rows PySem.Calls PySem.Spec
set_option Elab.async false
set_option linter.all false
set_option maxRecDepth 100000
set_option maxHeartbeats 8000000
namespace Mine
local macro_rules | `(tactic| walk_at "execs cons") => `(tactic| (k_here; (with_reducible refine execsC fun tk => ?_); (try dsimp only)))
local macro_rules | `(tactic| walk_at "execs nil") => `(tactic| (k_here; (with_reducible refine execsN fun tk => ?_); (try dsimp only)))
theorem getD_of {l : List (Int × List Int)} {i : Nat} {p : Int × List Int} (h : l[i]? = some p) : p = l.getD i (0, []) := by rw [List.getD_eq_getElem?_getD, h]; rfl
local macro_rules | `(tactic| walk_at "call ref") => `(tactic| (k_here; (with_reducible show wpAny _ _ (call (Value.ref 183) [Value.bytes _ _]) _ _ _); k_dflt (refine' Ct.use (t183 _ _ _ _ _ _ _ ?hb ?hl) ?k1 ?k2 ?k3 ?k4 ?k5 ?kK ?kd ?ku ?_; (case hb => kba_ints2); (case hl => kba_size); (case k1 => k_asm); (case k2 => k_asm); (case k3 => k_asm); (case k4 => k_asm); (case k5 => k_asm); (case kK => first | exact rfl | assumption); (case kd => ktr_room); (case ku => ktr_units)); intro r9 tl9 h9 tk9 F9 N9 o9 d9; (generalize ho9 : reading _ _ _ = oe9 at d9); cases oe9 <;> (dsimp only [datReading] at d9) <;> first | (obtain ⟨a9, vs9, n9, er9, hm9, hv9, hd9⟩ := dat_reading d9; (have hg9 := reading_facts (by first | assumption | exact pick_in (by assumption)) ho9); (have hc9 := reading_len ho9); subst er9; clear d9 o9; replace N9 := newsA N9 hm9; clear hm9; (try dsimp only); (try k_fold)) | (have er9 := dat_none d9; subst er9; clear d9; replace N9 := newsR N9; clear o9; (try dsimp only); (try k_fold))))

local macro_rules | `(tactic| walk_at "call ref") => `(tactic| (k_here; (with_reducible show wpAny _ _ (call (Value.ref 190) [Value.int _ _, Value.bytes _ _]) _ _ _); k_dflt (refine' Ct.use (t190 _ _ _ _ _ _ _ ?hb ?hl _ _ ?h3 ?h4) ?k1 ?k2 ?k3 ?k4 ?k5 ?kK ?kd ?ku ?_; (case hb => kba_ints2); (case hl => kba_size); (case h3 => omega); (case h4 => omega); (case k1 => k_asm); (case k2 => k_asm); (case k3 => k_asm); (case k4 => k_asm); (case k5 => k_asm); (case kK => first | exact rfl | assumption); (case kd => ktr_room); (case ku => ktr_units)); intro r9 tl9 h9 tk9 F9 N9 o9 d9; (generalize ho9 : lawNumber _ _ = oe9 at d9); cases oe9 <;> (dsimp only [optInt] at d9) <;> (cases d9; replace N9 := newsR N9; clear o9; (try dsimp only); (try k_fold))))

local macro_rules | `(tactic| walk_at "call ref") => `(tactic| (k_here; (with_reducible show wpAny _ _ (call (Value.ref 197) [Value.bytes _ _]) _ _ _); k_dflt (refine' Ct.use (t197 _ _ _ _ _ _ _ ?hb ?hl) ?k1 ?k2 ?k3 ?k4 ?k5 ?kK ?kd ?ku ?_; (case hb => kba_ints2); (case hl => kba_size); (case k1 => k_asm); (case k2 => k_asm); (case k3 => k_asm); (case k4 => k_asm); (case k5 => k_asm); (case kK => first | exact rfl | assumption); (case kd => ktr_room); (case ku => ktr_units)); intro r9 tl9 h9 tk9 F9 N9 o9 d9; cases d9; replace N9 := newsR N9; clear o9; (try dsimp only); (try k_fold)))

local macro_rules | `(tactic| k_all) => `(tactic| assumption)
local macro_rules | `(tactic| walk_at "call builtin:len") => `(tactic| (k_here; (with_reducible show wpAny _ _ (call (Value.builtin "len") [Value.ref _]) _ _ _); k_dflt (refine' lenLed ?N ?m ?v ?_; (case N => k_asm); (case m => k_mem); (case v => omega)); (try dsimp only); (try k_fold)))
local macro_rules | `(tactic| walk_at "subscriptTail Name UnaryOp ref int") => `(tactic| (k_here; k_dflt (refine' itemStep ((List.length (by assumption : List (Int × List Int))) - 1) ?k1 ?k2 ?k3 ?k4 ?k5 ?k6 ?k7 ?k8 ?_ ?k9; (case k1 => k_asm); (case k2 => k_mem); (case k3 => assumption); (case k4 => assumption); (case k5 => assumption); (case k6 => omega); (case k7 => omega); (case k8 => omega); (case k9 => with_unfolding_all rfl)); intro p9 t9 u9 b9 w9 m9 hp9 hm9 hb9 h09 h19 hl9; (have hq9 := getD_of hp9; subst hq9; clear hp9); (try dsimp only); (try k_fold)))
local macro_rules | `(tactic| walk_at "subscriptTail Name UnaryOp ref int") => `(tactic| (k_here; k_dflt (refine' itemStep ((List.length (by assumption : List (Int × List Int))) - 2) ?k1 ?k2 ?k3 ?k4 ?k5 ?k6 ?k7 ?k8 ?_ ?k9; (case k1 => k_asm); (case k2 => k_mem); (case k3 => assumption); (case k4 => assumption); (case k5 => assumption); (case k6 => omega); (case k7 => omega); (case k8 => omega); (case k9 => with_unfolding_all rfl)); intro p9 t9 u9 b9 w9 m9 hp9 hm9 hb9 h09 h19 hl9; (have hq9 := getD_of hp9; subst hq9; clear hp9); (try dsimp only); (try k_fold)))
local macro_rules | `(tactic| walk_at "subscriptTail Name Constant ref int") => `(tactic| (k_here; k_dflt (refine' itemStep 0 ?k1 ?k2 ?k3 ?k4 ?k5 ?k6 ?k7 ?k8 ?_ ?k9; (case k1 => k_asm); (case k2 => k_mem); (case k3 => assumption); (case k4 => assumption); (case k5 => assumption); (case k6 => omega); (case k7 => omega); (case k8 => omega); (case k9 => with_unfolding_all rfl)); intro p9 t9 u9 b9 w9 m9 hp9 hm9 hb9 h09 h19 hl9; (have hq9 := getD_of hp9; subst hq9; clear hp9); (try dsimp only); (try k_fold)))
local macro_rules | `(tactic| walk_at "subscriptTail Name Slice ref ref") => `(tactic| (k_here; (with_reducible show wpAny _ _ (subscriptTail _ (PySem.Expr.Slice _ _ none _) (Value.ref _) (Value.ref _)) _ _ _); k_dflt (refine' kms_slice_lit ?yF1 ?yN1 ?yl1 ?yp1 ?yq1 ?ye1 ?_ ?ys1 ?yt1 ?yz1; (case yF1 => k_asm); (case yN1 => k_asm); (case yl1 => kmk_list); (case yp1 => kmk_part); (case yq1 => kmk_part); (case ye1 => exact pick_1_2 (by omega)); (case ys1 => with_unfolding_all rfl); (case yt1 => kmk_pure); (case yz1 => (rw [List.size_toArray, sizeLine_eq]; omega))); intro D' h' F' N' l1; (try dsimp only); (try k_sweep); (try k_fold)))
local macro_rules | `(tactic| walk_at "subscriptTail Name Constant ref int") => `(tactic| (k_here; (with_reducible show wpAny _ _ (subscriptTail (PySem.Expr.Name (Str.ofString "_") _) _ (Value.ref _) (Value.int _ _)) _ _ _); k_dflt (refine' kim_tup ?k1 ?k2 ?k3 ?k4 ?k5 ?k6 ?k7 ?k8 ?_ ?k9 ?ka; (case k1 => k_asm); (case k2 => first | exact List.Mem.tail _ (by assumption) | exact List.Mem.tail _ (List.Mem.tail _ (by assumption)) | k_mem); (case k3 => exact rfl); (case k4 => exact rfl); (case k5 => decide); (case k6 => decide); (case k7 => exact rfl); (case k8 => exact rfl); (case k9 => with_unfolding_all rfl); (case ka => intro _; with_unfolding_all rfl)); (try dsimp only); (try k_fold)))
local macro_rules | `(tactic| walk_at "exec Assign cons ListComp") => `(tactic| (k_here; k_dflt (refine LCp.Assign_ListComp_P (F₀ := by k_asm) (by rfl) (by with_unfolding_all rfl) (by with_unfolding_all rfl) (by decide) (by rfl) (by decide) (by rfl) (by rfl) (by decide) (by rfl) (by rfl) ?_)))
local macro_rules | `(tactic| walk_at "subscriptTail Subscript Constant ref int") => `(tactic| (k_here; k_dflt (refine kba_turn (value' := PySem.Expr.Name (PySem.Str.ofString "_") ⟨0, 0, 0, 0⟩) (fun _ => rfl) ?_)))
local macro_rules | `(tactic| walk_at "SrcLP") => `(tactic| (k_here; k_dflt (refine' srcP ?y1 ?y2 ?y3 ?y4 ?y5 ?y6 ?y7 ?y8 ?y9 ?ya ?yb ?_; (case y1 => exact rfl); (case y2 => k_asm); (case y3 => k_asm); (case y4 => k_mem); (case y5 => exact dat_pick (by assumption) (by assumption)); (case y6 => exact fun _ h => .tail _ (.tail _ (.tail _ h))); (case y7 => exact pick_facts (by assumption)); (case y8 => (rw [List.length_take, List.length_drop]; omega)); (case y9 => intro _; exact rfl); (case ya => intro _; exact rfl); (case yb => decide)); intro g9 zs9 hz9 hd8; (rw [List.length_take, List.length_drop] at hz9); (try dsimp only); (try k_fold)))
local macro_rules | `(tactic| walk_at "CompSrcT") => `(tactic| (k_here; k_dflt (refine' srcT (keep := fun ks => !keyOk ks) ?y1 ?y2 ?y3 ?y4 ?y5 ?y6 ?y7 ?y8 ?y9 ?ya ?_ ?_; (case y1 => exact rfl); (case y2 => k_asm); (case y3 => k_asm); (case y4 => k_mem); (case y5 => assumption); (case y6 => exact pick_facts2 (by assumption) (by omega)); (case y7 => omega); (case y8 => intro _; exact rfl); (case y9 => intro _; exact rfl); (case ya => decide)); intro b7 t7 ks7 ys7 hb7 hl7 I7 oI7 C7 oC7 D7 m7 h7 tk7 E7 hC7 hx7 F7 N7 off7 ne7; (try dsimp only); (try k_fold); rotate_left; intro g7 zs7 hz7 hd7; (try dsimp only); (try k_fold); rotate_right))
local macro_rules | `(tactic| walk_at "compareOp Eq ref ref") => `(tactic| (k_here; k_dflt (refine' listNil ?z1 ?z2 ?z3 ?z4 ?_; (case z1 => k_asm); (case z2 => k_mem); (case z3 => k_mem); (case z4 => ktr_units)); (try dsimp only); (try k_fold)))
local macro_rules | `(tactic| walk_at "testChain") => `(tactic| (k_dflt (first | refine test_link ?_ | refine test_last ?_)))
local macro_rules | `(tactic| walk_at "eval ListComp") => `(tactic| (k_here; k_dflt (refine LCt.ListComp_T (F₀ := by k_asm) (by with_unfolding_all rfl) (by decide) (by rfl) (by decide) (by rfl) ?_)))
theorem LM {ks : List Int} {l : List (Int × List Int)} {o : Option (Int × List (List Int))} (h : reading ks ks.length 0 = some l) (h2 : manyOf l = o) : lawMany ks = o := by
  unfold lawMany
  rw [h]
  exact h2
section
variable {l : List (Int × List Int)} {a b : Int}
theorem M0 (h : l.length < 4) : manyOf l = none := by unfold manyOf; rw [if_pos (.inl h)]
theorem M1 (hp : (l.getD (l.length - 1) (0, [])).1 ≠ 174) : manyOf l = none := by unfold manyOf; rw [if_pos (.inr hp)]
theorem M2 (hf : lawNumber (l.getD 0 (0, [])).1 (l.getD 0 (0, [])).2 = none) : manyOf l = none := by
  unfold manyOf
  rw [hf]
  split <;> rfl
theorem M3 (hx : lawNumber (l.getD (l.length - 2) (0, [])).1 (l.getD (l.length - 2) (0, [])).2 = none) : manyOf l = none := by
  unfold manyOf
  rw [hx]
  split
  · rfl
  · split
    · rename_i h1 h2; cases h2
    · rfl
theorem M4 (hf : lawNumber (l.getD 0 (0, [])).1 (l.getD 0 (0, [])).2 = some a) (hx : lawNumber (l.getD (l.length - 2) (0, [])).1 (l.getD (l.length - 2) (0, [])).2 = some b) (hc : ¬ (1 ≤ a ∧ a ≤ b ∧ b ≤ 20 ∧ ((l.length - 3 : Nat) : Int) = b)) : manyOf l = none := by
  unfold manyOf
  rw [hf, hx]
  dsimp only
  split
  · rfl
  · rw [if_neg (fun hh => hc ⟨hh.1, hh.2.1, hh.2.2.1, hh.2.2.2.1⟩)]
theorem filt {l : List (Int × List Int)} : ((l.map (·.2)).filter (fun ks => !keyOk ks)).length = 0 ↔ l.all (fun p => keyOk p.2) = true := by
  induction l with
  | nil => simp
  | cons p r ih =>
    rw [List.map_cons, List.all_cons]
    cases h : keyOk p.2 with
    | true => rw [List.filter_cons_of_neg (by rw [h]; simp), ih]; simp
    | false => rw [List.filter_cons_of_pos (by rw [h]; simp)]; simp
theorem M5 (hc : (((((l.drop 1).take (l.length - 3)).map (·.2)).filter (fun ks => !keyOk ks))).length ≠ 0) : manyOf l = none := by
  unfold manyOf
  split
  · rfl
  · split
    · rw [if_neg (fun hh => hc (filt.mpr hh.2.2.2.2))]
    · rfl
theorem M6 (h4 : 4 ≤ l.length) (hp : (l.getD (l.length - 1) (0, [])).1 = 174) (hf : lawNumber (l.getD 0 (0, [])).1 (l.getD 0 (0, [])).2 = some a) (hx : lawNumber (l.getD (l.length - 2) (0, [])).1 (l.getD (l.length - 2) (0, [])).2 = some b)
    (h5 : 1 ≤ a ∧ a ≤ b ∧ b ≤ 20 ∧ ((l.length - 3 : Nat) : Int) = b) (hc : (((((l.drop 1).take (l.length - 3)).map (·.2)).filter (fun ks => !keyOk ks))).length = 0) : manyOf l = some (a, ((l.drop 1).take (l.length - 3)).map (·.2)) := by
  unfold manyOf
  rw [if_neg (by omega), hf, hx]
  dsimp only
  rw [if_pos ⟨h5.1, h5.2.1, h5.2.2.1, h5.2.2.2, filt.mp hc⟩]
end
theorem t202 (w : World) (mean : ExcName → Option Value) (mg mb : Str → Option Value) (b : Array UInt8) (t : Tok) (ks : List Int) (hb : KBw.bInts b = ks) (hl : ks.length ≤ 1000) : Ct w mean mg mb 202 3 [.bytes b t] (datMulti (lawMany ks)) := by
  have hks : ∀ k ∈ ks, 0 ≤ k ∧ k < 256 := fun k hk => KBw.ints_in (hb ▸ hk)
  w_top off
  unfold Ct
  k_fill
  intro dp un gd cn cs a ccd cl outer A₀ base h₀ L m news s Q E B F X N T hk hd hu hret
  refine wpAny_call ?_
  k_dflt (refine' enterW ?k1 ?k2 ?k3 ?k4 ?k5 ?kA ?kF ?kK ?k6 ?k7 ?k8 ?k9 ?kB ?_ ?c2 ?c3 ?c4 ?c5; (case kA => exact rfl); (case kF => exact rfl); (case kK => assumption); (case k1 => k_asm); (case k2 => k_asm); (case k3 => k_asm); (case k4 => k_asm); (case k5 => k_asm); (case k6 => k_is); (case k7 => k_is); (case k8 => ktr_room); (case k9 => first | exact BindsTo.of_eq rfl | exact binds_K (by k_in) rfl (by k_is) rfl rfl rfl); (case c5 => decide); (case kB => exact locs rfl); (case c2 => exact rfl); (case c3 => exact rfl); (case c4 => exact rfl); k_whole; intro g' L' h' FG' NG' F' N' B' X' T'; (try dsimp only); (try k_fold))
  k_steps
  all_goals first
    | exact ⟨rfl, _, _, rfl, by k_asm, by k_asm⟩
    | ((refine endV hret (by k_asm) ?_; clear hret); (rw [show lawMany ks = none from by first
        | (unfold lawMany; rw [show reading ks ks.length 0 = none from by assumption]; rfl)
        | exact LM (by assumption) (M0 (by omega))
        | exact LM (by assumption) (M1 (by omega))
        | exact LM (by assumption) (M2 (by assumption))
        | exact LM (by assumption) (M3 (by assumption))
        | exact LM (by assumption) (M4 (by assumption) (by assumption) (by omega))
        | exact LM (by assumption) (M5 (by omega))]); exact .none)
    | ((refine endT hret _ (by k_asm) NG' (by k_asm) (by k_asm) (fun p hp => hp) ?_; clear hret); rw [LM (by assumption) (M6 (by omega) (by omega) (by assumption) (by assumption) (by omega) (by omega))]
       exact .tuple (.head _) (.cons (dInt rfl) (.cons (.list (.tail _ (.tail _ (.tail _ (.head _)))) (bytes_any (by assumption : DatAll [] _ _))) .nil)))
end Mine
end
section
open PySem PySem.W PyProof.Rows PySem.Calls PySem.Spec
set_option Elab.async false
set_option linter.all false
set_option maxRecDepth 100000
set_option maxHeartbeats 8000000
namespace Mine
local macro_rules | `(tactic| walk_at "execs cons") => `(tactic| (k_here; (with_reducible refine execsC fun tk => ?_); (try dsimp only)))
local macro_rules | `(tactic| walk_at "execs nil") => `(tactic| (k_here; (with_reducible refine execsN fun tk => ?_); (try dsimp only)))
/-! the first parts of the pairs of a list that pass a test -/
section
variable {prog : Program} {w : World} {A : Around} {E : Value → Shared → Prop} {s : Shared} {h₀ : Heap} {L : Addr} {m : Str → Option Value} {env : Env}
open PyProof.Rows.LCg PyProof.Rows.LCp PyProof.Rows.LCt
/-- the walk of one pair's test -/
def PTItem (prog : Program) (w : World) (A : Around) (h₀ : Heap) (L : Addr) (m : Str → Option Value) (env : Env) (ct : PySem.Expr) (x : Str) (scope : Scope) (cl : List (Str × Addr)) (keep : Int × List Int → Bool) (l : List (Int × List Int)) (news : List (Addr × Obj)) (s : Shared) : Prop :=
  ∀ (p : Int × List Int) (t : Tok) (ys : List Value), p ∈ l → ∀ I oI C oC D m₂ h tk (E' : Value → Shared → Prop), NsObj oC m₂ → m₂ x = some (.int p.1 t) → Fr h₀ L h m → News h₀ L h ((I, oI) :: (C, oC) :: (D, lst ys) :: news) → Off3 I C D news → ((@Ne Nat I C) ∧ (@Ne Nat I D) ∧ (@Ne Nat C D)) →
    wpAny (model prog w) A (isTrue ct (compEnvC scope cl C env) (eval ct (compEnvC scope cl C env))) (fun ok s' => TEnd (ok = keep p ∧ ∃ h' tk', s' = { s with heap := h', toks := tk' } ∧ Fr h₀ L h' m ∧ News h₀ L h' ((I, oI) :: (C, oC) :: (D, lst ys) :: news))) E' { s with heap := h, toks := tk }
def PTFin (h₀ : Heap) (L : Addr) (m : Str → Option Value) (keep : Int × List Int → Bool) (l : List (Int × List Int)) (news : List (Addr × Obj)) (Q : Value → Shared → Prop) (s : Shared) : Prop :=
  ∀ D h tk (zs : List Value), zs.length = (l.filter keep).length → Fr h₀ L h m → News h₀ L h ((D, lst zs) :: news) → Off1 D news → Q (.ref D) { s with heap := h, toks := tk }
def SrcPT (prog : Program) (w : World) (A : Around) (h₀ : Heap) (L : Addr) (m : Str → Option Value) (env : Env) (ct : PySem.Expr) (x : Str) (scope : Scope) (cl : List (Str × Addr)) (Q : Value → Shared → Prop) (xv : Value) (s₁ : Shared) : Prop :=
  ∃ (ax : Addr) (us : List Value) (n : Nat) (l : List (Int × List Int)) (news tl : List (Addr × Obj)) (keep : Int × List Int → Bool), xv = .ref ax ∧ A.handled = none ∧ Fr h₀ L s₁.heap m ∧ News h₀ L s₁.heap news ∧ (ax, W.listOf us.toArray n) ∈ news ∧ us.length ≤ 1000 ∧ DatAll tl us (l.map datStep) ∧ (∀ p ∈ tl, p ∈ news) ∧
    (∀ g, PTItem prog w A h₀ L m env ct x scope cl keep l news { s₁ with heap := g }) ∧ PTFin h₀ L m keep l news Q s₁
theorem blockPT {ct iter : PySem.Expr} {x x₂ : Str} {px px₂ pe tp : Pos} {tk0} {scope : Scope} {cl : List (Str × Addr)} {pos : Pos} {s₂ : Shared} {I ax : Addr} {us : List Value} {n : Nat} {l : List (Int × List Int)} {news tl : List (Addr × Obj)} {keep : Int × List Int → Bool} {RR : Value → Addr → Result → Shared → Prop}
    (hdb : (x == ("__debug__" : Str)) = false) (hcell : ∀ y ∈ scope.names, y.2 ≠ .cell) (hkind : scope.kind = .function) (hx : scope.names.lookup x = some .local) (hx₂ : scope.names.lookup x₂ = some .local) (hxx : x ≠ x₂)
    (hk : ∀ C, (compEnvC scope cl C env).scope.kind = .function) (hxl : ∀ C, (compEnvC scope cl C env).kindOf x = some .local)
    (hh : A.handled = none) (hne : ax ≠ I) (hz : us.length ≤ 1000) (hm : (ax, W.listOf us.toArray n) ∈ news) (hd : DatAll tl us (l.map datStep)) (hsub : ∀ p ∈ tl, p ∈ news) (hit : s₂.heap.IsListIter I ax 0)
    (F : Fr h₀ L s₂.heap m) (N : News h₀ L s₂.heap news) (hIL : L ≠ I) (hI₀ : h₀.get? I = none) (off : ∀ p ∈ news, p.1 ≠ I)
    (item : PTItem prog w A h₀ L m env ct x scope cl keep l news s₂)
    (hRR : ∀ D C h tk m' ys, Fr h₀ L h m → News h₀ L h ((D, lst ys) :: news) → Off1 D news → h.Ns C m' → h₀.get? C = none → h₀.get? D = none → C ≠ L → C ≠ D → (∀ p ∈ news, p.1 ≠ C) → ys.length = (l.filter keep).length → RR (.ref D) C (.ok .next) { s₂ with heap := h, toks := tk }) :
    wpAny (model prog w) A (newList []) (fun acc s₃ => wpAny (model prog w) A (newFunctionEnv scope env.globals cl [] env.qual none .none (some env)) (fun cenv s₄ =>
      codeAny (model prog w) A (.compStart (.ListComp (.Name x pe) [⟨.Tuple [.Name x px, .Name x₂ px₂] tk0 tp, iter, [ct], 0⟩] scope pos) 0 (.ref I) acc { cenv with scope := relabel scope env }) (RR acc cenv.locals) s₄) E s₃) E s₂ := by
  have hul : us.length = l.length := by rw [hd.length, List.length_map]
  have WL := Walks.list (prog := prog) (w := w) hh I ax hne us.toArray
  refine wpAny_newObj_type (wpAny_newFunctionEnv hcell (by intro y hy; simp at hy) (fun h₁ hns hsb => ?_) hkind)
  dsimp only at hns hsb ⊢
  generalize hH : s₂.heap.push { cls := .type "list", dict := none, data := .seq ([] : List Value).toArray } = H at hns hsb ⊢
  have eC : H.objs.size = s₂.heap.objs.size + 1 := by rw [← hH, Heap.size_push]
  generalize eD : s₂.heap.objs.size = D at eC ⊢
  generalize eC' : H.objs.size = C at eC hns hsb ⊢
  have bnd : ∀ b : Nat, b < D → (@Ne Nat b C) ∧ (@Ne Nat b D) := fun b hb => ⟨by omega, by omega⟩
  have old : ∀ b o, s₂.heap.get? b = some o → h₁.get? b = some o := fun b o e => hsb.extBut b o (bnd b (eD ▸ Heap.lt_size e)).1 (Heap.get?_push_of_some _ (hH ▸ Heap.get?_push_of_some _ e))
  have hDC : @Ne Nat D C := by omega
  have hacc : h₁.get? D = some (lst []) := hsb.extBut _ _ hDC (Heap.get?_push_of_some _ (by rw [← hH, ← eD]; exact Heap.get?_push_size _ rfl))
  have new₀ : ∀ a : Nat, D ≤ a → h₀.get? a = none := fun a ha => by
    cases e : h₀.get? a with
    | none => rfl
    | some o => exact absurd (Heap.lt_size (F.keep a o e)) (Nat.not_lt.mpr (eD ▸ ha))
  have hD₀ := new₀ D (Nat.le_refl _)
  have hC₀ := new₀ C (by omega)
  have hLl : @LT.lt Nat _ L D := eD ▸ F.ns.lt
  have hIl : @LT.lt Nat _ I D := by obtain ⟨_, e, _⟩ := hit; exact eD ▸ Heap.lt_size e
  have offN : ∀ p ∈ news, p.1 ≠ I ∧ p.1 ≠ C ∧ p.1 ≠ D := fun p hp => ⟨off p hp, bnd _ (eD ▸ Heap.lt_size (N p hp).1)⟩
  have hIC : @Ne Nat I C := by omega
  have hID : @Ne Nat I D := by omega
  have hCL : @Ne Nat C L := by omega
  have hDL : @Ne Nat D L := by omega
  have listAt : ∀ {h : Heap}, News h₀ L h news → h.IsList ax us.toArray := fun N => ⟨_, (N _ hm).1, rfl, n, rfl⟩
  have loop : codeAny (model prog w) A (.compLoop (.ListComp (.Name x pe) [⟨.Tuple [.Name x px, .Name x₂ px₂] tk0 tp, iter, [ct], 0⟩] scope pos) 0 (.ref I) (.ref D) (compEnvC scope cl C env)) (RR (.ref D) C) { s₂ with heap := h₁, toks := s₂.toks + ([] : List (Str × Value)).length } := by
    refine kct_loop (fun k s' => ∃ h' tk i ys m', s' = { s₂ with heap := h', toks := tk } ∧ i ≤ us.length ∧ k = us.length + 1 - i ∧ ys.length = ((l.take i).filter keep).length ∧ h'.IsListIter I ax i ∧ Fr h₀ L h' m ∧ h'.Ns C m' ∧ News h₀ L h' ((D, lst ys) :: news)) ?_ (us.length + 1) ⟨h₁, _, 0, [], _, rfl, Nat.zero_le _, rfl, rfl, ?_, F.keeps old, hns, ?_⟩
    · rintro k s' ⟨h', tk, i, ys, m', rfl, hi, rfl, hyl, hit', F', hn', N'⟩
      have N'' : News h₀ L h' news := fun p hp => N' p (.tail _ hp)
      by_cases hlt : i < us.length
      · refine WL.item i _ _ _ (by rw [List.size_toArray]; exact hlt) ⟨hit', listAt N''⟩ fun v h₂ tk₂ hPv hst₂ hk₂ => ?_
        obtain ⟨u, hu, hD9⟩ := hd.get (show i < (l.map datStep).length by rw [List.length_map]; omega)
        have hv : us[i]? = some v := by simpa using hPv
        obtain rfl : u = v := Option.some.inj (hu.symm.trans hv)
        rw [List.getElem_map] at hD9
        have hil : i < l.length := by omega
        obtain ⟨t, a, b, nt, rfl, hmt, h1, h2⟩ := dat_two hD9
        cases h1
        rename_i tt
        have N₂ : News h₀ L h₂ ((D, lst ys) :: news) := news_but N' hk₂ fun p hp => by
          rcases List.mem_cons.mp hp with rfl | hp
          · exact Ne.symm hID
          · exact (offN p hp).1
        have ht : IsTup h₂ t #[_, b] := ⟨_, (N₂ _ (.tail _ (hsub _ hmt))).1, rfl, nt, rfl⟩
        refine wpAny_letOwnedTupleGo_listiter hst₂.1 ?_
        refine assign_Tuple_tuple hh ht rfl rfl fun h₅ he => ?_
        have he' : ∀ b o, h₂.get? b = some o → h₅.get? b = some o := fun b o e => he b o (Nat.ne_of_lt (Heap.lt_size e)) e
        refine assignInOrder_cons (wpAny_assign_Name (wpAny_storeName_local (lookup_relabel_local hx) ((hn'.at' fun o e => hk₂ _ o (by simpa using Ne.symm hIC) e).at' fun o e => he' _ o e) (fun h₆ hn₆ hs₆ => ?_) (by simp [compEnvC, relabel, hkind])))
        refine assignInOrder_cons (wpAny_assign_Name (wpAny_storeName_local (lookup_relabel_local hx₂) hn₆ (fun h₃ hn₃ hs₃ => ?_) (by simp [compEnvC, relabel, hkind])))
        refine assignInOrder_nil ?_
        have up₃ : ∀ b o, b ≠ C → h₂.get? b = some o → h₃.get? b = some o := fun b o hb e => hs₃.extBut b o hb (hs₆.extBut b o hb (he' b o e))
        obtain ⟨oI, eI, rI⟩ := hst₂.1
        obtain ⟨oC, eC9, rC⟩ := ns_obj hn₃
        have F₃ : Fr h₀ L h₃ m := (((fr_but F' hk₂ hIL hI₀).keeps he').change hs₆ hCL hC₀).change hs₃ hCL hC₀
        have N₃ : News h₀ L h₃ ((I, oI) :: (C, oC) :: (D, lst ys) :: news) := fun p hp => by
          rcases List.mem_cons.mp hp with rfl | hp
          · exact ⟨up₃ _ _ hIC eI, Ne.symm hIL, hI₀⟩
          · rcases List.mem_cons.mp hp with rfl | hp
            · exact ⟨eC9, hCL, hC₀⟩
            · refine ⟨up₃ _ _ ?_ (N₂ p hp).1, (N₂ p hp).2⟩
              rcases List.mem_cons.mp hp with rfl | hp
              · exact hDC
              · exact (offN p hp).2.1
        have htake : ∀ b, keep (l[i]'hil) = b → ((l.take (i + 1)).filter keep).length = ((l.take i).filter keep).length + (if b = true then 1 else 0) := fun b hb => by
          rw [List.take_add_one, List.getElem?_eq_getElem hil]
          simp only [Option.toList_some, List.filter_append, List.length_append, List.filter_cons, List.filter_nil, hb]
          cases b <;> rfl
        refine wpAny_mono (item (l[i]'hil) tt ys (List.getElem_mem hil) I oI C oC D _ h₃ _ _ rC (by simp [hxx]) F₃ N₃ (Off3.of offN) ⟨hIC, hID, Ne.symm hDC⟩) (fun ok s₄ h₄ => ?_) fun _ _ e => e
        obtain ⟨hok, h₄, tk₄, rfl, F₄, N₄⟩ := h₄
        have zI : h₄.IsListIter I ax (i + 1) := ⟨oI, (N₄ _ (.head _)).1, rI⟩
        have zC := rC.ns (N₄ (C, oC) (.tail _ (.head _))).1
        have zD := (N₄ (D, lst ys) (.tail _ (.tail _ (.head _)))).1
        cases ok with
        | false =>
          simp only [Bool.false_eq_true, if_false]
          exact ⟨us.length + 1 - (i + 1), by omega, h₄, tk₄, i + 1, ys, _, rfl, hlt, rfl, by rw [htake false hok.symm, hyl]; rfl, zI, F₄, zC, fun p hp => N₄ p (.tail _ (.tail _ hp))⟩
        | true =>
          simp only [if_true]
          refine LCgL.ld_own N₄ (.tail _ (.head _)) rC (show _ = some (Value.int (l[i]'hil).1 tt) by simp [hxx]) ?_ (hk C) (hxl C) hdb
          have hle : ys.length ≤ i := by rw [hyl]; exact Nat.le_trans (List.length_filter_le _ _) (by rw [List.length_take]; omega)
          refine append_at (hsz := by show ys.toArray.size ≤ sizeLine; rw [List.size_toArray, sizeLine_eq]; omega) zD fun h₅ hs₅ hD₅ => ?_
          refine ⟨us.length + 1 - (i + 1), by omega, h₅, _, i + 1, ys ++ [Value.int (l[i]'hil).1 tt], _, rfl, hlt, rfl, by rw [htake true hok.symm, List.length_append, hyl]; rfl, zI.at fun o e => hs₅.extBut _ o hID e, F₄.change hs₅ hDL hD₀, zC.sameBut hs₅ (Ne.symm hDC), fun p hp => ?_⟩
          rcases List.mem_cons.mp hp with rfl | hp
          · exact ⟨hD₅.trans (congrArg some (lst_snoc ys _)), hDL, hD₀⟩
          · have z := N₄ p (.tail _ (.tail _ (.tail _ hp)))
            exact ⟨hs₅.extBut _ _ (offN p hp).2.2 z.1, z.2⟩
      · obtain rfl : i = us.length := by omega
        refine WL.done _ _ _ ⟨by rw [List.size_toArray]; exact hit', listAt N''⟩ fun h₂ tk₂ hk₂ => ?_
        refine hRR D C h₂ tk₂ _ ys (fr_but F' hk₂ hIL hI₀) (news_but N' hk₂ fun p hp => ?_) (Off3.of offN).one (hn'.at' fun o e => hk₂ _ o (by simpa using Ne.symm hIC) e) hC₀ hD₀ hCL (Ne.symm hDC) (fun p hp => (offN p hp).2.1) (by rw [hyl, hul, List.take_length])
        rcases List.mem_cons.mp hp with rfl | hp
        · exact Ne.symm hID
        · exact (offN p hp).1
    · exact hit.at fun o e => old _ o e
    · intro p hp
      rcases List.mem_cons.mp hp with rfl | hp
      · exact ⟨hacc, hDL, hD₀⟩
      · exact ⟨old _ _ (N p hp).1, (N p hp).2⟩
  exact codeAny_compStart_list loop (WL.self 0 _ _ _ ⟨hit.at fun o e => old _ o e, listAt fun p hp => ⟨old _ _ (N p hp).1, (N p hp).2⟩⟩ loop)
theorem pairTest {ct iter : PySem.Expr} {x x₂ : Str} {px px₂ pe tp : Pos} {tk0} {scope : Scope} {cl : List (Str × Addr)} {pos : Pos} {Q : Value → Shared → Prop} (_F₀ : Fr h₀ L s.heap m) (hdb : (x == ("__debug__" : Str)) = false)
    (hclos : closureFor scope env = pure cl) (hcell : ∀ y ∈ scope.names, y.2 ≠ .cell) (hkind : scope.kind = .function)
    (hnames : ∀ y ∈ scope.names, y.2 = .local → scope.names.lookup y.1 = some .local) (hx : scope.names.lookup x = some .local) (hx₂ : scope.names.lookup x₂ = some .local) (hxx : x ≠ x₂)
    (hk : ∀ C, (compEnvC scope cl C env).scope.kind = .function) (hxl : ∀ C, (compEnvC scope cl C env).kindOf x = some .local)
    (h : wpAny (model prog w) A (eval iter env) (SrcPT prog w A h₀ L m env ct x scope cl Q) E s)
    (hs : ∀ x, foldedSetIterable iter env x = pure x := by intro _; rfl) :
    wpAny (model prog w) A (eval (.ListComp (.Name x pe) [⟨.Tuple [.Name x px, .Name x₂ px₂] tk0 tp, iter, [ct], 0⟩] scope pos) env) Q E s := by
  rw [eval_ListComp]
  refine wpAny_comprehension_free (use := none) rfl hs hclos hkind hnames (wpAny_mono h (fun xv s₁ h₁ => ?_) fun _ _ e => e)
  obtain ⟨ax, us, n, l, news, tl, keep, rfl, hh, F, N, hm, hz, hd, hsub, item, fin⟩ := h₁
  have hl : s₁.heap.IsList ax us.toArray := ⟨_, (N _ hm).1, rfl, n, rfl⟩
  have hlt : ax < s₁.heap.objs.size := by obtain ⟨_, e, _⟩ := hl; exact Heap.lt_size e
  have hul : us.length = l.length := by rw [hd.length, List.length_map]
  refine wpAny_pyIter_list hl ?_
  have up : ∀ b o, s₁.heap.get? b = some o → (s₁.heap.push { cls := .type "list_iterator", data := .fields #[.ref ax, .int 0 0] }).get? b = some o := fun b o e => Heap.get?_push_of_some _ e
  refine blockPT (I := s₁.heap.objs.size) (keep := keep) hdb hcell hkind hx hx₂ hxx hk hxl hh (Nat.ne_of_lt hlt) hz hm hd hsub ⟨_, Heap.get?_push_size _ rfl, rfl, rfl⟩ (F.keeps up) (N.grown up) (Nat.ne_of_lt F.ns.lt) (next_is_new F) (fun p hp => Nat.ne_of_lt (Heap.lt_size (N p hp).1)) (item _) ?_
  intro D C h tk m' ys F' N' o1 hn hC₀ hD₀ hCL hCD offC hlen
  refine ⟨m', hn, fun h'' hs'' => fin D h'' tk ys hlen (F'.change hs'' hCL hC₀) (fun p hp => ?_) o1⟩
  refine ⟨hs''.extBut _ _ ?_ (N' p hp).1, (N' p hp).2⟩
  rcases List.mem_cons.mp hp with rfl | hp
  · exact Ne.symm hCD
  · exact offC p hp
theorem srcPT {ct : PySem.Expr} {x : Str} {scope : Scope} {cl : List (Str × Addr)} {Q : Value → Shared → Prop} {ax : Addr} {us : List Value} {n : Nat} {l : List (Int × List Int)} {news tl : List (Addr × Obj)} {keep : Int × List Int → Bool} (hh : A.handled = none) (F : Fr h₀ L s.heap m) (N : News h₀ L s.heap news) (hm : (ax, W.listOf us.toArray n) ∈ news) (hz : us.length ≤ 1000)
    (hd : DatAll tl us (l.map datStep)) (hsub : ∀ p ∈ tl, p ∈ news) (item : ∀ g, PTItem prog w A h₀ L m env ct x scope cl keep l news { s with heap := g }) (fin : PTFin h₀ L m keep l news Q s) : SrcPT prog w A h₀ L m env ct x scope cl Q (.ref ax) s :=
  ⟨ax, us, n, l, news, tl, keep, rfl, hh, F, N, hm, hz, hd, hsub, item, fin⟩
/-- one list behind another -/
theorem catLed {a b : Addr} {nx : List (Addr × Obj)} {us vs : List Value} {n k : Nat} {Q : Value → Shared → Prop} (F : Fr h₀ L s.heap m) (N : News h₀ L s.heap nx) (ha : (a, W.listOf us.toArray n) ∈ nx) (hb : (b, W.listOf vs.toArray k) ∈ nx) (hz : us.length + vs.length ≤ 1000)
    (h : ∀ D h', Fr h₀ L h' m → News h₀ L h' ((D, W.listOf (us ++ vs).toArray 0) :: nx) → (∀ q ∈ nx, q.1 < D) → Q (.ref D) { s with heap := h' }) : wpAny (model prog w) A (binaryOp .Add (.ref a) (.ref b)) Q E s :=
  kmk_add_lit F N ⟨_, (N _ ha).1, rfl, n, rfl⟩ ⟨_, (N _ hb).1, rfl, k, rfl⟩ rfl h (by rw [List.toList_toArray, List.toList_toArray, sizeLine_eq]; omega)
end
end Mine
end
section
open PySem PySem.W PyProof.Rows PySem.Calls PySem.Spec
set_option Elab.async false
set_option linter.all false
set_option maxRecDepth 100000
set_option maxHeartbeats 8000000
namespace Mine
local macro_rules | `(tactic| walk_at "execs cons") => `(tactic| (k_here; (with_reducible refine execsC fun tk => ?_); (try dsimp only)))
local macro_rules | `(tactic| walk_at "execs nil") => `(tactic| (k_here; (with_reducible refine execsN fun tk => ?_); (try dsimp only)))
theorem many_facts {ks : List Int} (hks : ∀ k ∈ ks, 0 ≤ k ∧ k < 256) {x : Int × List (List Int)} (h : lawMany ks = some x) : 1 ≤ x.1 ∧ x.1 ≤ 20 ∧ x.2.length ≤ 20 := multi_facts ((many_eq hks).trans h)
local macro_rules | `(tactic| walk_at "call ref") => `(tactic| (k_here; (with_reducible show wpAny _ _ (call (Value.ref 183) [Value.bytes _ _]) _ _ _); k_dflt (refine' Ct.use (t183 _ _ _ _ _ _ _ ?hb ?hl) ?k1 ?k2 ?k3 ?k4 ?k5 ?kK ?kd ?ku ?_; (case hb => kba_ints2); (case hl => kba_size); (case k1 => k_asm); (case k2 => k_asm); (case k3 => k_asm); (case k4 => k_asm); (case k5 => k_asm); (case kK => first | exact rfl | assumption); (case kd => ktr_room); (case ku => ktr_units)); intro r9 tl9 h9 tk9 F9 N9 o9 d9; (generalize ho9 : reading _ _ _ = oe9 at d9); cases oe9 <;> (dsimp only [datReading] at d9) <;> first | (obtain ⟨a9, vs9, n9, er9, hm9, hv9, hd9⟩ := dat_reading d9; (have hg9 := reading_facts (by first | assumption | exact pick_in (by assumption)) ho9); (have hc9 := reading_len ho9); subst er9; clear d9 o9; replace N9 := newsA N9 hm9; clear hm9; (try dsimp only); (try k_fold)) | (have er9 := dat_none d9; subst er9; clear d9; replace N9 := newsR N9; clear o9; (try dsimp only); (try k_fold))))

local macro_rules | `(tactic| walk_at "call ref") => `(tactic| (k_here; (with_reducible show wpAny _ _ (call (Value.ref 197) [Value.bytes _ _]) _ _ _); k_dflt (refine' Ct.use (t197 _ _ _ _ _ _ _ ?hb ?hl) ?k1 ?k2 ?k3 ?k4 ?k5 ?kK ?kd ?ku ?_; (case hb => kba_ints2); (case hl => kba_size); (case k1 => k_asm); (case k2 => k_asm); (case k3 => k_asm); (case k4 => k_asm); (case k5 => k_asm); (case kK => first | exact rfl | assumption); (case kd => ktr_room); (case ku => ktr_units)); intro r9 tl9 h9 tk9 F9 N9 o9 d9; cases d9; replace N9 := newsR N9; clear o9; (try dsimp only); (try k_fold)))

local macro_rules | `(tactic| walk_at "call ref") => `(tactic| (k_here; (with_reducible show wpAny _ _ (call (Value.ref 202) [Value.bytes _ _]) _ _ _); k_dflt (refine' Ct.use (t202 _ _ _ _ _ _ _ ?hb ?hl) ?k1 ?k2 ?k3 ?k4 ?k5 ?kK ?kd ?ku ?_; (case hb => kba_ints2); (case hl => kba_size); (case k1 => k_asm); (case k2 => k_asm); (case k3 => k_asm); (case k4 => k_asm); (case k5 => k_asm); (case kK => first | exact rfl | assumption); (case kd => ktr_room); (case ku => ktr_units)); intro r9 tl9 h9 tk9 F9 N9 o9 d9; (generalize ho9 : lawMany _ = oe9 at d9); cases oe9 <;> (dsimp only [datMulti] at d9) <;> first | (obtain ⟨a9, l9, t9, vs9, n9, m9, er9, hm9, hl9, hv9, hd9⟩ := dat_multi d9; (have hg9 := many_facts (by assumption) ho9); subst er9; clear d9; (have o8 := allNe_of (o9 _ hl9)); replace o9 := allNe_of (o9 _ hm9); replace N9 := newsC2 N9 hm9 hl9; (try simp only [AllNe, and_true] at o9 o8); (try dsimp only); (try k_fold)) | (have er9 := dat_none d9; subst er9; clear d9; replace N9 := newsR N9; clear o9; (try dsimp only); (try k_fold))))

local macro_rules | `(tactic| k_all) => `(tactic| assumption)
local macro_rules | `(tactic| walk_at "call builtin:len") => `(tactic| (k_here; (with_reducible show wpAny _ _ (call (Value.builtin "len") [Value.ref _]) _ _ _); k_dflt (refine' lenLed ?N ?m ?v ?_; (case N => k_asm); (case m => k_mem); (case v => omega)); (try dsimp only); (try k_fold)))
local macro_rules | `(tactic| walk_at "eval ListComp") => `(tactic| (k_here; k_dflt (refine pairTest (by k_asm) (by decide) (by with_unfolding_all rfl) (by decide) (by rfl) (by decide) (by rfl) (by rfl) (by decide) (by intro _; exact rfl) (by intro _; exact rfl) ?_)))
local macro_rules | `(tactic| walk_at "SrcPT") => `(tactic| (k_dflt (refine' srcPT (keep := fun p => decide (96 < p.1)) ?y1 ?y2 ?y3 ?y4 ?y5 ?y6 ?y7 ?_ ?_; (case y1 => exact rfl); (case y2 => k_asm); (case y3 => k_asm); (case y4 => k_mem); (case y5 => first | omega | ((rename (List.length _ ≤ List.length (List.take _ _)) => hc8); rw [List.length_take, List.length_drop] at hc8; omega)); (case y6 => assumption); (case y7 => first | exact fun _ h => .tail _ h | exact fun _ h => .tail _ (.tail _ h) | exact fun _ h => h)); (unfold PTItem); (intro g7 p7 t7 ys7 hp7 I7 oI7 C7 oC7 D7 m7 h7 tk7 E7 hC7 hx7 F7 N7 off7 ne7); (try dsimp only); (try k_fold); rotate_left; (unfold PTFin); (intro D7 h7 tk7 zs7 hz7 F7 N7 off7); (try dsimp only); (try k_fold); rotate_right))
local macro_rules | `(tactic| walk_at "compareOp Eq ref ref") => `(tactic| (k_here; k_dflt (refine' listNil ?z1 ?z2 ?z3 ?z4 ?_; (case z1 => k_asm); (case z2 => k_mem); (case z3 => k_mem); (case z4 => ktr_units)); (try dsimp only); (try k_fold)))
local macro_rules | `(tactic| walk_at "binaryOp Add ref ref") => `(tactic| (k_here; k_dflt (refine' catLed ?z1 ?z2 ?z3 ?z4 ?z5 ?_; (case z1 => k_asm); (case z2 => k_asm); (case z3 => k_mem); (case z4 => k_mem); (case z5 => first | omega | ((simp only [List.length_append, List.length_cons, List.length_nil]); omega))); intro D' h' F' N' l1; (try k_lt l1); (try k_sweep)))
theorem any2 {a b k : Int} (h : ([a, b].any fun x => x == k) = true) : k = a ∨ k = b := by
  simp only [List.any_cons, List.any_nil, Bool.or_false, Bool.or_eq_true, beq_iff_eq] at h
  omega
theorem any2f {a b k : Int} (h : ([a, b].any fun x => x == k) = false) : k ≠ a ∧ k ≠ b := by
  simp only [List.any_cons, List.any_nil, Bool.or_false, Bool.or_eq_false_iff, beq_eq_false_iff_ne, ne_eq] at h
  omega
local macro_rules | `(tactic| walk_at "subscriptTail Name Constant bytes int") => `(tactic| (rename (List.any _ _ = true) => hin9; replace hin9 := any2 hin9))
theorem low_iff {l : List (Int × List Int)} : (l.filter (fun p => decide (96 < p.1))).length = 0 ↔ lowAll l = true := by
  unfold lowAll
  induction l with
  | nil => simp
  | cons p r ih =>
    rw [List.all_cons]
    by_cases h : 96 < p.1
    · rw [List.filter_cons_of_pos (by simpa using h), decide_eq_false (by omega)]; simp
    · rw [List.filter_cons_of_neg (by simpa using h), ih, decide_eq_true (by omega)]; simp
theorem sl_clipN (ks : List Int) : List.take (clipAt ks.length (-1) - clipAt ks.length 1) (List.drop (clipAt ks.length 1) ks) = sl ks 1 (-1 + (ks.length : Int)) := by
  have h1 : clipAt ks.length (-1) = (-1 + (ks.length : Int)).toNat := by
    unfold clipAt
    simp
    omega
  rw [h1, clip_pos (by decide)]
  unfold sl
  by_cases h : 1 ≤ ks.length
  · rw [Nat.min_eq_left (show (1 : Int).toNat ≤ ks.length from h)]
  · rw [Nat.min_eq_right (show ks.length ≤ (1 : Int).toNat by omega), List.drop_of_length_le (Nat.le_refl _), List.drop_of_length_le (by omega)]
    simp
/-! a body cut at a statement: what follows is walked once -/
def TailOf (M : Model) (A : Around) (rest : List Stmt) (env : Env) (Q : Flow → Shared → Prop) (E : Value → Shared → Prop) (sb : Shared) (I : Heap → Nat → Prop) : Prop := ∀ h tk, I h tk → wpAny M A (execs rest env) Q E { sb with heap := h, toks := tk }
section
variable {M : Model} {A : Around} {rest : List Stmt} {env : Env} {Q : Flow → Shared → Prop} {E : Value → Shared → Prop} {sb s₀ : Shared} {x y : Stmt}
theorem useTail {I : Heap → Nat → Prop} {h : Heap} {tk : Nat} (hT : TailOf M A rest env Q E sb I) (hI : Rest (I h tk)) : wpAny M A (execs rest env) Q E { sb with heap := h, toks := tk } := hT h tk hI
theorem tail1 (I : Heap → Nat → Prop) (tail : ∀ h tk, I h tk → wpAny M A (execs rest env) Q E { sb with heap := h, toks := tk }) (main : TailOf M A rest env Q E sb I → wpAny M A (execs (x :: rest) env) Q E s₀) : wpAny M A (execs (x :: rest) env) Q E s₀ := main tail
theorem tail2 (I : Heap → Nat → Prop) (tail : ∀ h tk, I h tk → wpAny M A (execs rest env) Q E { sb with heap := h, toks := tk }) (main : TailOf M A rest env Q E sb I → wpAny M A (execs (x :: y :: rest) env) Q E s₀) : wpAny M A (execs (x :: y :: rest) env) Q E s₀ := main tail
end
local macro_rules | `(tactic| walk_at "execs cons") => `(tactic| ((rename TailOf _ _ _ _ _ _ _ _ => hT9); (with_reducible refine useTail hT9 ?_)))
theorem t207 (w : World) (mean : ExcName → Option Value) (mg mb : Str → Option Value) (b : Array UInt8) (t : Tok) (ks : List Int) (hb : KBw.bInts b = ks) (hl : ks.length ≤ 1000) : Ct w mean mg mb 207 4 [.bytes b t] (dRes (dueS ks)) := by
  have hks : ∀ k ∈ ks, 0 ≤ k ∧ k < 256 := fun k hk => KBw.ints_in (hb ▸ hk)
  w_top off
  unfold Ct
  k_fill
  intro dp un gd cn cs a ccd cl outer A₀ base h₀ L m news s Q E B F X N T hk hd hu hret
  refine wpAny_call ?_
  k_dflt (refine' enterW ?k1 ?k2 ?k3 ?k4 ?k5 ?kA ?kF ?kK ?k6 ?k7 ?k8 ?k9 ?kB ?_ ?c2 ?c3 ?c4 ?c5; (case kA => exact rfl); (case kF => exact rfl); (case kK => assumption); (case k1 => k_asm); (case k2 => k_asm); (case k3 => k_asm); (case k4 => k_asm); (case k5 => k_asm); (case k6 => k_is); (case k7 => k_is); (case k8 => ktr_room); (case k9 => first | exact BindsTo.of_eq rfl | exact binds_K (by k_in) rfl (by k_is) rfl rfl rfl); (case c5 => decide); (case kB => exact locs rfl); (case c2 => exact rfl); (case c3 => exact rfl); (case c4 => exact rfl); k_whole; intro g' L' h' FG' NG' F' N' B' X' T'; (try dsimp only); (try k_fold))
  refine' tail2 (sb := s) (fun h _ => ∃ (u : Str → Option Value) (t2 : Tok), Fr g' L' h (fun y => if y = Str.ofString "size" then some (.int (ks.length : Int) t2) else if y = Str.ofString "octets" then some (.bytes b t) else u y) ∧ dueS ks = due1 ks) ?tail1 ?main1
  case' tail1 =>
    rintro h tk ⟨u, t2, F', hdue⟩
    have N' : News g' L' h [] := fun p hp => nomatch hp
    (try dsimp only); (try k_fold)
    refine' tail1 (sb := s) (fun h _ => ∃ (u : Str → Option Value) (t2 : Tok), Fr g' L' h (fun y => if y = Str.ofString "size" then some (.int (ks.length : Int) t2) else if y = Str.ofString "octets" then some (.bytes b t) else u y) ∧ dueS ks = due2 ks) ?tail2 ?main2
  case' tail2 =>
    rintro h tk ⟨u, t2, F', hdue⟩
    have N' : News g' L' h [] := fun p hp => nomatch hp
    (try dsimp only); (try k_fold)
    refine' tail1 (sb := s) (fun h _ => ∃ (u : Str → Option Value) (t2 : Tok), Fr g' L' h (fun y => if y = Str.ofString "size" then some (.int (ks.length : Int) t2) else if y = Str.ofString "octets" then some (.bytes b t) else u y) ∧ dueS ks = due3 ks) ?tail3 ?main3
  case' tail3 =>
    rintro h tk ⟨u, t2, F', hdue⟩
    have N' : News g' L' h [] := fun p hp => nomatch hp
    (try dsimp only); (try k_fold)
    refine' tail1 (sb := s) (fun h _ => ∃ (u : Str → Option Value) (t2 : Tok), Fr g' L' h (fun y => if y = Str.ofString "size" then some (.int (ks.length : Int) t2) else if y = Str.ofString "octets" then some (.bytes b t) else u y) ∧ dueS ks = due4 ks) ?tail4 ?main4
  case' tail4 =>
    rintro h tk ⟨u, t2, F', hdue⟩
    have N' : News g' L' h [] := fun p hp => nomatch hp
    (try dsimp only); (try k_fold)
    refine' tail1 (sb := s) (fun h _ => ∃ (u : Str → Option Value) (t2 : Tok), Fr g' L' h (fun y => if y = Str.ofString "size" then some (.int (ks.length : Int) t2) else if y = Str.ofString "octets" then some (.bytes b t) else u y) ∧ dueS ks = due5 ks) ?tail5 ?main5
  case main1 =>
    intro hT
    k_steps
    all_goals ((try rw [sl_clip0 _ (by decide)] at *); (try rw [sl_clip1 _ (by decide)] at *); (try rw [sl_clip _ (by decide) (by decide)] at *); (try rw [bytes_beq (by assumption)] at *); (try simp only [Int.reduceToNat, Int.toNat_zero, Int.toNat_one, ne_eq] at *))
    all_goals first
      | (unfold Rest; refine ⟨_, _, fr1 (fr1 (by k_asm) (by rfl)) (by rfl), ?_⟩; unfold dueS; rw [if_neg (by rintro ⟨h1, h2, h3⟩; first | omega | exact absurd h2 (of_decide_eq_false (by assumption)))])
      | ((refine endT hret _ (by k_asm) NG' (by k_asm) (by k_asm) (fun p hp => hp) ?_; clear hret); unfold dueS; rw [if_pos ⟨by omega, of_decide_eq_true (by assumption), by omega⟩]; exact .tuple (.head _) (.cons (.str _ _) (.cons (.list (.tail _ (.head _)) (.cons (dBytes (by assumption)) .nil)) .nil)))
  case main2 =>
    intro hT
    k_steps
    all_goals ((try rw [sl_clip1 _ (by decide)] at *); (try simp only [Int.reduceToNat, Int.toNat_zero, Int.toNat_one, ne_eq] at *))
    all_goals first
      | (unfold Rest; refine ⟨_, _, fr1 (fr1 (by k_asm) (by rfl)) (by rfl), ?_⟩; exact hdue.trans (if_neg (by omega)))
      | ((refine endT hret _ (by k_asm) NG' (by k_asm) (by k_asm) (fun p hp => hp) ?_; clear hret); rw [hdue]; unfold due1; rw [if_pos (by omega)]
         (try rw [bytes_beq hb] at *)
         (try (rename (List.any _ _ = true) => hin9; replace hin9 := any2 hin9))
         (try (rename (List.any _ _ = false) => hin9; replace hin9 := any2f hin9))
         generalize hv : (if ks.getD 0 0 - 80 > 0 then ks.getD 0 0 - 80 else 0) = v at *
         have hv' : (81 ≤ ks.getD 0 0 ∧ v = ks.getD 0 0 - 80) ∨ (ks.getD 0 0 ≤ 80 ∧ v = 0) := by rw [← hv]; split <;> omega
         first
         | (exfalso; omega)
         | (unfold dueW
            repeat (first | rw [if_pos (by omega)] | rw [if_neg (by omega)] | rw [if_pos (show s108 ks = true by assumption)] | rw [if_neg (Bool.eq_false_iff.mp (show s108 ks = false by assumption))])
            first
              | exact .tuple (.head _) (.cons (.str _ _) (.cons (.list (.tail _ (.head _)) .nil) .nil))
              | exact .tuple (.head _) (.cons (.str _ _) (.cons (.list (.tail _ (.head _)) (.cons (dBytes (by assumption)) .nil)) .nil))
              | exact .tuple (.head _) (.cons (.str _ _) (.cons (.list (.tail _ (.head _)) (.cons (byteI (by first | omega | exact byte_back (by omega) (by omega) | (rw [show v = ks.getD 0 0 - 80 by omega]; exact byte_back (by omega) (by omega)))) (.cons (dBytes (by assumption)) .nil))) .nil))))
  case main3 =>
    intro hT
    k_steps
    all_goals (try exact ⟨rfl, _, _, rfl, by k_asm, by k_asm⟩)
    all_goals ((try rw [sl_clip1 _ (by decide)] at *); (try simp only [Int.reduceToNat, Int.toNat_zero, Int.toNat_one, ne_eq] at *))
    all_goals first
      | (unfold Rest; refine ⟨_, _, fr1 (fr1 (by k_asm) (by rfl)) (by rfl), ?_⟩; refine hdue.trans (if_neg ?_); rintro ⟨h1, h2, h3⟩; first
          | omega
          | (rw [show reading (ks.drop 1) (ks.drop 1).length 0 = none by assumption] at h3; cases h3)
          | ((rename reading (ks.drop 1) (ks.drop 1).length 0 = some _ => h4); rw [h4] at h3; have := low_iff.mpr (show lowAll _ = true from h3); omega))
      | ((refine endT hret _ (by k_asm) NG' (by k_asm) (by k_asm) (fun p hp => hp) ?_; clear hret); rw [hdue]; unfold due2; (rename reading (ks.drop 1) (ks.drop 1).length 0 = some _ => h4); rw [if_pos ⟨by omega, by omega, by rw [h4]; exact low_iff.mp (by omega)⟩]; exact .tuple (.head _) (.cons (.str _ _) (.cons (.list (.tail _ (.head _)) .nil) .nil)))
  case main4 =>
    intro hT
    k_steps
    all_goals ((try rw [sl_clipN] at *); (try simp only [Int.reduceToNat, Int.toNat_zero, Int.toNat_one, ne_eq] at *))
    all_goals (try (rename (List.any _ _ = true) => hin9; replace hin9 := any2 hin9))
    all_goals (try (rename (List.any _ _ = false) => hin9; replace hin9 := any2f hin9))
    all_goals first
      | (unfold Rest; refine ⟨_, _, fr1 (fr1 (by k_asm) (by rfl)) (by rfl), ?_⟩; refine hdue.trans (if_neg ?_); rintro ⟨h1, h2, h3, h4⟩; first | omega | cases h4.symm.trans (by assumption : keyOk (sl ks 1 (-1 + (ks.length : Int))) = false))
      | ((refine endT hret _ (by k_asm) NG' (by k_asm) (by k_asm) (fun p hp => hp) ?_; clear hret); rw [hdue]; unfold due3; rw [if_pos ⟨by omega, by omega, by omega, by assumption⟩]; exact .tuple (.head _) (.cons (.str _ _) (.cons (.list (.tail _ (.head _)) (.cons (dBytes (by assumption)) .nil)) .nil)))
  case main5 =>
    intro hT
    k_steps
    all_goals ((try rw [sl_clip0 _ (by decide)] at *); (try rw [sl_clip1 _ (by decide)] at *); (try rw [sl_clip _ (by decide) (by decide)] at *); (try rw [bytes_beq (by assumption)] at *); (try simp only [Int.reduceToNat, Int.toNat_zero, Int.toNat_one, ne_eq] at *))
    all_goals (try rw [bytes_beq (by assumption)] at *)
    all_goals first
      | (unfold Rest; refine ⟨_, _, fr1 (fr1 (by k_asm) (by rfl)) (by rfl), ?_⟩; refine hdue.trans ?_; unfold due4; rw [show s157 ks = none from if_neg (by rintro ⟨h1, h2, h3⟩; first | omega | exact absurd h2 (of_decide_eq_false (by assumption)) | exact absurd h3 (of_decide_eq_false (by assumption)))])
      | ((refine endT hret _ (by k_asm) NG' (by k_asm) (by k_asm) (fun p hp => hp) ?_; clear hret); rw [hdue]; unfold due4; rw [show s157 ks = some _ from if_pos ⟨by omega, of_decide_eq_true (by assumption), of_decide_eq_true (by assumption)⟩]; exact .tuple (.head _) (.cons (.str _ _) (.cons (.list (.tail _ (.head _)) (.cons (dBytes (by assumption)) .nil)) .nil)))
  case tail5 =>
    rintro h tk ⟨u, t2, F', hdue⟩
    have N' : News g' L' h [] := fun p hp => nomatch hp
    (try dsimp only); (try k_fold)
    k_steps
    all_goals ((refine endT hret _ (by k_asm) NG' (by k_asm) (by k_asm) (fun p hp => hp) ?_; clear hret); rw [hdue]; unfold due5; (rename lawMany ks = _ => h7); rw [h7]; dsimp only)
    all_goals first
      | exact .tuple (.head _) (.cons (.str _ _) (.cons (.list (.tail _ (.head _)) .nil) .nil))
      | exact .tuple (.head _) (.cons (.str _ _) (.cons (.list (.tail _ (.head _)) (multi_out (by assumption) (by assumption) (by assumption) (by assumption))) .nil))
end Mine
end
section
open PySem PySem.W PyProof.Rows PySem.Calls PySem.Spec
set_option Elab.async false
set_option linter.all false
set_option maxRecDepth 100000
set_option maxHeartbeats 8000000
namespace Mine
local macro_rules | `(tactic| walk_at "execs cons") => `(tactic| (k_here; (with_reducible refine execsC fun tk => ?_); (try dsimp only)))
local macro_rules | `(tactic| walk_at "execs nil") => `(tactic| (k_here; (with_reducible refine execsN fun tk => ?_); (try dsimp only)))
open Builtin Builtin.Bytes
theorem slot_join : Slot "bytes" "join" "bytes.join" :=
  .of (owner := "bytes") (n := "join") (by rw [typeLookup_type, builtinLookup_eq_fast]; kernel_rfl) (by decide +kernel) (by decide +kernel) (by decide +kernel)
    (by first | exact .inl (by decide +kernel) | exact .inr (by decide +kernel)) (by rw [isSubtype_type]; kernel_rfl)
theorem type_join : typeOf (.builtin "bytes.join") = pure (.type "method_descriptor") := by show builtinType _ = _; rw [builtinType_eq_fast]; kernel_rfl
theorem entry_join : entryFor table "bytes.join" = some Builtin.«bytes.join» := entryFor_of_tree (by kernel_rfl)
theorem args_join (a b : Value) : argsOk "bytes.join" ⟨[a, b], []⟩ := by unfold argsOk; kernel_rfl
theorem take_eq {b : Array UInt8} {t : Tok} {id : String} : takeBuffer? id (.bytes b t) 0 = pure (some (b, none)) := by
  unfold takeBuffer?
  rw [KBy.special_eq KBy.look_buffer, KBy.own_buffer]
  show (Bytes.buffer? id (.bytes b t) (0 == fullReadOnly) >>= fun r => pure (r.map (·, none))) = _
  rw [show ((0 : Int) == fullReadOnly) = false by decide +kernel, KBy.buffer_eq]
  rfl
theorem takeQ_eq {b : Array UInt8} {t : Tok} {id : String} : takeBufferQuiet? id (.bytes b t) 0 = pure (some (b, none)) := by
  unfold takeBufferQuiet?
  rw [take_eq]
  rfl
section
variable {prog : Program} {w : World} {M : Model} {A : Around} {E : Value → Shared → Prop} {s : Shared} {h₀ : Heap} {L D : Addr} {m : PySem.Str → Option Value} {news : List (Addr × Obj)} {b1 b2 b3 : Array UInt8} {t t1 t2 t3 : Tok} {n : Nat}
theorem typeL {vs : List Value} (ho : s.heap.get? D = some (W.listOf vs.toArray n)) : s.TypeIs (.ref D) "list" := (show s.heap.IsList D vs.toArray from ⟨_, ho, rfl, n, rfl⟩).typeIs
def LoopL {β : Type} (M : Model) (A : Around) (l : List Nat) (b : β) (f : Nat → β → Sem (ForInStep β)) (Q : β → Shared → Prop) (E : Value → Shared → Prop) (s : Shared) : Prop := wpAny M A (forIn l b f) Q E s
theorem forR {β : Type} {k : Nat} {b : β} {f : Nat → β → Sem (ForInStep β)} {Q : β → Shared → Prop} (h : LoopL M A (List.range' 0 k 1) b f Q E s) : wpAny M A (forIn [0:k] b f) Q E s := by
  unfold LoopL at h
  rw [Std.Legacy.Range.forIn_eq_forIn_range']
  simpa [Std.Legacy.Range.size] using h
theorem forL {β : Type} {x : Nat} {l : List Nat} {b : β} {f : Nat → β → Sem (ForInStep β)} {Q : β → Shared → Prop} (h : wpAny M A (f x b) (fun r s' => ∃ b', r = .yield b' ∧ LoopL M A l b' f Q E s') E s) : LoopL M A (x :: l) b f Q E s := by
  unfold LoopL
  rw [List.forIn_cons]
  refine wpAny_bind (wpAny_mono h (fun r s' hr => ?_) fun _ _ z => z)
  obtain ⟨b', rfl, hl⟩ := hr
  exact hl
theorem forN {β : Type} {b : β} {f : Nat → β → Sem (ForInStep β)} {Q : β → Shared → Prop} (h : Q b s) : LoopL M A [] b f Q E s := wpAny_pure h
def TakeAt (M : Model) (A : Around) (id : String) (x : Value) (Q : Option (Array UInt8 × Option Value) → Shared → Prop) (E : Value → Shared → Prop) (s : Shared) : Prop := wpAny M A (takeBufferQuiet? id x 0) Q E s
theorem takeS {id : String} {x : Value} {Q : Option (Array UInt8 × Option Value) → Shared → Prop} (h : TakeAt M A id x Q E s) : wpAny M A (takeBufferQuiet? id x 0) Q E s := h
theorem takeOk {id : String} {x : Value} {b : Array UInt8} {t : Tok} {Q : Option (Array UInt8 × Option Value) → Shared → Prop} (hx : x = .bytes b t) (h : Q (some (b, none)) s) : TakeAt M A id x Q E s := by
  subst hx
  exact wpAny_of_eq takeQ_eq h
theorem joinTree1 {P : Fin → Shared → Prop} (ho : s.heap.get? D = some (W.listOf [Value.bytes b1 t1].toArray n)) (hsz : b1.size ≤ 1000) (h : ∀ t' k, P (.done (.ret (.bytes (b1) t'))) { s with toks := k }) :
    wpAny M A (Builtin.«bytes.join» ⟨[.bytes #[] t, .ref D], []⟩) P E s := by
  obtain ⟨hp, g, d, tk, os⟩ := s
  have hT := typeL ho
  dsimp only at ho
  unfold Builtin.«bytes.join» joinM
  wp_walk using wpAny_load' ho, wpAny_typeOf hT, wpAny_seqItems ho rfl, forR, takeS
  exact h _ _
theorem joinTree2 {P : Fin → Shared → Prop} (ho : s.heap.get? D = some (W.listOf [Value.bytes b1 t1, Value.bytes b2 t2].toArray n)) (hsz : b1.size + b2.size ≤ 1000) (h : ∀ t' k, P (.done (.ret (.bytes (b1 ++ b2) t'))) { s with toks := k }) :
    wpAny M A (Builtin.«bytes.join» ⟨[.bytes #[] t, .ref D], []⟩) P E s := by
  obtain ⟨hp, g, d, tk, os⟩ := s
  have hT := typeL ho
  dsimp only at ho
  unfold Builtin.«bytes.join» joinM
  wp_walk using wpAny_load' ho, wpAny_typeOf hT, wpAny_seqItems ho rfl, forR, takeS
  refine forL (x := 0) (l := [1]) ?_
  wp_walk using wpAny_load' ho, wpAny_typeOf hT, wpAny_seqItems ho rfl, forR, takeS
  refine takeOk (b := b1) (t := t1) rfl ?_
  wp_walk using wpAny_load' ho, wpAny_typeOf hT, wpAny_seqItems ho rfl, forR, takeS
  refine ⟨(#[b1], [(Value.bytes b1 t1, none)]), rfl, ?_⟩
  refine forL (x := 1) (l := []) ?_
  wp_walk using wpAny_load' ho, wpAny_typeOf hT, wpAny_seqItems ho rfl, forR, takeS
  refine takeOk (b := b2) (t := t2) rfl ?_
  wp_walk using wpAny_load' ho, wpAny_typeOf hT, wpAny_seqItems ho rfl, forR, takeS
  refine ⟨(#[b1, b2], [(Value.bytes b1 t1, none), (Value.bytes b2 t2, none)]), rfl, ?_⟩
  refine forN ?_
  wp_walk using wpAny_load' ho, wpAny_typeOf hT, wpAny_seqItems ho rfl, forR, takeS
  refine wpAny_ite_false (decide_eq_false (by simp [tooLong, sizeLine_eq]; omega)) ?_
  wp_walk using wpAny_load' ho, wpAny_typeOf hT, wpAny_seqItems ho rfl, forR, takeS
  rw [show joined #[] (#[b1, b2], [(Value.bytes b1 t1, none), (Value.bytes b2 t2, none)]).fst.toList = b1 ++ b2 by simp [joined]]
  refine wpAny_ite_false (decide_eq_false (by simp [sizeLine_eq]; omega)) ?_
  wp_walk using wpAny_load' ho, wpAny_typeOf hT, wpAny_seqItems ho rfl, forR, takeS
  exact h _ _
theorem joinTree3 {P : Fin → Shared → Prop} (ho : s.heap.get? D = some (W.listOf [Value.bytes b1 t1, Value.bytes b2 t2, Value.bytes b3 t3].toArray n)) (hsz : b1.size + b2.size + b3.size ≤ 1000) (h : ∀ t' k, P (.done (.ret (.bytes (b1 ++ b2 ++ b3) t'))) { s with toks := k }) :
    wpAny M A (Builtin.«bytes.join» ⟨[.bytes #[] t, .ref D], []⟩) P E s := by
  obtain ⟨hp, g, d, tk, os⟩ := s
  have hT := typeL ho
  dsimp only at ho
  unfold Builtin.«bytes.join» joinM
  wp_walk using wpAny_load' ho, wpAny_typeOf hT, wpAny_seqItems ho rfl, forR, takeS
  refine forL (x := 0) (l := [1, 2]) ?_
  wp_walk using wpAny_load' ho, wpAny_typeOf hT, wpAny_seqItems ho rfl, forR, takeS
  refine takeOk (b := b1) (t := t1) rfl ?_
  wp_walk using wpAny_load' ho, wpAny_typeOf hT, wpAny_seqItems ho rfl, forR, takeS
  refine ⟨(#[b1], [(Value.bytes b1 t1, none)]), rfl, ?_⟩
  refine forL (x := 1) (l := [2]) ?_
  wp_walk using wpAny_load' ho, wpAny_typeOf hT, wpAny_seqItems ho rfl, forR, takeS
  refine takeOk (b := b2) (t := t2) rfl ?_
  wp_walk using wpAny_load' ho, wpAny_typeOf hT, wpAny_seqItems ho rfl, forR, takeS
  refine ⟨(#[b1, b2], [(Value.bytes b1 t1, none), (Value.bytes b2 t2, none)]), rfl, ?_⟩
  refine forL (x := 2) (l := []) ?_
  wp_walk using wpAny_load' ho, wpAny_typeOf hT, wpAny_seqItems ho rfl, forR, takeS
  refine takeOk (b := b3) (t := t3) rfl ?_
  wp_walk using wpAny_load' ho, wpAny_typeOf hT, wpAny_seqItems ho rfl, forR, takeS
  refine ⟨(#[b1, b2, b3], [(Value.bytes b1 t1, none), (Value.bytes b2 t2, none), (Value.bytes b3 t3, none)]), rfl, ?_⟩
  refine forN ?_
  wp_walk using wpAny_load' ho, wpAny_typeOf hT, wpAny_seqItems ho rfl, forR, takeS
  refine wpAny_ite_false (decide_eq_false (by simp [tooLong, sizeLine_eq]; omega)) ?_
  wp_walk using wpAny_load' ho, wpAny_typeOf hT, wpAny_seqItems ho rfl, forR, takeS
  rw [show joined #[] (#[b1, b2, b3], [(Value.bytes b1 t1, none), (Value.bytes b2 t2, none), (Value.bytes b3 t3, none)]).fst.toList = b1 ++ b2 ++ b3 by simp [joined]]
  refine wpAny_ite_false (decide_eq_false (by simp [sizeLine_eq]; omega)) ?_
  wp_walk using wpAny_load' ho, wpAny_typeOf hT, wpAny_seqItems ho rfl, forR, takeS
  exact h _ _
theorem joinCall {ws : List (Array UInt8 × Tok)} {n : Nat} {t : Tok} {Q : Value → Shared → Prop} (N : News h₀ L s.heap news) (hm : (D, W.listOf (ws.map fun p => Value.bytes p.1 p.2).toArray n) ∈ news) (h1 : 1 ≤ ws.length) (h3 : ws.length ≤ 3) (hsz : ∀ p ∈ ws, p.1.size ≤ 300)
    (h : ∀ (b : Array UInt8) t' k, KBw.bInts b = (ws.map fun p => KBw.bInts p.1).flatten → Q (.bytes b t') { s with toks := k }) : wpAny (model prog w) A (call (.builtin "bytes.join") [.bytes #[] t, .ref D]) Q E s := by
  have ho := (N _ hm).1
  have road : ∀ {P : Fin → Shared → Prop} {A' : Around} {E' : Value → Shared → Prop}, (∀ (b : Array UInt8) t' k, KBw.bInts b = (ws.map fun p => KBw.bInts p.1).flatten → P (.done (.ret (.bytes b t'))) { s with toks := k }) → wpAny (model prog w) A' (Builtin.«bytes.join» ⟨[.bytes #[] t, .ref D], []⟩) P E' s := by
    intro P A' E' hP
    clear h hm N
    dsimp only at ho
    match ws, h1, h3, hsz, ho, hP with
    | [p], _, _, hsz, ho, hP => exact joinTree1 (b1 := p.1) (t1 := p.2) ho (by have := hsz p (.head _); omega) fun t' k => hP _ t' k (by simp)
    | [p, q], _, _, hsz, ho, hP => exact joinTree2 (b1 := p.1) (t1 := p.2) (b2 := q.1) (t2 := q.2) ho (by have := hsz p (.head _); have := hsz q (.tail _ (.head _)); omega) fun t' k => hP _ t' k (by simp [KBw.bInts])
    | [p, q, r], _, _, hsz, ho, hP => exact joinTree3 (b1 := p.1) (t1 := p.2) (b2 := q.1) (t2 := q.2) (b3 := r.1) (t3 := r.2) ho (by have := hsz p (.head _); have := hsz q (.tail _ (.head _)); have := hsz r (.tail _ (.tail _ (.head _))); omega) fun t' k => hP _ t' k (by simp [KBw.bInts])
  exact wpAny_call_entry slot_join (typeIs_bytes _ _ _) entry_join (road fun b t' k e => ⟨_, rfl, h b t' k e⟩) (args_join _ _)
end
end Mine
end
section
open PySem PySem.W PyProof.Rows PySem.Calls PySem.Spec
set_option Elab.async false
set_option linter.all false
set_option maxRecDepth 100000
set_option maxHeartbeats 8000000
namespace Mine
local macro_rules | `(tactic| walk_at "execs cons") => `(tactic| (k_here; (with_reducible refine execsC fun tk => ?_); (try dsimp only)))
local macro_rules | `(tactic| walk_at "execs nil") => `(tactic| (k_here; (with_reducible refine execsN fun tk => ?_); (try dsimp only)))
/-! a comprehension over range(n) whose items are octets -/
section
variable {prog : Program} {w : World} {A : Around} {E : Value → Shared → Prop} {s : Shared} {h₀ : Heap} {L : Addr} {m : Str → Option Value} {env : Env} {cl : List (Str × Addr)}
open PyProof.Rows.LCg PyProof.Rows.LCt
def BEnd (P : Prop) : Prop := P
theorem restB {elt : PySem.Expr} {x : Str} {scope : Scope} {Fin : List Value → List (Addr × Obj) → Prop} {news : List (Addr × Obj)} {S : List (Addr × Obj) → Prop} {n : Nat} (g : Int → List Int) (hS : S news)
    (turn : ∀ (k : Int) (t : Tok) (ys : List Value) I oI C oC D m₂ h tk (E' : Value → Shared → Prop), 0 ≤ k → k < n → NsObj oC m₂ → m₂ x = some (.int k t) → Fr h₀ L h m → News h₀ L h ((I, oI) :: (C, oC) :: (D, lst ys) :: news) → Off3 I C D news → ((@Ne Nat I C) ∧ (@Ne Nat I D) ∧ (@Ne Nat C D)) →
      wpAny (model prog w) A (eval elt (compEnvC scope cl C env)) (fun y s' => BEnd (∃ h' tk' b u, s' = { s with heap := h', toks := tk' } ∧ y = .bytes b u ∧ Fr h₀ L h' m ∧ News h₀ L h' ((I, oI) :: (C, oC) :: (D, lst ys) :: news) ∧ KBw.bInts b = g k)) E' { s with heap := h, toks := tk })
    (fin : ∀ ws : List (Array UInt8 × Tok), ws.map (fun p => KBw.bInts p.1) = (rangeKs 0 n).map g → Fin (ws.map fun p => .bytes p.1 p.2) news) :
    CompRest prog w A h₀ L m env elt x scope cl s S (fun i v => ∃ t, v = .int (0 + (i : Int)) t) Fin n 0 [] news := by
  have key : ∀ (j i : Nat) (ws : List (Array UInt8 × Tok)), i + j = n → ws.map (fun p => KBw.bInts p.1) = ((rangeKs 0 n).take i).map g → CompRest prog w A h₀ L m env elt x scope cl s S (fun i v => ∃ t, v = .int (0 + (i : Int)) t) Fin j i (ws.map fun p => .bytes p.1 p.2) news := by
    intro j
    induction j with
    | zero =>
      intro i ws hi hw
      have e : i = (rangeKs 0 n).length := by rw [rangeKs_length]; omega
      rw [e, List.take_length] at hw
      exact CompRest.zero (fin ws hw)
    | succ j ih =>
      intro i ws hi hw
      refine CompRest.succ ?_
      intro v I oI C oC D m₂ h tk E' hv hC hx F N off ne
      obtain ⟨t, rfl⟩ := hv
      refine wpAny_mono (turn _ t _ I oI C oC D m₂ h tk E' (by omega) (by omega) hC hx F N off ne) (fun y s₂ hq => ?_) fun _ _ e => e
      obtain ⟨h', tk', b, u, rfl, rfl, F', N', hb⟩ := hq
      refine ⟨h', tk', news, rfl, F', N', off, hS, ?_⟩
      have hk : (rangeKs 0 n)[i]? = some (0 + (i : Int)) := by simp [rangeKs, show i < n by omega]
      have := ih (i + 1) (ws ++ [(b, u)]) (by omega) (by rw [List.take_add_one, hk, List.map_append, List.map_append, hw]; simp [hb])
      rwa [List.map_append] at this
  exact key n 0 [] (by omega) rfl
theorem srcB {elt : PySem.Expr} {x : Str} {scope : Scope} {r : Addr} {b : Int} {t u v : Tok} {n : Nat} {Fin : Shared → List Value → List (Addr × Obj) → Prop} {news : List (Addr × Obj)} (g : Int → List Int) (hh : A.handled = none) (F : Fr h₀ L s.heap m) (N : News h₀ L s.heap news) (hr : IsRange s.heap r 0 b 1 t u v) (hb : b = n) (hn : n ≤ 3)
    (turn : ∀ (g' : Heap) (k : Int) (t : Tok) (ys : List Value) I oI C oC D m₂ h tk (E' : Value → Shared → Prop), 0 ≤ k → k < n → NsObj oC m₂ → m₂ x = some (.int k t) → Fr h₀ L h m → News h₀ L h ((I, oI) :: (C, oC) :: (D, lst ys) :: news) → Off3 I C D news → ((@Ne Nat I C) ∧ (@Ne Nat I D) ∧ (@Ne Nat C D)) →
      wpAny (model prog w) A (eval elt (compEnvC scope cl C env)) (fun y s' => BEnd (∃ h' tk' b u, s' = { s with heap := h', toks := tk' } ∧ y = .bytes b u ∧ Fr h₀ L h' m ∧ News h₀ L h' ((I, oI) :: (C, oC) :: (D, lst ys) :: news) ∧ KBw.bInts b = g k)) E' { s with heap := h, toks := tk })
    (fin : ∀ g' (ws : List (Array UInt8 × Tok)), ws.map (fun p => KBw.bInts p.1) = (rangeKs 0 n).map g → Fin { s with heap := g' } (ws.map fun p => .bytes p.1 p.2) news) :
    CompSrc prog w A h₀ L m env elt x scope cl Fin (.ref r) s := by
  subst hb
  have h3 : n = 0 ∨ n = 1 ∨ n = 2 ∨ n = 3 := by omega
  refine CompSrc.range (n := n) hh F N hr (by rcases h3 with rfl | rfl | rfl | rfl <;> decide) (by rcases h3 with rfl | rfl | rfl | rfl <;> decide) (by rw [sizeLine_eq]; omega) fun g' => ?_
  exact restB (s := { s with heap := g' }) g trivial (fun k t ys I oI C oC D m₂ h tk E' => turn g' k t ys I oI C oC D m₂ h tk E') (fin g')
end
end Mine
end
section
open PySem PySem.W PyProof.Rows PySem.Calls PySem.Spec
set_option Elab.async false
set_option linter.all false
set_option maxRecDepth 100000
set_option maxHeartbeats 8000000
namespace Mine
local macro_rules | `(tactic| walk_at "execs cons") => `(tactic| (k_here; (with_reducible refine execsC fun tk => ?_); (try dsimp only)))
local macro_rules | `(tactic| walk_at "execs nil") => `(tactic| (k_here; (with_reducible refine execsN fun tk => ?_); (try dsimp only)))
/-- a call of a def with a number and a list of numbers of the caller's -/
def CtL (w : World) (mean : ExcName → Option Value) (mg mb : Str → Option Value) (f : Addr) (D : Nat) (v : Value) (ns : List Int) (d : Dat) : Prop :=
  ∀ (dp un : Nat) (gd : Option (List Code)) (cn : Str) (cs : Scope) (a : Addr) (ccd : Value) (cl : List (Str × Addr)) (outer : List Env) (A₀ : Around) (base h₀ : Heap) (L : Addr) (m : Str → Option Value) (news : List (Addr × Obj)) (s : Shared)
    (Q E : Value → Shared → Prop),
    Below A₀ base outer h₀ → Fr h₀ L s.heap m → (Mine.hd.heap_39 w.params).In h₀ → News h₀ L s.heap news → Top Mine.hd.view_39 ezLoose mean mg mb h₀ → cs.kind = .function → dp + D < recursionLimit → un + 8 * D < cLine →
    Back h₀ L m news s Q d → ∀ (l : Addr) (us : List Value) (n : Nat), (l, W.listOf us.toArray n) ∈ news → IntsAre us ns →
    wpAny (model PySem.Challenge.rw_ez0012_01.row.prog w) (ktrTop dp un gd cn cs L a ccd cl outer) (call (.ref f) [v, .ref l]) Q E s
theorem pushed_in {n : Int} {x : Bool} (h1 : 0 ≤ n) (h2 : n ≤ 3) : KBa.In (if x = true then [1, n] else [80 + n]) := by
  cases x
  · intro k hk; simp at hk; omega
  · intro k hk; simp at hk; omega
theorem pushed_len {n : Int} {x : Bool} {b : Array UInt8} (_ : KBw.bInts b = if x = true then [1, n] else [80 + n]) : (if x = true then [1, n] else [80 + n]).length ≤ 2 := by
  cases x <;> simp
local macro_rules | `(tactic| walk_at "call ref") => `(tactic| (k_here; (with_reducible show wpAny _ _ (call (Value.ref 214) [Value.int _ _, Value.bool _]) _ _ _); k_dflt (refine' Ct.use (t214 _ _ _ _ _ _ _ ?h1 ?h2) ?k1 ?k2 ?k3 ?k4 ?k5 ?kK ?kd ?ku ?_; (case h1 => omega); (case h2 => omega); (case k1 => k_asm); (case k2 => k_asm); (case k3 => k_asm); (case k4 => k_asm); (case k5 => k_asm); (case kK => first | exact rfl | assumption); (case kd => ktr_room); (case ku => ktr_units)); intro r9 tl9 h9 tk9 F9 N9 o9 d9; obtain ⟨b9, t9, er9, hb9⟩ := dat_bytes (pushed_in (by omega) (by omega)) d9; (have hl9 := pushed_len hb9); subst er9; clear d9; replace N9 := newsR N9; clear o9; (try dsimp only); (try k_fold)))

theorem getD_nn {ns : List Int} (h : ∀ k ∈ ns, 0 ≤ k) (j : Nat) : 0 ≤ ns.getD j 0 := by
  rw [List.getD_eq_getElem?_getD]
  cases e : ns[j]? with
  | none => exact Int.le_refl 0
  | some x => exact h x (List.mem_of_getElem? e)
theorem KBs.one {a : Int} (h : 0 ≤ a ∧ a < 256) : KBa.In [a] := List.forall_mem_cons.mpr ⟨h, List.forall_mem_nil _⟩
theorem KBs.two {a b : Int} (h : 0 ≤ a ∧ a < 256) (h2 : 0 ≤ b ∧ b < 256) : KBa.In [a, b] := List.forall_mem_cons.mpr ⟨h, List.forall_mem_cons.mpr ⟨h2, List.forall_mem_nil _⟩⟩
theorem fm {a b : Int} (h : 0 ≤ b) : a.fmod b = a % b := Int.fmod_eq_emod_of_nonneg _ h
section
variable {prog : Program} {w : World} {A : Around} {E : Value → Shared → Prop} {s : Shared} {h₀ : Heap} {L a : Addr}
theorem itemInts {value slice : PySem.Expr} {nx : List (Addr × Obj)} {vs : List Value} {ns : List Int} {n : Nat} {k : Int} {u : Tok} {Q : Value → Shared → Prop} (N : News h₀ L s.heap nx) (hm : (a, W.listOf vs.toArray n) ∈ nx) (hI : IntsAre vs ns)
    (h0 : 0 ≤ k) (h1 : k < ns.length) (h2 : ns.length ≤ 1000) (h : ∀ t, Q (.int (ns.getD k.toNat 0) t) s)
    (hs : subscripted slice false (.ref a) (.int k u) = operate [.ref a, .int k u] (getItem (.ref a) (.int k u)) := by with_unfolding_all rfl) :
    wpAny (model prog w) A (subscriptTail value slice (.ref a) (.int k u)) Q E s := by
  have hL : s.heap.IsList a vs.toArray := ⟨_, (N _ hm).1, rfl, n, rfl⟩
  have hlt : k.toNat < ns.length := by omega
  obtain ⟨t, ht⟩ := hI.get k.toNat (ns.getD k.toNat 0) (by rw [List.getD_eq_getElem?_getD, List.getElem?_eq_getElem hlt]; rfl)
  exact tail_any hL.typeIs slot_list_getitem.lookup (wpAny_getItem_list hL h0 (by have := hI.length; omega) (by simpa using ht) (h t)) hs
end
section
variable {prog : Program} {w : World} {A : Around} {E : Value → Shared → Prop} {s : Shared} {h₀ : Heap} {L D a : Addr} {m : PySem.Str → Option Value} {news : List (Addr × Obj)} {vs : List Value} {ns : List Int}
inductive Hid (P : Prop) : Prop where
  | mk (h : P) : Hid P
theorem itemBase {value slice : PySem.Expr} {vs : List Value} {ns : List Int} {k : Int} {u : Tok} {Q : Value → Shared → Prop} (F : Fr h₀ L s.heap m) (hL₀ : h₀.IsList a vs.toArray) (hI : IntsAre vs ns)
    (h0 : 0 ≤ k) (h1 : k < ns.length) (h2 : ns.length ≤ 1000) (h : ∀ t, Q (.int (ns.getD k.toNat 0) t) s)
    (hs : subscripted slice false (.ref a) (.int k u) = operate [.ref a, .int k u] (getItem (.ref a) (.int k u)) := by with_unfolding_all rfl) :
    wpAny (model prog w) A (subscriptTail value slice (.ref a) (.int k u)) Q E s := by
  have hL : s.heap.IsList a vs.toArray := (by obtain ⟨o, ho, hc, n, hd⟩ := hL₀; exact ⟨o, F.keep _ _ ho, hc, n, hd⟩)
  have hlt : k.toNat < ns.length := by omega
  obtain ⟨t, ht⟩ := hI.get k.toNat (ns.getD k.toNat 0) (by rw [List.getD_eq_getElem?_getD, List.getElem?_eq_getElem hlt]; rfl)
  exact tail_any hL.typeIs slot_list_getitem.lookup (wpAny_getItem_list hL h0 (by have := hI.length; omega) (by simpa using ht) (h t)) hs
theorem addB {b c : Array UInt8} {t u : Tok} {ks ls : List Int} {Q : Value → Shared → Prop} (hb : KBw.bInts b = ks) (hc : KBw.bInts c = ls) (hsz : ks.length + ls.length ≤ 16777216) (h : ∀ (d : Array UInt8) t' k, KBw.bInts d = ks ++ ls → Q (.bytes d t') { s with toks := k }) : wpAny (model prog w) A (binaryOp .Add (.bytes b t) (.bytes c u)) Q E s :=
  KBa.add_K hb hc hsz fun t' k e => h _ t' k e
theorem mkB {Q : Value → Shared → Prop} (F : Fr h₀ L s.heap m) (N : News h₀ L s.heap news) (hh : A.handled = none) (hl : s.heap.IsList D vs.toArray) (hi : IntsAre vs ns) (hr : KBa.In ns) (hn : ns.length ≤ 16777216)
    (h : ∀ h' t' k (b : Array UInt8), KBw.bInts b = ns → Fr h₀ L h' m → News h₀ L h' news → Q (.bytes b t') { s with heap := h', toks := k }) : wpAny (model prog w) A (call (.type "bytes") [.ref D]) Q E s :=
  KBa.make_K F N hh hl hi hr hn fun h' t' k F N I => h h' t' k _ (KBa.ints_make I) F N
theorem rowMk {Q : Value → Shared → Prop} {n : Nat} (F : Fr h₀ L s.heap m) (N : News h₀ L s.heap news) (hh : A.handled = none) (hl : s.heap.IsList D vs.toArray) (hi : IntsAre vs ns) (hr : KBa.In ns) (hn : ns.length = n) (hn2 : n ≤ 16777216)
    (h : ∀ h' t' k (b : Array UInt8) (row : List Int), Hid (ns = row) → KBw.bInts b = row → row.length = n → KBa.In row → Fr h₀ L h' m → News h₀ L h' news → Q (.bytes b t') { s with heap := h', toks := k }) : wpAny (model prog w) A (call (.type "bytes") [.ref D]) Q E s :=
  KBa.make_K F N hh hl hi hr (hn ▸ hn2) fun h' t' k F N I => h h' t' k _ ns ⟨rfl⟩ (by kba_ints) hn I F N
end
local macro_rules | `(tactic| walk_at "call type:bytes") => `(tactic| (k_here; (with_reducible show wpAny _ _ (call (Value.type "bytes") [Value.ref _]) _ _ _); k_dflt (refine' mkB ?bzF ?bzN ?bzh ?bzl ?bzi ?bzr ?bzn ?_; (case bzF => k_asm); (case bzN => k_asm); (case bzh => rfl); (case bzl => kba_isList); (case bzi => kba_listInts); (case bzr => first | ((with_reducible show KBa.In [_]); refine KBs.one ?_; (first | ((try simp (config := {decide := true}) only [fm, Int.toNat_zero]); omega) | (with_reducible exact ⟨KBe.menu_lo (by decide), KBe.menu_hi (by decide)⟩) | (refine KBw.getD_in ?_; refine KBs.two ?_ ?_ <;> first | omega | ((try simp (config := {decide := true}) only [fm, Int.toNat_zero]); omega)))) | ((with_reducible show KBa.In [_, _]); refine KBs.two ?_ ?_ <;> (first | ((try simp (config := {decide := true}) only [fm, Int.toNat_zero]); omega) | (with_reducible exact ⟨KBe.menu_lo (by decide), KBe.menu_hi (by decide)⟩) | (refine KBw.getD_in ?_; refine KBs.two ?_ ?_ <;> first | omega | ((try simp (config := {decide := true}) only [fm, Int.toNat_zero]); omega))))); (case bzn => kba_size)); intro _ _ _ b8 hb8 F' N'; (try dsimp only); (try k_fold)))
local macro_rules | `(tactic| walk_at "call type:bytes") => `(tactic| (k_here; (with_reducible show wpAny _ _ (call (Value.type "bytes") [Value.ref _]) _ _ _); k_dflt (refine' rowMk (n := 80) ?bzF ?bzN ?bzh ?bzl ?bzi ?bzr ?bzn ?bzm ?_; (case bzF => k_asm); (case bzN => k_asm); (case bzh => rfl); (case bzl => kba_isList); (case bzi => kba_listInts); (case bzr => (with_reducible show KBa.In (List.map _ _)); kbe_in); (case bzn => (rw [List.length_map, rangeKs_length]; rfl)); (case bzm => decide)); intro _ _ _ b80 row80 hrow80 hb80 hl80 kbaIn F' N'; (rename IntsAre _ (List.map _ _) => hI8); (clear hI8); (rename (List.length _ = List.length (List.map _ _)) => hI9); (clear hI9); (try dsimp only); (try k_fold)))
local macro_rules | `(tactic| walk_at "subscriptTail List cons BinOp ref int") => `(tactic| (k_here; k_dflt (refine' itemInts ?ziN ?zim ?ziI ?zi0 ?zi1 ?zi2 ?_ ?zis; (case ziN => k_asm); (case zim => k_mem); (case ziI => kba_listInts); (case zi2 => exact Nat.le_of_ble_eq_true rfl); (case zi0 => first | omega | ((try simp (config := {decide := true}) only [fm, Int.toNat_zero]); omega)); (case zi1 => (simp only [List.length_cons, List.length_nil]; first | omega | ((try simp (config := {decide := true}) only [fm, Int.toNat_zero]); omega))); (case zis => with_unfolding_all rfl)); intro t9; (try dsimp only); (try k_fold)))
local macro_rules | `(tactic| walk_at "binaryOp Add bytes bytes") => `(tactic| (k_here; (with_reducible show wpAny _ _ (binaryOp Operator.Add (Value.bytes _ _) (Value.bytes _ _)) _ _ _); (refine' addB ?zab ?zac ?zas ?_; (case zab => kba_ints2); (case zac => kba_ints2); (case zas => kba_size)); intro d8 t8 k8 hd8; (try dsimp only); (try k_fold)))
local macro_rules | `(tactic| walk_at "subscriptTail Name BinOp ref int") => `(tactic| (k_here; k_dflt (refine' itemBase ?ziF ?ziL ?ziI ?zi0 ?zi1 ?zi2 ?_ ?zis; (case ziF => k_asm); (case ziL => assumption); (case ziI => assumption); (case zi0 => omega); (case zi1 => omega); (case zi2 => omega); (case zis => with_unfolding_all rfl)); intro t9; (try dsimp only); (try k_fold)))
local macro_rules | `(tactic| walk_at "getMethod bytes") => `(tactic| (k_here; refine KBd.method_of (.bytes #[] _) (typeIs_bytes _ _ _) slot_join type_join KBd.noRef ?_; (try dsimp only); (try k_fold)))
local macro_rules | `(tactic| walk_at "CompSrc") => `(tactic| ((with_reducible show LCg.CompSrc _ _ _ _ _ _ _ (PySem.Expr.IfExp _ _ _ _) _ _ _ _ _ _); refine restHere ?_))
local macro_rules | `(tactic| walk_at "call builtin:bytes.join") => `(tactic| (k_here; k_dflt (refine' joinCall ?jN ?jm ?j1 ?j3 ?js ?_; (case jN => k_asm); (case jm => k_mem); (case j1 => omega); (case j3 => omega); (case js => assumption)); intro b8 t8 k8 hb8; (try dsimp only); (try k_fold)))
def rowS (ns : List Int) : List Int := List.map (fun k' : Int => (ns.getD (k'.fmod ↑ns.length).toNat 0 + 7 * k').fmod 256) (rangeKs 0 ((80 : Int) - 0).toNat)
def smallS (ns : List Int) : List Int := [2 + (ns.getD 0 0).fmod 2] ++ (rowS ns).take 32
def greatS (ns : List Int) : List Int := [[4, 6, 7].getD ((ns.getD 0 0).fmod 3).toNat 0] ++ (rowS ns).take 64
def pushedS (n : Int) (x : Bool) : List Int := if x = true then [1, n] else [80 + n]
def keyG (ns : List Int) (k : Int) : List Int := if k.fmod 2 = 0 then [33] ++ smallS ns else [65] ++ greatS ns
def keysS (ns : List Int) (m : Nat) : List Int := ((rangeKs 0 m).map (keyG ns)).flatten
theorem keyG_len (ns : List Int) (k : Int) : (keyG ns k).length ≤ 300 := by
  unfold keyG smallS greatS
  split <;> simp only [List.length_append, List.length_cons, List.length_nil, List.length_take] <;> omega
theorem wsFacts {ws : List (Array UInt8 × Tok)} {n : Nat} {ns : List Int} (hw : ws.map (fun p => KBw.bInts p.1) = (rangeKs 0 n).map (keyG ns)) : ws.length = n ∧ (∀ p ∈ ws, p.1.size ≤ 300) ∧ ((ws.map fun p => KBw.bInts p.1).flatten).length ≤ 300 * n := by
  have hl : ws.length = n := by
    have := congrArg List.length hw
    rwa [List.length_map, List.length_map, rangeKs_length] at this
  have hs : ∀ p ∈ ws, p.1.size ≤ 300 := fun p hp => by
    have h1 : KBw.bInts p.1 ∈ ws.map (fun p => KBw.bInts p.1) := List.mem_map.mpr ⟨p, hp, rfl⟩
    rw [hw] at h1
    obtain ⟨k, _, hk⟩ := List.mem_map.mp h1
    rw [← KBw.ints_length, ← hk]
    exact keyG_len ns k
  refine ⟨hl, hs, ?_⟩
  subst hl
  clear hw
  induction ws with
  | nil => simp
  | cons p r ih =>
    have h1 := hs p (.head _)
    have h2 := ih fun q hq => hs q (.tail _ hq)
    rw [← KBw.ints_length] at h1
    simp only [List.map_cons, List.flatten_cons, List.length_append, List.length_cons]
    omega
def builtS (kind : Int) (ns : List Int) : List Int :=
  if kind = 0 then [33] ++ smallS ns ++ [172]
  else if kind = 1 then [65] ++ greatS ns ++ [172]
  else if kind = 2 then [118, 169, 20] ++ (rowS ns).take 20 ++ [136, 172]
  else if kind = 3 then [169, 20] ++ (rowS ns).take 20 ++ [135]
  else if kind < 7 then [[0, 0, 81].getD (kind - 4).toNat 0, [20, 32, 32].getD (kind - 4).toNat 0] ++ (rowS ns).take ([20, 32, 32].getD (kind - 4).toNat (0 : Int)).toNat
  else if kind = 7 then (if (ns.getD 0 0).fmod 3 = 0 then [81, 2, 78, 115] else [[0, 80 + (ns.getD 0 0).fmod 17].getD ((ns.getD 0 0).fmod 2).toNat 0, 2 + (ns.getD (Int.fmod 1 (ns.length : Int)).toNat 0).fmod 39] ++ (rowS ns).take (2 + (ns.getD (Int.fmod 1 (ns.length : Int)).toNat 0).fmod 39).toNat)
  else if kind = 8 then [106] ++ [(ns.getD 0 0).fmod 76] ++ (rowS ns).take ((ns.getD 0 0).fmod 76).toNat
  else pushedS (1 + (ns.getD (Int.fmod 1 (ns.length : Int)).toNat 0).fmod (1 + (ns.getD 0 0).fmod 3)) (kind == 11) ++ keysS ns (1 + (ns.getD 0 0).fmod 3).toNat ++ pushedS (1 + (ns.getD 0 0).fmod 3) (kind == 10) ++ [174]
theorem t219 (w : World) (mean : ExcName → Option Value) (mg mb : Str → Option Value) (kind : Int) (tk : Tok) (ns : List Int) (hn : 0 < ns.length) (hn2 : ns.length ≤ 12) (hnn : ∀ k ∈ ns, 0 ≤ k) (hk0 : 0 ≤ kind) (hk1 : kind < 12) : CtL w mean mg mb 219 2 (.int kind tk) ns (BY (builtS kind ns)) := by
  w_top off
  unfold CtL
  k_fill
  intro dp un gd cn cs a ccd cl outer A₀ base h₀ L m news s Q E B F X N T hk hd hu hret l us n hm hI
  have hkl : us.length = ns.length := hI.length
  refine wpAny_call ?_
  k_dflt (refine' enterWC ?k1 ?k2 ?k3 ?k4 ?k5 ?kA ?kF ?kK ?k6 ?k7 ?k8 ?k9 ?kB ?kD ?_ ?c2 ?c3 ?c4; (case kA => exact rfl); (case kF => exact rfl); (case kK => assumption); (case k1 => k_asm); (case k2 => k_asm); (case k3 => k_asm); (case k4 => k_asm); (case k5 => k_asm); (case k6 => k_is); (case k7 => k_is); (case k8 => ktr_room); (case k9 => exact BindsTo.of_eq rfl); (case kB => exact rfl); (case kD => decide +kernel); (case c2 => exact rfl); (case c3 => exact rfl); (case c4 => exact rfl); k_whole; intro g' L' h' tk' cells' FG' NG' F' N' Y' B' X' T'; k_cells Y'; (try simp only [List.cons_append, List.nil_append] at N'); (try dsimp only); (try k_fold))
  have hL : g'.IsList l us.toArray := ⟨_, (NG' _ hm).1, rfl, n, rfl⟩
  have hz : 0 ≤ ns.getD 0 0 := getD_nn hnn _
  have hz1 : 0 ≤ ns.getD (Int.fmod 1 (ns.length : Int)).toNat 0 := getD_nn hnn _
  have hz2 : 0 ≤ Int.fmod 1 (ns.length : Int) ∧ Int.fmod 1 (ns.length : Int) < ns.length := ⟨fmod_lo _ (by omega), fmod_hi _ (by omega)⟩
  have hz4 : 0 ≤ (ns.getD (Int.fmod 1 (ns.length : Int)).toNat 0).fmod (1 + (ns.getD (Int.toNat 0) 0).fmod 3) ∧ (ns.getD (Int.fmod 1 (ns.length : Int)).toNat 0).fmod (1 + (ns.getD (Int.toNat 0) 0).fmod 3) < 1 + (ns.getD (Int.toNat 0) 0).fmod 3 := by
    have h3 := fmod_lo (ns.getD (Int.toNat 0) 0) (show (0 : Int) < 3 by omega)
    exact ⟨fmod_lo _ (by omega), fmod_hi _ (by omega)⟩
  have hz3 : 0 ≤ (ns.getD (Int.toNat 0) 0).fmod 3 ∧ (ns.getD (Int.toNat 0) 0).fmod 3 < 3 := ⟨fmod_lo _ (by omega), fmod_hi _ (by omega)⟩
  k_steps
  all_goals first
    | ((with_reducible show Rest _); skip)
    | ((refine endV hret (by k_asm) ?_; clear hret); (rename Hid _ => hh; obtain ⟨hh⟩ := hh); unfold builtS; (repeat (first | rw [if_pos (by first | assumption | omega)] | rw [if_neg (by first | assumption | omega)])); (try unfold smallS); (try unfold greatS); (try unfold rowS); (try rw [hh]); refine dBytes (Eq.trans (by first | assumption | exact rfl) ?_); (try rw [sl_clip0 _ (by first | omega | exact KBe.menu_lo (by decide) | ((try simp (config := {decide := true}) only [fm, Int.toNat_zero]); omega))]); first | done | rfl)
  unfold Rest
  k_here
  refine' srcB (n := (1 + (ns.getD (Int.toNat 0) 0).fmod 3).toNat) (keyG ns) ?y1 ?y2 ?y3 ?y4 ?y5 ?y6 ?turn ?fin
  case y1 => exact rfl
  case y2 => k_asm
  case y3 => k_asm
  case y4 => assumption
  case y5 => omega
  case y6 => omega
  case turn =>
    intro g7 k7 t7 ys7 I7 oI7 C7 oC7 D7 m7 h7 tk7 E7 hlo7 hhi7 hC7 hx7 F7 N7 off7 ne7
    (try dsimp only)
    (try k_fold)
    k_steps
    all_goals
      refine ⟨_, _, _, _, rfl, rfl, by k_asm, by k_asm, Eq.trans (by assumption) ?_⟩
      (rename Hid _ => hh; obtain ⟨hh⟩ := hh)
      unfold keyG
      first | rw [if_pos (by assumption)] | rw [if_neg (by assumption)]
      (try unfold smallS); (try unfold greatS); (try unfold rowS); rw [hh]; rw [sl_clip0 _ (by decide)]; rfl
  case fin =>
    intro g7 ws7 hw7
    obtain ⟨hw1, hw2, hw3⟩ := wsFacts hw7
    (try dsimp only)
    (try k_fold)
    k_steps
    (refine endV hret (by k_asm) ?_; clear hret)
    unfold builtS
    repeat (first | rw [if_pos (by first | assumption | omega)] | rw [if_neg (by first | assumption | omega)])
    refine dBytes (Eq.trans (by assumption) ?_)
    unfold pushedS keysS
    rw [hw7]
    rfl
end Mine
end
section
open PySem PySem.W PyProof.Rows PySem.Calls PySem.Spec
set_option Elab.async false
set_option linter.all false
set_option maxRecDepth 100000
set_option maxHeartbeats 8000000
namespace Mine
local macro_rules | `(tactic| walk_at "execs cons") => `(tactic| (k_here; (with_reducible refine execsC fun tk => ?_); (try dsimp only)))
local macro_rules | `(tactic| walk_at "execs nil") => `(tactic| (k_here; (with_reducible refine execsN fun tk => ?_); (try dsimp only)))
def kindName (kind : Int) : Option String :=
  if kind = 0 ∨ kind = 1 then some "pubkey" else if kind = 2 then some "pubkeyhash" else if kind = 3 then some "scripthash" else if kind = 4 then some "witness_v0_keyhash" else if kind = 5 then some "witness_v0_scripthash"
  else if kind = 6 then some "witness_v1_taproot" else if kind = 7 then none else if kind = 8 then some "nulldata" else if kind = 9 then some "multisig" else some "nonstandard"
/-! what stands in the built scripts -/
theorem litIn {a : List Int} (h : ∀ k ∈ a, 0 ≤ k ∧ k < 256) : KBa.In a := h
theorem inApp {a b : List Int} (h : KBa.In a) (g : KBa.In b) : KBa.In (a ++ b) := fun k hk => (List.mem_append.mp hk).elim (h k) (g k)
theorem inTake {a : List Int} {n : Nat} (h : KBa.In a) : KBa.In (a.take n) := fun k hk => h k (List.mem_of_mem_take hk)
theorem rowS_in (ns : List Int) : KBa.In (rowS ns) := fun k hk => by
  obtain ⟨j, _, rfl⟩ := List.mem_map.mp hk
  exact ⟨fmod_lo _ (by decide), fmod_hi _ (by decide)⟩
theorem rowS_len (ns : List Int) : (rowS ns).length = 80 := by
  unfold rowS
  rw [List.length_map, rangeKs_length]
  rfl
theorem small0 {ns : List Int} : 2 ≤ 2 + (ns.getD 0 0).fmod 2 ∧ 2 + (ns.getD 0 0).fmod 2 ≤ 3 := by
  have h1 := fmod_lo (ns.getD 0 0) (show (0 : Int) < 2 by decide)
  have h2 := fmod_hi (ns.getD 0 0) (show (0 : Int) < 2 by decide)
  omega
theorem great0 {ns : List Int} : [4, 6, 7].getD ((ns.getD 0 0).fmod 3).toNat (0 : Int) = 4 ∨ [4, 6, 7].getD ((ns.getD 0 0).fmod 3).toNat (0 : Int) = 6 ∨ [4, 6, 7].getD ((ns.getD 0 0).fmod 3).toNat (0 : Int) = 7 := by
  have h1 := fmod_lo (ns.getD 0 0) (show (0 : Int) < 3 by decide)
  have h2 := fmod_hi (ns.getD 0 0) (show (0 : Int) < 3 by decide)
  generalize (ns.getD 0 0).fmod 3 = m at *
  have : m = 0 ∨ m = 1 ∨ m = 2 := by omega
  rcases this with rfl | rfl | rfl <;> decide
theorem smallS_in (ns : List Int) : KBa.In (smallS ns) := inApp (KBs.one (by have := small0 (ns := ns); omega)) (inTake (rowS_in ns))
theorem greatS_in (ns : List Int) : KBa.In (greatS ns) := inApp (KBs.one (by have := great0 (ns := ns); omega)) (inTake (rowS_in ns))
theorem smallS_len (ns : List Int) : (smallS ns).length = 33 := by
  unfold smallS
  rw [List.length_append, List.length_take, rowS_len]
  rfl
theorem greatS_len (ns : List Int) : (greatS ns).length = 65 := by
  unfold greatS
  rw [List.length_append, List.length_take, rowS_len]
  rfl
theorem small_ok (ns : List Int) : keyOk (smallS ns) = true := by
  have h := small0 (ns := ns)
  unfold keyOk
  rw [smallS_len, show (smallS ns).getD 0 0 = 2 + (ns.getD 0 0).fmod 2 from rfl]
  have : 2 + (ns.getD 0 0).fmod 2 = 2 ∨ 2 + (ns.getD 0 0).fmod 2 = 3 := by omega
  rcases this with e | e <;> rw [e] <;> decide
theorem great_ok (ns : List Int) : keyOk (greatS ns) = true := by
  unfold keyOk
  rw [greatS_len, show (greatS ns).getD 0 0 = [4, 6, 7].getD ((ns.getD 0 0).fmod 3).toNat (0 : Int) from rfl]
  rcases great0 (ns := ns) with e | e | e <;> rw [e] <;> decide
theorem keyG_in (ns : List Int) (k : Int) : KBa.In (keyG ns k) := by
  unfold keyG
  split
  · exact inApp (KBs.one (by decide)) (smallS_in ns)
  · exact inApp (KBs.one (by decide)) (greatS_in ns)
theorem keyG_len66 (ns : List Int) (k : Int) : (keyG ns k).length ≤ 66 := by
  unfold keyG
  split
  · rw [List.length_append, smallS_len]; decide
  · rw [List.length_append, greatS_len]; decide
theorem keysS_in (ns : List Int) (m : Nat) : KBa.In (keysS ns m) := fun k hk => by
  obtain ⟨l, hl, hk⟩ := List.mem_flatten.mp hk
  obtain ⟨j, _, rfl⟩ := List.mem_map.mp hl
  exact keyG_in ns j k hk
theorem flat_len {f : Int → List Int} (h : ∀ k, (f k).length ≤ 66) : ∀ l : List Int, ((l.map f).flatten).length ≤ 66 * l.length
  | [] => by simp
  | k :: r => by
    have h1 := h k
    have h2 := flat_len h r
    simp only [List.map_cons, List.flatten_cons, List.length_append, List.length_cons]
    omega
theorem keysS_len (ns : List Int) (m : Nat) : (keysS ns m).length ≤ 66 * m := by
  have := flat_len (keyG_len66 ns) (rangeKs 0 m)
  rwa [rangeKs_length] at this
theorem pushedS_in {n : Int} {x : Bool} (h1 : 0 ≤ n) (h2 : n ≤ 3) : KBa.In (pushedS n x) := pushed_in h1 h2
theorem pushedS_len {n : Int} {x : Bool} : (pushedS n x).length ≤ 2 ∧ 1 ≤ (pushedS n x).length := by unfold pushedS; cases x <;> simp
section
variable {kind : Int} {ns : List Int}
theorem many0 : 1 ≤ 1 + (ns.getD 0 0).fmod 3 ∧ 1 + (ns.getD 0 0).fmod 3 ≤ 3 := by
  have h1 := fmod_lo (ns.getD 0 0) (show (0 : Int) < 3 by decide)
  have h2 := fmod_hi (ns.getD 0 0) (show (0 : Int) < 3 by decide)
  omega
theorem least0 : 1 ≤ 1 + (ns.getD (Int.fmod 1 (ns.length : Int)).toNat 0).fmod (1 + (ns.getD 0 0).fmod 3) ∧ 1 + (ns.getD (Int.fmod 1 (ns.length : Int)).toNat 0).fmod (1 + (ns.getD 0 0).fmod 3) ≤ 1 + (ns.getD 0 0).fmod 3 := by
  have h0 := many0 (ns := ns)
  have h1 := fmod_lo (ns.getD (Int.fmod 1 (ns.length : Int)).toNat 0) (show 0 < 1 + (ns.getD 0 0).fmod 3 by omega)
  have h2 := fmod_hi (ns.getD (Int.fmod 1 (ns.length : Int)).toNat 0) (show 0 < 1 + (ns.getD 0 0).fmod 3 by omega)
  omega
theorem built_in (h0 : 0 ≤ kind) : KBa.In (builtS kind ns) := by
  have hm := many0 (ns := ns)
  have hl := least0 (ns := ns)
  unfold builtS
  repeat' split
  · exact inApp (inApp (KBs.one (by decide)) (smallS_in ns)) (KBs.one (by decide))
  · exact inApp (inApp (KBs.one (by decide)) (greatS_in ns)) (KBs.one (by decide))
  · exact inApp (inApp (litIn (by decide)) (inTake (rowS_in ns))) (litIn (by decide))
  · exact inApp (inApp (litIn (by decide)) (inTake (rowS_in ns))) (litIn (by decide))
  · exact inApp (KBs.two ⟨KBe.menu_lo (by decide), KBe.menu_hi (by decide)⟩ ⟨KBe.menu_lo (by decide), KBe.menu_hi (by decide)⟩) (inTake (rowS_in ns))
  · exact litIn (by decide)
  · refine inApp (KBs.two ?_ ?_) (inTake (rowS_in ns))
    · refine KBw.getD_in (KBs.two (by decide) ?_)
      have h1 := fmod_lo (ns.getD 0 0) (show (0 : Int) < 17 by decide)
      have h2 := fmod_hi (ns.getD 0 0) (show (0 : Int) < 17 by decide)
      omega
    · have h1 := fmod_lo (ns.getD (Int.fmod 1 (ns.length : Int)).toNat 0) (show (0 : Int) < 39 by decide)
      have h2 := fmod_hi (ns.getD (Int.fmod 1 (ns.length : Int)).toNat 0) (show (0 : Int) < 39 by decide)
      omega
  · refine inApp (inApp (KBs.one (by decide)) (KBs.one ?_)) (inTake (rowS_in ns))
    have h1 := fmod_lo (ns.getD 0 0) (show (0 : Int) < 76 by decide)
    have h2 := fmod_hi (ns.getD 0 0) (show (0 : Int) < 76 by decide)
    omega
  · exact inApp (inApp (inApp (pushedS_in (by omega) (by omega)) (keysS_in ns _)) (pushedS_in (by omega) (by omega))) (KBs.one (by decide))
theorem built_len : 0 < (builtS kind ns).length ∧ (builtS kind ns).length ≤ 250 := by
  have hm := many0 (ns := ns)
  unfold builtS
  repeat' split
  · simp only [List.length_append, List.length_cons, List.length_nil, smallS_len]; omega
  · simp only [List.length_append, List.length_cons, List.length_nil, greatS_len]; omega
  · simp only [List.length_append, List.length_cons, List.length_nil, List.length_take]; omega
  · simp only [List.length_append, List.length_cons, List.length_nil, List.length_take]; omega
  · simp only [List.length_append, List.length_cons, List.length_nil, List.length_take, rowS_len]; omega
  · decide
  · simp only [List.length_append, List.length_cons, List.length_nil, List.length_take, rowS_len]; omega
  · simp only [List.length_append, List.length_cons, List.length_nil, List.length_take, rowS_len]; omega
  · have h1 := keysS_len ns (1 + (ns.getD 0 0).fmod 3).toNat
    have h2 := @pushedS_len (1 + (ns.getD (Int.fmod 1 (ns.length : Int)).toNat 0).fmod (1 + (ns.getD 0 0).fmod 3)) (kind == 11)
    have h3 := @pushedS_len (1 + (ns.getD 0 0).fmod 3) (kind == 10)
    simp only [List.length_append, List.length_cons, List.length_nil]
    omega
end
/-! what solver tells of the built scripts -/
theorem keyScript {d : List Int} {c : Int} (hc : c = 33 ∨ c = 65) (hd : (d.length : Int) = c) (hk : keyOk d = true) : (dueS ([c] ++ d ++ [172])).1 = "pubkey" := by
  have hl : ([c] ++ d ++ [172]).length = d.length + 2 := by simp
  have h0 : ([c] ++ d ++ [172]).getD 0 0 = c := rfl
  have hlast : ([c] ++ d ++ [172]).getD ((-1 : Int) + (([c] ++ d ++ [172]).length : Int)).toNat 0 = 172 := by
    rw [hl, show ((-1 : Int) + ((d.length + 2 : Nat) : Int)).toNat = d.length + 1 by omega]
    simp [List.getD_eq_getElem?_getD]
  have hs : sl ([c] ++ d ++ [172]) 1 ((-1 : Int) + (([c] ++ d ++ [172]).length : Int)) = d := by
    rw [hl]
    unfold sl
    rw [show ((-1 : Int) + ((d.length + 2 : Nat) : Int)).toNat - (1 : Int).toNat = d.length by omega]
    show (d ++ [172]).take d.length = d
    exact List.take_left' rfl
  unfold dueS due1 due2 due3
  rw [if_neg (by omega), if_neg (by omega), if_neg (by omega), if_pos ⟨by omega, by omega, hlast, by rw [hs]; exact hk⟩]
theorem hashScript {r : List Int} (hr : r.length = 20) : (dueS ([118, 169, 20] ++ r ++ [136, 172])).1 = "pubkeyhash" := by
  have hl : ([118, 169, 20] ++ r ++ [136, 172]).length = 25 := by simp [hr]
  have h0 : ([118, 169, 20] ++ r ++ [136, 172]).getD 0 0 = 118 := rfl
  unfold dueS due1 due2 due3 due4
  rw [if_neg (by omega), if_neg (by omega), if_neg (by omega), if_neg (by omega)]
  have : s157 ([118, 169, 20] ++ r ++ [136, 172]) = some ((([118, 169, 20] ++ r ++ [136, 172]).drop 3).take 20) := if_pos ⟨hl, rfl, by
    rw [List.append_assoc, show [118, 169, 20] ++ (r ++ [136, 172]) = ([118, 169, 20] ++ r) ++ [136, 172] by simp]
    exact List.drop_left' (by simp [hr])⟩
  rw [this]
theorem shScript {r : List Int} (hr : r.length = 20) : (dueS ([169, 20] ++ r ++ [135])).1 = "scripthash" := by
  have hl : ([169, 20] ++ r ++ [135]).length = 23 := by simp [hr]
  unfold dueS
  rw [if_pos ⟨hl, rfl, by
    rw [List.getD_eq_getElem?_getD, List.getElem?_append_right (by simp [hr])]
    simp [hr]⟩]
theorem witScript {r : List Int} {c : Int} {nm : String} (h : (c = 0 ∧ r.length = 20 ∧ nm = "witness_v0_keyhash") ∨ (c = 0 ∧ r.length = 32 ∧ nm = "witness_v0_scripthash") ∨ (c = 81 ∧ r.length = 32 ∧ nm = "witness_v1_taproot")) : (dueS ([c, (r.length : Int)] ++ r)).1 = nm := by
  have hl : ([c, (r.length : Int)] ++ r).length = r.length + 2 := by simp
  have h0 : ([c, (r.length : Int)] ++ r).getD 0 0 = c := rfl
  have h1 : ([c, (r.length : Int)] ++ r).getD 1 0 = r.length := rfl
  unfold dueS due1 dueW
  rcases h with ⟨hc, hr, rfl⟩ | ⟨hc, hr, rfl⟩ | ⟨hc, hr, rfl⟩
  · rw [if_neg (by omega), if_pos (by omega), if_pos (by omega)]
  · rw [if_neg (by omega), if_pos (by omega), if_neg (by omega), if_pos (by omega)]
  · rw [if_neg (by omega), if_pos (by omega), if_neg (by omega), if_neg (by omega), if_pos (by omega)]
/-! scripts out of whole ops -/
def enc (p : Int × List Int) : List Int := p.1 :: p.2
def okc (p : Int × List Int) : Prop := (1 ≤ p.1 ∧ p.1 ≤ 75 ∧ (p.2.length : Int) = p.1) ∨ ((p.1 = 0 ∨ 79 ≤ p.1) ∧ p.2 = [])
theorem op_enc {pre rest : List Int} {p : Int × List Int} (h : okc p) : (pre ++ (enc p ++ rest)).getD pre.length 0 = p.1 ∧ opEnd (pre ++ (enc p ++ rest)) pre.length = some ((pre ++ enc p).length : Int) ∧ opData (pre ++ (enc p ++ rest)) pre.length p.1 ((pre ++ enc p).length : Int) = p.2 := by
  have hg : (pre ++ (enc p ++ rest)).getD pre.length 0 = p.1 := by
    rw [List.getD_eq_getElem?_getD, List.getElem?_append_right (Nat.le_refl _), Nat.sub_self]
    rfl
  have hl : (pre ++ (enc p ++ rest)).length = pre.length + (p.2.length + 1) + rest.length := by simp [enc]; omega
  have hl2 : (pre ++ enc p).length = pre.length + (p.2.length + 1) := by simp [enc]
  have ht : ((pre.length : Nat) : Int).toNat = pre.length := by omega
  refine ⟨hg, ?_, ?_⟩
  · rcases h with ⟨h1, h2, h3⟩ | ⟨h1, h2⟩
    · rw [opEnd_short (by omega) (by rw [ht, hg]; omega) (by rw [ht, hg]; omega), ht, hg, if_pos (by omega), hl2]
      congr 1
      omega
    · rw [opEnd_bare (by omega) (by rw [ht, hg]; omega), hl2, h2]
      rfl
  · rcases h with ⟨h1, h2, h3⟩ | ⟨h1, h2⟩
    · unfold opData
      rw [if_pos (by omega), hl2]
      unfold sl
      rw [show ((pre.length : Nat) + 1 : Int).toNat = (pre ++ [p.1]).length by simp, show ((pre.length + (p.2.length + 1) : Nat) : Int).toNat - (pre ++ [p.1]).length = p.2.length by simp; omega,
        show pre ++ (enc p ++ rest) = (pre ++ [p.1]) ++ (p.2 ++ rest) by simp [enc], List.drop_left' rfl, List.take_left' rfl]
    · unfold opData
      rw [if_neg (by omega), if_neg (by omega), h2]
theorem reading_enc : ∀ (l : List (Int × List Int)) (pre : List Int) (n : Nat), (∀ p ∈ l, okc p) → l.length ≤ n → reading (pre ++ (l.map enc).flatten) n pre.length = some l
  | [], pre, n, _, _ => by
    rw [reading_end (by simp)]
  | p :: r, pre, 0, _, h => absurd h (Nat.not_succ_le_zero _)
  | p :: r, pre, n + 1, hok, h => by
    obtain ⟨h1, h2, h3⟩ := @op_enc pre ((r.map enc).flatten) p (hok p (.head _))
    have ht : ((pre.length : Nat) : Int).toNat = pre.length := by omega
    rw [show ((p :: r).map enc).flatten = enc p ++ (r.map enc).flatten from rfl]
    rw [reading_step (by have : (pre ++ (enc p ++ (r.map enc).flatten)).length = pre.length + ((p.2.length + 1) + (r.map enc).flatten.length) := by simp [enc]; omega
                         omega) h2, ht, h1, h3]
    have := reading_enc r (pre ++ enc p) n (fun q hq => hok q (.tail _ hq)) (Nat.le_of_succ_le_succ h)
    rw [List.append_assoc] at this
    rw [this]
    rfl
theorem dataScript {r : List Int} (hr : r.length ≤ 75) : (dueS ([106] ++ [(r.length : Int)] ++ r)).1 = "nulldata" := by
  have h0 : ([106] ++ [(r.length : Int)] ++ r).getD 0 0 = 106 := rfl
  have hl : 0 < ([106] ++ [(r.length : Int)] ++ r).length := by simp
  have ht : ([106] ++ [(r.length : Int)] ++ r).take 2 = [106, (r.length : Int)] := rfl
  have hd : ([106] ++ [(r.length : Int)] ++ r).drop 1 = [] ++ ([((r.length : Int), r)].map enc).flatten := by simp [enc]
  have hok : okc ((r.length : Int), r) := by
    unfold okc
    dsimp only
    by_cases h : r.length = 0
    · exact .inr ⟨.inl (by omega), List.length_eq_zero_iff.mp h⟩
    · exact .inl ⟨by omega, by omega, rfl⟩
  have hread := reading_enc [((r.length : Int), r)] [] ([] ++ ([((r.length : Int), r)].map enc).flatten).length (fun p hp => by rw [List.mem_singleton.mp hp]; exact hok) (by simp [enc])
  have h3 : ((reading (([106] ++ [(r.length : Int)] ++ r).drop 1) (([106] ++ [(r.length : Int)] ++ r).drop 1).length 0).any lowAll) = true := by
    rw [hd, show (0 : Int) = (([] : List Int).length : Int) from rfl, hread]
    show ([((r.length : Int), r)].all fun p => decide (p.1 ≤ 96)) = true
    simp
    omega
  unfold dueS due1 due2
  rw [if_neg (by rintro ⟨_, h, _⟩; rw [ht] at h; exact absurd (List.cons.inj h).1 (by decide)), if_neg (by omega), if_pos ⟨hl, h0, h3⟩]
theorem multiScript {cl cm : Int × List Int} {keys : List (Int × List Int)} {ks : List Int} (hks : ks = (((cl :: (keys ++ [cm, (174, [])])).map enc).flatten)) (ha : okc cl) (hb : okc cm) (hc : ∀ p ∈ keys, okc p ∧ p.2.length ≠ 0) (h1 : 1 ≤ keys.length) :
    lawMany ks = match lawNumber cl.1 cl.2, lawNumber cm.1 cm.2 with
      | some a, some b => if 1 ≤ a ∧ a ≤ b ∧ b ≤ 20 ∧ (keys.length : Int) = b ∧ keys.all (fun p => keyOk p.2) = true then some (a, keys.map (·.2)) else none
      | _, _ => none := by
  have hall : ∀ p ∈ cl :: (keys ++ [cm, (174, [])]), okc p := fun p hp => by
    rcases List.mem_cons.mp hp with rfl | hp
    · exact ha
    · rcases List.mem_append.mp hp with hp | hp
      · exact (hc p hp).1
      · rcases List.mem_cons.mp hp with rfl | hp
        · exact hb
        · rw [List.mem_singleton.mp hp]
          exact .inr ⟨.inr (by decide), rfl⟩
  have hlen : ∀ l : List (Int × List Int), l.length ≤ ((l.map enc).flatten).length := fun l => by
    induction l with
    | nil => simp
    | cons p r ih =>
      rw [List.map_cons, List.flatten_cons, List.length_append, List.length_cons]
      have : (enc p).length = p.2.length + 1 := rfl
      omega
  have := reading_enc (cl :: (keys ++ [cm, (174, [])])) [] ks.length hall (by rw [hks]; exact hlen _)
  rw [List.nil_append, ← hks] at this
  unfold lawMany
  rw [show (0 : Int) = (([] : List Int).length : Int) from rfl, this]
  show manyOf _ = _
  rw [manyOf_ok, if_neg (by rintro (h | h); · omega
                            · exact h rfl)]
  first | done | rfl
def chunkOf (n : Int) (x : Bool) : Int × List Int := if x = true then (1, [n]) else (80 + n, [])
theorem enc_chunk (n : Int) (x : Bool) : enc (chunkOf n x) = pushedS n x := by cases x <;> rfl
theorem chunk_ok {n : Int} {x : Bool} (h : 0 ≤ n) : okc (chunkOf n x) := by
  cases x
  · exact .inr ⟨.inr (by show 79 ≤ 80 + n; omega), rfl⟩
  · exact .inl ⟨by show (1 : Int) ≤ 1; decide, by show (1 : Int) ≤ 75; decide, rfl⟩
def keyC (ns : List Int) (k : Int) : Int × List Int := if k.fmod 2 = 0 then (33, smallS ns) else (65, greatS ns)
theorem enc_key (ns : List Int) (k : Int) : enc (keyC ns k) = keyG ns k := by
  unfold keyC keyG
  split <;> rfl
theorem keyC_ok (ns : List Int) (k : Int) : okc (keyC ns k) ∧ (keyC ns k).2.length ≠ 0 ∧ keyOk (keyC ns k).2 = true := by
  unfold keyC
  split
  · exact ⟨.inl ⟨by show (1 : Int) ≤ 33; decide, by show (33 : Int) ≤ 75; decide, by show ((smallS ns).length : Int) = 33; rw [smallS_len]; rfl⟩, by show (smallS ns).length ≠ 0; rw [smallS_len]; decide, small_ok ns⟩
  · exact ⟨.inl ⟨by show (1 : Int) ≤ 65; decide, by show (65 : Int) ≤ 75; decide, by show ((greatS ns).length : Int) = 65; rw [greatS_len]; rfl⟩, by show (greatS ns).length ≠ 0; rw [greatS_len]; decide, great_ok ns⟩
theorem keys0 (ns : List Int) (m : Nat) (hm : 1 ≤ m) : ∃ r, keysS ns m = 33 :: r := by
  obtain ⟨k, rfl⟩ : ∃ k, m = k + 1 := ⟨m - 1, by omega⟩
  have : rangeKs 0 (k + 1) = 0 :: (rangeKs 0 (k + 1)).drop 1 := by simp [rangeKs, List.range_succ_eq_map]
  unfold keysS
  rw [this]
  exact ⟨_, rfl⟩
theorem keysLen (ns : List Int) (m : Nat) (hm : m = 1 ∨ m = 2 ∨ m = 3) : (m = 1 ∧ (keysS ns m).length = 34) ∨ (m = 2 ∧ (keysS ns m).length = 100) ∨ (m = 3 ∧ (keysS ns m).length = 134) := by
  have e0 : keyG ns 0 = [33] ++ smallS ns := rfl
  have e1 : keyG ns 1 = [65] ++ greatS ns := rfl
  have e2 : keyG ns 2 = [33] ++ smallS ns := rfl
  rcases hm with rfl | rfl | rfl
  · left
    refine ⟨rfl, ?_⟩
    show ([keyG ns 0].flatten).length = 34
    simp [e0, smallS_len]
  · right; left
    refine ⟨rfl, ?_⟩
    show ([keyG ns 0, keyG ns 1].flatten).length = 100
    simp [e0, e1, smallS_len, greatS_len]
  · right; right
    refine ⟨rfl, ?_⟩
    show ([keyG ns 0, keyG ns 1, keyG ns 2].flatten).length = 134
    simp [e0, e1, e2, smallS_len, greatS_len]
/-- a script of some of many keys -/
theorem someScript {ns : List Int} {a b : Int} {m : Nat} {x y : Bool} (ha : 1 ≤ a) (hab : a ≤ b) (hb : b = m) (hm : m = 1 ∨ m = 2 ∨ m = 3) : dueS (pushedS a x ++ keysS ns m ++ pushedS b y ++ [174]) = due5 (pushedS a x ++ keysS ns m ++ pushedS b y ++ [174]) ∧
    lawMany (pushedS a x ++ keysS ns m ++ pushedS b y ++ [174]) = match lawNumber (chunkOf a x).1 (chunkOf a x).2, lawNumber (chunkOf b y).1 (chunkOf b y).2 with
      | some a, some b => if 1 ≤ a ∧ a ≤ b ∧ b ≤ 20 ∧ (m : Int) = b then some (a, ((rangeKs 0 m).map (keyC ns)).map (·.2)) else none
      | _, _ => none := by
  obtain ⟨r, hr⟩ := keys0 ns m (by omega)
  have hkl := keysLen ns m hm
  constructor
  · have h0 : (pushedS a x ++ keysS ns m ++ pushedS b y ++ [174]).getD 0 0 = (if x = true then 1 else 80 + a) := by
      cases x <;> rfl
    have h1 : x = false → (pushedS a x ++ keysS ns m ++ pushedS b y ++ [174]).getD 1 0 = 33 := fun hx => by
      subst hx
      rw [hr]
      rfl
    have hl : (pushedS a x ++ keysS ns m ++ pushedS b y ++ [174]).length = (if x = true then 2 else 1) + (keysS ns m).length + (if y = true then 2 else 1) + 1 := by
      simp only [List.length_append]
      cases x <;> cases y <;> rfl
    generalize pushedS a x ++ keysS ns m ++ pushedS b y ++ [174] = ks at *
    have hlen : 37 ≤ ks.length ∧ ks.length ≠ 42 ∧ ks.length ≠ 67 ∧ (x = false → ks.length ≠ 35) := by
      rw [hl]
      cases x <;> cases y <;> simp <;> omega
    have h157 : s157 ks = none := if_neg (by rintro ⟨h, _⟩; omega)
    have hq : ks.getD 0 0 ≠ 106 ∧ (ks.getD 0 0 = 1 ∨ (x = false ∧ 81 ≤ ks.getD 0 0)) := by
      rw [h0]
      cases x
      · simp; omega
      · simp
    unfold dueS due1 due2 due3 due4
    rw [if_neg (by omega), if_neg (by
      rintro ⟨g1, g2, g3, g4⟩
      rcases hq.2 with e | ⟨e, _⟩
      · omega
      · rw [h1 e] at g4; omega), if_neg (by omega), if_neg (by omega), h157]
  · have := multiScript (cl := chunkOf a x) (cm := chunkOf b y) (keys := (rangeKs 0 m).map (keyC ns)) (ks := pushedS a x ++ keysS ns m ++ pushedS b y ++ [174]) (by
      simp only [List.map_cons, List.map_append, List.flatten_cons, List.flatten_append, enc_chunk, List.map_nil, List.flatten_nil, List.map_map]
      rw [show enc ∘ keyC ns = keyG ns from funext (enc_key ns)]
      simp [keysS, enc]) (chunk_ok (by omega)) (chunk_ok (by omega)) (fun p hp => by
        obtain ⟨k, _, rfl⟩ := List.mem_map.mp hp
        exact ⟨(keyC_ok ns k).1, (keyC_ok ns k).2.1⟩) (by rw [List.length_map, rangeKs_length]; omega)
    rw [this, List.length_map, rangeKs_length]
    have hall : ((rangeKs 0 m).map (keyC ns)).all (fun p => keyOk p.2) = true := List.all_eq_true.mpr fun p hp => by
      obtain ⟨k, _, rfl⟩ := List.mem_map.mp hp
      exact (keyC_ok ns k).2.2
    simp only [hall, and_true]
theorem built_kind {kind : Int} {ns : List Int} (h0 : 0 ≤ kind) (h1 : kind < 12) {nm : String} (h : kindName kind = some nm) : (dueS (builtS kind ns)).1 = nm := by
  have hm := many0 (ns := ns)
  have hl := least0 (ns := ns)
  have ht : ((rowS ns).take 20).length = 20 := by rw [List.length_take, rowS_len]; rfl
  have hc : kind = 0 ∨ kind = 1 ∨ kind = 2 ∨ kind = 3 ∨ kind = 4 ∨ kind = 5 ∨ kind = 6 ∨ kind = 7 ∨ kind = 8 ∨ kind = 9 ∨ kind = 10 ∨ kind = 11 := by omega
  rcases hc with e | e | e | e | e | e | e | e | e | e | e | e <;> subst e <;> (unfold kindName at h; simp at h) <;> subst h
  · exact keyScript (.inl rfl) (by rw [smallS_len]; rfl) (small_ok ns)
  · exact keyScript (.inr rfl) (by rw [greatS_len]; rfl) (great_ok ns)
  · exact hashScript ht
  · exact shScript ht
  · have := witScript (r := (rowS ns).take 20) (c := 0) (nm := "witness_v0_keyhash") (.inl ⟨rfl, ht, rfl⟩)
    rw [ht] at this
    exact this
  · have h32 : ((rowS ns).take 32).length = 32 := by rw [List.length_take, rowS_len]; rfl
    have := witScript (r := (rowS ns).take 32) (c := 0) (nm := "witness_v0_scripthash") (.inr (.inl ⟨rfl, h32, rfl⟩))
    rw [h32] at this
    exact this
  · have h32 : ((rowS ns).take 32).length = 32 := by rw [List.length_take, rowS_len]; rfl
    have := witScript (r := (rowS ns).take 32) (c := 81) (nm := "witness_v1_taproot") (.inr (.inr ⟨rfl, h32, rfl⟩))
    rw [h32] at this
    exact this
  · have g1 := fmod_lo (ns.getD 0 0) (show (0 : Int) < 76 by decide)
    have g2 := fmod_hi (ns.getD 0 0) (show (0 : Int) < 76 by decide)
    have hr : ((rowS ns).take ((ns.getD 0 0).fmod 76).toNat).length = ((ns.getD 0 0).fmod 76).toNat := by rw [List.length_take, rowS_len]; omega
    have := dataScript (r := (rowS ns).take ((ns.getD 0 0).fmod 76).toNat) (by omega)
    rw [hr, show ((((ns.getD 0 0).fmod 76).toNat : Nat) : Int) = (ns.getD 0 0).fmod 76 by omega] at this
    exact this
  all_goals
    show (dueS (pushedS (1 + (ns.getD (Int.fmod 1 (ns.length : Int)).toNat 0).fmod (1 + (ns.getD 0 0).fmod 3)) _ ++ keysS ns (1 + (ns.getD 0 0).fmod 3).toNat ++ pushedS (1 + (ns.getD 0 0).fmod 3) _ ++ [174])).1 = _
    generalize 1 + (ns.getD (Int.fmod 1 (ns.length : Int)).toNat 0).fmod (1 + (ns.getD 0 0).fmod 3) = a at *
    generalize 1 + (ns.getD 0 0).fmod 3 = b at *
  · obtain ⟨e1, e2⟩ := someScript (ns := ns) (a := a) (b := b) (m := b.toNat) (x := false) (y := false) hl.1 hl.2 (by omega) (by omega)
    have n1 : lawNumber (chunkOf a false).1 (chunkOf a false).2 = some a := by
      show lawNumber (80 + a) [] = _
      unfold lawNumber
      rw [if_pos (by omega)]
      congr 1
      omega
    have n2 : lawNumber (chunkOf b false).1 (chunkOf b false).2 = some b := by
      show lawNumber (80 + b) [] = _
      unfold lawNumber
      rw [if_pos (by omega)]
      congr 1
      omega
    rw [n1, n2] at e2
    dsimp only at e2
    rw [if_pos (by omega)] at e2
    refine (congrArg Prod.fst e1).trans ?_
    unfold due5
    rw [e2]
  · obtain ⟨e1, e2⟩ := someScript (ns := ns) (a := a) (b := b) (m := b.toNat) (x := false) (y := true) hl.1 hl.2 (by omega) (by omega)
    have n2 : lawNumber (chunkOf b true).1 (chunkOf b true).2 = none := by
      show lawNumber 1 [b] = _
      unfold lawNumber
      rw [if_neg (by omega), if_neg (by rintro ⟨_, _, h, _⟩; exact absurd (show 17 ≤ b from h) (by omega))]
    rw [n2] at e2
    refine (congrArg Prod.fst e1).trans ?_
    unfold due5
    rw [e2]
    split
    · rename_i h; split at h
      · rename_i h9; cases h9
      · cases h
    · rfl
  · obtain ⟨e1, e2⟩ := someScript (ns := ns) (a := a) (b := b) (m := b.toNat) (x := true) (y := false) hl.1 hl.2 (by omega) (by omega)
    have n1 : lawNumber (chunkOf a true).1 (chunkOf a true).2 = none := by
      show lawNumber 1 [a] = _
      unfold lawNumber
      rw [if_neg (by omega), if_neg (by rintro ⟨_, _, h, _⟩; exact absurd (show 17 ≤ a from h) (by omega))]
    rw [n1] at e2
    refine (congrArg Prod.fst e1).trans ?_
    unfold due5
    rw [e2]
end Mine
end
section
open PySem PySem.W PyProof.Rows PySem.Calls PySem.Spec
set_option Elab.async false
set_option linter.all false
set_option maxRecDepth 100000
set_option maxHeartbeats 8000000
namespace Mine
local macro_rules | `(tactic| walk_at "execs cons") => `(tactic| (k_here; (with_reducible refine execsC fun tk => ?_); (try dsimp only)))
local macro_rules | `(tactic| walk_at "execs nil") => `(tactic| (k_here; (with_reducible refine execsN fun tk => ?_); (try dsimp only)))
/-! two results that bear the same datum -/
section
variable {prog : Program} {w : World} {A : Around} {E : Value → Shared → Prop} {s : Shared} {h₀ : Heap} {L a b : Addr} {nx tl tl2 : List (Addr × Obj)}
open PySem.SeqAt
theorem eqB (c : Array UInt8) (t u : Tok) : EqAt A s (.bytes c t) (.bytes c u) true := fun prog w E Q h => by
  unfold eqBool
  refine wpAny_holding ?_
  refine wpAny_ite_split (fun _ => wpAny_bind (wpAny_rule (wpAny_pure h))) (fun _ => ?_)
  exact wpAny_bind (show wpAny (model prog w) A (compareOp .Eq (.bytes c t) (.bytes c u)) _ _ _ from PySem.W.eq_bytes (by rw [beq_self_eq_true]; exact wpAny_truthy_bool h))
theorem eqBs : ∀ {keys : List (List Int)} {vs us : List Value}, DatAll tl vs (keys.map BY) → DatAll tl2 us (keys.map BY) → ∀ j (h1 : j < vs.length) (h2 : j < us.length), EqAt A s vs[j] us[j] true
  | [], _, _, h, _, j, h1, _ => by cases h; exact absurd h1 (Nat.not_lt_zero j)
  | k :: r, _, _, h, g, j, h1, h2 => by
    cases h with
    | cons ha hr =>
      cases g with
      | cons ga gr =>
        cases ha
        cases ga
        cases j with
        | zero => exact eqB _ _ _
        | succ j => exact eqBs hr gr j (Nat.lt_of_succ_lt_succ h1) (Nat.lt_of_succ_lt_succ h2)
theorem resItems {r : String × List (List Int)} (N : News h₀ L s.heap nx) (d1 : DatIn tl (.ref a) (dRes r)) (d2 : DatIn tl2 (.ref b) (dRes r)) (h1 : ∀ p ∈ tl, p ∈ nx) (h2 : ∀ p ∈ tl2, p ∈ nx) (hu : A.units + 64 < cLine) :
    ∃ (x y x2 y2 : Value), s.heap.IsTuple a #[x, y] ∧ s.heap.IsTuple b #[x2, y2] ∧ EqAt A.in1 s x x2 true ∧ EqAt A.in1 s y y2 true := by
  cases d1 with
  | tuple hm hr =>
    cases hr with
    | cons hx hr =>
      cases hr with
      | cons hy hr =>
        cases hr
        cases d2 with
        | tuple hm2 hr2 =>
          cases hr2 with
          | cons hx2 hr2 =>
            cases hr2 with
            | cons hy2 hr2 =>
              cases hr2
              cases hx
              cases hx2
              cases hy with
              | list hl hd =>
                cases hy2 with
                | list hl2 hd2 =>
                  refine ⟨_, _, _, _, ⟨_, (N _ (h1 _ hm)).1, rfl, _, rfl⟩, ⟨_, (N _ (h2 _ hm2)).1, rfl, _, rfl⟩, ?_, ?_⟩
                  · rename_i t1 t2 _ _ _ _ _ _
                    have := EqAt.str_str (A := A.in1) (s := s) (Str.ofString r.1) t1 (Str.ofString r.1) t2
                    rwa [beq_self_eq_true] at this
                  · rename_i l vs n l2 us n2
                    by_cases e : l = l2
                    · subst e
                      exact EqAt.same _
                    · have hl' : s.heap.IsList l vs.toArray := ⟨_, (N _ (h1 _ hl)).1, rfl, _, rfl⟩
                      have hl2' : s.heap.IsList l2 us.toArray := ⟨_, (N _ (h2 _ hl2)).1, rfl, _, rfl⟩
                      have hsz : vs.toArray.size = us.toArray.size := by
                        rw [List.size_toArray, List.size_toArray, hd.length, hd2.length]
                      have := RcAt.lists (A := A.in1) (s := s) (e := fun _ => true) hl' hl2' hsz (by show A.units + 1 < cLine; omega) fun j g1 g2 => by
                        have := eqBs (A := A.in1.in1) (s := s) hd hd2 j (by simpa using g1) (by simpa using g2)
                        simpa using this
                      rw [show (List.range vs.toArray.size).all (fun _ => true) = true by simp] at this
                      exact EqAt.of_refs e this
theorem resNe {r : String × List (List Int)} {Q : Value → Shared → Prop} (N : News h₀ L s.heap nx) (d1 : DatIn tl (.ref a) (dRes r)) (d2 : DatIn tl2 (.ref b) (dRes r)) (h1 : ∀ p ∈ tl, p ∈ nx) (h2 : ∀ p ∈ tl2, p ∈ nx) (hu : A.units + 64 < cLine) (h : Q (.bool false) s) :
    wpAny (model prog w) A (compareOp .NotEq (.ref a) (.ref b)) Q E s := by
  obtain ⟨x, y, x2, y2, ha, hb, e1, e2⟩ := resItems N d1 d2 h1 h2 hu
  exact RcNeAt.tuples (e := fun _ => true) ha hb (by omega) (fun j g1 g2 => match j, g1, g2 with
    | 0, _, _ => e1
    | 1, _, _ => e2) prog w E Q h
theorem resEq {r : String × List (List Int)} {Q : Value → Shared → Prop} (N : News h₀ L s.heap nx) (d1 : DatIn tl (.ref a) (dRes r)) (d2 : DatIn tl2 (.ref b) (dRes r)) (h1 : ∀ p ∈ tl, p ∈ nx) (h2 : ∀ p ∈ tl2, p ∈ nx) (hu : A.units + 64 < cLine) (h : Q (.bool true) s) :
    wpAny (model prog w) A (compareOp .Eq (.ref a) (.ref b)) Q E s := by
  obtain ⟨x, y, x2, y2, ha, hb, e1, e2⟩ := resItems N d1 d2 h1 h2 hu
  exact RcAt.tuples (e := fun _ => true) ha hb (by omega) (fun j g1 g2 => match j, g1, g2 with
    | 0, _, _ => e1
    | 1, _, _ => e2) prog w E Q h
theorem dat_res {r : String × List (List Int)} {v : Value} (d : DatIn tl v (dRes r)) : ∃ a, v = .ref a := by
  cases d with
  | tuple _ _ => exact ⟨_, rfl⟩
end
end Mine
end
section
open PySem PySem.W PyProof.Rows PySem.Calls PySem.Spec
set_option Elab.async false
set_option linter.all false
set_option maxRecDepth 100000
set_option maxHeartbeats 8000000
namespace Mine
local macro_rules | `(tactic| walk_at "execs cons") => `(tactic| (k_here; (with_reducible refine execsC fun tk => ?_); (try dsimp only)))
local macro_rules | `(tactic| walk_at "execs nil") => `(tactic| (k_here; (with_reducible refine execsN fun tk => ?_); (try dsimp only)))
open Builtin Builtin.Bytes
/-! hex and back -/
def hexL (b : List UInt8) : List Nat := b.flatMap fun c => [hexDigit (c.toNat / 16), hexDigit (c.toNat % 16)]
def hexS (b : Array UInt8) : Str := ⟨(hexL b.toList).toArray⟩
theorem hexL_len : ∀ l : List UInt8, (hexL l).length = 2 * l.length
  | [] => rfl
  | c :: r => by
    show (hexL r).length + 1 + 1 = 2 * (r.length + 1)
    rw [hexL_len r]
    omega
theorem hexFold {f : Array Nat → UInt8 × Nat → Array Nat} (hf : ∀ out c i, f out (c, i) = (out.push (hexDigit (c.toNat / 16))).push (hexDigit (c.toNat % 16))) : ∀ (l : List UInt8) (k : Nat) (out : Array Nat), (l.zipIdx k).foldl f out = out ++ (hexL l).toArray
  | [], _, out => by simp [hexL]
  | c :: r, k, out => by
    rw [List.zipIdx_cons, List.foldl_cons, hf, hexFold hf r]
    apply Array.ext'
    simp [hexL]
theorem fin16 {P : Fin 16 → Prop} (h0 : P 0) (h1 : P 1) (h2 : P 2) (h3 : P 3) (h4 : P 4) (h5 : P 5) (h6 : P 6) (h7 : P 7) (h8 : P 8) (h9 : P 9) (ha : P 10) (hb : P 11) (hc : P 12) (hd : P 13) (he : P 14) (hf : P 15) : ∀ i, P i := fun ⟨i, hi⟩ => match i, hi with
  | 0, _ => h0
  | 1, _ => h1
  | 2, _ => h2
  | 3, _ => h3
  | 4, _ => h4
  | 5, _ => h5
  | 6, _ => h6
  | 7, _ => h7
  | 8, _ => h8
  | 9, _ => h9
  | 10, _ => ha
  | 11, _ => hb
  | 12, _ => hc
  | 13, _ => hd
  | 14, _ => he
  | 15, _ => hf
  | n + 16, h => absurd h (by omega)
theorem backLaw {f : Nat → Nat → List Nat → Array UInt8 → Except Nat (Array UInt8)} (h0 : ∀ i l o, f 0 i l o = .ok o) (h1 : ∀ n i o, f (n + 1) i [] o = .ok o)
    (hs : ∀ (p q : Fin 16) n i rest o, f (n + 1) i (hexDigit p.val :: hexDigit q.val :: rest) o = f n (i + 2) rest (o.push (p.val * 16 + q.val).toUInt8)) : ∀ (l : List UInt8) (n i : Nat) (o : Array UInt8), l.length ≤ n → f n i (hexL l) o = .ok (o ++ l.toArray)
  | [], 0, i, o, _ => by rw [h0]; simp
  | [], n + 1, i, o, _ => by rw [show hexL [] = [] from rfl, h1]; simp
  | c :: r, n + 1, i, o, h => by
    have hc := c.toNat_lt
    rw [show hexL (c :: r) = hexDigit (⟨c.toNat / 16, by omega⟩ : Fin 16).val :: hexDigit (⟨c.toNat % 16, by omega⟩ : Fin 16).val :: hexL r from rfl, hs, backLaw h0 h1 hs r n _ _ (Nat.le_of_succ_le_succ h)]
    have : (c.toNat / 16 * 16 + c.toNat % 16).toUInt8 = c := by
      rw [show c.toNat / 16 * 16 + c.toNat % 16 = c.toNat by omega]
      simp
    dsimp only
    rw [this]
    congr 1
    apply Array.ext'
    simp
theorem digit_low (q : Fin 16) : hexDigit q.val < 128 := by revert q; decide
theorem hexL_low : ∀ (l : List UInt8), ∀ x ∈ hexL l, x < 128
  | c :: r, x, h => by
    have hc := c.toNat_lt
    have h : x ∈ hexDigit (⟨c.toNat / 16, by omega⟩ : Fin 16).val :: hexDigit (⟨c.toNat % 16, by omega⟩ : Fin 16).val :: hexL r := h
    rcases List.mem_cons.mp h with rfl | h
    · exact digit_low _
    · rcases List.mem_cons.mp h with rfl | h
      · exact digit_low _
      · exact hexL_low r x h
section
variable {prog : Program} {w : World} {M : Model} {A : Around} {E : Value → Shared → Prop} {s : Shared} {h₀ : Heap} {L D : Addr} {m : PySem.Str → Option Value} {news : List (Addr × Obj)} {b : Array UInt8} {t : Tok} {n : Nat}
theorem hexTree {P : Fin → Shared → Prop} (hz : b.size ≤ 1000) (h : ∀ t' k, P (.done (.ret (.str (hexS b) t'))) { s with toks := k }) :
    wpAny M A (Builtin.«bytes.hex» ⟨[.bytes b t], []⟩) P E s := by
  obtain ⟨hp, g, d, tk, os⟩ := s
  unfold Builtin.«bytes.hex» hexM hexOf
  wp_walk
  rw [hexFold (fun _ _ _ => rfl) b.toList 0 #[], show (#[] : Array Nat) ++ (hexL b.toList).toArray = (hexS b).cps by simp [hexS]]
  have hl : ({ cps := (hexS b).cps } : Str).length = 2 * b.size := by
    show (hexL b.toList).toArray.size = _
    rw [List.size_toArray, hexL_len, Array.length_toList]
  refine wpAny_ite_false (decide_eq_false (by rw [hl, sizeLine_eq]; omega)) ?_
  wp_walk
  exact h _ _
theorem backTree {u : Tok} {P : Fin → Shared → Prop} (hz : b.size ≤ 1000) (h : ∀ t' k, P (.done (.ret (.bytes b t'))) { s with toks := k }) :
    wpAny M A (Builtin.«bytes.fromhex» ⟨[.type "bytes", .str (hexS b) u], []⟩) P E s := by
  obtain ⟨hp, g, d, tk, os⟩ := s
  unfold Builtin.«bytes.fromhex» fromhexM
  wp_walk
  have hf : Array.findIdx? (fun x => decide (x ≥ 128)) (hexS b).cps = none := by
    rw [Array.findIdx?_eq_none_iff]
    intro x hx
    have := hexL_low b.toList x (by simpa [hexS] using hx)
    simp
    omega
  rw [hf]
  wp_walk
  have hle : b.toList.length ≤ (hexS b).cps.size := by
    show _ ≤ (hexL b.toList).toArray.size
    rw [List.size_toArray, hexL_len]
    omega
  split
  · rename_i i e
    exact absurd (e.symm.trans (backLaw (fun _ _ _ => rfl) (fun _ _ _ => rfl) (by apply fin16 <;> apply fin16 <;> intros <;> rfl) b.toList (hexS b).cps.size 0 #[] hle)) (fun h => nomatch h)
  · rename_i c e
    have := e.symm.trans (backLaw (fun _ _ _ => rfl) (fun _ _ _ => rfl) (by apply fin16 <;> apply fin16 <;> intros <;> rfl) b.toList (hexS b).cps.size 0 #[] hle)
    have hc : c = b := by
      have h9 := Except.ok.inj this
      rw [h9]
      apply Array.ext'
      simp
    subst hc
    wp_walk
    refine wpAny_ite_false (decide_eq_false (by rw [sizeLine_eq]; omega)) ?_
    wp_walk
    exact h _ _
theorem hexCall {Q : Value → Shared → Prop} (hz : b.size ≤ 1000) (h : ∀ t' k, Q (.str (hexS b) t') { s with toks := k }) : wpAny (model prog w) A (call (.builtin "bytes.hex") [.bytes b t]) Q E s :=
  wpAny_call_entry FB.slot_bytes_hex (typeIs_bytes _ _ _) FB.entry_bytes_hex (hexTree hz fun t' k => ⟨_, rfl, h t' k⟩) (FB.args_bytes_hex_1 _)
theorem hexMethod {pl : Sem Bool} {Q : Value × List Value → Shared → Prop} (h : Q (.builtin "bytes.hex", [.bytes b t]) s) : wpAny M A (getMethod (.bytes b t) "hex" pl) Q E s := by
  with_reducible exact KBd.method_of (.bytes b t) (typeIs_bytes _ _ _) FB.slot_bytes_hex FB.type_bytes_hex KBd.noRef h
/-! bytes.fromhex, bound to its class -/
def fhBound : Obj := { cls := .type "builtin_function_or_method", data := .fields #[.builtin "bytes.fromhex", .type "bytes"] }
def FhAt (x : Addr) (h : Heap) : Prop := h.get? x = some fhBound
theorem type_fh : typeOf (.builtin "bytes.fromhex") = pure (.type "classmethod_descriptor") := by show builtinType _ = _; rw [builtinType_eq_fast]; kernel_rfl
theorem entry_fh : entryFor table "bytes.fromhex" = some Builtin.«bytes.fromhex» := entryFor_of_tree (by kernel_rfl)
theorem quiet_fh {as : Args} : (Code.builtin "bytes.fromhex" as).quiet = true := Code.quiet_builtin _ (by decide +kernel)
theorem istype_bytes : isType (.type "bytes") = pure true := by first | rfl | kernel_rfl | (unfold isType; rw [isSubtype_type]; kernel_rfl)
theorem owner_fh : (kfb_private% "ownerAndName") "bytes.fromhex" = ("bytes", "fromhex") := by first | decide +kernel | kernel_rfl
theorem fhGet {P : Fin → Shared → Prop} (h : P (.done (.ret (.ref s.heap.objs.size))) { s with heap := s.heap.push fhBound }) :
    wpAny M A (Builtin.«classmethod_descriptor.__get__» ⟨[.builtin "bytes.fromhex", .none, .type "bytes"], []⟩) P E s := by
  unfold Builtin.«classmethod_descriptor.__get__»
  refine wpAny_bind (wpAny_of_eq (a := (.builtin "bytes.fromhex", none, some (.type "bytes"))) (by first | rfl | kernel_rfl) ?_)
  simp only [owner_fh]
  refine wpAny_bind (wpAny_of_eq (a := .type "bytes") rfl ?_)
  refine wpAny_bind (wpAny_of_eq (a := true) istype_bytes ?_)
  refine KFB.if_not rfl ?_
  refine wpAny_bind (wpAny_of_eq (a := true) F.sub_bytes_bytes ?_)
  refine KFB.if_not rfl ?_
  exact wpAny_bind (wpAny_newObj_type (wpAny_pure h))
theorem fhMethod {K : Frag} {pl : Sem Bool} {Q : Value × List Value → Shared → Prop} (F : Fr h₀ L s.heap m) (N : News h₀ L s.heap news) (X₀ : K.In h₀)
    (e : findCls K (.type "bytes") (.type "type") (PySem.Str.ofString "fromhex") = some (.get (.builtin "classmethod_descriptor.__get__") (.builtin "bytes.fromhex") .none (.type "bytes")))
    (h : ∀ x h', Fr h₀ L h' m → News h₀ L h' ((x, fhBound) :: news) → (∀ p ∈ news, p.1 < x) → Q (.ref x, []) { s with heap := h', toks := s.toks + 1 }) :
    wpAny (model prog w) A (getMethod (.type "bytes") (PySem.Str.ofString "fromhex") pl) Q E s := by
  have X := X₀.keeps F.keep
  have hstub : opaqueClassAbove (.type "bytes") = pure none := by unfold opaqueClassAbove; dsimp only; rw [show Manifest.isStub "bytes" = false by decide +kernel]; rfl
  have ht : typeOf (.type "bytes") = pure (.type "type") := by first | rfl | kernel_rfl
  have L0 : Looks (model prog w) s.heap (typeOf (.type "bytes")) (.type "type") := Looks.of_pure ht
  have hg : findIn K (.type "type") "__getattribute__" = some (some (.builtin "type.__getattribute__")) := type_tga
  unfold getMethod specialOf
  refine wpAny_bind (wpAny_bind (L0.here ((looks_findIn X hg).here ?_)))
  dsimp only
  rw [if_pos canon_tga]
  refine wpAny_bind (wpAny_mono (Q := fun v => Q (v, [])) (E := E) ?_ (fun _ _ z => wpAny_pure z) fun _ _ z => z)
  refine cls_open X (Looks.of_pure hstub) L0 hg (looks_hook X (r := none) (by rfl)) (by show subIn K _ _ = _; rfl) e ?_
  show wpAny _ _ (holding [.builtin "bytes.fromhex"] (call (.builtin "classmethod_descriptor.__get__") [.builtin "bytes.fromhex", .none, .type "bytes"]) >>= fun v => ret v) _ _ _
  refine wpAny_bind (wpAny_holding (wpAny_call_entry KFB.slot_get type_fh KFB.entry_get (fhGet ⟨_, rfl, wpAny_pure (wpAny_pure (h _ _ (F.push _) (News.push F N _) fun p hp => Heap.lt_size (N p hp).1))⟩) (KFB.args_get _ _ _)))
theorem fhKeeper {x : Addr} (h : Heap) (ho : FhAt x h) : ∃ k, (k = Keeper.frame ∨ k = Keeper.machine ∨ k = Keeper.boundFrame) ∧ Looks M h (keeperOf (.ref x)) k := by
  refine ⟨.machine, .inr (.inl rfl), ?_⟩
  unfold keeperOf
  exact (Looks.ld (part := none) ho).andThen (Looks.of_pure rfl)
theorem fhCallWith {pos : Pos} {u : Addr} {first : List Value} {env : Env} {e : Expr} {rest : List Expr} {Q : Value → Shared → Prop} (_N : News h₀ L s.heap news) (_hm : (u, fhBound) ∈ news)
    (h : wpAny M A (spliced (backTo pos (starEach (e :: rest) env))) (fun vs s₁ => FhAt u s₁.heap ∧ wpAny M A (call (.ref u) (first ++ vs)) Q E s₁) E s)
    (he : starEach (e :: rest) env = (false, eval e env) :: starEach rest env := by rfl) (hplain : (backTo pos (starEach rest env)).any (·.1) = false := by rfl) :
    wpAny M A (callWith pos (.ref u) first (backTo pos (starEach (e :: rest) env)) []) Q E s := by
  rw [he] at h ⊢
  exact callWith_of (by show ((false || (backTo pos (starEach rest env)).any (·.1)) || false) = false; rw [hplain]; rfl) (fun h ho => fhKeeper h ho) (evalArgs_plain h)
theorem fhCall {x : Addr} {u : Tok} {Q : Value → Shared → Prop} (N : News h₀ L s.heap news) (hm : (x, fhBound) ∈ news) (hz : b.size ≤ 1000) (h : ∀ t' k, Q (.bytes b t') { s with toks := k }) : wpAny (model prog w) A (call (.ref x) [.str (hexS b) u]) Q E s := by
  refine wpAny_call (codeAny_of_tree ?_)
  show wpAny _ A.in1 (callAny (.ref x) ⟨[.str (hexS b) u], []⟩) _ _ s
  simp only [callAny]
  refine wpAny_bind (wpAny_load (N.get hm) ?_)
  simp only [fhBound]
  refine KFB.if_so (by decide) ?_
  refine wpAny_bind (wpAny_of_eq (a := ()) (by first | kernel_rfl | rfl) ?_)
  refine wpAny_bind (wpAny_pure (wpAny_pure ?_))
  exact ⟨quiet_fh, codeAny_builtin entry_fh (backTree hz h)⟩
end
end Mine
end
section
open PySem PySem.W PyProof.Rows PySem.Calls PySem.Spec
set_option Elab.async false
set_option linter.all false
set_option maxRecDepth 100000
set_option maxHeartbeats 8000000
namespace Mine
local macro_rules | `(tactic| walk_at "execs cons") => `(tactic| (k_here; (with_reducible refine execsC fun tk => ?_); (try dsimp only)))
local macro_rules | `(tactic| walk_at "execs nil") => `(tactic| (k_here; (with_reducible refine execsN fun tk => ?_); (try dsimp only)))
local macro_rules | `(tactic| walk_at "getMethod type:bytes") => `(tactic| (k_here; k_dflt (refine' fhMethod ?fhF ?fhN ?fhX ?fhE ?_; (case fhF => k_asm); (case fhN => k_asm); (case fhX => k_asm); (case fhE => k_is); k_whole; intro x' h' F' N' l1; (try k_lt l1); (try k_sweep))))
local macro_rules | `(tactic| walk_at "callWith ref") => `(tactic| (k_here; (with_reducible show wpAny _ _ (callWith _ (Value.ref _) _ (backTo _ (starEach (_ :: _) _)) []) _ _ _); k_dflt (refine' fhCallWith ?fhN ?fhM ?_; (case fhN => k_asm); (case fhM => k_mem); k_whole)))
local macro_rules | `(tactic| walk_at "And") => `(tactic| ((with_reducible show FhAt _ _ ∧ _); k_dflt (refine ⟨News.get (by k_asm) (by k_mem), ?_⟩); (try dsimp only [List.nil_append, List.cons_append])))
local macro_rules | `(tactic| walk_at "call ref") => `(tactic| (k_here; (with_reducible show wpAny _ _ (call (Value.ref _) [Value.str _ _]) _ _ _); k_dflt (refine fhCall (by k_asm) (by k_mem) (by assumption) ?_); intro _ _))
theorem t66h (w : World) (mean : ExcName → Option Value) (mg mb : Str → Option Value) (b : Array UInt8) (u : Tok) (ks : List Int) (hb : KBw.bInts b = ks) (hl : ks.length ≤ 1000) : Ct w mean mg mb 66 2 [.str (hexS b) u] (BY ks) := by
  have hz : b.size ≤ 1000 := by rw [← KBw.ints_length, hb]; exact hl
  w_top off
  unfold Ct
  k_fill
  intro dp un gd cn cs a ccd cl outer A₀ base h₀ L m news s Q E B F X N T hk hd hu hret
  refine wpAny_call ?_
  k_dflt (refine' enterW ?k1 ?k2 ?k3 ?k4 ?k5 ?kA ?kF ?kK ?k6 ?k7 ?k8 ?k9 ?kB ?_ ?c2 ?c3 ?c4 ?c5; (case kA => exact rfl); (case kF => exact rfl); (case kK => assumption); (case k1 => k_asm); (case k2 => k_asm); (case k3 => k_asm); (case k4 => k_asm); (case k5 => k_asm); (case k6 => k_is); (case k7 => k_is); (case k8 => ktr_room); (case k9 => first | exact BindsTo.of_eq rfl | exact binds_K (by k_in) rfl (by k_is) rfl rfl rfl); (case c5 => decide); (case kB => exact locs rfl); (case c2 => exact rfl); (case c3 => exact rfl); (case c4 => exact rfl); k_whole; intro g' L' h' FG' NG' F' N' B' X' T'; (try dsimp only); (try k_fold))
  k_steps
  all_goals ((refine endV hret (by k_asm) ?_; clear hret); exact dBytes hb)
end Mine
end
section
open PySem PySem.W PyProof.Rows PySem.Calls PySem.Spec
set_option Elab.async false
set_option linter.all false
set_option maxRecDepth 100000
set_option maxHeartbeats 8000000
namespace Mine
local macro_rules | `(tactic| walk_at "execs cons") => `(tactic| (k_here; (with_reducible refine execsC fun tk => ?_); (try dsimp only)))
local macro_rules | `(tactic| walk_at "execs nil") => `(tactic| (k_here; (with_reducible refine execsN fun tk => ?_); (try dsimp only)))
theorem CtL.use {w : World} {mean : ExcName → Option Value} {mg mb : Str → Option Value} {f : Addr} {D : Nat} {v : Value} {ns : List Int} {d : Dat} (C : CtL w mean mg mb f D v ns d)
    {dp un : Nat} {gd : Option (List Code)} {cn : Str} {cs : Scope} {a : Addr} {ccd : Value} {cl : List (Str × Addr)} {outer : List Env} {A₀ : Around} {base h₀ : Heap} {L : Addr} {m : Str → Option Value} {news : List (Addr × Obj)} {s : Shared} {l : Addr} {us : List Value} {n : Nat}
    {Q E : Value → Shared → Prop}
    (B : Below A₀ base outer h₀) (F : Fr h₀ L s.heap m) (X : (Mine.hd.heap_39 w.params).In h₀) (N : News h₀ L s.heap news) (T : Top Mine.hd.view_39 ezLoose mean mg mb h₀) (hk : cs.kind = .function) (hd : dp + D < recursionLimit) (hu : un + 8 * D < cLine)
    (hm : (l, W.listOf us.toArray n) ∈ news) (hI : IntsAre us ns)
    (ret : ∀ r tl h' tk', Fr h₀ L h' m → News h₀ L h' (tl ++ news) → (∀ p ∈ tl, ∀ q ∈ news, p.1 ≠ q.1) → DatIn tl r d → Q r { s with heap := h', toks := tk' }) :
    wpAny (model PySem.Challenge.rw_ez0012_01.row.prog w) (ktrTop dp un gd cn cs L a ccd cl outer) (call (.ref f) [v, .ref l]) Q E s :=
  C _ _ _ _ _ _ _ _ _ _ _ _ _ _ _ _ _ _ B F X N T hk hd hu ret l us n hm hI
theorem headNews {g h : Heap} {L : Addr} {q : Addr × Obj} {nx : List (Addr × Obj)} (N : News g L h (q :: nx)) : News g L h [q] := fun p hp => N p (by rw [List.mem_singleton.mp hp]; exact .head _)
theorem tailNews {g h : Heap} {L : Addr} {q : Addr × Obj} {nx : List (Addr × Obj)} (N : News g L h (q :: nx)) : News g L h nx := fun p hp => N p (.tail _ hp)
theorem datDue {tl : List (Addr × Obj)} {r : Value} {ks : List Int} (h : KBa.In ks) (d : DatIn tl r (dRes (solverS ks))) : DatIn tl r (dRes (dueS ks)) := due_eq h ▸ d
theorem absIn {l : List Int} : ∀ k ∈ (l.map fun k' => if k' < 0 then -k' else k').drop 1, 0 ≤ k := fun k hk => by
  obtain ⟨x, _, rfl⟩ := List.mem_map.mp (List.mem_of_mem_drop hk)
  split <;> omega
section
variable {M : Model} {A : Around} {rest : List Stmt} {env : Env} {Q : Flow → Shared → Prop} {E : Value → Shared → Prop} {s₀ : Shared} {x y z : Stmt} {g : Heap} {L : Addr} {m : Str → Option Value}
theorem useCut {s : Shared} {I : Heap → Nat → Prop} (hT : TailOf M A rest env Q E s₀ I) (hs : s = { s₀ with heap := s.heap, toks := s.toks }) (hI : Rest (I s.heap s.toks)) : wpAny M A (execs rest env) Q E s := by
  rw [hs]
  exact hT _ _ hI
theorem cut3 (F : Fr g L s₀.heap m) (I : Heap → Addr → Heap → Nat → Prop) (tail : ∀ h tk, I g L h tk → wpAny M A (execs rest env) Q E { s₀ with heap := h, toks := tk }) (main : TailOf M A rest env Q E s₀ (I g L) → wpAny M A (execs (x :: y :: z :: rest) env) Q E s₀) : wpAny M A (execs (x :: y :: z :: rest) env) Q E s₀ := main tail
theorem cut1 (F : Fr g L s₀.heap m) (I : Heap → Addr → Heap → Nat → Prop) (tail : ∀ h tk, I g L h tk → wpAny M A (execs rest env) Q E { s₀ with heap := h, toks := tk }) (main : TailOf M A rest env Q E s₀ (I g L) → wpAny M A (execs (x :: rest) env) Q E s₀) : wpAny M A (execs (x :: rest) env) Q E s₀ := main tail
end
theorem insOf {b : Array UInt8} {ks : List Int} (hb : KBw.bInts b = ks) : KBa.In ks := fun k hk => KBw.ints_in (hb ▸ hk)
theorem t178b (w : World) (mean : ExcName → Option Value) (mg mb : Str → Option Value) (b : Array UInt8) (t : Tok) (ks : List Int) (hb : KBw.bInts b = ks) (hl : ks.length ≤ 1000) : Ct w mean mg mb 178 5 [.bytes b t] (dRes (dueS ks)) := due_eq (insOf hb) ▸ t178 w mean mg mb _ _ (insOf hb) hl (t66 w mean mg mb b t ks hb hl)
theorem t178h (w : World) (mean : ExcName → Option Value) (mg mb : Str → Option Value) (b : Array UInt8) (u : Tok) (ks : List Int) (hb : KBw.bInts b = ks) (hl : ks.length ≤ 1000) : Ct w mean mg mb 178 5 [.str (hexS b) u] (dRes (dueS ks)) := due_eq (insOf hb) ▸ t178 w mean mg mb _ _ (insOf hb) hl (t66h w mean mg mb b u ks hb hl)
def KindIs (kd : Int) (ks : List Int) : Prop := ∀ nm, kindName kd = some nm → (dueS ks).1 = nm
theorem kindEq {kd j : Int} {ks : List Int} {nm : String} (h : KindIs kd ks) (e : kd = j) (hj : kindName j = some nm) : Str.ofString (dueS ks).1 = Str.ofString nm := by
  subst e
  rw [h nm hj]
section
variable {prog : Program} {w : World} {A : Around} {E : Value → Shared → Prop} {s : Shared} {h₀ : Heap} {L a : Addr} {tl nx : List (Addr × Obj)}
theorem neStr {x y : Str} {t u : Tok} {Q : Value → Shared → Prop} (e : x = y) (h : Q (.bool false) s) : wpAny (model prog w) A (compareOp .NotEq (.str x t) (.str y u)) Q E s := by
  subst e
  exact ne_str (by rw [bne_self_eq_false]; exact h)
theorem kindEq2 {kd : Int} {ks : List Int} {nm : String} (h : KindIs kd ks) (hj : kindName kd = some nm) : Str.ofString (dueS ks).1 = Str.ofString nm := by rw [h nm hj]
theorem kindsItem {value slice : PySem.Expr} {kd : Int} {u : Tok} {n : Nat} {t0 t1 t2 t3 t4 t5 t6 t8 t9 t10 t11 : Tok} {Q : Value → Shared → Prop} (N : News h₀ L s.heap nx) (hm : (a, W.listOf [Value.str (Str.ofString "pubkey") t0, Value.str (Str.ofString "pubkey") t1, Value.str (Str.ofString "pubkeyhash") t2, Value.str (Str.ofString "scripthash") t3, Value.str (Str.ofString "witness_v0_keyhash") t4, Value.str (Str.ofString "witness_v0_scripthash") t5, Value.str (Str.ofString "witness_v1_taproot") t6, Value.none, Value.str (Str.ofString "nulldata") t8, Value.str (Str.ofString "multisig") t9, Value.str (Str.ofString "nonstandard") t10, Value.str (Str.ofString "nonstandard") t11].toArray n) ∈ nx) (h0 : 0 ≤ kd) (h1 : kd < 12)
    (h7 : kd = 7 → Q .none s) (h : ∀ nm t, kindName kd = some nm → Q (.str (Str.ofString nm) t) s)
    (hs : subscripted slice false (.ref a) (.int kd u) = operate [.ref a, .int kd u] (getItem (.ref a) (.int kd u)) := by with_unfolding_all rfl) :
    wpAny (model prog w) A (subscriptTail value slice (.ref a) (.int kd u)) Q E s := by
  have hL : s.heap.IsList a [Value.str (Str.ofString "pubkey") t0, Value.str (Str.ofString "pubkey") t1, Value.str (Str.ofString "pubkeyhash") t2, Value.str (Str.ofString "scripthash") t3, Value.str (Str.ofString "witness_v0_keyhash") t4, Value.str (Str.ofString "witness_v0_scripthash") t5, Value.str (Str.ofString "witness_v1_taproot") t6, Value.none, Value.str (Str.ofString "nulldata") t8, Value.str (Str.ofString "multisig") t9, Value.str (Str.ofString "nonstandard") t10, Value.str (Str.ofString "nonstandard") t11].toArray := ⟨_, (N _ hm).1, rfl, n, rfl⟩
  have hc : kd = 0 ∨ kd = 1 ∨ kd = 2 ∨ kd = 3 ∨ kd = 4 ∨ kd = 5 ∨ kd = 6 ∨ kd = 7 ∨ kd = 8 ∨ kd = 9 ∨ kd = 10 ∨ kd = 11 := by omega
  rcases hc with e | e | e | e | e | e | e | e | e | e | e | e <;> subst e
  · exact tail_any hL.typeIs slot_list_getitem.lookup (wpAny_getItem_list hL (by decide) (by decide) rfl (h _ _ rfl)) hs
  · exact tail_any hL.typeIs slot_list_getitem.lookup (wpAny_getItem_list hL (by decide) (by decide) rfl (h _ _ rfl)) hs
  · exact tail_any hL.typeIs slot_list_getitem.lookup (wpAny_getItem_list hL (by decide) (by decide) rfl (h _ _ rfl)) hs
  · exact tail_any hL.typeIs slot_list_getitem.lookup (wpAny_getItem_list hL (by decide) (by decide) rfl (h _ _ rfl)) hs
  · exact tail_any hL.typeIs slot_list_getitem.lookup (wpAny_getItem_list hL (by decide) (by decide) rfl (h _ _ rfl)) hs
  · exact tail_any hL.typeIs slot_list_getitem.lookup (wpAny_getItem_list hL (by decide) (by decide) rfl (h _ _ rfl)) hs
  · exact tail_any hL.typeIs slot_list_getitem.lookup (wpAny_getItem_list hL (by decide) (by decide) rfl (h _ _ rfl)) hs
  · exact tail_any hL.typeIs slot_list_getitem.lookup (wpAny_getItem_list hL (by decide) (by decide) rfl (h7 rfl)) hs
  · exact tail_any hL.typeIs slot_list_getitem.lookup (wpAny_getItem_list hL (by decide) (by decide) rfl (h _ _ rfl)) hs
  · exact tail_any hL.typeIs slot_list_getitem.lookup (wpAny_getItem_list hL (by decide) (by decide) rfl (h _ _ rfl)) hs
  · exact tail_any hL.typeIs slot_list_getitem.lookup (wpAny_getItem_list hL (by decide) (by decide) rfl (h _ _ rfl)) hs
  · exact tail_any hL.typeIs slot_list_getitem.lookup (wpAny_getItem_list hL (by decide) (by decide) rfl (h _ _ rfl)) hs
theorem kindsItem2 {value slice : PySem.Expr} {kd : Int} {u : Tok} {n : Nat} {t0 t1 t2 t3 t4 t5 t6 t8 t9 t10 t11 : Tok} {Q : Value → Shared → Prop} {nm : String} (hj : kindName kd = some nm) (N : News h₀ L s.heap nx) (hm : (a, W.listOf [Value.str (Str.ofString "pubkey") t0, Value.str (Str.ofString "pubkey") t1, Value.str (Str.ofString "pubkeyhash") t2, Value.str (Str.ofString "scripthash") t3, Value.str (Str.ofString "witness_v0_keyhash") t4, Value.str (Str.ofString "witness_v0_scripthash") t5, Value.str (Str.ofString "witness_v1_taproot") t6, Value.none, Value.str (Str.ofString "nulldata") t8, Value.str (Str.ofString "multisig") t9, Value.str (Str.ofString "nonstandard") t10, Value.str (Str.ofString "nonstandard") t11].toArray n) ∈ nx) (h0 : 0 ≤ kd) (h1 : kd < 12)
    (h : ∀ t, Q (.str (Str.ofString nm) t) s)
    (hs : subscripted slice false (.ref a) (.int kd u) = operate [.ref a, .int kd u] (getItem (.ref a) (.int kd u)) := by with_unfolding_all rfl) :
    wpAny (model prog w) A (subscriptTail value slice (.ref a) (.int kd u)) Q E s :=
  kindsItem N hm h0 h1 (fun e => by subst e; cases hj) (fun nm' t hj' => by rw [hj] at hj'; cases hj'; exact h t) hs
inductive TailMark : Prop where
  | mk : TailMark
theorem modB {x b : Int} {t u : Tok} {Q : Value → Shared → Prop} (hb : 0 < b) (h : ∀ v t' k, 0 ≤ v → v < b → Q (.int v t') { s with toks := k }) : wpAny (model prog w) A (binaryOp .Mod (.int x t) (.int b u)) Q E s :=
  mod_int' (by omega) (h _ _ _ (fmod_lo _ hb) (fmod_hi _ hb))
theorem itemRes {value slice : PySem.Expr} {r : String × List (List Int)} {u : Tok} {Q : Value → Shared → Prop} (N : News h₀ L s.heap nx) (d : DatIn tl (.ref a) (dRes r)) (h1 : ∀ p ∈ tl, p ∈ nx) (h : ∀ t, Q (.str (Str.ofString r.1) t) s)
    (hs : subscripted slice false (.ref a) (.int 0 u) = operate [.ref a, .int 0 u] (getItem (.ref a) (.int 0 u)) := by with_unfolding_all rfl) :
    wpAny (model prog w) A (subscriptTail value slice (.ref a) (.int 0 u)) Q E s := by
  cases d with
  | tuple hm hr =>
    cases hr with
    | cons hx hr =>
      cases hx
      cases hr with
      | cons hy hr =>
      cases hr
      exact kba_turn (value' := PySem.Expr.Name (PySem.Str.ofString "_") ⟨0, 0, 0, 0⟩) (fun _ => rfl) (kim_tup (j := 0) N (h1 _ hm) rfl rfl (by decide) (by decide) rfl rfl (h _) hs (fun _ => rfl))
end
local macro_rules | `(tactic| walk_at "execs cons") => `(tactic| ((with_reducible show wpAny _ _ (execs (PySem.Stmt.Assign [PySem.Expr.Name (PySem.Str.ofString "numbers") _] _ _ :: _) _) _ _ _); refine restHere ?_))
local macro_rules | `(tactic| walk_at "execs cons") => `(tactic| ((rename TailOf _ _ _ _ _ _ _ _ => hT9); (with_reducible refine useCut hT9 ?hs9 ?_); (case hs9 => exact rfl); (try dsimp only)))
local macro_rules | `(tactic| walk_at "call ref") => `(tactic| (k_here; (with_reducible show wpAny _ _ (call (Value.ref 178) _) _ _ _); refine restHere ?_))
local macro_rules | `(tactic| walk_at "call ref") => `(tactic| (k_here; (with_reducible show wpAny _ _ (call (Value.ref 207) _) _ _ _); refine restHere ?_))
local macro_rules | `(tactic| walk_at "call ref") => `(tactic| (k_here; (with_reducible show wpAny _ _ (call (Value.ref 219) [Value.int _ _, Value.ref _]) _ _ _); k_dflt (refine' CtL.use (t219 _ _ _ _ _ _ _ ?hn ?hn2 ?hnn ?hk0 ?hk1) ?k1 ?k2 ?k3 ?k4 ?k5 ?kK ?kd ?ku ?hm ?hI ?_; (case k2 => k_asm); (case k4 => k_asm); (case hm => k_mem); (case hI => assumption); (case hn => assumption); (case hn2 => assumption); (case hnn => assumption); (case hk0 => assumption); (case hk1 => assumption); (case k1 => k_asm); (case k3 => k_asm); (case k5 => k_asm); (case kK => first | exact rfl | assumption); (case kd => ktr_room); (case ku => ktr_units)); intro r9 tl9 h9 tk9 F9 N9 o9 d9; obtain ⟨b9, t9, er9, hb9⟩ := dat_bytes (built_in (by assumption)) d9; subst er9; clear d9; replace N9 := newsR N9; clear o9; (try dsimp only); (try k_fold)))
local macro_rules | `(tactic| walk_at "call ref") => `(tactic| (k_here; (with_reducible show wpAny _ _ (call (Value.ref 178) [Value.bytes _ _]) _ _ _); k_dflt (refine' Ct.use (t178b _ _ _ _ _ _ _ ?hb ?hl) ?k1 ?k2 ?k3 ?k4 ?k5 ?kK ?kd ?ku ?_; (case hb => kba_ints2); (case hl => kba_size); (case k1 => k_asm); (case k2 => k_asm); (case k3 => k_asm); (case k4 => k_asm); (case k5 => k_asm); (case kK => first | exact rfl | assumption); (case kd => ktr_room); (case ku => ktr_units)); intro r9 tl9 h9 tk9 F9 N9 o9 d9; clear o9; obtain ⟨a9, er9⟩ := dat_res d9; subst er9; (try dsimp only); (try k_fold)))
local macro_rules | `(tactic| walk_at "call ref") => `(tactic| (k_here; (with_reducible show wpAny _ _ (call (Value.ref 178) [Value.str _ _]) _ _ _); k_dflt (refine' Ct.use (t178h _ _ _ _ _ _ _ ?hb ?hl) ?k1 ?k2 ?k3 ?k4 ?k5 ?kK ?kd ?ku ?_; (case hb => kba_ints2); (case hl => kba_size); (case k1 => k_asm); (case k2 => k_asm); (case k3 => k_asm); (case k4 => k_asm); (case k5 => k_asm); (case kK => first | exact rfl | assumption); (case kd => ktr_room); (case ku => ktr_units)); intro r9 tl9 h9 tk9 F9 N9 o9 d9; clear o9; obtain ⟨a9, er9⟩ := dat_res d9; subst er9; (try dsimp only); (try k_fold)))
local macro_rules | `(tactic| walk_at "call ref") => `(tactic| (k_here; (with_reducible show wpAny _ _ (call (Value.ref 207) [Value.bytes _ _]) _ _ _); k_dflt (refine' Ct.use (t207 _ _ _ _ _ _ _ ?hb ?hl) ?k1 ?k2 ?k3 ?k4 ?k5 ?kK ?kd ?ku ?_; (case hb => kba_ints2); (case hl => kba_size); (case k1 => k_asm); (case k2 => k_asm); (case k3 => k_asm); (case k4 => k_asm); (case k5 => k_asm); (case kK => first | exact rfl | assumption); (case kd => ktr_room); (case ku => ktr_units)); intro r9 tl9 h9 tk9 F9 N9 o9 d9; clear o9; obtain ⟨a9, er9⟩ := dat_res d9; subst er9; (try dsimp only); (try k_fold)))
local macro_rules | `(tactic| walk_at "compareOp NotEq ref ref") => `(tactic| (k_here; k_dflt (refine' resNe ?zN ?d1 ?d2 ?h1 ?h2 ?hu ?_; (case zN => k_asm); (case d1 => assumption); (case d2 => assumption); (case h1 => exact fun p hp => List.mem_append.mpr (.inr (List.mem_append.mpr (.inl hp)))); (case h2 => exact fun p hp => List.mem_append.mpr (.inl hp)); (case hu => ktr_units)); (rename News _ _ _ (_ ++ (_ ++ _)) => N9); (replace N9 := newsR (newsR N9)); (try dsimp only); (try k_fold)))
local macro_rules | `(tactic| walk_at "compareOp Eq ref ref") => `(tactic| (k_here; k_dflt (refine' resEq ?zN ?d1 ?d2 ?h1 ?h2 ?hu ?_; (case zN => k_asm); (case d1 => assumption); (case d2 => assumption); (case h1 => exact fun p hp => List.mem_append.mpr (.inr (List.mem_append.mpr (.inl hp)))); (case h2 => exact fun p hp => List.mem_append.mpr (.inl hp)); (case hu => ktr_units)); (rename News _ _ _ (_ ++ (_ ++ _)) => N9); (replace N9 := newsR (newsR N9)); (try dsimp only); (try k_fold)))
local macro_rules | `(tactic| walk_at "subscriptTail Call Name cons nil Constant ref int") => `(tactic| (k_here; k_dflt (refine' itemRes ?zN ?d1 ?h1 ?_ ?zs; (case zN => k_asm); (case d1 => assumption); (case h1 => exact fun p hp => List.mem_append.mpr (.inl hp)); (case zs => with_unfolding_all rfl)); intro t9; (rename News _ _ _ (_ ++ _) => N9); (replace N9 := newsR N9); (try dsimp only); (try k_fold)))
local macro_rules | `(tactic| walk_at "subscriptTail Name Name ref int") => `(tactic| (k_here; k_dflt (refine' kindsItem ?zN ?zm ?z0 ?z1 ?z7 ?_ ?zs; (case zN => k_asm); (case zm => k_mem); (case z0 => assumption); (case z1 => assumption); (case zs => with_unfolding_all rfl)); (case' z7 => intro e7; (try dsimp only); (try k_fold)); rotate_left; intro nm9 t9 hj9; (try dsimp only); (try k_fold); rotate_right))
local macro_rules | `(tactic| walk_at "subscriptTail Name Name ref int") => `(tactic| (k_here; (rename kindName _ = some _ => hj7); k_dflt (refine' kindsItem2 hj7 ?zN ?zm ?z0 ?z1 ?_ ?zs; (case zN => k_asm); (case zm => k_mem); (case z0 => assumption); (case z1 => assumption); (case zs => with_unfolding_all rfl)); intro t9; (try dsimp only); (try k_fold)))
local macro_rules | `(tactic| walk_at "compareOp NotEq str str") => `(tactic| (k_here; k_dflt (refine' neStr (kindEq2 (by assumption) (by assumption)) ?_); (try dsimp only); (try k_fold)))
local macro_rules | `(tactic| walk_at "binaryOp Mod int int") => `(tactic| (k_here; (rename TailMark => hmk9); (with_reducible refine modB ?zb ?_); (case zb => omega); intro v9 t9 k9 hv90 hv91; (try dsimp only); (try k_fold)))
local macro_rules | `(tactic| walk_at "subscriptTail Name BinOp ref int") => `(tactic| (k_here; (rename TailMark => hmk9); k_dflt (refine' itemInts ?ziN ?zim ?ziI ?zi0 ?zi1 ?zi2 ?_ ?zis; (case ziN => k_asm); (case zim => k_mem); (case ziI => assumption); (case zi2 => omega); (case zi0 => omega); (case zi1 => omega); (case zis => with_unfolding_all rfl)); intro t9; (try dsimp only); (try k_fold)))
local macro_rules | `(tactic| walk_at "binaryOp Add bytes bytes") => `(tactic| (k_here; (with_reducible show wpAny _ _ (binaryOp Operator.Add (Value.bytes _ _) (Value.bytes _ _)) _ _ _); (refine' addB ?zab ?zac ?zas ?_; (case zab => kba_ints2); (case zac => kba_ints2); (case zas => kba_size)); intro d8 t8 k8 hd8; (try dsimp only); (try k_fold)))
local macro_rules | `(tactic| walk_at "call type:bytes") => `(tactic| (k_here; (with_reducible show wpAny _ _ (call (Value.type "bytes") [Value.ref _]) _ _ _); k_dflt (refine' mkB ?bzF ?bzN ?bzh ?bzl ?bzi ?bzr ?bzn ?_; (case bzF => k_asm); (case bzN => k_asm); (case bzh => rfl); (case bzl => kba_isList); (case bzi => kba_listInts); (case bzr => (with_reducible show KBa.In [_]); refine KBs.one ?_; omega); (case bzn => kba_size)); intro _ _ _ b8 hb8 F' N'; (try dsimp only); (try k_fold)))
local macro_rules | `(tactic| walk_at "getMethod bytes") => `(tactic| (k_here; (with_reducible refine hexMethod ?_); (try dsimp only); (try k_fold)))
local macro_rules | `(tactic| walk_at "call builtin:bytes.hex") => `(tactic| (k_here; (with_reducible refine hexCall ?hz ?_); (case hz => assumption); intro t9 k9; (try dsimp only); (try k_fold)))
theorem law : PySem.Challenge.rw_ez0012_01.Holds := by
  refine Mine.hd (by
    w_top off
    k_go0; (all_goals try k_fold); k_steps
    unfold Rest
    (try dsimp only); (try k_fold)
    refine' cut3 (by k_asm) (fun g L h _ => ∃ (u : Str → Option Value) (kd : Int) (tk : Tok) (l : Addr) (us : List Value) (n : Nat) (ns : List Int), Fr g L h (fun y => if y = Str.ofString "kind" then some (.int kd tk) else if y = Str.ofString "more" then some (.ref l) else u y) ∧ News g L h [(l, W.listOf us.toArray n)] ∧ IntsAre us ns ∧ 0 < ns.length ∧ ns.length ≤ 12 ∧ (∀ k ∈ ns, 0 ≤ k) ∧ 0 ≤ kd ∧ kd < 12) ?tailA ?mainA
    case mainA =>
      intro hT
      refine execsC fun tk => ?_
      (try dsimp only)
      k_steps
      all_goals
        unfold Rest
        first
          | ((rename IntsAre _ (List.drop 1 _) => hIa); exact ⟨_, _, _, _, _, _, _, fr1 (fr1 (by k_asm) (by rfl)) (by rfl), headNews (by k_asm), hIa, by (simp only [List.length_drop, List.length_map, List.length_take] at *; omega), by (simp only [List.length_drop, List.length_map, List.length_take] at *; omega), absIn, fmod_lo _ (by decide), fmod_hi _ (by decide)⟩)
          | exact ⟨_, _, _, _, _, _, _, fr1 (fr1 (by k_asm) (by rfl)) (by rfl), headNews (by k_asm), .cons 5 _ .nil, Nat.lt_succ_self 0, Nat.le_of_ble_eq_true rfl, fun k hk => by rw [List.mem_singleton.mp hk]; decide, by first | exact fmod_lo _ (by decide) | decide, by first | exact fmod_hi _ (by decide) | decide⟩
    case tailA =>
      rintro h tk ⟨u, kd, tkd, l, us, n, ns, F', N', hI, hn, hn2, hnn, hk0, hk1⟩
      (try dsimp only); (try k_fold)
      have hlen := built_len (kind := kd) (ns := ns)
      have hkind : KindIs kd (builtS kd ns) := fun nm h => built_kind hk0 hk1 h
      refine' cut3 F' (fun g L h _ => ∃ (u : Str → Option Value) (b : Array UInt8) (t : Tok), Fr g L h (fun y => if y = Str.ofString "octets" then some (.bytes b t) else if y = Str.ofString "more" then some (.ref l) else u y) ∧ News g L h [(l, W.listOf us.toArray n)] ∧ KBw.bInts b = builtS kd ns) ?tailB ?mainB
      case mainB =>
        intro hT
        k_steps
        all_goals (unfold Rest; exact ⟨_, _, _, fr1 (fr1 (by k_asm) (by rfl)) (by rfl), tailNews (by k_asm), by assumption⟩)
      case tailB =>
        rintro h tk ⟨u, b, t, F', N', hb⟩
        (try dsimp only); (try k_fold)
        generalize builtS kd ns = ks at *
        clear hk0 hk1 hkind
        have hl4 : ks.length ≤ 250 := hlen.2
        have hl0 : 0 < ks.length := hlen.1
        have hmk : TailMark := .mk
        have hz : b.size ≤ 1000 := by rw [← KBw.ints_length, hb]; omega
        k_steps
        )
end Mine
end
set_option maxRecDepth 100000 in
set_option maxHeartbeats 8000000 in
theorem PySem.Challenge.cw_ez0012_01_holds : PySem.Challenge.rw_ez0012_01.Holds := by
  exact Mine.law

import PyProof.Rows.All
import Wide.All
import OpenK.AllK
import Wide.FinOn
import PySem.Challenge.RW_yf0006_01
set_option Elab.async false
set_option linter.all false
set_option maxRecDepth 100000
set_option maxHeartbeats 8000000
set_option rowWalk.seconds 0
set_option compiler.extract_closed false
namespace Mine
section
open PySem PySem.W PyProof.Rows
theorem freshHd : True := by
  w_top off
  trivial
local macro_rules | `(tactic| o_head $h:term) => `(tactic| z_head)
open_top hd for PySem.Challenge.rw_yf0006_01
end
section
open PySem PySem.W PySem.Calls PyProof.Rows
theorem freshCtr : True := by
  w_top off
  trivial
structure Box (p : Prop) : Prop where
  out : p
structure Gnd (w : World) (n : Nat) (A : Around) (h : Heap) (news : List (Addr × Obj)) : Prop where
  out : ∃ (A₀ : Around) (base h₀ : Heap) (outer : List Env) (env : Env) (L : Addr) (m : Str → Option Value) (mean : ExcName → Option Value) (mg mb : Str → Option Value) (dp un : Nat) (gd : Option (List Code)),
    A = { handled := none, depth := dp, frames := some (env :: outer), guards := gd, units := un } ∧ Below A₀ base outer h₀ ∧ Fr h₀ L h m ∧ (Mine.hd.heap_39 w.params).In h₀ ∧ News h₀ L h news ∧
    Top Mine.hd.view_328 (looseW Mine.hd.view_328 [Str.ofString "COMPILER_FLAG_NAMES"]) mean mg mb h₀ ∧ env.frame = some L ∧ env.scope.kind = .function ∧ dp + n < recursionLimit ∧ un + 100 * n < cLine
theorem Gnd.intro {w : World} {n : Nat} {h : Heap} {news : List (Addr × Obj)} {A₀ : Around} {base h₀ : Heap} {outer : List Env} {env : Env} {L : Addr} {m : Str → Option Value} {mean : ExcName → Option Value} {mg mb : Str → Option Value} {dp un : Nat} {gd : Option (List Code)}
    (B : Below A₀ base outer h₀) (F : Fr h₀ L h m) (X : (Mine.hd.heap_39 w.params).In h₀) (N : News h₀ L h news) (T : Top Mine.hd.view_328 (looseW Mine.hd.view_328 [Str.ofString "COMPILER_FLAG_NAMES"]) mean mg mb h₀)
    (hf : env.frame = some L) (hk : env.scope.kind = .function) (hd : dp + n < recursionLimit) (hu : un + 100 * n < cLine) :
    Gnd w n { handled := none, depth := dp, frames := some (env :: outer), guards := gd, units := un } h news :=
  ⟨A₀, base, h₀, outer, env, L, m, mean, mg, mb, dp, un, gd, rfl, B, F, X, N, T, hf, hk, hd, hu⟩
theorem Gnd.part {w : World} {n : Nat} {A : Around} {h : Heap} {news : List (Addr × Obj)} (G : Gnd w n A h news) : ∃ h₀ : Heap, (Mine.hd.heap_39 w.params).In h₀ := by
  obtain ⟨_, _, h₀, _, _, _, _, _, _, _, _, _, _, _, _, _, X, _⟩ := G.out
  exact ⟨h₀, X⟩
section
variable {w : World} {n : Nat} {A : Around} {E : Value → Shared → Prop} {s : Shared} {Q : Value → Shared → Prop}
theorem enterN {news : List (Addr × Obj)} {name qual : Str} {params : Arguments} {body : List Stmt} {scope : Scope} {dV kV doc pm cdv ct oc : Value} {an od : Option Addr} {osl : Array (Option Value)} {f : Addr} {vs : List Value} {binds : List (Str × Value)}
    (G : Gnd w (n + 1) A s.heap news)
    (ho : (Mine.hd.heap_39 w.params).lookup f = some ⟨oc, od, .func (fnOf name qual params body scope dV kV doc pm an cdv ct), osl⟩) (hcd : codeIn (Mine.hd.heap_39 w.params) cdv qual = true)
    (hbind : BindsTo s (fnOf name qual params body scope dV kV doc pm an cdv ct) ⟨vs, []⟩ binds) (hloc : ∀ y ∈ binds, scope.names.lookup y.1 = some .local)
    (h : ∀ (g : Heap) (L' : Addr) (h₁ : Heap) (base : Heap) (outer : List Env) (env : Env) (mean : ExcName → Option Value) (mg mb : Str → Option Value) (dp un : Nat) (gd : Option (List Code)),
      A = { handled := none, depth := dp, frames := some (env :: outer), guards := gd, units := un } →
      Fr g L' h₁ (fun y => binds.reverse.lookup y) → News g L' h₁ news → Below { handled := none, depth := dp, frames := some (env :: outer), guards := gd, units := un } base (env :: outer) g → (Mine.hd.heap_39 w.params).In g →
      Top Mine.hd.view_328 (looseW Mine.hd.view_328 [Str.ofString "COMPILER_FLAG_NAMES"]) mean mg mb g → GSub s.heap g (news.map (·.1)) → dp + 1 + n < recursionLimit → un + 100 + 100 * n < cLine → s.heap.objs.size ≤ L' →
      wpAny (model PySem.Challenge.rw_yf0006_01.row.prog w) (({ handled := none, depth := dp, frames := some (env :: outer), guards := gd, units := un } : Around).deeper (envOf qual scope L' f cdv)) (execs body (envOf qual scope L' f cdv))
        (fun fl s' => Q (match fl with | .ret v => v | _ => .none) s')
        (fun e s' => wpAny (model PySem.Challenge.rw_yf0006_01.row.prog w) (({ handled := none, depth := dp, frames := some (env :: outer), guards := gd, units := un } : Around).deeper (envOf qual scope L' f cdv)) (leaving (envOf qual scope L' f cdv) e) (fun _ s'' => E e s'') (fun e' s'' => E e' s'') s')
        { s with heap := h₁, toks := s.toks + binds.length })
    (hco : scope.isCoroutine = false) (hgen : scope.isGenerator = false) (hk : scope.kind = .function)
    (hcell : ∀ x ∈ scope.names, x.2 ≠ .cell) : wpAny (model PySem.Challenge.rw_yf0006_01.row.prog w) A (call (.ref f) vs) Q E s := by
  obtain ⟨A₀, base, h₀, outer, env, L, m, mean, mg, mb, dp, un, gd, rfl, B, F, X, N, T, hf, hke, hd, hu⟩ := G.out
  refine wpAny_call ?_
  obtain ⟨FG, BG, st, lv⟩ := groundX (A := { handled := none, depth := dp, frames := some (env :: outer), guards := gd, units := un }) (R := fun r s' => match r with | .ok (.ret v) => Q v s' | .ok _ => False | .error e => E e s') B F N rfl hf hke
  refine codeAny_call_def (fd := fnX name qual params body scope [] dV kV doc pm an cdv ct) (body := body) (binds := binds) (by show dp < _; omega) ((X.keeps F.keep) _ _ ho) rfl (T.nolimit.keeps F.keep) (codeRec_of (X.keeps F.keep) hcd) rfl hbind hcell hloc (fun h₁ hns hk₁ => ?_) hco hgen hk
  exact wpAny_mono (h _ s.heap.objs.size h₁ base outer env mean mg mb dp un gd rfl ⟨hns, fun b o e => hk₁ b o (of_hideAll _ e), Nat.le_of_eq (hideAll_size _ _)⟩
    (fun p hp => ⟨hk₁ _ _ (N p hp).1, Nat.ne_of_lt (Heap.lt_size (N p hp).1), hideAll_none _ (List.mem_map_of_mem hp)⟩) BG (X.keeps st) (T.keeps st) (fun b o e n => hideAll_get _ e n) (by omega) (by omega) (Nat.le_refl _)) (fun fl s' hl => by cases fl <;> exact hl) fun _ _ y => y
theorem enter0 {name qual : Str} {params : Arguments} {body : List Stmt} {scope : Scope} {dV kV doc pm cdv ct oc : Value} {an od : Option Addr} {osl : Array (Option Value)} {f : Addr} {vs : List Value} {binds : List (Str × Value)}
    (G : Gnd w (n + 1) A s.heap [])
    (ho : (Mine.hd.heap_39 w.params).lookup f = some ⟨oc, od, .func (fnOf name qual params body scope dV kV doc pm an cdv ct), osl⟩) (hcd : codeIn (Mine.hd.heap_39 w.params) cdv qual = true)
    (hbind : BindsTo s (fnOf name qual params body scope dV kV doc pm an cdv ct) ⟨vs, []⟩ binds) (hloc : ∀ y ∈ binds, scope.names.lookup y.1 = some .local)
    (h : ∀ (L' : Addr) (h₁ : Heap) (base : Heap) (outer : List Env) (env : Env) (mean : ExcName → Option Value) (mg mb : Str → Option Value) (dp un : Nat) (gd : Option (List Code)),
      Fr s.heap L' h₁ (fun y => binds.reverse.lookup y) → News s.heap L' h₁ [] → Below { handled := none, depth := dp, frames := some (env :: outer), guards := gd, units := un } base (env :: outer) s.heap → (Mine.hd.heap_39 w.params).In s.heap →
      Top Mine.hd.view_328 (looseW Mine.hd.view_328 [Str.ofString "COMPILER_FLAG_NAMES"]) mean mg mb s.heap → dp + 1 + n < recursionLimit → un + 100 + 100 * n < cLine →
      wpAny (model PySem.Challenge.rw_yf0006_01.row.prog w) (({ handled := none, depth := dp, frames := some (env :: outer), guards := gd, units := un } : Around).deeper (envOf qual scope L' f cdv)) (execs body (envOf qual scope L' f cdv))
        (fun fl s' => Q (match fl with | .ret v => v | _ => .none) s')
        (fun e s' => wpAny (model PySem.Challenge.rw_yf0006_01.row.prog w) (({ handled := none, depth := dp, frames := some (env :: outer), guards := gd, units := un } : Around).deeper (envOf qual scope L' f cdv)) (leaving (envOf qual scope L' f cdv) e) (fun _ s'' => E e s'') (fun e' s'' => E e' s'') s')
        { s with heap := h₁, toks := s.toks + binds.length })
    (hco : scope.isCoroutine = false) (hgen : scope.isGenerator = false) (hk : scope.kind = .function)
    (hcell : ∀ x ∈ scope.names, x.2 ≠ .cell) : wpAny (model PySem.Challenge.rw_yf0006_01.row.prog w) A (call (.ref f) vs) Q E s := by
  obtain ⟨A₀, base, h₀, outer, env, L, m, mean, mg, mb, dp, un, gd, rfl, B, F, X, N, T, hf, hke, hd, hu⟩ := G.out
  refine wpAny_call ?_
  obtain ⟨FG, BG, st, lv⟩ := groundX (A := { handled := none, depth := dp, frames := some (env :: outer), guards := gd, units := un }) (R := fun r s' => match r with | .ok (.ret v) => Q v s' | .ok _ => False | .error e => E e s') B F N rfl hf hke
  refine codeAny_call_def (fd := fnX name qual params body scope [] dV kV doc pm an cdv ct) (body := body) (binds := binds) (by show dp < _; omega) ((X.keeps F.keep) _ _ ho) rfl (T.nolimit.keeps F.keep) (codeRec_of (X.keeps F.keep) hcd) rfl hbind hcell hloc (fun h₁ hns hk₁ => ?_) hco hgen hk
  exact wpAny_mono (h s.heap.objs.size h₁ base outer env mean mg mb dp un gd ⟨hns, fun b o e => hk₁ b o e, Nat.le_refl _⟩
    (fun p hp => nomatch hp) BG (X.keeps st) (T.keeps st) (by omega) (by omega)) (fun fl s' hl => by cases fl <;> exact hl) fun _ _ y => y
end
end
section
open PySem PySem.W PySem.Calls PyProof.Rows
theorem freshCtr3 : True := by
  w_top off
  trivial
section
variable {w : World} {n : Nat} {A : Around} {E : Value → Shared → Prop} {s : Shared} {Q : Value → Shared → Prop}
theorem enterC {name qual : Str} {params : Arguments} {body : List Stmt} {scope : Scope} {dV kV doc pm cdv ct oc : Value} {an od : Option Addr} {osl : Array (Option Value)} {f : Addr} {vs : List Value} {binds : List (Str × Value)}
    (G : Gnd w (n + 1) A s.heap [])
    (ho : (Mine.hd.heap_39 w.params).lookup f = some ⟨oc, od, .func (fnOf name qual params body scope dV kV doc pm an cdv ct), osl⟩) (hcd : codeIn (Mine.hd.heap_39 w.params) cdv qual = true)
    (hbind : BindsTo s (fnOf name qual params body scope dV kV doc pm an cdv ct) ⟨vs, []⟩ binds)
    (hkind : (binds.all fun y => scope.names.lookup y.1 == some .local || scope.names.lookup y.1 == some .cell) = true)
    (hnd : ((cellsFrom 0 scope.names []).map (·.1)).Nodup)
    (h : ∀ (L' : Addr) (h₁ : Heap) (tk : Nat) (cells : List (Addr × Obj)) (base : Heap) (outer : List Env) (env : Env) (mean : ExcName → Option Value) (mg mb : Str → Option Value) (dp un : Nat) (gd : Option (List Code)),
      s.toks ≤ tk → Fr s.heap L' h₁ (bindL (envOfC qual scope L' f cdv).kindOf binds fun _ => none) → News s.heap L' h₁ cells → CellsAre (bindC (envOfC qual scope L' f cdv).kindOf binds fun _ => none) (cellsFrom (L' + 1) scope.names []) cells →
      Below { handled := none, depth := dp, frames := some (env :: outer), guards := gd, units := un } base (env :: outer) s.heap → (Mine.hd.heap_39 w.params).In s.heap →
      Top Mine.hd.view_328 (looseW Mine.hd.view_328 [Str.ofString "COMPILER_FLAG_NAMES"]) mean mg mb s.heap → dp + 1 + n < recursionLimit → un + 100 + 100 * n < cLine →
      wpAny (model PySem.Challenge.rw_yf0006_01.row.prog w) (({ handled := none, depth := dp, frames := some (env :: outer), guards := gd, units := un } : Around).deeper (envOfC qual scope L' f cdv)) (execs body (envOfC qual scope L' f cdv))
        (fun fl s' => Q (match fl with | .ret v => v | _ => .none) s')
        (fun e s' => wpAny (model PySem.Challenge.rw_yf0006_01.row.prog w) (({ handled := none, depth := dp, frames := some (env :: outer), guards := gd, units := un } : Around).deeper (envOfC qual scope L' f cdv)) (leaving (envOfC qual scope L' f cdv) e) (fun _ s'' => E e s'') (fun e' s'' => E e' s'') s')
        { s with heap := h₁, toks := tk })
    (hco : scope.isCoroutine = false) (hgen : scope.isGenerator = false) (hk : scope.kind = .function) : wpAny (model PySem.Challenge.rw_yf0006_01.row.prog w) A (call (.ref f) vs) Q E s := by
  obtain ⟨A₀, base, h₀, outer, env, L, m, mean, mg, mb, dp, un, gd, rfl, B, F, X, N, T, hf, hke, hd, hu⟩ := G.out
  refine wpAny_call ?_
  obtain ⟨FG, BG, st, lv⟩ := groundX (A := { handled := none, depth := dp, frames := some (env :: outer), guards := gd, units := un }) (R := fun r s' => match r with | .ok (.ret v) => Q v s' | .ok _ => False | .error e => E e s') B F N rfl hf hke
  refine codeAny_call_function (by show dp < _; omega) ((X.keeps F.keep) _ _ ho) rfl hco hgen rfl (codeRec_of (X.keeps F.keep) hcd) (hbind _ _ _ _ ?_)
  refine wpAny_with_toks (n := s.toks) (Nat.le_refl _) (wpAny_newFunctionEnv_cells hk ((kindsX hkind) _) fun env' he s' x htk => ?_)
  subst he
  refine ⟨((T.nolimit.keeps F.keep).keeps x.toInCall.keep), codeAny_func ?_⟩
  obtain ⟨h₁, tk, rfl, _⟩ := x.done
  have hk₁ := x.toInCall.keep
  obtain ⟨cells, NC, Y⟩ := Cl.news (h₀ := s.heap) (Nat.le_refl _) fun n c hm => ⟨x.cell n c (lookup_of_mem_nodup (cellsFrom_names scope.names 0 (s.heap.objs.size + 1) [] [] rfl ▸ hnd) hm), x.above n c hm⟩
  exact wpAny_mono (h s.heap.objs.size h₁ tk cells base outer env mean mg mb dp un gd htk ⟨x.toInCall.ns, fun b o e => hk₁ b o e, Nat.le_refl _⟩ NC Y
    BG (X.keeps st) (T.keeps st) (by omega) (by omega)) (fun fl s' hl => by cases fl <;> exact hl) fun _ _ y => y
end
end
section
open PySem PySem.W PySem.Calls PyProof.Rows
theorem freshCtr4 : True := by
  w_top off
  trivial
section
variable {w : World} {E : Value → Shared → Prop} {s : Shared} {Q : Value → Shared → Prop}
theorem enterTop {mean : ExcName → Option Value} {mg mb : Str → Option Value} {name qual : Str} {params : Arguments} {body : List Stmt} {scope : Scope} {dV kV doc pm cdv ct oc : Value} {an od : Option Addr} {osl : Array (Option Value)} {f : Addr} {vs : List Value} {binds : List (Str × Value)}
    (X : (Mine.hd.heap_39 w.params).In s.heap) (T : Top Mine.hd.view_328 (looseW Mine.hd.view_328 [Str.ofString "COMPILER_FLAG_NAMES"]) mean mg mb s.heap)
    (ho : (Mine.hd.heap_39 w.params).lookup f = some ⟨oc, od, .func (fnOf name qual params body scope dV kV doc pm an cdv ct), osl⟩) (hcd : codeIn (Mine.hd.heap_39 w.params) cdv qual = true)
    (hbind : BindsTo s (fnOf name qual params body scope dV kV doc pm an cdv ct) ⟨vs, []⟩ binds)
    (hkind : (binds.all fun y => scope.names.lookup y.1 == some .local || scope.names.lookup y.1 == some .cell) = true)
    (hnd : ((cellsFrom 0 scope.names []).map (·.1)).Nodup)
    (h : ∀ (L' : Addr) (h₁ : Heap) (tk : Nat) (cells : List (Addr × Obj)) (base : Heap) (dp un : Nat) (gd : Option (List Code)),
      callerA = { handled := none, depth := dp, frames := some [], guards := gd, units := un } →
      s.toks ≤ tk → Fr s.heap L' h₁ (bindL (envOfC qual scope L' f cdv).kindOf binds fun _ => none) → News s.heap L' h₁ cells → CellsAre (bindC (envOfC qual scope L' f cdv).kindOf binds fun _ => none) (cellsFrom (L' + 1) scope.names []) cells →
      Below { handled := none, depth := dp, frames := some [], guards := gd, units := un } base [] s.heap → (Mine.hd.heap_39 w.params).In s.heap →
      Top Mine.hd.view_328 (looseW Mine.hd.view_328 [Str.ofString "COMPILER_FLAG_NAMES"]) mean mg mb s.heap → dp + 1 + 8 < recursionLimit → un + 100 + 900 < cLine →
      wpAny (model PySem.Challenge.rw_yf0006_01.row.prog w) (({ handled := none, depth := dp, frames := some [], guards := gd, units := un } : Around).deeper (envOfC qual scope L' f cdv)) (execs body (envOfC qual scope L' f cdv))
        (fun fl s' => Q (match fl with | .ret v => v | _ => .none) s')
        (fun e s' => wpAny (model PySem.Challenge.rw_yf0006_01.row.prog w) (({ handled := none, depth := dp, frames := some [], guards := gd, units := un } : Around).deeper (envOfC qual scope L' f cdv)) (leaving (envOfC qual scope L' f cdv) e) (fun _ s'' => E e s'') (fun e' s'' => E e' s'') s')
        { s with heap := h₁, toks := tk })
    (hco : scope.isCoroutine = false) (hgen : scope.isGenerator = false) (hk : scope.kind = .function) : wpAny (model PySem.Challenge.rw_yf0006_01.row.prog w) callerA (call (.ref f) vs) Q E s := by
  refine wpAny_call ?_
  refine codeAny_call_function (R := fun r s' => match r with | .ok (.ret v) => Q v s' | .ok _ => False | .error e => E e s') (by decide) (X _ _ ho) rfl hco hgen rfl (codeRec_of X hcd) (hbind _ _ _ _ ?_)
  refine wpAny_with_toks (n := s.toks) (Nat.le_refl _) (wpAny_newFunctionEnv_cells hk ((kindsX hkind) _) fun env' he s' x htk => ?_)
  subst he
  refine ⟨(T.nolimit.keeps x.toInCall.keep), codeAny_func ?_⟩
  obtain ⟨h₁, tk, rfl, _⟩ := x.done
  have hk₁ := x.toInCall.keep
  obtain ⟨cells, NC, Y⟩ := Cl.news (h₀ := s.heap) (Nat.le_refl _) fun n c hm => ⟨x.cell n c (lookup_of_mem_nodup (cellsFrom_names scope.names 0 (s.heap.objs.size + 1) [] [] rfl ▸ hnd) hm), x.above n c hm⟩
  exact wpAny_mono (h s.heap.objs.size h₁ tk cells s.heap _ _ _ rfl htk ⟨x.toInCall.ns, fun b o e => hk₁ b o e, Nat.le_refl _⟩ NC Y
    (below_caller _) X T (by decide) (by decide)) (fun fl s' hl => by cases fl <;> exact hl) fun _ _ y => y
end
end
open PySem PySem.W PySem.Calls PyProof.Rows
local macro_rules | `(tactic| walk_at "mine enter") => `(tactic| (
  (have X9 := Gnd.part (by assumption)); revert X9; k_fill; intro X9; clear X9;
  refine' enter0 (by assumption) ?k1 ?k2 ?k3 ?k4 ?kh ?c1 ?c2 ?c3 ?c4;
  (case k1 => k_dflt k_is); (case k2 => k_dflt k_is); (case k3 => exact BindsTo.of_eq rfl); (case k4 => exact locs rfl); (case c1 => rfl); (case c2 => rfl); (case c3 => rfl); (case c4 => decide);
  intro L' h₁ base outer env mean mg mb dp un gd F' N' B' X' T' hd hu;
  dsimp only;
  k_fold))
local macro_rules | `(tactic| walk_at "mine same") => `(tactic| (
  intro z h1 h2 h3;
  simp only [List.forall_mem_cons, List.not_mem_nil, false_implies, implies_true, and_true, ne_eq] at h2;
  simp only [List.contains_cons, List.contains_nil, Bool.or_false, Bool.or_eq_false_iff, beq_eq_false_iff_ne, ne_eq] at h3;
  simp [kstB, h1, h2, h3]))
local macro_rules | `(tactic| walk_at "mine enterN") => `(tactic| (
  (have X9 := Gnd.part (by assumption)); revert X9; k_fill; intro X9; clear X9;
  refine' enterN (by assumption) ?k1 ?k2 ?k3 ?k4 ?kh ?c1 ?c2 ?c3 ?c4;
  (case k1 => k_dflt k_is); (case k2 => k_dflt k_is); (case k3 => exact BindsTo.of_eq rfl); (case k4 => exact locs rfl); (case c1 => rfl); (case c2 => rfl); (case c3 => rfl); (case c4 => decide);
  intro g L' h₁ base outer env mean mg mb dp un gd eA F' N' B' X' T' kG hd hu hsz;
  dsimp only;
  k_fold))
local macro_rules | `(tactic| walk_at "mine gnd") => `(tactic| (
  (with_reducible rename Fr _ _ _ _ => kF9);
  exact Gnd.intro (by k_asm) kF9 (by k_asm) News.nil (by k_asm) rfl rfl (by (try dsimp only); omega) (by (try dsimp only); omega)))
local macro_rules | `(tactic| walk_at "mine back") => `(tactic| (
  (with_reducible rename Fr _ _ _ _ => kF9); (with_reducible rename News _ _ _ _ => kN9);
  intro t' h' tk' hst';
  have F' := Fr.keeps kF9 hst';
  have N' := News.grown kN9 hst';
  clear kF9 kN9 hst';
  (try dsimp only)))
section
theorem freshMa : True := by
  w_top off
  trivial
/-! plain arithmetic: Gaussian integers to the base i - 1 (pairs of ints) -/
noncomputable def gb (z : Int × Int) : Int := Int.fmod (z.1 + z.2) 2
noncomputable def gT (z : Int × Int) : Int × Int := (Int.fdiv (z.2 - z.1 + gb z) 2, Int.fdiv (gb z - z.1 - z.2) 2)
noncomputable def gIt : Nat → Int × Int → Int × Int
  | 0, z => z
  | n + 1, z => gT (gIt n z)
noncomputable def dg (z : Int × Int) : Nat → Int
  | 0 => 0
  | k + 1 => dg z k + gb (gIt k z) * 2 ^ k
noncomputable def octRow (z : Int × Int) : Nat → List Int
  | 0 => []
  | t + 1 => (dg (gIt (6 * t) z) 6 + if t = 0 then 0 else 64) :: octRow z t
theorem gb_cases (z : Int × Int) : gb z = 0 ∨ gb z = 1 := by
  unfold gb
  rw [Int.fmod_eq_emod_of_nonneg _ (by decide)]
  omega
theorem dg_bound (z : Int × Int) : ∀ k, 0 ≤ dg z k ∧ dg z k < 2 ^ k := by
  intro k
  induction k with
  | zero => simp [dg]
  | succ k ih =>
    have hp : (0 : Int) < 2 ^ k := Int.pow_pos (by decide)
    rw [dg, Int.pow_succ]
    rcases gb_cases (gIt k z) with h | h <;> rw [h] <;> omega
theorem gIt_add (a b : Nat) (z : Int × Int) : gIt (a + b) z = gIt a (gIt b z) := by
  induction a with
  | zero => simp [gIt]
  | succ a ih => rw [Nat.succ_add, gIt, gIt, ih]
theorem gT_zero : gT (0, 0) = (0, 0) := by decide
theorem gIt_zero (n : Nat) : gIt n (0, 0) = (0, 0) := by
  induction n with
  | zero => rfl
  | succ n ih => rw [gIt, ih, gT_zero]
theorem octRow_len (z : Int × Int) (t : Nat) : (octRow z t).length = t := by
  induction t with
  | zero => rfl
  | succ t ih => rw [octRow, List.length_cons, ih]
noncomputable def hv (z : Int × Int) : Nat → Nat → Int
  | _, 0 => 0
  | r, j + 1 => hv z (r + 1) j * 64 + dg (gIt (6 * r) z) 6
theorem dg_add (z : Int × Int) (a k : Nat) : dg z (a + k) = dg z a + 2 ^ a * dg (gIt a z) k := by
  induction k with
  | zero => simp [dg]
  | succ k ih =>
    rw [← Nat.add_assoc, dg, dg, ih, Int.mul_add, Int.add_assoc, Nat.add_comm a k, gIt_add, Int.pow_add]
    congr 2
    rw [Int.mul_comm (2 ^ k : Int), ← Int.mul_assoc, Int.mul_comm _ (2 ^ a : Int), Int.mul_assoc]
theorem hv_eq (z : Int × Int) : ∀ j r : Nat, dg z (6 * (r + j)) = dg z (6 * r) + 2 ^ (6 * r) * hv z r j := by
  intro j
  induction j with
  | zero => intro r; simp [hv]
  | succ j ih =>
    intro r
    have h := ih (r + 1)
    rw [show r + 1 + j = r + (j + 1) by omega] at h
    rw [h, hv, show 6 * (r + 1) = 6 * r + 6 by omega, dg_add, Int.mul_add, Int.pow_add, show (2 : Int) ^ 6 = 64 from by decide, Int.add_assoc,
      Int.add_comm (2 ^ (6 * r) * (hv z (r + 1) j * 64))]
    congr 2
    rw [Int.mul_assoc, Int.mul_comm 64]
theorem hv_bound (z : Int × Int) : ∀ j r : Nat, 0 ≤ hv z r j ∧ hv z r j < 64 ^ j := by
  intro j
  induction j with
  | zero => intro r; simp [hv]
  | succ j ih =>
    intro r
    have h := ih (r + 1)
    have hd := dg_bound (gIt (6 * r) z) 6
    have h64 : (2 : Int) ^ 6 = 64 := by decide
    rw [h64] at hd
    rw [hv, Int.pow_succ]
    omega
theorem hv_full (z : Int × Int) (t : Nat) : hv z 0 t = dg z (6 * t) := by
  have h := hv_eq z t 0
  simp [dg] at h
  exact h.symm
end
section
open PySem PySem.W PySem.Calls PyProof.Rows
theorem freshR1 : True := by
  w_top off
  trivial
noncomputable def bItO (b : Array UInt8) (t : Tok) (i : Nat) : Obj := { cls := .type "bytes_iterator", data := .fields #[.bytes b t, .int (i : Int) 0] }
section
variable {prog : Program} {w : World} {A : Around} {E : Value → Shared → Prop} {s : Shared} {b : Array UInt8} {t : Tok}
theorem bIt_is {h : Heap} {it : Addr} {i : Nat} (e : h.get? it = some (bItO b t i)) : KBw.IsBytesIter h it b t i := ⟨_, e, rfl, rfl⟩
theorem bIt_special {it : Addr} {i : Nat} {c : UInt8} {Q : Option Value → Shared → Prop} (hit : s.heap.get? it = some (bItO b t i)) (hx : b[i]? = some c)
    (hQ : ∀ h', h'.get? it = some (bItO b t (i + 1)) → Heap.SameBut it s.heap h' → Q (some (.int (c.toNat : Int) s.toks)) { s with heap := h', toks := s.toks + 1 }) :
    wpAny (model prog w) A (callSpecial? (.ref it) (Str.ofString "__next__")) Q E s := by
  have ho := hit
  have hd : (bItO b t i).data = .fields #[.bytes b t, .int (i : Int) 0] := rfl
  refine wpAny_callSpecial?_slot (name := PySem.Str.ofString "__next__") (KBw.iter_typeIs (bIt_is hit)) KBw.slot_next
    (wpAny_call_entry KBw.slot_next (KBw.iter_typeIs (bIt_is hit)) KBw.entry_next ?_ (KBw.args_next _))
  show wpAny _ _ (field (.ref it) 0 >>= _) _ _ s
  refine wpAny_bind (wpAny_field ho hd (x := .bytes b t) rfl ?_)
  show wpAny _ _ (if (Value.bytes b t == Value.none) = true then _ else _) _ _ s
  rw [if_neg (show ¬ ((Value.bytes b t == Value.none) = true) from Bool.false_ne_true)]
  show wpAny _ _ (field (.ref it) 1 >>= _) _ _ s
  refine wpAny_bind (wpAny_field ho hd (x := .int i 0) rfl ?_)
  refine wpAny_bind (wpAny_of_eq (a := b) rfl ?_)
  simp only [Int.toNat_natCast, hx]
  refine wpAny_bind (wpAny_setField ho hd (by simp) (wpAny_bind (wpAny_mkInt (wpAny_pure ⟨_, rfl, (hQ _ ?_ (Heap.SameBut.update ..))⟩))))
  rw [Heap.get?_update_self _ ho (Obj.isFreed_of_fields (Obj.data_mapFields hd _))]
  rfl
theorem entry_nextB : entryFor table "next" = some Builtin.«next» := entryFor_of_fast (by kernel_rfl)
theorem args_nextB (a : Value) : argsOk "next" ⟨[a], []⟩ := by unfold argsOk; kernel_rfl
theorem entry_iterB : entryFor table "iter" = some Builtin.«iter» := entryFor_of_fast (by kernel_rfl)
theorem args_iterB (a : Value) : argsOk "iter" ⟨[a], []⟩ := by unfold argsOk; kernel_rfl
theorem next_bytes {it : Addr} {i : Nat} {c : UInt8} {Q : Value → Shared → Prop} (hit : s.heap.get? it = some (bItO b t i)) (hx : b[i]? = some c)
    (hQ : ∀ h', h'.get? it = some (bItO b t (i + 1)) → Heap.SameBut it s.heap h' → Q (.int (c.toNat : Int) s.toks) { s with heap := h', toks := s.toks + 1 }) :
    wpAny (model prog w) A (call (.builtin "next") [.ref it]) Q E s := by
  refine call_function_entry (by decide +kernel) (by decide +kernel) entry_nextB (args_nextB _) ?_
  unfold Builtin.«next»
  refine wpAny_bind (m := someArgs "next" 1 2 _) (wpAny_of_eq (a := [Value.ref it]) (by first | rfl | kernel_rfl!) ?_)
  dsimp only
  refine wpAny_bind (wpAny_specialOf (name := Str.ofString "__next__") (KBw.iter_typeIs (bIt_is hit)) KBw.slot_next.lookup ?_)
  refine wpAny_ite_split (fun hab => absurd hab (by decide)) (fun _ => ?_)
  refine wpAny_bind (bIt_special hit hx fun h' hit' hs => ?_)
  exact wpAny_pure ⟨_, rfl, hQ h' hit' hs⟩
theorem nextN {g : Heap} {L I : Addr} {m : Str → Option Value} {news : List (Addr × Obj)} {i : Nat} {c : UInt8} {Q : Value → Shared → Prop} (F : Fr g L s.heap m) (N : News g L s.heap ((I, bItO b t i) :: news)) (off : ∀ p ∈ news, p.1 ≠ I) (hx : b[i]? = some c)
    (hQ : ∀ h', Fr g L h' m → News g L h' ((I, bItO b t (i + 1)) :: news) → Q (.int (c.toNat : Int) s.toks) { s with heap := h', toks := s.toks + 1 }) :
    wpAny (model prog w) A (call (.builtin "next") [.ref I]) Q E s := by
  have hm := N _ List.mem_cons_self
  refine next_bytes hm.1 hx fun h' e hs => hQ h' (F.change hs hm.2.1 hm.2.2) fun p hp => ?_
  rcases List.mem_cons.mp hp with rfl | hp
  · exact ⟨e, hm.2⟩
  · have z := N p (List.mem_cons_of_mem _ hp)
    exact ⟨hs.extBut _ _ (off p hp) z.1, z.2⟩
theorem iter_bytes {Q : Value → Shared → Prop} (hQ : Q (.ref s.heap.objs.size) { s with heap := s.heap.push (bItO b t 0) }) :
    wpAny (model prog w) A (call (.builtin "iter") [.bytes b t]) Q E s := by
  refine call_function_entry (by decide +kernel) (by decide +kernel) entry_iterB (args_iterB _) ?_
  unfold Builtin.«iter»
  refine wpAny_bind (m := someArgs "iter" 1 2 _) (wpAny_of_eq (a := [Value.bytes b t]) (by first | rfl | kernel_rfl!) ?_)
  show wpAny _ _ (pyIter (.bytes b t) >>= _) _ _ _
  refine wpAny_bind (KBw.pyIter_bytes ?_)
  exact wpAny_pure ⟨_, rfl, hQ⟩
end
end
section
open PySem PySem.W PySem.Calls PyProof.Rows
theorem freshL1 : True := by
  w_top off
  trivial
local macro_rules | `(tactic| walk_at "mine pad0") => `(tactic| skip)
noncomputable def letStep (st : Int × Int) (o : Int) : Int × Int :=
  (-4 * st.1 + Int.fmod (o - 65) 2 - Int.fmod (Int.fdiv (o - 65) 2) 2 + Int.fdiv (o - 65) 8 * 2,
   -4 * st.2 + Int.fmod (Int.fdiv (o - 65) 2) 2 - Int.fmod (Int.fdiv (o - 65) 4) 2 * 2 + Int.fdiv (o - 65) 8 * 2)
noncomputable def letFold (os : List Int) : Int × Int := os.foldl letStep (0, 0)
theorem frEq {g : Heap} {L : Addr} {h : Heap} {m m' : Str → Option Value} (F : Fr g L h m) (e : m = m') : Fr g L h m' := e ▸ F
theorem letters_spec {w : World} {A : Around} {E : Value → Shared → Prop} {s : Shared} {Q : Value → Shared → Prop} (G : Gnd w 3 A s.heap []) (bs : Array UInt8) (tb : Tok)
  (hlen : bs.size ≤ 16) (hin : ∀ o ∈ KBw.bInts bs, 65 ≤ o ∧ o ≤ 80)
  (hret : ∀ (r : Addr) h' tk' t₁ t₂ nn, s.heap.StaysIn h' → h'.get? r = some { cls := .type "tuple", data := .seq #[.int (letFold (KBw.bInts bs)).1 t₁, .int (letFold (KBw.bInts bs)).2 t₂] nn } → Q (.ref r) { s with heap := h', toks := tk' }) :
  wpAny (model PySem.Challenge.rw_yf0006_01.row.prog w) A (call (.ref 118) [.bytes bs tb]) Q E s := by
  have X9 := Gnd.part G
  revert X9; k_fill; intro X9; clear X9
  refine' enter0 G ?k1 ?k2 ?k3 ?k4 ?kh ?c1 ?c2 ?c3 ?c4
  case k1 => k_dflt k_is
  case k2 => k_dflt k_is
  case k3 => exact BindsTo.of_eq rfl
  case k4 => exact locs rfl
  case c1 => rfl
  case c2 => rfl
  case c3 => rfl
  case c4 => decide
  intro L' h₁ base outer env mean mg mb dp un gd F' N' B' X' T' hd hu
  dsimp only
  k_fold
  change Fr _ _ _ (fun y => List.lookup y [(Str.ofString "word", Value.bytes bs tb)]) at F'
  k_steps
  rename Fr _ _ _ _ => F1
  rename News _ _ _ _ => N1
  refine' KStb.kst_bytes (σ := Int × Int × Tok × Tok) (fun _ => []) (fun c => [(Str.ofString "x", .int c.1 c.2.2.1), (Str.ofString "y", .int c.2.1 c.2.2.2)]) (fun _ => True) [Str.ofString "digit"]
    (fun pre c => (c.1, c.2.1) = pre.foldl letStep (0, 0)) (0, 0, ?tx, ?ty) rfl (KBw.ints_length bs) rfl F1 (fun _ hp => nomatch hp) trivial ?hk ?hP ?turn ?done
  case hk =>
    intro p hp
    simp only [List.mem_cons, List.not_mem_nil, or_false] at hp
    rcases hp with rfl | rfl <;> rfl
  case hP => rfl
  case turn =>
    rintro ⟨x, y, tx, ty⟩ pre post o t u h tk own hks hpl ho0 ho1 hoff - hP F2 N2
    dsimp only at hP F2
    clear F1 N1
    have hio := hin o (by rw [hks]; simp)
    dsimp only
    k_unmd
    k_fold
    (iterate 140 (first | ( (fail_if_success (with_reducible show wpAny _ _ (pyIter _) _ _ _)); (fail_if_success (with_reducible show InvEndN _ _ _ _ _ _ _)); (fail_if_success (with_reducible show wpAny _ _ (exec (Stmt.While _ _ _ _) _) _ _ _)); (first | (k_unfold; (try dsimp only)) | (k_end; wrow_close) | (dsimp only; walk1) | walk1 | (leave1; walk_say "STEP leave1"; try dsimp only) | fail "no step")) | skip))
    rename Fr _ _ _ _ => F3
    rename News _ _ _ _ => N3
    (try k_unfold)
    (try dsimp only [InvPostN])
    refine' kst_end (?x1, ?y1, ?tx1, ?ty1) F3 N3 (fun _ hp => nomatch hp) (by intro p hp; simpa using hp) rfl trivial ?hk ?hr ?hp
    case hk => kst_all
    case hr =>
      intro z h1 h2 h3
      simp only [List.forall_mem_cons, List.not_mem_nil, false_implies, implies_true, and_true, ne_eq] at h2
      simp only [List.contains_cons, List.contains_nil, Bool.or_false, Bool.or_eq_false_iff, beq_eq_false_iff_ne, ne_eq] at h3
      simp [kstB, h1, h2, h3]
    case hp =>
      show (_, _) = List.foldl letStep (0, 0) (pre ++ [o])
      rw [List.foldl_append, ← hP]
      rfl
  case done =>
    rintro ⟨x, y, tx, ty⟩ u h tk hl - hP F2 N2
    clear F1 N1
    dsimp only at hP F2 ⊢
    (iterate 140 (first | ( (fail_if_success (with_reducible show wpAny _ _ (pyIter _) _ _ _)); (fail_if_success (with_reducible show InvEndN _ _ _ _ _ _ _)); (fail_if_success (with_reducible show wpAny _ _ (exec (Stmt.While _ _ _ _) _) _ _ _)); (first | (k_unfold; (try dsimp only)) | (k_end; wrow_close) | (dsimp only; walk1) | walk1 | (leave1; walk_say "STEP leave1"; try dsimp only) | fail "no step")) | skip))
    rename Fr _ _ _ _ => F3
    rename News _ _ _ _ => N3
    refine hret _ _ _ tx ty 0 F3.keep ?_
    have h1 := (N3 _ (List.mem_cons_self)).1
    rw [show letFold (KBw.bInts bs) = (x, y) from hP.symm]
    exact h1
end
section
open PySem PySem.W PySem.Calls PyProof.Rows
theorem freshL2 : True := by
  w_top off
  trivial
structure WSt where
  x : Int
  y : Int
  u : Int
  v : Int
  tx : Tok
  ty : Tok
  tu : Tok
  tv : Tok
  ms : List Value
  mi : List Int
  ep : Nat
noncomputable def wStep (ns : List Int) (st : (Int × Int) × (Int × Int) × List Int) (p : Int) : (Int × Int) × (Int × Int) × List Int :=
  if p ∈ ns then ((st.1.1 + st.2.1.1, st.1.2 + st.2.1.2), (-st.2.1.1 - st.2.1.2, st.2.1.1 - st.2.1.2), st.2.2 ++ [p]) else (st.1, (-st.2.1.1 - st.2.1.2, st.2.1.1 - st.2.1.2), st.2.2)
noncomputable def wFold (ns pre : List Int) : (Int × Int) × (Int × Int) × List Int := pre.foldl (wStep ns) ((0, 0), (1, 0), [])
theorem wStep_len (ns : List Int) (st : (Int × Int) × (Int × Int) × List Int) (p : Int) : (wStep ns st p).2.2.length ≤ st.2.2.length + 1 := by
  unfold wStep; split <;> simp
theorem wFold_len (ns : List Int) (pre : List Int) : (wFold ns pre).2.2.length ≤ pre.length := by
  unfold wFold
  suffices h : ∀ st, (pre.foldl (wStep ns) st).2.2.length ≤ st.2.2.length + pre.length by simpa using h ((0, 0), (1, 0), [])
  induction pre with
  | nil => intro st; simp
  | cons p r ih => intro st; have := ih (wStep ns st p); have := wStep_len ns st p; simp only [List.foldl_cons, List.length_cons]; omega
theorem words_spec {w : World} {A : Around} {E : Value → Shared → Prop} {s : Shared} {Q : Value → Shared → Prop} (G : Gnd w 3 A s.heap []) (l : Addr) (vs : List Value) (ns : List Int)
  (hl : s.heap.IsList l vs.toArray) (hi : IntsAre vs ns) (hlen : ns.length ≤ 64) (hmet : (wFold ns (rangeKs 0 32)).2.2 = ns)
  (hret : ∀ (r : Addr) h' tk' t₁ t₂, s.heap.StaysIn h' → IsTup h' r #[.int (wFold ns (rangeKs 0 32)).1.1 t₁, .int (wFold ns (rangeKs 0 32)).1.2 t₂] → Q (.ref r) { s with heap := h', toks := tk' }) :
  wpAny (model PySem.Challenge.rw_yf0006_01.row.prog w) A (call (.ref 111) [.ref l]) Q E s := by
  have bmet := Box.mk hmet
  clear hmet
  walk_at "mine enter"
  rename Fr _ _ _ _ => F0
  change Fr _ _ _ (fun y => List.lookup y [(Str.ofString "places", Value.ref l)]) at F0
  (repeat' ( (fail_if_success (with_reducible show wpAny _ _ (pyIter _) _ _ _)); (fail_if_success (with_reducible show wpAny _ _ (exec (Stmt.While _ _ _ _) _) _ _ _)); (first | (k_unfold; (try dsimp only)) | (k_end; wrow_close) | (dsimp only; walk1) | walk1 | (leave1; walk_say "STEP leave1"; try dsimp only) | fail "no step")))
  rename Fr _ _ _ _ => F1
  rename News _ _ _ _ => N1
  rename IsRange _ _ _ _ _ _ _ _ => R1
  rename_i L' _ _ _ _ _ _ _ _ _ _ _ _ _ _ _ _ _ _ _ _ _ _
  refine' kst_range (σ := WSt) (n := 32) (fun c => [(?met, listOf c.ms.toArray c.ep)])
    (fun c => [(Str.ofString "x", .int c.x c.tx), (Str.ofString "y", .int c.y c.ty), (Str.ofString "u", .int c.u c.tu), (Str.ofString "v", .int c.v c.tv)])
    (fun c => IntsAre c.ms c.mi) [] (fun pre c => ((c.x, c.y), (c.u, c.v), c.mi) = wFold ns pre) ⟨0, 0, 1, 0, ?tx, ?ty, ?tu, ?tv, [], [], 0⟩ rfl R1 (by decide) (by rfl) F1 ?hn .nil ?hk ?hP ?turn ?done
  case hk => kst_all
  case hP => rfl
  case hn => exact fun p hp => N1 p (by rw [List.mem_singleton.mp hp]; exact List.mem_cons_self)
  all_goals try clear F1 N1 R1
  case turn =>
    rintro ⟨x, y, u, v, tx, ty, tu, tv, ms, mi, ep⟩ pre k t uu h tk own hk hpl hoff hf hP F2 N2
    dsimp only at hP F2 N2 hf
    dsimp only
    have hml : ms.length ≤ pre.length := by rw [hf.length, show mi = (wFold ns pre).2.2 from by rw [← hP]]; exact wFold_len ns pre
    have mk9 := kstMark
    simp only [List.map_cons, List.map_nil] at hoff
    simp only [List.cons_append, List.nil_append] at N2
    have bP := Box.mk hP
    clear hP
    k_unmd
    k_fold
    (repeat' ( (fail_if_success (with_reducible show wpAny _ _ (pyIter _) _ _ _)); (fail_if_success (with_reducible show wpAny _ _ (exec (Stmt.While _ _ _ _) _) _ _ _)); (fail_if_success (with_reducible show wpAny _ _ (truthy (Value.bool _)) _ _ _)); (first | (k_unfold; (try dsimp only)) | (k_end; wrow_close) | (dsimp only; walk1) | walk1 | (leave1; walk_say "STEP leave1"; try dsimp only) | fail "no step")))
    cases hb : (ns.any fun x => x == k)
    · (repeat' ( (fail_if_success (with_reducible show wpAny _ _ (pyIter _) _ _ _)); (fail_if_success (with_reducible show wpAny _ _ (exec (Stmt.While _ _ _ _) _) _ _ _)); (first | (k_unfold; (try dsimp only)) | (k_end; wrow_close) | (dsimp only; walk1) | walk1 | (leave1; walk_say "STEP leave1"; try dsimp only) | fail "no step")))
      rename Fr _ _ _ _ => F3
      rename News _ _ _ _ => N3
      (try k_unfold)
      (try dsimp only [InvPostN])
      refine' kst_end ⟨?ax, ?ay, ?au, ?av, ?atx, ?aty, ?atu, ?atv, ms, mi, ep⟩ F3 N3 (by kst_in) (by intro p hp; simp [hp]) rfl hf ?ahk ?ahr ?ahp
      case ahk => kst_all
      case ahr => walk_at "mine same"
      case ahp =>
        show (_, _, _) = wFold ns (pre ++ [k])
        rw [wFold, List.foldl_append, ← wFold, ← bP.out]
        have hk' : ¬ k ∈ ns := fun hm => by
          have := List.any_eq_false.mp hb k hm
          simp at this
        simp [wStep, hk']
    · (repeat' ( (fail_if_success (with_reducible show wpAny _ _ (pyIter _) _ _ _)); (fail_if_success (with_reducible show wpAny _ _ (exec (Stmt.While _ _ _ _) _) _ _ _)); (first | (k_unfold; (try dsimp only)) | (k_end; wrow_close) | (dsimp only; walk1) | walk1 | (leave1; walk_say "STEP leave1"; try dsimp only) | fail "no step")))
      rename Fr _ _ _ _ => F3
      rename News _ _ _ _ => N3
      simp only [List.push_toArray] at N3
      (try k_unfold)
      (try dsimp only [InvPostN])
      refine' kst_end ⟨?bx, ?bY, ?bu, ?bv, ?btx, ?bty, ?btu, ?btv, ms ++ [Value.int k t], mi ++ [k], ep + 1⟩ F3 N3 (by kst_in) (by intro p hp; simp [hp]) rfl (by kst_facts) ?bhk ?bhr ?bhp
      case bhk => kst_all
      case bhr => walk_at "mine same"
      case bhp =>
        show (_, _, _) = wFold ns (pre ++ [k])
        rw [wFold, List.foldl_append, ← wFold, ← bP.out]
        have hk' : k ∈ ns := by
          obtain ⟨x, hx, e⟩ := List.any_eq_true.mp hb
          rw [← eq_of_beq e]; exact hx
        simp [wStep, hk']
  case done =>
    rintro ⟨x, y, u, v, tx, ty, tu, tv, ms, mi, ep⟩ uu h tk hf hP F2 N2
    dsimp only at hP F2 N2 hf ⊢
    have hm : mi = ns := by rw [← bmet.out, ← hP]
    have hxy : (wFold ns (rangeKs 0 32)).1 = (x, y) := by rw [← hP]
    clear hP
    (repeat' ( (fail_if_success (with_reducible show wpAny _ _ (pyIter _) _ _ _)); (fail_if_success (with_reducible show wpAny _ _ (exec (Stmt.While _ _ _ _) _) _ _ _)); (fail_if_success (with_reducible show wpAny _ _ (compareOp _ (Value.ref _) (Value.ref _)) _ _ _)); (first | (k_unfold; (try dsimp only)) | (k_end; wrow_close) | (dsimp only; walk1) | walk1 | (leave1; walk_say "STEP leave1"; try dsimp only) | fail "no step")))
    rename Fr _ _ _ _ => F3
    rename News _ _ _ _ => N3
    refine eq_intsK ⟨_, (N3 _ List.mem_cons_self).1, rfl, _, rfl⟩ hf (hl.at fun o e => F3.keep _ _ e) hi (by dsimp only [Around.deeper]; omega) ?_
    rw [hm, decide_eq_true rfl]
    (repeat' ( (fail_if_success (with_reducible show wpAny _ _ (pyIter _) _ _ _)); (fail_if_success (with_reducible show wpAny _ _ (exec (Stmt.While _ _ _ _) _) _ _ _)); (first | (k_unfold; (try dsimp only)) | (k_end; wrow_close) | (dsimp only; walk1) | walk1 | (leave1; walk_say "STEP leave1"; try dsimp only) | fail "no step")))
    rename Fr _ _ _ _ => F4
    rename News _ _ _ _ => N4
    refine hret _ _ _ tx ty F4.keep ?_
    rw [hxy]
    exact ⟨_, (N4 _ (List.mem_cons_self)).1, rfl, _, rfl⟩
end
section
open PySem PySem.W PySem.Calls PyProof.Rows
theorem freshL3 : True := by
  w_top off
  trivial
local macro_rules | `(tactic| walk_at "mine pad0") => `(tactic| skip)
noncomputable def apI (n : Nat) : List Int := if h : n = 0 then [] else apI (n / 16) ++ [65 + (n : Int) % 16]
termination_by n
decreasing_by omega
theorem apI_zero : apI 0 = [] := by rw [apI]; rfl
theorem apI_pos {n : Nat} (h : n ≠ 0) : apI n = apI (n / 16) ++ [65 + (n : Int) % 16] := by rw [apI]; simp [h]
theorem apI_len : ∀ k n : Nat, n < 16 ^ k → (apI n).length ≤ k := by
  intro k
  induction k with
  | zero => intro n h; obtain rfl : n = 0 := by simpa using h
            simp [apI_zero]
  | succ k ih =>
    intro n h
    by_cases h0 : n = 0
    · subst h0; simp [apI_zero]
    · rw [apI_pos h0, List.length_append]
      have := ih (n / 16) (by rw [Nat.div_lt_iff_lt_mul (by omega)]; rw [Nat.pow_succ] at h; omega)
      simp; omega
structure ASt where
  n : Nat
  tn : Tok
  vi : List Int
  val : Array UInt8
  tv : Tok
theorem int2ap_spec {w : World} {A : Around} {E : Value → Shared → Prop} {s : Shared} {Q : Value → Shared → Prop} (G : Gnd w 3 A s.heap []) (M : Nat) (i : Int) (t : Tok) (hM : M < 2 ^ 32) (hi : i = -(M : Int))
  (hret : ∀ (bs : Array UInt8) h' tk' t, s.heap.StaysIn h' → KBw.bInts bs = apI M → Q (.bytes bs t) { s with heap := h', toks := tk' }) :
  wpAny (model PySem.Challenge.rw_yf0006_01.row.prog w) A (call (.ref 85) [.int i t]) Q E s := by
  walk_at "mine enter"
  rename Fr _ _ _ _ => F0
  change Fr _ _ _ (fun y => List.lookup y [(Str.ofString "num", Value.int i t)]) at F0
  (repeat' ( (fail_if_success (with_reducible show wpAny _ _ (pyIter _) _ _ _)); (fail_if_success (with_reducible show KswEnd _ _ _ _ _ _ _ _ _ _ _ _)); (fail_if_success (with_reducible show InvEndN _ _ _ _ _ _ _)); (fail_if_success (with_reducible show wpAny _ _ (exec (Stmt.While _ _ _ _) _) _ _ _)); (first | (k_unfold; (try dsimp only)) | (k_end; wrow_close) | (dsimp only; walk1) | walk1 | (leave1; walk_say "STEP leave1"; try dsimp only) | fail "no step")))
  rename Fr _ _ _ _ => F1
  rename News _ _ _ _ => N1
  have ei : (if i < 0 then -i else i) = (M : Int) := by subst hi; split <;> omega
  rw [ei] at F1
  have hM8 : (apI M).length ≤ 8 := apI_len 8 M (by simpa using hM)
  refine' ksw_while (σ := ASt) (fun _ => []) (fun c => [(Str.ofString "num", .int (c.n : Int) c.tn), (Str.ofString "val", .bytes c.val c.tv)]) (fun c => KBw.bInts c.val = c.vi) [Str.ofString "mod"]
    (fun c => apI c.n ++ c.vi = apI M) (fun c => c.n) ⟨M, ?tn, [], #[], ?tv⟩ F1 (fun _ hp => nomatch hp) rfl ?hk ?hP ?turn
  case hk => kst_all
  case hP => simp
  clear F1 N1
  rintro ⟨n, tn, vi, val, tv⟩ uu h tk hf hP F2 N2
  dsimp only at hP F2 N2 hf
  have hAP : KBw.bInts #[65, 66, 67, 68, 69, 70, 71, 72, 73, 74, 75, 76, 77, 78, 79, 80] = [65, 66, 67, 68, 69, 70, 71, 72, 73, 74, 75, 76, 77, 78, 79, 80] := by decide
  have hvl : vi.length ≤ 8 := by rw [← hP, List.length_append] at hM8; omega
  have mk9 := kstMark
  dsimp only
  k_unmd
  k_fold
  (repeat' ( (fail_if_success (with_reducible show wpAny _ _ (pyIter _) _ _ _)); (fail_if_success (with_reducible show KswEnd _ _ _ _ _ _ _ _ _ _ _ _)); (fail_if_success (with_reducible show InvEndN _ _ _ _ _ _ _)); (fail_if_success (with_reducible show wpAny _ _ (exec (Stmt.While _ _ _ _) _) _ _ _)); (first | (k_unfold; (try dsimp only)) | (k_end; wrow_close) | (dsimp only; walk1) | walk1 | (leave1; walk_say "STEP leave1"; try dsimp only) | fail "no step")))
  · rename Fr _ _ _ _ => F3
    rename News _ _ _ _ => N3
    have hn0 : n ≠ 0 := by omega
    have hmod : (n : Int).fmod 16 = ((n % 16 : Nat) : Int) := by rw [Int.fmod_eq_emod_of_nonneg _ (by decide)]; omega
    have hdiv : (n : Int).fdiv 16 = ((n / 16 : Nat) : Int) := by rw [Int.fdiv_eq_ediv_of_nonneg _ (by decide)]; omega
    have hcut : ∀ r : Nat, r < 16 → List.take (clipAt 16 ((r : Int) + 1) - clipAt 16 (r : Int)) (List.drop (clipAt 16 (r : Int)) [65, 66, 67, 68, 69, 70, 71, 72, 73, 74, 75, 76, 77, 78, 79, 80]) = [65 + (r : Int)] := by decide
    rename KBw.bInts _ = _ => hnew
    simp only [hdiv] at F3
    refine' ksw_end ⟨n / 16, ?atn, [65 + (n : Int) % 16] ++ vi, ?aval, ?atv⟩ F3 N3 (by kst_in) ?af ?ahk ?ahr ?ahp ?am
    case ahk => kst_all
    case ahr =>
      intro z h2 h3
      simp only [List.forall_mem_cons, List.not_mem_nil, false_implies, implies_true, and_true, ne_eq] at h2
      simp only [List.contains_cons, List.contains_nil, Bool.or_false, Bool.or_eq_false_iff, beq_eq_false_iff_ne, ne_eq] at h3
      simp [kstB, h2, h3]
    case af =>
      show KBw.bInts _ = _
      rw [hnew, hmod]
      have hc := hcut (n % 16) (Nat.mod_lt _ (by decide))
      show List.take (clipAt 16 _ - clipAt 16 _) (List.drop (clipAt 16 _) _) ++ vi = _
      rw [hc]
      show [65 + ((n % 16 : Nat) : Int)] ++ vi = [65 + (n : Int) % 16] ++ vi
      simp
    case ahp =>
      show apI (n / 16) ++ ([65 + (n : Int) % 16] ++ vi) = apI M
      rw [← hP, apI_pos hn0, List.append_assoc]
    case am =>
      show n / 16 < n
      omega
  · rename Fr _ _ _ _ => F3
    have hn0 : n = 0 := by omega
    subst hn0
    (repeat' ( (fail_if_success (with_reducible show wpAny _ _ (pyIter _) _ _ _)); (fail_if_success (with_reducible show KswEnd _ _ _ _ _ _ _ _ _ _ _ _)); (fail_if_success (with_reducible show InvEndN _ _ _ _ _ _ _)); (fail_if_success (with_reducible show wpAny _ _ (exec (Stmt.While _ _ _ _) _) _ _ _)); (first | (k_unfold; (try dsimp only)) | (k_end; wrow_close) | (dsimp only; walk1) | walk1 | (leave1; walk_say "STEP leave1"; try dsimp only) | fail "no step")))
    refine hret _ _ _ _ F3.keep ?_
    rw [hf, ← hP, apI_zero, List.nil_append]
end
section
open PySem PySem.W PySem.Calls PyProof.Rows
theorem freshL4 : True := by
  w_top off
  trivial
structure OSt where
  t : Nat
  x : Int
  y : Int
  tx : Tok
  ty : Tok
  row : Array UInt8
  tr : Tok
structure OIn where
  d : Int
  x : Int
  y : Int
  td : Tok
  tx : Tok
  ty : Tok
theorem octets_spec {w : World} {A : Around} {E : Value → Shared → Prop} {s : Shared} {Q : Value → Shared → Prop} (G : Gnd w 3 A s.heap []) (z : Int × Int) (tx ty : Tok) (h30 : gIt 30 z = (0, 0))
  (hret : ∀ (bs : Array UInt8) (k : Nat) h' tk' t, s.heap.StaysIn h' → 1 ≤ k → k ≤ 5 → gIt (6 * k) z = (0, 0) → KBw.bInts bs = octRow z k → Q (.bytes bs t) { s with heap := h', toks := tk' }) :
  wpAny (model PySem.Challenge.rw_yf0006_01.row.prog w) A (call (.ref 99) [.int z.1 tx, .int z.2 ty]) Q E s := by
  walk_at "mine enter"
  rename Fr _ _ _ _ => F0
  change Fr _ _ _ (fun y => List.lookup y [(Str.ofString "y", Value.int z.2 ty), (Str.ofString "x", Value.int z.1 tx)]) at F0
  (repeat' ( (fail_if_success (with_reducible show wpAny _ _ (pyIter _) _ _ _)); (fail_if_success (with_reducible show KswEnd _ _ _ _ _ _ _ _ _ _ _ _)); (fail_if_success (with_reducible show InvEndN _ _ _ _ _ _ _)); (fail_if_success (with_reducible show wpAny _ _ (exec (Stmt.While _ _ _ _) _) _ _ _)); (first | (k_unfold; (try dsimp only)) | (k_end; wrow_close) | (dsimp only; walk1) | walk1 | (leave1; walk_say "STEP leave1"; try dsimp only) | fail "no step")))
  rename Fr _ _ _ _ => F1
  rename News _ _ _ _ => N1
  have b30 := Box.mk h30
  clear h30
  refine' ksw_while (σ := OSt) (fun _ => []) (fun c => [(Str.ofString "x", .int c.x c.tx), (Str.ofString "y", .int c.y c.ty), (Str.ofString "row", .bytes c.row c.tr)]) (fun _ => True) [Str.ofString "digit", Str.ofString "place", Str.ofString "odd"]
    (fun c => c.t ≤ 5 ∧ (c.x, c.y) = gIt (6 * c.t) z ∧ KBw.bInts c.row = octRow z c.t) (fun c => 5 - c.t) ⟨0, z.1, z.2, tx, ty, #[], ?tr⟩ F1 (fun _ hp => nomatch hp) trivial ?hk ?hP ?turn
  case hk => kst_all
  case hP => exact ⟨Nat.zero_le _, rfl, rfl⟩
  clear F1 N1
  rintro ⟨t, x, y, tx, ty, row, tr⟩ uu h tk - ⟨ht, hxy, hrow⟩ F2 N2
  dsimp only at ht hxy hrow F2 N2
  have hlen : (octRow z t).length = t := octRow_len z t
  have htr : (row.toList == (#[] : Array UInt8).toList) = decide (t = 0) := by
    have e1 : row.size = t := by rw [← KBw.ints_length row, hrow, hlen]
    cases t with
    | zero =>
      have : row = #[] := Array.eq_empty_of_size_eq_zero e1
      subst this; rfl
    | succ n =>
      have hne : row ≠ #[] := by rintro rfl; simp at e1
      simp [hne]
  have h5 : t = 5 → x = 0 ∧ y = 0 := by
    rintro rfl
    have h30 := b30.out
    rw [show (6 * 5 : Nat) = 30 from rfl, h30] at hxy
    exact ⟨congrArg Prod.fst hxy, congrArg Prod.snd hxy⟩
  have bxy := Box.mk hxy
  have brow := Box.mk hrow
  clear hxy hrow
  have mk9 := kstMark
  dsimp only
  k_unmd
  refine wpAny_mono (Q := fun b s₂ => Box ((b = true → t < 5) ∧ (b = false → 1 ≤ t ∧ x = 0 ∧ y = 0) ∧ ∃ tk' : Nat, s₂ = { s with heap := h, toks := tk' })) ?test (fun b s₂ hb => ?rest) (fun _ _ e => e)
  case test =>
    (repeat' ( (fail_if_success (with_reducible show wpAny _ _ (pyIter _) _ _ _)); (fail_if_success (with_reducible show KswEnd _ _ _ _ _ _ _ _ _ _ _ _)); (fail_if_success (with_reducible show InvEndN _ _ _ _ _ _ _)); (fail_if_success (with_reducible show wpAny _ _ (exec (Stmt.While _ _ _ _) _) _ _ _)); (first | (k_unfold; (try dsimp only)) | (k_end; wrow_close) | (dsimp only; walk1) | walk1 | (leave1; walk_say "STEP leave1"; try dsimp only) | fail "no step")))
    · have hrt := htr.symm.trans (by assumption)
      simp only [decide_eq_true_eq, decide_eq_false_iff_not] at hrt
      exact ⟨fun _ => by omega, (nomatch ·), _, rfl⟩
    · rename x ≠ 0 => hx
      exact ⟨fun _ => Nat.lt_of_le_of_ne ht fun e => hx (h5 e).1, (nomatch ·), _, rfl⟩
    · rename y ≠ 0 => hy
      exact ⟨fun _ => Nat.lt_of_le_of_ne ht fun e => hy (h5 e).2, (nomatch ·), _, rfl⟩
    · have hrt := htr.symm.trans (by assumption)
      simp only [decide_eq_true_eq, decide_eq_false_iff_not] at hrt
      exact ⟨(nomatch ·), fun _ => ⟨by omega, by assumption, by assumption⟩, _, rfl⟩
  case rest =>
    obtain ⟨hb1, hb2, tk', rfl⟩ := hb.out
    clear hb
    cases b with
    | false =>
      obtain ⟨h1, hx, hy⟩ := hb2 rfl
      rw [if_neg (by decide)]
      (repeat' ( (fail_if_success (with_reducible show wpAny _ _ (pyIter _) _ _ _)); (fail_if_success (with_reducible show KswEnd _ _ _ _ _ _ _ _ _ _ _ _)); (fail_if_success (with_reducible show InvEndN _ _ _ _ _ _ _)); (fail_if_success (with_reducible show wpAny _ _ (exec (Stmt.While _ _ _ _) _) _ _ _)); (first | (k_unfold; (try dsimp only)) | (k_end; wrow_close) | (dsimp only; walk1) | walk1 | (leave1; walk_say "STEP leave1"; try dsimp only) | fail "no step")))
      rename Fr _ _ _ _ => F3
      refine hret _ t _ _ _ F3.keep h1 ht ?_ brow.out
      rw [← bxy.out, hx, hy]
    | true =>
      have ht5 := hb1 rfl
      clear hb1 hb2
      rw [if_pos rfl]
      k_fold
      (repeat' ( (fail_if_success (with_reducible show wpAny _ _ (pyIter _) _ _ _)); (fail_if_success (with_reducible show KswEnd _ _ _ _ _ _ _ _ _ _ _ _)); (fail_if_success (with_reducible show InvEndN _ _ _ _ _ _ _)); (fail_if_success (with_reducible show wpAny _ _ (exec (Stmt.While _ _ _ _) _) _ _ _)); (first | (k_unfold; (try dsimp only)) | (k_end; wrow_close) | (dsimp only; walk1) | walk1 | (leave1; walk_say "STEP leave1"; try dsimp only) | fail "no step")))
      all_goals (
        rename Fr _ _ _ _ => F3
        rename News _ _ _ _ => N3
        rename IsRange _ _ _ _ _ _ _ _ => R3
        refine' kst_range (σ := OIn) (n := 6) (fun _ => []) (fun c => [(Str.ofString "digit", .int c.d c.td), (Str.ofString "x", .int c.x c.tx), (Str.ofString "y", .int c.y c.ty)]) (fun _ => True) [Str.ofString "odd"]
          (fun pre c => c.d = (if t = 0 then 0 else 64) + dg (x, y) pre.length ∧ (c.x, c.y) = gIt pre.length (x, y)) ⟨_, x, y, _, _, _⟩ rfl R3 (by decide) (by rfl) F3 (fun _ hp => nomatch hp) trivial ?_ ?_ ?_ ?_
        all_goals (try kst_all)
        · have hrt := htr.symm.trans (by assumption)
          simp only [decide_eq_true_eq, decide_eq_false_iff_not] at hrt
          refine ⟨?_, rfl⟩
          show _ = _ + (0 : Int)
          simp [hrt]
        · clear F3 N3 R3
          rintro ⟨d, x', y', td, tx', ty'⟩ pre k tk0 uu' h' tk1 own hk hpl - - ⟨hd1, hxy1⟩ F2 N2
          dsimp only at hd1 hxy1 F2 N2
          have bd1 := Box.mk hd1
          have bxy1 := Box.mk hxy1
          clear hd1 hxy1
          dsimp only
          k_unmd
          k_fold
          (repeat' ( (fail_if_success (with_reducible show wpAny _ _ (pyIter _) _ _ _)); (fail_if_success (with_reducible show KswEnd _ _ _ _ _ _ _ _ _ _ _ _)); (fail_if_success (with_reducible show InvEndN _ _ _ _ _ _ _)); (fail_if_success (with_reducible show wpAny _ _ (exec (Stmt.While _ _ _ _) _) _ _ _)); (first | (k_unfold; (try dsimp only)) | (k_end; wrow_close) | (dsimp only; walk1) | walk1 | (leave1; walk_say "STEP leave1"; try dsimp only) | fail "no step")))
          rename Fr _ _ _ _ => F4
          rename News _ _ _ _ => N4
          (try k_unfold)
          (try dsimp only [InvPostN])
          refine' kst_end ⟨_, _, _, _, _, _⟩ F4 N4 (by intro p hp; cases hp) (by intro p hp; simp [hp]) rfl trivial ?_ ?_ ?_
          all_goals (try kst_all)
          · walk_at "mine same"
          · have hk0 : k.toNat = pre.length := by omega
            refine ⟨?_, ?_⟩
            · show _ = _ + dg (x, y) (pre ++ [k]).length
              rw [List.length_append, show [k].length = 1 from rfl, dg, ← bxy1.out, bd1.out, hk0, ← Int.add_assoc]
              rfl
            · show (_, _) = gIt (pre ++ [k]).length (x, y)
              rw [List.length_append, show [k].length = 1 from rfl, gIt, ← bxy1.out]
              rfl
        · clear F3 N3 R3
          rintro ⟨d, x', y', td, tx', ty'⟩ uu' h' tk1 - ⟨hd1, hxy1⟩ F2 N2
          dsimp only at hd1 hxy1 F2 N2
          rw [rangeKs_length] at hd1 hxy1
          have hb := dg_bound (x, y) 6
          have hdig : 0 ≤ d ∧ d < 256 := by
            have h64 : (2 : Int) ^ 6 = 64 := by decide
            rw [h64] at hb
            rw [hd1]
            split <;> omega
          have bd1 := Box.mk hd1
          have bxy1 := Box.mk hxy1
          clear hd1 hxy1 hb
          dsimp only
          k_unmd
          (repeat' ( (fail_if_success (with_reducible show wpAny _ _ (pyIter _) _ _ _)); (fail_if_success (with_reducible show KswEnd _ _ _ _ _ _ _ _ _ _ _ _)); (fail_if_success (with_reducible show InvEndN _ _ _ _ _ _ _)); (fail_if_success (with_reducible show wpAny _ _ (exec (Stmt.While _ _ _ _) _) _ _ _)); (first | (k_unfold; (try dsimp only)) | (k_end; wrow_close) | (dsimp only; walk1) | walk1 | (leave1; walk_say "STEP leave1"; try dsimp only) | fail "no step")))
          rename _ = d => hb9
          have hd1 : KBw.bInts #[d.toNat.toUInt8] = [d] := by
            show [((d.toNat.toUInt8.toNat : Nat) : Int)] = [d]
            rw [hb9]
          refine KBa.add_K hd1 brow.out (by rw [hlen]; simp only [List.length_cons, List.length_nil]; omega) ?_
          intro t' k' hnew
          (repeat' ( (fail_if_success (with_reducible show wpAny _ _ (pyIter _) _ _ _)); (fail_if_success (with_reducible show KswEnd _ _ _ _ _ _ _ _ _ _ _ _)); (fail_if_success (with_reducible show InvEndN _ _ _ _ _ _ _)); (fail_if_success (with_reducible show wpAny _ _ (exec (Stmt.While _ _ _ _) _) _ _ _)); (first | (k_unfold; (try dsimp only)) | (k_end; wrow_close) | (dsimp only; walk1) | walk1 | (leave1; walk_say "STEP leave1"; try dsimp only) | fail "no step")))
          rename Fr _ _ _ _ => F4
          rename News _ _ _ _ => N4
          refine' ksw_end ⟨t + 1, x', y', _, _, _, _⟩ F4 N4 (by intro p hp; cases hp) trivial ?_ ?_ ?_ ?_
          all_goals (try kst_all)
          · intro z' h2 h3
            simp only [List.forall_mem_cons, List.not_mem_nil, false_implies, implies_true, and_true, ne_eq] at h2
            simp only [List.contains_cons, List.contains_nil, Bool.or_false, Bool.or_eq_false_iff, beq_eq_false_iff_ne, ne_eq] at h3
            simp [kstB, h2, h3]
          · refine ⟨ht5, ?_, ?_⟩
            · show (x', y') = gIt (6 * (t + 1)) z
              rw [bxy1.out, bxy.out, ← gIt_add]
              congr 1
              omega
            · show KBw.bInts _ = octRow z (t + 1)
              rw [hnew, octRow, ← bxy.out, bd1.out, Int.add_comm]
              rfl
          · show 5 - (t + 1) < 5 - t
            omega)
end
section
open PySem PySem.W PySem.Calls PyProof.Rows
theorem freshL5 : True := by
  w_top off
  trivial
local macro_rules | `(tactic| walk_at "mine pad0") => `(tactic| skip)
theorem band64 {n : Int} (h0 : 0 ≤ n) (h1 : n < 128) : Builtin.bitAnd n 64 = if n < 64 then 0 else 64 := by
  have h : ∀ k : Fin 128, Builtin.bitAnd ((k : Nat) : Int) 64 = if ((k : Nat) : Int) < 64 then 0 else 64 := by decide +kernel
  have := h ⟨n.toNat, by omega⟩
  simpa [Int.toNat_of_nonneg h0] using this
theorem bor_add {x r : Int} (hx : 0 ≤ x) (h0 : 0 ≤ r) (h1 : r < 64) : Builtin.bitOr (x * 64) r = x * 64 + r := by
  have e1 := bitXor_and (x * 64) r
  have e2 : Builtin.bitXor (x * 64) r = Builtin.bitOr (x * 64) r - Builtin.bitAnd (x * 64) r := rfl
  have e3 : Builtin.bitAnd (x * 64) r = 0 := by
    obtain ⟨a, rfl⟩ : ∃ a : Nat, x = a := ⟨x.toNat, by omega⟩
    obtain ⟨b, rfl⟩ : ∃ b : Nat, r = b := ⟨r.toNat, by omega⟩
    have hb : b < 64 := by omega
    have d1 : decide (0 ≤ (a : Int) * 64) = true := decide_eq_true (by omega)
    have d2 : decide (0 ≤ (b : Int)) = true := decide_eq_true (by omega)
    unfold Builtin.bitAnd
    rw [d1, d2]
    have t1 : ((a : Int) * 64).toNat = a * 64 := by omega
    have t2 : (b : Int).toNat = b := by omega
    show (((((a : Int) * 64).toNat &&& (b : Int).toNat) : Nat) : Int) = 0
    rw [t1, t2]
    have : a * 64 &&& b = 0 := by
      apply Nat.eq_of_testBit_eq
      intro i
      rw [Nat.testBit_and, Nat.zero_testBit, show a * 64 = 2 ^ 6 * a by omega, Nat.testBit_two_pow_mul]
      by_cases hi : 6 ≤ i
      · rw [Nat.testBit_lt_two_pow (Nat.lt_of_lt_of_le hb (Nat.pow_le_pow_right (by decide) hi : 2 ^ 6 ≤ 2 ^ i)), Bool.and_false]
      · rw [decide_eq_false hi, Bool.false_and, Bool.false_and]
    rw [this]; rfl
  omega
structure VSt where
  i : Nat
  j : Nat
  b : Int
  v : Int
  tb : Tok
  tv : Tok
theorem oct_head {bs : Array UInt8} {i t : Nat} {z : Int × Int} {rest : List Int} (hb : (KBw.bInts bs).drop i = octRow z (t + 1) ++ rest) :
    ∃ c : UInt8, bs[i]? = some c ∧ (c.toNat : Int) = dg (gIt (6 * t) z) 6 + (if t = 0 then 0 else 64) ∧ (KBw.bInts bs).drop (i + 1) = octRow z t ++ rest := by
  have h1 : (KBw.bInts bs)[i]? = some (dg (gIt (6 * t) z) 6 + if t = 0 then 0 else 64) := by
    have h2 := congrArg (fun l : List Int => l[0]?) hb
    simpa [octRow, List.getElem?_drop] using h2
  have h3 : (KBw.bInts bs).drop (i + 1) = octRow z t ++ rest := by
    have h4 := congrArg (List.drop 1) hb
    rw [List.drop_drop] at h4
    simpa [octRow] using h4
  unfold KBw.bInts at h1
  rw [List.getElem?_map] at h1
  obtain ⟨c, hc, e⟩ := Option.map_eq_some_iff.mp h1
  exact ⟨c, by simpa using hc, e, h3⟩
theorem parse_spec {w : World} {A : Around} {E : Value → Shared → Prop} {s : Shared} {Q : Value → Shared → Prop} {I : Addr} {bs : Array UInt8} {tb : Tok} {i : Nat} (G : Gnd w 3 A s.heap [(I, bItO bs tb i)]) (z : Int × Int) (t : Nat) (rest : List Int)
  (ht : 1 ≤ t) (ht5 : t ≤ 5) (hb : (KBw.bInts bs).drop i = octRow z t ++ rest)
  (hret : ∀ tv h' tk', (∀ b o, b ≠ I → s.heap.get? b = some o → h'.get? b = some o) → h'.get? I = some (bItO bs tb (i + t)) → Q (.int (dg z (6 * t)) tv) { s with heap := h', toks := tk' }) :
  wpAny (model PySem.Challenge.rw_yf0006_01.row.prog w) A (call (.ref 78) [.ref I]) Q E s := by
  walk_at "mine enterN"
  rename Fr _ _ _ _ => F0
  change Fr _ _ _ (fun y => List.lookup y [(Str.ofString "iterator", Value.ref I)]) at F0
  (repeat' ( (fail_if_success (with_reducible show wpAny _ _ (pyIter _) _ _ _)); (fail_if_success (with_reducible show KswEnd _ _ _ _ _ _ _ _ _ _ _ _)); (fail_if_success (with_reducible show InvEndN _ _ _ _ _ _ _)); (fail_if_success (with_reducible show wpAny _ _ (exec (Stmt.While _ _ _ _) _) _ _ _)); (first | (k_unfold; (try dsimp only)) | (k_end; wrow_close) | (dsimp only; walk1) | walk1 | (leave1; walk_say "STEP leave1"; try dsimp only) | fail "no step")))
  obtain ⟨t', rfl⟩ : ∃ t', t = t' + 1 := ⟨t - 1, by omega⟩
  obtain ⟨c, hc, ec, hb'⟩ := oct_head hb
  have bec := Box.mk ec
  have bhb := Box.mk hb'
  have bhh := Box.mk hb
  clear hb hb' ec
  rename Fr _ _ _ _ => F1
  rename News _ _ _ _ => N1
  refine nextN F1 N1 (fun _ hp => nomatch hp) hc ?_
  intro h2 F2 N2
  clear F1 N1
  (repeat' ( (fail_if_success (with_reducible show wpAny _ _ (pyIter _) _ _ _)); (fail_if_success (with_reducible show KswEnd _ _ _ _ _ _ _ _ _ _ _ _)); (fail_if_success (with_reducible show InvEndN _ _ _ _ _ _ _)); (fail_if_success (with_reducible show wpAny _ _ (exec (Stmt.While _ _ _ _) _) _ _ _)); (first | (k_unfold; (try dsimp only)) | (k_end; wrow_close) | (dsimp only; walk1) | walk1 | (leave1; walk_say "STEP leave1"; try dsimp only) | fail "no step")))
  rename Fr _ _ _ _ => F3
  rename News _ _ _ _ => N3
  have hdb : ∀ k, 0 ≤ dg (gIt (6 * k) z) 6 ∧ dg (gIt (6 * k) z) 6 < 64 := fun k => dg_bound (gIt (6 * k) z) 6
  have hv1 : Builtin.bitAnd (c.toNat : Int) 63 = hv z t' 1 := by
    rw [bitAnd_m6, bec.out, hv, hv]
    have := hdb t'
    split <;> omega
  rw [hv1] at F3
  have bdb := Box.mk hdb
  clear hdb
  refine' ksw_while (σ := VSt) (fun c => [(I, bItO bs tb c.i)]) (fun c => [(Str.ofString "b", .int c.b c.tb), (Str.ofString "val", .int c.v c.tv)]) (fun _ => True) []
    (fun c => c.j ≤ t' ∧ c.i + c.j = i + (t' + 1) ∧ c.b = dg (gIt (6 * c.j) z) 6 + (if c.j = 0 then 0 else 64) ∧ c.v = hv z c.j (t' + 1 - c.j) ∧ (KBw.bInts bs).drop c.i = octRow z c.j ++ rest) (fun c => c.j)
    ⟨i + 1, t', (c.toNat : Int), hv z t' 1, ?tb0, ?tv0⟩ F3 N3 trivial ?hk0 ?hP0 ?turn0
  case hk0 => kst_all
  case hP0 => exact ⟨Nat.le_refl _, by show i + 1 + t' = _; omega, bec.out, by show _ = hv z t' (t' + 1 - t'); rw [show t' + 1 - t' = 1 by omega], bhb.out⟩
  clear F3 N3
  rintro ⟨i', j, b, v, tb', tv'⟩ uu h3 tk - ⟨hj, hij, hbv, hvv, hdrop⟩ F4 N4
  dsimp only at hj hij hbv hvv hdrop F4 N4
  have hb0 := bdb.out j
  have hbb : 0 ≤ b ∧ b < 128 := by rw [hbv]; split <;> omega
  have hv0 : 0 ≤ v ∧ v < 1073741824 := by
    have h5 := hv_bound z (t' + 1 - j) j
    have h6 : (64 : Int) ^ (t' + 1 - j) ≤ 64 ^ 5 := by
      have : (64 : Nat) ^ (t' + 1 - j) ≤ 64 ^ 5 := Nat.pow_le_pow_right (by decide) (by omega)
      exact_mod_cast this
    have h7 : (64 : Int) ^ 5 = 1073741824 := by decide
    rw [← hvv] at h5
    omega
  have hand : Builtin.bitAnd b 64 = if j = 0 then 0 else 64 := by
    rw [band64 hbb.1 hbb.2, hbv]
    by_cases h : j = 0
    · rw [if_pos h, if_pos (by omega)]
    · rw [if_neg h, if_neg (by omega)]
  have bbv := Box.mk hbv
  have bvv := Box.mk hvv
  have bdr := Box.mk hdrop
  clear hbv hvv hdrop
  have mk9 := kstMark
  dsimp only
  k_unmd
  k_fold
  (repeat' ( (fail_if_success (with_reducible show wpAny _ _ (pyIter _) _ _ _)); (fail_if_success (with_reducible show KswEnd _ _ _ _ _ _ _ _ _ _ _ _)); (fail_if_success (with_reducible show InvEndN _ _ _ _ _ _ _)); (fail_if_success (with_reducible show wpAny _ _ (exec (Stmt.While _ _ _ _) _) _ _ _)); (first | (k_unfold; (try dsimp only)) | (k_end; wrow_close) | (dsimp only; walk1) | walk1 | (leave1; walk_say "STEP leave1"; try dsimp only) | fail "no step")))
  · rename Builtin.bitAnd b 64 ≠ 0 => hne
    have hj0 : j ≠ 0 := fun e => hne (by rw [hand, if_pos e])
    obtain ⟨j', rfl⟩ : ∃ j', j = j' + 1 := ⟨j - 1, by omega⟩
    obtain ⟨c', hc', ec', hd'⟩ := oct_head bdr.out
    have bec' := Box.mk ec'
    have bd' := Box.mk hd'
    clear ec' hd'
    rename Fr _ _ _ _ => F5
    rename News _ _ _ _ => N5
    refine nextN F5 N5 (fun _ hp => nomatch hp) hc' ?_
    intro h6 F6 N6
    clear F5 N5
    (repeat' ( (fail_if_success (with_reducible show wpAny _ _ (pyIter _) _ _ _)); (fail_if_success (with_reducible show KswEnd _ _ _ _ _ _ _ _ _ _ _ _)); (fail_if_success (with_reducible show InvEndN _ _ _ _ _ _ _)); (fail_if_success (with_reducible show wpAny _ _ (exec (Stmt.While _ _ _ _) _) _ _ _)); (first | (k_unfold; (try dsimp only)) | (k_end; wrow_close) | (dsimp only; walk1) | walk1 | (leave1; walk_say "STEP leave1"; try dsimp only) | fail "no step")))
    rename Fr _ _ _ _ => F7
    rename News _ _ _ _ => N7
    have hb1 := bdb.out j'
    have e1 : Builtin.bitAnd (c'.toNat : Int) 63 = dg (gIt (6 * j') z) 6 := by
      rw [bitAnd_m6, bec'.out]
      split <;> omega
    have e2 : Builtin.bitOr (v * 2 ^ Int.toNat 6) (Builtin.bitAnd (c'.toNat : Int) 63) = hv z j' (t' + 1 - j') := by
      rw [e1, show (2 : Int) ^ Int.toNat 6 = 64 from by decide, bor_add hv0.1 hb1.1 hb1.2, bvv.out, show t' + 1 - j' = (t' + 1 - (j' + 1)) + 1 by omega, hv]
    rw [e2] at F7
    refine' ksw_end ⟨i' + 1, j', (c'.toNat : Int), hv z j' (t' + 1 - j'), _, _⟩ F7 N7 (by kst_in) trivial ?_ ?_ ?_ ?_
    all_goals (try kst_all)
    · intro z' h2 h3
      simp only [List.forall_mem_cons, List.not_mem_nil, false_implies, implies_true, and_true, ne_eq] at h2
      simp [kstB, h2]
    · exact ⟨by show j' ≤ t'; omega, by show i' + 1 + j' = _; omega, bec'.out, rfl, bd'.out⟩
    · show j' < j' + 1
      omega
  · rename Builtin.bitAnd b 64 = 0 => hne
    have hj0 : j = 0 := by
      rcases Nat.eq_zero_or_pos j with e | e
      · exact e
      · rw [hand, if_neg (by omega)] at hne
        cases hne
    subst hj0
    (repeat' ( (fail_if_success (with_reducible show wpAny _ _ (pyIter _) _ _ _)); (fail_if_success (with_reducible show KswEnd _ _ _ _ _ _ _ _ _ _ _ _)); (fail_if_success (with_reducible show InvEndN _ _ _ _ _ _ _)); (fail_if_success (with_reducible show wpAny _ _ (exec (Stmt.While _ _ _ _) _) _ _ _)); (first | (k_unfold; (try dsimp only)) | (k_end; wrow_close) | (dsimp only; walk1) | walk1 | (leave1; walk_say "STEP leave1"; try dsimp only) | fail "no step")))
    rename Fr _ _ _ _ => F5
    rename News _ _ _ _ => N5
    have e3 : v = dg z (6 * (t' + 1)) := by
      rw [bvv.out, show t' + 1 - 0 = t' + 1 by omega, hv_full]
    rw [← e3] at hret
    rename GSub _ _ _ => kG
    refine hret _ _ _ (fun b' o hb' e => F5.keep _ _ (kG b' o e (by simpa using hb'))) ?_
    have e4 : i' = i + (t' + 1) := by omega
    rw [← e4]
    exact (N5 _ List.mem_cons_self).1
end
section
open PySem PySem.W PySem.Calls PyProof.Rows
theorem freshL6 : True := by
  w_top off
  trivial
section
variable {w : World} {A : Around} {E : Value → Shared → Prop} {s : Shared} {Q : Value → Shared → Prop}
theorem iadd_spec (G : Gnd w 1 A s.heap []) (a b : Int) (ta tb : Tok) (hret : ∀ t h' tk', s.heap.StaysIn h' → Q (.int (a + b) t) { s with heap := h', toks := tk' }) :
    wpAny (model PySem.Challenge.rw_yf0006_01.row.prog w) A (call (.ref 35) [.int a ta, .int b tb]) Q E s := by
  walk_at "mine enter"
  rename Fr _ _ _ _ => F0
  change Fr _ _ _ (fun y => List.lookup y [(Str.ofString "b", Value.int b tb), (Str.ofString "a", Value.int a ta)]) at F0
  (repeat' ( (fail_if_success (with_reducible show wpAny _ _ (pyIter _) _ _ _)); (fail_if_success (with_reducible show KswEnd _ _ _ _ _ _ _ _ _ _ _ _)); (fail_if_success (with_reducible show InvEndN _ _ _ _ _ _ _)); (fail_if_success (with_reducible show wpAny _ _ (exec (Stmt.While _ _ _ _) _) _ _ _)); (first | (k_unfold; (try dsimp only)) | (k_end; wrow_close) | walk1 | (dsimp only; walk1) | (leave1; walk_say "STEP leave1"; try dsimp only) | fail "no step")))
  rename Fr _ _ _ _ => F1
  exact hret _ _ _ F1.keep
theorem isub_spec (G : Gnd w 1 A s.heap []) (a b : Int) (ta tb : Tok) (hret : ∀ t h' tk', s.heap.StaysIn h' → Q (.int (a - b) t) { s with heap := h', toks := tk' }) :
    wpAny (model PySem.Challenge.rw_yf0006_01.row.prog w) A (call (.ref 63) [.int a ta, .int b tb]) Q E s := by
  walk_at "mine enter"
  rename Fr _ _ _ _ => F0
  change Fr _ _ _ (fun y => List.lookup y [(Str.ofString "b", Value.int b tb), (Str.ofString "a", Value.int a ta)]) at F0
  (repeat' ( (fail_if_success (with_reducible show wpAny _ _ (pyIter _) _ _ _)); (fail_if_success (with_reducible show KswEnd _ _ _ _ _ _ _ _ _ _ _ _)); (fail_if_success (with_reducible show InvEndN _ _ _ _ _ _ _)); (fail_if_success (with_reducible show wpAny _ _ (exec (Stmt.While _ _ _ _) _) _ _ _)); (first | (k_unfold; (try dsimp only)) | (k_end; wrow_close) | walk1 | (dsimp only; walk1) | (leave1; walk_say "STEP leave1"; try dsimp only) | fail "no step")))
  rename Fr _ _ _ _ => F1
  exact hret _ _ _ F1.keep
theorem iand_spec (G : Gnd w 1 A s.heap []) (a b : Int) (ta tb : Tok) (hret : ∀ t h' tk', s.heap.StaysIn h' → Q (.int (Builtin.bitAnd a b) t) { s with heap := h', toks := tk' }) :
    wpAny (model PySem.Challenge.rw_yf0006_01.row.prog w) A (call (.ref 42) [.int a ta, .int b tb]) Q E s := by
  walk_at "mine enter"
  rename Fr _ _ _ _ => F0
  change Fr _ _ _ (fun y => List.lookup y [(Str.ofString "b", Value.int b tb), (Str.ofString "a", Value.int a ta)]) at F0
  (repeat' ( (fail_if_success (with_reducible show wpAny _ _ (pyIter _) _ _ _)); (fail_if_success (with_reducible show KswEnd _ _ _ _ _ _ _ _ _ _ _ _)); (fail_if_success (with_reducible show InvEndN _ _ _ _ _ _ _)); (fail_if_success (with_reducible show wpAny _ _ (exec (Stmt.While _ _ _ _) _) _ _ _)); (first | (k_unfold; (try dsimp only)) | (k_end; wrow_close) | walk1 | (dsimp only; walk1) | (leave1; walk_say "STEP leave1"; try dsimp only) | fail "no step")))
  rename Fr _ _ _ _ => F1
  exact hret _ _ _ F1.keep
theorem ior_spec (G : Gnd w 1 A s.heap []) (a b : Int) (ta tb : Tok) (hret : ∀ t h' tk', s.heap.StaysIn h' → Q (.int (Builtin.bitOr a b) t) { s with heap := h', toks := tk' }) :
    wpAny (model PySem.Challenge.rw_yf0006_01.row.prog w) A (call (.ref 56) [.int a ta, .int b tb]) Q E s := by
  walk_at "mine enter"
  rename Fr _ _ _ _ => F0
  change Fr _ _ _ (fun y => List.lookup y [(Str.ofString "b", Value.int b tb), (Str.ofString "a", Value.int a ta)]) at F0
  (repeat' ( (fail_if_success (with_reducible show wpAny _ _ (pyIter _) _ _ _)); (fail_if_success (with_reducible show KswEnd _ _ _ _ _ _ _ _ _ _ _ _)); (fail_if_success (with_reducible show InvEndN _ _ _ _ _ _ _)); (fail_if_success (with_reducible show wpAny _ _ (exec (Stmt.While _ _ _ _) _) _ _ _)); (first | (k_unfold; (try dsimp only)) | (k_end; wrow_close) | walk1 | (dsimp only; walk1) | (leave1; walk_say "STEP leave1"; try dsimp only) | fail "no step")))
  rename Fr _ _ _ _ => F1
  exact hret _ _ _ F1.keep
theorem ilshift_spec (G : Gnd w 1 A s.heap []) (a b : Int) (ta tb : Tok) (ha : 0 ≤ a ∧ a < 2) (hb : 0 ≤ b ∧ b < 32) (hret : ∀ t h' tk', s.heap.StaysIn h' → Q (.int (a * 2 ^ b.toNat) t) { s with heap := h', toks := tk' }) :
    wpAny (model PySem.Challenge.rw_yf0006_01.row.prog w) A (call (.ref 49) [.int a ta, .int b tb]) Q E s := by
  have mk9 := kstMark
  walk_at "mine enter"
  rename Fr _ _ _ _ => F0
  change Fr _ _ _ (fun y => List.lookup y [(Str.ofString "b", Value.int b tb), (Str.ofString "a", Value.int a ta)]) at F0
  (repeat' ( (fail_if_success (with_reducible show wpAny _ _ (pyIter _) _ _ _)); (fail_if_success (with_reducible show KswEnd _ _ _ _ _ _ _ _ _ _ _ _)); (fail_if_success (with_reducible show InvEndN _ _ _ _ _ _ _)); (fail_if_success (with_reducible show wpAny _ _ (exec (Stmt.While _ _ _ _) _) _ _ _)); (first | (k_unfold; (try dsimp only)) | (k_end; wrow_close) | walk1 | (dsimp only; walk1) | (leave1; walk_say "STEP leave1"; try dsimp only) | fail "no step")))
  rename Fr _ _ _ _ => F1
  exact hret _ _ _ F1.keep
end
end
local macro_rules | `(tactic| walk_at "call ref") => `(tactic| (k_here; (with_reducible show wpAny _ _ (call (Value.ref _) [Value.int _ _, Value.int _ _]) _ _ _); (with_unfolding_all first | refine' iadd_spec ?G9 _ _ _ _ ?_ | refine' isub_spec ?G9 _ _ _ _ ?_ | refine' iand_spec ?G9 _ _ _ _ ?_ | refine' ior_spec ?G9 _ _ _ _ ?_ | refine' ilshift_spec ?G9 _ _ _ _ (by omega) (by omega) ?_); (case G9 => walk_at "mine gnd"); walk_at "mine back"))
section
open PySem PySem.W PySem.Calls PyProof.Rows
theorem freshL7 : True := by
  w_top off
  trivial
noncomputable def crStep (st : List Int × Int) (k : Nat) : List Int × Int :=
  let bit := Builtin.bitAnd (st.1.getD k 0) 1
  let half := Int.fdiv (st.1.getD k 0 - bit) 2
  let c1 := st.1.set (k + 2) (st.1.getD (k + 2) 0 + half)
  let c2 := c1.set (k + 3) (c1.getD (k + 3) 0 + half)
  (c2, Builtin.bitOr st.2 (bit * 2 ^ k))
noncomputable def crFold (cols : List Int) : Nat → List Int × Int
  | 0 => (cols, 0)
  | k + 1 => crStep (crFold cols k) k
theorem crFold_len (cols : List Int) (k : Nat) : (crFold cols k).1.length = cols.length := by
  induction k with
  | zero => rfl
  | succ k ih => simp [crFold, crStep, ih]
structure RSt where
  vs : List Value
  ns : List Int
  ep : Nat
  mask : Int
  tm : Tok
theorem carried_spec {w : World} {A : Around} {E : Value → Shared → Prop} {s : Shared} {Q : Value → Shared → Prop} {l : Addr} {vs : List Value} {ns : List Int} {ep : Nat} (G : Gnd w 3 A s.heap [(l, listOf vs.toArray ep)])
  (hi : IntsAre vs ns) (hlen : ns.length = 35)
  (hret : ∀ t h' tk', (∀ b o, b ≠ l → s.heap.get? b = some o → h'.get? b = some o) → Q (.int (crFold ns 32).2 t) { s with heap := h', toks := tk' }) :
  wpAny (model PySem.Challenge.rw_yf0006_01.row.prog w) A (call (.ref 125) [.ref l]) Q E s := by
  walk_at "mine enterN"
  rename Fr _ _ _ _ => F0
  change Fr _ _ _ (fun y => List.lookup y [(Str.ofString "columns", Value.ref l)]) at F0
  (repeat' ( (fail_if_success (with_reducible show wpAny _ _ (pyIter _) _ _ _)); (fail_if_success (with_reducible show KswEnd _ _ _ _ _ _ _ _ _ _ _ _)); (fail_if_success (with_reducible show InvEndN _ _ _ _ _ _ _)); (fail_if_success (with_reducible show wpAny _ _ (exec (Stmt.While _ _ _ _) _) _ _ _)); (first | (k_unfold; (try dsimp only)) | (k_end; wrow_close) | (dsimp only; walk1) | walk1 | (leave1; walk_say "STEP leave1"; try dsimp only) | fail "no step")))
  rename Fr _ _ _ _ => F1
  rename News _ _ _ _ => N1
  rename IsRange _ _ _ _ _ _ _ _ => R1
  refine' kst_range (σ := RSt) (n := 32) (fun c => [(l, listOf c.vs.toArray c.ep)]) (fun c => [(Str.ofString "mask", .int c.mask c.tm)])
    (fun c => IntsAre c.vs c.ns) [Str.ofString "bit", Str.ofString "half"] (fun pre c => (c.ns, c.mask) = crFold ns pre.length) ⟨vs, ns, ep, 0, ?tm⟩ rfl R1 (by decide) (by rfl) F1 ?hn hi ?hk ?hP ?turn ?done
  case hk => kst_all
  case hP => rfl
  case hn => exact N1
  all_goals try clear F1 N1 R1
  case turn =>
    rintro ⟨us, ms, ep, mask, tm⟩ pre k t uu h tk own hk hpl hoff hf hP F2 N2
    dsimp only at hP F2 N2 hf
    have hml : ms.length = 35 := by rw [← hlen, ← crFold_len ns pre.length, ← hP]
    have hul : us.length = 35 := hf.length.trans hml
    have hk0 : 0 ≤ k ∧ k < 32 := by omega
    have hbit : 0 ≤ Builtin.bitAnd (ms.getD k.toNat 0) 1 ∧ Builtin.bitAnd (ms.getD k.toNat 0) 1 < 2 := by rw [bitAnd_m1]; omega
    have mk9 := kstMark
    simp only [List.map_cons, List.map_nil] at hoff
    simp only [List.cons_append, List.nil_append] at N2
    have bP := Box.mk hP
    clear hP
    dsimp only
    k_unmd
    k_fold
    (repeat' ( (fail_if_success (with_reducible show wpAny _ _ (pyIter _) _ _ _)); (fail_if_success (with_reducible show KswEnd _ _ _ _ _ _ _ _ _ _ _ _)); (fail_if_success (with_reducible show InvEndN _ _ _ _ _ _ _)); (fail_if_success (with_reducible show wpAny _ _ (exec (Stmt.While _ _ _ _) _) _ _ _)); (first | (k_unfold; (try dsimp only)) | (k_end; wrow_close) | (dsimp only; walk1) | walk1 | (leave1; walk_say "STEP leave1"; try dsimp only) | fail "no step")))
    rename Fr _ _ _ _ => F3
    rename News _ _ _ _ => N3
    rename IntsAre _ _ => hi3
    (try k_unfold)
    (try dsimp only [InvPostN])
    refine' kst_end ⟨_, _, _, _, _⟩ F3 N3 (by kst_in) (by intro p hp; simp [hp]) rfl hi3 ?_ ?_ ?_
    all_goals (try kst_all)
    · walk_at "mine same"
    · show (_, _) = crFold ns (pre ++ [k]).length
      rw [List.length_append, show [k].length = 1 from rfl, crFold, ← bP.out]
      have e0 : k.toNat = pre.length := by omega
      have e2 : (k + 2).toNat = pre.length + 2 := by omega
      have e3 : (k + 3).toNat = pre.length + 3 := by omega
      simp only [e0, e2, e3]
      rfl
  case done =>
    rintro ⟨us, ms, ep, mask, tm⟩ uu h tk hf hP F2 N2
    dsimp only at hP F2 N2 hf ⊢
    (repeat' ( (fail_if_success (with_reducible show wpAny _ _ (pyIter _) _ _ _)); (fail_if_success (with_reducible show KswEnd _ _ _ _ _ _ _ _ _ _ _ _)); (fail_if_success (with_reducible show InvEndN _ _ _ _ _ _ _)); (fail_if_success (with_reducible show wpAny _ _ (exec (Stmt.While _ _ _ _) _) _ _ _)); (first | (k_unfold; (try dsimp only)) | (k_end; wrow_close) | (dsimp only; walk1) | walk1 | (leave1; walk_say "STEP leave1"; try dsimp only) | fail "no step")))
    rename Fr _ _ _ _ => F3
    rename GSub _ _ _ => kG
    have hm : (crFold ns 32).2 = mask := by rw [show 32 = (rangeKs 0 32).length from rfl, ← hP]
    rw [hm] at hret
    exact hret _ _ _ (fun b' o hb' e => F3.keep _ _ (kG b' o e (by simpa using hb')))
end
section
open PySem PySem.W PySem.Calls PyProof.Rows
theorem freshL8 : True := by
  w_top off
  trivial
local macro_rules | `(tactic| walk_at "exec For Name BinOp cons nil") => `(tactic| (k_here; (rename Fr _ _ _ _ => lF'); (with_unfolding_all refine' For_invVF lF' ?k1 ?k2 ?_; (case k1 => exact rfl); (case k2 => exact rfl); k_whole)))
noncomputable def bump (c : List Int) (p : Int) : List Int := c.set p.toNat (c.getD p.toNat 0 + 1)
noncomputable def bumps (ps : List Int) : List Int := ps.foldl bump (List.replicate 35 0)
theorem bumps_len (ps : List Int) : (bumps ps).length = 35 := by
  unfold bumps
  suffices h : ∀ c : List Int, (ps.foldl bump c).length = c.length by rw [h]; simp
  induction ps with
  | nil => intro c; rfl
  | cons p r ih => intro c; rw [List.foldl_cons, ih]; simp [bump]
structure BSt where
  vs : List Value
  ns : List Int
  ep : Nat
theorem sum_spec {w : World} {A : Around} {E : Value → Shared → Prop} {s : Shared} {Q : Value → Shared → Prop} (G : Gnd w 5 A s.heap []) {l₁ l₂ : Addr} {vs₁ vs₂ : List Value} {ns₁ ns₂ : List Int}
  (hl₁ : s.heap.IsList l₁ vs₁.toArray) (hi₁ : IntsAre vs₁ ns₁) (hl₂ : s.heap.IsList l₂ vs₂.toArray) (hi₂ : IntsAre vs₂ ns₂)
  (hn₁ : ns₁.length ≤ 32) (hn₂ : ns₂.length ≤ 32) (hr : ∀ n ∈ ns₁ ++ ns₂, 0 ≤ n ∧ n < 32)
  (hret : ∀ t h' tk', s.heap.StaysIn h' → Q (.int (crFold (bumps (ns₁ ++ ns₂)) 32).2 t) { s with heap := h', toks := tk' }) :
  wpAny (model PySem.Challenge.rw_yf0006_01.row.prog w) A (call (.ref 132) [.ref l₁, .ref l₂]) Q E s := by
  have e₁ := hi₁.length
  have e₂ := hi₂.length
  have mk9 := kstMark
  walk_at "mine enter"
  rename Fr _ _ _ _ => F0
  change Fr _ _ _ (fun y => List.lookup y [(Str.ofString "other", Value.ref l₂), (Str.ofString "one", Value.ref l₁)]) at F0
  (repeat' ( (fail_if_success (with_reducible show wpAny _ _ (pyIter _) _ _ _)); (fail_if_success (with_reducible show KswEnd _ _ _ _ _ _ _ _ _ _ _ _)); (fail_if_success (with_reducible show InvEndN _ _ _ _ _ _ _)); (fail_if_success (with_reducible show wpAny _ _ (exec (Stmt.While _ _ _ _) _) _ _ _)); (first | (k_unfold; (try dsimp only)) | (k_end; wrow_close) | (dsimp only; walk1) | walk1 | (leave1; walk_say "STEP leave1"; try dsimp only) | fail "no step")))
  rename_i Dc _ i1 _ _ _ _ _ _ _ Dl W _ F1 N1 hI _
  rw [show (List.replicate (Int.toNat 35) [(0 : Int)]).flatten = List.replicate 35 0 from by decide] at i1
  have hbr := Box.mk hr
  refine' kst_listL (σ := BSt) (fun c => [(Dl, listOf W.toArray 0), (Dc, listOf c.vs.toArray c.ep)]) (fun _ => []) (fun c => IntsAre c.vs c.ns) []
    (fun pre c => c.ns = bumps pre) ⟨_, List.replicate 35 0, 0⟩ ?hh9 (fun _ => List.mem_cons_self) hI ?hF9 ?hn i1 (fun _ hp => nomatch hp) rfl ?turn ?done
  case hh9 => rfl
  case hF9 => exact F1
  case hn => exact fun p hp => N1 p (by rcases List.mem_cons.mp hp with rfl | hp; exact List.mem_cons_self; rw [List.mem_singleton.mp hp]; exact List.mem_cons_of_mem _ List.mem_cons_self)
  case turn =>
    clear F1 N1
    rintro ⟨us, ms, ep⟩ pre post n tn uu h tk own hpp hmem hoff hf hP F2 N2
    dsimp only at hP F2 N2 hf
    have hml : ms.length = 35 := by rw [hP, bumps_len]
    have hul : us.length = 35 := hf.length.trans hml
    have hn0 := hbr.out n hmem
    simp only [List.map_cons, List.map_nil] at hoff
    simp only [List.cons_append, List.nil_append] at N2
    have bP := Box.mk hP
    clear hP hr
    dsimp only
    k_unmd
    k_fold
    (repeat' ( (fail_if_success (with_reducible show wpAny _ _ (pyIter _) _ _ _)); (fail_if_success (with_reducible show KswEnd _ _ _ _ _ _ _ _ _ _ _ _)); (fail_if_success (with_reducible show InvEndN _ _ _ _ _ _ _)); (fail_if_success (with_reducible show wpAny _ _ (exec (Stmt.While _ _ _ _) _) _ _ _)); (first | (k_unfold; (try dsimp only)) | (k_end; wrow_close) | (dsimp only; walk1) | walk1 | (leave1; walk_say "STEP leave1"; try dsimp only) | fail "no step")))
    rename Fr _ _ _ _ => F3
    rename News _ _ _ _ => N3
    rename IntsAre _ _ => hi3
    (try k_unfold)
    (try dsimp only [InvPostN])
    refine' kst_end ⟨_, _, _⟩ F3 N3 (by kst_in) (by intro p hp; simp [hp]) rfl hi3 ?_ ?_ ?_
    all_goals (try kst_all)
    · walk_at "mine same"
    · show _ = bumps (pre ++ [n])
      rw [bumps, List.foldl_append, ← bumps, ← bP.out]
      rfl
  case done =>
    clear F1 N1 i1
    rintro ⟨us, ms, ep⟩ uu h tk hf hP F2 N2
    dsimp only at hP F2 N2 hf ⊢
    have hml : ms.length = 35 := by rw [hP, bumps_len]
    (repeat' ( (fail_if_success (with_reducible show wpAny _ _ (pyIter _) _ _ _)); (fail_if_success (with_reducible show KswEnd _ _ _ _ _ _ _ _ _ _ _ _)); (fail_if_success (with_reducible show InvEndN _ _ _ _ _ _ _)); (fail_if_success (with_reducible show wpAny _ _ (exec (Stmt.While _ _ _ _) _) _ _ _)); (first | (k_unfold; (try dsimp only)) | (k_end; wrow_close) | (dsimp only; walk1) | walk1 | (leave1; walk_say "STEP leave1"; try dsimp only) | fail "no step")))
    rename Fr _ _ _ _ => F3
    rename News _ _ _ _ => N3
    have Nc : News _ _ h [(Dc, listOf us.toArray ep)] := fun p hp => N3 p (by rw [List.mem_singleton.mp hp]; simp)
    with_unfolding_all refine' carried_spec (Gnd.intro ?gB F3 ?gX Nc ?gT rfl rfl ?gd ?gu) hf hml ?gr
    case gB => k_asm
    case gX => k_asm
    case gT => k_asm
    case gd => dsimp only; omega
    case gu => dsimp only; omega
    case gr =>
      intro t h' tk' hkeep
      rw [← hP] at hret
      refine hret _ _ _ fun b o e => hkeep b o ?_ (F3.keep b o e)
      rintro rfl
      rw [(Nc _ List.mem_cons_self).2.2] at e
      cases e
end
section
open PySem PySem.W PySem.Calls PyProof.Rows
theorem freshL9 : True := by
  w_top off
  trivial
local macro_rules | `(tactic| walk_at "mine pad0") => `(tactic| skip)
local macro_rules | `(tactic| walk_at "exec For Name Name cons nil") => `(tactic| (k_here; (rename Fr _ _ _ _ => lF'); (with_unfolding_all refine' For_invVF lF' ?k1 ?k2 ?_; (case k1 => exact rfl); (case k2 => exact rfl); k_whole)))
noncomputable def pump (p : Int) (c : List Int) (q : Int) : List Int := if p + q < 32 then bump c (p + q) else c
noncomputable def pumps (ps qs : List Int) : List Int := ps.foldl (fun c p => qs.foldl (pump p) c) (List.replicate 35 0)
theorem pump_fold_len (p : Int) (qs : List Int) : ∀ c : List Int, (qs.foldl (pump p) c).length = c.length := by
  induction qs with
  | nil => intro c; rfl
  | cons q r ih => intro c; rw [List.foldl_cons, ih]; unfold pump; split <;> simp [bump]
theorem pumps_len (ps qs : List Int) : (pumps ps qs).length = 35 := by
  unfold pumps
  suffices h : ∀ c : List Int, (ps.foldl (fun c p => qs.foldl (pump p) c) c).length = c.length by rw [h]; simp
  induction ps with
  | nil => intro c; rfl
  | cons p r ih => intro c; rw [List.foldl_cons, ih, pump_fold_len]
theorem product_spec {w : World} {A : Around} {E : Value → Shared → Prop} {s : Shared} {Q : Value → Shared → Prop} (G : Gnd w 5 A s.heap []) {l₁ l₂ : Addr} {vs₁ vs₂ : List Value} {ns₁ ns₂ : List Int}
  (hl₁ : s.heap.IsList l₁ vs₁.toArray) (hi₁ : IntsAre vs₁ ns₁) (hl₂ : s.heap.IsList l₂ vs₂.toArray) (hi₂ : IntsAre vs₂ ns₂)
  (hn₁ : ns₁.length ≤ 32) (hn₂ : ns₂.length ≤ 32) (hr₁ : ∀ n ∈ ns₁, 0 ≤ n ∧ n < 32) (hr₂ : ∀ n ∈ ns₂, 0 ≤ n ∧ n < 32)
  (hret : ∀ t h' tk', s.heap.StaysIn h' → Q (.int (crFold (pumps ns₁ ns₂) 32).2 t) { s with heap := h', toks := tk' }) :
  wpAny (model PySem.Challenge.rw_yf0006_01.row.prog w) A (call (.ref 139) [.ref l₁, .ref l₂]) Q E s := by
  have e₁ := hi₁.length
  have e₂ := hi₂.length
  have mk9 := kstMark
  have b₁ := Box.mk hr₁
  have b₂ := Box.mk hr₂
  clear hr₁ hr₂
  walk_at "mine enter"
  rename Fr _ _ _ _ => F0
  change Fr _ _ _ (fun y => List.lookup y [(Str.ofString "other", Value.ref l₂), (Str.ofString "one", Value.ref l₁)]) at F0
  (repeat' ( (fail_if_success (with_reducible show wpAny _ _ (pyIter _) _ _ _)); (fail_if_success (with_reducible show KswEnd _ _ _ _ _ _ _ _ _ _ _ _)); (fail_if_success (with_reducible show InvEndN _ _ _ _ _ _ _)); (fail_if_success (with_reducible show wpAny _ _ (exec (Stmt.While _ _ _ _) _) _ _ _)); (first | (k_unfold; (try dsimp only)) | (k_end; wrow_close) | (dsimp only; walk1) | walk1 | (leave1; walk_say "STEP leave1"; try dsimp only) | fail "no step")))
  rename_i Dc _ i1 _ _ _ _ _ _ _ F1 N1
  rw [show (List.replicate (Int.toNat 35) [(0 : Int)]).flatten = List.replicate 35 0 from by decide] at i1
  refine' kst_list (σ := BSt) (fun c => [(Dc, listOf c.vs.toArray c.ep)]) (fun _ => []) (fun c => IntsAre c.vs c.ns) [Str.ofString "further"]
    (fun pre c => c.ns = pumps pre ns₂) ⟨_, List.replicate 35 0, 0⟩ rfl hl₁ hi₁ F1 ?hn i1 (fun _ hp => nomatch hp) rfl ?turn ?done
  case hn => exact fun p hp => N1 p (by rw [List.mem_singleton.mp hp]; exact List.mem_cons_self)
  case turn =>
    clear F1 N1
    rintro ⟨us, ms, ep⟩ pre post n tn uu h tk own hpp hmem hoff hf hP F2 N2
    dsimp only at hP F2 N2 hf
    have hml : ms.length = 35 := by rw [hP, pumps_len]
    have hul : us.length = 35 := hf.length.trans hml
    have hn0 := b₁.out n hmem
    simp only [List.map_cons, List.map_nil] at hoff
    simp only [List.cons_append, List.nil_append] at N2
    have bP := Box.mk hP
    clear hP
    dsimp only
    k_unmd
    k_fold
    (repeat' ( (fail_if_success (with_reducible show wpAny _ _ (pyIter _) _ _ _)); (fail_if_success (with_reducible show KswEnd _ _ _ _ _ _ _ _ _ _ _ _)); (fail_if_success (with_reducible show InvEndN _ _ _ _ _ _ _)); (fail_if_success (with_reducible show wpAny _ _ (exec (Stmt.While _ _ _ _) _) _ _ _)); (first | (k_unfold; (try dsimp only)) | (k_end; wrow_close) | (dsimp only; walk1) | walk1 | (leave1; walk_say "STEP leave1"; try dsimp only) | fail "no step")))
    rename Fr _ _ _ _ => F3
    rename News _ _ _ _ => N3
    refine' kst_list (σ := BSt) (fun c => (Dc, listOf c.vs.toArray c.ep) :: own) (fun _ => []) (fun c => IntsAre c.vs c.ns) []
      (fun pre2 c => c.ns = pre2.foldl (pump n) ms) ⟨us, ms, ep⟩ rfl hl₂ hi₂ F3 N3 hf (fun _ hp => nomatch hp) rfl ?turn2 ?done2
    case turn2 =>
      clear F3 N3
      rintro ⟨us2, ms2, ep2⟩ pre2 post2 n2 tn2 uu2 h2 tk2 own2 hpp2 hmem2 hoff2 hf2 hP2 F4 N4
      dsimp only at hP2 F4 N4 hf2
      have hml2 : ms2.length = 35 := by rw [hP2, pump_fold_len, hml]
      have hul2 : us2.length = 35 := hf2.length.trans hml2
      have hn2 := b₂.out n2 hmem2
      simp only [List.map_cons] at hoff2
      have hoff3 : OwnOff (own ++ own2) [Dc] := by
        intro p hp b hb
        rcases List.mem_append.mp hp with hp | hp
        · exact hoff p hp b hb
        · exact hoff2 p hp b (by rw [List.mem_singleton.mp hb]; exact List.mem_cons_self)
      simp only [List.cons_append] at N4
      obtain ⟨own3, e3⟩ : ∃ o3, o3 = own ++ own2 := ⟨_, rfl⟩
      rw [← e3] at N4 hoff3
      have be3 := Box.mk e3
      have bP2 := Box.mk hP2
      clear hP2 e3 hoff hoff2
      dsimp only
      k_unmd
      k_fold
      (repeat' ( (fail_if_success (with_reducible show wpAny _ _ (pyIter _) _ _ _)); (fail_if_success (with_reducible show KswEnd _ _ _ _ _ _ _ _ _ _ _ _)); (fail_if_success (with_reducible show InvEndN _ _ _ _ _ _ _)); (fail_if_success (with_reducible show wpAny _ _ (exec (Stmt.While _ _ _ _) _) _ _ _)); (first | (k_unfold; (try dsimp only)) | (k_end; wrow_close) | (dsimp only; walk1) | walk1 | (leave1; walk_say "STEP leave1"; try dsimp only) | fail "no step")))
      · rename Fr _ _ _ _ => F5
        rename News _ _ _ _ => N5
        rename IntsAre _ _ => hi3
        (try k_unfold)
        (try dsimp only [InvPostN])
        refine' kst_end ⟨_, _, _⟩ F5 N5 ?_ ?_ rfl hi3 ?_ ?_ ?_
        all_goals (try kst_all)
        · intro p hp
          rcases List.mem_cons.mp hp with rfl | hp
          · exact List.mem_cons_self
          · exact List.mem_cons_of_mem _ (by rw [be3.out]; exact List.mem_append_left _ hp)
        · intro p hp
          exact List.mem_cons_of_mem _ (by rw [be3.out]; exact List.mem_append_right _ hp)
        · walk_at "mine same"
        · show _ = (pre2 ++ [n2]).foldl (pump n) ms
          rw [List.foldl_append, ← bP2.out]
          show _ = pump n ms2 n2
          rw [pump, if_pos (by assumption)]
          rfl
      · rename Fr _ _ _ _ => F5
        rename News _ _ _ _ => N5
        (try k_unfold)
        (try dsimp only [InvPostN])
        refine' kst_end ⟨_, _, _⟩ F5 N5 ?_ ?_ rfl hf2 ?_ ?_ ?_
        all_goals (try kst_all)
        · intro p hp
          rcases List.mem_cons.mp hp with rfl | hp
          · exact List.mem_cons_self
          · exact List.mem_cons_of_mem _ (by rw [be3.out]; exact List.mem_append_left _ hp)
        · intro p hp
          exact List.mem_cons_of_mem _ (by rw [be3.out]; exact List.mem_append_right _ hp)
        · walk_at "mine same"
        · show _ = (pre2 ++ [n2]).foldl (pump n) ms
          rw [List.foldl_append, ← bP2.out]
          show _ = pump n ms2 n2
          rw [pump, if_neg (by first | assumption | omega)]
    case done2 =>
      clear F3 N3
      rintro ⟨us2, ms2, ep2⟩ uu2 h2 tk2 hf2 hP2 F4 N4
      dsimp only at hP2 F4 N4 hf2
      dsimp only
      have bP2 := Box.mk hP2
      clear hP2
      (repeat' ( (fail_if_success (with_reducible show wpAny _ _ (pyIter _) _ _ _)); (fail_if_success (with_reducible show KswEnd _ _ _ _ _ _ _ _ _ _ _ _)); (fail_if_success (with_reducible show InvEndN _ _ _ _ _ _ _)); (fail_if_success (with_reducible show wpAny _ _ (exec (Stmt.While _ _ _ _) _) _ _ _)); (first | (k_unfold; (try dsimp only)) | (k_end; wrow_close) | (dsimp only; walk1) | walk1 | (leave1; walk_say "STEP leave1"; try dsimp only) | fail "no step")))
      rename Fr _ _ _ _ => F5
      rename News _ _ _ _ => N5
      (try k_unfold)
      (try dsimp only [InvPostN])
      refine' kst_end ⟨us2, ms2, ep2⟩ F5 N5 ?_ ?_ rfl hf2 ?_ ?_ ?_
      all_goals (try kst_all)
      · intro p hp
        rw [List.mem_singleton.mp hp]
        exact List.mem_cons_self
      · intro p hp
        exact List.mem_cons_of_mem _ hp
      · intro z h1 h2 h3
        simp only [List.contains_cons, List.contains_nil, Bool.or_false, Bool.or_eq_false_iff, beq_eq_false_iff_ne, ne_eq] at h3
        simp [kstB, h1, h3]
      · show _ = pumps (pre ++ [n]) ns₂
        rw [pumps, List.foldl_append, ← pumps, ← bP.out, bP2.out]
        rfl
  case done =>
    clear F1 N1 i1
    rintro ⟨us, ms, ep⟩ uu h tk hf hP F2 N2
    dsimp only at hP F2 N2 hf ⊢
    have hml : ms.length = 35 := by rw [hP, pumps_len]
    (repeat' ( (fail_if_success (with_reducible show wpAny _ _ (pyIter _) _ _ _)); (fail_if_success (with_reducible show KswEnd _ _ _ _ _ _ _ _ _ _ _ _)); (fail_if_success (with_reducible show InvEndN _ _ _ _ _ _ _)); (fail_if_success (with_reducible show wpAny _ _ (exec (Stmt.While _ _ _ _) _) _ _ _)); (first | (k_unfold; (try dsimp only)) | (k_end; wrow_close) | (dsimp only; walk1) | walk1 | (leave1; walk_say "STEP leave1"; try dsimp only) | fail "no step")))
    rename Fr _ _ _ _ => F3
    rename News _ _ _ _ => N3
    have Nc : News _ _ h [(Dc, listOf us.toArray ep)] := fun p hp => N3 p (by rw [List.mem_singleton.mp hp]; simp)
    with_unfolding_all refine' carried_spec (Gnd.intro ?gB F3 ?gX Nc ?gT rfl rfl ?gd ?gu) hf hml ?gr
    case gB => k_asm
    case gX => k_asm
    case gT => k_asm
    case gd => dsimp only; omega
    case gu => dsimp only; omega
    case gr =>
      intro t h' tk' hkeep
      rw [← hP] at hret
      refine hret _ _ _ fun b o e => hkeep b o ?_ (F3.keep b o e)
      rintro rfl
      rw [(Nc _ List.mem_cons_self).2.2] at e
      cases e
end
section
open PySem PySem.W PySem.Calls PyProof.Rows
theorem freshL10 : True := by
  w_top off
  trivial
local macro_rules | `(tactic| walk_at "exec For Name Call cons nil") => `(tactic| (k_here; (rename Fr _ _ _ _ => lF'); (with_unfolding_all refine' For_invVF lF' ?k1 ?k2 ?_; (case k1 => exact rfl); (case k2 => exact rfl); k_whole)))
structure CSt where
  vs : List Value
  ns : List Int
  ep : Nat
theorem cells_spec {w : World} {A : Around} {E : Value → Shared → Prop} {s : Shared} {Q : Value → Shared → Prop} (G : Gnd w 3 A s.heap []) {l : Addr} {vs : List Value} {ns : List Int}
  (hl : s.heap.IsList l vs.toArray) (hi : IntsAre vs ns) (hn : ns.length ≤ 63)
  (hret : ∀ (D : Addr) (ws : List Value) (ms : List Int) ep h' tk', s.heap.StaysIn h' → s.heap.get? D = none → h'.get? D = some (listOf ws.toArray ep) → IntsAre ws ms → ms.length = 4 → Q (.ref D) { s with heap := h', toks := tk' }) :
  wpAny (model PySem.Challenge.rw_yf0006_01.row.prog w) A (call (.ref 92) [.ref l]) Q E s := by
  have e₁ := hi.length
  have mk9 := kstMark
  walk_at "mine enter"
  rename Fr _ _ _ _ => F0
  change Fr _ _ _ (fun y => List.lookup y [(Str.ofString "script", Value.ref l)]) at F0
  (repeat' ( (fail_if_success (with_reducible show wpAny _ _ (pyIter _) _ _ _)); (fail_if_success (with_reducible show KswEnd _ _ _ _ _ _ _ _ _ _ _ _)); (fail_if_success (with_reducible show InvEndN _ _ _ _ _ _ _)); (fail_if_success (with_reducible show wpAny _ _ (exec (Stmt.While _ _ _ _) _) _ _ _)); (first | (k_unfold; (try dsimp only)) | (k_end; wrow_close) | (dsimp only; walk1) | walk1 | (leave1; walk_say "STEP leave1"; try dsimp only) | fail "no step")))
  rename Fr _ _ _ _ => F1
  rename News _ _ _ _ => N1
  rename IsRange _ _ _ _ _ _ _ _ => R1
  obtain ⟨n, hnn, hnl, hn60⟩ : ∃ n : Nat, (if 60 < (ns.length : Int) then (60 : Int) else (ns.length : Int)) = (n : Int) ∧ n ≤ ns.length ∧ n ≤ 60 := by
    by_cases h : 60 < (ns.length : Int)
    · exact ⟨60, by rw [if_pos h]; rfl, by omega, by omega⟩
    · exact ⟨ns.length, by rw [if_neg h], by omega, by omega⟩
  rw [hnn] at R1
  refine' kst_range (σ := CSt) (n := n) (fun c => [(_, listOf c.vs.toArray c.ep)]) (fun _ => [])
    (fun c => IntsAre c.vs c.ns) [] (fun pre c => c.ns.length = 4) ⟨[.int 23 _, .int 19 _, .int 46 _, .int 43 _], [23, 19, 46, 43], 0⟩ rfl R1 ?hs ?hz F1 N1 ?hf (fun _ hp => nomatch hp) rfl ?turn ?done
  case hs => exact small_one (by omega) (by omega) (by omega) (by omega)
  case hz => first | exact rangeSize_nat _ _ | (have := rangeSize_nat 0 n; simpa using this)
  case hf => exact .cons _ _ (.cons _ _ (.cons _ _ (.cons _ _ .nil)))
  case turn =>
    clear F1 N1 R1
    rintro ⟨us, ms, ep⟩ pre k t uu h tk own hk hpl hoff hf hml F2 N2
    dsimp only at hml F2 N2 hf
    have hul : us.length = 4 := hf.length.trans hml
    have hk0 : 0 ≤ k ∧ k < (ns.length : Int) := by omega
    have hk4 : 0 ≤ Int.fmod k 4 ∧ Int.fmod k 4 < 4 := by rw [Int.fmod_eq_emod_of_nonneg _ (by decide)]; omega
    simp only [List.map_cons, List.map_nil] at hoff
    simp only [List.cons_append, List.nil_append] at N2
    dsimp only
    k_unmd
    k_fold
    (repeat' ( (fail_if_success (with_reducible show wpAny _ _ (pyIter _) _ _ _)); (fail_if_success (with_reducible show KswEnd _ _ _ _ _ _ _ _ _ _ _ _)); (fail_if_success (with_reducible show InvEndN _ _ _ _ _ _ _)); (fail_if_success (with_reducible show wpAny _ _ (exec (Stmt.While _ _ _ _) _) _ _ _)); (first | (k_unfold; (try dsimp only)) | (k_end; wrow_close) | (dsimp only; walk1) | walk1 | (leave1; walk_say "STEP leave1"; try dsimp only) | fail "no step")))
    rename Fr _ _ _ _ => F3
    rename News _ _ _ _ => N3
    rename IntsAre _ _ => hi3
    (try k_unfold)
    (try dsimp only [InvPostN])
    refine' kst_end ⟨_, _, _⟩ F3 N3 (by kst_in) (by intro p hp; simp [hp]) rfl hi3 ?_ ?_ ?_
    all_goals (try kst_all)
    · walk_at "mine same"
    · simp [hml]
  case done =>
    clear F1 N1 R1
    rintro ⟨us, ms, ep⟩ uu h tk hf hml F2 N2
    dsimp only at hml F2 N2 hf ⊢
    (repeat' ( (fail_if_success (with_reducible show wpAny _ _ (pyIter _) _ _ _)); (fail_if_success (with_reducible show KswEnd _ _ _ _ _ _ _ _ _ _ _ _)); (fail_if_success (with_reducible show InvEndN _ _ _ _ _ _ _)); (fail_if_success (with_reducible show wpAny _ _ (exec (Stmt.While _ _ _ _) _) _ _ _)); (first | (k_unfold; (try dsimp only)) | (k_end; wrow_close) | (dsimp only; walk1) | walk1 | (leave1; walk_say "STEP leave1"; try dsimp only) | fail "no step")))
    rename Fr _ _ _ _ => F3
    rename News _ _ _ _ => N3
    exact hret _ _ _ _ _ _ F3.keep (N3 _ List.mem_cons_self).2.2 (N3 _ List.mem_cons_self).1 hf hml
end
section
open PySem PySem.W PySem.Calls PyProof.Rows
theorem freshR2 : True := by
  w_top off
  trivial
section
variable {prog : Program} {w : World} {A : Around} {E : Value → Shared → Prop} {Q : Flow → Shared → Prop} {s : Shared} {env : Env} {h₀ : Heap}
/-- a for over an iterator at I that is the only object a step writes; with an else part -/
theorem loop_else {n0 : Nat} {x : Str} {px : Pos} {body orelse : List Stmt} {I : Addr} {n : Nat} {P : Nat → Value → Prop} {St : Nat → Heap → Prop} {m : Str → Option Value} {news : List (Addr × Obj)}
    (W : Walks prog w A I [I] [I] n P St) (hlive : ∀ i h, St i h → ∃ o, h.get? I = some o) (hx : env.kindOf x = some .local)
    (hp : (env.scope.kind == .class || (env.scope.kind == .module && env.locals != env.globals)) = false)
    (hLI : env.locals ≠ I) (hI₀ : h₀.get? I = none) (hnI : ∀ p ∈ news, p.1 ≠ I) (st : St 0 s.heap) (F : Fr h₀ env.locals s.heap m) (N : News h₀ env.locals s.heap news)
    (J : Nat → (Str → Option Value) → List (Addr × Obj) → Prop) (h0 : J 0 m news)
    (turn : ∀ i v m₁ nx h tk own, n0 ≤ tk → i < n → P i v → OwnOff own (news.map (·.1)) → J i m₁ nx → Fr h₀ env.locals h (fun y => if y = x then some v else m₁ y) → News h₀ env.locals h (nx ++ own) →
      wpAny (model prog w) A (execs body env) (InvPostN h₀ env.locals (J (i + 1)) own (news.map (·.1)) { s with heap := h, toks := tk } Q) E { s with heap := h, toks := tk })
    (done : ∀ m₁ nx h tk, n0 ≤ tk → J n m₁ nx → Fr h₀ env.locals h m₁ → News h₀ env.locals h nx → wpAny (model prog w) A (execs orelse env) Q E { s with heap := h, toks := tk })
    (hE : PassesOwn (model prog w) A env E) (hn0 : n0 ≤ s.toks) :
    codeAny (model prog w) A (.forLoop (.Name x px) (.ref I) body orelse env) (fun r s' => match r with | .ok f => Q f s' | .error e => cameBackBy (model prog w) A env E e s') s := by
  have offI : ∀ nx : List (Addr × Obj), nx.map (·.1) = news.map (·.1) → ∀ p ∈ nx, p.1 ≠ I := fun nx e p hp hI => by
    have h1 : p.1 ∈ news.map (·.1) := e ▸ List.mem_map_of_mem hp
    obtain ⟨q, hq, e1⟩ := List.mem_map.mp h1
    exact hnI q hq (e1.trans hI)
  have keepG : ∀ b o, h₀.get? b = some o → b ≠ I := fun b o e q => by rw [q, hI₀] at e; cases e
  refine codeAny_forLoop
    (fun k s' => ∃ h' tk m' nx i, s' = { s with heap := h', toks := tk } ∧ n0 ≤ tk ∧ St i h' ∧ Fr h₀ env.locals h' m' ∧ News h₀ env.locals h' nx ∧ nx.map (·.1) = news.map (·.1) ∧ J i m' nx ∧ i ≤ n ∧ k = n + 1 - i) ?_ (n + 1)
    ⟨s.heap, s.toks, m, news, 0, rfl, hn0, st, F, N, rfl, h0, Nat.zero_le _, rfl⟩
  rintro k s' ⟨h', tk, m', nx, i, rfl, htk, st', F', N', hadr, hJ, hi, rfl⟩
  have step : ∀ h₁ : Heap, (∀ b o, b ∉ [I] → h'.get? b = some o → h₁.get? b = some o) → Fr h₀ env.locals h₁ m' ∧ News h₀ env.locals h₁ nx := fun h₁ hk =>
    ⟨⟨F'.ns.at' fun o e => hk _ o (by simpa using hLI) e, fun b o e => hk b o (by simpa using keepG b o e) (F'.keep b o e), F'.above⟩,
      fun p hp => ⟨hk _ _ (by simpa using offI nx hadr p hp) (N' p hp).1, (N' p hp).2⟩⟩
  rcases Nat.lt_or_ge i n with hlt | hge
  · refine wpAny_with_toks (n := n0) htk (W.item i _ _ _ hlt st' fun v h₁ tk₁ hP st₁ hk₁ htk₁ => ?_)
    obtain ⟨F₁, N₁⟩ := step h₁ hk₁
    refine wpAny_assign_Name (wpAny_storeName_local hx F₁.ns (fun h₂ hn₂ hs₂ => ?_) hp)
    have F₂ := F₁.set hn₂ hs₂
    have N₂ := N₁.set hs₂
    have st₂ : St (i + 1) h₂ := W.frame _ _ _ st₁ fun b hb o e => (hs₂.2 b fun q => hLI (by rw [← q]; exact List.mem_singleton.mp hb)).trans e
    obtain ⟨oI, eI⟩ := hlive _ _ st₂
    have NI : News h₀ env.locals h₂ (nx ++ [(I, oI)]) := fun p hp => by
      rcases List.mem_append.mp hp with hp | hp
      · exact N₂ p hp
      · rw [List.mem_singleton.mp hp]
        exact ⟨eI, fun q => hLI q.symm, hI₀⟩
    have off : OwnOff [(I, oI)] (news.map (·.1)) := fun p hp b hb e => by
      rw [List.mem_singleton.mp hp] at e
      obtain ⟨q, hq, e1⟩ := List.mem_map.mp hb
      exact hnI q hq (e1.trans e.symm)
    refine wpAny_mono (wpAny_toks_of (n := n0) (Nat.le_succ_of_le htk₁) (wpAny_passesOwn hE (turn i v m' nx h₂ (tk₁ + 1) [(I, oI)] (Nat.le_succ_of_le htk₁) hlt hP off hJ F₂ NI))) (fun f s₃ h₃ => ?_) fun _ _ e => e.2
    obtain ⟨htk₃, h₃⟩ := h₃
    have back : InvEndN h₀ env.locals (J (i + 1)) [(I, oI)] (news.map (·.1)) { s with heap := h₂, toks := tk₁ + 1 } s₃ → n0 ≤ s₃.toks →
        ∃ m_1, m_1 < n + 1 - i ∧ ∃ h' tk m' nx i, s₃ = { s with heap := h', toks := tk } ∧ n0 ≤ tk ∧ St i h' ∧ Fr h₀ env.locals h' m' ∧ News h₀ env.locals h' nx ∧ nx.map (·.1) = news.map (·.1) ∧ J i m' nx ∧ i ≤ n ∧ m_1 = n + 1 - i := by
      rintro ⟨h₄, tk₄, m₄, news₄, nx₄, rfl, F₄, N₄, hn₄, ho₄, ha₄, hJ₄⟩ htk₄
      have eI₄ : h₄.get? I = some oI := (N₄ _ (ho₄ _ List.mem_cons_self)).1
      refine ⟨n + 1 - (i + 1), by omega, h₄, tk₄, m₄, nx₄, i + 1, rfl, htk₄, W.frame _ _ _ st₂ fun b hb o e => ?_, F₄, fun p hp => N₄ p (hn₄ p hp), ha₄, hJ₄, hlt, rfl⟩
      rw [List.mem_singleton.mp hb] at e ⊢
      rw [eI₄, ← eI, e]
    cases f with
    | ret v => exact h₃
    | brk => exact h₃
    | next => exact back h₃ htk₃
    | cont => exact back h₃ htk₃
  · obtain rfl : i = n := Nat.le_antisymm hi hge
    refine wpAny_with_toks (n := n0) htk (W.done _ _ _ st' fun h₁ tk₁ hk₁ htk₁ => ?_)
    obtain ⟨F₁, N₁⟩ := step h₁ hk₁
    exact wpAny_passesOwn hE (done m' nx h₁ tk₁ htk₁ hJ F₁ N₁)
theorem range_else {n0 : Nat} (hn0 : n0 ≤ s.toks) {σ : Type} {x : Str} {px : Pos} {body orelse : List Stmt} {r : Addr} {b₀ : Int} {t₀ u₀ v₀ : Tok} {n : Nat} {m₀ : Str → Option Value} (Led : σ → List (Addr × Obj)) (ps : σ → List (Str × Value)) (Facts : σ → Prop) (stored : List Str) (P : Nat → σ → Prop) (c₀ : σ)
    (hh : A.handled = none) (hr : IsRange s.heap r 0 b₀ 1 t₀ u₀ v₀) (hsmall : Builtin.Range.small 0 b₀ 1 = true) (hn : Builtin.Range.rangeSize 0 b₀ 1 = (n : Int)) (hx : env.kindOf x = some .local)
    (hp : (env.scope.kind == .class || (env.scope.kind == .module && env.locals != env.globals)) = false)
    (F : Fr h₀ env.locals s.heap m₀) (N : News h₀ env.locals s.heap (Led c₀)) (hf : Facts c₀) (hk : ∀ p ∈ ps c₀, m₀ p.1 = some p.2) (hP : P 0 c₀)
    (turn : ∀ (c : σ) (i : Nat) t (u : Str → Option Value) h tk own, n0 ≤ tk → i < n → OwnOff own ((Led c₀).map (·.1)) → Facts c → P i c →
      Fr h₀ env.locals h (fun y => if y = x then some (.int (i : Int) t) else kstB (fun z => if stored.contains z then u z else m₀ z) (ps c) y) → News h₀ env.locals h (Led c ++ own) →
      wpAny (model prog w) A (execs body env) (InvPostN h₀ env.locals (KstS Led ps Facts x stored m₀ (fun _ => P (i + 1)) []) own ((Led c₀).map (·.1)) { s with heap := h, toks := tk } Q) E { s with heap := h, toks := tk })
    (done : ∀ (c : σ) (u : Str → Option Value) h tk, n0 ≤ tk → Facts c → P n c → Fr h₀ env.locals h (fun y => if y = x then u y else kstB (fun z => if stored.contains z then u z else m₀ z) (ps c) y) → News h₀ env.locals h (Led c) →
      wpAny (model prog w) A (execs orelse env) Q E { s with heap := h, toks := tk })
    (hE : PassesOwn (model prog w) A env E) :
    wpAny (model prog w) A (pyIter (.ref r)) (fun it s₂ => codeAny (model prog w) A (.forLoop (.Name x px) it body orelse env) (fun r s' => match r with | .ok f => Q f s' | .error e => cameBackBy (model prog w) A env E e s') s₂) E s := by
  refine wpAny_pyIter_range hr hsmall ?_
  refine loop_else (n0 := n0) (Walks.range hh s.heap.objs.size 0 1 n).bound (fun i h st => ⟨_, st⟩) hx hp (Nat.ne_of_lt F.ns.lt) (next_is_new F) (fun p hp => Nat.ne_of_lt (Heap.lt_size (N p hp).1)) (by show IsRangeIter _ _ _ _ _; rw [hn]; simpa using Heap.get?_push_size _ rfl) (F.push _)
    (fun p hp => ⟨Heap.get?_push_of_some _ (N p hp).1, (N p hp).2⟩) (fun i => KstS Led ps Facts x stored m₀ (fun _ => P i) []) ⟨c₀, rfl, hf, hk, fun _ _ _ _ => rfl, hP⟩ ?_ ?_ hE hn0
  · rintro i v m₁ nx h tk own htk hi ⟨_, t, rfl⟩ hoff ⟨c, rfl, hf', h1, h2, hp'⟩ F₁ N₁
    rw [show (0 : Int) + (i : Int) * 1 = (i : Int) by omega] at F₁
    exact turn c i t m₁ h tk own htk hi hoff hf' hp' (kst_fr h1 h2 F₁) N₁
  · rintro m₁ nx h tk htk ⟨c, rfl, hf', h1, h2, hp'⟩ F₁ N₁
    exact done c m₁ h tk htk hf' hp' (kst_frOut h1 h2 F₁) N₁
end
end
section
open PySem PySem.W PySem.Calls PyProof.Rows
theorem freshR3 : True := by
  w_top off
  trivial
section
variable {prog : Program} {w : World} {A : Around} {E : Value → Shared → Prop} {s : Shared} {env : Env} {h₀ : Heap}
/-- for i, v in enumerate(list): the turns ahead of k write nothing, the k-th gives back -/
theorem enum_find {Q : Flow → Shared → Prop} {xi xv : Str} {pi pv pt : Pos} {x1} {body orelse : List Stmt} {e it l : Addr} {items : Array Value} {k : Nat} {m : Str → Option Value}
    (hh : A.handled = none) (hxx : xi ≠ xv) (hxi : env.kindOf xi = some .local) (hxv : env.kindOf xv = some .local)
    (hp : (env.scope.kind == .class || (env.scope.kind == .module && env.locals != env.globals)) = false)
    (hei : e ≠ it) (he₀ : h₀.objs.size ≤ e) (hit₀ : h₀.objs.size ≤ it) (heL : env.locals ≠ e) (hiL : env.locals ≠ it)
    (he : IsEnum s.heap e it 0 .none) (hit : s.heap.IsListIter it l 0) (hl₀ : h₀.IsList l items) (F : Fr h₀ env.locals s.heap m) (hk : k < items.size)
    (skip : ∀ i v t m' h tk, i < k → items[i]? = some v → (∀ y, y ≠ xi → y ≠ xv → m' y = m y) → m' xi = some (.int (i : Int) t) → m' xv = some v → Fr h₀ env.locals h m' →
      wpAny (model prog w) A (execs body env) (fun f s' => f = .next ∧ ∃ tk', s' = { s with heap := h, toks := tk' }) E { s with heap := h, toks := tk })
    (hitk : ∀ v t m' h tk, items[k]? = some v → (∀ y, y ≠ xi → y ≠ xv → m' y = m y) → m' xi = some (.int (k : Int) t) → m' xv = some v → Fr h₀ env.locals h m' →
      wpAny (model prog w) A (execs body env) (fun f s' => ∃ v, f = .ret v ∧ Q (.ret v) s') E { s with heap := h, toks := tk })
    (hE : PassesOwn (model prog w) A env E) :
    codeAny (model prog w) A (.forLoop (.Tuple [.Name xi pi, .Name xv pv] x1 pt) (.ref e) body orelse env) (fun r s' => match r with | .ok f => Q f s' | .error e => cameBackBy (model prog w) A env E e s') s := by
  have hlt₀ : l < h₀.objs.size := by obtain ⟨o, x, _⟩ := hl₀; exact Heap.lt_size x
  have hle : l ≠ e := fun q => Nat.lt_irrefl _ (Nat.lt_of_lt_of_le hlt₀ (q ▸ he₀))
  have hli : l ≠ it := fun q => Nat.lt_irrefl _ (Nat.lt_of_lt_of_le hlt₀ (q ▸ hit₀))
  have hlL : l ≠ env.locals := Nat.ne_of_lt (Nat.lt_of_lt_of_le hlt₀ F.above)
  have off₀ : ∀ b o, h₀.get? b = some o → b ≠ e ∧ b ≠ it ∧ b ≠ env.locals := fun b o x =>
    ⟨Nat.ne_of_lt (Nat.lt_of_lt_of_le (Heap.lt_size x) he₀), Nat.ne_of_lt (Nat.lt_of_lt_of_le (Heap.lt_size x) hit₀), Nat.ne_of_lt (Nat.lt_of_lt_of_le (Heap.lt_size x) F.above)⟩
  refine codeAny_forLoop_any
    (fun n s' => ∃ h' tk m' i old, s' = { s with heap := h', toks := tk } ∧ IsEnum h' e it ((i : Nat) : Int) old ∧ h'.IsListIter it l i ∧ Fr h₀ env.locals h' m' ∧ (∀ y, y ≠ xi → y ≠ xv → m' y = m y) ∧ i ≤ k ∧ n = k - i) ?_ k
    ⟨s.heap, s.toks, m, 0, .none, rfl, he, hit, F, fun _ _ _ => rfl, Nat.zero_le _, rfl⟩
  rintro n s' ⟨H, tk, m', i, old, rfl, he', hit', F', hm', hi, rfl⟩
  have hlt : i < items.size := Nat.lt_of_le_of_lt hi hk
  have hv : items[i]? = some items[i] := Array.getElem?_eq_getElem hlt
  generalize items[i] = v at hv
  have hl' : H.IsList l items := hl₀.at fun o x => F'.keep _ o x
  have heH : e < H.objs.size := Heap.lt_size he'
  have hLH : env.locals < H.objs.size := F'.ns.lt
  obtain ⟨oi, hoi, _⟩ := id hit'
  have hiH : it < H.objs.size := Heap.lt_size hoi
  refine wpAny_pyNext_enum_item he' hit' hl' hv hei fun h₁ heo hit₁ ht₁ hz₁ hk₁ => ?_
  refine wpAny_letOwnedTupleGo_enum heo fun h₂ he₂ hs₂ => ?_
  replace hs₂ : Heap.SameBut e h₁ h₂ := hs₂
  have ht₂ : h₂.IsTuple H.objs.size #[.int i tk, v] := ⟨_, (hs₂.2 _ (Nat.ne_of_gt heH)).trans ht₁, rfl, _, rfl⟩
  have hz₂ : h₂.objs.size = H.objs.size + 1 := hs₂.1.trans hz₁
  refine wpAny_assign_Tuple hh ht₂ rfl rfl fun h₃ hx₃ => ?_
  replace hx₃ : Heap.ExtBut h₂.objs.size h₂ h₃ := hx₃
  have old₃ : ∀ b o, b < H.objs.size → h₂.get? b = some o → h₃.get? b = some o := fun b o hb x => hx₃ b o (by rw [hz₂]; exact Nat.ne_of_lt (Nat.lt_succ_of_lt hb)) x
  have old13 : ∀ b o, b ≠ e → b ≠ it → H.get? b = some o → h₃.get? b = some o := fun b o be bi x =>
    old₃ b o (Heap.lt_size x) ((hs₂.2 b be).trans (hk₁ b o be bi x))
  have F₃ : Fr h₀ env.locals h₃ m' := ⟨F'.ns.at' fun o x => old13 _ o heL hiL x, fun b o x => old13 b o (off₀ b o x).1 (off₀ b o x).2.1 (F'.keep b o x), F'.above⟩
  show wpAny _ A (do holding [v] (assign (.Name xi pi) env (.int i tk)); do holding [] (assign (.Name xv pv) env v); pure ()) _ _ _
  refine wpAny_bind (wpAny_holding (wpAny_assign_Name (wpAny_storeName_local hxi F₃.ns (fun h₄ hn₄ hs₄ => ?_) hp)))
  replace hs₄ : Heap.SameBut env.locals h₃ h₄ := hs₄
  refine wpAny_bind (wpAny_holding (wpAny_assign_Name (wpAny_storeName_local hxv hn₄ (fun h₅ hn₅ hs₅ => wpAny_pure ?_) hp)))
  replace hs₅ : Heap.SameBut env.locals h₄ h₅ := hs₅
  have F₅ := (F₃.set hn₄ hs₄).set hn₅ hs₅
  have hother : ∀ y, y ≠ xi → y ≠ xv → (fun y => if y = xv then some v else if y = xi then some (.int (i : Int) tk) else m' y) y = m y := fun y h1 h2 => by
    simp only [if_neg h1, if_neg h2]; exact hm' y h1 h2
  rcases Nat.lt_or_ge i k with hik | hik
  · refine wpAny_mono (wpAny_passesOwn hE (skip i v tk _ h₅ _ hik hv hother (by simp [hxx]) (by simp) F₅)) (fun f s₃ h₆ => ?_) fun _ _ x => x
    obtain ⟨rfl, tk', rfl⟩ := h₆
    have up : ∀ b o, b ≠ env.locals → b < H.objs.size → h₂.get? b = some o → h₅.get? b = some o := fun b o hbL hb x =>
      hs₅.extBut b o hbL (hs₄.extBut b o hbL (old₃ b o hb x))
    refine ⟨k - (i + 1), by omega, h₅, tk', _, i + 1, v, rfl, ?_, ?_, F₅, hother, hik, rfl⟩
    · have : ((i + 1 : Nat) : Int) = (i : Int) + 1 := by push_cast; rfl
      rw [this]; exact up e _ (Ne.symm heL) heH he₂
    · obtain ⟨o, x, r⟩ := hit₁
      exact ⟨o, up it o (Ne.symm hiL) hiH ((hs₂.2 it (Ne.symm hei)).trans x), r⟩
  · obtain rfl : i = k := Nat.le_antisymm hi hik
    refine wpAny_mono (wpAny_passesOwn hE (hitk v tk _ h₅ _ hv hother (by simp [hxx]) (by simp) F₅)) (fun f s₃ h₆ => ?_) fun _ _ x => x
    obtain ⟨v', rfl, hq⟩ := h₆
    exact hq
end
end
section
open PySem PySem.W PySem.Calls PyProof.Rows PySem.Spec PyProof.V
theorem freshNm : True := by
  w_top off
  trivial
noncomputable def flagD : List (Int × PyData) := [(1, PyData.str { cps := #[79, 80, 84, 73, 77, 73, 90, 69, 68] }), (2, PyData.str { cps := #[78, 69, 87, 76, 79, 67, 65, 76, 83] }), (4, PyData.str { cps := #[86, 65, 82, 65, 82, 71, 83] }), (8, PyData.str { cps := #[86, 65, 82, 75, 69, 89, 87, 79, 82, 68, 83] }), (16, PyData.str { cps := #[78, 69, 83, 84, 69, 68] }), (32, PyData.str { cps := #[71, 69, 78, 69, 82, 65, 84, 79, 82] }), (64, PyData.str { cps := #[78, 79, 70, 82, 69, 69] }), (128, PyData.str { cps := #[67, 79, 82, 79, 85, 84, 73, 78, 69] }), (256, PyData.str { cps := #[73, 84, 69, 82, 65, 66, 76, 69, 95, 67, 79, 82, 79, 85, 84, 73, 78, 69] }), (512, PyData.str { cps := #[65, 83, 89, 78, 67, 95, 71, 69, 78, 69, 82, 65, 84, 79, 82] })]
noncomputable def flagT : List (PyData × PyData) := flagD.map fun p => (PyData.int p.1, p.2)
noncomputable def hexAt (i : Nat) : Str := baseText "0x" 16 (1 * 2 ^ i)
noncomputable def flagV (i : Nat) : PyData := (lookup (.int (1 * 2 ^ i)) flagT).getD (.str (hexAt i))
noncomputable def nameAt (i : Nat) : Str := match flagV i with
  | .str s => s
  | _ => Str.ofString ""
theorem flagV_eq {i : Nat} (hi : i < 32) : flagV i = .str (nameAt i) := by
  have h : ∀ k : Fin 32, (match flagV k with | .str _ => true | _ => false) = true := by decide +kernel
  have := h ⟨i, hi⟩
  unfold nameAt
  cases e : flagV i <;> simp_all
theorem hexAt_len {i : Nat} (hi : i < 32) : (hexAt i).length ≤ 20 := by
  have h : ∀ k : Fin 32, (hexAt k).length ≤ 20 := by decide +kernel
  exact h ⟨i, hi⟩
theorem nameAt_len {i : Nat} (hi : i < 32) : (nameAt i).length ≤ 20 := by
  have h : ∀ k : Fin 32, (nameAt k).length ≤ 20 := by decide +kernel
  exact h ⟨i, hi⟩
theorem nameAt_inj {i j : Nat} (hi : i < 32) (hj : j < 32) (e : nameAt i = nameAt j) : i = j := by
  have h : ∀ k l : Fin 32, nameAt k = nameAt l → k = l := by decide +kernel
  exact congrArg Fin.val (h ⟨i, hi⟩ ⟨j, hj⟩ e)
section
variable {prog : Program} {w : World} {A : Around} {E : Value → Shared → Prop} {s : Shared}
theorem hex_at {i : Nat} (hi : i < 32) {t : Tok} {Q : Value → Shared → Prop} (h : Q (.str (hexAt i) s.toks) { s with toks := s.toks + 1 }) :
    wpAny (model prog w) A (call (.builtin "hex") [.int (1 * 2 ^ i) t]) Q E s :=
  P.hex_of_int h (Nat.le_trans (hexAt_len hi) (by rw [sizeLine_eq]; decide))
theorem get_flag {h₀ : Heap} (K : KTD.Keyed h₀ 64 flagD) (hk : ∀ b o, h₀.get? b = some o → s.heap.get? b = some o) {i : Nat} (hi : i < 32) {t t' : Tok} {Q : Value → Shared → Prop}
    (h : ∀ u, Q (.str (nameAt i) u) { s with toks := s.toks + 1 }) :
    wpAny (model prog w) A (call (.builtin "dict.get") [.ref 64, .int (1 * 2 ^ i) t, .str (hexAt i) t']) Q E s := by
  refine call_get2_intTab ((K.keep hk) prog w) (Flat.str _ _) fun v hv => ?_
  have e : Flat v (.str (nameAt i)) := by
    rw [← flagV_eq hi]; exact hv
  obtain ⟨u, rfl⟩ := Flat.str_inv e
  exact h u
end
end
section
open PySem PySem.W PySem.Calls PyProof.Rows PySem.Spec PyProof.V
open PySem.Builtin PySem.Builtin.Str
theorem freshTx : True := by
  w_top off
  trivial
noncomputable def flagE : Array DictEntry := (flagD.zipIdx.map fun p => match p.1.2 with
  | .str n => { hash := p.1.1, key := Value.int p.1.1 (250 + 2 * p.2), val := Value.str n (251 + 2 * p.2) }
  | _ => default).toArray
/-- the token that the table's i-th word stands under -/
noncomputable def nameTok (i : Nat) (t : Tok) : Tok := if i < 10 then 251 + 2 * i else t
theorem flag_obj (w : World) : ∃ ep, (Mine.hd.heap_39 w.params).lookup 64 = some { cls := .type "dict", dict := none, data := .dict flagE ep, slots := #[] } := ⟨_, rfl⟩
theorem flag_find {i : Nat} (hi : i < 32) (t : Tok) : (findBy Value.isInt flagE (1 * 2 ^ i)).getD (.str (hexAt i) t) = .str (nameAt i) (nameTok i t) := by
  have h : ∀ k : Fin 32, (match findBy Value.isInt flagE (1 * 2 ^ k.val) with
    | some (.str n u) => decide (k.val < 10) && n == nameAt k && u == 251 + 2 * k.val
    | none => decide (¬ k.val < 10) && hexAt k == nameAt k
    | _ => false) = true := by decide +kernel
  have h1 := h ⟨i, hi⟩
  dsimp only at h1
  revert h1
  cases e : findBy Value.isInt flagE (1 * 2 ^ i) with
  | none => intro h1; simp at h1; simp [nameTok, h1.2, show ¬ i < 10 by omega]
  | some v =>
    cases v <;> simp
    intro a b c
    simp [nameTok, a, b, c]
theorem flag_keys {prog : Program} {w : World} : KeysOf (intKind prog w) flagE := by
  intro e he
  have h : ∀ e ∈ flagE.toList, ∃ k t, e.key = Value.int k t ∧ e.hash = hashInt k := by
    intro e he
    have : flagE.toList = (flagD.zipIdx.map fun p => match p.1.2 with
      | .str n => { hash := p.1.1, key := Value.int p.1.1 (250 + 2 * p.2), val := Value.str n (251 + 2 * p.2) }
      | _ => default) := rfl
    rw [this] at he
    simp only [flagD, List.zipIdx, List.map_cons, List.map_nil, List.mem_cons, List.not_mem_nil, or_false] at he
    rcases he with rfl | rfl | rfl | rfl | rfl | rfl | rfl | rfl | rfl | rfl <;> exact ⟨_, _, rfl, by decide +kernel⟩
  obtain ⟨k, t, h1, h2⟩ := h e (by simpa using he)
  refine ⟨k, ?_, h2⟩
  rw [h1]
  show Value.isInt k (.int k t) = true
  simp [Value.isInt]
section
variable {prog : Program} {w : World} {A : Around} {E : Value → Shared → Prop} {s : Shared}
theorem get_tok {w' : World} {h₀ : Heap} (X : (Mine.hd.heap_39 w'.params).In h₀) (hk : ∀ b o, h₀.get? b = some o → s.heap.get? b = some o) {i : Nat} (hi : i < 32) {t t' : Tok} {Q : Value → Shared → Prop}
    (h : Q (.str (nameAt i) (nameTok i t')) { s with toks := s.toks + 1 }) :
    wpAny (model prog w) A (call (.builtin "dict.get") [.ref 64, .int (1 * 2 ^ i) t, .str (hexAt i) t']) Q E s := by
  obtain ⟨ep, hob⟩ := flag_obj w'
  have hg := hk _ _ (X 64 _ hob)
  have hm : s.heap.MapOf (intKind prog w) 64 (fun k => findBy Value.isInt flagE k) := ⟨_, flagE, ep, hg, ⟨rfl, rfl, rfl⟩, rfl, flag_keys, fun k => rfl⟩
  refine call_meetsIn PySem.F.slot_dict_get hm.typeIs PySem.F.entry_dict_get (PySem.F.args_dict_get_3 _ _ _) (meets_dict_get_default (intKind prog w) 64 (k := 1 * 2 ^ i) ?_ (by decide +kernel) (.str (hexAt i) t')) ⟨_, hm, ?_⟩
  · show Value.isInt (1 * 2 ^ i) (.int (1 * 2 ^ i) t) = true
    simp [Value.isInt]
  · show Q ((findBy Value.isInt flagE (1 * 2 ^ i)).getD _) _
    rw [flag_find hi]
    exact h
/-- the words of a row of texts -/
theorem join_tok {l : List (Str × Tok)} {D : Addr} {x : Str} {t : Tok} {Q : Value → Shared → Prop} (hl : s.heap.IsList D (strValues l).toArray) (hok : JoinOk x (l.map (·.1)) = true)
    (h1 : ∀ n u, l = [(n, u)] → Q (.str (Txt.join x (l.map (·.1))) u) s) (h2 : (∀ n u, l ≠ [(n, u)]) → Q (.str (Txt.join x (l.map (·.1))) s.toks) { s with toks := s.toks + 1 }) :
    wpAny (model prog w) A (call (.builtin "str.join") [.str x t, .ref D]) Q E s := by
  unfold JoinOk at hok
  rw [Bool.not_eq_true'] at hok
  refine call_meets F.slot_str_join (typeIs_str _ _ _) F.entry_str_join (F.args_str_join_2 _ _) (meets_str_join_list x t D l hok) ⟨hl, ?_⟩
  rcases l with _ | ⟨p, _ | ⟨q, r⟩⟩
  · exact ⟨joinFit_length hok, h2 (by simp)⟩
  · exact h1 p.1 p.2 rfl
  · exact ⟨joinFit_length hok, h2 (by simp)⟩
theorem numbered_get : ∀ (xs : List Str) (n j : Nat), (numbered n xs)[j]? = xs[j]?.map fun x => (x, n + j)
  | [], n, j => by simp [numbered]
  | x :: xs, n, 0 => by simp [numbered]
  | x :: xs, n, j + 1 => by
    simp only [numbered, List.getElem?_cons_succ, numbered_get xs (n + 1) j]
    congr 1
    funext y
    congr 1
    omega
theorem none_booked {w' : World} {h₀ : Heap} (X : (Mine.hd.heap_39 w'.params).In h₀) (hk : ∀ b o, h₀.get? b = some o → s.heap.get? b = some o) : NoneBooked s.heap := by
  have h2 : ∃ o ep, (Mine.hd.heap_39 w'.params).lookup 2 = some o ∧ o.data = .dict #[] ep := ⟨_, _, rfl, rfl⟩
  obtain ⟨o, ep, e, hd⟩ := h2
  exact ⟨fun _ => none, ⟨o, _, _, hk _ _ (X 2 _ e), hd, by intro e he; simp at he, fun n => by simp [nsFind, findBy]⟩, rfl⟩
end
section
variable {prog : Program} {w : World} {A : Around} {E : Value → Shared → Prop} {s : Shared}
theorem split_tok {x y : Str} {t u : Tok} {Q : Value → Shared → Prop} (hy : (y.length == 0) = false) (hsz : x.length ≤ sizeLine)
    (hq : ∀ l : List (Str × Tok), l.map (·.1) = Txt.split x y → (l = [(x, t)] ∨ ∀ (j : Nat) (n : Str) (v : Tok), l[j]? = some (n, v) → s.toks ≤ v) → ∀ tk, s.toks ≤ tk →
      Q (.ref s.heap.objs.size) { s with heap := s.heap.push { cls := .type "list", data := .seq (strValues l).toArray }, toks := tk })
    (hsz2 : (Txt.split x y).length ≤ sizeLine) :
    wpAny (model prog w) A (call (.builtin "str.split") [.str x t, .str y u]) Q E s := by
  cases h1 : (decide (x.length < y.length) || decide (PySem.Builtin.Str.strKind x < PySem.Builtin.Str.strKind y))
  · cases hf : (occurrences x y 0 x.length (x.length + 1)).isEmpty
    · refine call_meets F.slot_str_split (typeIs_str _ _ _) F.entry_str_split (F.args_str_split_2 _ _) (meets_str_split_sep x y t u h1 hy hf hsz (((if_neg (ne_true_of_eq_false h1)).trans (if_neg (ne_true_of_eq_false hf)) : Txt.split x y = _) ▸ hsz2)) ?_
      show wants Q E _ { s with toks := _, heap := s.heap.push { cls := .type "list", data := .seq (strsFrom s.toks (partsBetween x (occurrences x y 0 x.length (x.length + 1)) y.length)).toArray } }
      rw [strsFrom_eq]
      refine hq (numbered s.toks _) ((numbered_texts _ _).trans ((if_neg (ne_true_of_eq_false h1)).trans (if_neg (ne_true_of_eq_false hf))).symm) (.inr fun j n v e => ?_) _ (Nat.le_add_right _ _)
      rw [numbered_get] at e
      cases ex : (partsBetween x (occurrences x y 0 x.length (x.length + 1)) y.length)[j]? with
      | none => rw [ex] at e; cases e
      | some z => rw [ex] at e; cases e; exact Nat.le_add_right _ _
    · exact call_meets F.slot_str_split (typeIs_str _ _ _) F.entry_str_split (F.args_str_split_2 _ _) (meets_str_split_not_found x y t u h1 hy hf)
        (hq [(x, t)] ((if_neg (ne_true_of_eq_false h1)).trans (if_pos hf)).symm (.inl rfl) _ (Nat.le_refl _))
  · exact call_meets F.slot_str_split (typeIs_str _ _ _) F.entry_str_split (F.args_str_split_2 _ _) (meets_str_split_cannot_occur x y t u h1)
      (hq [(x, t)] (if_pos h1).symm (.inl rfl) _ (Nat.le_refl _))
end
end
section
open PySem PySem.W PySem.Calls PyProof.Rows
open PySem.StrLaws PySem.Builtin PySem.Builtin.Str
theorem freshSp : True := by
  w_top off
  trivial
noncomputable def sepC : Str := ⟨#[44, 32]⟩
theorem sepC_eq : Str.ofString ", " = sepC := by decide +kernel
theorem at_comma {x : Str} {k : Nat} (h : At x sepC x.length k) : x.cps.toList[k]? = some 44 := by
  have h2 := h.2
  rw [subAt_eq] at h2
  have h3 : (x.cps.toList.drop k).take 2 = [44, 32] := eq_of_beq h2
  have h4 := congrArg (fun l : List Nat => l[0]?) h3
  simpa [List.getElem?_drop] using h4
theorem at_of {x : Str} {k : Nat} {r : List Nat} (h : x.cps.toList.drop k = 44 :: 32 :: r) : At x sepC x.length k := by
  refine ⟨?_, ?_⟩
  · have := congrArg List.length h
    simp only [List.length_drop, List.length_cons] at this
    show k + 2 ≤ x.cps.size
    rw [← Array.length_toList]
    omega
  · rw [subAt_eq, h]
    rfl
theorem join_cons2 (p q : Str) (r : List Str) : (Str.join sepC (p :: q :: r)).cps.toList = p.cps.toList ++ 44 :: 32 :: (Str.join sepC (q :: r)).cps.toList := by
  show ((p ++ sepC ++ Str.join sepC (q :: r)).cps).toList = _
  simp [Str.cps_append, sepC]
theorem parts_join (x : Str) : ∀ (xs : List Str) (a : Nat) (cuts : List Nat) (f : Nat), xs ≠ [] → (∀ p ∈ xs, (44 : Nat) ∉ p.cps.toList) → a ≤ x.length → x.cps.toList.drop a = (Str.join sepC xs).cps.toList →
    ChainG x sepC x.length a cuts f → (∀ k, f ≤ k → ¬ At x sepC x.length k) → partsFrom x sepC.length a cuts = xs := by
  intro xs
  induction xs with
  | nil => intro a cuts f h; exact absurd rfl h
  | cons p r ih =>
    intro a cuts f _ hfree ha hd hc hn
    have hp := hfree p List.mem_cons_self
    cases r with
    | nil =>
      have hd' : x.cps.toList.drop a = p.cps.toList := hd
      have none : ∀ k, a ≤ k → ¬ At x sepC x.length k := fun k hk hA => by
        have h1 := at_comma hA
        have h2 : (x.cps.toList.drop a)[k - a]? = some 44 := by rw [List.getElem?_drop, show a + (k - a) = k by omega]; exact h1
        rw [hd'] at h2
        exact hp (List.mem_of_getElem? h2)
      cases cuts with
      | nil =>
        show [strSub x a x.length] = [p]
        congr 1
        apply Str.ext'
        apply Array.toList_inj.mp
        rw [strSub_toList, hd', List.take_of_length_le]
        have := congrArg List.length hd'
        rw [List.length_drop, Array.length_toList] at this
        show p.cps.toList.length ≤ x.cps.size - a
        omega
      | cons c r' => exact absurd hc.2.1 (none c hc.1)
    | cons q r =>
      rw [join_cons2] at hd
      have hlen := congrArg List.length hd
      rw [List.length_drop, Array.length_toList, List.length_append, List.length_cons, List.length_cons] at hlen
      have hdp : x.cps.toList.drop (a + p.cps.toList.length) = 44 :: 32 :: (Str.join sepC (q :: r)).cps.toList := by
        rw [← List.drop_drop, hd, List.drop_left]
      have hA : At x sepC x.length (a + p.cps.toList.length) := at_of hdp
      cases cuts with
      | nil =>
        have e : f = a := hc
        exact absurd hA (hn _ (by omega))
      | cons c r' =>
        obtain ⟨h1, h2, h3, h4⟩ := hc
        have hcc : c = a + p.cps.toList.length := by
          rcases Nat.lt_trichotomy c (a + p.cps.toList.length) with h | h | h
          · exfalso
            have h5 := at_comma h2
            have h6 : (x.cps.toList.drop a)[c - a]? = some 44 := by rw [List.getElem?_drop, show a + (c - a) = c by omega]; exact h5
            rw [hd, List.getElem?_append_left (by omega)] at h6
            exact hp (List.mem_of_getElem? h6)
          · exact h
          · exact absurd hA (h3 _ (by omega) h)
        subst hcc
        show strSub x a (a + p.cps.toList.length) :: partsFrom x sepC.length (a + p.cps.toList.length + sepC.length) r' = p :: q :: r
        have e1 : strSub x a (a + p.cps.toList.length) = p := by
          apply Str.ext'
          apply Array.toList_inj.mp
          rw [strSub_toList, hd, show a + p.cps.toList.length - a = p.cps.toList.length by omega, List.take_left]
        rw [e1]
        congr 1
        refine ih _ r' f (by simp) (fun t ht => hfree t (List.mem_cons_of_mem _ ht)) ?_ ?_ h4 hn
        · show a + p.cps.toList.length + 2 ≤ x.cps.size
          omega
        · show x.cps.toList.drop (a + p.cps.toList.length + 2) = _
          rw [← List.drop_drop, hdp]
          rfl
theorem split_join {xs : List Str} (h : xs ≠ []) (hfree : ∀ p ∈ xs, (44 : Nat) ∉ p.cps.toList) : Txt.split (Str.join sepC xs) sepC = xs := by
  obtain ⟨f, hc, hn⟩ := occ_tight (Str.join sepC xs) sepC (by decide)
  have key := parts_join (Str.join sepC xs) xs 0 _ f h hfree (Nat.zero_le _) (by rw [List.drop_zero]) hc hn
  have one : ∀ cuts : List Nat, cuts = [] → partsFrom (Str.join sepC xs) sepC.length 0 cuts = [Str.join sepC xs] := by
    rintro _ rfl
    show [strSub _ 0 _] = _
    rw [sub_whole]
  unfold Txt.split
  split
  · rename_i hcond
    refine ((key.symm.trans (one _ ?_))).symm
    rcases Bool.or_eq_true_iff.mp hcond with h1 | h1
    · have hl : (Str.join sepC xs).length < 2 := of_decide_eq_true h1
      generalize hcu : occurrences (Str.join sepC xs) sepC 0 (Str.join sepC xs).length ((Str.join sepC xs).length + 1) = cuts at hc
      cases cuts with
      | nil => rfl
      | cons c r =>
        have h2 : c + 2 ≤ (Str.join sepC xs).length := hc.2.1.1
        omega
    · exfalso
      have h2 := of_decide_eq_true h1
      have h3 : Builtin.Str.strKind sepC = 1 := by decide +kernel
      have h4 : 1 ≤ Builtin.Str.strKind (Str.join sepC xs) := by unfold Builtin.Str.strKind; split <;> (try split) <;> omega
      rw [h3] at h2
      omega
  · split
    · rename_i he
      exact ((key.symm.trans (one _ (List.isEmpty_iff.mp he)))).symm
    · rw [partsBetween_eq, key]
theorem txt_join (xs : List Str) : Txt.join sepC xs = Str.join sepC xs := glued_eq_join sepC xs
end
section
open PySem PySem.W PySem.Calls PyProof.Rows PyProof.Rows.LCg
theorem freshCmp : True := by
  w_top off
  trivial
section
variable {prog : Program} {w : World} {A : Around} {E : Value → Shared → Prop} {s : Shared} {h₀ : Heap} {L : Addr} {m : Str → Option Value} {env : Env}
/-- one turn of a list comprehension that leaves the older objects as they are; what it yields is told together with the tokens -/
noncomputable def TurnT (prog : Program) (w : World) (A : Around) (h₀ : Heap) (L : Addr) (m : Str → Option Value) (env : Env) (elt : Expr) (x : Str) (scope : Scope) (cl : List (Str × Addr)) (s : Shared) (news : List (Addr × Obj)) (P : Nat → Value → Prop) (Fp : Nat → Value → Nat → Prop) (n : Nat) : Prop :=
  ∀ i v I oI C oC D oD m₂ h tk (E' : Value → Shared → Prop), i < n → s.toks ≤ tk → P i v → NsObj oC m₂ → m₂ x = some v → Fr h₀ L h m → News h₀ L h ((I, oI) :: (C, oC) :: (D, oD) :: news) →
    wpAny (model prog w) A (eval elt (compEnvC scope cl C env)) (fun y s₂ => Fp i y s₂.toks ∧ ∃ h' tk', s₂ = { s with heap := h', toks := tk' } ∧ ∀ b o, h.get? b = some o → h'.get? b = some o) E' { s with heap := h, toks := tk }
theorem block_T {elt iter : Expr} {x : Str} {px : Pos} {scope : Scope} {cl : List (Str × Addr)} {pos : Pos} {s₂ : Shared} {I : Addr} {fp : List Addr} {n : Nat} {P : Nat → Value → Prop} {St : Nat → Heap → Prop} {news : List (Addr × Obj)}
    {Fp : Nat → Value → Nat → Prop} {RR : Value → Addr → Result → Shared → Prop} (hmono : ∀ i y t t', t ≤ t' → Fp i y t → Fp i y t')
    (W : Walks prog w A I fp [I] n P St) (hsz : n ≤ sizeLine) (hIo : ∀ i h, St i h → ∃ o, h.get? I = some o)
    (hcell : ∀ y ∈ scope.names, y.2 ≠ .cell) (hkind : scope.kind = .function) (hx : scope.names.lookup x = some .local) (hst : St 0 s₂.heap) (hfp : ∀ b ∈ fp, b < s₂.heap.objs.size)
    (F : Fr h₀ L s₂.heap m) (N : News h₀ L s₂.heap news) (hIL : L ≠ I) (hI₀ : h₀.get? I = none) (off : ∀ p ∈ news, p.1 ≠ I)
    (R : TurnT prog w A h₀ L m env elt x scope cl s₂ news P Fp n)
    (hRR : ∀ D C h tk m' ys, Fr h₀ L h m → News h₀ L h ((D, lst ys) :: news) → h.Ns C m' → h₀.get? C = none → h₀.get? D = none → C ≠ L → D ≠ L → C ≠ D → (∀ p ∈ news, p.1 ≠ C) → s₂.toks ≤ tk → ys.length = n →
      (∀ j y, ys[j]? = some y → Fp j y tk) → RR (.ref D) C (.ok .next) { s₂ with heap := h, toks := tk }) :
    wpAny (model prog w) A (newList []) (fun acc s₃ => wpAny (model prog w) A (newFunctionEnv scope env.globals cl [] env.qual none .none (some env)) (fun cenv s₄ =>
      codeAny (model prog w) A (.compStart (.ListComp elt [⟨.Name x px, iter, [], 0⟩] scope pos) 0 (.ref I) acc { cenv with scope := relabel scope env }) (RR acc cenv.locals) s₄) E s₃) E s₂ := by
  refine wpAny_newObj_type (wpAny_newFunctionEnv hcell (by intro y hy; simp at hy) (fun h₁ hns₁ hsb₁ => ?_) hkind)
  dsimp only at hns₁ hsb₁ ⊢
  generalize hH : s₂.heap.push { cls := .type "list", dict := none, data := .seq ([] : List Value).toArray } = H at hns₁ hsb₁ ⊢
  have eC : H.objs.size = s₂.heap.objs.size + 1 := by rw [← hH, Heap.size_push]
  generalize eD' : s₂.heap.objs.size = D
  generalize eC' : H.objs.size = C at hns₁ hsb₁ ⊢
  have hCD : C ≠ D := by rw [← eC', eC, eD']; exact Nat.succ_ne_self _
  have lo : ∀ b, b < s₂.heap.objs.size → b ≠ C ∧ b ≠ D := fun b hb => ⟨by rw [← eC', eC]; exact Nat.ne_of_lt (Nat.lt_succ_of_lt hb), by rw [← eD']; exact Nat.ne_of_lt hb⟩
  have hDf : D ∉ fp := fun hm => (lo D (hfp _ hm)).2 rfl
  have hCf : C ∉ fp := fun hm => (lo C (hfp _ hm)).1 rfl
  have hIlt : I < s₂.heap.objs.size := hfp I (W.sub I (List.mem_singleton.mpr rfl))
  have hIC := (lo I hIlt).1
  have hID := (lo I hIlt).2
  have hLC := (lo L F.ns.lt).1
  have hLD := (lo L F.ns.lt).2
  have up : ∀ b o, s₂.heap.get? b = some o → h₁.get? b = some o := fun b o e => hsb₁.extBut b o (lo b (Heap.lt_size e)).1 (Heap.get?_push_of_some _ (hH ▸ Heap.get?_push_of_some _ e))
  have none₀ : ∀ a, s₂.heap.objs.size ≤ a → h₀.get? a = none := fun a ha => by
    cases e : h₀.get? a with
    | none => rfl
    | some o => exact absurd (Heap.lt_size (F.keep a o e)) (Nat.not_lt.mpr ha)
  have hD₀ : h₀.get? D = none := none₀ D (by rw [← eD']; exact Nat.le_refl _)
  have hC₀ : h₀.get? C = none := none₀ C (by rw [← eC', eC]; exact Nat.le_succ _)
  have hacc : h₁.get? D = some (lst []) := hsb₁.extBut _ _ (Ne.symm hCD) (Heap.get?_push_of_some _ (by rw [← eD', ← hH]; exact Heap.get?_push_size _ rfl))
  have offN : ∀ p ∈ news, p.1 ≠ C ∧ p.1 ≠ D := fun p hp => lo _ (Heap.lt_size (N p hp).1)
  have loop : ∀ s₃ : Shared, s₃ = { s₂ with heap := h₁, toks := s₂.toks + ([] : List (Str × Value)).length } →
      codeAny (model prog w) A (.compLoop (.ListComp elt [⟨.Name x px, iter, [], 0⟩] scope pos) 0 (.ref I) (.ref D) (compEnvC scope cl C env)) (RR (.ref D) C) s₃ := by
    rintro s₃ rfl
    refine codeAny_compLoop_tests
      (fun k s' => ∃ h' tk i ys m', s' = { s₂ with heap := h', toks := tk } ∧ i ≤ n ∧ k = n + 1 - i ∧ ys.length = i ∧ s₂.toks ≤ tk ∧ St i h' ∧ Fr h₀ L h' m ∧ h'.Ns C m' ∧ News h₀ L h' ((D, lst ys) :: news) ∧
        ∀ j y, ys[j]? = some y → Fp j y tk) ?_ (n + 1)
      ⟨h₁, _, 0, [], _, rfl, Nat.zero_le _, rfl, rfl, Nat.le_refl _, W.frame _ _ _ hst fun b _ o e => up b o e, F.keeps up, hns₁, fun p hp => ?_, fun j y e => by simp at e⟩
    · rintro k s' ⟨h', tk, i, ys, m', rfl, hi, rfl, hyl, htk, hst', F', hn', N', hys⟩
      by_cases hlt : i < n
      · refine wpAny_with_toks (n := tk) (Nat.le_refl _) (W.item i _ _ _ hlt hst' fun v h₂ tk₂ hPv hst₂ hk₂ htk₂ => ?_)
        refine wpAny_assign_Name (wpAny_storeName_local (lookup_relabel_local hx) (hn'.at' fun o e => hk₂ _ o (by simpa using Ne.symm hIC) e) (fun h₃ hn₃ hs₃ => ?_) (by simp [compEnvC, relabel, hkind]))
        refine wpAny_tests_nil ?_
        simp only [if_true]
        replace hs₃ : Heap.SameBut C h₂ h₃ := hs₃
        replace htk₂ : tk ≤ tk₂ := htk₂
        have hst₃ : St (i + 1) h₃ := W.frame _ _ _ hst₂ fun b hb o e => hs₃.extBut b o (fun q => hCf (q ▸ hb)) e
        obtain ⟨oI, heI⟩ := hIo _ _ hst₃
        obtain ⟨oC, heC, hoC⟩ := ns_obj hn₃
        have F₃ : Fr h₀ L h₃ m := (fr_but F' hk₂ hIL hI₀).change hs₃ (Ne.symm hLC) hC₀
        have N₂ : News h₀ L h₂ ((D, lst ys) :: news) := news_but N' hk₂ fun p hp => by
          rcases List.mem_cons.mp hp with rfl | hp
          · exact Ne.symm hID
          · exact off p hp
        have N₃ : News h₀ L h₃ ((I, oI) :: (C, oC) :: (D, lst ys) :: news) := fun p hp => by
          rcases List.mem_cons.mp hp with rfl | hp
          · exact ⟨heI, Ne.symm hIL, hI₀⟩
          · rcases List.mem_cons.mp hp with rfl | hp
            · exact ⟨heC, Ne.symm hLC, hC₀⟩
            · refine ⟨hs₃.extBut _ _ ?_ (N₂ p hp).1, (N₂ p hp).2⟩
              rcases List.mem_cons.mp hp with rfl | hp
              · exact Ne.symm hCD
              · exact (offN p hp).1
        refine wpAny_mono (wpAny_toks_of (n := tk) (Nat.le_succ_of_le htk₂) (R i v I oI C oC D (lst ys) _ h₃ _ _ hlt (Nat.le_succ_of_le (Nat.le_trans htk htk₂)) hPv hoC (by simp) F₃ N₃)) (fun y s₄ h₄ => ?_) fun _ _ e => e.2
        obtain ⟨htk₄, hFy, h₄, tk₄, rfl, hk₄⟩ := h₄
        replace htk₄ : tk ≤ tk₄ := htk₄
        have zD := hk₄ _ _ (N₃ (D, lst ys) (List.mem_cons_of_mem _ (List.mem_cons_of_mem _ List.mem_cons_self))).1
        refine append_at (hsz := by show ys.toArray.size ≤ sizeLine; rw [List.size_toArray, hyl]; exact Nat.le_trans hi hsz) zD fun h₅ hs₅ hD₅ => ?_
        replace hs₅ : Heap.SameBut D h₄ h₅ := hs₅
        refine ⟨n + 1 - (i + 1), by omega, h₅, tk₄, i + 1, ys ++ [y], _, rfl, hlt, rfl, by rw [List.length_append, List.length_singleton, hyl], Nat.le_trans htk htk₄,
          W.frame _ _ _ hst₃ fun b hb o e => hs₅.extBut b o (fun q => hDf (q ▸ hb)) (hk₄ b o e), (F₃.keeps hk₄).change hs₅ (Ne.symm hLD) hD₀, (hn₃.keeps hk₄).sameBut hs₅ hCD, fun p hp => ?_, fun j z hj => ?_⟩
        · rcases List.mem_cons.mp hp with rfl | hp
          · exact ⟨hD₅.trans (congrArg some (lst_snoc ys y)), Ne.symm hLD, hD₀⟩
          · have z := N₃ p (List.mem_cons_of_mem _ (List.mem_cons_of_mem _ (List.mem_cons_of_mem _ hp)))
            exact ⟨hs₅.extBut _ _ (offN p hp).2 (hk₄ _ _ z.1), z.2⟩
        · rcases Nat.lt_trichotomy j ys.length with hj' | hj' | hj'
          · rw [List.getElem?_append_left hj'] at hj
            exact hmono _ _ _ _ htk₄ (hys j z hj)
          · subst hj'
            simp at hj
            subst hj
            rw [hyl]
            exact hFy
          · rw [List.getElem?_eq_none (by rw [List.length_append, List.length_singleton]; omega)] at hj
            cases hj
      · obtain rfl : i = n := Nat.le_antisymm hi (Nat.not_lt.mp hlt)
        refine wpAny_with_toks (n := tk) (Nat.le_refl _) (W.done _ _ _ hst' fun h₂ tk₂ hk₂ htk₂ => ?_)
        replace htk₂ : tk ≤ tk₂ := htk₂
        exact hRR _ _ h₂ tk₂ _ ys (fr_but F' hk₂ hIL hI₀) (news_but N' hk₂ fun p hp => by
          rcases List.mem_cons.mp hp with rfl | hp
          · exact Ne.symm hID
          · exact off p hp) (hn'.at' fun o e => hk₂ _ o (by simpa using Ne.symm hIC) e) hC₀ hD₀ (Ne.symm hLC) (Ne.symm hLD) hCD (fun p hp => (offN p hp).1) (Nat.le_trans htk htk₂) hyl
          fun j y e => hmono _ _ _ _ htk₂ (hys j y e)
    · rcases List.mem_cons.mp hp with rfl | hp
      · exact ⟨hacc, Ne.symm hLD, hD₀⟩
      · exact ⟨up _ _ (N p hp).1, (N p hp).2⟩
  exact codeAny_compStart_list (loop _ rfl) (W.self 0 _ _ _ (W.frame _ _ _ hst fun b _ o e => up b o e) (loop _ rfl))
theorem comp_list {elt iter : Expr} {x : Str} {px : Pos} {scope : Scope} {cl : List (Str × Addr)} {pos : Pos} {Q : Value → Shared → Prop} (Fp : Nat → Value → Nat → Prop) (hmono : ∀ i y t t', t ≤ t' → Fp i y t → Fp i y t')
    (F₀ : Fr h₀ L s.heap m) (hh : A.handled = none) (hclos : closureFor scope env = pure cl) (hcell : ∀ y ∈ scope.names, y.2 ≠ .cell) (hkind : scope.kind = .function)
    (hnames : ∀ y ∈ scope.names, y.2 = .local → scope.names.lookup y.1 = some .local) (hx : scope.names.lookup x = some .local)
    (h : wpAny (model prog w) A (eval iter env) (fun xv s₁ => ∃ ax its news, xv = .ref ax ∧ Fr h₀ L s₁.heap m ∧ News h₀ L s₁.heap news ∧ s₁.heap.IsList ax its ∧ its.size ≤ sizeLine ∧
      TurnT prog w A h₀ L m env elt x scope cl s₁ news (fun i v => its[i]? = some v) Fp its.size ∧
      ∀ D h tk ys, Fr h₀ L h m → News h₀ L h ((D, lst ys) :: news) → s₁.toks ≤ tk → ys.length = its.size → (∀ j y, ys[j]? = some y → Fp j y tk) → Q (.ref D) { s₁ with heap := h, toks := tk }) E s)
    (hs : ∀ x, foldedSetIterable iter env x = pure x := by intro _; rfl) :
    wpAny (model prog w) A (eval (.ListComp elt [⟨.Name x px, iter, [], 0⟩] scope pos) env) Q E s := by
  rw [eval_ListComp]
  refine wpAny_comprehension_free (use := none) rfl hs hclos hkind hnames (wpAny_mono h (fun xv s₁ h₁ => ?_) fun _ _ e => e)
  obtain ⟨ax, its, news, rfl, F, N, hl, hsz, R, fin⟩ := h₁
  have hlt : ax < s₁.heap.objs.size := by obtain ⟨_, e, _⟩ := hl; exact Heap.lt_size e
  refine wpAny_pyIter_list hl ?_
  have up : ∀ b o, s₁.heap.get? b = some o → (s₁.heap.push { cls := .type "list_iterator", data := .fields #[.ref ax, .int 0 0] }).get? b = some o := fun b o e => Heap.get?_push_of_some _ e
  refine block_T hmono (Walks.list hh s₁.heap.objs.size ax (Nat.ne_of_lt hlt) its) hsz (fun i h st => by obtain ⟨o, e, _⟩ := st.1; exact ⟨o, e⟩) hcell hkind hx ⟨⟨_, Heap.get?_push_size _ rfl, rfl, rfl⟩, hl.push _⟩ (fun b hb => ?_)
    (F.keeps up) (N.grown up) (Nat.ne_of_lt F.ns.lt) (next_is_new F) (fun p hp => Nat.ne_of_lt (Heap.lt_size (N p hp).1)) R ?_
  · show b < (s₁.heap.push _).objs.size
    rw [Heap.size_push]
    rcases List.mem_cons.mp hb with rfl | hb
    · exact Nat.lt_succ_self _
    · rw [List.mem_singleton.mp hb]; exact Nat.lt_succ_of_lt hlt
  · intro D C h tk m' ys F' N' hn hC₀ hD₀ hCL hDL hCD offC htk hlen hys
    refine ⟨m', hn, fun h'' hs'' => fin D h'' tk ys (F'.change hs'' hCL hC₀) (fun p hp => ?_) htk hlen hys⟩
    refine ⟨hs''.extBut _ _ ?_ (N' p hp).1, (N' p hp).2⟩
    rcases List.mem_cons.mp hp with rfl | hp
    · exact Ne.symm hCD
    · exact offC p hp
/-- over range(n) -/
theorem comp_range {elt iter : Expr} {x : Str} {px : Pos} {scope : Scope} {cl : List (Str × Addr)} {pos : Pos} {Q : Value → Shared → Prop} (Fp : Nat → Value → Nat → Prop) (hmono : ∀ i y t t', t ≤ t' → Fp i y t → Fp i y t')
    (F₀ : Fr h₀ L s.heap m) (hh : A.handled = none) (hclos : closureFor scope env = pure cl) (hcell : ∀ y ∈ scope.names, y.2 ≠ .cell) (hkind : scope.kind = .function)
    (hnames : ∀ y ∈ scope.names, y.2 = .local → scope.names.lookup y.1 = some .local) (hx : scope.names.lookup x = some .local)
    (h : wpAny (model prog w) A (eval iter env) (fun xv s₁ => ∃ (r : Addr) (n : Nat) (t u v : Tok) (news : List (Addr × Obj)), xv = .ref r ∧ Fr h₀ L s₁.heap m ∧ News h₀ L s₁.heap news ∧ IsRange s₁.heap r 0 (n : Int) 1 t u v ∧ Builtin.Range.small 0 (n : Int) 1 = true ∧
      Builtin.Range.rangeSize 0 (n : Int) 1 = ((n : Nat) : Int) ∧ n ≤ sizeLine ∧
      TurnT prog w A h₀ L m env elt x scope cl s₁ news (fun i v => ∃ t, v = .int (i : Int) t) Fp n ∧
      ∀ D h tk ys, Fr h₀ L h m → News h₀ L h ((D, lst ys) :: news) → s₁.toks ≤ tk → ys.length = n → (∀ j y, ys[j]? = some y → Fp j y tk) → Q (.ref D) { s₁ with heap := h, toks := tk }) E s)
    (hs : ∀ x, foldedSetIterable iter env x = pure x := by intro _; rfl) :
    wpAny (model prog w) A (eval (.ListComp elt [⟨.Name x px, iter, [], 0⟩] scope pos) env) Q E s := by
  rw [eval_ListComp]
  refine wpAny_comprehension_free (use := none) rfl hs hclos hkind hnames (wpAny_mono h (fun xv s₁ h₁ => ?_) fun _ _ e => e)
  obtain ⟨r, n, t, u, v, news, rfl, F, N, hr, hsm, hn, hsz, R, fin⟩ := h₁
  refine wpAny_pyIter_range hr hsm ?_
  refine block_T hmono (range_walks hh 0 n) hsz (fun i h st => ⟨_, st⟩) hcell hkind hx (by show IsRangeIter _ _ _ _ _; rw [hn]; simpa using Heap.get?_push_size _ rfl) (fun b hb => ?_)
    (F.keeps fun _ _ e => Heap.get?_push_of_some _ e) (N.grown fun _ _ e => Heap.get?_push_of_some _ e) (Nat.ne_of_lt F.ns.lt) (next_is_new F) (fun p hp => Nat.ne_of_lt (Heap.lt_size (N p hp).1))
    (fun i v I oI C oC D oD m₂ h tk E' h1 h2 h3 => R i v I oI C oC D oD m₂ h tk E' h1 h2 (by obtain ⟨t, e⟩ := h3; exact ⟨t, by rw [e]; simp⟩)) ?_
  · rw [List.mem_singleton.mp hb]
    show s₁.heap.objs.size < (s₁.heap.push _).objs.size
    rw [Heap.size_push]; exact Nat.lt_succ_self _
  · intro D C h tk m' ys F' N' hnC hC₀ hD₀ hCL hDL hCD offC htk hlen hys
    refine ⟨m', hnC, fun h'' hs'' => fin D h'' tk ys (F'.change hs'' hCL hC₀) (fun p hp => ?_) htk hlen hys⟩
    refine ⟨hs''.extBut _ _ ?_ (N' p hp).1, (N' p hp).2⟩
    rcases List.mem_cons.mp hp with rfl | hp
    · exact Ne.symm hCD
    · exact offC p hp
end
end
local macro_rules | `(tactic| walk_at "call builtin:hex") => `(tactic| (k_here; (with_unfolding_all refine hex_at (by assumption) ?_)))
local macro_rules | `(tactic| walk_at "call builtin:dict.get") => `(tactic| (k_here; (with_unfolding_all refine get_tok (Box.out (by assumption)) (by kt_keeps) (by assumption) ?_)))
local macro_rules | `(tactic| walk_at "execs cons") => `(tactic| ((with_reducible refine wpAny_execs_cons ?_); try dsimp only))
local macro_rules | `(tactic| walk_at "execs nil") => `(tactic| ((with_reducible refine wpAny_execs_nil ?_); try dsimp only))
section
open PySem PySem.W PySem.Calls PyProof.Rows
theorem freshL11 : True := by
  w_top off
  trivial
local macro_rules | `(tactic| walk_at "exec For Name Call cons cons") => `(tactic| (k_here; (with_unfolding_all refine wpAny_For ?_)))
structure PSt where
  f : Int
  tf : Tok
  vs : List Value
  l : List (Str × Tok)
  ep : Nat
noncomputable def TokOk (n0 : Nat) (p : Str × Tok) : Prop := ∃ k u, k < 32 ∧ p = (nameAt k, nameTok k u) ∧ n0 ≤ u
noncomputable def plUp (M i : Nat) : List Nat := (List.range i).filter fun k => M.testBit k
theorem plUp_succ (M i : Nat) : plUp M (i + 1) = plUp M i ++ if M.testBit i then [i] else [] := by
  unfold plUp
  rw [List.range_succ, List.filter_append]
  congr 1
  simp [List.filter]
  split <;> simp_all
theorem plUp_len (M i : Nat) : (plUp M i).length ≤ i := by
  unfold plUp
  exact Nat.le_trans (List.length_filter_le _ _) (by simp)
theorem top_split (M i : Nat) : M / 2 ^ i * 2 ^ i = M / 2 ^ (i + 1) * 2 ^ (i + 1) + if M.testBit i then 2 ^ i else 0 := by
  rw [Nat.testBit_eq_decide_div_mod_eq, Nat.pow_succ, ← Nat.div_div_eq_div_mul]
  have h := Nat.div_add_mod (M / 2 ^ i) 2
  have h2 : M / 2 ^ i % 2 = 0 ∨ M / 2 ^ i % 2 = 1 := by omega
  rcases h2 with h2 | h2
  · rw [h2] at h ⊢
    simp only [Nat.add_zero] at h
    simp
    rw [← Nat.mul_assoc, Nat.mul_right_comm, Nat.mul_comm _ 2, h]
  · rw [h2] at h ⊢
    simp
    rw [← Nat.mul_assoc, Nat.mul_right_comm, Nat.mul_comm _ 2]
    conv => lhs; rw [← h]
    rw [Nat.add_mul, Nat.one_mul]
theorem band_top (M i : Nat) : Builtin.bitAnd ((M / 2 ^ i * 2 ^ i : Nat) : Int) (1 * 2 ^ i) = if M.testBit i then 2 ^ i else 0 := by
  have e : (1 * 2 ^ i : Int) = ((2 ^ i : Nat) : Int) := by simp
  rw [e]
  have d1 : decide (0 ≤ ((M / 2 ^ i * 2 ^ i : Nat) : Int)) = true := decide_eq_true (by omega)
  have d2 : decide (0 ≤ ((2 ^ i : Nat) : Int)) = true := decide_eq_true (Int.natCast_nonneg _)
  unfold Builtin.bitAnd
  rw [d1, d2]
  show ((((M / 2 ^ i * 2 ^ i : Nat) : Int).toNat &&& ((2 ^ i : Nat) : Int).toNat : Nat) : Int) = _
  rw [Int.toNat_natCast, Int.toNat_natCast]
  have h : M / 2 ^ i * 2 ^ i &&& 2 ^ i = if M.testBit i then 2 ^ i else 0 := by
    apply Nat.eq_of_testBit_eq
    intro j
    rw [Nat.testBit_and, Nat.testBit_two_pow, Nat.mul_comm, Nat.testBit_two_pow_mul]
    by_cases hj : i = j
    · subst hj
      have ht := Nat.testBit_eq_decide_div_mod_eq (x := M) (i := i)
      simp [Nat.testBit_div_two_pow]
      split <;> simp_all
    · simp [hj]
      split <;> simp [Nat.testBit_two_pow, hj]
  rw [h]
  split <;> simp
theorem plUp_top {M i : Nat} (hi : i ≤ 32) (h : M < 2 ^ i) : plUp M 32 = plUp M i := by
  obtain ⟨d, hd⟩ : ∃ d, 32 = i + d := ⟨32 - i, by omega⟩
  rw [hd]
  clear hi hd
  induction d with
  | zero => rfl
  | succ d ih =>
    rw [← Nat.add_assoc, plUp_succ, ih, Nat.testBit_lt_two_pow (Nat.lt_of_lt_of_le h (Nat.pow_le_pow_right (by decide) (by omega)))]
    simp
noncomputable def zeroText : Str := baseText "0x" 16 0
noncomputable def namesOf (M : Nat) : List Str := if M = 0 then [zeroText] else (plUp M 32).map nameAt
theorem sumLen_names {l : List Nat} (h : ∀ k ∈ l, k < 32) : ((l.map nameAt).map (·.length)).sum ≤ 20 * l.length := by
  induction l with
  | nil => simp
  | cons a r ih =>
    have := nameAt_len (h a List.mem_cons_self)
    have := ih fun k hk => h k (List.mem_cons_of_mem _ hk)
    simp only [List.map_cons, List.sum_cons, List.length_cons]
    omega
theorem plUp_lt {M i k : Nat} (h : k ∈ plUp M i) : k < i := by
  unfold plUp at h
  exact List.mem_range.mp (List.mem_filter.mp h).1
theorem flags_spec {w : World} {A : Around} {E : Value → Shared → Prop} {s : Shared} {Q : Value → Shared → Prop} (G : Gnd w 3 A s.heap []) (M : Nat) (tM : Tok) (hM : M < 2 ^ 32)
  (hret : ∀ t h' tk', s.heap.StaysIn h' → s.toks ≤ tk' → ((∃ i u, plUp M 32 = [i] ∧ t = nameTok i u ∧ s.toks ≤ u ∧ u < tk') ∨ s.toks ≤ t ∧ t < tk') → Q (.str (Txt.join (Str.ofString ", ") (namesOf M)) t) { s with heap := h', toks := tk' }) :
  wpAny (model PySem.Challenge.rw_yf0006_01.row.prog w) A (call (.ref 71) [.int (M : Int) tM]) Q E s := by
  have mk9 := kstMark
  have bM := Box.mk hM
  clear hM
  walk_at "mine enter"
  rename Fr _ _ _ _ => F0
  change Fr _ _ _ (fun y => List.lookup y [(Str.ofString "flags", Value.int (M : Int) tM)]) at F0
  have bX := Box.mk ‹(Mine.hd.heap_39 w.params).In s.heap›
  (repeat' ( (fail_if_success (with_reducible show wpAny _ _ (call (Value.type "range") _) _ _ _)); (first | (k_unfold; (try dsimp only)) | (k_end; wrow_close) | (dsimp only; walk1) | walk1 | (leave1; walk_say "STEP leave1"; try dsimp only) | fail "no step")))
  refine wpAny_with_toks (n := s.toks) (by dsimp only; omega) ?_
  walk1
  dsimp only
  intro htk0
  (repeat' ( (fail_if_success (with_reducible show wpAny _ _ (pyIter _) _ _ _)); (fail_if_success (with_reducible show KswEnd _ _ _ _ _ _ _ _ _ _ _ _)); (fail_if_success (with_reducible show InvEndN _ _ _ _ _ _ _)); (fail_if_success (with_reducible show wpAny _ _ (exec (Stmt.While _ _ _ _) _) _ _ _)); (first | (k_unfold; (try dsimp only)) | (k_end; wrow_close) | (dsimp only; walk1) | walk1 | (leave1; walk_say "STEP leave1"; try dsimp only) | fail "no step")))
  rename Fr _ _ _ _ => F1
  rename News _ _ _ _ => N1
  rename IsRange _ _ _ _ _ _ _ _ => R1
  refine' range_else (n0 := s.toks) ?hn0 (σ := PSt) (n := 32) (fun c => [(_, listOf c.vs.toArray c.ep)]) (fun c => [(Str.ofString "flags", .int c.f c.tf)]) (fun c => c.vs = strValues c.l) [Str.ofString "flag"]
    (fun i c => c.f = ((M / 2 ^ i * 2 ^ i : Nat) : Int) ∧ c.l.map (·.1) = (plUp M i).map nameAt ∧ (M ≠ 0 → c.f ≠ 0)) ⟨M, ?tf, [], [], 0⟩ rfl R1 (by decide) (by rfl) rfl rfl F1 N1 rfl ?hk ?hP ?turn ?done ?hE
  case hn0 => exact htk0
  case hk => kst_all
  case hP => exact ⟨by simp, rfl, fun h => by simpa using h⟩
  case hE => passes_own
  case turn =>
    rintro ⟨f, tf, vs, l, ep⟩ i t u h tk own htk hi hoff hf ⟨hP1, hP2, hP3⟩ F2 N2
    clear F1 N1 R1
    dsimp only at hP1 hP2 hP3 F2 N2 hf
    have hband : Builtin.bitAnd f (1 * 2 ^ i) = if M.testBit i then 2 ^ i else 0 := by rw [hP1, band_top]
    have hxl : l.length ≤ 32 := by
      have := congrArg List.length hP2
      simp only [List.length_map] at this
      rw [this]; exact Nat.le_trans (plUp_len M i) (Nat.le_of_lt hi)
    have hvl : vs.length ≤ 32 := by rw [hf]; simpa [strValues] using hxl
    simp only [List.map_cons, List.map_nil] at hoff
    simp only [List.cons_append, List.nil_append] at N2
    have bP1 := Box.mk hP1
    have bP2 := Box.mk hP2
    have bP3 := Box.mk hP3
    have bband := Box.mk hband
    have btk := Box.mk htk
    have bf := Box.mk hf
    clear hP1 hP2 hP3 hband htk hf
    dsimp only
    k_unmd
    k_fold
    (repeat' ( (fail_if_success (with_reducible show wpAny _ _ (call (Value.builtin "str.join") _) _ _ _)); (fail_if_success (with_reducible show InvEndN _ _ _ _ _ _ _)); (first | (k_unfold; (try dsimp only)) | (k_end; wrow_close) | (dsimp only; walk1) | walk1 | (leave1; walk_say "STEP leave1"; try dsimp only) | fail "no step")))
    · rename Builtin.bitXor f _ ≠ 0 => hx
      rename Builtin.bitAnd f _ ≠ 0 => ha
      rename Fr _ _ _ _ => F3
      rename News _ _ _ _ => N3
      simp only [List.push_toArray] at N3
      have hbit : M.testBit i = true := by
        cases hb : M.testBit i with
        | true => rfl
        | false => exact absurd (bband.out.trans (by rw [hb]; rfl)) ha
      have hxor : Builtin.bitXor f (1 * 2 ^ i) = ((M / 2 ^ (i + 1) * 2 ^ (i + 1) : Nat) : Int) := by
        rw [bitXor_and, bband.out, hbit, bP1.out, top_split M i, hbit]
        simp
        omega
      (try k_unfold)
      (try dsimp only [InvPostN])
      refine' kst_end ⟨_, _, vs ++ [Value.str (nameAt i) _], l ++ [(nameAt i, _)], ep + 1⟩ F3 N3 (by kst_in) (by intro p hp; simp [hp]) rfl (by rw [bf.out]; simp [strValues]; rfl) ?_ ?_ ?_
      all_goals (try kst_all)
      · walk_at "mine same"
      · refine ⟨hxor, ?_, fun _ => hx⟩
        show (l ++ [(nameAt i, _)]).map (fun p : Str × Tok => p.1) = _
        rw [List.map_append, bP2.out, plUp_succ, hbit]
        simp
    · rename Builtin.bitXor f _ = 0 => hx
      rename Builtin.bitAnd f _ ≠ 0 => ha
      rename Fr _ _ _ _ => F3
      rename News _ _ _ _ => N3
      simp only [List.push_toArray] at N3
      have hbit : M.testBit i = true := by
        cases hb : M.testBit i with
        | true => rfl
        | false => exact absurd (bband.out.trans (by rw [hb]; rfl)) ha
      have hxor : Builtin.bitXor f (1 * 2 ^ i) = ((M / 2 ^ (i + 1) * 2 ^ (i + 1) : Nat) : Int) := by
        rw [bitXor_and, bband.out, hbit, bP1.out, top_split M i, hbit]
        simp
        omega
      have hz : M < 2 ^ (i + 1) := by
        have h0 : M / 2 ^ (i + 1) * 2 ^ (i + 1) = 0 := by
          have := hxor.symm.trans hx
          exact_mod_cast this
        have hp : 0 < 2 ^ (i + 1) := Nat.pow_pos (by decide)
        rcases Nat.mul_eq_zero.mp h0 with h1 | h1
        · exact (Nat.div_eq_zero_iff_lt hp).mp h1
        · omega
      have hM0 : M ≠ 0 := by rintro rfl; simp at hbit
      have hpl : plUp M 32 = plUp M i ++ [i] := by
        rw [plUp_top (by omega) hz, plUp_succ, hbit]
        simp
      have hnames : ∀ u : Tok, (l ++ [(nameAt i, u)]).map (·.1) = namesOf M := fun u => by
        rw [namesOf, if_neg hM0, hpl, List.map_append, bP2.out]
        simp
      have ht0 := btk.out
      have hF3 := Box.mk F3.keep
      refine join_tok (l := l ++ [(nameAt i, nameTok i (tk + 1 + 1 + 1 + 1))]) ⟨_, (N3 _ List.mem_cons_self).1, rfl, ep + 1, ?hd⟩ ?hok ?h1 ?h2
      case hd =>
        show Data.seq (vs ++ [Value.str (nameAt i) (nameTok i (tk + 1 + 1 + 1 + 1))]).toArray _ = _
        rw [bf.out]
        simp [strValues]
      case hok =>
        rw [hnames]
        refine joinOk_of ?_
        rw [namesOf, if_neg hM0, List.length_map]
        have h1 := sumLen_names (l := plUp M 32) fun k hk => plUp_lt hk
        have h2 := plUp_len M 32
        have h3 : (Str.ofString ", ").length = 2 := by decide +kernel
        rw [h3]
        omega
      case h1 =>
        intro n u e
        rw [hnames]
        have hl : l = [] := by
          have := congrArg List.length e
          simp at this
          exact this
        have hp0 : plUp M i = [] := by
          have := bP2.out
          rw [hl] at this
          simpa using this.symm
        rw [hl] at e
        injection e with e1 e2
        injection e1 with e3 e4
        exact hret _ _ _ hF3.out (by first | omega | (dsimp only; omega)) (.inl ⟨i, tk + 1 + 1 + 1 + 1, by rw [hpl, hp0]; rfl, e4.symm, by omega, by change (tk + 1 + 1 + 1 + 1 : Nat) < tk + 1 + 1 + 1 + 1 + 1 + 1 + 1 + 1 + 1; omega⟩)
      case h2 =>
        intro _
        rw [hnames]
        exact hret _ _ _ hF3.out (by dsimp only; omega) (.inr ⟨by dsimp only; omega, Nat.lt_succ_self _⟩)
    · rename Builtin.bitAnd f _ = 0 => ha
      rename Fr _ _ _ _ => F3
      rename News _ _ _ _ => N3
      have hbit : M.testBit i = false := by
        cases hb : M.testBit i with
        | false => rfl
        | true =>
          have h1 := bband.out
          rw [hb, if_pos rfl] at h1
          exact absurd (h1.symm.trans ha) (by have := Int.pow_pos (n := 2) (m := i) (by decide); omega)
      (try k_unfold)
      (try dsimp only [InvPostN])
      refine' kst_end ⟨f, _, vs, l, ep⟩ F3 N3 (by kst_in) (by intro p hp; simp [hp]) rfl bf.out ?_ ?_ ?_
      all_goals (try kst_all)
      · walk_at "mine same"
      · refine ⟨?_, ?_, bP3.out⟩
        · show f = _
          rw [bP1.out, top_split M i, hbit]
          simp
        · show l.map (·.1) = _
          rw [bP2.out, plUp_succ, hbit]
          simp
  case done =>
    rintro ⟨f, tf, vs, l, ep⟩ u h tk htk hf ⟨hP1, hP2, hP3⟩ F2 N2
    clear F1 N1 R1
    dsimp only at hP1 hP2 hP3 F2 N2 hf
    have hf0 : f = 0 := by
      rw [hP1, (Nat.div_eq_zero_iff_lt (Nat.pow_pos (by decide))).mpr bM.out]
      simp
    have hM0 : M = 0 := Classical.byContradiction fun h => hP3 h hf0
    subst hM0 hf0
    have hx0 : l = [] := by
      have := hP2
      rw [show plUp 0 32 = [] by decide] at this
      simpa using this
    subst hx0
    subst hf
    have btk := Box.mk htk
    clear hP1 hP2 hP3 htk
    dsimp only [strValues, List.map_nil] at F2 N2
    dsimp only
    k_unmd
    (repeat' ( (fail_if_success (with_reducible show wpAny _ _ (call (Value.builtin "str.join") _) _ _ _)); (fail_if_success (with_reducible show InvEndN _ _ _ _ _ _ _)); (first | (k_unfold; (try dsimp only)) | (k_end; wrow_close) | (dsimp only; walk1) | walk1 | (leave1; walk_say "STEP leave1"; try dsimp only) | fail "no step")))
    rename Fr _ _ _ _ => F3
    rename News _ _ _ _ => N3
    have ht0 := btk.out
    have hF3 := Box.mk F3.keep
    refine join_tok (l := [(zeroText, tk)]) ⟨_, (N3 _ List.mem_cons_self).1, rfl, ep + 1, ?hdz⟩ ?hokz ?h1z ?h2z
    case hdz => rfl
    case hokz => exact (by decide +kernel : JoinOk (Str.ofString ", ") [zeroText] = true)
    case h1z =>
      intro n u e
      injection e with e1 e2
      injection e1 with e3 e4
      subst e4
      exact hret _ _ _ hF3.out (by change (s.toks : Nat) ≤ tk + 1 + 1; omega) (.inr ⟨ht0, by change (tk : Nat) < tk + 1 + 1; omega⟩)
    case h2z => intro h; exact absurd rfl (h _ _)
end
section
open PySem PySem.W PySem.Calls PyProof.Rows
theorem freshL12 : True := by
  w_top off
  trivial
theorem Fr.keep_list {h₀ h : Heap} {L D : Addr} {m : Str → Option Value} {its : Array Value} (F : Fr h₀ L h m) (hl : h₀.IsList D its) : h.IsList D its := let ⟨o, e, r⟩ := hl; ⟨o, F.keep _ _ e, r⟩
section
variable {M : Model} {A : Around} {E : Value → Shared → Prop} {s : Shared}
theorem is_skip {y z : Str} {u v : Tok} {Q : Value → Shared → Prop} (h1 : u ≠ 0) (h2 : v ≠ 0) (h3 : u ≠ v) (h4 : y ≠ z) (h : Q (.bool false) s) : wpAny M A (compareOp .Is (.str y u) (.str z v)) Q E s := by
  show wpAny M A (do let b ← isSame (.str y u) (.str z v); pure (.bool b)) Q E s
  rw [isSame_str_other y z u v (by simp [h1, h2]) (by simp [h3]) (by simp [h4])]
  exact wpAny_bind (wpAny_pure (wpAny_pure h))
theorem is_hit {y z : Str} {u v : Tok} {Q : Value → Shared → Prop} (h1 : u ≠ 0) (h2 : v ≠ 0) (hb : NoneBooked s.heap) (h : ∀ b, Q (.bool b) s) : wpAny M A (compareOp .Is (.str y u) (.str z v)) Q E s := by
  show wpAny M A (do let b ← isSame (.str y u) (.str z v); pure (.bool b)) Q E s
  exact wpAny_bind (wpAny_isSame_str (by simp [h1, h2]) hb fun b => wpAny_pure (h b))
end
local macro_rules | `(tactic| walk_at "exec For Tuple Call cons cons") => `(tactic| (k_here; (with_unfolding_all refine wpAny_For ?_)))
local macro_rules | `(tactic| walk_at "call type:enumerate") => `(tactic| (k_here; (with_unfolding_all refine call_enumerate_list (Fr.keep_list (by assumption) (Box.out (by assumption))) ?_); intro hE' he1 he2 he3 he4))
local macro_rules | `(tactic| walk_at "compareOp Is") => `(tactic| (k_here; first | refine is_skip (by assumption) (Box.out (by assumption)) (by assumption) (by assumption) ?_ | (refine is_hit (by assumption) (Box.out (by assumption)) (none_booked (Box.out (by assumption)) (by kt_keeps)) ?_; rintro (_ | _))))
local macro_rules | `(tactic| walk_at "compareOp Is str str") => `(tactic| (k_here; first | refine is_skip (by assumption) (Box.out (by assumption)) (by assumption) (by assumption) ?_ | (refine is_hit (by assumption) (Box.out (by assumption)) (none_booked (Box.out (by assumption)) (by kt_keeps)) ?_; rintro (_ | _))))
theorem index_spec {w : World} {A : Around} {E : Value → Shared → Prop} {s : Shared} {Q : Value → Shared → Prop} (G : Gnd w 1 A s.heap []) (D : Addr) (vs : List Value) (word : Str) (tw : Tok) (k : Nat) (hk : k < vs.length)
  (hD : s.heap.IsList D vs.toArray) (htw : tw ≠ 0)
  (hskip : ∀ i, i < k → ∃ n t, vs[i]? = some (.str n t) ∧ n ≠ word ∧ t ≠ 0 ∧ t ≠ tw) (hhit : ∃ t, vs[k]? = some (.str word t) ∧ t ≠ 0)
  (hret : ∀ t h' tk', s.heap.StaysIn h' → Q (.int (k : Int) t) { s with heap := h', toks := tk' }) :
  wpAny (model PySem.Challenge.rw_yf0006_01.row.prog w) A (call (.ref 21) [.ref D, .str word tw]) Q E s := by
  have mk9 := kstMark
  have bD := Box.mk hD
  have bS := Box.mk hskip
  have bH := Box.mk hhit
  have bT := Box.mk htw
  clear hD hskip hhit htw
  walk_at "mine enter"
  rename Fr _ _ _ _ => F0
  have bX := Box.mk ‹(Mine.hd.heap_39 w.params).In s.heap›
  change Fr _ _ _ (fun y => List.lookup y [(Str.ofString "b", Value.str word tw), (Str.ofString "a", Value.ref D)]) at F0
  generalize hTK : s.toks + _ = TK
  (repeat' ( (fail_if_success (with_reducible show wpAny _ _ (pyIter _) _ _ _)); (fail_if_success (with_reducible show KswEnd _ _ _ _ _ _ _ _ _ _ _ _)); (fail_if_success (with_reducible show InvEndN _ _ _ _ _ _ _)); (fail_if_success (with_reducible show wpAny _ _ (exec (Stmt.While _ _ _ _) _) _ _ _)); (first | (k_unfold; (try dsimp only)) | (k_end; wrow_close) | walk1 | (dsimp only; walk1) | (leave1; walk_say "STEP leave1"; try dsimp only) | fail "no step")))
  rename IsEnum _ _ _ _ _ => e1
  rename Heap.IsListIter _ _ _ _ => e2
  rename ∀ (b : Addr) (o : Obj), _ → _ => e4
  dsimp only at e1 e2 e4
  have F1 := F0.keeps e4
  refine wpAny_pyIter_enum e1 (enum_find (k := k) rfl (by decide) rfl rfl rfl (Nat.succ_ne_self _) ?q1 ?q2 ?q3 ?q4 e1 e2 bD.out F1 (by simpa using hk) ?skip ?hitk ?hE)
  case q1 => exact Nat.le_succ_of_le (Nat.le_of_lt (Nat.lt_of_le_of_lt F0.above F0.ns.lt))
  case q2 => exact Nat.le_of_lt (Nat.lt_of_le_of_lt F0.above F0.ns.lt)
  case q3 => exact Nat.ne_of_lt (Nat.lt_succ_of_lt F0.ns.lt)
  case q4 => exact Nat.ne_of_lt F0.ns.lt
  case hE => passes_own
  case skip =>
    intro i v t m' h tk hik hv hoth hmi hmj F2
    obtain ⟨n, tn, hvn, hne, ht0, htw⟩ := bS.out i hik
    have ev : v = .str n tn := by simpa [hvn] using hv.symm
    subst ev
    clear F0 F1 e1 e2 e4
    have em : m' = (fun y => if y = Str.ofString "j" then some (Value.str n tn) else if y = Str.ofString "i" then some (.int (i : Int) t) else List.lookup y [(Str.ofString "b", Value.str word tw), (Str.ofString "a", Value.ref D)]) := by
      refine funext fun y => ?_
      by_cases h1 : y = Str.ofString "j"
      · rw [if_pos h1, h1]; exact hmj
      · by_cases h2 : y = Str.ofString "i"
        · rw [if_neg h1, if_pos h2, h2]; exact hmi
        · rw [if_neg h1, if_neg h2]; exact hoth y h2 h1
    rw [em] at F2
    clear em hoth hmi hmj
    dsimp only
    k_unmd
    k_fold
    (repeat' ( (fail_if_success (with_reducible show wpAny _ _ (pyIter _) _ _ _)); (fail_if_success (with_reducible show KswEnd _ _ _ _ _ _ _ _ _ _ _ _)); (fail_if_success (with_reducible show InvEndN _ _ _ _ _ _ _)); (fail_if_success (with_reducible show wpAny _ _ (exec (Stmt.While _ _ _ _) _) _ _ _)); (first | (k_unfold; (try dsimp only)) | (k_end; wrow_close) | walk1 | (dsimp only; walk1) | (leave1; walk_say "STEP leave1"; try dsimp only) | fail "no step")))
    all_goals exact absurd (by simpa using ‹(n == word) = true›) hne
  case hitk =>
    intro v t m' h tk hv hoth hmi hmj F2
    obtain ⟨tn, hvn, ht0⟩ := bH.out
    have ev : v = .str word tn := by simpa [hvn] using hv.symm
    subst ev
    clear F0 F1 e1 e2 e4
    have em : m' = (fun y => if y = Str.ofString "j" then some (Value.str word tn) else if y = Str.ofString "i" then some (.int (k : Int) t) else List.lookup y [(Str.ofString "b", Value.str word tw), (Str.ofString "a", Value.ref D)]) := by
      refine funext fun y => ?_
      by_cases h1 : y = Str.ofString "j"
      · rw [if_pos h1, h1]; exact hmj
      · by_cases h2 : y = Str.ofString "i"
        · rw [if_neg h1, if_pos h2, h2]; exact hmi
        · rw [if_neg h1, if_neg h2]; exact hoth y h2 h1
    rw [em] at F2
    clear em hoth hmi hmj
    dsimp only
    k_unmd
    k_fold
    (repeat' ( (fail_if_success (with_reducible show wpAny _ _ (pyIter _) _ _ _)); (fail_if_success (with_reducible show KswEnd _ _ _ _ _ _ _ _ _ _ _ _)); (fail_if_success (with_reducible show InvEndN _ _ _ _ _ _ _)); (fail_if_success (with_reducible show wpAny _ _ (exec (Stmt.While _ _ _ _) _) _ _ _)); (first | (k_unfold; (try dsimp only)) | (k_end; wrow_close) | walk1 | (dsimp only; walk1) | (leave1; walk_say "STEP leave1"; try dsimp only) | fail "no step")))
    all_goals first | exact hret _ _ _ F2.keep | exact absurd ‹(word == word) = false› (by simp) | exact Value.none
end
section
open PySem PySem.W PySem.Calls PyProof.Rows PySem.Spec PyProof.V
theorem freshPl : True := by
  w_top off
  trivial
theorem name_free {i : Nat} (hi : i < 32) : (44 : Nat) ∉ (nameAt i).cps.toList := by
  have h : ∀ k : Fin 32, (44 : Nat) ∉ (nameAt k).cps.toList := by decide +kernel
  exact h ⟨i, hi⟩
theorem name_not_zero {i : Nat} (hi : i < 32) : nameAt i ≠ Str.ofString "0x0" := by
  have h : ∀ k : Fin 32, nameAt k ≠ Str.ofString "0x0" := by decide +kernel
  exact h ⟨i, hi⟩
theorem plUp_mem {M n k : Nat} : k ∈ plUp M n ↔ k < n ∧ M.testBit k = true := by
  unfold plUp
  simp [List.mem_filter]
theorem plUp_ne {M : Nat} (h : M ≠ 0) (hM : M < 2 ^ 32) : plUp M 32 ≠ [] := by
  intro e
  apply h
  apply Nat.eq_of_testBit_eq
  intro k
  rw [Nat.zero_testBit]
  rcases Nat.lt_or_ge k 32 with hk | hk
  · cases hb : M.testBit k with
    | false => rfl
    | true =>
      have : k ∈ plUp M 32 := plUp_mem.mpr ⟨hk, hb⟩
      rw [e] at this
      cases this
  · exact Nat.testBit_lt_two_pow (Nat.lt_of_lt_of_le hM (Nat.pow_le_pow_right (by decide) hk))
theorem split_names {M : Nat} (h : M ≠ 0) (hM : M < 2 ^ 32) : Txt.split (Txt.join (Str.ofString ", ") (namesOf M)) (Str.ofString ", ") = (plUp M 32).map nameAt := by
  rw [sepC_eq, txt_join, namesOf, if_neg h]
  refine split_join (fun e => plUp_ne h hM (List.map_eq_nil_iff.mp e)) fun p hp => ?_
  obtain ⟨k, hk, rfl⟩ := List.mem_map.mp hp
  exact name_free (plUp_lt hk)
theorem told_zero {M : Nat} (hM : M < 2 ^ 32) (e : (Txt.join (Str.ofString ", ") (namesOf M) == Str.ofString "0x0") = true) : M = 0 := by
  refine Classical.byContradiction fun h => ?_
  have h1 := split_names h hM
  rw [eq_of_beq e] at h1
  have h2 : Txt.split (Str.ofString "0x0") (Str.ofString ", ") = [Str.ofString "0x0"] := by
    have h3 : Str.join sepC [Str.ofString "0x0"] = Str.ofString "0x0" := by decide +kernel
    rw [sepC_eq]
    have h4 := split_join (xs := [Str.ofString "0x0"]) (by simp) (by decide +kernel)
    rw [h3] at h4
    exact h4
  rw [h2] at h1
  have h5 : Str.ofString "0x0" ∈ (plUp M 32).map nameAt := h1 ▸ List.mem_singleton.mpr rfl
  obtain ⟨k, hk, e⟩ := List.mem_map.mp h5
  exact name_not_zero (plUp_lt hk) e
theorem told_not {M : Nat} (e : (Txt.join (Str.ofString ", ") (namesOf M) == Str.ofString "0x0") = false) : M ≠ 0 := by
  rintro rfl
  have : (Txt.join (Str.ofString ", ") (namesOf 0) == Str.ofString "0x0") = true := by decide +kernel
  rw [this] at e
  cases e
theorem told_len {M : Nat} (hM : M ≠ 0) : (Txt.join (Str.ofString ", ") (namesOf M)).length ≤ 1000 := by
  rw [namesOf, if_neg hM, sepC_eq, txt_join]
  have h : ∀ l : List Nat, (∀ k ∈ l, k < 32) → (Str.join sepC (l.map nameAt)).length ≤ 22 * l.length := by
    intro l
    induction l with
    | nil => intro _; decide
    | cons a r ih =>
      intro hl
      have ha := nameAt_len (hl a List.mem_cons_self)
      have ih' := ih fun k hk => hl k (List.mem_cons_of_mem _ hk)
      cases r with
      | nil => show (nameAt a).length ≤ _; simp; omega
      | cons b r =>
        show (nameAt a ++ sepC ++ Str.join sepC ((b :: r).map nameAt)).length ≤ _
        have e : ∀ p q : Str, (p ++ q).length = p.length + q.length := fun p q => by simp [Str.length, Str.cps_append]
        rw [e, e, List.length_cons]
        have : sepC.length = 2 := by decide
        omega
  have h1 := h (plUp M 32) fun k hk => plUp_lt hk
  have h2 := plUp_len M 32
  omega
theorem tok_skip {j k : Nat} {u uj T0 ta tb : Nat} (hjk : j < k) (h300 : 300 ≤ T0) (h1 : T0 ≤ ta) (h2 : ta ≤ uj) (h3 : uj < tb)
    (hu : (∃ u' : Nat, u = nameTok k u' ∧ T0 ≤ u' ∧ u' < ta) ∨ (T0 ≤ u ∧ u < ta) ∨ tb ≤ u) : nameTok j uj ≠ u := by
  have e : nameTok j uj = if j < 10 then 251 + 2 * j else uj := rfl
  rw [e]
  rcases hu with ⟨u', rfl, h4, h5⟩ | ⟨h4, h5⟩ | h4
  · have e2 : nameTok k u' = if k < 10 then 251 + 2 * k else u' := rfl
    rw [e2]
    change (_ : Nat) ≠ _
    split <;> split <;> omega
  · change (_ : Nat) ≠ _
    split <;> omega
  · change (_ : Nat) ≠ _
    split <;> omega
theorem tok_pos {k : Nat} {u T0 ta tb : Nat} (h300 : 300 ≤ T0) (h1 : T0 ≤ ta) (h2 : ta ≤ tb)
    (hu : (∃ u' : Nat, u = nameTok k u' ∧ T0 ≤ u' ∧ u' < ta) ∨ (T0 ≤ u ∧ u < ta) ∨ tb ≤ u) : u ≠ 0 := by
  rcases hu with ⟨u', rfl, h4, h5⟩ | ⟨h4, h5⟩ | h4
  · have e2 : nameTok k u' = if k < 10 then 251 + 2 * k else u' := rfl
    rw [e2]
    change (_ : Nat) ≠ _
    split <;> omega
  · change (_ : Nat) ≠ _
    omega
  · change (_ : Nat) ≠ _
    omega
theorem tok_nz {k : Nat} {u T0 : Nat} (h300 : 300 ≤ T0) (h1 : T0 ≤ u) : nameTok k u ≠ 0 := by
  have e2 : nameTok k u = if k < 10 then 251 + 2 * k else u := rfl
  rw [e2]
  change (_ : Nat) ≠ _
  split <;> omega
end
section
open PySem PySem.W PySem.Calls PyProof.Rows
theorem freshL13 : True := by
  w_top off
  trivial
theorem ints_of_get : ∀ {ys : List Value} {ns : List Int}, ys.length = ns.length → (∀ (j : Nat) (y : Value), ys[j]? = some y → ∃ n t, ns[j]? = some n ∧ y = Value.int n t) → IntsAre ys ns
  | [], [], _, _ => .nil
  | y :: ys, n :: ns, hl, h => by
    obtain ⟨n', t, h1, rfl⟩ := h 0 y rfl
    have e : n = n' := Option.some.inj h1
    subst e
    exact .cons _ _ (ints_of_get (by simpa using hl) fun j z hz => h (j + 1) z (by simpa using hz))
  | [], _ :: _, hl, _ => by simp at hl
  | _ :: _, [], hl, _ => by simp at hl
theorem places_spec {w : World} {A : Around} {E : Value → Shared → Prop} {s : Shared} {Q : Value → Shared → Prop} (G : Gnd w 4 A s.heap []) (M : Nat) (tM : Tok) (hM : M < 2 ^ 32) (h300 : 300 ≤ s.toks)
  (hret : ∀ (D : Addr) (ys : List Value) ep h' tk', s.heap.StaysIn h' → h'.get? D = some (listOf ys.toArray ep) → s.heap.get? D = none → IntsAre ys ((plUp M 32).map fun k : Nat => (k : Int)) → Q (.ref D) { s with heap := h', toks := tk' }) :
  wpAny (model PySem.Challenge.rw_yf0006_01.row.prog w) A (call (.ref 104) [.int (M : Int) tM]) Q E s := by
  have mk9 := kstMark
  have bM := Box.mk hM
  have b300 := Box.mk h300
  clear hM h300
  (( (have X9q9 := Gnd.part (by assumption)); revert X9q9; k_fill; intro X9q9; clear X9q9; refine' enterC (by assumption) ?k1 ?k2 ?k3 ?k4 ?k5 ?kh ?c1 ?c2 ?c3; (case k1 => k_dflt k_is); (case k2 => k_dflt k_is); (case k3 => exact BindsTo.of_eq rfl); (case k4 => exact rfl); (case k5 => decide +kernel); (case c1 => rfl); (case c2 => rfl); (case c3 => rfl); intro L'q9 h₁q9 tk0q9 cellsq9 baseq9 outerq9 envq9 meanq9 mgq9 mbq9 dpq9 unq9 gdq9 htk0q9 F'q9 N'q9 Y'q9 B'q9 X'q9 T'q9 hdq9 huq9; k_cells Y'q9; (try simp only [List.cons_append, List.nil_append] at N'q9); (try dsimp only); (try k_unmd); k_fold))
  rename Fr _ _ _ _ => F0
  (repeat' ( (fail_if_success (with_reducible show wpAny _ _ (call (Value.ref 71) _) _ _ _)); (fail_if_success (with_reducible show wpAny _ _ (eval (Expr.ListComp _ _ _ _) _) _ _ _)); (fail_if_success (with_reducible show wpAny _ _ (call (Value.type "range") _) _ _ _)); (fail_if_success (with_reducible show wpAny _ _ (call (Value.builtin "str.split") _) _ _ _)); (fail_if_success (with_reducible show wpAny _ _ (call (Value.ref 21) _) _ _ _)); (fail_if_success (with_reducible show Exists _)); (first | (k_unfold; (try dsimp only)) | (k_end; wrow_close) | (dsimp only; walk1) | walk1 | (leave1; walk_say "STEP leave1"; try dsimp only) | fail "no step")))
  change Fr _ _ _ (fun y => if y = Str.ofString "mask" then some (Value.int (M : Int) tM) else none) at F0
  rename Obj.data _ = Data.cell _ => dC
  have bX := Box.mk ‹(Mine.hd.heap_39 w.params).In s.heap›
  replace dC := (dC : _ = Data.cell none)
  refine flags_spec ?G9 M tM bM.out ?_
  case G9 => walk_at "mine gnd"
  intro t' h' tk' hst htk htok
  rename News _ _ _ _ => N0
  have F1 := F0.keeps hst
  have N1 := N0.grown hst
  clear F0 N0 hst
  rename s.toks ≤ _ => htk0
  replace htk : s.toks ≤ tk' := Nat.le_trans htk0 htk
  replace htok : (∃ (i u : Nat), plUp M 32 = [i] ∧ t' = nameTok i u ∧ s.toks ≤ u ∧ u < tk') ∨ (s.toks ≤ t' ∧ t' < tk') := by
    rcases htok with ⟨i, u, e1, e2, e3, e4⟩ | ⟨e3, e4⟩
    · exact .inl ⟨i, u, e1, e2, Nat.le_trans htk0 e3, e4⟩
    · exact .inr ⟨Nat.le_trans htk0 e3, e4⟩
  have btok := Box.mk htok
  have btk := Box.mk htk
  clear htok htk
  dsimp only
  (repeat' ( (fail_if_success (with_reducible show wpAny _ _ (call (Value.ref 71) _) _ _ _)); (fail_if_success (with_reducible show wpAny _ _ (eval (Expr.ListComp _ _ _ _) _) _ _ _)); (fail_if_success (with_reducible show wpAny _ _ (call (Value.type "range") _) _ _ _)); (fail_if_success (with_reducible show wpAny _ _ (call (Value.builtin "str.split") _) _ _ _)); (fail_if_success (with_reducible show wpAny _ _ (call (Value.ref 21) _) _ _ _)); (fail_if_success (with_reducible show Exists _)); (first | (k_unfold; (try dsimp only)) | (k_end; wrow_close) | (dsimp only; walk1) | walk1 | (leave1; walk_say "STEP leave1"; try dsimp only) | fail "no step")))
  · rename (_ == _) = true => he
    rename Fr _ _ _ _ => F2
    rename News _ _ _ _ => N2
    have hM0 := told_zero bM.out he
    have nD := N2 _ List.mem_cons_self
    subst hM0
    exact hret _ [] 0 _ _ F2.keep nD.1 nD.2.2 .nil
  · rename (_ == _) = false => he
    have hM0 := told_not he
    clear he
    rename Fr _ _ _ _ => F2
    rename News _ _ _ _ => N2
    refine comp_range (Fp := fun i y t => ∃ u, y = .str (nameAt i) (nameTok i u) ∧ tk' ≤ u ∧ u < t) ?hmono F2 rfl (by with_unfolding_all rfl) (by decide) (by rfl) (by decide) (by rfl) ?hh
    case hmono => rintro i y t t2 ht ⟨u, h1, h2, h3⟩; exact ⟨u, h1, h2, Nat.lt_of_lt_of_le h3 ht⟩
    (repeat' ( (fail_if_success (with_reducible show wpAny _ _ (call (Value.ref 71) _) _ _ _)); (fail_if_success (with_reducible show wpAny _ _ (eval (Expr.ListComp _ _ _ _) _) _ _ _)); (fail_if_success (with_reducible show wpAny _ _ (call (Value.type "range") _) _ _ _)); (fail_if_success (with_reducible show wpAny _ _ (call (Value.builtin "str.split") _) _ _ _)); (fail_if_success (with_reducible show wpAny _ _ (call (Value.ref 21) _) _ _ _)); (fail_if_success (with_reducible show Exists _)); (first | (k_unfold; (try dsimp only)) | (k_end; wrow_close) | (dsimp only; walk1) | walk1 | (leave1; walk_say "STEP leave1"; try dsimp only) | fail "no step")))
    refine wpAny_with_toks (n := tk') (by dsimp only; omega) ?_
    walk1
    dsimp only
    intro htk3
    have bt3 := Box.mk htk3
    clear htk3
    rename IsRange _ _ _ _ _ _ _ _ => R3
    rename Fr _ _ _ _ => F3
    rename News _ _ _ _ => N3
    refine ⟨_, 32, _, _, _, _, rfl, F3, N3, R3, by decide, by rfl, by decide, ?turn, ?done⟩
    case turn =>
      rintro i v I oI C oC D oD m₂ h tk E' hi htk ⟨t, rfl⟩ hoC hm2 F4 N4
      clear F3 N3 R3
      have bt4 := Box.mk (Nat.le_trans bt3.out htk)
      clear htk
      (repeat' ( (fail_if_success (with_reducible show wpAny _ _ (call (Value.ref 71) _) _ _ _)); (fail_if_success (with_reducible show wpAny _ _ (eval (Expr.ListComp _ _ _ _) _) _ _ _)); (fail_if_success (with_reducible show wpAny _ _ (call (Value.type "range") _) _ _ _)); (fail_if_success (with_reducible show wpAny _ _ (call (Value.builtin "str.split") _) _ _ _)); (fail_if_success (with_reducible show wpAny _ _ (call (Value.ref 21) _) _ _ _)); (fail_if_success (with_reducible show Exists _)); (first | (k_unfold; (try dsimp only)) | (k_end; wrow_close) | (dsimp only; walk1) | walk1 | (leave1; walk_say "STEP leave1"; try dsimp only) | fail "no step")))
      · exact ⟨tk + 1 + 1 + 1 + 1, rfl, Nat.le_trans bt4.out (by omega), by change (tk + 1 + 1 + 1 + 1 : Nat) < tk + 1 + 1 + 1 + 1 + 1 + 1; omega⟩
      · exact ⟨_, _, rfl, fun _ _ e => e⟩
    case done =>
      intro D h tk ys F4 N4 htk hlen hys
      clear F3 N3 R3
      have bt4 := Box.mk (Nat.le_trans bt3.out htk)
      have bys := Box.mk hys
      have blen := Box.mk hlen
      clear htk hys hlen
      k_unmd
      (repeat' ( (fail_if_success (with_reducible show wpAny _ _ (call (Value.ref 71) _) _ _ _)); (fail_if_success (with_reducible show wpAny _ _ (eval (Expr.ListComp _ _ _ _) _) _ _ _)); (fail_if_success (with_reducible show wpAny _ _ (call (Value.type "range") _) _ _ _)); (fail_if_success (with_reducible show wpAny _ _ (call (Value.builtin "str.split") _) _ _ _)); (fail_if_success (with_reducible show wpAny _ _ (call (Value.ref 21) _) _ _ _)); (fail_if_success (with_reducible show Exists _)); (first | (k_unfold; (try dsimp only)) | (k_end; wrow_close) | (dsimp only; walk1) | walk1 | (leave1; walk_say "STEP leave1"; try dsimp only) | fail "no step")))
      rename Obj.data _ = Data.cell _ => dC2
      rename Fr _ _ _ _ => F5
      rename News _ _ _ _ => N5
      simp only [List.cons_append, List.nil_append] at N5
      refine comp_list (Fp := fun i y _ => ∃ (k : Nat) (t : Tok), (plUp M 32)[i]? = some k ∧ y = .int (k : Int) t) (fun i y t t2 _ h => h) F5 rfl (by with_unfolding_all rfl) (by decide) (by rfl) (by decide) (by rfl) ?hl
      (repeat' ( (fail_if_success (with_reducible show wpAny _ _ (call (Value.ref 71) _) _ _ _)); (fail_if_success (with_reducible show wpAny _ _ (eval (Expr.ListComp _ _ _ _) _) _ _ _)); (fail_if_success (with_reducible show wpAny _ _ (call (Value.type "range") _) _ _ _)); (fail_if_success (with_reducible show wpAny _ _ (call (Value.builtin "str.split") _) _ _ _)); (fail_if_success (with_reducible show wpAny _ _ (call (Value.ref 21) _) _ _ _)); (fail_if_success (with_reducible show Exists _)); (first | (k_unfold; (try dsimp only)) | (k_end; wrow_close) | (dsimp only; walk1) | walk1 | (leave1; walk_say "STEP leave1"; try dsimp only) | fail "no step")))
      refine split_tok (by decide) (Nat.le_trans (told_len hM0) (by rw [sizeLine_eq]; decide)) ?_ (by rw [split_names hM0 bM.out, List.length_map]; exact Nat.le_trans (plUp_len M 32) (by rw [sizeLine_eq]; decide))
      intro l hl1 hl2 tkS htS
      rw [split_names hM0 bM.out] at hl1
      dsimp only at hl2 htS
      have bl1 := Box.mk hl1
      have bl2 := Box.mk hl2
      have btS := Box.mk htS
      have hll : l.length = (plUp M 32).length := by
        have := congrArg List.length hl1
        simpa using this
      have up : ∀ (g : Heap) b o, g.get? b = some o → (g.push { cls := .type "list", data := .seq (strValues l).toArray }).get? b = some o := fun g b o e => Heap.get?_push_of_some _ e
      refine ⟨_, (strValues l).toArray, _, rfl, F5.keeps (up _), N5.grown (up _), ⟨_, Heap.get?_push_size _ rfl, rfl, _, rfl⟩, ?hsz, ?turn2, ?done2⟩
      case hsz =>
        have := plUp_len M 32
        rw [sizeLine_eq]
        simp [strValues]
        omega
      case turn2 =>
        rintro i v I oI C oC D' oD m₂ h2 tk2 E' hi htk2 hv hoC hm2 F6 N6
        have hil : i < l.length := by simpa [strValues] using hi
        obtain ⟨⟨n, u⟩, hn⟩ : ∃ p, l[i]? = some p := ⟨_, List.getElem?_eq_getElem hil⟩
        obtain ⟨k, hk⟩ : ∃ k, (plUp M 32)[i]? = some k := ⟨_, List.getElem?_eq_getElem (hll ▸ hil)⟩
        have ev : v = .str n u := by
          have h3 : (strValues l).toArray[i]? = some (.str n u) := by simp [strValues, hn]
          exact Option.some.inj (hv.symm.trans h3)
        subst ev
        have en : n = nameAt k := by
          have h3 := congrArg (fun r : List Str => r[i]?) hl1
          simp only [List.getElem?_map, hn, hk, Option.map_some] at h3
          exact Option.some.inj h3
        subst en
        have hk32 : k < 32 := plUp_lt (List.mem_of_getElem? hk)
        have bk := Box.mk hk
        have bn := Box.mk hn
        clear hv hi hk hn hil hl1 hl2 hll htS htk2 F5 N5
        (repeat' ( (fail_if_success (with_reducible show wpAny _ _ (call (Value.ref 71) _) _ _ _)); (fail_if_success (with_reducible show wpAny _ _ (eval (Expr.ListComp _ _ _ _) _) _ _ _)); (fail_if_success (with_reducible show wpAny _ _ (call (Value.type "range") _) _ _ _)); (fail_if_success (with_reducible show wpAny _ _ (call (Value.builtin "str.split") _) _ _ _)); (fail_if_success (with_reducible show wpAny _ _ (call (Value.ref 21) _) _ _ _)); (fail_if_success (with_reducible show Exists _)); (first | (k_unfold; (try dsimp only)) | (k_end; wrow_close) | (dsimp only; walk1) | walk1 | (leave1; walk_say "STEP leave1"; try dsimp only) | fail "no step")))
        have hub : (∃ u' : Nat, u = nameTok k u' ∧ s.toks ≤ u' ∧ u' < tk') ∨ (s.toks ≤ u ∧ u < tk') ∨ tk ≤ u := by
          rcases bl2.out with e | e
          · have hn := bn.out
            rw [e] at hn
            have hi0 : i = 0 := by
              cases i with
              | zero => rfl
              | succ i => simp at hn
            subst hi0
            have eu : t' = u := by
              have := Option.some.inj hn
              exact (Prod.mk.inj this).2
            subst eu
            rcases btok.out with ⟨j, u', e1, e2, e3, e4⟩ | h
            · have hk := bk.out
              rw [e1] at hk
              have : j = k := Option.some.inj hk
              subst this
              exact .inl ⟨u', e2, e3, e4⟩
            · exact .inr (.inl h)
          · exact .inr (.inr (Nat.le_of_succ_le (e i _ _ bn.out)))
        have h300 := b300.out
        have htk := btk.out
        have h34 := bt4.out
        rename Fr _ _ _ _ => F7
        rename News _ _ _ _ => N7
        have bh := Box.mk hub
        refine index_spec ?Gx D ys (nameAt k) u k (by rw [blen.out]; exact hk32) ⟨_, (N7 (D, LCg.lst ys) (by simp)).1, rfl, _, rfl⟩ (tok_pos h300 htk h34 hub) ?hskip ?hhit ?_
        case Gx => walk_at "mine gnd"
        case hskip =>
          intro j hj
          obtain ⟨y, hy⟩ : ∃ y, ys[j]? = some y := ⟨_, List.getElem?_eq_getElem (by rw [blen.out]; omega)⟩
          obtain ⟨uj, rfl, h3, h4⟩ := bys.out j y hy
          exact ⟨_, _, hy, fun e => Nat.ne_of_lt hj (nameAt_inj (by omega) hk32 e), tok_nz h300 (Nat.le_trans htk h3), tok_skip hj h300 htk h3 h4 hub⟩
        case hhit =>
          obtain ⟨y, hy⟩ : ∃ y, ys[k]? = some y := ⟨_, List.getElem?_eq_getElem (by rw [blen.out]; omega)⟩
          obtain ⟨uj, rfl, h3, h4⟩ := bys.out k y hy
          exact ⟨_, hy, tok_nz h300 (Nat.le_trans htk h3)⟩
        intro t7 h7 tk7 hst7
        exact ⟨⟨k, t7, bk.out, rfl⟩, _, _, rfl, hst7⟩
      case done2 =>
        intro D2 h2 tk2 ys2 F6 N6 htk2 hlen2 hys2
        have nD := N6 (D2, LCg.lst ys2) List.mem_cons_self
        have hi2 : IntsAre ys2 ((plUp M 32).map fun k : Nat => (k : Int)) := by
          refine ints_of_get (by rw [List.length_map, hlen2]; simp [strValues, hll]) fun j y hy => ?_
          obtain ⟨k, t, h3, rfl⟩ := hys2 j y hy
          exact ⟨(k : Int), t, by simp [h3], rfl⟩
        clear F5 N5
        k_unmd
        (try dsimp only)
        (repeat' ( (fail_if_success (with_reducible show wpAny _ _ (call (Value.ref 71) _) _ _ _)); (fail_if_success (with_reducible show wpAny _ _ (eval (Expr.ListComp _ _ _ _) _) _ _ _)); (fail_if_success (with_reducible show wpAny _ _ (call (Value.type "range") _) _ _ _)); (fail_if_success (with_reducible show wpAny _ _ (call (Value.builtin "str.split") _) _ _ _)); (fail_if_success (with_reducible show wpAny _ _ (call (Value.ref 21) _) _ _ _)); (fail_if_success (with_reducible show Exists _)); (first | (k_unfold; (try dsimp only)) | (k_end; wrow_close) | (dsimp only; walk1) | walk1 | (leave1; walk_say "STEP leave1"; try dsimp only) | fail "no step")))
        exact hret D2 ys2 ys2.length h2 tk2 F6.keep nD.1 nD.2.2 hi2
end
section
open PySem PySem.W PySem.Calls PyProof.Rows
theorem freshCs : True := by
  w_top off
  trivial
section
variable {prog : Program} {w : World} {A : Around} {E : Value → Shared → Prop} {s : Shared}
theorem merge_empty {d a : Addr} {ep : Nat} {Q : Unit → Shared → Prop} (hd : s.heap.get? d = some { cls := .type "dict", data := .dict #[] }) (ha : s.heap.get? a = some { cls := .type "dict", data := .dict #[] ep }) (has : (a == sysModules) = false) (h : Q () s) :
    wpAny (model prog w) A (mergeMapping d (.ref a) true) Q E s := by
  have hT : s.TypeIs (.ref a) "dict" := ⟨_, ha, rfl⟩
  unfold mergeMapping
  refine wpAny_bind (wpAny_isInstance hT isSubtype_dict_dict ?_)
  simp only [if_true]
  refine wpAny_bind (wpAny_specialOf hT PySem.F.slot_dict_iter.lookup ?_)
  refine wpAny_bind (wpAny_pure ?_)
  simp only [beq_self_eq_true, has, Bool.false_eq_true, if_false]
  refine wpAny_bind (wpAny_dictEntries hd rfl ?_)
  simp only [Array.isEmpty_empty, if_true]
  refine wpAny_bind (wpAny_dictEntries ha rfl ?_)
  refine wpAny_bind (wpAny_pure ?_)
  refine wpAny_bind (wpAny_dictEntries ha rfl ?_)
  refine wpAny_bind (wpAny_dictEpoch ha rfl ?_)
  refine wpAny_bind (wpAny_pure ?_)
  exact wpAny_pure h
theorem merged_one {f : Value} {kwx : Sem Value} {a : Addr} {ep : Nat} {pos : Pos} {Q : Addr → Shared → Prop} (ha : s.heap.get? a = some { cls := .type "dict", data := .dict #[] ep }) (has : (a == sysModules) = false)
    (hkw : ∀ (Q : Value → Shared → Prop) (E : Value → Shared → Prop) h', (∀ b o, s.heap.get? b = some o → h'.get? b = some o) → Q (.ref a) { s with heap := h' } → wpAny (model prog w) A kwx Q E { s with heap := h' })
    (h : ∀ d h', (∀ b o, s.heap.get? b = some o → h'.get? b = some o) → h'.get? d = some { cls := .type "dict", data := .dict #[] } → Q d { s with heap := h' }) :
    wpAny (model prog w) A (mergedKeywords f [(none, do let v ← kwx; standAt pos; pure v)]) Q E s := by
  have up : ∀ b o, s.heap.get? b = some o → (s.heap.push { cls := .type "dict", data := .dict #[] }).get? b = some o := fun b o e => Heap.get?_push_of_some _ e
  have hd : (s.heap.push { cls := .type "dict", data := .dict #[] }).get? s.heap.objs.size = some { cls := .type "dict", data := .dict #[] } := Heap.get?_push_size _ rfl
  unfold mergedKeywords
  refine wpAny_bind (wpAny_alloc ?_)
  refine wpAny_bind (wpAny_holding ?_)
  refine wpAny_bind ?_
  rw [List.forIn_cons]
  refine wpAny_bind ?_
  dsimp only
  refine wpAny_bind ?_
  refine wpAny_of_eq (if_pos (c := ([] : List (Str × Sem Value)).isEmpty = true) rfl) ?_
  refine wpAny_bind ?_
  refine wpAny_bind (hkw _ _ _ up ?_)
  refine wpAny_bind (wpAny_standAt (wpAny_pure ?_))
  refine wpAny_bind (wpAny_onRaise (wpAny_holding (wpAny_tryCatch (wpAny_onRaise (merge_empty hd (up _ _ ha) has ?_)))))
  refine wpAny_pure ?_
  dsimp only
  rw [List.forIn_nil]
  refine wpAny_pure ?_
  refine wpAny_of_eq (if_pos (c := ([] : List (Str × Sem Value)).isEmpty = true) rfl) ?_
  exact wpAny_pure (h _ _ up hd)
theorem call_starKw {f : Value} {pos p1 p2 : Pos} {T a : Addr} {ep : Nat} {items : Array Value} {n : Nat} {x kwx : Sem Value} {Q : Value → Shared → Prop}
    (hT : s.heap.get? T = some { cls := .type "tuple", data := .seq items n }) (hz : items.size ≤ sizeLine)
    (ha : s.heap.get? a = some { cls := .type "dict", data := .dict #[] ep }) (has : (a == sysModules) = false)
    (hx : ∀ (Q : Value → Shared → Prop) (E : Value → Shared → Prop), Q (.ref T) s → wpAny (model prog w) A x Q E s)
    (hkw : ∀ (Q : Value → Shared → Prop) (E : Value → Shared → Prop) h', (∀ b o, s.heap.get? b = some o → h'.get? b = some o) → Q (.ref a) { s with heap := h' } → wpAny (model prog w) A kwx Q E { s with heap := h' })
    (hkeep : ∃ k, (k = Keeper.frame ∨ k = Keeper.machine ∨ k = Keeper.boundFrame) ∧ Looks (model prog w) s.heap (keeperOf f) k)
    (h : ∀ h', (∀ b o, s.heap.get? b = some o → h'.get? b = some o) → wpAny (model prog w) A (call f items.toList) Q E { s with heap := h' }) :
    wpAny (model prog w) A (callWith pos f [] [(true, do let v ← x; standAt p1; pure v)] [(none, do let v ← kwx; standAt p2; pure v)]) Q E s := by
  unfold callWith
  have args : ∀ (Q : Args → Shared → Prop), (∀ h', (∀ b o, s.heap.get? b = some o → h'.get? b = some o) → Q ⟨items.toList, []⟩ { s with heap := h' }) →
      wpAny (model prog w) A (evalArgs f true [(true, do let v ← x; standAt p1; pure v)] [(none, do let v ← kwx; standAt p2; pure v)]) Q E s := by
    intro Q hq
    unfold evalArgs
    refine wpAny_bind (wpAny_bind (hx _ _ (wpAny_bind (wpAny_standAt (wpAny_pure ?_)))))
    refine wpAny_bind (wpAny_pure ?_)
    refine wpAny_holding ?_
    dsimp only
    rw [if_neg (by simp)]
    refine wpAny_bind (merged_one ha has hkw fun d h' k hd => ?_)
    have hT' : h'.get? T = _ := k _ _ hT
    have ty : ({ s with heap := h' } : Shared).TypeIs (.ref T) "tuple" := ⟨_, hT', rfl⟩
    refine wpAny_bind ?_
    unfold notIterableAtAll
    refine wpAny_bind (wpAny_bind (wpAny_specialOf ty PySem.F.slot_tuple_iter.lookup (wpAny_pure ?_)))
    rw [if_neg (by simp)]
    refine wpAny_holding (wpAny_collect_seq T (.inr rfl) hT' rfl rfl (fun h2 k2 => ?_) hz)
    refine wpAny_bind (wpAny_holding ?_)
    unfold keywordsIn
    refine wpAny_bind (wpAny_dictEntries (k2 _ _ hd) rfl ?_)
    refine wpAny_bind (wpAny_pure ?_)
    exact wpAny_pure (wpAny_pure (hq _ fun b o e => k2 _ _ (k _ _ e)))
  refine wpAny_bind (wpAny_holding (args _ fun h' k => wpAny_bind (wpAny_standAt ?_)))
  obtain ⟨kk, hk', L⟩ := hkeep
  simp only [List.any_cons, Bool.true_or]
  refine wpAny_bind (L _ _ _ _ k ?_)
  have tail : ∀ {t : Sem Value}, wpAny (model prog w) A t Q E { s with heap := h' } → wpAny (model prog w) A (t >>= fun r => holding [r] point >>= fun _ => pure r) Q E { s with heap := h' } :=
    fun ht => wpAny_bind (wpAny_mono ht (fun r s₂ hr => wpAny_bind (wpAny_holding (wpAny_point (wpAny_pure hr)))) fun _ _ x => x)
  have marked (mk : Value) : wpAny (model prog w) A (callMarked mk f ([] ++ items.toList) []) Q E { s with heap := h' } := by unfold callMarked; exact Calls.wpAny_keep (h _ k)
  rcases hk' with rfl | rfl | rfl <;> dsimp only <;> first | exact tail (marked _) | exact tail (wpAny_operating (h _ k))
end
end
section
open PySem PySem.W PySem.Calls PyProof.Rows
theorem freshL14 : True := by
  w_top off
  trivial
local macro_rules | `(tactic| walk_at "mine pad0") => `(tactic| skip)
section
variable {w : World} {n : Nat} {A : Around} {E : Value → Shared → Prop} {s : Shared} {Q : Value → Shared → Prop}
theorem enterV {name qual : Str} {params : Arguments} {body : List Stmt} {scope : Scope} {dV kV doc pm cdv ct oc : Value} {an od : Option Addr} {osl : Array (Option Value)} {f : Addr} {vs : List Value} {binds : List (Str × Value)} {hb : Heap}
    (G : Gnd w (n + 1) A s.heap []) (hup : ∀ b o, s.heap.get? b = some o → hb.get? b = some o)
    (ho : (Mine.hd.heap_39 w.params).lookup f = some ⟨oc, od, .func (fnOf name qual params body scope dV kV doc pm an cdv ct), osl⟩) (hcd : codeIn (Mine.hd.heap_39 w.params) cdv qual = true)
    (hbind : ∀ (M : Model) (A : Around) (E : Value → Shared → Prop) (Q : List (Str × Value) → Shared → Prop), Q binds { s with heap := hb } → wpAny M A (bindArgs (fnOf name qual params body scope dV kV doc pm an cdv ct) ⟨vs, []⟩) Q E s)
    (hloc : ∀ y ∈ binds, scope.names.lookup y.1 = some .local)
    (h : ∀ (L' : Addr) (h₁ : Heap) (base : Heap) (outer : List Env) (env : Env) (mean : ExcName → Option Value) (mg mb : Str → Option Value) (dp un : Nat) (gd : Option (List Code)),
      Fr hb L' h₁ (fun y => binds.reverse.lookup y) → News hb L' h₁ [] → Below { handled := none, depth := dp, frames := some (env :: outer), guards := gd, units := un } base (env :: outer) hb → (Mine.hd.heap_39 w.params).In hb →
      Top Mine.hd.view_328 (looseW Mine.hd.view_328 [Str.ofString "COMPILER_FLAG_NAMES"]) mean mg mb hb → dp + 1 + n < recursionLimit → un + 100 + 100 * n < cLine →
      wpAny (model PySem.Challenge.rw_yf0006_01.row.prog w) (({ handled := none, depth := dp, frames := some (env :: outer), guards := gd, units := un } : Around).deeper (envOf qual scope L' f cdv)) (execs body (envOf qual scope L' f cdv))
        (fun fl s' => Q (match fl with | .ret v => v | _ => .none) s')
        (fun e s' => wpAny (model PySem.Challenge.rw_yf0006_01.row.prog w) (({ handled := none, depth := dp, frames := some (env :: outer), guards := gd, units := un } : Around).deeper (envOf qual scope L' f cdv)) (leaving (envOf qual scope L' f cdv) e) (fun _ s'' => E e s'') (fun e' s'' => E e' s'') s')
        { s with heap := h₁, toks := s.toks + binds.length })
    (hco : scope.isCoroutine = false) (hgen : scope.isGenerator = false) (hk : scope.kind = .function)
    (hcell : ∀ x ∈ scope.names, x.2 ≠ .cell) : wpAny (model PySem.Challenge.rw_yf0006_01.row.prog w) A (call (.ref f) vs) Q E s := by
  obtain ⟨A₀, base, h₀, outer, env, L, m, mean, mg, mb, dp, un, gd, rfl, B, F, X, N, T, hf, hke, hd, hu⟩ := G.out
  refine wpAny_call ?_
  have F' : Fr h₀ L ({ s with heap := hb } : Shared).heap m := F.keeps hup
  obtain ⟨FG, BG, st, lv⟩ := groundX (s := { s with heap := hb }) (A := { handled := none, depth := dp, frames := some (env :: outer), guards := gd, units := un }) (R := fun r s' => match r with | .ok (.ret v) => Q v s' | .ok _ => False | .error e => E e s') B F' News.nil rfl hf hke
  refine codeAny_call_function (by show dp < _; omega) ((X.keeps F.keep) _ _ ho) rfl hco hgen rfl (codeRec_of (X.keeps F.keep) hcd) (hbind _ _ _ _ ?_)
  refine wpAny_newFunctionEnv hcell hloc (fun h₁ hns₁ hsb₁ => ⟨(T.nolimit.keeps F'.keep).fresh _ hsb₁, codeAny_func ?_⟩) hk
  exact wpAny_mono (h hb.objs.size h₁ base outer env mean mg mb dp un gd ⟨hns₁, fun b o e => hsb₁.extBut b o (Nat.ne_of_lt (Heap.lt_size e)) (Heap.get?_push_of_some _ e), Nat.le_refl _⟩
    (fun p hp => nomatch hp) BG (X.keeps st) (T.keeps st) (by omega) (by omega)) (fun fl s' hl => by cases fl <;> exact hl) fun _ _ y => y
end
theorem call_spec {w : World} {A : Around} {E : Value → Shared → Prop} {s : Shared} {Q : Value → Shared → Prop} {n : Nat} (G : Gnd w (n + 1) A s.heap []) (f : Addr) (p0 p1 : Value) (hf : keepIn (Mine.hd.heap_39 w.params) (.ref f) = true)
  (h : ∀ (A' : Around) h' tk' (E' : Value → Shared → Prop), s.heap.StaysIn h' → s.toks ≤ tk' → Gnd w n A' h' [] → wpAny (model PySem.Challenge.rw_yf0006_01.row.prog w) A' (call (.ref f) [p0, p1]) Q E' { s with heap := h', toks := tk' }) :
  wpAny (model PySem.Challenge.rw_yf0006_01.row.prog w) A (call (.ref 28) [.ref f, p0, p1]) Q E s := by
  (have X9 := Gnd.part (by assumption)); revert X9; k_fill; intro X9; clear X9
  have bf := Box.mk hf
  clear hf
  refine' enterV (hb := (s.heap.push { cls := .type "tuple", data := .seq #[p0, p1] }).push { cls := .type "dict", data := .dict #[] }) (binds := [(Str.ofString "obj", .ref f), (Str.ofString "args", .ref s.heap.objs.size), (Str.ofString "kwargs", .ref (s.heap.push { cls := .type "tuple", data := .seq #[p0, p1] }).objs.size)])
    (by assumption) ?hup ?k1 ?k2 ?k3 ?k4 ?kh ?c1 ?c2 ?c3 ?c4
  case hup => exact fun b o e => Heap.get?_push_of_some _ (Heap.get?_push_of_some _ e)
  case k1 => k_dflt k_is
  case k2 => k_dflt k_is
  case k3 =>
    intro M A E Q hq
    show wpAny M A (newTuple [p0, p1] >>= fun t => alloc { cls := .type "dict", data := .dict #[] } >>= fun d => pure [(Str.ofString "obj", Value.ref f), (Str.ofString "args", t), (Str.ofString "kwargs", Value.ref d)]) Q E s
    exact wpAny_bind (wpAny_newTuple (wpAny_bind (wpAny_alloc (wpAny_pure hq))))
  case k4 => exact locs rfl
  case c1 => rfl
  case c2 => rfl
  case c3 => rfl
  case c4 => decide
  intro L' h₁ base outer env mean mg mb dp un gd F' N' B' X' T' hd hu
  k_unmd
  k_fold
  (repeat' ( (fail_if_success (with_reducible show wpAny _ _ (callWith _ _ _ _ _) _ _ _)); (first | (k_unfold; (try dsimp only)) | (k_end; wrow_close) | walk1 | (dsimp only; walk1) | (leave1; walk_say "STEP leave1"; try dsimp only) | fail "no step")))
  rename Fr _ _ _ _ => F1
  have sz : 144 < s.heap.objs.size := by
    obtain ⟨_, _, _, _, _, _, _, _, _, _, _, _, _, _, _, F, X, _⟩ := G.out
    obtain ⟨o, ho⟩ : ∃ o, (Mine.hd.heap_39 w.params).lookup 144 = some o := ⟨_, rfl⟩
    exact Heap.lt_size (F.keep _ _ (X 144 _ ho))
  have e1 : (s.heap.push { cls := .type "tuple", data := .seq #[p0, p1] }).objs.size = s.heap.objs.size + 1 := Heap.size_push _ _
  have g1 := F1.keep _ _ (Heap.get?_push_of_some _ (Heap.get?_push_size s.heap (o := { cls := .type "tuple", data := .seq #[p0, p1] }) rfl))
  have g2 := F1.keep _ _ (Heap.get?_push_size (s.heap.push { cls := .type "tuple", data := .seq #[p0, p1] }) (o := { cls := .type "dict", data := .dict #[] }) rfl)
  refine call_starKw (T := s.heap.objs.size) (items := #[p0, p1]) (a := (s.heap.push { cls := .type "tuple", data := .seq #[p0, p1] }).objs.size) g1 (by rw [sizeLine_eq]; show 2 ≤ 16777216; decide) g2 ?has ?hx ?hkw ?hkeep ?hh
  case has => rw [e1]; exact beq_eq_false_iff_ne.mpr (fun q => by have q' : s.heap.objs.size + 1 = 1 := q; omega)
  case hx => intro Q E hq; exact nameX_L F1 rfl hq
  case hkw => intro Q E h' k hq; exact nameX_L (F1.keeps k) rfl hq
  case hkeep => exact keeps_K bf.out _ (by k_in)
  case hh =>
    intro h' k
    have F2 := F1.keeps k
    refine h _ _ _ _ (fun b o e => F2.keep _ _ (Heap.get?_push_of_some _ (Heap.get?_push_of_some _ e))) ?_ ?G9
    case G9 => walk_at "mine gnd"
    dsimp only
    omega
end
section
open PySem PySem.W PySem.Calls PyProof.Rows PyProof.Rows.LCg
theorem freshCmp2 : True := by
  w_top off
  trivial
section
variable {prog : Program} {w : World} {A : Around} {E : Value → Shared → Prop} {s : Shared} {h₀ : Heap} {L : Addr} {m : Str → Option Value} {env : Env}
/-- one turn of a list comprehension that leaves the older objects as they are; what it yields is told together with the tokens -/
noncomputable def TurnX (prog : Program) (w : World) (A : Around) (h₀ : Heap) (L : Addr) (m : Str → Option Value) (env : Env) (elt : Expr) (x : Str) (scope : Scope) (cl : List (Str × Addr)) (s : Shared) (X : Addr) (ox : Nat → Obj) (news : List (Addr × Obj)) (P : Nat → Value → Prop) (Fp : Nat → Value → Nat → Prop) (n : Nat) : Prop :=
  ∀ i v I oI C oC D oD m₂ h tk (E' : Value → Shared → Prop), i < n → s.toks ≤ tk → P i v → NsObj oC m₂ → m₂ x = some v → Fr h₀ L h m → News h₀ L h ((I, oI) :: (C, oC) :: (D, oD) :: (X, ox i) :: news) → X ≠ I → X ≠ C → X ≠ D →
    wpAny (model prog w) A (eval elt (compEnvC scope cl C env)) (fun y s₂ => Fp i y s₂.toks ∧ ∃ h' tk', s₂ = { s with heap := h', toks := tk' } ∧ (∀ b o, b ≠ X → h.get? b = some o → h'.get? b = some o) ∧ h'.get? X = some (ox (i + 1))) E' { s with heap := h, toks := tk }
theorem block_X {elt iter : Expr} {x : Str} {px : Pos} {scope : Scope} {cl : List (Str × Addr)} {pos : Pos} {s₂ : Shared} {I : Addr} {fp : List Addr} {n : Nat} {P : Nat → Value → Prop} {St : Nat → Heap → Prop} {news : List (Addr × Obj)} {X : Addr} {ox : Nat → Obj}
    {Fp : Nat → Value → Nat → Prop} {RR : Value → Addr → Result → Shared → Prop} (hmono : ∀ i y t t', t ≤ t' → Fp i y t → Fp i y t')
    (W : Walks prog w A I fp [I] n P St) (hsz : n ≤ sizeLine) (hIo : ∀ i h, St i h → ∃ o, h.get? I = some o)
    (hcell : ∀ y ∈ scope.names, y.2 ≠ .cell) (hkind : scope.kind = .function) (hx : scope.names.lookup x = some .local) (hst : St 0 s₂.heap) (hfp : ∀ b ∈ fp, b < s₂.heap.objs.size)
    (F : Fr h₀ L s₂.heap m) (N : News h₀ L s₂.heap ((X, ox 0) :: news)) (hXf : X ∉ fp) (hXn : ∀ p ∈ news, p.1 ≠ X) (hIL : L ≠ I) (hI₀ : h₀.get? I = none) (off : ∀ p ∈ (X, ox 0) :: news, p.1 ≠ I)
    (R : TurnX prog w A h₀ L m env elt x scope cl s₂ X ox news P Fp n)
    (hRR : ∀ D C h tk m' ys, Fr h₀ L h m → News h₀ L h ((D, lst ys) :: (X, ox n) :: news) → h.Ns C m' → h₀.get? C = none → h₀.get? D = none → C ≠ L → D ≠ L → C ≠ D → (∀ p ∈ (X, ox n) :: news, p.1 ≠ C) → s₂.toks ≤ tk → ys.length = n →
      (∀ j y, ys[j]? = some y → Fp j y tk) → RR (.ref D) C (.ok .next) { s₂ with heap := h, toks := tk }) :
    wpAny (model prog w) A (newList []) (fun acc s₃ => wpAny (model prog w) A (newFunctionEnv scope env.globals cl [] env.qual none .none (some env)) (fun cenv s₄ =>
      codeAny (model prog w) A (.compStart (.ListComp elt [⟨.Name x px, iter, [], 0⟩] scope pos) 0 (.ref I) acc { cenv with scope := relabel scope env }) (RR acc cenv.locals) s₄) E s₃) E s₂ := by
  refine wpAny_newObj_type (wpAny_newFunctionEnv hcell (by intro y hy; simp at hy) (fun h₁ hns₁ hsb₁ => ?_) hkind)
  dsimp only at hns₁ hsb₁ ⊢
  generalize hH : s₂.heap.push { cls := .type "list", dict := none, data := .seq ([] : List Value).toArray } = H at hns₁ hsb₁ ⊢
  have eC : H.objs.size = s₂.heap.objs.size + 1 := by rw [← hH, Heap.size_push]
  generalize eD' : s₂.heap.objs.size = D
  generalize eC' : H.objs.size = C at hns₁ hsb₁ ⊢
  have hCD : C ≠ D := by rw [← eC', eC, eD']; exact Nat.succ_ne_self _
  have lo : ∀ b, b < s₂.heap.objs.size → b ≠ C ∧ b ≠ D := fun b hb => ⟨by rw [← eC', eC]; exact Nat.ne_of_lt (Nat.lt_succ_of_lt hb), by rw [← eD']; exact Nat.ne_of_lt hb⟩
  have hDf : D ∉ fp := fun hm => (lo D (hfp _ hm)).2 rfl
  have hCf : C ∉ fp := fun hm => (lo C (hfp _ hm)).1 rfl
  have hIlt : I < s₂.heap.objs.size := hfp I (W.sub I (List.mem_singleton.mpr rfl))
  have hIC := (lo I hIlt).1
  have hID := (lo I hIlt).2
  have hLC := (lo L F.ns.lt).1
  have hLD := (lo L F.ns.lt).2
  have up : ∀ b o, s₂.heap.get? b = some o → h₁.get? b = some o := fun b o e => hsb₁.extBut b o (lo b (Heap.lt_size e)).1 (Heap.get?_push_of_some _ (hH ▸ Heap.get?_push_of_some _ e))
  have none₀ : ∀ a, s₂.heap.objs.size ≤ a → h₀.get? a = none := fun a ha => by
    cases e : h₀.get? a with
    | none => rfl
    | some o => exact absurd (Heap.lt_size (F.keep a o e)) (Nat.not_lt.mpr ha)
  have hD₀ : h₀.get? D = none := none₀ D (by rw [← eD']; exact Nat.le_refl _)
  have hC₀ : h₀.get? C = none := none₀ C (by rw [← eC', eC]; exact Nat.le_succ _)
  have hacc : h₁.get? D = some (lst []) := hsb₁.extBut _ _ (Ne.symm hCD) (Heap.get?_push_of_some _ (by rw [← eD', ← hH]; exact Heap.get?_push_size _ rfl))
  have nX := N (X, ox 0) List.mem_cons_self
  have hXL : L ≠ X := Ne.symm nX.2.1
  have hX₀ : h₀.get? X = none := nX.2.2
  have hXC : X ≠ C := (lo _ (Heap.lt_size nX.1)).1
  have hXD : X ≠ D := (lo _ (Heap.lt_size nX.1)).2
  have hXI : X ≠ I := off _ List.mem_cons_self
  have offN : ∀ p ∈ news, p.1 ≠ C ∧ p.1 ≠ D := fun p hp => lo _ (Heap.lt_size (N p (List.mem_cons_of_mem _ hp)).1)
  have loop : ∀ s₃ : Shared, s₃ = { s₂ with heap := h₁, toks := s₂.toks + ([] : List (Str × Value)).length } →
      codeAny (model prog w) A (.compLoop (.ListComp elt [⟨.Name x px, iter, [], 0⟩] scope pos) 0 (.ref I) (.ref D) (compEnvC scope cl C env)) (RR (.ref D) C) s₃ := by
    rintro s₃ rfl
    refine codeAny_compLoop_tests
      (fun k s' => ∃ h' tk i ys m', s' = { s₂ with heap := h', toks := tk } ∧ i ≤ n ∧ k = n + 1 - i ∧ ys.length = i ∧ s₂.toks ≤ tk ∧ St i h' ∧ Fr h₀ L h' m ∧ h'.Ns C m' ∧ News h₀ L h' ((D, lst ys) :: (X, ox i) :: news) ∧
        ∀ j y, ys[j]? = some y → Fp j y tk) ?_ (n + 1)
      ⟨h₁, _, 0, [], _, rfl, Nat.zero_le _, rfl, rfl, Nat.le_refl _, W.frame _ _ _ hst fun b _ o e => up b o e, F.keeps up, hns₁, fun p hp => ?_, fun j y e => by simp at e⟩
    · rintro k s' ⟨h', tk, i, ys, m', rfl, hi, rfl, hyl, htk, hst', F', hn', N', hys⟩
      by_cases hlt : i < n
      · refine wpAny_with_toks (n := tk) (Nat.le_refl _) (W.item i _ _ _ hlt hst' fun v h₂ tk₂ hPv hst₂ hk₂ htk₂ => ?_)
        refine wpAny_assign_Name (wpAny_storeName_local (lookup_relabel_local hx) (hn'.at' fun o e => hk₂ _ o (by simpa using Ne.symm hIC) e) (fun h₃ hn₃ hs₃ => ?_) (by simp [compEnvC, relabel, hkind]))
        refine wpAny_tests_nil ?_
        simp only [if_true]
        replace hs₃ : Heap.SameBut C h₂ h₃ := hs₃
        replace htk₂ : tk ≤ tk₂ := htk₂
        have hst₃ : St (i + 1) h₃ := W.frame _ _ _ hst₂ fun b hb o e => hs₃.extBut b o (fun q => hCf (q ▸ hb)) e
        obtain ⟨oI, heI⟩ := hIo _ _ hst₃
        obtain ⟨oC, heC, hoC⟩ := ns_obj hn₃
        have F₃ : Fr h₀ L h₃ m := (fr_but F' hk₂ hIL hI₀).change hs₃ (Ne.symm hLC) hC₀
        have N₂ : News h₀ L h₂ ((D, lst ys) :: (X, ox i) :: news) := news_but N' hk₂ fun p hp => by
          rcases List.mem_cons.mp hp with rfl | hp
          · exact Ne.symm hID
          · rcases List.mem_cons.mp hp with rfl | hp
            · exact hXI
            · exact off p (List.mem_cons_of_mem _ hp)
        have N₃ : News h₀ L h₃ ((I, oI) :: (C, oC) :: (D, lst ys) :: (X, ox i) :: news) := fun p hp => by
          rcases List.mem_cons.mp hp with rfl | hp
          · exact ⟨heI, Ne.symm hIL, hI₀⟩
          · rcases List.mem_cons.mp hp with rfl | hp
            · exact ⟨heC, Ne.symm hLC, hC₀⟩
            · refine ⟨hs₃.extBut _ _ ?_ (N₂ p hp).1, (N₂ p hp).2⟩
              rcases List.mem_cons.mp hp with rfl | hp
              · exact Ne.symm hCD
              · rcases List.mem_cons.mp hp with rfl | hp
                · exact hXC
                · exact (offN p hp).1
        refine wpAny_mono (wpAny_toks_of (n := tk) (Nat.le_succ_of_le htk₂) (R i v I oI C oC D (lst ys) _ h₃ _ _ hlt (Nat.le_succ_of_le (Nat.le_trans htk htk₂)) hPv hoC (by simp) F₃ N₃ hXI hXC hXD)) (fun y s₄ h₄ => ?_) fun _ _ e => e.2
        obtain ⟨htk₄, hFy, h₄, tk₄, rfl, hk₄, hX₄⟩ := h₄
        replace htk₄ : tk ≤ tk₄ := htk₄
        have zD := hk₄ _ _ (Ne.symm hXD) (N₃ (D, lst ys) (List.mem_cons_of_mem _ (List.mem_cons_of_mem _ List.mem_cons_self))).1
        refine append_at (hsz := by show ys.toArray.size ≤ sizeLine; rw [List.size_toArray, hyl]; exact Nat.le_trans hi hsz) zD fun h₅ hs₅ hD₅ => ?_
        replace hs₅ : Heap.SameBut D h₄ h₅ := hs₅
        refine ⟨n + 1 - (i + 1), by omega, h₅, tk₄, i + 1, ys ++ [y], _, rfl, hlt, rfl, by rw [List.length_append, List.length_singleton, hyl], Nat.le_trans htk htk₄,
          W.frame _ _ _ hst₃ fun b hb o e => hs₅.extBut b o (fun q => hDf (q ▸ hb)) (hk₄ b o (fun q => hXf (q ▸ hb)) e), (fr_but F₃ (fun b o hb e => hk₄ b o (by simpa using hb) e) hXL hX₀).change hs₅ (Ne.symm hLD) hD₀, (hn₃.at' fun o e => hk₄ _ o (Ne.symm hXC) e).sameBut hs₅ hCD, fun p hp => ?_, fun j z hj => ?_⟩
        · rcases List.mem_cons.mp hp with rfl | hp
          · exact ⟨hD₅.trans (congrArg some (lst_snoc ys y)), Ne.symm hLD, hD₀⟩
          · rcases List.mem_cons.mp hp with rfl | hp
            · exact ⟨hs₅.extBut _ _ hXD hX₄, nX.2⟩
            · have z := N₃ p (List.mem_cons_of_mem _ (List.mem_cons_of_mem _ (List.mem_cons_of_mem _ (List.mem_cons_of_mem _ hp))))
              exact ⟨hs₅.extBut _ _ (offN p hp).2 (hk₄ _ _ (hXn p hp) z.1), z.2⟩
        · rcases Nat.lt_trichotomy j ys.length with hj' | hj' | hj'
          · rw [List.getElem?_append_left hj'] at hj
            exact hmono _ _ _ _ htk₄ (hys j z hj)
          · subst hj'
            simp at hj
            subst hj
            rw [hyl]
            exact hFy
          · rw [List.getElem?_eq_none (by rw [List.length_append, List.length_singleton]; omega)] at hj
            cases hj
      · obtain rfl : i = n := Nat.le_antisymm hi (Nat.not_lt.mp hlt)
        refine wpAny_with_toks (n := tk) (Nat.le_refl _) (W.done _ _ _ hst' fun h₂ tk₂ hk₂ htk₂ => ?_)
        replace htk₂ : tk ≤ tk₂ := htk₂
        exact hRR _ _ h₂ tk₂ _ ys (fr_but F' hk₂ hIL hI₀) (news_but N' hk₂ fun p hp => by
          rcases List.mem_cons.mp hp with rfl | hp
          · exact Ne.symm hID
          · rcases List.mem_cons.mp hp with rfl | hp
            · exact hXI
            · exact off p (List.mem_cons_of_mem _ hp)) (hn'.at' fun o e => hk₂ _ o (by simpa using Ne.symm hIC) e) hC₀ hD₀ (Ne.symm hLC) (Ne.symm hLD) hCD (fun p hp => by
            rcases List.mem_cons.mp hp with rfl | hp
            · exact hXC
            · exact (offN p hp).1) (Nat.le_trans htk htk₂) hyl
          fun j y e => hmono _ _ _ _ htk₂ (hys j y e)
    · rcases List.mem_cons.mp hp with rfl | hp
      · exact ⟨hacc, Ne.symm hLD, hD₀⟩
      · exact ⟨up _ _ (N p hp).1, (N p hp).2⟩
  exact codeAny_compStart_list (loop _ rfl) (W.self 0 _ _ _ (W.frame _ _ _ hst fun b _ o e => up b o e) (loop _ rfl))
theorem comp_listX {elt iter : Expr} {x y : Str} {px py : Pos} {scope : Scope} {cl : List (Str × Addr)} {pos spos : Pos} {Q : Flow → Shared → Prop} {X : Addr} {ox : Nat → Obj} (Fp : Nat → Value → Nat → Prop) (hmono : ∀ i y t t', t ≤ t' → Fp i y t → Fp i y t')
    (F₀ : Fr h₀ L s.heap m) (hh : A.handled = none) (hLe : env.locals = L)
    (hsw : swapsWith (.ListComp elt [⟨.Name x px, iter, [], 0⟩] scope pos) (some (.Name y py)) spos.line env = pure true)
    (hclos : closureFor scope env = pure cl) (hcell : ∀ y ∈ scope.names, y.2 ≠ .cell) (hkind : scope.kind = .function)
    (hnames : ∀ y ∈ scope.names, y.2 = .local → scope.names.lookup y.1 = some .local) (hx : scope.names.lookup x = some .local)
    (hy : env.kindOf y = some .local) (hp : (env.scope.kind == .class || (env.scope.kind == .module && env.locals != env.globals)) = false)
    (h : wpAny (model prog w) A (eval iter env) (fun xv s₁ => ∃ ax its news, xv = .ref ax ∧ Fr h₀ L s₁.heap m ∧ News h₀ L s₁.heap ((X, ox 0) :: news) ∧ (∀ p ∈ news, p.1 ≠ X) ∧ ax ≠ X ∧ s₁.heap.IsList ax its ∧ its.size ≤ sizeLine ∧
      TurnX prog w A h₀ L m env elt x scope cl s₁ X ox news (fun i v => its[i]? = some v) Fp its.size ∧
      ∀ D h tk ys, Fr h₀ L h (fun z => if z = y then some (.ref D) else m z) → News h₀ L h ((D, lst ys) :: (X, ox its.size) :: news) → s₁.toks ≤ tk → ys.length = its.size → (∀ j y, ys[j]? = some y → Fp j y tk) → Q .next { s₁ with heap := h, toks := tk }) E s)
    (hs : ∀ x, foldedSetIterable iter env x = pure x := by intro _; rfl) :
    wpAny (model prog w) A (exec (.Assign [.Name y py] (.ListComp elt [⟨.Name x px, iter, [], 0⟩] scope pos) spos) env) Q E s := by
  subst hLe
  rw [exec_Assign_Name_used _ _ _ _ hsw]
  refine wpAny_bind (wpAny_standAt (wpAny_bind ?_))
  show wpAny _ A (do let _ ← comprehension (.ListComp elt [⟨.Name x px, iter, [], 0⟩] scope pos) scope env _ (newList []) false (eval iter env) (some (assign (.Name y py) env))) _ _ s
  refine wpAny_bind (wpAny_mono (wpAny_comprehension_free (use := some (assign (.Name y py) env)) (Q := fun _ s' => Q .next s') rfl hs hclos hkind hnames
    (wpAny_mono h (fun xv s₁ h₁ => ?_) fun _ _ e => e)) (fun _ s' hq => wpAny_pure (wpAny_pure hq)) fun _ _ e => e)
  obtain ⟨ax, its, news, rfl, F, N, hXn, hXa, hl, hsz, R, fin⟩ := h₁
  have hlt : ax < s₁.heap.objs.size := by obtain ⟨_, e, _⟩ := hl; exact Heap.lt_size e
  refine wpAny_pyIter_list hl ?_
  have up : ∀ b o, s₁.heap.get? b = some o → (s₁.heap.push { cls := .type "list_iterator", data := .fields #[.ref ax, .int 0 0] }).get? b = some o := fun b o e => Heap.get?_push_of_some _ e
  refine block_X hmono (Walks.list hh s₁.heap.objs.size ax (Nat.ne_of_lt hlt) its) hsz (fun i h st => by obtain ⟨o, e, _⟩ := st.1; exact ⟨o, e⟩) hcell hkind hx ⟨⟨_, Heap.get?_push_size _ rfl, rfl, rfl⟩, hl.push _⟩ (fun b hb => ?_)
    (F.keeps up) (N.grown up) (fun hm => by
      rcases List.mem_cons.mp hm with q | hm
      · exact absurd q (Nat.ne_of_lt (Heap.lt_size (N (X, ox 0) List.mem_cons_self).1))
      · exact hXa (List.mem_singleton.mp hm).symm) hXn (Nat.ne_of_lt F.ns.lt) (next_is_new F) (fun p hp => Nat.ne_of_lt (Heap.lt_size (N p hp).1)) R ?_
  · show b < (s₁.heap.push _).objs.size
    rw [Heap.size_push]
    rcases List.mem_cons.mp hb with rfl | hb
    · exact Nat.lt_succ_self _
    · rw [List.mem_singleton.mp hb]; exact Nat.lt_succ_of_lt hlt
  · intro D C h tk m' ys F' N' hn hC₀ hD₀ hCL hDL hCD offC htk hlen hys
    show wpAny _ A (assign (.Name y py) env (.ref D)) _ _ _
    refine wpAny_assign_Name (wpAny_storeName_local hy F'.ns (fun h₂ hn₂ hs₂ => ?_) hp)
    have hL₀ : h₀.get? env.locals = none := Heap.get?_none_of_le F'.above
    have F₂ : Fr h₀ env.locals h₂ (fun z => if z = y then some (.ref D) else m z) := F'.set hn₂ hs₂
    refine ⟨m', hn.sameBut hs₂ hCL, fun h'' hs'' => fin D h'' _ ys (F₂.change hs'' hCL hC₀) (fun p hp => ?_) (Nat.le_succ_of_le htk) hlen (fun j y e => hmono _ _ _ _ (Nat.le_succ _) (hys j y e))⟩
    have z : h₂.get? p.1 = some p.2 := hs₂.extBut _ _ (N' p hp).2.1 (N' p hp).1
    refine ⟨hs''.extBut _ _ ?_ z, (N' p hp).2⟩
    rcases List.mem_cons.mp hp with rfl | hp
    · exact Ne.symm hCD
    · exact offC p hp
end
end
section
open PySem PySem.W PySem.Calls PyProof.Rows PyProof.Rows.LCg
theorem freshCmp3 : True := by
  w_top off
  trivial
section
variable {prog : Program} {w : World} {A : Around} {E : Value → Shared → Prop} {s : Shared} {h₀ : Heap} {L : Addr} {m : Str → Option Value} {env : Env}
/-- one turn of a list comprehension that leaves the older objects as they are; what it yields is told together with the tokens -/
noncomputable def TurnR (prog : Program) (w : World) (A : Around) (h₀ : Heap) (L : Addr) (m : Str → Option Value) (env : Env) (elt : Expr) (x : Str) (scope : Scope) (cl : List (Str × Addr)) (s : Shared) (news : List (Addr × Obj)) (P : Nat → Value → Prop) (Fp : Nat → Obj → Prop) (n : Nat) : Prop :=
  ∀ i v I oI C oC D oD m₂ h tk (E' : Value → Shared → Prop), i < n → s.toks ≤ tk → P i v → NsObj oC m₂ → m₂ x = some v → Fr h₀ L h m → News h₀ L h ((I, oI) :: (C, oC) :: (D, oD) :: news) →
    wpAny (model prog w) A (eval elt (compEnvC scope cl C env)) (fun y s₂ => ∃ (Pa : Addr) (po : Obj) (h' : Heap) (tk' : Nat), y = .ref Pa ∧ Fp i po ∧ s₂ = { s with heap := h', toks := tk' } ∧ (∀ b o, h.get? b = some o → h'.get? b = some o) ∧ h.get? Pa = none ∧ h'.get? Pa = some po) E' { s with heap := h, toks := tk }
theorem block_R {elt iter : Expr} {x : Str} {px : Pos} {scope : Scope} {cl : List (Str × Addr)} {pos : Pos} {s₂ : Shared} {I : Addr} {fp : List Addr} {n : Nat} {P : Nat → Value → Prop} {St : Nat → Heap → Prop} {news : List (Addr × Obj)}
    {Fp : Nat → Obj → Prop} {RR : Value → Addr → Result → Shared → Prop} 
    (W : Walks prog w A I fp [I] n P St) (hsz : n ≤ sizeLine) (hIo : ∀ i h, St i h → ∃ o, h.get? I = some o)
    (hcell : ∀ y ∈ scope.names, y.2 ≠ .cell) (hkind : scope.kind = .function) (hx : scope.names.lookup x = some .local) (hst : St 0 s₂.heap) (hfp : ∀ b ∈ fp, b < s₂.heap.objs.size)
    (F : Fr h₀ L s₂.heap m) (N : News h₀ L s₂.heap news) (hIL : L ≠ I) (hI₀ : h₀.get? I = none) (off : ∀ p ∈ news, p.1 ≠ I)
    (R : TurnR prog w A h₀ L m env elt x scope cl s₂ news P Fp n)
    (hRR : ∀ D C h tk m' (acc : List (Addr × Obj)), Fr h₀ L h m → News h₀ L h ((D, lst (acc.map fun p => .ref p.1)) :: (acc ++ news)) → h.Ns C m' → h₀.get? C = none → h₀.get? D = none → C ≠ L → D ≠ L → C ≠ D → (∀ p ∈ acc ++ news, p.1 ≠ C) → s₂.toks ≤ tk → acc.length = n →
      (∀ j p, acc[j]? = some p → Fp j p.2) → RR (.ref D) C (.ok .next) { s₂ with heap := h, toks := tk }) :
    wpAny (model prog w) A (newList []) (fun acc s₃ => wpAny (model prog w) A (newFunctionEnv scope env.globals cl [] env.qual none .none (some env)) (fun cenv s₄ =>
      codeAny (model prog w) A (.compStart (.ListComp elt [⟨.Name x px, iter, [], 0⟩] scope pos) 0 (.ref I) acc { cenv with scope := relabel scope env }) (RR acc cenv.locals) s₄) E s₃) E s₂ := by
  refine wpAny_newObj_type (wpAny_newFunctionEnv hcell (by intro y hy; simp at hy) (fun h₁ hns₁ hsb₁ => ?_) hkind)
  dsimp only at hns₁ hsb₁ ⊢
  generalize hH : s₂.heap.push { cls := .type "list", dict := none, data := .seq ([] : List Value).toArray } = H at hns₁ hsb₁ ⊢
  have eC : H.objs.size = s₂.heap.objs.size + 1 := by rw [← hH, Heap.size_push]
  generalize eD' : s₂.heap.objs.size = D
  generalize eC' : H.objs.size = C at hns₁ hsb₁ ⊢
  have hCD : C ≠ D := by rw [← eC', eC, eD']; exact Nat.succ_ne_self _
  have lo : ∀ b, b < s₂.heap.objs.size → b ≠ C ∧ b ≠ D := fun b hb => ⟨by rw [← eC', eC]; exact Nat.ne_of_lt (Nat.lt_succ_of_lt hb), by rw [← eD']; exact Nat.ne_of_lt hb⟩
  have hDf : D ∉ fp := fun hm => (lo D (hfp _ hm)).2 rfl
  have hCf : C ∉ fp := fun hm => (lo C (hfp _ hm)).1 rfl
  have hIlt : I < s₂.heap.objs.size := hfp I (W.sub I (List.mem_singleton.mpr rfl))
  have hIC := (lo I hIlt).1
  have hID := (lo I hIlt).2
  have hLC := (lo L F.ns.lt).1
  have hLD := (lo L F.ns.lt).2
  have up : ∀ b o, s₂.heap.get? b = some o → h₁.get? b = some o := fun b o e => hsb₁.extBut b o (lo b (Heap.lt_size e)).1 (Heap.get?_push_of_some _ (hH ▸ Heap.get?_push_of_some _ e))
  have none₀ : ∀ a, s₂.heap.objs.size ≤ a → h₀.get? a = none := fun a ha => by
    cases e : h₀.get? a with
    | none => rfl
    | some o => exact absurd (Heap.lt_size (F.keep a o e)) (Nat.not_lt.mpr ha)
  have hD₀ : h₀.get? D = none := none₀ D (by rw [← eD']; exact Nat.le_refl _)
  have hC₀ : h₀.get? C = none := none₀ C (by rw [← eC', eC]; exact Nat.le_succ _)
  have hacc : h₁.get? D = some (lst []) := hsb₁.extBut _ _ (Ne.symm hCD) (Heap.get?_push_of_some _ (by rw [← eD', ← hH]; exact Heap.get?_push_size _ rfl))
  have offN : ∀ p ∈ news, p.1 ≠ C ∧ p.1 ≠ D := fun p hp => lo _ (Heap.lt_size (N p hp).1)
  have loop : ∀ s₃ : Shared, s₃ = { s₂ with heap := h₁, toks := s₂.toks + ([] : List (Str × Value)).length } →
      codeAny (model prog w) A (.compLoop (.ListComp elt [⟨.Name x px, iter, [], 0⟩] scope pos) 0 (.ref I) (.ref D) (compEnvC scope cl C env)) (RR (.ref D) C) s₃ := by
    rintro s₃ rfl
    refine codeAny_compLoop_tests
      (fun k s' => ∃ h' tk i acc m', s' = { s₂ with heap := h', toks := tk } ∧ i ≤ n ∧ k = n + 1 - i ∧ acc.length = i ∧ (∀ p ∈ acc, p.1 ≠ I ∧ p.1 ≠ C ∧ p.1 ≠ D) ∧ s₂.toks ≤ tk ∧ St i h' ∧ Fr h₀ L h' m ∧ h'.Ns C m' ∧ News h₀ L h' ((D, lst (acc.map fun p => .ref p.1)) :: (acc ++ news)) ∧
        ∀ j p, acc[j]? = some p → Fp j p.2) ?_ (n + 1)
      ⟨h₁, _, 0, [], _, rfl, Nat.zero_le _, rfl, rfl, (fun p hp => absurd hp (List.not_mem_nil)), Nat.le_refl _, W.frame _ _ _ hst fun b _ o e => up b o e, F.keeps up, hns₁, fun p hp => ?_, fun j y e => by simp at e⟩
    · rintro k s' ⟨h', tk, i, acc, m', rfl, hi, rfl, hyl, hac, htk, hst', F', hn', N', hys⟩
      have offA : ∀ p ∈ acc ++ news, p.1 ≠ I ∧ p.1 ≠ C ∧ p.1 ≠ D := fun p hp => by
        rcases List.mem_append.mp hp with hp | hp
        · exact hac p hp
        · exact ⟨off p hp, offN p hp⟩
      by_cases hlt : i < n
      · refine wpAny_with_toks (n := tk) (Nat.le_refl _) (W.item i _ _ _ hlt hst' fun v h₂ tk₂ hPv hst₂ hk₂ htk₂ => ?_)
        refine wpAny_assign_Name (wpAny_storeName_local (lookup_relabel_local hx) (hn'.at' fun o e => hk₂ _ o (by simpa using Ne.symm hIC) e) (fun h₃ hn₃ hs₃ => ?_) (by simp [compEnvC, relabel, hkind]))
        refine wpAny_tests_nil ?_
        simp only [if_true]
        replace hs₃ : Heap.SameBut C h₂ h₃ := hs₃
        replace htk₂ : tk ≤ tk₂ := htk₂
        have hst₃ : St (i + 1) h₃ := W.frame _ _ _ hst₂ fun b hb o e => hs₃.extBut b o (fun q => hCf (q ▸ hb)) e
        obtain ⟨oI, heI⟩ := hIo _ _ hst₃
        obtain ⟨oC, heC, hoC⟩ := ns_obj hn₃
        have F₃ : Fr h₀ L h₃ m := (fr_but F' hk₂ hIL hI₀).change hs₃ (Ne.symm hLC) hC₀
        have N₂ : News h₀ L h₂ ((D, lst (acc.map fun p => .ref p.1)) :: (acc ++ news)) := news_but N' hk₂ fun p hp => by
          rcases List.mem_cons.mp hp with rfl | hp
          · exact Ne.symm hID
          · exact (offA p hp).1
        have N₃ : News h₀ L h₃ ((I, oI) :: (C, oC) :: (D, lst (acc.map fun p => .ref p.1)) :: (acc ++ news)) := fun p hp => by
          rcases List.mem_cons.mp hp with rfl | hp
          · exact ⟨heI, Ne.symm hIL, hI₀⟩
          · rcases List.mem_cons.mp hp with rfl | hp
            · exact ⟨heC, Ne.symm hLC, hC₀⟩
            · refine ⟨hs₃.extBut _ _ ?_ (N₂ p hp).1, (N₂ p hp).2⟩
              rcases List.mem_cons.mp hp with rfl | hp
              · exact Ne.symm hCD
              · exact (offA p hp).2.1
        refine wpAny_mono (wpAny_toks_of (n := tk) (Nat.le_succ_of_le htk₂) (R i v I oI C oC D (lst (acc.map fun p => .ref p.1)) _ h₃ _ _ hlt (Nat.le_succ_of_le (Nat.le_trans htk htk₂)) hPv hoC (by simp) F₃ (fun p hp => N₃ p (by
          simp only [List.mem_cons, List.mem_append] at hp ⊢
          rcases hp with q | q | q | q <;> simp [q])))) (fun y s₄ h₄ => ?_) fun _ _ e => e.2
        obtain ⟨htk₄, Pa, po, h₄, tk₄, rfl, hFy, rfl, hk₄, hPn, hPo⟩ := h₄
        replace htk₄ : tk ≤ tk₄ := htk₄
        have zD := hk₄ _ _ (N₃ (D, lst (acc.map fun p => .ref p.1)) (List.mem_cons_of_mem _ (List.mem_cons_of_mem _ List.mem_cons_self))).1
        refine append_at (hsz := by show (acc.map fun p : Addr × Obj => Value.ref p.1).toArray.size ≤ sizeLine; rw [List.size_toArray, List.length_map, hyl]; exact Nat.le_trans hi hsz) zD fun h₅ hs₅ hD₅ => ?_
        replace hs₅ : Heap.SameBut D h₄ h₅ := hs₅
        refine ⟨n + 1 - (i + 1), by omega, h₅, tk₄, i + 1, acc ++ [(Pa, po)], _, rfl, hlt, rfl, by rw [List.length_append, List.length_singleton, hyl], fun p hp => ?_, Nat.le_trans htk htk₄,
          W.frame _ _ _ hst₃ fun b hb o e => hs₅.extBut b o (fun q => hDf (q ▸ hb)) (hk₄ b o e), (F₃.keeps hk₄).change hs₅ (Ne.symm hLD) hD₀, (hn₃.keeps hk₄).sameBut hs₅ hCD, fun p hp => ?_, fun j z hj => ?_⟩
        · rcases List.mem_append.mp hp with hp | hp
          · exact hac p hp
          · rw [List.mem_singleton.mp hp]
            have zD' := (N₃ (D, lst (acc.map fun p => .ref p.1)) (List.mem_cons_of_mem _ (List.mem_cons_of_mem _ List.mem_cons_self))).1
            refine ⟨fun q => ?_, fun q => ?_, fun q => ?_⟩
            · dsimp only at q
              rw [q, heI] at hPn
              cases hPn
            · dsimp only at q
              rw [q] at hPn
              exact absurd (heC.symm.trans hPn) (fun e => nomatch e)
            · dsimp only at q zD'
              rw [q, zD'] at hPn
              cases hPn
        · rcases List.mem_cons.mp hp with rfl | hp
          · refine ⟨hD₅.trans (congrArg some ?_), Ne.symm hLD, hD₀⟩
            rw [List.map_append]
            exact lst_snoc _ _
          · have hp' : p ∈ acc ++ news ∨ p = (Pa, po) := by
              simp only [List.mem_append, List.mem_singleton] at hp ⊢
              rcases hp with (q | q) | q
              · exact .inl (.inl q)
              · exact .inr q
              · exact .inl (.inr q)
            rcases hp' with hp' | rfl
            · have z := N₃ p (List.mem_cons_of_mem _ (List.mem_cons_of_mem _ (List.mem_cons_of_mem _ hp')))
              exact ⟨hs₅.extBut _ _ (offA p hp').2.2 (hk₄ _ _ z.1), z.2⟩
            · refine ⟨hs₅.extBut _ _ (fun q => ?_) hPo, fun q => ?_, ?_⟩
              · have := (N₃ (D, lst (acc.map fun p => .ref p.1)) (List.mem_cons_of_mem _ (List.mem_cons_of_mem _ List.mem_cons_self))).1
                dsimp only at this q
                rw [q, this] at hPn; cases hPn
              · obtain ⟨x, _, _, e, _⟩ := F₃.ns
                dsimp only at q
                rw [q, e] at hPn; cases hPn
              · cases e : h₀.get? Pa with
                | none => rfl
                | some x => have := F₃.keep _ _ e; rw [hPn] at this; cases this
        · rcases Nat.lt_trichotomy j acc.length with hj' | hj' | hj'
          · rw [List.getElem?_append_left hj'] at hj
            exact hys j z hj
          · subst hj'
            simp at hj
            subst hj
            rw [hyl]
            exact hFy
          · rw [List.getElem?_eq_none (by rw [List.length_append, List.length_singleton]; omega)] at hj
            cases hj
      · obtain rfl : i = n := Nat.le_antisymm hi (Nat.not_lt.mp hlt)
        refine wpAny_with_toks (n := tk) (Nat.le_refl _) (W.done _ _ _ hst' fun h₂ tk₂ hk₂ htk₂ => ?_)
        replace htk₂ : tk ≤ tk₂ := htk₂
        exact hRR _ _ h₂ tk₂ _ acc (fr_but F' hk₂ hIL hI₀) (news_but N' hk₂ fun p hp => by
          rcases List.mem_cons.mp hp with rfl | hp
          · exact Ne.symm hID
          · exact (offA p hp).1) (hn'.at' fun o e => hk₂ _ o (by simpa using Ne.symm hIC) e) hC₀ hD₀ (Ne.symm hLC) (Ne.symm hLD) hCD (fun p hp => (offA p hp).2.1) (Nat.le_trans htk htk₂) hyl hys
    · rcases List.mem_cons.mp hp with rfl | hp
      · exact ⟨hacc, Ne.symm hLD, hD₀⟩
      · exact ⟨up _ _ (N p hp).1, (N p hp).2⟩
  exact codeAny_compStart_list (loop _ rfl) (W.self 0 _ _ _ (W.frame _ _ _ hst fun b _ o e => up b o e) (loop _ rfl))
theorem comp_listR {elt iter : Expr} {x y : Str} {px py : Pos} {scope : Scope} {cl : List (Str × Addr)} {pos spos : Pos} {Q : Flow → Shared → Prop} (Fp : Nat → Obj → Prop)
    (F₀ : Fr h₀ L s.heap m) (hh : A.handled = none) (hLe : env.locals = L)
    (hsw : swapsWith (.ListComp elt [⟨.Name x px, iter, [], 0⟩] scope pos) (some (.Name y py)) spos.line env = pure true)
    (hclos : closureFor scope env = pure cl) (hcell : ∀ y ∈ scope.names, y.2 ≠ .cell) (hkind : scope.kind = .function)
    (hnames : ∀ y ∈ scope.names, y.2 = .local → scope.names.lookup y.1 = some .local) (hx : scope.names.lookup x = some .local)
    (hy : env.kindOf y = some .local) (hp : (env.scope.kind == .class || (env.scope.kind == .module && env.locals != env.globals)) = false)
    (h : wpAny (model prog w) A (eval iter env) (fun xv s₁ => ∃ ax its news, xv = .ref ax ∧ Fr h₀ L s₁.heap m ∧ News h₀ L s₁.heap news ∧ s₁.heap.IsList ax its ∧ its.size ≤ sizeLine ∧
      TurnR prog w A h₀ L m env elt x scope cl s₁ news (fun i v => its[i]? = some v) Fp its.size ∧
      ∀ D h tk (acc : List (Addr × Obj)), Fr h₀ L h (fun z => if z = y then some (.ref D) else m z) → News h₀ L h ((D, lst (acc.map fun p => .ref p.1)) :: (acc ++ news)) → s₁.toks ≤ tk → acc.length = its.size → (∀ j p, acc[j]? = some p → Fp j p.2) → Q .next { s₁ with heap := h, toks := tk }) E s)
    (hs : ∀ x, foldedSetIterable iter env x = pure x := by intro _; rfl) :
    wpAny (model prog w) A (exec (.Assign [.Name y py] (.ListComp elt [⟨.Name x px, iter, [], 0⟩] scope pos) spos) env) Q E s := by
  subst hLe
  rw [exec_Assign_Name_used _ _ _ _ hsw]
  refine wpAny_bind (wpAny_standAt (wpAny_bind ?_))
  show wpAny _ A (do let _ ← comprehension (.ListComp elt [⟨.Name x px, iter, [], 0⟩] scope pos) scope env _ (newList []) false (eval iter env) (some (assign (.Name y py) env))) _ _ s
  refine wpAny_bind (wpAny_mono (wpAny_comprehension_free (use := some (assign (.Name y py) env)) (Q := fun _ s' => Q .next s') rfl hs hclos hkind hnames
    (wpAny_mono h (fun xv s₁ h₁ => ?_) fun _ _ e => e)) (fun _ s' hq => wpAny_pure (wpAny_pure hq)) fun _ _ e => e)
  obtain ⟨ax, its, news, rfl, F, N, hl, hsz, R, fin⟩ := h₁
  have hlt : ax < s₁.heap.objs.size := by obtain ⟨_, e, _⟩ := hl; exact Heap.lt_size e
  refine wpAny_pyIter_list hl ?_
  have up : ∀ b o, s₁.heap.get? b = some o → (s₁.heap.push { cls := .type "list_iterator", data := .fields #[.ref ax, .int 0 0] }).get? b = some o := fun b o e => Heap.get?_push_of_some _ e
  refine block_R (Walks.list hh s₁.heap.objs.size ax (Nat.ne_of_lt hlt) its) hsz (fun i h st => by obtain ⟨o, e, _⟩ := st.1; exact ⟨o, e⟩) hcell hkind hx ⟨⟨_, Heap.get?_push_size _ rfl, rfl, rfl⟩, hl.push _⟩ (fun b hb => ?_)
    (F.keeps up) (N.grown up) (Nat.ne_of_lt F.ns.lt) (next_is_new F) (fun p hp => Nat.ne_of_lt (Heap.lt_size (N p hp).1)) R ?_
  · show b < (s₁.heap.push _).objs.size
    rw [Heap.size_push]
    rcases List.mem_cons.mp hb with rfl | hb
    · exact Nat.lt_succ_self _
    · rw [List.mem_singleton.mp hb]; exact Nat.lt_succ_of_lt hlt
  · intro D C h tk m' acc F' N' hn hC₀ hD₀ hCL hDL hCD offC htk hlen hys
    show wpAny _ A (assign (.Name y py) env (.ref D)) _ _ _
    refine wpAny_assign_Name (wpAny_storeName_local hy F'.ns (fun h₂ hn₂ hs₂ => ?_) hp)
    have hL₀ : h₀.get? env.locals = none := Heap.get?_none_of_le F'.above
    have F₂ : Fr h₀ env.locals h₂ (fun z => if z = y then some (.ref D) else m z) := F'.set hn₂ hs₂
    refine ⟨m', hn.sameBut hs₂ hCL, fun h'' hs'' => fin D h'' _ acc (F₂.change hs'' hCL hC₀) (fun p hp => ?_) (Nat.le_succ_of_le htk) hlen hys⟩
    have z : h₂.get? p.1 = some p.2 := hs₂.extBut _ _ (N' p hp).2.1 (N' p hp).1
    refine ⟨hs''.extBut _ _ ?_ z, (N' p hp).2⟩
    rcases List.mem_cons.mp hp with rfl | hp
    · exact Ne.symm hCD
    · exact offC p hp
end
end
section
open PySem PySem.W PySem.Calls PyProof.Rows
theorem freshPz : True := by
  w_top off
  trivial
theorem gb_emod (z : Int × Int) : gb z = (z.1 + z.2) % 2 := by
  unfold gb
  exact Int.fmod_eq_emod_of_nonneg _ (by decide)
theorem gT_ediv (z : Int × Int) : gT z = ((z.2 - z.1 + gb z) / 2, (gb z - z.1 - z.2) / 2) := by
  unfold gT
  rw [Int.fdiv_eq_ediv_of_nonneg _ (by decide), Int.fdiv_eq_ediv_of_nonneg _ (by decide)]
noncomputable def mb (w : Int × Int) : Int × Int := (-w.1 - w.2, w.1 - w.2)
noncomputable def pm : Nat → Int × Int → Int × Int
  | 0, w => w
  | n + 1, w => mb (pm n w)
noncomputable def pe : List Int → Int × Int
  | [] => (0, 0)
  | a :: r => (a + (mb (pe r)).1, (mb (pe r)).2)
/-- a number is its bit and i - 1 times what goes on -/
theorem gT_back (z : Int × Int) : z = (gb z + (mb (gT z)).1, (mb (gT z)).2) := by
  have h1 := gb_emod z
  rw [gT_ediv]
  refine Prod.ext ?_ ?_ <;> simp only [mb] <;> omega
theorem g_of {a : Int} {w : Int × Int} : gb (a + (mb w).1, (mb w).2) = a % 2 ∧ gT (a + (mb w).1, (mb w).2) = (w.1 - (a - a % 2) / 2, w.2 - (a - a % 2) / 2) := by
  have h1 : gb (a + (mb w).1, (mb w).2) = a % 2 := by
    rw [gb_emod]; simp only [mb]; omega
  refine ⟨h1, ?_⟩
  rw [gT_ediv, h1]
  simp only [mb]
  refine Prod.ext ?_ ?_ <;> simp only [] <;> omega
/-- two steps halve -/
theorem gT2_bound {z : Int × Int} {B : Int} (hB : 0 ≤ B) (h : -B ≤ z.1 ∧ z.1 ≤ B ∧ -B ≤ z.2 ∧ z.2 ≤ B) :
    -((B + 1) / 2) ≤ (gIt 2 z).1 ∧ (gIt 2 z).1 ≤ (B + 1) / 2 ∧ -((B + 1) / 2) ≤ (gIt 2 z).2 ∧ (gIt 2 z).2 ≤ (B + 1) / 2 := by
  have e : gIt 2 z = gT (gT z) := rfl
  have h1 := gT_back z
  have h2 := gT_back (gT z)
  have c1 := gb_cases z
  have c2 := gb_cases (gT z)
  rw [e]
  generalize gT (gT z) = w at h2 ⊢
  generalize gT z = v at h1 h2 c2
  obtain ⟨x, y⟩ := z
  obtain ⟨x1, y1⟩ := v
  obtain ⟨x2, y2⟩ := w
  simp only [mb, Prod.mk.injEq] at h1 h2
  dsimp only at h ⊢
  generalize gb (x, y) = b1 at *
  generalize gb (x1, y1) = b2 at *
  omega
noncomputable def bnd : Nat → Int → Int
  | 0, B => B
  | n + 1, B => bnd n ((B + 1) / 2)
theorem gIt_bound : ∀ (n : Nat) (z : Int × Int) (B : Int), 0 ≤ B → (-B ≤ z.1 ∧ z.1 ≤ B ∧ -B ≤ z.2 ∧ z.2 ≤ B) →
    (-bnd n B ≤ (gIt (2 * n) z).1 ∧ (gIt (2 * n) z).1 ≤ bnd n B ∧ -bnd n B ≤ (gIt (2 * n) z).2 ∧ (gIt (2 * n) z).2 ≤ bnd n B) := by
  intro n
  induction n with
  | zero => intro z B _ h; exact h
  | succ n ih =>
    intro z B hB h
    rw [show 2 * (n + 1) = 2 * n + 2 by omega, gIt_add]
    exact ih _ _ (by omega) (gT2_bound hB h)
theorem gIt_30 {z : Int × Int} (h : -1680 ≤ z.1 ∧ z.1 ≤ 1680 ∧ -1680 ≤ z.2 ∧ z.2 ≤ 1680) : gIt 30 z = (0, 0) := by
  have h1 := gIt_bound 11 z 1680 (by decide) h
  rw [show bnd 11 1680 = 1 by decide] at h1
  rw [show 30 = 8 + 2 * 11 by rfl, gIt_add]
  generalize gIt (2 * 11) z = w at h1
  obtain ⟨x, y⟩ := w
  dsimp only at h1
  have hx : x = -1 ∨ x = 0 ∨ x = 1 := by omega
  have hy : y = -1 ∨ y = 0 ∨ y = 1 := by omega
  rcases hx with rfl | rfl | rfl <;> rcases hy with rfl | rfl | rfl <;> decide
end
section
open PySem PySem.W PySem.Calls PyProof.Rows
theorem freshPz2 : True := by
  w_top off
  trivial
/-- the value of the lowest f bits -/
noncomputable def ev : Nat → Nat → Int × Int
  | 0, _ => (0, 0)
  | f + 1, M => ((M % 2 : Nat) + (mb (ev f (M / 2))).1, (mb (ev f (M / 2))).2)
theorem dg_step (z : Int × Int) (n : Nat) : dg z (n + 1) = gb z + 2 * dg (gT z) n := by
  have h := dg_add z 1 n
  rw [Nat.add_comm 1 n] at h
  rw [h]
  simp [dg, gIt]
theorem gIt_step (z : Int × Int) (n : Nat) : gIt (n + 1) z = gIt n (gT z) := by rw [gIt_add]; rfl
theorem ev_dg : ∀ (n : Nat) (z : Int × Int), gIt n z = (0, 0) → ev n (dg z n).toNat = z := by
  intro n
  induction n with
  | zero => intro z h; exact h.symm
  | succ n ih =>
    intro z h
    rw [gIt_step] at h
    have h1 := ih _ h
    have hb := gb_cases z
    have hd := dg_bound (gT z) n
    have e1 : (dg z (n + 1)).toNat / 2 = (dg (gT z) n).toNat := by rw [dg_step]; omega
    have e2 : (((dg z (n + 1)).toNat % 2 : Nat) : Int) = gb z := by rw [dg_step]; omega
    rw [ev, e1, e2, h1]
    exact (gT_back z).symm
theorem mb_zero : mb (0, 0) = (0, 0) := by decide
theorem ev_big : ∀ (f M : Nat), M < 2 ^ f → ev (f + 1) M = ev f M := by
  intro f
  induction f with
  | zero => intro M h; obtain rfl : M = 0 := by simpa using h
            decide
  | succ f ih =>
    intro M h
    rw [ev, ih (M / 2) (by rw [Nat.pow_succ] at h; omega)]
    rfl
theorem ev_any {f M : Nat} (h : M < 2 ^ f) : ∀ d, ev (f + d) M = ev f M := by
  intro d
  induction d with
  | zero => rfl
  | succ d ih => rw [← Nat.add_assoc, ev_big _ _ (Nat.lt_of_lt_of_le h (Nat.pow_le_pow_right (by decide) (Nat.le_add_right _ _))), ih]
/-- letters -/
theorem let_ev : ∀ (k M : Nat), M < 16 ^ k → letFold (apI M) = ev (4 * k) M := by
  intro k
  induction k with
  | zero => intro M h; obtain rfl : M = 0 := by simpa using h
            rw [apI_zero]; rfl
  | succ k ih =>
    intro M h
    by_cases h0 : M = 0
    · subst h0
      rw [apI_zero]
      have h2 := ev_any (f := 0) (M := 0) (by decide) (4 * (k + 1))
      rw [Nat.zero_add] at h2
      rw [h2]; rfl
    · rw [apI_pos h0]
      have h1 := ih (M / 16) (by rw [Nat.pow_succ] at h; omega)
      rw [letFold, List.foldl_append]
      show letStep (letFold (apI (M / 16))) (65 + (M : Int) % 16) = _
      rw [h1, show 4 * (k + 1) = 4 * k + 1 + 1 + 1 + 1 by omega]
      simp only [ev, Nat.div_div_eq_div_mul]
      generalize ev (4 * k) (M / 16) = w
      unfold letStep
      simp only [Int.fmod_eq_emod_of_nonneg _ (show (0 : Int) ≤ 2 by decide), Int.fdiv_eq_ediv_of_nonneg _ (show (0 : Int) ≤ 2 by decide), Int.fdiv_eq_ediv_of_nonneg _ (show (0 : Int) ≤ 4 by decide), Int.fdiv_eq_ediv_of_nonneg _ (show (0 : Int) ≤ 8 by decide), mb]
      refine Prod.ext ?_ ?_ <;> simp only [] <;> omega
theorem apI_head : ∀ (k M : Nat), M < 16 ^ k → (apI M).head? ≠ some 65 := by
  intro k
  induction k with
  | zero => intro M h; obtain rfl : M = 0 := by simpa using h
            rw [apI_zero]; simp
  | succ k ih =>
    intro M h
    by_cases h0 : M = 0
    · subst h0; rw [apI_zero]; simp
    · rw [apI_pos h0]
      have h1 := ih (M / 16) (by rw [Nat.pow_succ] at h; omega)
      cases e : apI (M / 16) with
      | nil =>
        have h3 : M / 16 = 0 := Classical.byContradiction fun h4 => by rw [apI_pos h4] at e; simp at e
        simp
        omega
      | cons a r => rw [e] at h1; simpa using h1
theorem apI_range : ∀ (k M : Nat), M < 16 ^ k → ∀ o ∈ apI M, 65 ≤ o ∧ o ≤ 80 := by
  intro k
  induction k with
  | zero => intro M h; obtain rfl : M = 0 := by simpa using h
            rw [apI_zero]; simp
  | succ k ih =>
    intro M h o ho
    by_cases h0 : M = 0
    · subst h0; rw [apI_zero] at ho; simp at ho
    · rw [apI_pos h0] at ho
      rcases List.mem_append.mp ho with ho | ho
      · exact ih (M / 16) (by rw [Nat.pow_succ] at h; omega) o ho
      · rw [List.mem_singleton.mp ho]; omega
/-- words -/
noncomputable def pw (k : Nat) : Int × Int := pm k (1, 0)
noncomputable def sm (l : List Nat) : Int × Int := l.foldr (fun k r => ((pw k).1 + r.1, (pw k).2 + r.2)) (0, 0)
theorem sm_app (l r : List Nat) : sm (l ++ r) = ((sm l).1 + (sm r).1, (sm l).2 + (sm r).2) := by
  induction l with
  | nil => simp [sm]
  | cons a l ih =>
    have e1 : sm (a :: l ++ r) = ((pw a).1 + (sm (l ++ r)).1, (pw a).2 + (sm (l ++ r)).2) := rfl
    have e2 : sm (a :: l) = ((pw a).1 + (sm l).1, (pw a).2 + (sm l).2) := rfl
    rw [e1, e2, ih]
    refine Prod.ext ?_ ?_ <;> simp only [] <;> omega
theorem sm_one (k : Nat) : sm [k] = pw k := by simp [sm]
theorem pw_succ (k : Nat) : pw (k + 1) = mb (pw k) := rfl
theorem sm_shift (M : Nat) : ∀ n, sm (plUp M (n + 1)) = ((M % 2 : Nat) + (mb (sm (plUp (M / 2) n))).1, (mb (sm (plUp (M / 2) n))).2) := by
  intro n
  induction n with
  | zero =>
    rw [plUp_succ]
    have h0 : plUp M 0 = [] := rfl
    have h1 : plUp (M / 2) 0 = [] := rfl
    rw [h0, h1]
    have ht : M.testBit 0 = decide (M % 2 = 1) := by simp [Nat.testBit_zero]
    rw [ht]
    have h2 : M % 2 = 0 ∨ M % 2 = 1 := by omega
    rcases h2 with h2 | h2 <;> simp [h2, sm, mb, pw, pm]
  | succ n ih =>
    rw [plUp_succ, sm_app, ih, plUp_succ (M / 2) n, sm_app]
    have ht : M.testBit (n + 1) = (M / 2).testBit n := by rw [Nat.testBit_succ]
    rw [ht]
    cases (M / 2).testBit n with
    | false => simp [sm, mb]
    | true =>
      simp only [if_true, sm_one, pw_succ]
      refine Prod.ext ?_ ?_ <;> simp only [mb] <;> omega
theorem sm_ev : ∀ (n M : Nat), sm (plUp M n) = ev n M := by
  intro n
  induction n with
  | zero => intro M; rfl
  | succ n ih => intro M; rw [sm_shift, ih]; rfl
end
section
open PySem PySem.W PySem.Calls PyProof.Rows
theorem freshPz3 : True := by
  w_top off
  trivial
noncomputable def ups (M : Nat) : List Int := (plUp M 32).map fun k : Nat => (k : Int)
theorem ups_mem {M k : Nat} (hk : k < 32) : (k : Int) ∈ ups M ↔ M.testBit k = true := by
  unfold ups
  rw [List.mem_map]
  constructor
  · rintro ⟨j, hj, e⟩
    have : j = k := by exact_mod_cast e
    subst this
    exact (plUp_mem.mp hj).2
  · intro h
    exact ⟨k, plUp_mem.mpr ⟨hk, h⟩, rfl⟩
theorem wFold_at (M : Nat) : ∀ k, k ≤ 32 → wFold (ups M) ((List.range k).map fun j : Nat => (j : Int)) = (sm (plUp M k), pw k, (plUp M k).map fun j : Nat => (j : Int)) := by
  intro k
  induction k with
  | zero => intro _; rfl
  | succ k ih =>
    intro hk
    rw [List.range_succ, List.map_append, wFold, List.foldl_append]
    show wStep (ups M) (wFold (ups M) _) (k : Int) = _
    rw [ih (by omega), plUp_succ, sm_app, pw_succ]
    unfold wStep
    have hm := ups_mem (M := M) (k := k) (by omega)
    cases hb : M.testBit k with
    | true => rw [if_pos (hm.mpr hb)]; simp [sm_one, mb]
    | false => rw [if_neg (fun h => by rw [hm.mp h] at hb; cases hb)]; simp [sm, mb]
theorem range_list : rangeKs 0 32 = (List.range 32).map fun j : Nat => (j : Int) := by decide
theorem words_ok (M : Nat) : (wFold (ups M) (rangeKs 0 32)).2.2 = ups M ∧ (wFold (ups M) (rangeKs 0 32)).1 = ev 32 M := by
  rw [range_list, wFold_at M 32 (Nat.le_refl _)]
  exact ⟨rfl, sm_ev 32 M⟩
theorem ups_range {M : Nat} {n : Int} (h : n ∈ ups M) : 0 ≤ n ∧ n < 32 := by
  obtain ⟨k, hk, rfl⟩ := List.mem_map.mp h
  have := plUp_lt hk
  omega
theorem ups_len (M : Nat) : (ups M).length ≤ 32 := by
  unfold ups; rw [List.length_map]; exact plUp_len M 32
theorem band_nat (n m : Nat) : Builtin.bitAnd (n : Int) (m : Int) = ((n &&& m : Nat) : Int) := by
  have d1 : decide (0 ≤ (n : Int)) = true := decide_eq_true (Int.natCast_nonneg _)
  have d2 : decide (0 ≤ (m : Int)) = true := decide_eq_true (Int.natCast_nonneg _)
  unfold Builtin.bitAnd
  rw [d1, d2]
  rfl
theorem bor_bit {d b : Int} {k : Nat} (hd : 0 ≤ d ∧ d < 2 ^ k) (hb : b = 0 ∨ b = 1) : Builtin.bitOr d (b * 2 ^ k) = d + b * 2 ^ k := by
  obtain ⟨hd0, hd1⟩ := hd
  obtain ⟨n, rfl⟩ := Int.eq_ofNat_of_zero_le hd0
  have hn : n < 2 ^ k := by exact_mod_cast hd1
  have e0 : Builtin.bitAnd (n : Int) (b * 2 ^ k) = 0 := by
    rcases hb with rfl | rfl
    · rw [Int.zero_mul]
      have := band_nat n 0
      rw [Nat.and_zero] at this
      exact this
    · have e1 : (1 * 2 ^ k : Int) = ((2 ^ k : Nat) : Int) := by simp
      rw [e1, band_nat]
      have : n &&& 2 ^ k = 0 := by
        apply Nat.eq_of_testBit_eq
        intro j
        rw [Nat.testBit_and, Nat.testBit_two_pow, Nat.zero_testBit]
        by_cases hj : k = j
        · subst hj; rw [Nat.testBit_lt_two_pow hn]; rfl
        · simp [hj]
      rw [this]; rfl
  have e1 := bitXor_and (n : Int) (b * 2 ^ k)
  have e2 : Builtin.bitXor (n : Int) (b * 2 ^ k) = Builtin.bitOr (n : Int) (b * 2 ^ k) - Builtin.bitAnd (n : Int) (b * 2 ^ k) := rfl
  rw [e0] at e1 e2
  omega
end
section
open PySem PySem.W PySem.Calls PyProof.Rows
theorem freshPz4 : True := by
  w_top off
  trivial
noncomputable def sc (h : Int) (w : Int × Int) : Int × Int := (h * w.1, h * w.2)
theorem mb_sc (h : Int) (w : Int × Int) : mb (sc h w) = sc h (mb w) := by
  unfold mb sc
  refine Prod.ext ?_ ?_
  · show -(h * w.1) - h * w.2 = h * (-w.1 - w.2)
    rw [Int.mul_sub, Int.mul_neg]
  · show h * w.1 - h * w.2 = h * (w.1 - w.2)
    rw [Int.mul_sub]
theorem pe_set : ∀ (j : Nat) (c : List Int) (h : Int), j < c.length → pe (c.set j (c.getD j 0 + h)) = ((pe c).1 + (sc h (pw j)).1, (pe c).2 + (sc h (pw j)).2) := by
  intro j
  induction j with
  | zero =>
    intro c h hj
    cases c with
    | nil => simp at hj
    | cons a r =>
      simp only [List.set_cons_zero, List.getD_cons_zero, pe, sc, pw, pm]
      refine Prod.ext ?_ ?_ <;> simp only [] <;> omega
  | succ j ih =>
    intro c h hj
    cases c with
    | nil => simp at hj
    | cons a r =>
      simp only [List.set_cons_succ, List.getD_cons_succ, pe]
      rw [ih r h (by simpa using hj), pw_succ, ← mb_sc]
      refine Prod.ext ?_ ?_ <;> simp only [mb] <;> omega
theorem drop_at {c : List Int} {k : Nat} (h : k < c.length) : c.drop k = c.getD k 0 :: c.drop (k + 1) := by
  rw [List.drop_eq_getElem_cons h]
  simp [List.getD_eq_getElem?_getD, List.getElem?_eq_getElem h]
theorem getD_drop (c : List Int) (k j : Nat) : (c.drop k).getD j 0 = c.getD (k + j) 0 := by
  simp [List.getD_eq_getElem?_getD, List.getElem?_drop]
theorem pe_set_drop {c : List Int} {k j : Nat} (h : Int) (hj : k + j < c.length) : pe ((c.set (k + j) (c.getD (k + j) 0 + h)).drop k) = ((pe (c.drop k)).1 + (sc h (pw j)).1, (pe (c.drop k)).2 + (sc h (pw j)).2) := by
  have e : (c.set (k + j) (c.getD (k + j) 0 + h)).drop k = (c.drop k).set j ((c.drop k).getD j 0 + h) := by
    rw [List.drop_set, if_neg (by omega), getD_drop, Nat.add_sub_cancel_left]
  rw [e]
  exact pe_set j _ h (by rw [List.length_drop]; omega)
theorem cr_inv {c0 : List Int} {V q : Int × Int} (hl : c0.length = 35) (h0 : V = ((pe c0).1 + (pm 32 q).1, (pe c0).2 + (pm 32 q).2)) : ∀ k, k ≤ 32 →
    gIt k V = ((pe ((crFold c0 k).1.drop k)).1 + (pm (32 - k) q).1, (pe ((crFold c0 k).1.drop k)).2 + (pm (32 - k) q).2) ∧ (crFold c0 k).2 = dg V k := by
  intro k
  induction k with
  | zero => intro _; exact ⟨h0, rfl⟩
  | succ k ih =>
    intro hk
    obtain ⟨i1, i2⟩ := ih (by omega)
    have hlen : (crFold c0 k).1.length = 35 := by rw [crFold_len, hl]
    generalize hst : crFold c0 k = st at i1 i2 hlen
    obtain ⟨c, mk⟩ := st
    dsimp only at i1 i2 hlen
    have hd := drop_at (c := c) (k := k) (by omega)
    rw [hd, show 32 - k = (32 - (k + 1)) + 1 by omega] at i1
    generalize hw : ((pe (c.drop (k + 1))).1 + (pm (32 - (k + 1)) q).1, (pe (c.drop (k + 1))).2 + (pm (32 - (k + 1)) q).2) = w
    have hw1 := congrArg Prod.fst hw
    have hw2 := congrArg Prod.snd hw
    dsimp only at hw1 hw2
    have i3 : gIt k V = (c.getD k 0 + (mb w).1, (mb w).2) := by
      rw [i1]
      simp only [pe, pm, mb]
      refine Prod.ext ?_ ?_ <;> simp only [] <;> omega
    obtain ⟨g1, g2⟩ := g_of (a := c.getD k 0) (w := w)
    rw [← i3] at g1 g2
    have hcr : crFold c0 (k + 1) = crStep (crFold c0 k) k := rfl
    rw [hcr, hst]
    unfold crStep
    dsimp only
    have hb : Builtin.bitAnd (c.getD k 0) 1 = gb (gIt k V) := by rw [bitAnd_m1, g1]
    have hh : Int.fdiv (c.getD k 0 - Builtin.bitAnd (c.getD k 0) 1) 2 = (c.getD k 0 - c.getD k 0 % 2) / 2 := by
      rw [Int.fdiv_eq_ediv_of_nonneg _ (by decide), bitAnd_m1]
    refine ⟨?_, ?_⟩
    · show gT (gIt k V) = _
      rw [g2, hh]
      generalize (c.getD k 0 - c.getD k 0 % 2) / 2 = hf
      have s1 := pe_set_drop (c := c.set (k + 2) (c.getD (k + 2) 0 + hf)) (k := k + 1) (j := 2) hf (by rw [List.length_set]; omega)
      have s2 := pe_set_drop (c := c) (k := k + 1) (j := 1) hf (by omega)
      rw [show k + 1 + 2 = k + 3 by omega] at s1
      rw [show k + 1 + 1 = k + 2 by omega] at s2
      rw [s1, s2]
      have p1 : pw 1 = (-1, 1) := by decide
      have p2 : pw 2 = (0, -2) := by decide
      rw [p1, p2]
      simp only [sc]
      refine Prod.ext ?_ ?_ <;> simp only [] <;> omega
    · rw [hb, i2]
      exact bor_bit (dg_bound V k) (gb_cases _)
theorem cr_mask {c0 : List Int} {V q : Int × Int} (hl : c0.length = 35) (h0 : V = ((pe c0).1 + (pm 32 q).1, (pe c0).2 + (pm 32 q).2)) : (crFold c0 32).2 = dg V 32 := (cr_inv hl h0 32 (Nat.le_refl _)).2
theorem pe_zeros : ∀ n, pe (List.replicate n 0) = (0, 0) := by
  intro n
  induction n with
  | zero => rfl
  | succ n ih => rw [List.replicate_succ, pe, ih]; rfl
theorem pe_bump {c : List Int} {p : Nat} (h : p < c.length) : pe (bump c (p : Int)) = ((pe c).1 + (pw p).1, (pe c).2 + (pw p).2) := by
  unfold bump
  rw [Int.toNat_natCast, pe_set p c 1 h]
  simp [sc]
theorem bump_len (c : List Int) (p : Int) : (bump c p).length = c.length := by simp [bump]
theorem pe_bumps : ∀ (ps : List Nat) (c : List Int), c.length = 35 → (∀ p ∈ ps, p < 32) → pe ((ps.map fun k : Nat => (k : Int)).foldl bump c) = ((pe c).1 + (sm ps).1, (pe c).2 + (sm ps).2) := by
  intro ps
  induction ps with
  | nil => intro c _ _; simp [sm]
  | cons p r ih =>
    intro c hc hp
    rw [List.map_cons, List.foldl_cons, ih _ (by rw [bump_len, hc]) fun k hk => hp k (List.mem_cons_of_mem _ hk), pe_bump (by have := hp p List.mem_cons_self; omega)]
    have e : sm (p :: r) = ((pw p).1 + (sm r).1, (pw p).2 + (sm r).2) := rfl
    rw [e]
    refine Prod.ext ?_ ?_ <;> simp only [] <;> omega
theorem sum_ok {M₁ M₂ : Nat} {z₁ z₂ : Int × Int} (h₁ : ev 32 M₁ = z₁) (h₂ : ev 32 M₂ = z₂) : (crFold (bumps (ups M₁ ++ ups M₂)) 32).2 = dg (z₁.1 + z₂.1, z₁.2 + z₂.2) 32 := by
  refine cr_mask (q := (0, 0)) (bumps_len _) ?_
  have h := pe_bumps (plUp M₁ 32 ++ plUp M₂ 32) (List.replicate 35 0) (by simp) fun p hp => by
    rcases List.mem_append.mp hp with hp | hp <;> exact plUp_lt hp
  rw [List.map_append] at h
  unfold bumps ups
  rw [h, sm_app, sm_ev, sm_ev, h₁, h₂, pe_zeros, show pm 32 (0, 0) = (0, 0) by decide]
  refine Prod.ext ?_ ?_ <;> simp only [] <;> omega
end
section
open PySem PySem.W PySem.Calls PyProof.Rows
theorem freshPz5 : True := by
  w_top off
  trivial
noncomputable def ad (a b : Int × Int) : Int × Int := (a.1 + b.1, a.2 + b.2)
noncomputable def mulC (a w : Int × Int) : Int × Int := (a.1 * w.1 - a.2 * w.2, a.1 * w.2 + a.2 * w.1)
theorem mb_ad (a b : Int × Int) : mb (ad a b) = ad (mb a) (mb b) := by
  unfold mb ad
  refine Prod.ext ?_ ?_ <;> simp only [] <;> omega
theorem pm_ad : ∀ (n : Nat) (a b : Int × Int), pm n (ad a b) = ad (pm n a) (pm n b) := by
  intro n
  induction n with
  | zero => intro a b; rfl
  | succ n ih => intro a b; rw [pm, ih, mb_ad]; rfl
theorem pm_add (n k : Nat) (w : Int × Int) : pm (n + k) w = pm n (pm k w) := by
  induction n with
  | zero => simp [pm]
  | succ n ih => rw [Nat.succ_add, pm, ih]; rfl
theorem pm_pw (p q : Nat) : pm p (pw q) = pw (p + q) := by unfold pw; rw [pm_add]
theorem mulC_mb (a w : Int × Int) : mulC (mb a) w = mb (mulC a w) := by
  unfold mulC mb
  simp only [Int.sub_mul, Int.neg_mul]
  refine Prod.ext ?_ ?_ <;> simp only [] <;> omega
theorem mulC_pw (p : Nat) (w : Int × Int) : mulC (pw p) w = pm p w := by
  induction p with
  | zero => simp [mulC, pw, pm]
  | succ p ih => rw [pw_succ, mulC_mb, ih]; rfl
theorem mulC_ad (a b w : Int × Int) : mulC (ad a b) w = ad (mulC a w) (mulC b w) := by
  unfold mulC ad
  simp only [Int.add_mul]
  refine Prod.ext ?_ ?_ <;> simp only [] <;> omega
theorem pm_zero : ∀ n, pm n (0, 0) = (0, 0) := by
  intro n
  induction n with
  | zero => rfl
  | succ n ih => rw [pm, ih]; rfl
theorem sm_cons (p : Nat) (r : List Nat) : sm (p :: r) = ad (pw p) (sm r) := rfl
theorem ad_eq {a b c d : Int × Int} (h : ad a b = ad c d) : a.1 + b.1 = c.1 + d.1 ∧ a.2 + b.2 = c.2 + d.2 := ⟨congrArg Prod.fst h, congrArg Prod.snd h⟩
theorem pump_inner (p : Nat) : ∀ (qs : List Nat) (c : List Int), c.length = 35 → ∃ q0, ad (pe ((qs.map fun k : Nat => (k : Int)).foldl (pump (p : Int)) c)) (pm 32 q0) = ad (pe c) (pm p (sm qs)) := by
  intro qs
  induction qs with
  | nil => intro c _; exact ⟨(0, 0), by rw [pm_zero]; show ad (pe c) _ = ad (pe c) (pm p (0, 0)); rw [pm_zero]⟩
  | cons q r ih =>
    intro c hc
    rw [List.map_cons, List.foldl_cons, sm_cons, pm_ad, pm_pw]
    by_cases h : p + q < 32
    · have e : pump (p : Int) c (q : Int) = bump c ((p + q : Nat) : Int) := by
        unfold pump
        rw [if_pos (by omega)]
        push_cast
        rfl
      rw [e]
      obtain ⟨q0, h0⟩ := ih (bump c ((p + q : Nat) : Int)) (by rw [bump_len, hc])
      refine ⟨q0, ?_⟩
      rw [h0, pe_bump (by omega)]
      unfold ad
      refine Prod.ext ?_ ?_ <;> simp only [] <;> omega
    · have e : pump (p : Int) c (q : Int) = c := by
        unfold pump
        rw [if_neg (by omega)]
      rw [e]
      obtain ⟨q0, h0⟩ := ih c hc
      refine ⟨ad q0 (pw (p + q - 32)), ?_⟩
      rw [pm_ad, pm_pw, show 32 + (p + q - 32) = p + q by omega]
      obtain ⟨h1, h2⟩ := ad_eq h0
      unfold ad
      refine Prod.ext ?_ ?_ <;> simp only [] <;> omega
theorem pump_outer (qs : List Nat) : ∀ (ps : List Nat) (c : List Int), c.length = 35 →
    ∃ q0, ad (pe ((ps.map fun k : Nat => (k : Int)).foldl (fun c p => (qs.map fun k : Nat => (k : Int)).foldl (pump p) c) c)) (pm 32 q0) = ad (pe c) (mulC (sm ps) (sm qs)) := by
  intro ps
  induction ps with
  | nil => intro c _; exact ⟨(0, 0), by rw [pm_zero]; simp [mulC, sm]⟩
  | cons p r ih =>
    intro c hc
    rw [List.map_cons, List.foldl_cons, sm_cons, mulC_ad, mulC_pw]
    obtain ⟨q1, h1⟩ := pump_inner p qs c hc
    obtain ⟨q2, h2⟩ := ih ((qs.map fun k : Nat => (k : Int)).foldl (pump (p : Int)) c) (by rw [pump_fold_len, hc])
    refine ⟨ad q1 q2, ?_⟩
    rw [pm_ad]
    obtain ⟨a1, a2⟩ := ad_eq h1
    obtain ⟨b1, b2⟩ := ad_eq h2
    unfold ad
    refine Prod.ext ?_ ?_ <;> simp only [] <;> omega
theorem product_ok {M₁ M₂ : Nat} {z₁ z₂ : Int × Int} (h₁ : ev 32 M₁ = z₁) (h₂ : ev 32 M₂ = z₂) : (crFold (pumps (ups M₁) (ups M₂)) 32).2 = dg (mulC z₁ z₂) 32 := by
  obtain ⟨q0, h⟩ := pump_outer (plUp M₂ 32) (plUp M₁ 32) (List.replicate 35 0) (by simp)
  rw [sm_ev, sm_ev, h₁, h₂, pe_zeros] at h
  obtain ⟨a1, a2⟩ := ad_eq h
  refine cr_mask (q := q0) (pumps_len _ _) ?_
  unfold pumps ups
  refine Prod.ext ?_ ?_ <;> simp only [] <;> omega
/-- all that the law asks of one number -/
theorem dg_stay {z : Int × Int} {t : Nat} (h : gIt t z = (0, 0)) (d : Nat) : dg z (t + d) = dg z t := by
  rw [dg_add, h]
  have : ∀ n, dg (0, 0) n = 0 := by
    intro n
    induction n with
    | zero => rfl
    | succ n ih => rw [dg, ih, gIt_zero, show gb (0, 0) = 0 by decide]; simp
  rw [this]
  simp
noncomputable def mk (z : Int × Int) : Nat := (dg z 32).toNat
theorem mk_eq {z : Int × Int} {t : Nat} (h : gIt t z = (0, 0)) (ht : t ≤ 32) : dg z t = (mk z : Int) := by
  have h1 := dg_stay h (32 - t)
  rw [show t + (32 - t) = 32 by omega] at h1
  rw [← h1]
  have := (dg_bound z 32).1
  unfold mk
  omega
theorem mk_dg (z : Int × Int) : dg z 32 = (mk z : Int) := by
  have := (dg_bound z 32).1
  unfold mk
  omega
theorem mk_lt (z : Int × Int) : mk z < 2 ^ 32 := by
  have := dg_bound z 32
  unfold mk
  have h : (2 : Int) ^ 32 = 4294967296 := by decide
  rw [h] at this
  omega
theorem mk_ev {z : Int × Int} (h : gIt 30 z = (0, 0)) : ev 32 (mk z) = z := by
  refine ev_dg 32 z ?_
  rw [show 32 = 2 + 30 by rfl, gIt_add, h]
  decide
theorem mk_let {z : Int × Int} (h : gIt 30 z = (0, 0)) : letFold (apI (mk z)) = z := by
  have h1 := let_ev 8 (mk z) (by have := mk_lt z; rw [show 16 ^ 8 = 2 ^ 32 by decide]; exact this)
  rw [h1]
  exact mk_ev h
end
section
open PySem PySem.W PySem.Calls PyProof.Rows
theorem freshWd : True := by
  w_top off
  trivial
/-- all that the law asks of a mask M and its number z -/
structure MkOk (M : Nat) (z : Int × Int) : Prop where
  lt : M < 2 ^ 32
  met : (wFold (ups M) (rangeKs 0 32)).2.2 = ups M
  val : (wFold (ups M) (rangeKs 0 32)).1 = z
  lett : letFold (apI M) = z
  head : (apI M).head? ≠ some 65
  rng : ∀ o ∈ apI M, 65 ≤ o ∧ o ≤ 80
  len : (apI M).length ≤ 8
theorem mkOk_of {z : Int × Int} (h : gIt 30 z = (0, 0)) : MkOk (mk z) z := by
  have l := mk_lt z
  have l8 : mk z < 16 ^ 8 := by rw [show 16 ^ 8 = 2 ^ 32 by decide]; exact l
  have w := words_ok (mk z)
  exact ⟨l, w.1, w.2.trans (mk_ev h), mk_let h, apI_head 8 _ l8, apI_range 8 _ l8, apI_len 8 _ l8⟩
structure DueOk (z0 z1 z2 z3 : Int × Int) (M0 M1 M2 M3 : Nat) : Prop where
  w0 : MkOk M0 z0
  w1 : MkOk M1 z1
  w2 : MkOk M2 z2
  w3 : MkOk M3 z3
  sum : (crFold (bumps (ups M0 ++ ups M1)) 32).2 = (M2 : Int)
  prod : (crFold (pumps (ups M0) (ups M1)) 32).2 = (M3 : Int)
theorem dueOk_of {x y u v : Int} (h0 : gIt 30 (x, y) = (0, 0)) (h1 : gIt 30 (u, v) = (0, 0)) (h2 : gIt 30 (x + u, y + v) = (0, 0)) (h3 : gIt 30 (x * u - y * v, x * v + y * u) = (0, 0)) :
    DueOk (x, y) (u, v) (x + u, y + v) (x * u - y * v, x * v + y * u) (mk (x, y)) (mk (u, v)) (mk (x + u, y + v)) (mk (x * u - y * v, x * v + y * u)) :=
  ⟨mkOk_of h0, mkOk_of h1, mkOk_of h2, mkOk_of h3, (sum_ok (mk_ev h0) (mk_ev h1)).trans (mk_dg _), (product_ok (mk_ev h0) (mk_ev h1)).trans (mk_dg _)⟩
structure Tup2 (h : Heap) (r : Addr) (z : Int × Int) : Prop where
  out : ∃ (o : Obj) (t₁ t₂ : Tok) (n : Nat), h.get? r = some o ∧ o.cls = .type "tuple" ∧ o.data = .seq #[.int z.1 t₁, .int z.2 t₂] n
theorem Tup2.grown {h h' : Heap} {r : Addr} {z : Int × Int} (T : Tup2 h r z) (hst : h.StaysIn h') : Tup2 h' r z := by
  obtain ⟨o, t1, t2, n, h1, h2⟩ := T.out
  exact ⟨o, t1, t2, n, hst _ _ h1, h2⟩
structure ApB (bs : Array UInt8) (M : Nat) : Prop where
  eq : KBw.bInts bs = apI M
theorem ApB.size {bs : Array UInt8} {M : Nat} {z : Int × Int} (a : ApB bs M) (W : MkOk M z) : bs.size ≤ 8 := by
  have h := congrArg List.length a.eq
  have h2 : (KBw.bInts bs).length = bs.size := by simp [KBw.bInts]
  have := W.len
  omega
structure NoA (ks : List Int) : Prop where
  out : ks.head? ≠ some 65
theorem ApB.cut {bs : Array UInt8} {M : Nat} {z : Int × Int} (a : ApB bs M) (W : MkOk M z) : ∃ ks, KBw.bInts bs = ks ∧ ks.length ≤ 8 ∧ NoA ks := ⟨_, a.eq, W.len, ⟨W.head⟩⟩
theorem not_A {b : Array UInt8} {n : Nat} {ks : List Int} (h : KBw.bInts b = List.take n ks) (nA : NoA ks) (e : (b.toList == #[(65 : UInt8)].toList) = true) : False := by
  have e2 : b = #[65] := by
    cases b
    simpa using e
  subst e2
  have h2 : List.take n ks = [65] := h.symm.trans (by decide)
  cases ks with
  | nil => simp at h2
  | cons a r =>
    cases n with
    | zero => simp at h2
    | succ n =>
      simp only [List.take_succ_cons, List.cons.injEq] at h2
      exact nA.out (by rw [h2.1]; rfl)
section
variable {w : World} {A : Around} {E : Value → Shared → Prop} {s : Shared} {Q : Value → Shared → Prop}
theorem int2ap2 (G : Gnd w 3 A s.heap []) (M : Nat) (i : Int) (t : Tok) (z : Int × Int) (W : MkOk M z) (hi : i = -(M : Int))
  (hret : ∀ (bs : Array UInt8) h' tk' t, s.heap.StaysIn h' → ApB bs M → Q (.bytes bs t) { s with heap := h', toks := tk' }) :
  wpAny (model PySem.Challenge.rw_yf0006_01.row.prog w) A (call (.ref 85) [.int i t]) Q E s :=
  int2ap_spec G M i t W.lt hi fun bs h' tk' t a b => hret bs h' tk' t a ⟨b⟩
theorem letters2 (G : Gnd w 3 A s.heap []) (bs : Array UInt8) (tb : Tok) (M : Nat) (z : Int × Int) (W : MkOk M z) (a : ApB bs M)
  (hret : ∀ (r : Addr) h' tk', s.heap.StaysIn h' → Tup2 h' r z → Q (.ref r) { s with heap := h', toks := tk' }) :
  wpAny (model PySem.Challenge.rw_yf0006_01.row.prog w) A (call (.ref 118) [.bytes bs tb]) Q E s := by
  have h1 := a.size W
  refine letters_spec G bs tb (by omega) (by rw [a.eq]; exact W.rng) fun r h' tk' t1 t2 nn hst hr => ?_
  rw [a.eq, W.lett] at hr
  exact hret r h' tk' hst ⟨_, _, _, _, hr, rfl, rfl⟩
theorem ne_tup {r d : Addr} {z : Int × Int} (hr : Tup2 s.heap r z) (hd : Tup2 s.heap d z)
  (hu : A.units + 64 < cLine) (h : Q (.bool false) s) : wpAny (model PySem.Challenge.rw_yf0006_01.row.prog w) A (compareOp .NotEq (.ref r) (.ref d)) Q E s := by
  have R : ∀ {p : Addr}, Tup2 s.heap p z → Reads s.heap (.ref p) (.tuple [.int z.1, .int z.2]) [] := fun {p} e => by
    obtain ⟨o, t1, t2, n, h1, h2, h3⟩ := e.out
    have := readsAll_of_ints (h := s.heap) (.cons z.1 t1 (.cons z.2 t2 .nil))
    exact Reads.tuple h1 h2 h3 (by simpa using this)
  refine ne_dataH_same (R hr) (R hd) (by rfl) (by rfl) hu (by simp [PySem.SeqAt.noMix, PySem.SeqAt.noMixAll]) ?_
  have e : PySem.Spec.same (.tuple [.int z.1, .int z.2]) (.tuple [.int z.1, .int z.2]) = true := by simp [PySem.Spec.same, PySem.Spec.sameAll]
  rw [e]
  exact h
theorem sum2 (G : Gnd w 6 A s.heap []) {z0 z1 z2 z3 : Int × Int} {M0 M1 M2 M3 : Nat} (O : DueOk z0 z1 z2 z3 M0 M1 M2 M3) {l₁ l₂ : Addr} {vs₁ vs₂ : List Value}
  (hl₁ : s.heap.IsList l₁ vs₁.toArray) (hi₁ : IntsAre vs₁ (ups M0)) (hl₂ : s.heap.IsList l₂ vs₂.toArray) (hi₂ : IntsAre vs₂ (ups M1))
  (hret : ∀ t h' tk', s.heap.StaysIn h' → Q (.int (M2 : Int) t) { s with heap := h', toks := tk' }) :
  wpAny (model PySem.Challenge.rw_yf0006_01.row.prog w) A (call (.ref 28) [.ref 132, .ref l₁, .ref l₂]) Q E s := by
  refine call_spec G 132 (.ref l₁) (.ref l₂) (by rfl) fun A' h' tk' E' hst htk G' => ?_
  refine sum_spec (s := { s with heap := h', toks := tk' }) G' (hl₁.at fun o e => hst _ _ e) hi₁ (hl₂.at fun o e => hst _ _ e) hi₂ (ups_len _) (ups_len _) (fun n hn => ?_) fun t h2 tk2 hst2 => ?_
  · rcases List.mem_append.mp hn with hn | hn
    · exact ups_range hn
    · exact ups_range hn
  · rw [O.sum]
    exact hret t h2 tk2 fun b o e => hst2 b o (hst b o e)
theorem prod2 (G : Gnd w 6 A s.heap []) {z0 z1 z2 z3 : Int × Int} {M0 M1 M2 M3 : Nat} (O : DueOk z0 z1 z2 z3 M0 M1 M2 M3) {l₁ l₂ : Addr} {vs₁ vs₂ : List Value}
  (hl₁ : s.heap.IsList l₁ vs₁.toArray) (hi₁ : IntsAre vs₁ (ups M0)) (hl₂ : s.heap.IsList l₂ vs₂.toArray) (hi₂ : IntsAre vs₂ (ups M1))
  (hret : ∀ t h' tk', s.heap.StaysIn h' → Q (.int (M3 : Int) t) { s with heap := h', toks := tk' }) :
  wpAny (model PySem.Challenge.rw_yf0006_01.row.prog w) A (call (.ref 28) [.ref 139, .ref l₁, .ref l₂]) Q E s := by
  refine call_spec G 139 (.ref l₁) (.ref l₂) (by rfl) fun A' h' tk' E' hst htk G' => ?_
  refine product_spec (s := { s with heap := h', toks := tk' }) G' (hl₁.at fun o e => hst _ _ e) hi₁ (hl₂.at fun o e => hst _ _ e) hi₂ (ups_len _) (ups_len _) (fun n hn => ups_range hn) (fun n hn => ups_range hn) fun t h2 tk2 hst2 => ?_
  rw [O.prod]
  exact hret t h2 tk2 fun b o e => hst2 b o (hst b o e)
theorem words2 (G : Gnd w 3 A s.heap []) (l : Addr) (vs : List Value) (M : Nat) (z : Int × Int) (W : MkOk M z) (hl : s.heap.IsList l vs.toArray) (hi : IntsAre vs (ups M))
  (hret : ∀ (r : Addr) h' tk', s.heap.StaysIn h' → Tup2 h' r z → Q (.ref r) { s with heap := h', toks := tk' }) :
  wpAny (model PySem.Challenge.rw_yf0006_01.row.prog w) A (call (.ref 111) [.ref l]) Q E s := by
  refine words_spec G l vs (ups M) hl hi (Nat.le_trans (ups_len M) (by decide)) W.met fun r h' tk' t1 t2 hst hr => ?_
  rw [W.val] at hr
  obtain ⟨o, ho, hc, n, hd⟩ := hr
  exact hret r h' tk' hst ⟨o, t1, t2, n, ho, hc, hd⟩
end
end
section
open PySem PySem.W PySem.Calls PyProof.Rows PySem.Builtin
theorem freshBj : True := by
  w_top off
  trivial
open PySem.W.FB in
theorem slot_bytes_join : Slot "bytes" "join" "bytes.join" :=
  .of (owner := "bytes") (n := "join") (by rw [typeLookup_type, builtinLookup_eq_fast]; kernel_rfl) (by decide +kernel) (by decide +kernel) (by decide +kernel)
    (by first | exact .inl (by decide +kernel) | exact .inr (by decide +kernel)) (by rw [isSubtype_type]; kernel_rfl)
theorem type_bytes_join : typeOf (.builtin "bytes.join") = pure (.type "method_descriptor") := by show builtinType _ = _; rw [builtinType_eq_fast]; kernel_rfl
theorem entry_bytes_join : entryFor table "bytes.join" = some Builtin.«bytes.join» := entryFor_of_tree (by kernel_rfl)
open PySem.W.FB in
theorem args_bytes_join_2 (a b : Value) : argsOk "bytes.join" ⟨[a, b], []⟩ := by
  unfold argsOk; rw [signature?_of (id := "bytes.join") (n := ['n', 'i', 'o', 'j']) (o := ['s', 'e', 't', 'y', 'b']) (by kernel_rfl) owner_bytes]; kernel_rfl
theorem take_eq {id : String} {b : Array UInt8} {t : Tok} : Bytes.takeBufferQuiet? id (.bytes b t) 0 = pure (some (b, none)) := by
  have h : Bytes.takeBuffer? id (.bytes b t) 0 = pure (some (b, none)) := by
    unfold Bytes.takeBuffer?
    rw [KBy.special_eq KBy.look_buffer, KBy.own_buffer]
    have e : (0 == Bytes.fullReadOnly) = false := by decide
    rw [e, KBy.buffer_eq]
    kernel_rfl
  unfold Bytes.takeBufferQuiet?
  rw [h]
  rfl
theorem method_join {M : Model} {A : Around} {E : Value → Shared → Prop} {s : Shared} {b : Array UInt8} {t : Tok} {pl : Sem Bool} {Q : Value × List Value → Shared → Prop} (h : Q (.builtin "bytes.join", [.bytes b t]) s) : wpAny M A (getMethod (.bytes b t) "join" pl) Q E s := by
  with_reducible exact KBd.method_of (.bytes b t) (typeIs_bytes _ _ _) slot_bytes_join type_bytes_join KBd.noRef h
section
variable {prog : Program} {w : World} {A : Around} {E : Value → Shared → Prop} {s : Shared} {b0 b1 b2 b3 : Array UInt8} {t t0 t1 t2 t3 : Tok} {D : Addr}
theorem letgo {A : Around} {E : Value → Shared → Prop} {Q : Unit → Shared → Prop} : ∀ (taken : List (Value × Option Value)) (keep : List Value), (∀ p ∈ taken, p.2 = none) → Q () s → wpAny (model prog w) A (Bytes.joinLetGo taken keep) Q E s
  | [], _, _, h => wpAny_pure h
  | (x, u) :: rest, keep, hp, h => by
    obtain rfl : u = none := hp _ List.mem_cons_self
    unfold Bytes.joinLetGo
    refine wpAny_bind ?_
    show wpAny _ _ (letGo [x] _) _ _ _
    unfold letGo
    refine wpAny_bind (wpAny_holding (wpAny_point ?_))
    exact wpAny_pure (letgo rest keep (fun p hp' => hp p (List.mem_cons_of_mem _ hp')) h)
theorem join_four {Q : Value → Shared → Prop} (hl : s.heap.IsList D #[.bytes b0 t0, .bytes b1 t1, .bytes b2 t2, .bytes b3 t3]) (hsz : b0.size + b1.size + b2.size + b3.size ≤ 1000)
    (h : Q (.bytes (b0 ++ b1 ++ b2 ++ b3) s.toks) { s with toks := s.toks + 1 }) : wpAny (model prog w) A (call (.builtin "bytes.join") [.bytes #[] t, .ref D]) Q E s := by
  refine wpAny_call_entry slot_bytes_join (typeIs_bytes _ _ _) entry_bytes_join ?_ (args_bytes_join_2 _ _)
  obtain ⟨o, ho, hc, n, hd⟩ := hl
  have items : ∀ {A : Around} {Q : Option (Array Value) → Shared → Prop} {E : Value → Shared → Prop}, Q (some #[.bytes b0 t0, .bytes b1 t1, .bytes b2 t2, .bytes b3 t3]) s → wpAny (model prog w) A (seqItems? (.ref D)) Q E s := by
    intro A' Q E hq
    unfold seqItems?
    refine wpAny_bind (wpAny_load ho ?_)
    rw [hd]
    exact wpAny_pure hq
  show wpAny _ _ (Bytes.joinM .bytes ⟨[.bytes #[] t, .ref D], []⟩) _ _ s
  unfold Bytes.joinM
  refine wpAny_bind (wpAny_of_eq (a := (Value.bytes #[] t, Value.ref D)) rfl ?_)
  have jitems : ∀ {A : Around} {Q : Value → Shared → Prop} {E : Value → Shared → Prop}, Q (.ref D) s → wpAny (model prog w) A (Bytes.joinItems (.ref D)) Q E s := by
    intro A' Q E hq
    unfold Bytes.joinItems
    refine wpAny_bind (wpAny_typeOf (T := "list") ⟨o, ho, hc⟩ ?_)
    exact wpAny_pure hq
  dsimp only
  refine wpAny_bind (jitems ?_)
  refine wpAny_bind (items ?_)
  have one : ∀ (x : Nat) (parts : Array (Array UInt8)) (taken : List (Value × Option Value)) (b : Array UInt8) (tb : Tok), True := fun _ _ _ _ _ => trivial
  dsimp only
  rw [if_pos (by decide)]
  have e4 : (#[Value.bytes b0 t0, Value.bytes b1 t1, Value.bytes b2 t2, Value.bytes b3 t3] : Array Value).size = 4 := rfl
  change wpAny _ _ (forIn _ _ _ >>= _) _ _ _
  simp only [e4]
  rw [show (forIn (m := Sem) [:4] (α := Nat) (β := Array (Array UInt8) × List (Value × Option Value))) = fun b f => forIn [0, 1, 2, 3] b f from by funext b f; simp [Std.Legacy.Range.forIn_eq_forIn_range', Std.Legacy.Range.size]; rfl]
  refine wpAny_bind ?_
  dsimp only
  rw [List.forIn_cons]
  refine wpAny_bind ?_
  refine wpAny_bind (items ?_)
  dsimp only
  rw [if_neg (show ¬ ((Bytes.Kind.bytes == Bytes.Kind.bytearray || _) = true) from by simp [Value.onHeap])]
  refine wpAny_bind (wpAny_holding ?_)
  show wpAny _ _ (Bytes.takeBufferQuiet? _ (.bytes b0 t0) 0) _ _ _
  refine wpAny_of_eq take_eq ?_
  dsimp only
  refine wpAny_bind (items ?_)
  dsimp only
  rw [if_neg (by simp)]
  refine wpAny_pure ?_
  dsimp only
  rw [List.forIn_cons]
  refine wpAny_bind ?_
  refine wpAny_bind (items ?_)
  dsimp only
  rw [if_neg (show ¬ ((Bytes.Kind.bytes == Bytes.Kind.bytearray || _) = true) from by simp [Value.onHeap])]
  refine wpAny_bind (wpAny_holding ?_)
  show wpAny _ _ (Bytes.takeBufferQuiet? _ (.bytes b1 t1) 0) _ _ _
  refine wpAny_of_eq take_eq ?_
  dsimp only
  refine wpAny_bind (items ?_)
  dsimp only
  rw [if_neg (by simp)]
  refine wpAny_pure ?_
  dsimp only
  rw [List.forIn_cons]
  refine wpAny_bind ?_
  refine wpAny_bind (items ?_)
  dsimp only
  rw [if_neg (show ¬ ((Bytes.Kind.bytes == Bytes.Kind.bytearray || _) = true) from by simp [Value.onHeap])]
  refine wpAny_bind (wpAny_holding ?_)
  show wpAny _ _ (Bytes.takeBufferQuiet? _ (.bytes b2 t2) 0) _ _ _
  refine wpAny_of_eq take_eq ?_
  dsimp only
  refine wpAny_bind (items ?_)
  dsimp only
  rw [if_neg (by simp)]
  refine wpAny_pure ?_
  dsimp only
  rw [List.forIn_cons]
  refine wpAny_bind ?_
  refine wpAny_bind (items ?_)
  dsimp only
  rw [if_neg (show ¬ ((Bytes.Kind.bytes == Bytes.Kind.bytearray || _) = true) from by simp [Value.onHeap])]
  refine wpAny_bind (wpAny_holding ?_)
  show wpAny _ _ (Bytes.takeBufferQuiet? _ (.bytes b3 t3) 0) _ _ _
  refine wpAny_of_eq take_eq ?_
  dsimp only
  refine wpAny_bind (items ?_)
  dsimp only
  rw [if_neg (by simp)]
  refine wpAny_pure ?_
  dsimp only
  rw [List.forIn_nil]
  refine wpAny_pure ?_
  dsimp only
  refine wpAny_bind (wpAny_of_eq (a := (#[] : Array UInt8)) rfl ?_)
  have e5 : Bytes.joined #[] ((((#[].push b0).push b1).push b2).push b3).toList = b0 ++ b1 ++ b2 ++ b3 := by simp [Bytes.joined, List.zipIdx]
  rw [if_neg (show ¬ (Bytes.tooLong _ = true) from by
    rw [KBy.tooLong_not]
    · simp
    · simp
      omega), e5]
  have hs : (b0 ++ b1 ++ b2 ++ b3).size ≤ sizeLine := by rw [sizeLine_eq]; simp; omega
  refine wpAny_bind (show wpAny _ _ (mkBytes (b0 ++ b1 ++ b2 ++ b3)) _ _ _ from wpAny_mkBytes ?_ hs)
  refine wpAny_bind (wpAny_holding (wpAny_point ?_))
  refine wpAny_bind (letgo _ _ (by simp) ?_)
  exact wpAny_pure ⟨_, rfl, h⟩
end
end
section
open PySem PySem.W PySem.Calls PyProof.Rows
theorem freshLb : True := by
  w_top off
  trivial
theorem bi_no_len : typeLookup (.type "bytes_iterator") "__len__" = pure none := by rw [typeLookup_type, builtinLookup_eq_fast]; kernel_rfl
theorem bi_hint : typeLookup (.type "bytes_iterator") "__length_hint__" = pure (some (.builtin "bytes_iterator.__length_hint__")) := by rw [typeLookup_type, builtinLookup_eq_fast]; kernel_rfl
section
variable {prog : Program} {w : World} {A : Around} {s : Shared}
theorem hint_bytes {E : Value → Shared → Prop} {I : Addr} {b : Array UInt8} {t : Tok} {i : Nat} {Q : Bool → Shared → Prop} (hI : s.heap.get? I = some (bItO b t i)) (h : Q false s) : wpAny (model prog w) A (Builtin.List.listLengthHint (.ref I)) Q E s := by
  have ty : s.TypeIs (.ref I) "bytes_iterator" := ⟨_, hI, rfl⟩
  unfold Builtin.List.listLengthHint
  refine wpAny_bind (wpAny_specialOf ty bi_no_len ?_)
  show wpAny _ _ (specialOf (Value.ref I) (Str.ofString "__length_hint__") >>= _) _ _ _
  refine wpAny_bind (wpAny_specialOf ty bi_hint ?_)
  generalize hid : ("bytes_iterator.__length_hint__" : String) = id0
  wp_delta
  rw [show splitId id0 = some ("bytes_iterator", "__length_hint__") from by subst hid; decide +kernel]
  subst hid
  refine wpAny_bind (wpAny_isInstance (T := "bytes_iterator") (b := true) ty (by rw [isSubtype_type]; kernel_rfl) ?_)
  refine wpAny_ite_split (fun hab => absurd hab (by decide)) (fun _ => ?_)
  refine wpAny_ite_split (fun _ => ?_) (fun hab => absurd (by decide +kernel) hab)
  refine wpAny_ite_split (fun hab => absurd hab (by decide +kernel)) (fun _ => ?_)
  exact wpAny_pure h
theorem walks_bEnd (hh : A.handled = none) (I : Addr) (b : Array UInt8) (t : Tok) : Walks prog w A I [I] [I] 0 (fun _ _ => False) (fun _ h => h.get? I = some (bItO b t b.size)) where
  sub := fun b hb => hb
  frame := fun _ _ _ st hk => hk I (by simp) _ st
  item := fun i s Q E hi => absurd hi (Nat.not_lt_zero _)
  done := fun s Q E st hQ => KBw.next_end hh (bIt_is st) (Array.getElem?_eq_none (Nat.le_refl _)) fun h' he' => hQ h' s.toks fun b o hb e => he' b o (fun h => hb (by simp [h])) e
  self := fun _ _ _ _ st hQ => KBw.pyIter_self (bIt_is st) hQ
theorem extend_bEnd {R : Result → Shared → Prop} {I : Addr} {b : Array UInt8} {t : Tok} (hh : A.handled = none) (hI : s.heap.get? I = some (bItO b t b.size)) (S : Addr) (res : Value) (c₀ : Nat) (hS : s.heap.get? S = some { cls := .type "list", data := .seq #[] c₀ })
    (hR : ∀ h' tk c', (∀ b o, b ≠ S → b ≠ I → s.heap.get? b = some o → h'.get? b = some o) → h'.get? S = some { cls := .type "list", dict := none, data := .seq #[] c', slots := #[] } → R (.ok (.ret res)) { s with heap := h', toks := tk }) :
    wpAny (model prog w) A.in1 (Builtin.List.listExtendWith (.ref S) (.ref I) res)
      (fun fin s' => match fin with | .done f => R (.ok f) s' | .again c' => c'.quiet = true ∧ codeAny (model prog w) A c' R s') (fun e s' => R (.error e) s') s := by
  have hSI : S ≠ I := fun e => by rw [e, hI] at hS; simp [bItO] at hS
  have hSf : S ∉ [I] := fun hm => hSI (List.mem_singleton.mp hm)
  have W := (walks_bEnd (prog := prog) (w := w) (A := A.in1) hh I b t).toS
  unfold Builtin.List.listExtendWith
  refine wpAny_bind (wpAny_typeOf (T := "bytes_iterator") ⟨_, hI, rfl⟩ ?_)
  have h1 : Builtin.List.listSameRef (.ref S) (.ref I) = false := by simp [Builtin.List.listSameRef, hSI]
  have h2 : (Value.type "bytes_iterator" == Value.type "list") = false := by decide
  have h3 : (Value.type "bytes_iterator" == Value.type "tuple") = false := by decide
  simp only [h1, h2, h3, Bool.or_false, Bool.false_eq_true, if_false]
  refine wpAny_bind (KBw.pyIter_self (bIt_is hI) ?_)
  refine wpAny_bind (wpAny_holding (hint_bytes hI ?_))
  refine wpAny_ite_split (fun hab => absurd hab (by decide +kernel)) (fun _ => wpAny_pure ⟨plainId_quiet F.plain_extend_loop _, ?_⟩)
  refine codeAny_extend_loopS W (Nat.zero_le _) S hSf res 0 0 _ #[] c₀ rfl (Nat.zero_le _) hI hS (ItemsOf.nil _) fun s' acc' c' hm hS' hacc => ?_
  rw [Moved.eq_with hm]
  have e0 : acc' = #[] := Array.eq_empty_of_size_eq_zero hacc.1
  subst e0
  exact hR s'.heap s'.toks c' (fun b o hb hbI e => hm.heap b o (fun hmem => by
    rcases List.mem_cons.mp hmem with e' | hmem
    · exact hb e'
    · exact hbI (List.mem_singleton.mp hmem)) e) hS'
theorem init_bEnd {R : Result → Shared → Prop} {I : Addr} {b : Array UInt8} {t : Tok} (hh : A.handled = none) (hI : s.heap.get? I = some (bItO b t b.size)) (S : Addr) (hS : s.heap.get? S = some { cls := .type "list", data := .seq #[] })
    (hR : ∀ h' tk c', (∀ b o, b ≠ S → b ≠ I → s.heap.get? b = some o → h'.get? b = some o) → h'.get? S = some { cls := .type "list", dict := none, data := .seq #[] c', slots := #[] } → R (.ok (.ret .none)) { s with heap := h', toks := tk }) :
    wpAny (model prog w) A.in1 (Builtin.«list.__init__» ⟨[.ref S, .ref I], []⟩)
      (fun fin s' => match fin with | .done f => R (.ok f) s' | .again c' => c'.quiet = true ∧ codeAny (model prog w) A c' R s') (fun e s' => R (.error e) s') s := by
  have hSI : S ≠ I := fun e => by rw [e, hI] at hS; simp [bItO] at hS
  show wpAny _ _ (do let old ← Builtin.List.listItems (.ref S); Builtin.List.listUpdate (.ref S) (fun _ => #[]); letGo old.toList.reverse; Builtin.List.listExtendWith (.ref S) (.ref I) .none) _ _ s
  refine wpAny_bind ?_
  unfold Builtin.List.listItems
  refine wpAny_bind (wpAny_seqItems hS rfl (wpAny_pure ?_))
  show wpAny _ _ (updateSeq S (fun _ => #[]) >>= fun _ => letGo (#[] : Array Value).toList.reverse >>= fun _ => Builtin.List.listExtendWith (.ref S) (.ref I) .none) _ _ s
  refine wpAny_bind (wpAny_updateSeq hS rfl ?_)
  have hS₂ := Heap.get?_update_self (Obj.mapSeq (fun _ => (#[] : Array Value))) hS rfl
  have oth : ∀ b o, b ≠ S → s.heap.get? b = some o → (s.heap.update S (Obj.mapSeq (fun _ => (#[] : Array Value)))).get? b = some o :=
    fun b o hb e => (Heap.get?_update_other _ _ (Ne.symm hb)).trans e
  refine wpAny_bind (wpAny_letGo ?_)
  refine extend_bEnd hh (oth I _ (Ne.symm hSI) hI) S .none _ hS₂ fun h' tk c' hk hS' => ?_
  exact hR h' tk c' (fun b o hb hbI e => hk b o hb hbI (oth b o hb e)) hS'
/-- list() of a bytes iterator that is at its end -/
theorem list_bEnd {E : Value → Shared → Prop} {Q : Value → Shared → Prop} {I : Addr} {b : Array UInt8} {t : Tok} (hh : A.handled = none) (hI : s.heap.get? I = some (bItO b t b.size))
    (hQ : ∀ h' tk c', (∀ b o, b ≠ I → s.heap.get? b = some o → h'.get? b = some o) → h'.get? s.heap.objs.size = some { cls := .type "list", dict := none, data := .seq #[] c', slots := #[] } → Q (.ref s.heap.objs.size) { s with heap := h', toks := tk }) :
    wpAny (model prog w) A (call (.type "list") [.ref I]) Q E s := by
  refine callType_codes (Q₁ := fun obj s₁ => obj = .ref s.heap.objs.size ∧ s₁ = { s with heap := s.heap.push { cls := .type "list", data := .seq #[] } }) F.called_list (F.typeCall_list_1 _) F.entry_list_init
    (code_list_new _ ⟨rfl, rfl⟩) fun obj s₁ h₁ => ?_
  obtain ⟨rfl, rfl⟩ := h₁
  have hS : (s.heap.push { cls := .type "list", data := .seq #[] }).get? s.heap.objs.size = some { cls := .type "list", data := .seq #[] } := Heap.get?_push_size _ rfl
  refine ⟨⟨_, hS, rfl⟩, F.args_list_init_2 _ _, init_bEnd (A := A.in1) hh (Heap.get?_push_of_some _ hI) _ hS fun h' tk c' hk hS' => ?_⟩
  exact ⟨rfl, hQ h' tk c' (fun b o hbI e => hk b o (Nat.ne_of_lt (Heap.lt_size e)) hbI (Heap.get?_push_of_some _ e)) hS'⟩
end
end
section
open PySem PySem.W PySem.Calls PyProof.Rows
theorem freshL15 : True := by
  w_top off
  trivial
structure Ok30 (x y : Int) : Prop where
  out : gIt 30 (x, y) = (0, 0)
structure OctF (x y : Int) (bs : Array UInt8) (k : Nat) : Prop where
  lo : 1 ≤ k
  hi : k ≤ 5
  z : gIt (6 * k) (x, y) = (0, 0)
  b : KBw.bInts bs = octRow (x, y) k
theorem OctF.size {x y : Int} {bs : Array UInt8} {k : Nat} (o : OctF x y bs k) : bs.size ≤ 5 := by
  have h := congrArg List.length o.b
  rw [octRow_len] at h
  have h2 : (KBw.bInts bs).length = bs.size := by simp [KBw.bInts]
  have := o.hi
  omega
theorem octets_spec2 {w : World} {A : Around} {E : Value → Shared → Prop} {s : Shared} {Q : Value → Shared → Prop} (G : Gnd w 3 A s.heap []) (x y : Int) (tx ty : Tok) (h30 : Ok30 x y)
  (hret : ∀ (bs : Array UInt8) (k : Nat) h' tk' t, s.heap.StaysIn h' → OctF x y bs k → Q (.bytes bs t) { s with heap := h', toks := tk' }) :
  wpAny (model PySem.Challenge.rw_yf0006_01.row.prog w) A (call (.ref 99) [.int x tx, .int y ty]) Q E s := octets_spec G (x, y) tx ty h30.out fun bs k h' tk' t h1 h2 h3 h4 h5 => hret bs k h' tk' t h1 ⟨h2, h3, h4, h5⟩
structure ItemAt (led : List (Addr × Obj)) (D : Addr) (k : Int) (v : Value) : Prop where
  out : 0 ≤ k ∧ k < 2 ^ 63 ∧ ∃ (o : Obj) (items : Array Value) (n : Nat), (D, o) ∈ led ∧ o.cls = .type "list" ∧ o.data = .seq items n ∧ items[k.toNat]? = some v
structure TupAt (led : List (Addr × Obj)) (T : Addr) (z : Int × Int) : Prop where
  out : ∃ (o : Obj) (t₁ t₂ : Tok) (n : Nat), (T, o) ∈ led ∧ o.cls = .type "tuple" ∧ o.data = .seq #[.int z.1 t₁, .int z.2 t₂] n
theorem tup_at {h₀ h : Heap} {L T : Addr} {led own : List (Addr × Obj)} {z : Int × Int} (N : News h₀ L h (led ++ own)) (t : TupAt led T z) : Tup2 h T z := by
  obtain ⟨o, t1, t2, n, hm, hc, hd⟩ := t.out
  exact ⟨o, t1, t2, n, (N _ (List.mem_append_left _ hm)).1, hc, hd⟩
theorem item_at {prog : Program} {w : World} {A : Around} {E : Value → Shared → Prop} {s : Shared} {h₀ : Heap} {L : Addr} {led own : List (Addr × Obj)} {x y : Str} {px py : Pos} {D : Addr} {k : Int} {u : Tok} {v : Value} {Q : Value → Shared → Prop}
    (N : News h₀ L s.heap (led ++ own)) (I : ItemAt led D k v) (h : Q v s) : wpAny (model prog w) A (subscriptTail (.Name x px) (.Name y py) (.ref D) (.int k u)) Q E s := by
  obtain ⟨h0, h1, o, items, n, hm, hc, hd, hx⟩ := I.out
  exact item_list ⟨o, (N _ (List.mem_append_left _ hm)).1, hc, n, hd⟩ h0 h1 hx h
local macro_rules | `(tactic| walk_at "getMethod bytes") => `(tactic| (k_here; (with_reducible refine method_join ?_)))
local macro_rules | `(tactic| walk_at "call ref") => `(tactic| (k_here; (with_reducible show wpAny _ _ (call (Value.ref 99) [Value.int _ _, Value.int _ _]) _ _ _); with_unfolding_all refine' octets_spec2 ?G9 _ _ _ _ ?h9 ?_; (case G9 => walk_at "mine gnd"); (case h9 => assumption); (with_reducible rename Fr _ _ _ _ => kF9); (with_reducible rename News _ _ _ _ => kN9); intro bs' k' h' tk' t' hst' hoc'; have F' := Fr.keeps kF9 hst'; have N' := News.grown kN9 hst'; clear kF9 kN9 hst'; (try dsimp only)))
local macro_rules | `(tactic| walk_at "subscriptTail Name Name ref int") => `(tactic| (k_here; (with_reducible refine item_at (by assumption) (by assumption) ?_)))
local macro_rules | `(tactic| k_ne) => `(tactic| ((with_reducible rename (_ ≠ _ ∧ _ ≠ _ ∧ _ ≠ _) ∧ _ => f9); first | exact f9.1.1 | exact f9.1.2.1 | exact f9.1.2.2 | exact f9.2.1.1 | exact f9.2.1.2.1 | exact f9.2.1.2.2 | exact f9.2.2.1.1 | exact f9.2.2.1.2.1 | exact f9.2.2.1.2.2 | exact f9.2.2.2.1.1 | exact f9.2.2.2.1.2.1 | exact f9.2.2.2.1.2.2 | exact f9.2.2.2.2.1.1 | exact f9.2.2.2.2.1.2.1 | exact f9.2.2.2.2.1.2.2 | exact f9.2.2.2.2.2.1 | exact f9.2.2.2.2.2.2.1 | exact f9.2.2.2.2.2.2.2))
theorem news_pick {h₀ hp : Heap} {L : Addr} {a b c d e f g h i : Addr × Obj} (N : News h₀ L hp [a, b, c, d, e, f, g, h, i]) : News h₀ L hp [a, b, c, d, e, i] := fun p q => N p (by
  simp only [List.mem_cons, List.not_mem_nil, or_false] at q ⊢
  rcases q with q | q | q | q | q | q <;> simp [q])
noncomputable def Mid (g : Heap) (L : Addr) (m : Str → Option Value) (news : List (Addr × Obj)) (s : Shared) (x y u v : Int) (r : Value) (s' : Shared) : Prop :=
  ∃ (D : Addr) (b0 b1 b2 b3 : Array UInt8) (k0 k1 k2 k3 : Nat) (t0 t1 t2 t3 : Tok) (h' : Heap) (tk' : Nat), r = .ref D ∧ s' = { s with heap := h', toks := tk' } ∧ s.toks ≤ tk' ∧ Fr g L h' m ∧
    News g L h' ((D, LCg.lst [.bytes b0 t0, .bytes b1 t1, .bytes b2 t2, .bytes b3 t3]) :: news) ∧ OctF x y b0 k0 ∧ OctF u v b1 k1 ∧ OctF (x + u) (y + v) b2 k2 ∧ OctF (x * u - y * v) (x * v + y * u) b3 k3
theorem mid_use {M : Model} {A : Around} {E : Value → Shared → Prop} {g : Heap} {L : Addr} {m : Str → Option Value} {news : List (Addr × Obj)} {s s₁ : Shared} {x y u v : Int} {t : Sem Value} {Q : Value → Shared → Prop} (F : Fr g L s₁.heap m) (N : News g L s₁.heap news)
    (h1 : wpAny M A t (Mid g L m news s x y u v) E s₁)
    (h2 : ∀ (D : Addr) (b0 b1 b2 b3 : Array UInt8) (k0 k1 k2 k3 : Nat) (t0 t1 t2 t3 : Tok) (h' : Heap) (tk' : Nat), s.toks ≤ tk' → Fr g L h' m →
      News g L h' ((D, LCg.lst [.bytes b0 t0, .bytes b1 t1, .bytes b2 t2, .bytes b3 t3]) :: news) → OctF x y b0 k0 → OctF u v b1 k1 → OctF (x + u) (y + v) b2 k2 → OctF (x * u - y * v) (x * v + y * u) b3 k3 → Q (.ref D) { s with heap := h', toks := tk' }) : wpAny M A t Q E s₁ :=
  wpAny_mono h1 (fun r s' hm => by
    obtain ⟨D, b0, b1, b2, b3, k0, k1, k2, k3, t0, t1, t2, t3, h', tk', e1, e2, e3, e4, e5, e6, e7, e8, e9⟩ := hm
    subst e1 e2
    exact h2 D b0 b1 b2 b3 k0 k1 k2 k3 t0 t1 t2 t3 h' tk' e3 e4 e5 e6 e7 e8 e9) fun _ _ e => e
theorem store_cell7 {M : Model} {A : Around} {E : Value → Shared → Prop} {s : Shared} {h₀ : Heap} {L a : Addr} {m : Str → Option Value} {cn : Str} {cs : Scope} {ccd : Value} {cl : List (Str × Addr)} {x : Str} {v : Value} {Q : Unit → Shared → Prop} {cc : Addr} {o : Obj} {v₀ : Option Value} {p1 p2 p3 p4 p5 p6 p7 : Addr × Obj}
    (F : Fr h₀ L s.heap m) (N : News h₀ L s.heap [p1, p2, p3, p4, p5, p6, p7, (cc, o)]) (hc : cl.lookup x = some cc) (hd : o.data = .cell v₀) (hne : ∀ p ∈ [p1, p2, p3, p4, p5, p6, p7], ∀ w, p.2.data ≠ .cell w)
    (h : ∀ h' o', Fr h₀ L h' m → News h₀ L h' [p1, p2, p3, p4, p5, p6, p7, (cc, o')] → o'.data = .cell (some v) → Q () { s with heap := h' })
    (hk : cs.kind = .function) (hx : (envX cn cs L a ccd cl).kindOf x = some .cell) : wpAny M A (storeName (envX cn cs L a ccd cl) x v) Q E s := by
  have hm := N (cc, o) (by simp)
  refine wpAny_storeName_cell hk hx hc ⟨o, hm.1, hd⟩ fun h' hv hs => ?_
  replace hs : Heap.SameBut cc s.heap h' := hs
  obtain ⟨o', ho', hd'⟩ := hv
  refine h h' o' (F.change hs hm.2.1 hm.2.2) (fun p hp => ?_) hd'
  by_cases hl : p ∈ [p1, p2, p3, p4, p5, p6, p7]
  · have z := N p (by simp only [List.mem_cons, List.not_mem_nil, or_false] at hl ⊢; rcases hl with q | q | q | q | q | q | q <;> simp [q])
    refine ⟨hs.extBut _ _ (fun q => ?_) z.1, z.2⟩
    have e1 := z.1
    have e2 := hm.1
    dsimp only at e2
    rw [q, e2] at e1
    exact hne p hl v₀ ((congrArg Obj.data (Option.some.inj e1)).symm.trans hd)
  · have : p = (cc, o') := by
      simp only [List.mem_cons, List.not_mem_nil, or_false] at hp hl
      rcases hp with q | q | q | q | q | q | q | q
      · exact absurd (.inl q) hl
      · exact absurd (.inr (.inl q)) hl
      · exact absurd (.inr (.inr (.inl q))) hl
      · exact absurd (.inr (.inr (.inr (.inl q)))) hl
      · exact absurd (.inr (.inr (.inr (.inr (.inl q))))) hl
      · exact absurd (.inr (.inr (.inr (.inr (.inr (.inl q)))))) hl
      · exact absurd (.inr (.inr (.inr (.inr (.inr (.inr q)))))) hl
      · exact q
    subst this
    exact ⟨ho', hm.2⟩
theorem next_drop {l : List Int} {i k : Nat} {z : Int × Int} {r : List Int} (h : l.drop i = octRow z k ++ r) : l.drop (i + k) = r := by
  rw [← List.drop_drop, h]
  have e := octRow_len z k
  rw [show k = (octRow z k).length from e.symm, octRow_len, List.drop_left' (octRow_len z k)]
theorem feed_ok {x y u v : Int} {b0 b1 b2 b3 : Array UInt8} {k0 k1 k2 k3 : Nat} (o0 : OctF x y b0 k0) (o1 : OctF u v b1 k1) (o2 : OctF (x + u) (y + v) b2 k2) (o3 : OctF (x * u - y * v) (x * v + y * u) b3 k3) :
    (KBw.bInts (b0 ++ b1 ++ b2 ++ b3)).drop 0 = octRow (x, y) k0 ++ (octRow (u, v) k1 ++ (octRow (x + u, y + v) k2 ++ (octRow (x * u - y * v, x * v + y * u) k3 ++ []))) := by
  rw [← o0.b, ← o1.b, ← o2.b, ← o3.b]
  simp [KBw.bInts]
noncomputable def offs (k0 k1 k2 k3 : Nat) : Nat → Nat
  | 0 => 0
  | 1 => 0 + k0
  | 2 => 0 + k0 + k1
  | 3 => 0 + k0 + k1 + k2
  | _ => 0 + k0 + k1 + k2 + k3
noncomputable def dues (x y u v : Int) : Nat → Int × Int
  | 0 => (x, y)
  | 1 => (u, v)
  | 2 => (x + u, y + v)
  | _ => (x * u - y * v, x * v + y * u)
structure Feed (x y u v : Int) (B : Array UInt8) (of : Nat → Nat) : Prop where
  out : ∀ i, i < 4 → ∃ k rest, 1 ≤ k ∧ k ≤ 5 ∧ (KBw.bInts B).drop (of i) = octRow (dues x y u v i) k ++ rest ∧ of (i + 1) = of i + k ∧ dg (dues x y u v i) (6 * k) = (mk (dues x y u v i) : Int)
theorem feed_of {x y u v : Int} {b0 b1 b2 b3 : Array UInt8} {k0 k1 k2 k3 : Nat} (o0 : OctF x y b0 k0) (o1 : OctF u v b1 k1) (o2 : OctF (x + u) (y + v) b2 k2) (o3 : OctF (x * u - y * v) (x * v + y * u) b3 k3) : Feed x y u v (b0 ++ b1 ++ b2 ++ b3) (offs k0 k1 k2 k3) := by
  have f0 := feed_ok o0 o1 o2 o3
  have f1 := next_drop f0
  have f2 := next_drop f1
  have f3 := next_drop f2
  refine ⟨fun i hi => ?_⟩
  match i, hi with
  | 0, _ => exact ⟨k0, _, o0.lo, o0.hi, f0, rfl, mk_eq o0.z (by have := o0.hi; omega)⟩
  | 1, _ => exact ⟨k1, _, o1.lo, o1.hi, f1, rfl, mk_eq o1.z (by have := o1.hi; omega)⟩
  | 2, _ => exact ⟨k2, _, o2.lo, o2.hi, f2, rfl, mk_eq o2.z (by have := o2.hi; omega)⟩
  | 3, _ => exact ⟨k3, _, o3.lo, o3.hi, f3, rfl, mk_eq o3.z (by have := o3.hi; omega)⟩
theorem news_of0 {h₀ h : Heap} {L I : Addr} {B : Array UInt8} {t : Tok} {of : Nat → Nat} {r : List (Addr × Obj)} (e : of 0 = 0) (N : News h₀ L h ((I, bItO B t 0) :: r)) : News h₀ L h ((I, bItO B t (of 0)) :: r) := by rw [e]; exact N
theorem ne_of_data {h₀ h : Heap} {L I : Addr} {o : Obj} {r : List (Addr × Obj)} (N : News h₀ L h ((I, o) :: r)) (hd : ∀ p ∈ r, p.2.data ≠ o.data) : ∀ p ∈ r, p.1 ≠ I := fun p hp q => by
  have z := (N p (List.mem_cons_of_mem _ hp)).1
  have z2 := (N (I, o) List.mem_cons_self).1
  dsimp only at z2
  rw [q, z2] at z
  exact hd p hp (congrArg Obj.data (Option.some.inj z)).symm
theorem four_of {α : Type} {l : List α} (hl : l.length = 4) : ∃ a b c d, l = [a, b, c, d] := by
  cases l with
  | nil => cases hl
  | cons a r =>
    cases r with
    | nil => cases hl
    | cons b r =>
      cases r with
      | nil => cases hl
      | cons c r =>
        cases r with
        | nil => cases hl
        | cons d r =>
          cases r with
          | nil => exact ⟨a, b, c, d, rfl⟩
          | cons e r => exact absurd hl (by simp)
theorem ys4 {f : Nat → Int} {ys : List Value} (hl : ys.length = 4) (h : ∀ (j : Nat) (y : Value), ys[j]? = some y → ∃ t, y = Value.int (f j) t) : ∃ t0 t1 t2 t3, ys = [Value.int (f 0) t0, .int (f 1) t1, .int (f 2) t2, .int (f 3) t3] := by
  obtain ⟨a, b, c, d, rfl⟩ := four_of hl
  obtain ⟨t0, rfl⟩ := h 0 a rfl
  obtain ⟨t1, rfl⟩ := h 1 b rfl
  obtain ⟨t2, rfl⟩ := h 2 c rfl
  obtain ⟨t3, rfl⟩ := h 3 d rfl
  exact ⟨t0, t1, t2, t3, rfl⟩
/-- behind list(feeder): the new list ahead, the iterator dropped -/
theorem news_behind {h₀ h h' : Heap} {L I : Addr} {m : Str → Option Value} {p2 o o1 : Obj} {D D4 : Addr} {p4 : Obj} {rest : List (Addr × Obj)} (F : Fr h₀ L h m) (N : News h₀ L h ((D, p2) :: (I, o) :: (D4, p4) :: rest)) (hne : ∀ p ∈ (D4, p4) :: rest, p.1 ≠ I) (hD : p2.data ≠ o.data)
    (hk : ∀ b x, b ≠ I → h.get? b = some x → h'.get? b = some x) (hS : h'.get? h.objs.size = some o1) : Fr h₀ L h' m ∧ News h₀ L h' ((h.objs.size, o1) :: (D, p2) :: rest) := by
  have nI := N (I, o) (by simp)
  refine ⟨⟨F.ns.at' fun o e => hk _ o (Ne.symm nI.2.1) e, fun b x e => hk b x (fun q => by have := nI.2.2; dsimp only at this; rw [q, this] at e; cases e) (F.keep b x e), F.above⟩, fun p hp => ?_⟩
  rcases List.mem_cons.mp hp with rfl | hp
  · exact ⟨hS, Ne.symm (Nat.ne_of_lt F.ns.lt), next_is_new F⟩
  · rcases List.mem_cons.mp hp with rfl | hp
    · have z := N (D, p2) (by simp)
      refine ⟨hk _ _ (fun q => ?_) z.1, z.2⟩
      have z1 := z.1
      have z2 := nI.1
      dsimp only at z1 z2 q
      rw [q, z2] at z1
      exact hD (congrArg Obj.data (Option.some.inj z1)).symm
    · have z := N p (by simp [hp])
      exact ⟨hk _ _ (hne p (by simp [hp])) z.1, z.2⟩
theorem ints4 {ws : List Value} {ms : List Int} (h : IntsAre ws ms) (hl : ms.length = 4) : ∃ a b c d ta tb tc td, ws = [Value.int a ta, .int b tb, .int c tc, .int d td] := by
  cases h with
  | nil => simp at hl
  | cons a ta h =>
    cases h with
    | nil => simp at hl
    | cons b tb h =>
      cases h with
      | nil => simp at hl
      | cons c tc h =>
        cases h with
        | nil => simp at hl
        | cons d td h =>
          cases h with
          | nil => exact ⟨a, b, c, d, ta, tb, tc, td, rfl⟩
          | cons e te h => simp at hl
theorem fm_bound (a : Int) {n k : Int} (hn : n = 2 * k + 1) (hk : 0 ≤ k) : -k ≤ a.fmod n - k ∧ a.fmod n - k ≤ k := by
  have h1 := Int.fmod_nonneg_of_pos a (show 0 < n by omega)
  have h2 := Int.fmod_lt_of_pos a (show 0 < n by omega)
  omega
theorem mul_bound {a b A B : Int} (ha : -A ≤ a ∧ a ≤ A) (hb : -B ≤ b ∧ b ≤ B) : -(A * B) ≤ a * b ∧ a * b ≤ A * B := by
  obtain ⟨a1, a2⟩ := ha
  obtain ⟨b1, b2⟩ := hb
  have p1 := Int.mul_nonneg (show 0 ≤ A - a by omega) (show 0 ≤ B + b by omega)
  have p2 := Int.mul_nonneg (show 0 ≤ A + a by omega) (show 0 ≤ B - b by omega)
  have p3 := Int.mul_nonneg (show 0 ≤ A - a by omega) (show 0 ≤ B - b by omega)
  have p4 := Int.mul_nonneg (show 0 ≤ A + a by omega) (show 0 ≤ B + b by omega)
  simp only [Int.sub_mul, Int.add_mul, Int.mul_sub, Int.mul_add] at p1 p2 p3 p4
  omega
theorem due_ok {x y u v : Int} (hx : -20 ≤ x ∧ x ≤ 20) (hy : -20 ≤ y ∧ y ≤ 20) (hu : -42 ≤ u ∧ u ≤ 42) (hv : -42 ≤ v ∧ v ≤ 42) :
    Ok30 x y ∧ Ok30 u v ∧ Ok30 (x + u) (y + v) ∧ Ok30 (x * u - y * v) (x * v + y * u) := by
  have m1 := mul_bound hx hu
  have m2 := mul_bound hy hv
  have m3 := mul_bound hx hv
  have m4 := mul_bound hy hu
  refine ⟨⟨gIt_30 ?_⟩, ⟨gIt_30 ?_⟩, ⟨gIt_30 ?_⟩, ⟨gIt_30 ?_⟩⟩ <;> dsimp only <;> omega
theorem news_add {h₀ h h' : Heap} {L D : Addr} {m : Str → Option Value} {o : Obj} {news : List (Addr × Obj)} (F : Fr h₀ L h m) (N : News h₀ L h news) (hst : h.StaysIn h') (hn : h.get? D = none) (hD : h'.get? D = some o) : News h₀ L h' ((D, o) :: news) := fun p hp => by
  rcases List.mem_cons.mp hp with rfl | hp
  · refine ⟨hD, fun q => ?_, ?_⟩
    · obtain ⟨x, _, _, e, _⟩ := F.ns
      dsimp only at q
      rw [← q, hn] at e
      cases e
    · cases e : h₀.get? D with
      | none => rfl
      | some x => have := F.keep _ _ e; rw [hn] at this; cases this
  · exact N.grown hst p hp
theorem news_sub {h₀ h : Heap} {L : Addr} {r r' : List (Addr × Obj)} (N : News h₀ L h r) (hs : ∀ p ∈ r', p ∈ r) : News h₀ L h r' := fun p hp => N p (hs p hp)
theorem news_due {h₀ h : Heap} {L : Addr} {a b c d e f g i j : Addr × Obj} (N : News h₀ L h [a, b, c, d, e, f, g, i, j]) : News h₀ L h [c, d, e, f, g, i] := news_sub N (by
  intro p q
  simp only [List.mem_cons, List.not_mem_nil, or_false] at q ⊢
  rcases q with q | q | q | q | q | q <;> simp [q])
theorem ints_at4 {f : Nat → Int} {t0 t1 t2 t3 : Tok} {i : Nat} {v : Value} (h : [Value.int (f 0) t0, .int (f 1) t1, .int (f 2) t2, .int (f 3) t3].toArray[i]? = some v) : ∃ t, v = .int (f i) t := by
  match i, h with
  | 0, h => exact ⟨t0, (Option.some.inj h).symm⟩
  | 1, h => exact ⟨t1, (Option.some.inj h).symm⟩
  | 2, h => exact ⟨t2, (Option.some.inj h).symm⟩
  | 3, h => exact ⟨t3, (Option.some.inj h).symm⟩
  | _ + 4, h => simp at h
theorem acc4 {acc : List (Addr × Obj)} {U : Nat → List Int} (hl : acc.length = 4) (h : ∀ (j : Nat) (p : Addr × Obj), acc[j]? = some p → ∃ ys ep, p.2 = listOf ys.toArray ep ∧ IntsAre ys (U j)) :
    ∃ (P0 P1 P2 P3 : Addr) (y0 y1 y2 y3 : List Value) (e0 e1 e2 e3 : Nat), acc = [(P0, listOf y0.toArray e0), (P1, listOf y1.toArray e1), (P2, listOf y2.toArray e2), (P3, listOf y3.toArray e3)] ∧ IntsAre y0 (U 0) ∧ IntsAre y1 (U 1) ∧ IntsAre y2 (U 2) ∧ IntsAre y3 (U 3) := by
  obtain ⟨a, b, c, d, rfl⟩ := four_of hl
  obtain ⟨y0, e0, h0, i0⟩ := h 0 a rfl
  obtain ⟨y1, e1, h1, i1⟩ := h 1 b rfl
  obtain ⟨y2, e2, h2, i2⟩ := h 2 c rfl
  obtain ⟨y3, e3, h3, i3⟩ := h 3 d rfl
  clear h hl
  refine ⟨a.1, b.1, c.1, d.1, y0, y1, y2, y3, e0, e1, e2, e3, ?_, i0, i1, i2, i3⟩
  rw [← h0, ← h1, ← h2, ← h3]
structure TurnAt (led : List (Addr × Obj)) (D6 D5 Dd : Addr) (k : Int) : Prop where
  out : ∃ (M : Nat) (z : Int × Int) (m : Tok) (P T : Addr) (y : List Value) (e : Nat), ItemAt led D5 k (.int (M : Int) m) ∧ ItemAt led D6 k (.ref P) ∧ ItemAt led Dd k (.ref T) ∧ (P, listOf y.toArray e) ∈ led ∧ TupAt led T z ∧ IntsAre y (ups M) ∧ MkOk M z
structure TupO (o : Obj) (z : Int × Int) : Prop where
  out : o.cls = .type "tuple" ∧ ∃ (t₁ t₂ : Tok) (n : Nat), o.data = .seq #[.int z.1 t₁, .int z.2 t₂] n
theorem TupO.at {o : Obj} {z : Int × Int} {led : List (Addr × Obj)} {T : Addr} (t : TupO o z) (hm : (T, o) ∈ led) : TupAt led T z := by
  obtain ⟨hc, t1, t2, n, hd⟩ := t.out
  exact ⟨o, t1, t2, n, hm, hc, hd⟩
theorem TupO.ne {o : Obj} {z : Int × Int} {d : Data} (t : TupO o z) (hd : ∀ vs n, d ≠ .seq vs n) : o.data ≠ d := by
  obtain ⟨hc, t1, t2, n, h⟩ := t.out
  intro e
  exact hd _ _ (e.symm.trans h)
theorem due_pack {h₀ h : Heap} {L Dd T0 T1 T2 T3 : Addr} {q c : Addr × Obj} {ed n0 n1 n2 n3 : Nat} {a0 b0 a1 b1 a2 b2 a3 b3 : Tok} {x y u v : Int}
    (N : News h₀ L h [q, (Dd, listOf #[Value.ref T0, Value.ref T1, Value.ref T2, Value.ref T3] ed),
      (T3, { cls := .type "tuple", data := .seq #[.int (x * u - y * v) a3, .int (x * v + y * u) b3] n3 }), (T2, { cls := .type "tuple", data := .seq #[.int (x + u) a2, .int (y + v) b2] n2 }),
      (T1, { cls := .type "tuple", data := .seq #[.int u a1, .int v b1] n1 }), (T0, { cls := .type "tuple", data := .seq #[.int x a0, .int y b0] n0 }), c]) :
    ∃ (od o3 o2 o1 o0 : Obj) (nd : Nat), News h₀ L h [q, (Dd, od), (T3, o3), (T2, o2), (T1, o1), (T0, o0), c] ∧ od.cls = .type "list" ∧ od.data = .seq #[Value.ref T0, Value.ref T1, Value.ref T2, Value.ref T3] nd ∧
      TupO o0 (dues x y u v 0) ∧ TupO o1 (dues x y u v 1) ∧ TupO o2 (dues x y u v 2) ∧ TupO o3 (dues x y u v 3) :=
  ⟨_, _, _, _, _, ed, N, rfl, rfl, ⟨rfl, _, _, _, rfl⟩, ⟨rfl, _, _, _, rfl⟩, ⟨rfl, _, _, _, rfl⟩, ⟨rfl, _, _, _, rfl⟩⟩
theorem turn_pack {h₀ h : Heap} {L D6 P0 P1 P2 P3 D5 Dd T0 T1 T2 T3 : Addr} {y0 y1 y2 y3 : List Value} {e0 e1 e2 e3 nd : Nat} {M0 M1 M2 M3 : Nat} {m0 m1 m2 m3 : Tok} {od o0 o1 o2 o3 : Obj} {z0 z1 z2 z3 : Int × Int}
    (N : News h₀ L h [(D6, LCg.lst [Value.ref P0, Value.ref P1, Value.ref P2, Value.ref P3]), (P0, listOf y0.toArray e0), (P1, listOf y1.toArray e1), (P2, listOf y2.toArray e2), (P3, listOf y3.toArray e3),
      (D5, LCg.lst [Value.int (M0 : Int) m0, Value.int (M1 : Int) m1, Value.int (M2 : Int) m2, Value.int (M3 : Int) m3]), (Dd, od), (T3, o3), (T2, o2), (T1, o1), (T0, o0)])
    (hc : od.cls = .type "list") (hd : od.data = .seq #[Value.ref T0, Value.ref T1, Value.ref T2, Value.ref T3] nd) (t0 : TupO o0 z0) (t1 : TupO o1 z1) (t2 : TupO o2 z2) (t3 : TupO o3 z3)
    (O : DueOk z0 z1 z2 z3 M0 M1 M2 M3) (i0 : IntsAre y0 (ups M0)) (i1 : IntsAre y1 (ups M1)) (i2 : IntsAre y2 (ups M2)) (i3 : IntsAre y3 (ups M3)) :
    ∃ led, News h₀ L h led ∧ ∀ k : Int, 0 ≤ k → k < 4 → TurnAt led D6 D5 Dd k := by
  refine ⟨_, N, fun k hk0 hk4 => ?_⟩
  have h4 : k = 0 ∨ k = 1 ∨ k = 2 ∨ k = 3 := by omega
  clear N hk0 hk4
  rcases h4 with rfl | rfl | rfl | rfl
  · exact ⟨M0, _, m0, P0, T0, y0, e0, ⟨by decide, by decide, _, _, _, (by repeat (first | exact List.mem_cons_self | apply List.mem_cons_of_mem)), rfl, rfl, rfl⟩, ⟨by decide, by decide, _, _, _, (by repeat (first | exact List.mem_cons_self | apply List.mem_cons_of_mem)), rfl, rfl, rfl⟩, ⟨by decide, by decide, _, _, _, (by repeat (first | exact List.mem_cons_self | apply List.mem_cons_of_mem)), hc, hd, rfl⟩, (by repeat (first | exact List.mem_cons_self | apply List.mem_cons_of_mem)), t0.at (by repeat (first | exact List.mem_cons_self | apply List.mem_cons_of_mem)), i0, O.w0⟩
  · exact ⟨M1, _, m1, P1, T1, y1, e1, ⟨by decide, by decide, _, _, _, (by repeat (first | exact List.mem_cons_self | apply List.mem_cons_of_mem)), rfl, rfl, rfl⟩, ⟨by decide, by decide, _, _, _, (by repeat (first | exact List.mem_cons_self | apply List.mem_cons_of_mem)), rfl, rfl, rfl⟩, ⟨by decide, by decide, _, _, _, (by repeat (first | exact List.mem_cons_self | apply List.mem_cons_of_mem)), hc, hd, rfl⟩, (by repeat (first | exact List.mem_cons_self | apply List.mem_cons_of_mem)), t1.at (by repeat (first | exact List.mem_cons_self | apply List.mem_cons_of_mem)), i1, O.w1⟩
  · exact ⟨M2, _, m2, P2, T2, y2, e2, ⟨by decide, by decide, _, _, _, (by repeat (first | exact List.mem_cons_self | apply List.mem_cons_of_mem)), rfl, rfl, rfl⟩, ⟨by decide, by decide, _, _, _, (by repeat (first | exact List.mem_cons_self | apply List.mem_cons_of_mem)), rfl, rfl, rfl⟩, ⟨by decide, by decide, _, _, _, (by repeat (first | exact List.mem_cons_self | apply List.mem_cons_of_mem)), hc, hd, rfl⟩, (by repeat (first | exact List.mem_cons_self | apply List.mem_cons_of_mem)), t2.at (by repeat (first | exact List.mem_cons_self | apply List.mem_cons_of_mem)), i2, O.w2⟩
  · exact ⟨M3, _, m3, P3, T3, y3, e3, ⟨by decide, by decide, _, _, _, (by repeat (first | exact List.mem_cons_self | apply List.mem_cons_of_mem)), rfl, rfl, rfl⟩, ⟨by decide, by decide, _, _, _, (by repeat (first | exact List.mem_cons_self | apply List.mem_cons_of_mem)), rfl, rfl, rfl⟩, ⟨by decide, by decide, _, _, _, (by repeat (first | exact List.mem_cons_self | apply List.mem_cons_of_mem)), hc, hd, rfl⟩, (by repeat (first | exact List.mem_cons_self | apply List.mem_cons_of_mem)), t3.at (by repeat (first | exact List.mem_cons_self | apply List.mem_cons_of_mem)), i3, O.w3⟩
theorem law_spec {w : World} {E : Value → Shared → Prop} {s : Shared} {Q : Value → Shared → Prop} {mean : ExcName → Option Value} {mg mb : Str → Option Value}
  (X : (Mine.hd.heap_39 w.params).In s.heap) (T : Top Mine.hd.view_328 (looseW Mine.hd.view_328 [Str.ofString "COMPILER_FLAG_NAMES"]) mean mg mb s.heap) (h300 : 300 ≤ s.toks)
  (l : Addr) (vs : List Value) (ns : List Int) (hl : s.heap.IsList l vs.toArray) (hi : IntsAre vs ns) (hn : ns.length ≤ 63)
  (hret : ∀ h' tk', s.heap.StaysIn h' → Q (.bool true) { s with heap := h', toks := tk' }) :
  wpAny (model PySem.Challenge.rw_yf0006_01.row.prog w) callerA (call (.ref 144) [.ref l]) Q E s := by
  revert X; k_fill; intro X
  have mk9 := kstMark
  have b300 := Box.mk h300
  have bl := Box.mk hl
  clear h300 hl
  (( refine' enterTop (by assumption) (by assumption) ?k1 ?k2 ?k3 ?k4 ?k5 ?kh ?c1 ?c2 ?c3; (case k1 => k_dflt k_is); (case k2 => k_dflt k_is); (case k3 => exact BindsTo.of_eq rfl); (case k4 => exact rfl); (case k5 => decide +kernel); (case c1 => rfl); (case c2 => rfl); (case c3 => rfl); intro L'q9 h₁q9 tk0q9 cellsq9 baseq9 dpq9 unq9 gdq9 eAq9 htk0q9 F'q9 N'q9 Y'q9 B'q9 X'q9 T'q9 hdq9 huq9; k_cells Y'q9; (try simp only [List.cons_append, List.nil_append] at N'q9); (try dsimp only); (try k_unmd); k_fold))
  (repeat' ( (fail_if_success (with_reducible show wpAny _ _ (call (Value.ref 92) _) _ _ _)); (fail_if_success (with_reducible show wpAny _ _ (call (Value.ref 99) _) _ _ _)); (fail_if_success (with_reducible show wpAny _ _ (call (Value.ref 78) _) _ _ _)); (fail_if_success (with_reducible show wpAny _ _ (call (Value.ref 104) _) _ _ _)); (fail_if_success (with_reducible show wpAny _ _ (call (Value.ref 28) _) _ _ _)); (fail_if_success (with_reducible show wpAny _ _ (call (Value.ref 85) _) _ _ _)); (fail_if_success (with_reducible show wpAny _ _ (call (Value.ref 118) _) _ _ _)); (fail_if_success (with_reducible show wpAny _ _ (call (Value.ref 111) _) _ _ _)); (fail_if_success (with_reducible show wpAny _ _ (exec (Stmt.Assign _ (Expr.ListComp _ _ _ _) _) _) _ _ _)); (fail_if_success (with_reducible show wpAny _ _ (eval (Expr.ListComp _ _ _ _) _) _ _ _)); (fail_if_success (with_reducible show wpAny _ _ (pyIter _) _ _ _)); (fail_if_success (with_reducible show InvEndN _ _ _ _ _ _ _)); (fail_if_success (with_reducible show Exists _)); (first | (k_unfold; (try dsimp only)) | (k_end; wrow_close) | (dsimp only; walk1) | walk1 | (leave1; walk_say "STEP leave1"; try dsimp only) | fail "no step")))
  rename Fr _ _ _ _ => F0
  rename News _ _ _ _ => N0
  rename s.toks ≤ _ => htk0
  rename Obj.data _ = Data.cell _ => dC
  have bX := Box.mk ‹(Mine.hd.heap_39 w.params).In s.heap›
  refine wpAny_with_toks (n := s.toks) htk0 (cells_spec ?G1 (Fr.keep_list F0 bl.out) hi hn ?_)
  case G1 => walk_at "mine gnd"
  intro D ws ms ep h' tk' hst hDn hD hiD hlen htk
  have N1 := news_add F0 N0 hst hDn hD
  have F1 := F0.keeps hst
  change Fr _ _ _ (fun y => if y = Str.ofString "script" then some (Value.ref l) else none) at F1
  replace htk : s.toks ≤ tk' := htk
  have btk := Box.mk htk
  clear F0 N0 hst hDn hD htk
  obtain ⟨a, b, c, d, ta, tb, tc, td, rfl⟩ := ints4 hiD hlen
  clear hiD
  clear hlen
  (try dsimp only)
  (try k_unmd)
  (repeat' ( (fail_if_success (with_reducible show wpAny _ _ (call (Value.ref 92) _) _ _ _)); (fail_if_success (with_reducible show wpAny _ _ (call (Value.ref 99) _) _ _ _)); (fail_if_success (with_reducible show wpAny _ _ (call (Value.ref 78) _) _ _ _)); (fail_if_success (with_reducible show wpAny _ _ (call (Value.ref 104) _) _ _ _)); (fail_if_success (with_reducible show wpAny _ _ (call (Value.ref 28) _) _ _ _)); (fail_if_success (with_reducible show wpAny _ _ (call (Value.ref 85) _) _ _ _)); (fail_if_success (with_reducible show wpAny _ _ (call (Value.ref 118) _) _ _ _)); (fail_if_success (with_reducible show wpAny _ _ (call (Value.ref 111) _) _ _ _)); (fail_if_success (with_reducible show wpAny _ _ (exec (Stmt.Assign _ (Expr.ListComp _ _ _ _) _) _) _ _ _)); (fail_if_success (with_reducible show wpAny _ _ (eval (Expr.ListComp _ _ _ _) _) _ _ _)); (fail_if_success (with_reducible show wpAny _ _ (pyIter _) _ _ _)); (fail_if_success (with_reducible show InvEndN _ _ _ _ _ _ _)); (fail_if_success (with_reducible show Exists _)); (first | (k_unfold; (try dsimp only)) | (k_end; wrow_close) | (dsimp only; walk1) | walk1 | (leave1; walk_say "STEP leave1"; try dsimp only) | fail "no step")))
  rename Fr _ _ _ _ => F2
  rename News _ _ _ _ => N2
  have hx : -20 ≤ ([a, b, c, d].getD (Int.toNat 0) 0).fmod 41 - 20 ∧ ([a, b, c, d].getD (Int.toNat 0) 0).fmod 41 - 20 ≤ 20 := fm_bound _ (by decide) (by decide)
  have hy : -20 ≤ ([a, b, c, d].getD (Int.toNat 1) 0).fmod 41 - 20 ∧ ([a, b, c, d].getD (Int.toNat 1) 0).fmod 41 - 20 ≤ 20 := fm_bound _ (by decide) (by decide)
  have hu : -42 ≤ ([a, b, c, d].getD (Int.toNat 2) 0).fmod 85 - 42 ∧ ([a, b, c, d].getD (Int.toNat 2) 0).fmod 85 - 42 ≤ 42 := fm_bound _ (by decide) (by decide)
  have hv : -42 ≤ ([a, b, c, d].getD (Int.toNat 3) 0).fmod 85 - 42 ∧ ([a, b, c, d].getD (Int.toNat 3) 0).fmod 85 - 42 ≤ 42 := fm_bound _ (by decide) (by decide)
  generalize ([a, b, c, d].getD (Int.toNat 0) 0).fmod 41 - 20 = x at F2 N2 hx
  generalize ([a, b, c, d].getD (Int.toNat 1) 0).fmod 41 - 20 = y at F2 N2 hy
  generalize ([a, b, c, d].getD (Int.toNat 2) 0).fmod 85 - 42 = u at F2 N2 hu
  generalize ([a, b, c, d].getD (Int.toNat 3) 0).fmod 85 - 42 = v at F2 N2 hv
  obtain ⟨z0, z1, z2, z3⟩ := due_ok hx hy hu hv
  replace N2 := news_pick N2
  generalize e1 : tk' + 1 + 1 + 1 + 1 + 1 = q1 at F2 N2 ⊢
  generalize e2 : q1 + 1 + 1 + 1 + 1 + 1 = q2 at F2 N2 ⊢
  generalize e3 : q2 + 1 + 1 + 1 + 1 + 1 = q3 at F2 N2 ⊢
  generalize e4 : q3 + 1 + 1 + 1 + 1 + 1 = q4 at F2 N2 ⊢
  generalize e5 : q4 + 1 + 1 + 1 + 1 + 1 = q5 at F2 N2 ⊢
  generalize e6 : q5 + 1 + 1 + 1 + 1 + 1 = q6 at F2 N2 ⊢
  have htk5 : s.toks ≤ q6 := Nat.le_trans btk.out (by omega)
  clear e1 e2 e3 e4 e5 e6 hx hy hu hv
  refine mid_use (s := s) (x := x) (y := y) (u := u) (v := v) F2 N2 ?comp ?rest
  case comp =>
    refine wpAny_with_toks (n := s.toks) (Nat.le_trans htk5 (by dsimp only; omega)) ?_
    refine LCp.ListComp_P (F₀ := F2) (by with_unfolding_all rfl) (by decide) (by rfl) (by decide) (by rfl) (by rfl) (by decide) ?_
    (repeat' ( (fail_if_success (with_reducible show wpAny _ _ (call (Value.builtin "bytes.join") _) _ _ _)); (fail_if_success (with_reducible show _ → _)); (first | (k_unfold; (try dsimp only)) | (k_end; wrow_close) | (dsimp only; walk1) | walk1 | (leave1; walk_say "STEP leave1"; try dsimp only) | fail "no step")))
    intro htk4
    rename Fr _ _ _ _ => F3
    rename News _ _ _ _ => N3
    exact ⟨_, _, _, _, _, _, _, _, _, _, _, _, _, _, _, rfl, rfl, htk4, F3, N3, ‹OctF x y _ _›, ‹OctF u v _ _›, ‹OctF (x + u) (y + v) _ _›, ‹OctF (x * u - y * v) (x * v + y * u) _ _›⟩
  case rest =>
    intro D4 b0 b1 b2 b3 k0 k1 k2 k3 t0 t1 t2 t3 h4 tk4 htk4 F4 N4 o0 o1 o2 o3
    have bdue := dueOk_of z0.out z1.out z2.out z3.out
    obtain ⟨od, ob3, ob2, ob1, ob0, nd, N4', odc, odd, tu0, tu1, tu2, tu3⟩ := due_pack N4
    clear N4
    have N4 := N4'
    clear N4'
    clear F2 N2 z0 z1 z2 z3 htk5
    (try dsimp only)
    (try k_unmd)
    (repeat' ( (fail_if_success (with_reducible show wpAny _ _ (call (Value.builtin "bytes.join") _) _ _ _)); (fail_if_success (with_reducible show _ → _)); (first | (k_unfold; (try dsimp only)) | (k_end; wrow_close) | (dsimp only; walk1) | walk1 | (leave1; walk_say "STEP leave1"; try dsimp only) | fail "no step")))
    rename Fr _ _ _ _ => F5
    rename News _ _ _ _ => N5
    refine join_four ⟨_, (N5 _ List.mem_cons_self).1, rfl, _, rfl⟩ ?hsz ?_
    case hsz => exact Nat.le_trans (Nat.add_le_add (Nat.add_le_add (Nat.add_le_add o0.size o1.size) o2.size) o3.size) (by decide)
    (try dsimp only)
    (try k_unmd)
    (repeat' ( (fail_if_success (with_reducible show wpAny _ _ (call (Value.ref 92) _) _ _ _)); (fail_if_success (with_reducible show wpAny _ _ (call (Value.ref 99) _) _ _ _)); (fail_if_success (with_reducible show wpAny _ _ (call (Value.ref 78) _) _ _ _)); (fail_if_success (with_reducible show wpAny _ _ (call (Value.ref 104) _) _ _ _)); (fail_if_success (with_reducible show wpAny _ _ (call (Value.ref 28) _) _ _ _)); (fail_if_success (with_reducible show wpAny _ _ (call (Value.ref 85) _) _ _ _)); (fail_if_success (with_reducible show wpAny _ _ (call (Value.ref 118) _) _ _ _)); (fail_if_success (with_reducible show wpAny _ _ (call (Value.ref 111) _) _ _ _)); (fail_if_success (with_reducible show wpAny _ _ (exec (Stmt.Assign _ (Expr.ListComp _ _ _ _) _) _) _ _ _)); (fail_if_success (with_reducible show wpAny _ _ (eval (Expr.ListComp _ _ _ _) _) _ _ _)); (fail_if_success (with_reducible show wpAny _ _ (pyIter _) _ _ _)); (fail_if_success (with_reducible show InvEndN _ _ _ _ _ _ _)); (fail_if_success (with_reducible show Exists _)); (first | (k_unfold; (try dsimp only)) | (k_end; wrow_close) | (dsimp only; walk1) | walk1 | (leave1; walk_say "STEP leave1"; try dsimp only) | fail "no step")))
    have up : ∀ (hp : Heap) (ob : Obj) b o, hp.get? b = some o → (hp.push ob).get? b = some o := fun hp ob b o e => Heap.get?_push_of_some _ e
    refine iter_bytes ?_
    have N6 := news_add F5 N5 (up h4 (bItO (b0 ++ b1 ++ b2 ++ b3) tk4 0)) (Heap.get?_none_of_le (Nat.le_refl _)) (Heap.get?_push_size h4 rfl)
    have F6 := F5.keeps (up h4 (bItO (b0 ++ b1 ++ b2 ++ b3) tk4 0))
    clear F5 N5 up
    generalize h4.push (bItO (b0 ++ b1 ++ b2 ++ b3) tk4 0) = h6 at F6 N6 ⊢
    generalize hI : h4.objs.size = I at F6 N6 ⊢
    clear hI
    (try dsimp only)
    (try k_unmd)
    (repeat' ( (fail_if_success (with_reducible show wpAny _ _ (call (Value.ref 92) _) _ _ _)); (fail_if_success (with_reducible show wpAny _ _ (call (Value.ref 99) _) _ _ _)); (fail_if_success (with_reducible show wpAny _ _ (call (Value.ref 78) _) _ _ _)); (fail_if_success (with_reducible show wpAny _ _ (call (Value.ref 104) _) _ _ _)); (fail_if_success (with_reducible show wpAny _ _ (call (Value.ref 28) _) _ _ _)); (fail_if_success (with_reducible show wpAny _ _ (call (Value.ref 85) _) _ _ _)); (fail_if_success (with_reducible show wpAny _ _ (call (Value.ref 118) _) _ _ _)); (fail_if_success (with_reducible show wpAny _ _ (call (Value.ref 111) _) _ _ _)); (fail_if_success (with_reducible show wpAny _ _ (exec (Stmt.Assign _ (Expr.ListComp _ _ _ _) _) _) _ _ _)); (fail_if_success (with_reducible show wpAny _ _ (eval (Expr.ListComp _ _ _ _) _) _ _ _)); (fail_if_success (with_reducible show wpAny _ _ (pyIter _) _ _ _)); (fail_if_success (with_reducible show InvEndN _ _ _ _ _ _ _)); (fail_if_success (with_reducible show Exists _)); (first | (k_unfold; (try dsimp only)) | (k_end; wrow_close) | (dsimp only; walk1) | walk1 | (leave1; walk_say "STEP leave1"; try dsimp only) | fail "no step")))
    refine store_cell7 F6 N6 rfl dC ?hne ?_ rfl rfl
    case hne =>
      intro p hp w
      simp only [List.mem_cons, List.not_mem_nil, or_false] at hp
      rcases hp with rfl | rfl | rfl | rfl | rfl | rfl | rfl
      all_goals first | (intro e; cases e; done) | (intro e; dsimp only at e; rw [odd] at e; cases e; done) | exact tu0.ne (by intro _ _ e; cases e) | exact tu1.ne (by intro _ _ e; cases e) | exact tu2.ne (by intro _ _ e; cases e) | exact tu3.ne (by intro _ _ e; cases e)
    clear F6 N6
    intro h7 o7 F7 N7 dC7
    clear dC
    (try dsimp only)
    (try k_unmd)
    (repeat' ( (fail_if_success (with_reducible show wpAny _ _ (call (Value.ref 92) _) _ _ _)); (fail_if_success (with_reducible show wpAny _ _ (call (Value.ref 99) _) _ _ _)); (fail_if_success (with_reducible show wpAny _ _ (call (Value.ref 78) _) _ _ _)); (fail_if_success (with_reducible show wpAny _ _ (call (Value.ref 104) _) _ _ _)); (fail_if_success (with_reducible show wpAny _ _ (call (Value.ref 28) _) _ _ _)); (fail_if_success (with_reducible show wpAny _ _ (call (Value.ref 85) _) _ _ _)); (fail_if_success (with_reducible show wpAny _ _ (call (Value.ref 118) _) _ _ _)); (fail_if_success (with_reducible show wpAny _ _ (call (Value.ref 111) _) _ _ _)); (fail_if_success (with_reducible show wpAny _ _ (exec (Stmt.Assign _ (Expr.ListComp _ _ _ _) _) _) _ _ _)); (fail_if_success (with_reducible show wpAny _ _ (eval (Expr.ListComp _ _ _ _) _) _ _ _)); (fail_if_success (with_reducible show wpAny _ _ (pyIter _) _ _ _)); (fail_if_success (with_reducible show InvEndN _ _ _ _ _ _ _)); (fail_if_success (with_reducible show Exists _)); (first | (k_unfold; (try dsimp only)) | (k_end; wrow_close) | (dsimp only; walk1) | walk1 | (leave1; walk_say "STEP leave1"; try dsimp only) | fail "no step")))
    have bfd := feed_of o0 o1 o2 o3
    have ends : offs k0 k1 k2 k3 4 = (b0 ++ b1 ++ b2 ++ b3).size := by
      have e0 := congrArg List.length o0.b
      have e1 := congrArg List.length o1.b
      have e2 := congrArg List.length o2.b
      have e3 := congrArg List.length o3.b
      rw [octRow_len, KBw.ints_length] at e0 e1 e2 e3
      show 0 + k0 + k1 + k2 + k3 = _
      simp only [Array.size_append]
      omega
    clear o0 o1 o2 o3
    generalize hof : offs k0 k1 k2 k3 = of at bfd ends
    have of0 : of 0 = 0 := by rw [← hof]; rfl
    clear hof
    generalize b0 ++ b1 ++ b2 ++ b3 = B at N7 bfd ends
    have N8 := news_of0 of0 N7
    clear N7
    refine comp_listX (X := I) (ox := fun i => bItO B tk4 (of i)) (Fp := fun i y' _ => ∃ t, y' = Value.int (mk (dues x y u v i) : Int) t) (fun i y t t2 _ h => h) F7 rfl rfl (by with_unfolding_all rfl) (by with_unfolding_all rfl) (by decide) (by rfl) (by decide) (by rfl) (by rfl) (by rfl) ?hh
    (repeat' ( (fail_if_success (with_reducible show wpAny _ _ (call (Value.ref 92) _) _ _ _)); (fail_if_success (with_reducible show wpAny _ _ (call (Value.ref 99) _) _ _ _)); (fail_if_success (with_reducible show wpAny _ _ (call (Value.ref 78) _) _ _ _)); (fail_if_success (with_reducible show wpAny _ _ (call (Value.ref 104) _) _ _ _)); (fail_if_success (with_reducible show wpAny _ _ (call (Value.ref 28) _) _ _ _)); (fail_if_success (with_reducible show wpAny _ _ (call (Value.ref 85) _) _ _ _)); (fail_if_success (with_reducible show wpAny _ _ (call (Value.ref 118) _) _ _ _)); (fail_if_success (with_reducible show wpAny _ _ (call (Value.ref 111) _) _ _ _)); (fail_if_success (with_reducible show wpAny _ _ (exec (Stmt.Assign _ (Expr.ListComp _ _ _ _) _) _) _ _ _)); (fail_if_success (with_reducible show wpAny _ _ (eval (Expr.ListComp _ _ _ _) _) _ _ _)); (fail_if_success (with_reducible show wpAny _ _ (pyIter _) _ _ _)); (fail_if_success (with_reducible show InvEndN _ _ _ _ _ _ _)); (fail_if_success (with_reducible show Exists _)); (first | (k_unfold; (try dsimp only)) | (k_end; wrow_close) | (dsimp only; walk1) | walk1 | (leave1; walk_say "STEP leave1"; try dsimp only) | fail "no step")))
    have hne := ne_of_data N8 (by
      intro p hp
      simp only [List.mem_cons, List.not_mem_nil, or_false] at hp
      rcases hp with rfl | rfl | rfl | rfl | rfl | rfl | rfl
      all_goals first | (intro e; dsimp only at e; rw [dC7] at e; cases e; done) | (intro e; cases e; done) | (intro e; dsimp only at e; rw [odd] at e; cases e; done) | exact tu0.ne (by intro _ _ e; cases e) | exact tu1.ne (by intro _ _ e; cases e) | exact tu2.ne (by intro _ _ e; cases e) | exact tu3.ne (by intro _ _ e; cases e))
    refine ⟨_, _, _, rfl, F7, N8, hne, hne _ (List.mem_cons_of_mem _ List.mem_cons_self), ⟨_, (N8 _ (List.mem_cons_of_mem _ (List.mem_cons_of_mem _ List.mem_cons_self))).1, odc, _, odd⟩, (by rw [sizeLine_eq]; exact Nat.le_of_ble_eq_true rfl), ?turn, ?done⟩
    case turn =>
      rintro i v' J oJ C oC D5 oD m₂ hh kk E' hi htk hv hoC hm2 F9 N9 n1 n2 n3
      clear F7 N8 hv
      (repeat' ( (fail_if_success (with_reducible show wpAny _ _ (call (Value.ref 92) _) _ _ _)); (fail_if_success (with_reducible show wpAny _ _ (call (Value.ref 99) _) _ _ _)); (fail_if_success (with_reducible show wpAny _ _ (call (Value.ref 78) _) _ _ _)); (fail_if_success (with_reducible show wpAny _ _ (call (Value.ref 104) _) _ _ _)); (fail_if_success (with_reducible show wpAny _ _ (call (Value.ref 28) _) _ _ _)); (fail_if_success (with_reducible show wpAny _ _ (call (Value.ref 85) _) _ _ _)); (fail_if_success (with_reducible show wpAny _ _ (call (Value.ref 118) _) _ _ _)); (fail_if_success (with_reducible show wpAny _ _ (call (Value.ref 111) _) _ _ _)); (fail_if_success (with_reducible show wpAny _ _ (exec (Stmt.Assign _ (Expr.ListComp _ _ _ _) _) _) _ _ _)); (fail_if_success (with_reducible show wpAny _ _ (eval (Expr.ListComp _ _ _ _) _) _ _ _)); (fail_if_success (with_reducible show wpAny _ _ (pyIter _) _ _ _)); (fail_if_success (with_reducible show InvEndN _ _ _ _ _ _ _)); (fail_if_success (with_reducible show Exists _)); (first | (k_unfold; (try dsimp only)) | (k_end; wrow_close) | (dsimp only; walk1) | walk1 | (leave1; walk_say "STEP leave1"; try dsimp only) | fail "no step")))
      obtain ⟨kj, rest, hk1, hk5, hdrop, hof, hmk⟩ := bfd.out i hi
      have nI := N9 (I, bItO B tk4 (of i)) (by simp)
      refine parse_spec (Gnd.intro (by k_asm) F9 (by k_asm) (fun p q => by rw [List.mem_singleton.mp q]; exact nI) (by k_asm) rfl rfl (by (try dsimp only); omega) (by (try dsimp only); omega)) (dues x y u v i) kj rest hk1 hk5 hdrop ?_
      intro tv hq kq hkq hIq
      refine ⟨⟨tv, by rw [hmk]⟩, _, _, rfl, hkq, ?_⟩
      show hq.get? I = some (bItO B tk4 (of (i + 1)))
      rw [hof]
      exact hIq
    case done =>
      intro D5 hh kk ys F9 N9 htk hlen hys
      clear F7 N8
      obtain ⟨m0, m1, m2, m3, rfl⟩ := ys4 (f := fun i => (mk (dues x y u v i) : Int)) hlen hys
      clear hys hlen
      have btk6 := Box.mk (Nat.le_trans htk4 (Nat.le_trans (Nat.le_succ _) htk))
      clear htk
      k_unmd
      (try dsimp only)
      (repeat' ( (fail_if_success (with_reducible show wpAny _ _ (call (Value.ref 92) _) _ _ _)); (fail_if_success (with_reducible show wpAny _ _ (call (Value.ref 99) _) _ _ _)); (fail_if_success (with_reducible show wpAny _ _ (call (Value.ref 78) _) _ _ _)); (fail_if_success (with_reducible show wpAny _ _ (call (Value.ref 104) _) _ _ _)); (fail_if_success (with_reducible show wpAny _ _ (call (Value.ref 28) _) _ _ _)); (fail_if_success (with_reducible show wpAny _ _ (call (Value.ref 85) _) _ _ _)); (fail_if_success (with_reducible show wpAny _ _ (call (Value.ref 118) _) _ _ _)); (fail_if_success (with_reducible show wpAny _ _ (call (Value.ref 111) _) _ _ _)); (fail_if_success (with_reducible show wpAny _ _ (exec (Stmt.Assign _ (Expr.ListComp _ _ _ _) _) _) _ _ _)); (fail_if_success (with_reducible show wpAny _ _ (eval (Expr.ListComp _ _ _ _) _) _ _ _)); (fail_if_success (with_reducible show wpAny _ _ (pyIter _) _ _ _)); (fail_if_success (with_reducible show InvEndN _ _ _ _ _ _ _)); (fail_if_success (with_reducible show Exists _)); (first | (k_unfold; (try dsimp only)) | (k_end; wrow_close) | (dsimp only; walk1) | walk1 | (leave1; walk_say "STEP leave1"; try dsimp only) | fail "no step")))
      have ends2 : of 4 = B.size := ends
      have hIe := (N9 (I, bItO B tk4 (of 4)) (List.mem_cons_of_mem _ List.mem_cons_self)).1
      dsimp only at hIe
      rw [ends2] at hIe
      refine wpAny_with_toks (n := s.toks) btk6.out (list_bEnd rfl hIe ?_)
      intro h10 tk10 c10 hk10 hS10 htk10
      obtain ⟨F10, N10⟩ := news_behind F9 N9 hne (fun e => nomatch e) hk10 hS10
      have btk10 := Box.mk htk10
      clear htk10 hk10 hS10 hIe F9 N9 btk6 ends ends2 bfd hne of0
      generalize hh.objs.size = D10 at N10 ⊢
      (try dsimp only)
      (try k_unmd)
      (repeat' ( (fail_if_success (with_reducible show wpAny _ _ (call (Value.ref 92) _) _ _ _)); (fail_if_success (with_reducible show wpAny _ _ (call (Value.ref 99) _) _ _ _)); (fail_if_success (with_reducible show wpAny _ _ (call (Value.ref 78) _) _ _ _)); (fail_if_success (with_reducible show wpAny _ _ (call (Value.ref 104) _) _ _ _)); (fail_if_success (with_reducible show wpAny _ _ (call (Value.ref 28) _) _ _ _)); (fail_if_success (with_reducible show wpAny _ _ (call (Value.ref 85) _) _ _ _)); (fail_if_success (with_reducible show wpAny _ _ (call (Value.ref 118) _) _ _ _)); (fail_if_success (with_reducible show wpAny _ _ (call (Value.ref 111) _) _ _ _)); (fail_if_success (with_reducible show wpAny _ _ (exec (Stmt.Assign _ (Expr.ListComp _ _ _ _) _) _) _ _ _)); (fail_if_success (with_reducible show wpAny _ _ (eval (Expr.ListComp _ _ _ _) _) _ _ _)); (fail_if_success (with_reducible show wpAny _ _ (pyIter _) _ _ _)); (fail_if_success (with_reducible show InvEndN _ _ _ _ _ _ _)); (fail_if_success (with_reducible show Exists _)); (first | (k_unfold; (try dsimp only)) | (k_end; wrow_close) | (dsimp only; walk1) | walk1 | (leave1; walk_say "STEP leave1"; try dsimp only) | fail "no step")))
      rename Fr _ _ _ _ => F11
      rename News _ _ _ _ => N11
      replace N11 := news_due N11
      refine comp_listR (Fp := fun i o => ∃ ys ep, o = listOf ys.toArray ep ∧ IntsAre ys (ups (mk (dues x y u v i)))) F11 rfl rfl (by with_unfolding_all rfl) (by with_unfolding_all rfl) (by decide) (by rfl) (by decide) (by rfl) (by rfl) (by rfl) ?hp
      (repeat' ( (fail_if_success (with_reducible show wpAny _ _ (call (Value.ref 92) _) _ _ _)); (fail_if_success (with_reducible show wpAny _ _ (call (Value.ref 99) _) _ _ _)); (fail_if_success (with_reducible show wpAny _ _ (call (Value.ref 78) _) _ _ _)); (fail_if_success (with_reducible show wpAny _ _ (call (Value.ref 104) _) _ _ _)); (fail_if_success (with_reducible show wpAny _ _ (call (Value.ref 28) _) _ _ _)); (fail_if_success (with_reducible show wpAny _ _ (call (Value.ref 85) _) _ _ _)); (fail_if_success (with_reducible show wpAny _ _ (call (Value.ref 118) _) _ _ _)); (fail_if_success (with_reducible show wpAny _ _ (call (Value.ref 111) _) _ _ _)); (fail_if_success (with_reducible show wpAny _ _ (exec (Stmt.Assign _ (Expr.ListComp _ _ _ _) _) _) _ _ _)); (fail_if_success (with_reducible show wpAny _ _ (eval (Expr.ListComp _ _ _ _) _) _ _ _)); (fail_if_success (with_reducible show wpAny _ _ (pyIter _) _ _ _)); (fail_if_success (with_reducible show InvEndN _ _ _ _ _ _ _)); (fail_if_success (with_reducible show Exists _)); (first | (k_unfold; (try dsimp only)) | (k_end; wrow_close) | (dsimp only; walk1) | walk1 | (leave1; walk_say "STEP leave1"; try dsimp only) | fail "no step")))
      refine ⟨_, _, _, rfl, F11, N11, ⟨_, (N11 _ List.mem_cons_self).1, rfl, _, rfl⟩, (by rw [sizeLine_eq]; exact Nat.le_of_ble_eq_true rfl), ?turnP, ?doneP⟩
      case turnP =>
        rintro i v' J oJ C oC D6 oD m₂ h12 k12 E' hi htk hv hoC hm2 F12 N12
        clear F11 N11
        obtain ⟨tm, rfl⟩ := ints_at4 (f := fun i => (mk (dues x y u v i) : Int)) hv
        clear hv
        (repeat' ( (fail_if_success (with_reducible show wpAny _ _ (call (Value.ref 92) _) _ _ _)); (fail_if_success (with_reducible show wpAny _ _ (call (Value.ref 99) _) _ _ _)); (fail_if_success (with_reducible show wpAny _ _ (call (Value.ref 78) _) _ _ _)); (fail_if_success (with_reducible show wpAny _ _ (call (Value.ref 104) _) _ _ _)); (fail_if_success (with_reducible show wpAny _ _ (call (Value.ref 28) _) _ _ _)); (fail_if_success (with_reducible show wpAny _ _ (call (Value.ref 85) _) _ _ _)); (fail_if_success (with_reducible show wpAny _ _ (call (Value.ref 118) _) _ _ _)); (fail_if_success (with_reducible show wpAny _ _ (call (Value.ref 111) _) _ _ _)); (fail_if_success (with_reducible show wpAny _ _ (exec (Stmt.Assign _ (Expr.ListComp _ _ _ _) _) _) _ _ _)); (fail_if_success (with_reducible show wpAny _ _ (eval (Expr.ListComp _ _ _ _) _) _ _ _)); (fail_if_success (with_reducible show wpAny _ _ (pyIter _) _ _ _)); (fail_if_success (with_reducible show InvEndN _ _ _ _ _ _ _)); (fail_if_success (with_reducible show Exists _)); (first | (k_unfold; (try dsimp only)) | (k_end; wrow_close) | (dsimp only; walk1) | walk1 | (leave1; walk_say "STEP leave1"; try dsimp only) | fail "no step")))
        refine places_spec ?G9 (mk (dues x y u v i)) tm (mk_lt _) ?h3 ?_
        case G9 => walk_at "mine gnd"
        case h3 => exact Nat.le_trans b300.out (Nat.le_trans btk10.out htk)
        intro D7 ys ep h13 k13 hst hD hDn hi7
        exact ⟨D7, _, h13, k13, rfl, ⟨ys, ep, rfl, hi7⟩, rfl, hst, hDn, hD⟩
      case doneP =>
        intro D6 h12 k12 acc F12 N12 htk hlen hacc
        clear F11 N11
        k_unmd
        (try dsimp only)
        obtain ⟨P0, P1, P2, P3, y0, y1, y2, y3, e0, e1, e2, e3, rfl, i0, i1, i2, i3⟩ := acc4 (U := fun j => ups (mk (dues x y u v j))) hlen hacc
        simp only [List.map_cons, List.map_nil, List.cons_append, List.nil_append] at N12
        (try dsimp only at i0 i1 i2 i3)
        change DueOk (dues x y u v 0) (dues x y u v 1) (dues x y u v 2) (dues x y u v 3) (mk (dues x y u v 0)) (mk (dues x y u v 1)) (mk (dues x y u v 2)) (mk (dues x y u v 3)) at bdue
        generalize mk (dues x y u v 0) = M0 at bdue N12 i0
        generalize mk (dues x y u v 1) = M1 at bdue N12 i1
        generalize mk (dues x y u v 2) = M2 at bdue N12 i2
        generalize mk (dues x y u v 3) = M3 at bdue N12 i3
        clear hlen hacc htk btk10 htk4
        (repeat' ( (fail_if_success (with_reducible show wpAny _ _ (call (Value.ref 92) _) _ _ _)); (fail_if_success (with_reducible show wpAny _ _ (call (Value.ref 99) _) _ _ _)); (fail_if_success (with_reducible show wpAny _ _ (call (Value.ref 78) _) _ _ _)); (fail_if_success (with_reducible show wpAny _ _ (call (Value.ref 104) _) _ _ _)); (fail_if_success (with_reducible show wpAny _ _ (call (Value.ref 28) _) _ _ _)); (fail_if_success (with_reducible show wpAny _ _ (call (Value.ref 85) _) _ _ _)); (fail_if_success (with_reducible show wpAny _ _ (call (Value.ref 118) _) _ _ _)); (fail_if_success (with_reducible show wpAny _ _ (call (Value.ref 111) _) _ _ _)); (fail_if_success (with_reducible show wpAny _ _ (exec (Stmt.Assign _ (Expr.ListComp _ _ _ _) _) _) _ _ _)); (fail_if_success (with_reducible show wpAny _ _ (eval (Expr.ListComp _ _ _ _) _) _ _ _)); (fail_if_success (with_reducible show wpAny _ _ (pyIter _) _ _ _)); (fail_if_success (with_reducible show InvEndN _ _ _ _ _ _ _)); (fail_if_success (with_reducible show Exists _)); (first | (k_unfold; (try dsimp only)) | (k_end; wrow_close) | (dsimp only; walk1) | walk1 | (leave1; walk_say "STEP leave1"; try dsimp only) | fail "no step")))
        refine sum2 ?G9 bdue ⟨_, (N12 _ (List.mem_cons_of_mem _ List.mem_cons_self)).1, rfl, _, rfl⟩ i0 ⟨_, (N12 _ (List.mem_cons_of_mem _ (List.mem_cons_of_mem _ List.mem_cons_self))).1, rfl, _, rfl⟩ i1 ?_
        case G9 => walk_at "mine gnd"
        intro ts h14 tk14 hst
        have F14 := F12.keeps hst
        have N14 := N12.grown hst
        clear F12 N12 hst
        (try dsimp only)
        (try k_unmd)
        (repeat' ( (fail_if_success (with_reducible show wpAny _ _ (call (Value.ref 92) _) _ _ _)); (fail_if_success (with_reducible show wpAny _ _ (call (Value.ref 99) _) _ _ _)); (fail_if_success (with_reducible show wpAny _ _ (call (Value.ref 78) _) _ _ _)); (fail_if_success (with_reducible show wpAny _ _ (call (Value.ref 104) _) _ _ _)); (fail_if_success (with_reducible show wpAny _ _ (call (Value.ref 28) _) _ _ _)); (fail_if_success (with_reducible show wpAny _ _ (call (Value.ref 85) _) _ _ _)); (fail_if_success (with_reducible show wpAny _ _ (call (Value.ref 118) _) _ _ _)); (fail_if_success (with_reducible show wpAny _ _ (call (Value.ref 111) _) _ _ _)); (fail_if_success (with_reducible show wpAny _ _ (exec (Stmt.Assign _ (Expr.ListComp _ _ _ _) _) _) _ _ _)); (fail_if_success (with_reducible show wpAny _ _ (eval (Expr.ListComp _ _ _ _) _) _ _ _)); (fail_if_success (with_reducible show wpAny _ _ (pyIter _) _ _ _)); (fail_if_success (with_reducible show InvEndN _ _ _ _ _ _ _)); (fail_if_success (with_reducible show Exists _)); (first | (k_unfold; (try dsimp only)) | (k_end; wrow_close) | (dsimp only; walk1) | walk1 | (leave1; walk_say "STEP leave1"; try dsimp only) | fail "no step")))
        · rename _ ≠ _ => ne9
          exact absurd rfl ne9
        rename (M2 : Int) = _ => eq9
        clear eq9
        rename Fr _ _ _ _ => F15
        rename News _ _ _ _ => N15
        refine prod2 ?G9 bdue ⟨_, (N15 _ (List.mem_cons_of_mem _ List.mem_cons_self)).1, rfl, _, rfl⟩ i0 ⟨_, (N15 _ (List.mem_cons_of_mem _ (List.mem_cons_of_mem _ List.mem_cons_self))).1, rfl, _, rfl⟩ i1 ?_
        case G9 => walk_at "mine gnd"
        intro ts2 h16 tk16 hst
        have F16 := F15.keeps hst
        have N16 := N15.grown hst
        clear F15 N15 hst
        (try dsimp only)
        (try k_unmd)
        (repeat' ( (fail_if_success (with_reducible show wpAny _ _ (call (Value.ref 92) _) _ _ _)); (fail_if_success (with_reducible show wpAny _ _ (call (Value.ref 99) _) _ _ _)); (fail_if_success (with_reducible show wpAny _ _ (call (Value.ref 78) _) _ _ _)); (fail_if_success (with_reducible show wpAny _ _ (call (Value.ref 104) _) _ _ _)); (fail_if_success (with_reducible show wpAny _ _ (call (Value.ref 28) _) _ _ _)); (fail_if_success (with_reducible show wpAny _ _ (call (Value.ref 85) _) _ _ _)); (fail_if_success (with_reducible show wpAny _ _ (call (Value.ref 118) _) _ _ _)); (fail_if_success (with_reducible show wpAny _ _ (call (Value.ref 111) _) _ _ _)); (fail_if_success (with_reducible show wpAny _ _ (exec (Stmt.Assign _ (Expr.ListComp _ _ _ _) _) _) _ _ _)); (fail_if_success (with_reducible show wpAny _ _ (eval (Expr.ListComp _ _ _ _) _) _ _ _)); (fail_if_success (with_reducible show wpAny _ _ (pyIter _) _ _ _)); (fail_if_success (with_reducible show InvEndN _ _ _ _ _ _ _)); (fail_if_success (with_reducible show Exists _)); (first | (k_unfold; (try dsimp only)) | (k_end; wrow_close) | (dsimp only; walk1) | walk1 | (leave1; walk_say "STEP leave1"; try dsimp only) | fail "no step")))
        · rename _ ≠ _ => ne9
          exact absurd rfl ne9
        rename (M3 : Int) = _ => eq9
        clear eq9
        rename IsRange _ _ _ _ _ _ _ _ => R17
        rename Fr _ _ _ _ => F17
        rename News _ _ _ _ => N17
        obtain ⟨led, N18, ta⟩ := turn_pack N17 odc odd tu0 tu1 tu2 tu3 bdue i0 i1 i2 i3
        refine' kst_range (σ := Unit) (n := 4) (fun _ => led) (fun _ => []) (fun _ => True) [Str.ofString "word"] (fun _ _ => True) () rfl R17 (by decide) (by rfl) F17 N18 trivial ?hk trivial ?turn4 ?done4
        case hk => kst_all
        case turn4 =>
          rintro ⟨⟩ pre k t uu h tk own hk hpl hoff hf hP F2 N2
          clear F17 N17 N18 R17
          (try dsimp only at F2 N2)
          obtain ⟨M9, z9, m9, P9, T9', y9, e9, j5, j6, jd, hP9, hT9, i9, W9⟩ := (ta k (by omega) (by omega)).out
          clear hk hpl hP ta
          have mk9 := kstMark
          k_unmd
          k_fold
          (try dsimp only)
          (repeat' ( (fail_if_success (with_reducible show wpAny _ _ (call (Value.ref 85) _) _ _ _)); (fail_if_success (with_reducible show wpAny _ _ (call (Value.ref 118) _) _ _ _)); (fail_if_success (with_reducible show wpAny _ _ (call (Value.ref 111) _) _ _ _)); (fail_if_success (with_reducible show wpAny _ _ (compareOp _ (Value.ref _) (Value.ref _)) _ _ _)); (fail_if_success (with_reducible show InvEndN _ _ _ _ _ _ _)); (first | (k_unfold; (try dsimp only)) | (k_end; wrow_close) | (dsimp only; walk1) | walk1 | (leave1; walk_say "STEP leave1"; try dsimp only) | fail "no step")))
          refine int2ap2 ?G9 _ _ _ _ W9 (Int.zero_sub _) ?_
          case G9 => walk_at "mine gnd"
          rename Fr _ _ _ _ => F3
          rename News _ _ _ _ => N3
          intro bs h18 tk18 tb hst ab
          have F4 := F3.keeps hst
          have N4 := N3.grown hst
          clear F3 N3 hst
          obtain ⟨ks, hks, hk8, noA⟩ := ab.cut W9
          (try dsimp only)
          (try k_unmd)
          (repeat' ( (fail_if_success (with_reducible show wpAny _ _ (call (Value.ref 85) _) _ _ _)); (fail_if_success (with_reducible show wpAny _ _ (call (Value.ref 118) _) _ _ _)); (fail_if_success (with_reducible show wpAny _ _ (call (Value.ref 111) _) _ _ _)); (fail_if_success (with_reducible show wpAny _ _ (compareOp _ (Value.ref _) (Value.ref _)) _ _ _)); (fail_if_success (with_reducible show InvEndN _ _ _ _ _ _ _)); (first | (k_unfold; (try dsimp only)) | (k_end; wrow_close) | (dsimp only; walk1) | walk1 | (leave1; walk_say "STEP leave1"; try dsimp only) | fail "no step")))
          · exact absurd (not_A (by assumption) noA (by assumption)) id
          rename Fr _ _ _ _ => F5
          rename News _ _ _ _ => N5
          refine letters2 ?G9 _ _ _ _ W9 ab ?_
          case G9 => walk_at "mine gnd"
          intro r9 h19 tk19 hst T9
          have F6 := F5.keeps hst
          have N6 := N5.grown hst
          clear F4 N4 F5 N5 hst noA
          (try dsimp only)
          (try k_unmd)
          (repeat' ( (fail_if_success (with_reducible show wpAny _ _ (call (Value.ref 85) _) _ _ _)); (fail_if_success (with_reducible show wpAny _ _ (call (Value.ref 118) _) _ _ _)); (fail_if_success (with_reducible show wpAny _ _ (call (Value.ref 111) _) _ _ _)); (fail_if_success (with_reducible show wpAny _ _ (compareOp _ (Value.ref _) (Value.ref _)) _ _ _)); (fail_if_success (with_reducible show InvEndN _ _ _ _ _ _ _)); (first | (k_unfold; (try dsimp only)) | (k_end; wrow_close) | (dsimp only; walk1) | walk1 | (leave1; walk_say "STEP leave1"; try dsimp only) | fail "no step")))
          refine ne_tup T9 (tup_at N6 hT9) (by (try dsimp only [Around.deeper]); omega) ?_
          (try dsimp only)
          (try k_unmd)
          (repeat' ( (fail_if_success (with_reducible show wpAny _ _ (call (Value.ref 85) _) _ _ _)); (fail_if_success (with_reducible show wpAny _ _ (call (Value.ref 118) _) _ _ _)); (fail_if_success (with_reducible show wpAny _ _ (call (Value.ref 111) _) _ _ _)); (fail_if_success (with_reducible show wpAny _ _ (compareOp _ (Value.ref _) (Value.ref _)) _ _ _)); (fail_if_success (with_reducible show InvEndN _ _ _ _ _ _ _)); (first | (k_unfold; (try dsimp only)) | (k_end; wrow_close) | (dsimp only; walk1) | walk1 | (leave1; walk_say "STEP leave1"; try dsimp only) | fail "no step")))
          rename Fr _ _ _ _ => F7
          rename News _ _ _ _ => N7
          refine words2 ?G9 _ _ _ _ W9 ⟨_, (N7 _ (List.mem_append_left _ hP9)).1, rfl, _, rfl⟩ i9 ?_
          case G9 => walk_at "mine gnd"
          intro r10 h20 tk20 hst T10
          have F8 := F7.keeps hst
          have N8 := N7.grown hst
          clear F7 N7 hst
          (try dsimp only)
          (try k_unmd)
          (repeat' ( (fail_if_success (with_reducible show wpAny _ _ (call (Value.ref 85) _) _ _ _)); (fail_if_success (with_reducible show wpAny _ _ (call (Value.ref 118) _) _ _ _)); (fail_if_success (with_reducible show wpAny _ _ (call (Value.ref 111) _) _ _ _)); (fail_if_success (with_reducible show wpAny _ _ (compareOp _ (Value.ref _) (Value.ref _)) _ _ _)); (fail_if_success (with_reducible show InvEndN _ _ _ _ _ _ _)); (first | (k_unfold; (try dsimp only)) | (k_end; wrow_close) | (dsimp only; walk1) | walk1 | (leave1; walk_say "STEP leave1"; try dsimp only) | fail "no step")))
          refine ne_tup T10 (tup_at N8 hT9) (by (try dsimp only [Around.deeper]); omega) ?_
          (try dsimp only)
          (try k_unmd)
          (repeat' ( (fail_if_success (with_reducible show wpAny _ _ (call (Value.ref 85) _) _ _ _)); (fail_if_success (with_reducible show wpAny _ _ (call (Value.ref 118) _) _ _ _)); (fail_if_success (with_reducible show wpAny _ _ (call (Value.ref 111) _) _ _ _)); (fail_if_success (with_reducible show wpAny _ _ (compareOp _ (Value.ref _) (Value.ref _)) _ _ _)); (fail_if_success (with_reducible show InvEndN _ _ _ _ _ _ _)); (first | (k_unfold; (try dsimp only)) | (k_end; wrow_close) | (dsimp only; walk1) | walk1 | (leave1; walk_say "STEP leave1"; try dsimp only) | fail "no step")))
          (try k_unfold)
          (try dsimp only [InvPostN])
          refine' kst_end () F8 N8 (fun p hp => List.mem_append_left _ hp) (fun p hp => List.mem_append_right _ hp) rfl trivial ?ahk ?ahr trivial
          case ahk => kst_all
          case ahr => walk_at "mine same"
        case done4 =>
          rintro ⟨⟩ uu h tk hf hP F2 N2
          clear F17 N17 N18 R17
          (try dsimp only at F2 N2)
          (repeat' ( (fail_if_success (with_reducible show wpAny _ _ (call (Value.ref 85) _) _ _ _)); (fail_if_success (with_reducible show wpAny _ _ (call (Value.ref 118) _) _ _ _)); (fail_if_success (with_reducible show wpAny _ _ (call (Value.ref 111) _) _ _ _)); (fail_if_success (with_reducible show wpAny _ _ (compareOp _ (Value.ref _) (Value.ref _)) _ _ _)); (fail_if_success (with_reducible show InvEndN _ _ _ _ _ _ _)); (first | (k_unfold; (try dsimp only)) | (k_end; wrow_close) | (dsimp only; walk1) | walk1 | (leave1; walk_say "STEP leave1"; try dsimp only) | fail "no step")))
          exact hret h tk F2.keep
end
end Mine
section
open PySem PySem.W PySem.Calls PyProof.Rows PySem.W.X
theorem Mine.in_nil {h : Heap} : Frag.In [] h := fun a o e => by cases e
theorem Mine.in_cons {a : Addr} {o : Obj} {K : Frag} {h : Heap} (h1 : h.get? a = some o) (h2 : Frag.In K h) : Frag.In ((a, o) :: K) h := fun b x e => by
  rw [List.lookup_cons] at e
  cases q : b == a with
  | true =>
    rw [q] at e
    have e2 : o = x := Option.some.inj e
    rw [eq_of_beq q, ← e2]
    exact h1
  | false =>
    rw [q] at e
    exact h2 b x e
theorem PySem.Challenge.cw_yf0006_01_holds : PySem.Challenge.rw_yf0006_01.Holds := by
  refine Mine.hd ?_
  w_on
  k_fill
  intro w s₀ s₁ mg mb G y fa o pm cd doc dV kV ho hd hcd hD hmg hg args vals as L hpre hlay hrd hwl hlo
  have f9 := z_facts (by intro _; rfl) y
  have ZI := f9.2.1
  have ZN := f9.2.2.1
  have ZT := f9.2.2.2
  have KX : Frag.In _ s₁.heap := InK.keeps w _ _ ZI (Laid.keeps L)
  clear f9 ZI
  refine Ground.open G ?_
  intro T B D TE TW
  wrow_args hpre hlay hrd hwl hlo
  obtain ⟨hat, hsz⟩ := script_at L
  have htk := script_toks L ZT
  rw [ZN] at hat hsz
  subst hat
  x_fa T KX hmg
  have X9 : (Mine.hd.heap_39 w.params).In s₁.heap := by
    unfold Mine.hd.heap_39
    repeat' (refine Mine.in_cons (KX _ _ rfl) ?_)
    exact Mine.in_nil
  have T9 : Top Mine.hd.view_328 (looseW Mine.hd.view_328 [Str.ofString "COMPILER_FLAG_NAMES"]) (ExcName.means s₀.heap) mg mb s₁.heap := T
  rename IntsAre _ _ => hi9
  rename Heap.IsList _ _ _ => hl9
  refine Mine.law_spec X9 T9 (Nat.le_trans (by decide) htk) _ _ _ hl9 hi9 (by omega) ?_
  intro h9 tk9 hst9
  refine GoodW.toG ⟨.inl ⟨.bool true, .bool true, [], rfl, fun _ => rfl, .bool true, ?_, fun _ => ⟨List.nodup_nil, fun a ha => by cases ha⟩⟩, hst9, rfl, hg⟩
  wrow_post
end

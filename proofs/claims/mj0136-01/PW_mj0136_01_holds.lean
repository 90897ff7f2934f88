import PyProof.Rows.All
import Wide.All
import OpenK.AllK
import Wide.FinOn
import PySem.Challenge.RW_mj0136_01
open PySem PySem.W PyProof.Rows PySem.Calls
set_option Elab.async false
namespace Mine
set_option maxRecDepth 100000 in
set_option maxHeartbeats 8000000 in
open_top hd for PySem.Challenge.rw_mj0136_01

/-- the surroundings of a call: nothing handled, so deep, these frames -/
abbrev Ar (dp un : Nat) (outer : List Env) : Around := { handled := none, depth := dp, frames := some outer, guards := some [], units := un }

theorem codeAny_le {M : Model} {dp un dp' un' : Nat} {outer : List Env} {c : Code} {R : Result → Shared → Prop} {s : Shared}
    (h : codeAny M (Ar dp' un' outer) c R s) (hdp : dp ≤ dp') (hun : un ≤ un') : codeAny M (Ar dp un outer) c R s :=
  fun Γ p hc hΓ => h Γ p hc ⟨hΓ.1, Nat.le_trans hΓ.2.1 hdp, hΓ.2.2.1, hΓ.2.2.2.1, Nat.le_trans hΓ.2.2.2.2 hun⟩

/-- what stood stays -/
abbrev Kp (h h' : Heap) : Prop := ∀ b o, h.get? b = some o → h'.get? b = some o


/-- a def of the text, called where nothing of the caller's is turned -/
def Ctr (w : World) (p : Program) (loose : List Str) (mean : ExcName → Option Value) (mg mb : Str → Option Value) (dp un : Nat) (f : Addr) (args : List Value) (Pre : Heap → Prop) (Post : Heap → Heap → Value → Prop) : Prop :=
  ∀ (outer : List Env) (A₀ : Around) (base : Heap) (s : Shared) (R : Result → Shared → Prop), Below A₀ base outer s.heap → (hd.heap_39 w.params).In s.heap → Top p loose mean mg mb s.heap → Pre s.heap →
    (∀ r h' tk', Kp s.heap h' → Post s.heap h' r → R (.ok (.ret r)) { s with heap := h', toks := tk' }) →
    codeAny (model PySem.Challenge.rw_mj0136_01.row.prog w) (Ar dp un outer) (.call (.ref f) ⟨args, []⟩) R s

section
variable {w : World} {p : Program} {loose : List Str} {mean : ExcName → Option Value} {mg mb : Str → Option Value} {dp un : Nat} {f : Addr} {args : List Value} {Pre : Heap → Prop} {Post : Heap → Heap → Value → Prop}

theorem below_push {A₀ : Around} {base h₀ h : Heap} {outer : List Env} {L : Addr} {m : Str → Option Value} {env : Env} {dp un : Nat}
    (B : Below A₀ base outer h₀) (F : Fr h₀ L h m) (hf : env.frame = some L) (hk : env.scope.kind = .function) : Below (Ar dp un (env :: outer)) base (env :: outer) h :=
  ⟨rfl, (pushX B F hf hk).stays, (pushX B F hf hk).frames⟩

/-- a contract used at a call -/
theorem Ctr.use {dp' un' : Nat} {outer : List Env} {A₀ : Around} {base h₀ : Heap} {L : Addr} {m : Str → Option Value} {env : Env} {s : Shared} {news : List (Addr × Obj)} {Q E : Value → Shared → Prop}
    (C : Ctr w p loose mean mg mb dp' un' f args Pre Post) (hdp : dp ≤ dp') (hun : un ≤ un')
    (B : Below A₀ base outer h₀) (F : Fr h₀ L s.heap m) (X : (hd.heap_39 w.params).In h₀) (N : News h₀ L s.heap news) (T : Top p loose mean mg mb h₀) (hf : env.frame = some L) (hk : env.scope.kind = .function)
    (hpre : Pre s.heap)
    (ret : ∀ r h' tk', Kp s.heap h' → Post s.heap h' r → Fr h₀ L h' m → News h₀ L h' news → Q r { s with heap := h', toks := tk' }) :
    wpAny (model PySem.Challenge.rw_mj0136_01.row.prog w) (Ar dp un (env :: outer)) (call (.ref f) args) Q E s := by
  refine wpAny_call (codeAny_le (C (env :: outer) (Ar dp un (env :: outer)) base s _ (below_push B F hf hk) (X.keeps F.keep) (T.keeps F.keep) hpre ?_) hdp hun)
  intro r h' tk' hk' hp'
  exact ret r h' tk' hk' hp' (F.after hk') (fun q hq => ⟨hk' _ _ (N q hq).1, (N q hq).2⟩)
end

section
variable {w : World} {p : Program} {loose : List Str} {mean : ExcName → Option Value} {mg mb : Str → Option Value} {dp un : Nat}
  {R : Result → Shared → Prop} {s : Shared} {outer : List Env} {K : Frag}
  {name qual : Str} {params : Arguments} {body : List Stmt} {scope : Scope} {dV kV doc pm cdv ct oc : Value} {an od : Option Addr} {osl : Array (Option Value)} {f : Addr} {args : Args} {binds : List (Str × Value)}

theorem enter (X : K.In s.heap) (T : Top p loose mean mg mb s.heap)
    (ho : K.lookup f = some ⟨oc, od, .func (fnOf name qual params body scope dV kV doc pm an cdv ct), osl⟩) (hcd : codeIn K cdv qual = true) (hroom : dp < recursionLimit)
    (hbind : BindsTo s (fnOf name qual params body scope dV kV doc pm an cdv ct) args binds) (hloc : ∀ y ∈ binds, scope.names.lookup y.1 = some .local)
    (h : ∀ L' h₁, Fr s.heap L' h₁ (fun y => binds.reverse.lookup y) → News s.heap L' h₁ [] →
      wpAny (model PySem.Challenge.rw_mj0136_01.row.prog w) (Ar (dp + 1) (un + 3) (envOf qual scope L' f cdv :: outer)) (execs body (envOf qual scope L' f cdv))
        (fun fl s' => R (.ok (.ret (match fl with | .ret v => v | _ => .none))) s')
        (fun _ _ => False)
        { s with heap := h₁, toks := s.toks + binds.length })
    (hcell : ∀ x ∈ scope.names, x.2 ≠ .cell) (hco : scope.isCoroutine = false) (hgen : scope.isGenerator = false) (hk : scope.kind = .function) :
    codeAny (model PySem.Challenge.rw_mj0136_01.row.prog w) (Ar dp un outer) (.call (.ref f) args) R s :=
  codeAny_call_def (fd := fnOf name qual params body scope dV kV doc pm an cdv ct) (body := body) (binds := binds) hroom (X _ _ ho) rfl T.nolimit (codeRec_of X hcd) rfl hbind hcell hloc
    (fun h₁ hns hk₁ => wpAny_mono (h s.heap.objs.size h₁ ⟨hns, hk₁, Nat.le_refl _⟩ News.nil) (fun _ _ x => x) (fun _ _ x => x.elim)) hco hgen hk

theorem enterC (X : K.In s.heap) (T : Top p loose mean mg mb s.heap)
    (ho : K.lookup f = some ⟨oc, od, .func (fnOf name qual params body scope dV kV doc pm an cdv ct), osl⟩) (hcd : codeIn K cdv qual = true) (hroom : dp < recursionLimit)
    (hbind : BindsTo s (fnOf name qual params body scope dV kV doc pm an cdv ct) args binds)
    (hkind : (binds.all fun y => scope.names.lookup y.1 == some .local || scope.names.lookup y.1 == some .cell) = true)
    (hnd : ((cellsFrom 0 scope.names []).map (·.1)).Nodup)
    (h : ∀ L' h₁ tk cells, Fr s.heap L' h₁ (bindL (envOfC qual scope L' f cdv).kindOf binds fun _ => none) → News s.heap L' h₁ cells →
      CellsAre (bindC (envOfC qual scope L' f cdv).kindOf binds fun _ => none) (cellsFrom (L' + 1) scope.names []) cells →
      wpAny (model PySem.Challenge.rw_mj0136_01.row.prog w) (Ar (dp + 1) (un + 3) (envOfC qual scope L' f cdv :: outer)) (execs body (envOfC qual scope L' f cdv))
        (fun fl s' => R (.ok (.ret (match fl with | .ret v => v | _ => .none))) s')
        (fun _ _ => False)
        { s with heap := h₁, toks := tk })
    (hco : scope.isCoroutine = false) (hgen : scope.isGenerator = false) (hk : scope.kind = .function) :
    codeAny (model PySem.Challenge.rw_mj0136_01.row.prog w) (Ar dp un outer) (.call (.ref f) args) R s := by
  refine codeAny_call_function hroom (X _ _ ho) rfl hco hgen rfl (codeRec_of X hcd) (hbind _ _ _ _ ?_)
  refine wpAny_newFunctionEnv_cells hk (kindsX hkind _) fun env' he s' x => ?_
  subst he
  refine ⟨T.nolimit.keeps x.toInCall.keep, codeAny_func ?_⟩
  obtain ⟨h₁, tk, rfl, _⟩ := x.done
  obtain ⟨cells, NC, Y⟩ := Cl.news (h₀ := s.heap) (Nat.le_refl _) fun n c hm => ⟨x.cell n c (lookup_of_mem_nodup (cellsFrom_names scope.names 0 (s.heap.objs.size + 1) [] [] rfl ▸ hnd) hm), x.above n c hm⟩
  exact wpAny_mono (h _ h₁ tk cells ⟨x.toInCall.ns, x.toInCall.keep, Nat.le_refl _⟩ NC Y) (fun _ _ x => x) (fun _ _ x => x.elim)

theorem execs_one {M : Model} {A : Around} {st : Stmt} {env : Env} {Q : Flow → Shared → Prop} {E : Value → Shared → Prop} (h : wpAny M A (exec st env) Q E s) : wpAny M A (execs [st] env) Q E s := by
  refine wpAny_execs_cons (wpAny_mono h (fun f s' hq => ?_) fun _ _ x => x)
  cases f with
  | next => exact wpAny_execs_nil hq
  | _ => exact hq
theorem passesNo {M : Model} {A : Around} {env : Env} : PassesOwn M A env (fun _ _ => False) := fun _ _ h => h.elim
end
def dgB (c : Nat) : Bool := decide (48 ≤ c) && decide (c ≤ 57)
def upB (c : Nat) : Bool := decide (65 ≤ c) && decide (c ≤ 90)
def loB (c : Nat) : Bool := decide (97 ≤ c) && decide (c ≤ 122)
def alB (c : Nat) : Bool := upB c || loB c
def anB (c : Nat) : Bool := alB c || dgB c
def spB (c : Nat) : Bool := c == 9 || c == 10 || c == 11 || c == 12 || c == 13 || c == 32
section
set_option maxRecDepth 100000 in
set_option maxHeartbeats 8000000 in
theorem ctoi {w : World} {p : Program} {loose : List Str} {mean : ExcName → Option Value} {mg mb : Str → Option Value} (c : Nat) (tk : Tok) :
    Ctr w p loose mean mg mb 800 600 45 [.str ⟨#[c]⟩ tk] (fun _ => True) (fun _ _ r => ∃ t, r = .int c t) := by
  w_on
  intro outer A₀ base s R B X T _ hret
  k_dflt (refine' enter (binds := [(Str.ofString "c", .str ⟨#[c]⟩ tk)]) ?k1 ?k2 ?k3 ?k4 ?k5 ?k6 ?k7 ?_ ?c1 ?c2 ?c3 ?c4; (case k1 => k_asm); (case k2 => k_asm); (case k3 => k_is); (case k4 => k_is); (case k5 => decide); (case k6 => exact BindsTo.of_eq rfl); (case k7 => exact locs rfl); (case c1 => decide); (case c2 => rfl); (case c3 => rfl); (case c4 => rfl); k_whole)
  intro L' h' F' N'
  (try dsimp only)
  k_steps
  all_goals exact hret _ _ _ (Fr.keep (by assumption)) ⟨_, rfl⟩
local macro_rules | `(tactic| walk_at "call ref") => `(tactic| (k_here; (with_reducible show wpAny _ _ (call (Value.ref 45) [Value.str _ _]) _ _ _); k_dflt (refine' Ctr.use (ctoi _ _) ?kd ?ku ?kB ?kF ?kX ?kN ?kT ?kf ?kk ?kp ?_; (case kd => decide); (case ku => decide); (case kB => k_asm); (case kF => k_asm); (case kX => k_asm); (case kN => k_asm); (case kT => k_asm); (case kf => rfl); (case kk => rfl); (case kp => trivial); k_whole); (intro r' h' tk' hK' hP' F' N'; (obtain ⟨t', e'⟩ := hP'; subst e'); (try dsimp only at hK'); (try dsimp only)); (try k_sweep)))
set_option maxRecDepth 100000 in
set_option maxHeartbeats 8000000 in
theorem py_isdigit {w : World} {p : Program} {loose : List Str} {mean : ExcName → Option Value} {mg mb : Str → Option Value} (c : Nat) (tk : Tok) :
    Ctr w p loose mean mg mb 700 500 66 [.str ⟨#[c]⟩ tk] (fun _ => True) (fun _ _ r => r = .bool (dgB c)) := by
  w_on
  intro outer A₀ base s R B X T _ hret
  k_dflt (refine' enter (binds := [(Str.ofString "c", .str ⟨#[c]⟩ tk)]) ?k1 ?k2 ?k3 ?k4 ?k5 ?k6 ?k7 ?_ ?c1 ?c2 ?c3 ?c4; (case k1 => k_asm); (case k2 => k_asm); (case k3 => k_is); (case k4 => k_is); (case k5 => decide); (case k6 => exact BindsTo.of_eq rfl); (case k7 => exact locs rfl); (case c1 => decide); (case c2 => rfl); (case c3 => rfl); (case c4 => rfl); k_whole)
  intro L' h' F' N'
  (try dsimp only)
  k_steps
  all_goals exact hret _ _ _ (Fr.keep (by assumption)) (by unfold dgB; simp only [Value.bool.injEq]; rw [Bool.eq_iff_iff]; simp only [Bool.and_eq_true, decide_eq_true_eq]; omega)
local macro_rules | `(tactic| walk_at "call ref") => `(tactic| (k_here; (with_reducible show wpAny _ _ (call (Value.ref 66) [Value.str _ _]) _ _ _); k_dflt (refine' Ctr.use (py_isdigit _ _) ?kd ?ku ?kB ?kF ?kX ?kN ?kT ?kf ?kk ?kp ?_; (case kd => decide); (case ku => decide); (case kB => k_asm); (case kF => k_asm); (case kX => k_asm); (case kN => k_asm); (case kT => k_asm); (case kf => rfl); (case kk => rfl); (case kp => trivial); k_whole); (intro r' h' tk' hK' hP' F' N'; subst hP'; (try dsimp only at hK'); (try dsimp only)); (try k_sweep)))
set_option maxRecDepth 100000 in
set_option maxHeartbeats 8000000 in
theorem py_isupper {w : World} {p : Program} {loose : List Str} {mean : ExcName → Option Value} {mg mb : Str → Option Value} (c : Nat) (tk : Tok) :
    Ctr w p loose mean mg mb 700 500 87 [.str ⟨#[c]⟩ tk] (fun _ => True) (fun _ _ r => r = .bool (upB c)) := by
  w_on
  intro outer A₀ base s R B X T _ hret
  k_dflt (refine' enter (binds := [(Str.ofString "c", .str ⟨#[c]⟩ tk)]) ?k1 ?k2 ?k3 ?k4 ?k5 ?k6 ?k7 ?_ ?c1 ?c2 ?c3 ?c4; (case k1 => k_asm); (case k2 => k_asm); (case k3 => k_is); (case k4 => k_is); (case k5 => decide); (case k6 => exact BindsTo.of_eq rfl); (case k7 => exact locs rfl); (case c1 => decide); (case c2 => rfl); (case c3 => rfl); (case c4 => rfl); k_whole)
  intro L' h' F' N'
  (try dsimp only)
  k_steps
  all_goals exact hret _ _ _ (Fr.keep (by assumption)) (by unfold upB; simp only [Value.bool.injEq]; rw [Bool.eq_iff_iff]; simp only [Bool.and_eq_true, decide_eq_true_eq]; omega)
local macro_rules | `(tactic| walk_at "call ref") => `(tactic| (k_here; (with_reducible show wpAny _ _ (call (Value.ref 87) [Value.str _ _]) _ _ _); k_dflt (refine' Ctr.use (py_isupper _ _) ?kd ?ku ?kB ?kF ?kX ?kN ?kT ?kf ?kk ?kp ?_; (case kd => decide); (case ku => decide); (case kB => k_asm); (case kF => k_asm); (case kX => k_asm); (case kN => k_asm); (case kT => k_asm); (case kf => rfl); (case kk => rfl); (case kp => trivial); k_whole); (intro r' h' tk' hK' hP' F' N'; subst hP'; (try dsimp only at hK'); (try dsimp only)); (try k_sweep)))
set_option maxRecDepth 100000 in
set_option maxHeartbeats 8000000 in
theorem py_islower {w : World} {p : Program} {loose : List Str} {mean : ExcName → Option Value} {mg mb : Str → Option Value} (c : Nat) (tk : Tok) :
    Ctr w p loose mean mg mb 700 500 73 [.str ⟨#[c]⟩ tk] (fun _ => True) (fun _ _ r => r = .bool (loB c)) := by
  w_on
  intro outer A₀ base s R B X T _ hret
  k_dflt (refine' enter (binds := [(Str.ofString "c", .str ⟨#[c]⟩ tk)]) ?k1 ?k2 ?k3 ?k4 ?k5 ?k6 ?k7 ?_ ?c1 ?c2 ?c3 ?c4; (case k1 => k_asm); (case k2 => k_asm); (case k3 => k_is); (case k4 => k_is); (case k5 => decide); (case k6 => exact BindsTo.of_eq rfl); (case k7 => exact locs rfl); (case c1 => decide); (case c2 => rfl); (case c3 => rfl); (case c4 => rfl); k_whole)
  intro L' h' F' N'
  (try dsimp only)
  k_steps
  all_goals exact hret _ _ _ (Fr.keep (by assumption)) (by unfold loB; simp only [Value.bool.injEq]; rw [Bool.eq_iff_iff]; simp only [Bool.and_eq_true, decide_eq_true_eq]; omega)
local macro_rules | `(tactic| walk_at "call ref") => `(tactic| (k_here; (with_reducible show wpAny _ _ (call (Value.ref 73) [Value.str _ _]) _ _ _); k_dflt (refine' Ctr.use (py_islower _ _) ?kd ?ku ?kB ?kF ?kX ?kN ?kT ?kf ?kk ?kp ?_; (case kd => decide); (case ku => decide); (case kB => k_asm); (case kF => k_asm); (case kX => k_asm); (case kN => k_asm); (case kT => k_asm); (case kf => rfl); (case kk => rfl); (case kp => trivial); k_whole); (intro r' h' tk' hK' hP' F' N'; subst hP'; (try dsimp only at hK'); (try dsimp only)); (try k_sweep)))
set_option maxRecDepth 100000 in
set_option maxHeartbeats 8000000 in
theorem py_isalpha {w : World} {p : Program} {loose : List Str} {mean : ExcName → Option Value} {mg mb : Str → Option Value} (c : Nat) (tk : Tok) :
    Ctr w p loose mean mg mb 600 400 59 [.str ⟨#[c]⟩ tk] (fun _ => True) (fun _ _ r => r = .bool (alB c)) := by
  w_on
  intro outer A₀ base s R B X T _ hret
  k_dflt (refine' enter (binds := [(Str.ofString "c", .str ⟨#[c]⟩ tk)]) ?k1 ?k2 ?k3 ?k4 ?k5 ?k6 ?k7 ?_ ?c1 ?c2 ?c3 ?c4; (case k1 => k_asm); (case k2 => k_asm); (case k3 => k_is); (case k4 => k_is); (case k5 => decide); (case k6 => exact BindsTo.of_eq rfl); (case k7 => exact locs rfl); (case c1 => decide); (case c2 => rfl); (case c3 => rfl); (case c4 => rfl); k_whole)
  intro L' h' F' N'
  (try dsimp only)
  k_steps
  all_goals exact hret _ _ _ (Fr.keep (by assumption)) (by unfold alB; simp_all)
local macro_rules | `(tactic| walk_at "call ref") => `(tactic| (k_here; (with_reducible show wpAny _ _ (call (Value.ref 59) [Value.str _ _]) _ _ _); k_dflt (refine' Ctr.use (py_isalpha _ _) ?kd ?ku ?kB ?kF ?kX ?kN ?kT ?kf ?kk ?kp ?_; (case kd => decide); (case ku => decide); (case kB => k_asm); (case kF => k_asm); (case kX => k_asm); (case kN => k_asm); (case kT => k_asm); (case kf => rfl); (case kk => rfl); (case kp => trivial); k_whole); (intro r' h' tk' hK' hP' F' N'; subst hP'; (try dsimp only at hK'); (try dsimp only)); (try k_sweep)))
set_option maxRecDepth 100000 in
set_option maxHeartbeats 8000000 in
theorem py_isalnum {w : World} {p : Program} {loose : List Str} {mean : ExcName → Option Value} {mg mb : Str → Option Value} (c : Nat) (tk : Tok) :
    Ctr w p loose mean mg mb 500 300 52 [.str ⟨#[c]⟩ tk] (fun _ => True) (fun _ _ r => r = .bool (anB c)) := by
  w_on
  intro outer A₀ base s R B X T _ hret
  k_dflt (refine' enter (binds := [(Str.ofString "c", .str ⟨#[c]⟩ tk)]) ?k1 ?k2 ?k3 ?k4 ?k5 ?k6 ?k7 ?_ ?c1 ?c2 ?c3 ?c4; (case k1 => k_asm); (case k2 => k_asm); (case k3 => k_is); (case k4 => k_is); (case k5 => decide); (case k6 => exact BindsTo.of_eq rfl); (case k7 => exact locs rfl); (case c1 => decide); (case c2 => rfl); (case c3 => rfl); (case c4 => rfl); k_whole)
  intro L' h' F' N'
  (try dsimp only)
  k_steps
  all_goals exact hret _ _ _ (Fr.keep (by assumption)) (by unfold anB; simp_all)
set_option maxRecDepth 100000 in
set_option maxHeartbeats 8000000 in
theorem py_isspace {w : World} {p : Program} {loose : List Str} {mean : ExcName → Option Value} {mg mb : Str → Option Value} (c : Nat) (tk : Tok) :
    Ctr w p loose mean mg mb 500 300 80 [.str ⟨#[c]⟩ tk] (fun _ => True) (fun _ _ r => r = .bool (spB c)) := by
  w_on
  intro outer A₀ base s R B X T _ hret
  k_dflt (refine' enter (binds := [(Str.ofString "c", .str ⟨#[c]⟩ tk)]) ?k1 ?k2 ?k3 ?k4 ?k5 ?k6 ?k7 ?_ ?c1 ?c2 ?c3 ?c4; (case k1 => k_asm); (case k2 => k_asm); (case k3 => k_is); (case k4 => k_is); (case k5 => decide); (case k6 => exact BindsTo.of_eq rfl); (case k7 => exact locs rfl); (case c1 => decide); (case c2 => rfl); (case c3 => rfl); (case c4 => rfl); k_whole)
  intro L' h' F' N'
  (try dsimp only)
  k_steps
  all_goals exact hret _ _ _ (Fr.keep (by assumption)) (by clear hret; simp only [Value.bool.injEq]; rw [Bool.eq_iff_iff]; simp [spB]; omega)
end
/-- a text out of its signs -/
def mkS (l : List Nat) : Str := ⟨l.toArray⟩
theorem mkS_length (l : List Nat) : (mkS l).length = l.length := by simp [mkS, Str.length]
/-- the forty-eight operators, by their signs -/
def told : List (List Nat) := [[40], [41], [91], [93], [58], [44], [59], [43], [45], [42], [47], [124], [38], [60], [62], [61], [46], [37], [123], [125], [61, 61], [33, 61], [60, 61], [62, 61], [126], [94], [60, 60], [62, 62], [42, 42], [43, 61], [45, 61], [42, 61], [47, 61], [37, 61], [38, 61], [124, 61], [94, 61], [60, 60, 61], [62, 62, 61], [42, 42, 61], [47, 47], [47, 47, 61], [64], [64, 61], [45, 62], [46, 46, 46], [58, 61], [33]]
theorem told_len : told.length = 48 := by decide
theorem pick_upto (items : Array Value) (k : Nat) : slicePick items none (some (k : Int)) none = (items.toList.take k).toArray := by
  have e : sliceBounds none (some (k : Int)) none items.size = (((0 : Nat) : Int), ((min k items.size : Nat) : Int), 1) := by
    simp only [sliceBounds, Option.getD_none, show (1 : Int) > 0 by decide, if_true, if_neg (show ¬ ((k : Int) < 0) by omega)]
    congr 1
    congr 1
    omega
  rw [kmk_pick_nat _ e]
  simp only [List.drop_zero, Nat.sub_zero]
  rw [← Array.length_toList, kmk_take_min]
theorem pick_from (items : Array Value) (k : Nat) : slicePick items (some (k : Int)) none none = (items.toList.drop k).toArray := by
  have e : sliceBounds (some (k : Int)) none none items.size = (((min k items.size : Nat) : Int), ((items.size : Nat) : Int), 1) := by
    simp only [sliceBounds, Option.getD_none, show (1 : Int) > 0 by decide, if_true, if_neg (show ¬ ((k : Int) < 0) by omega)]
    congr 1
    omega
  rw [kmk_pick_nat _ e, ← Array.length_toList, kmk_drop_min, List.take_of_length_le (by rw [List.length_drop]; omega)]
/-- a word: its kind and its signs -/
abbrev Wd := Int × List Nat
def ownN : List Int := [13, 13, 15, 16, 16, 16, 48, 54, 9, 9, 15, 8]
def numAt (ns : List Int) (j : Nat) : Int := (pickNums ns (some (j : Int)) none (some 12)).sum + ownN.getD j 0
def names3 : List (List Nat) := [[97], [66, 50], [122, 120]]
def digs (k : Int) : List Nat := (Str.ofString (toString k)).cps.toList
theorem told_get (k : Nat) : (told.map mkS).getD k Str.empty = mkS (told.getD k []) := by
  simp only [List.getD_eq_getElem?_getD, List.getElem?_map]
  cases told[k]? <;> rfl
theorem names_get (k : Nat) : [Str.ofString "a", Str.ofString "B2", Str.ofString "zx"].getD k Str.empty = mkS (names3.getD k []) := by
  rw [show [Str.ofString "a", Str.ofString "B2", Str.ofString "zx"] = names3.map mkS by decide +kernel]
  simp only [List.getD_eq_getElem?_getD, List.getElem?_map]
  cases names3[k]? <;> rfl
def wordOf (n : Int) : Wd := if n.fmod 60 < 48 then (n.fmod 60 + 7, told.getD (n.fmod 60).toNat []) else if n.fmod 60 < 54 then (1, names3.getD ((n.fdiv 60).fmod 3).toNat []) else (2, digs ((n.fdiv 60).fmod 1000))
def words (ns : List Int) : List Wd := (List.range 12).map fun j => wordOf (numAt ns j)
theorem fmod_bd (n : Int) (k : Int) (hk : 0 < k) : 0 ≤ n.fmod k ∧ n.fmod k < k := by
  rw [Int.fmod_eq_emod_of_nonneg _ (Int.le_of_lt hk)]
  exact ⟨Int.emod_nonneg _ (by omega), Int.emod_lt_of_pos _ hk⟩
/-- a tuple of a kind and a text -/
abbrev tupOf (k : Int) (t : Tok) (x : Str) (u : Tok) : Obj := { cls := .type "tuple", data := .seq #[.int k t, .str x u] }
inductive RowsIn (news : List (Addr × Obj)) : List Value → List Wd → Prop
  | nil : RowsIn news [] []
  | cons {T : Addr} {k : Int} {t u : Tok} {x : List Nat} {vs : List Value} {ws : List Wd} : (T, tupOf k t (mkS x) u) ∈ news → RowsIn news vs ws → RowsIn news (.ref T :: vs) ((k, x) :: ws)
theorem RowsIn.mono {news news' : List (Addr × Obj)} (h : ∀ q ∈ news, q ∈ news') : ∀ {vs : List Value} {ws : List Wd}, RowsIn news vs ws → RowsIn news' vs ws
  | _, _, .nil => .nil
  | _, _, .cons hm r => .cons (h _ hm) (RowsIn.mono h r)
theorem RowsIn.snoc {news : List (Addr × Obj)} {T : Addr} {k : Int} {t u : Tok} {x : List Nat} (hm : (T, tupOf k t (mkS x) u) ∈ news) : ∀ {vs : List Value} {ws : List Wd}, RowsIn news vs ws → RowsIn news (vs ++ [.ref T]) (ws ++ [(k, x)])
  | _, _, .nil => .cons hm .nil
  | _, _, .cons hm' r => .cons hm' (RowsIn.snoc hm r)
theorem RowsIn.length {news : List (Addr × Obj)} : ∀ {vs : List Value} {ws : List Wd}, RowsIn news vs ws → vs.length = ws.length
  | _, _, .nil => rfl
  | _, _, .cons _ r => by rw [List.length_cons, List.length_cons, RowsIn.length r]
/-- a heap bears the words at these places -/
inductive RowsAt (h : Heap) : List Value → List Wd → Prop
  | nil : RowsAt h [] []
  | cons {T : Addr} {k : Int} {t u : Tok} {x : List Nat} {vs : List Value} {ws : List Wd} : h.get? T = some (tupOf k t (mkS x) u) → RowsAt h vs ws → RowsAt h (.ref T :: vs) ((k, x) :: ws)
theorem RowsAt.keeps {h h' : Heap} (hk : Kp h h') : ∀ {vs : List Value} {ws : List Wd}, RowsAt h vs ws → RowsAt h' vs ws
  | _, _, .nil => .nil
  | _, _, .cons hm r => .cons (hk _ _ hm) (RowsAt.keeps hk r)
theorem RowsIn.at {h₀ h : Heap} {L : Addr} {news : List (Addr × Obj)} (N : News h₀ L h news) : ∀ {vs : List Value} {ws : List Wd}, RowsIn news vs ws → RowsAt h vs ws
  | _, _, .nil => .nil
  | _, _, .cons hm r => .cons (N _ hm).1 (RowsIn.at N r)
/-- a heap bears the words at these places, and an elder heap bore none of them -/
def RowsNew (h h' : Heap) (vs : List Value) (ws : List Wd) : Prop := ∃ tl, RowsIn tl vs ws ∧ ∀ q ∈ tl, h'.get? q.1 = some q.2 ∧ h.get? q.1 = none
theorem RowsIn.new {h₀ h : Heap} {L : Addr} {news : List (Addr × Obj)} (N : News h₀ L h news) {vs : List Value} {ws : List Wd} (r : RowsIn news vs ws) : RowsNew h₀ h vs ws := ⟨news, r, fun q hq => ⟨(N q hq).1, (N q hq).2.2⟩⟩
theorem RowsNew.at {h h' : Heap} : ∀ {vs : List Value} {ws : List Wd}, RowsNew h h' vs ws → RowsAt h' vs ws := by
  rintro vs ws ⟨tl, r, hq⟩
  induction r with
  | nil => exact .nil
  | cons hm _ ih => exact .cons (hq _ hm).1 ih
theorem RowsAt.length {h : Heap} : ∀ {vs : List Value} {ws : List Wd}, RowsAt h vs ws → vs.length = ws.length
  | _, _, .nil => rfl
  | _, _, .cons _ r => by rw [List.length_cons, List.length_cons, RowsAt.length r]

section
variable {prog : Program} {w : World} {A : Around} {E : Value → Shared → Prop} {s : Shared} {h₀ : Heap} {L l : Addr} {m : Str → Option Value} {news : List (Addr × Obj)} {value slice : PySem.Expr} {vs : List Value} {ns : List Int} {xs : List Str} {Q : Value → Shared → Prop}
theorem slice3_ints {vl vu vk : Value} {lo hi st : Option Int} {ops : List Value} (F : Fr h₀ L s.heap m) (N : News h₀ L s.heap news) (hl : s.heap.IsList l vs.toArray) (pl : IsPart vl lo) (pu : IsPart vu hi) (pk : IsPart vk st) (h0 : st ≠ some 0) (hi' : IntsAre vs ns)
    (h : ∀ D ws h', Fr h₀ L h' m → News h₀ L h' ((D, W.listOf (List.toArray ws) 0) :: news) → (∀ p ∈ news, p.1 < D) → IntsAre ws (pickNums ns lo hi st) → Q (.ref D) { s with heap := h' })
    (hs : subscripted slice false (.ref l) (.ref s.heap.objs.size) = operate ops (getItem (.ref l) (.ref s.heap.objs.size))) (ht : ∀ r, letTemporaryGo value (.ref l) r = pure ()) (hz : vs.toArray.size ≤ sizeLine) :
    wpAny (model prog w) A (subscriptTail value slice (.ref l) (.ref s.heap.objs.size)) Q E { s with heap := s.heap.push { cls := .type "slice", data := .fields #[vl, vu, vk] } } := by
  refine kmk_slice3_lit F N hl pl pu pk h0 rfl (fun D h' F' N' l1 => h D (slicePick vs.toArray lo hi st).toList h' F' N' l1 (hi'.pick lo hi st)) hs ht hz
theorem item_strs {k : Int} {u : Tok} (hl : s.heap.IsList l vs.toArray) (hS : StrsAre vs xs) (h0 : 0 ≤ k) (h1 : k < (xs.length : Int)) (hb : xs.length < 2 ^ 62)
    (h : ∀ t, Q (.str (xs.getD k.toNat Str.empty) t) s)
    (hs : subscripted slice false (.ref l) (.int k u) = operate [.ref l, .int k u] (getItem (.ref l) (.int k u))) :
    wpAny (model prog w) A (subscriptTail value slice (.ref l) (.int k u)) Q E s := by
  have hk : k.toNat < xs.length := by omega
  obtain ⟨t, hv⟩ := hS.get k.toNat xs[k.toNat] (by simp [hk])
  have e : xs.getD k.toNat Str.empty = xs[k.toNat] := by simp [hk]
  exact tail_any hl.typeIs list_getitem_lookup (wpAny_getItem_list hl h0 (by omega) (by simpa using hv) (e ▸ h t)) hs
theorem item_intsT {k : Int} {u : Tok} {ys : List Int} (hl : IsTup s.heap l vs.toArray) (hS : IntsAre vs ys) (h0 : 0 ≤ k) (h1 : k < (ys.length : Int)) (hb : ys.length < 2 ^ 62)
    (h : ∀ t, Q (.int (ys.getD k.toNat 0) t) s)
    (hs : subscripted slice false (.ref l) (.int k u) = operate [.ref l, .int k u] (getItem (.ref l) (.int k u))) :
    wpAny (model prog w) A (subscriptTail value slice (.ref l) (.int k u)) Q E s := by
  have hk : k.toNat < ys.length := by omega
  obtain ⟨t, hv⟩ := hS.get k.toNat ys[k.toNat] (by simp [hk])
  have e : ys.getD k.toNat 0 = ys[k.toNat] := by simp [hk]
  have hj : seqIndex? k vs.length = some k.toNat := by
    rw [hS.length]
    simp [seqIndex?, h0, h1, show ¬ (k < 0) by omega]
  exact tail_any hl.typeIs slot_tuple_getitem.lookup (getItem_tuple hl (by omega) (by omega) (by simpa using hj) (by simpa using hv) (e ▸ h t)) hs
theorem item_strsT {k : Int} {u : Tok} (hl : IsTup s.heap l vs.toArray) (hS : StrsAre vs xs) (h0 : 0 ≤ k) (h1 : k < (xs.length : Int)) (hb : xs.length < 2 ^ 62)
    (h : ∀ t, Q (.str (xs.getD k.toNat Str.empty) t) s)
    (hs : subscripted slice false (.ref l) (.int k u) = operate [.ref l, .int k u] (getItem (.ref l) (.int k u))) :
    wpAny (model prog w) A (subscriptTail value slice (.ref l) (.int k u)) Q E s := by
  have hk : k.toNat < xs.length := by omega
  obtain ⟨t, hv⟩ := hS.get k.toNat xs[k.toNat] (by simp [hk])
  have e : xs.getD k.toNat Str.empty = xs[k.toNat] := by simp [hk]
  have hj : seqIndex? k vs.length = some k.toNat := by
    rw [hS.length]
    simp [seqIndex?, h0, h1, show ¬ (k < 0) by omega]
  exact tail_any hl.typeIs slot_tuple_getitem.lookup (getItem_tuple hl (by omega) (by omega) (by simpa using hj) (by simpa using hv) (e ▸ h t)) hs
theorem news_add {D : Addr} {o : Obj} {h h' : Heap} (F : Fr h₀ L h m) (N : News h₀ L h' news) (hg : h'.get? D = some o) (hn : h.get? D = none) : News h₀ L h' ((D, o) :: news) := by
  intro q hq
  rcases List.mem_cons.mp hq with rfl | hq
  · refine ⟨hg, ?_, ?_⟩
    · rintro rfl
      obtain ⟨_, _, _, hL, _⟩ := F.ns
      rw [hL] at hn; cases hn
    · cases e : h₀.get? D with
      | none => rfl
      | some o' => rw [F.keep _ _ e] at hn; cases hn
  · exact N q hq
theorem ne_add {D : Addr} {h : Heap} (N : News h₀ L h news) (hn : h.get? D = none) : ∀ q ∈ news, q.1 ≠ D := by
  rintro q hq rfl
  rw [(N q hq).1] at hn; cases hn
theorem row_append {D : Addr} {x : Value} {n : Nat} (F : Fr h₀ L s.heap m) (N : News h₀ L s.heap news) (hD : (D, W.listOf vs.toArray n) ∈ news) (hsz : vs.length ≤ 100000)
    (h : ∀ h', Fr h₀ L h' m → News h₀ L h' ((D, W.listOf (List.toArray (vs ++ [x])) (n + 1)) :: news.filter (fun q => decide (q.1 ≠ D))) → Q .none { s with heap := h' }) :
    wpAny (model prog w) A (call (.builtin "list.append") ([.ref D] ++ [x])) Q E s := by
  have z := N _ hD
  refine append_at (hsz := by simp only [List.size_toArray, sizeLine_eq]; omega) z.1 fun h' hs ho' => h h' (F.change hs z.2.1 z.2.2) ?_
  intro q hq
  rcases List.mem_cons.mp hq with rfl | hq
  · refine ⟨?_, z.2⟩
    rw [ho']; simp
  · have hq' := List.mem_filter.mp hq
    have hne : q.1 ≠ D := by simpa using hq'.2
    exact ⟨(hs.2 q.1 hne).trans (N q hq'.1).1, (N q hq'.1).2⟩
theorem AllLt.mem {d : Nat} : ∀ {l : List (Addr × Obj)}, AllLt d l → ∀ q ∈ l, q.1 < d
  | [], _, _, hq => nomatch hq
  | p :: r, h, q, hq => by
    rcases List.mem_cons.mp hq with rfl | hq
    · exact h.1
    · exact AllLt.mem h.2 q hq
/-- a turn that has put one more word upon the row -/
theorem words_end {D T : Addr} {k : Int} {t u : Tok} {x : List Nat} {rows : List Wd} {n : Nat} {tl own : List (Addr × Obj)} {y : Str} {stored : List Str} {m₀ m' : Str → Option Value} {P : List Int → (List Value × Nat × List Wd) → Prop} {pre : List Int} {h' : Heap} {s₁ : Shared} {tk : Nat}
    (hsep : KdSep own tl [D]) (hoff : OwnOff (tl ++ own) [D]) (hf : RowsIn ([] ++ tl) vs rows) (F : Fr h₀ L h' m') (N : News h₀ L h' ((D, W.listOf (List.toArray (vs ++ [.ref T])) (n + 1)) :: news.filter (fun q => decide (q.1 ≠ D))))
    (hT : (T, tupOf k t (mkS x) u) ∈ news) (hin : ∀ q ∈ tl ++ own, q ∈ news) (hTD : T ≠ D) (hTo : ∀ q ∈ own, q.1 ≠ T) (hm : ∀ z, z ≠ y → stored.contains z = false → m' z = m₀ z) (hp : P pre (vs ++ [.ref T], n + 1, rows ++ [(k, x)])) :
    InvEndG h₀ L (KdS (fun c : List Value × Nat × List Wd => [(D, W.listOf (List.toArray c.1) c.2.1)]) [] (fun _ => []) (fun tl c => RowsIn tl c.1 c.2.2) y stored m₀ P [D] pre) own s₁ { s₁ with heap := h', toks := tk } := by
  have inn : ∀ q ∈ tl ++ own, q ∈ (D, W.listOf (List.toArray (vs ++ [.ref T])) (n + 1)) :: news.filter (fun q => decide (q.1 ≠ D)) := fun q hq =>
    List.mem_cons.mpr (.inr (List.mem_filter.mpr ⟨hin q hq, by simpa using hoff q hq D (List.mem_singleton.mpr rfl)⟩))
  refine kd_end (vs ++ [.ref T], n + 1, rows ++ [(k, x)]) [(T, tupOf k t (mkS x) u)] hsep F N ?_ (fun q hq => inn q (List.mem_append.mpr (.inr hq))) rfl ?_ ?_ (by intro q hq; cases hq) (fun z h1 _ h3 => hm z h1 h3) ?_ hp
  · intro q hq
    simp only [List.cons_append, List.nil_append, List.mem_cons] at hq
    rcases hq with rfl | rfl | hq
    · exact List.mem_cons.mpr (.inl rfl)
    · exact List.mem_cons.mpr (.inr (List.mem_filter.mpr ⟨hT, by simpa using hTD⟩))
    · exact inn q (List.mem_append.mpr (.inl hq))
  · intro q hq b hb
    rw [List.mem_singleton.mp hq, List.mem_singleton.mp hb]
    exact Ne.symm hTD
  · intro q hq r hr
    rw [List.mem_singleton.mp hq]
    exact hTo r hr
  · refine RowsIn.snoc (List.mem_append.mpr (.inr (List.mem_append.mpr (.inl (List.mem_singleton.mpr rfl))))) (hf.mono fun q hq => ?_)
    simp only [List.nil_append] at hq ⊢
    exact List.mem_append.mpr (.inr hq)
end
section
local macro_rules | `(tactic| walk_at "subscriptTail Name Slice ref ref") => `(tactic| (k_here; (with_reducible show wpAny _ _ (subscriptTail _ (PySem.Expr.Slice _ _ none _) (Value.ref _) (Value.ref _)) _ _ _); k_dflt (refine' kmk_slice ?F ?N ?l ?p ?q ?_ ?s ?t ?z; (case F => k_asm); (case N => k_asm); (case l => kmk_list); (case p => kmk_part); (case q => kmk_part); (case s => with_unfolding_all rfl); (case t => kmk_pure); (case z => (first | exact Nat.le_of_ble_eq_true rfl | size_fits | (simp only [sizeLine_eq, List.size_toArray, Array.size_append, Array.length_toList, List.length_append, List.length_cons, List.length_nil] at *; omega)))); intro D' h' F' N' l1; (try k_lt l1); (try k_sweep)))
set_option maxRecDepth 100000 in
set_option maxHeartbeats 8000000 in
theorem py_told {w : World} {p : Program} {loose : List Str} {mean : ExcName → Option Value} {mg mb : Str → Option Value} :
    Ctr w p loose mean mg mb 500 300 94 [] (fun _ => True) (fun h h' r => ∃ D vs, r = .ref D ∧ h'.get? D = some (W.listOf (List.toArray vs) 0) ∧ h.get? D = none ∧ StrsAre vs (told.map mkS)) := by
  w_on
  intro outer A₀ base s R B X T _ hret
  k_dflt (refine' enter (binds := []) ?k1 ?k2 ?k3 ?k4 ?k5 ?k6 ?k7 ?_ ?c1 ?c2 ?c3 ?c4; (case k1 => k_asm); (case k2 => k_asm); (case k3 => k_is); (case k4 => k_is); (case k5 => decide); (case k6 => exact BindsTo.of_eq rfl); (case k7 => exact locs rfl); (case c1 => decide); (case c2 => rfl); (case c3 => rfl); (case c4 => rfl); k_whole)
  intro L' h' F' N'
  (try dsimp only)
  k_steps
  dsimp only at *
  rename List.map _ _ = Txt.split _ _ => e9
  rename StrsAre _ _ => S9
  rename Fr _ _ _ _ => F9
  rename News _ _ _ _ => N9
  have e8 := e9.trans (show _ = (told.take 46).map mkS ++ [mkS [58], mkS [33]] by decide +kernel)
  have hl := congrArg List.length e8
  simp only [List.length_map] at hl
  refine kmk_add_lit F9 N9 (News.isList N9 (by k_mem)) (News.isList N9 (by k_mem)) rfl ?_ ?_
  · intro D h' F' N' _
    refine hret _ _ _ F'.keep ⟨D, _, rfl, (N' _ (List.Mem.head _)).1, (N' _ (List.Mem.head _)).2.2, ?_⟩
    have e46 : (46 : Int) = ((46 : Nat) : Int) := rfl
    rw [e46, pick_upto]
    have q := StrsAre.take' S9 46
    rw [e8] at q
    refine (show ((told.take 46).map mkS ++ [mkS [58], mkS [33]]).take 46 ++ [Str.ofString ":=", Str.ofString "!"] = told.map mkS by decide +kernel) ▸ ?_
    exact q.append' (.cons _ _ (.cons _ _ .nil))
  · rw [show (46 : Int) = ((46 : Nat) : Int) from rfl, pick_upto]
    simp only [List.length_take, List.length_cons, List.length_nil, sizeLine_eq]
    omega
end
section
local macro_rules | `(tactic| walk_at "subscriptTail Name Slice ref ref") => `(tactic| (k_here; (with_reducible show wpAny _ _ (subscriptTail _ (PySem.Expr.Slice _ _ none _) (Value.ref _) (Value.ref _)) _ _ _); k_dflt (refine' kmk_slice ?F ?N ?l ?p ?q ?_ ?s ?t ?z; (case F => k_asm); (case N => k_asm); (case l => kmk_list); (case p => kmk_part); (case q => kmk_part); (case s => with_unfolding_all rfl); (case t => kmk_pure); (case z => (first | exact Nat.le_of_ble_eq_true rfl | size_fits | (simp only [sizeLine_eq, List.size_toArray, Array.size_append, Array.length_toList, List.length_append, List.length_cons, List.length_nil] at *; omega)))); intro D' h' F' N' l1; (try k_lt l1); (try k_sweep)))
local macro_rules | `(tactic| walk_at "subscriptTail Name Slice ref ref") => `(tactic| (k_here; (with_reducible show wpAny _ _ (subscriptTail _ (PySem.Expr.Slice _ _ (some _) _) (Value.ref _) (Value.ref _)) _ _ _); k_dflt (refine' slice3_ints ?F ?N ?l ?p ?q ?k ?o ?i ?_ ?s ?t ?z; (case F => k_asm); (case N => k_asm); (case l => kmk_list); (case p => kmk_part); (case q => kmk_part); (case k => kmk_part); (case o => decide); (case i => l_ints); (case s => with_unfolding_all rfl); (case t => kmk_pure); (case z => (first | exact Nat.le_of_ble_eq_true rfl | size_fits | (simp only [sizeLine_eq, List.size_toArray, Array.size_append, Array.length_toList, List.length_append, List.length_cons, List.length_nil] at *; omega)))); intro D' ws' h' F' N' l1 hI'; (try k_lt l1); (try k_sweep)))
local macro_rules | `(tactic| walk_at "subscriptTail Tuple cons Name ref int") => `(tactic| (k_here; (with_reducible show wpAny _ _ (subscriptTail _ _ (Value.ref _) (Value.int _ _)) _ _ _); k_dflt (refine' item_intsT ?l ?i ?a ?b ?c ?_ ?s; (case l => exact News.isTup (by k_asm) (by k_mem)); (case i => l_ints); (case a => omega); (case b => (simp only [List.length_cons, List.length_nil, List.length_map, told_len]; omega)); (case c => (simp only [List.length_cons, List.length_nil, List.length_map, told_len]; decide)); (case s => with_unfolding_all rfl)); intro t'))
set_option maxRecDepth 100000 in
set_option maxHeartbeats 8000000 in
theorem py_words {w : World} {p : Program} {loose : List Str} {mean : ExcName → Option Value} {mg mb : Str → Option Value} (a : Addr) (vs : List Value) (ns : List Int) :
    Ctr w p loose mean mg mb 400 200 101 [.ref a] (fun h => h.IsList a vs.toArray ∧ IntsAre vs ns ∧ ns.length ≤ 63) (fun h h' r => ∃ D vs' n, r = .ref D ∧ h'.get? D = some (W.listOf (List.toArray vs') n) ∧ h.get? D = none ∧ RowsNew h h' vs' (words ns)) := by
  w_on
  intro outer A₀ base s R B X T hpre hret
  obtain ⟨hL, hI, hlen⟩ := hpre
  k_dflt (refine' enter (binds := [(Str.ofString "numbers", .ref a)]) ?k1 ?k2 ?k3 ?k4 ?k5 ?k6 ?k7 ?_ ?c1 ?c2 ?c3 ?c4; (case k1 => k_asm); (case k2 => k_asm); (case k3 => k_is); (case k4 => k_is); (case k5 => decide); (case k6 => exact BindsTo.of_eq rfl); (case k7 => exact locs rfl); (case c1 => decide); (case c2 => rfl); (case c3 => rfl); (case c4 => rfl); k_whole)
  intro L' h' F' N'
  (try dsimp only)
  repeat' ((fail_if_success (with_reducible show wpAny _ _ (exec (Stmt.For _ _ _ _ _) _) _ _ _)); (first | (k_unfold; (try dsimp only)) | ((with_reducible show wpAny _ _ (execs (List.cons _ List.nil) _) _ _ _); (try dsimp only); (try k_gentoks); (with_reducible refine execs_one ?_)) | ((with_reducible show wpAny _ _ (execs (List.cons _ _) _) _ _ _); (try dsimp only); (try k_gentoks); (with_reducible refine wpAny_execs_cons ?_)) | ((with_reducible show wpAny _ _ (exec (Stmt.If _ _ _ _) _) _ _ _); (with_reducible refine wpAny_If ?_)) | walk1 | (dsimp only; walk1)))
  dsimp only at *
  refine For_invV (hE := passesNo) s.heap rfl rfl ?_
  repeat' ((fail_if_success (with_reducible show wpAny _ _ (pyIter _) _ _ _)); (first | (k_unfold; (try dsimp only)) | ((with_reducible show wpAny _ _ (execs (List.cons _ List.nil) _) _ _ _); (try dsimp only); (try k_gentoks); (with_reducible refine execs_one ?_)) | ((with_reducible show wpAny _ _ (execs (List.cons _ _) _) _ _ _); (try dsimp only); (try k_gentoks); (with_reducible refine wpAny_execs_cons ?_)) | ((with_reducible show wpAny _ _ (exec (Stmt.If _ _ _ _) _) _ _ _); (with_reducible refine wpAny_If ?_)) | walk1 | (dsimp only; walk1)))
  dsimp only at *
  rename IsRange _ _ _ _ _ _ _ _ => hr9
  rename Fr _ _ _ _ => F9
  rename News _ _ _ _ => N9
  refine kd_range (σ := List Value × Nat × List Wd) (fun c => [(_, W.listOf (List.toArray c.1) c.2.1)]) [] (fun _ => []) (fun tl c => RowsIn tl c.1 c.2.2) [Str.ofString "n"] (fun pre c => c.2.2 = (List.range pre.length).map fun j => wordOf (numAt ns j)) [_] ([], 0, []) rfl hr9 rfl (n := 12) rfl F9 N9 (by intro q hq; exact hq) (fun c => rfl) .nil (by intro q hq; cases hq) rfl ?turn ?done
  case done =>
    intro c tl u h9 tk9 hoff hf hP (F' : Fr s.heap L' h9 _) (N' : News s.heap L' h9 ((_, W.listOf (List.toArray c.1) c.2.1) :: tl))
    dsimp only at *
    repeat' ((first | (k_unfold; (try dsimp only)) | ((with_reducible show wpAny _ _ (execs (List.cons _ List.nil) _) _ _ _); (try dsimp only); (try k_gentoks); (with_reducible refine execs_one ?_)) | ((with_reducible show wpAny _ _ (execs (List.cons _ _) _) _ _ _); (try dsimp only); (try k_gentoks); (with_reducible refine wpAny_execs_cons ?_)) | ((with_reducible show wpAny _ _ (exec (Stmt.If _ _ _ _) _) _ _ _); (with_reducible refine wpAny_If ?_)) | walk1 | (dsimp only; walk1)))
    rename Fr _ _ _ _ => F8
    rename News _ _ _ _ => N8
    refine hret _ _ _ F8.keep ⟨_, c.1, c.2.1, rfl, (N8 _ (List.Mem.head _)).1, (N8 _ (List.Mem.head _)).2.2, ?_⟩
    have q := RowsIn.new N8 (hf.mono fun q hq => List.Mem.tail _ hq)
    rw [hP] at q
    exact q
  case turn =>
    clear F9 N9 hr9 hret
    intro c tl pre k t u h9 tk9 own hk9 hpre9 hsep hoff hf hP (F' : Fr s.heap L' h9 _) (N' : News s.heap L' h9 ((_, W.listOf (List.toArray c.1) c.2.1) :: (tl ++ own)))
    dsimp only at *
    rw [Int.zero_add] at hk9
    subst hk9
    (try k_fold)
    repeat' ((fail_if_success (with_reducible show wpAny _ _ (exec (Stmt.If _ _ _ _) _) _ _ _)); (first | (k_unfold; (try dsimp only)) | ((with_reducible show wpAny _ _ (execs (List.cons _ List.nil) _) _ _ _); (try dsimp only); (try k_gentoks); (with_reducible refine execs_one ?_)) | ((with_reducible show wpAny _ _ (execs (List.cons _ _) _) _ _ _); (try dsimp only); (try k_gentoks); (with_reducible refine wpAny_execs_cons ?_)) | ((with_reducible show wpAny _ _ (exec (Stmt.If _ _ _ _) _) _ _ _); (with_reducible refine wpAny_If ?_)) | walk1 | (dsimp only; walk1)))
    dsimp only at *
    generalize hn9 : (pickNums ns (some (pre.length : Int)) none (some 12)).sum + List.getD _ _ 0 = n9 at *
    have hn8 : numAt ns pre.length = n9 := hn9
    clear hn9
    have hm60 := fmod_bd n9 60 (by decide)
    have hm3 := fmod_bd (n9.fdiv 60) 3 (by decide)
    have hm1000 := fmod_bd (n9.fdiv 60) 1000 (by decide)
    have hc12 : c.1.length < 12 := by rw [RowsIn.length hf, hP, List.length_map, List.length_range]; exact hpre9
    repeat' ((fail_if_success (with_reducible show wpAny _ _ (exec (Stmt.Expr _ _) _) _ _ _)); (first | (k_unfold; (try dsimp only)) | ((with_reducible show wpAny _ _ (execs (List.cons _ List.nil) _) _ _ _); (try dsimp only); (try k_gentoks); (with_reducible refine execs_one ?_)) | ((with_reducible show wpAny _ _ (execs (List.cons _ _) _) _ _ _); (try dsimp only); (try k_gentoks); (with_reducible refine wpAny_execs_cons ?_)) | ((with_reducible show wpAny _ _ (exec (Stmt.If _ _ _ _) _) _ _ _); (with_reducible refine wpAny_If ?_)) | walk1 | (dsimp only; walk1)))
    all_goals (try dsimp only at *)
    · repeat' ((fail_if_success (with_reducible show wpAny _ _ (call (Value.ref 94) _) _ _ _)); (first | (k_unfold; (try dsimp only)) | ((with_reducible show wpAny _ _ (execs (List.cons _ List.nil) _) _ _ _); (try dsimp only); (try k_gentoks); (with_reducible refine execs_one ?_)) | ((with_reducible show wpAny _ _ (execs (List.cons _ _) _) _ _ _); (try dsimp only); (try k_gentoks); (with_reducible refine wpAny_execs_cons ?_)) | ((with_reducible show wpAny _ _ (exec (Stmt.If _ _ _ _) _) _ _ _); (with_reducible refine wpAny_If ?_)) | walk1 | (dsimp only; walk1)))
      (try dsimp only at *)
      rename Fr _ _ _ _ => F0
      rename News _ _ _ _ => N0
      refine Ctr.use py_told (by decide) (by decide) B F0 X N0 T rfl rfl trivial ?_
      intro r' h' tk' hK' hP' F' N'
      obtain ⟨D', vs', e', hg', hn', hS'⟩ := hP'
      subst e'
      have N1 := news_add F0 N' hg' hn'
      have l1 := ne_add N0 hn'
      clear N' N0 F0
      (try dsimp only at *)
      repeat' ((fail_if_success (with_reducible show wpAny _ _ (subscriptTail _ _ (Value.ref _) (Value.int _ _)) _ _ _)); (first | (k_unfold; (try dsimp only)) | ((with_reducible show wpAny _ _ (execs (List.cons _ List.nil) _) _ _ _); (try dsimp only); (try k_gentoks); (with_reducible refine execs_one ?_)) | ((with_reducible show wpAny _ _ (execs (List.cons _ _) _) _ _ _); (try dsimp only); (try k_gentoks); (with_reducible refine wpAny_execs_cons ?_)) | ((with_reducible show wpAny _ _ (exec (Stmt.If _ _ _ _) _) _ _ _); (with_reducible refine wpAny_If ?_)) | walk1 | (dsimp only; walk1)))
      (try dsimp only at *)
      refine item_strs (News.isList N1 (by k_mem)) hS' (by omega) (by rw [List.length_map, told_len]; omega) (by rw [List.length_map, told_len]; decide) ?_ (by with_unfolding_all rfl)
      intro t7
      rw [told_get]
      repeat' ((fail_if_success (with_reducible show wpAny _ _ (call (Value.builtin "list.append") _) _ _ _)); (first | (k_unfold; (try dsimp only)) | ((with_reducible show wpAny _ _ (execs (List.cons _ List.nil) _) _ _ _); (try dsimp only); (try k_gentoks); (with_reducible refine execs_one ?_)) | ((with_reducible show wpAny _ _ (execs (List.cons _ _) _) _ _ _); (try dsimp only); (try k_gentoks); (with_reducible refine wpAny_execs_cons ?_)) | ((with_reducible show wpAny _ _ (exec (Stmt.If _ _ _ _) _) _ _ _); (with_reducible refine wpAny_If ?_)) | walk1 | (dsimp only; walk1)))
      (try dsimp only at *)
      rename Fr _ _ _ _ => F9
      rename News _ _ _ _ => N9
      rename (_ < _) ∧ _ => l9
      refine row_append F9 N9 (by k_mem) (by omega) ?_
      intro h8 F8 N8
      refine words_end (k := (n9.fmod 60 + 7)) (x := (told.getD (n9.fmod 60).toNat [])) hsep hoff hf F8 N8 (by k_mem) (fun q hq => by (repeat (refine List.Mem.tail _ ?_)); exact hq) (by refine neN ?_; omega) (fun q hq => Nat.ne_of_lt (AllLt.mem l9.2.2.2.2 q (List.mem_append.mpr (.inr hq)))) ?_ ?_
      · intro z h1 h2
        have h3 : z ≠ Str.ofString "n" := by rintro rfl; exact absurd h2 (by decide)
        simp only [if_neg h1, if_neg h3, kstB, h2, Bool.false_eq_true, if_false]
      · rw [hP, List.length_append, List.length_singleton, List.range_succ, List.map_append, List.map_singleton, hn8, wordOf, if_pos (by assumption)]
    · repeat' ((fail_if_success (with_reducible show wpAny _ _ (subscriptTail _ _ (Value.ref _) (Value.int _ _)) _ _ _)); (first | (k_unfold; (try dsimp only)) | ((with_reducible show wpAny _ _ (execs (List.cons _ List.nil) _) _ _ _); (try dsimp only); (try k_gentoks); (with_reducible refine execs_one ?_)) | ((with_reducible show wpAny _ _ (execs (List.cons _ _) _) _ _ _); (try dsimp only); (try k_gentoks); (with_reducible refine wpAny_execs_cons ?_)) | ((with_reducible show wpAny _ _ (exec (Stmt.If _ _ _ _) _) _ _ _); (with_reducible refine wpAny_If ?_)) | walk1 | (dsimp only; walk1)))
      (try dsimp only at *)
      rename News _ _ _ _ => N7
      refine item_strsT (News.isTup N7 (by k_mem)) (.cons _ _ (.cons _ _ (.cons _ _ .nil))) (by omega) (by simp only [List.length_cons, List.length_nil]; omega) (by decide) ?_ (by with_unfolding_all rfl)
      intro t7
      rw [names_get]
      repeat' ((fail_if_success (with_reducible show wpAny _ _ (call (Value.builtin "list.append") _) _ _ _)); (first | (k_unfold; (try dsimp only)) | ((with_reducible show wpAny _ _ (execs (List.cons _ List.nil) _) _ _ _); (try dsimp only); (try k_gentoks); (with_reducible refine execs_one ?_)) | ((with_reducible show wpAny _ _ (execs (List.cons _ _) _) _ _ _); (try dsimp only); (try k_gentoks); (with_reducible refine wpAny_execs_cons ?_)) | ((with_reducible show wpAny _ _ (exec (Stmt.If _ _ _ _) _) _ _ _); (with_reducible refine wpAny_If ?_)) | walk1 | (dsimp only; walk1)))
      (try dsimp only at *)
      rename Fr _ _ _ _ => F9
      rename News _ _ _ _ => N9
      rename (_ < _) ∧ _ => l9
      refine row_append F9 N9 (by k_mem) (by omega) ?_
      intro h8 F8 N8
      refine words_end (k := 1) (x := (names3.getD ((n9.fdiv 60).fmod 3).toNat [])) hsep hoff hf F8 N8 (by k_mem) (fun q hq => by (repeat (refine List.Mem.tail _ ?_)); exact hq) (by refine neN ?_; omega) (fun q hq => Nat.ne_of_lt (AllLt.mem l9.2.2.2.2 q (List.mem_append.mpr (.inr hq)))) ?_ ?_
      · intro z h1 h2
        have h3 : z ≠ Str.ofString "n" := by rintro rfl; exact absurd h2 (by decide)
        simp only [if_neg h1, if_neg h3, kstB, h2, Bool.false_eq_true, if_false]
      · rw [hP, List.length_append, List.length_singleton, List.range_succ, List.map_append, List.map_singleton, hn8, wordOf, if_neg (by assumption), if_pos (by assumption)]
    · repeat' ((fail_if_success (with_reducible show wpAny _ _ (call (Value.builtin "list.append") _) _ _ _)); (first | (k_unfold; (try dsimp only)) | ((with_reducible show wpAny _ _ (execs (List.cons _ List.nil) _) _ _ _); (try dsimp only); (try k_gentoks); (with_reducible refine execs_one ?_)) | ((with_reducible show wpAny _ _ (execs (List.cons _ _) _) _ _ _); (try dsimp only); (try k_gentoks); (with_reducible refine wpAny_execs_cons ?_)) | ((with_reducible show wpAny _ _ (exec (Stmt.If _ _ _ _) _) _ _ _); (with_reducible refine wpAny_If ?_)) | walk1 | (dsimp only; walk1)))
      (try dsimp only at *)
      rename Fr _ _ _ _ => F9
      rename News _ _ _ _ => N9
      rename (_ < _) ∧ _ => l9
      refine row_append F9 N9 (by k_mem) (by omega) ?_
      intro h8 F8 N8
      refine words_end (k := 2) (x := digs ((n9.fdiv 60).fmod 1000)) hsep hoff hf F8 N8 (by k_mem) (fun q hq => by (repeat (refine List.Mem.tail _ ?_)); exact hq) (by refine neN ?_; omega) (fun q hq => Nat.ne_of_lt (AllLt.mem l9.2.2.2 q (List.mem_append.mpr (.inr hq)))) ?_ ?_
      · intro z h1 h2
        have h3 : z ≠ Str.ofString "n" := by rintro rfl; exact absurd h2 (by decide)
        simp only [if_neg h1, if_neg h3, kstB, h2, Bool.false_eq_true, if_false]
      · rw [hP, List.length_append, List.length_singleton, List.range_succ, List.map_append, List.map_singleton, hn8, wordOf, if_neg (by assumption), if_neg (by assumption)]
end
/-- the table of the operators, in the table's order -/
def exactL : List (List Nat × Int) := [([33], 54), ([33, 61], 28), ([37], 24), ([37, 61], 40), ([38], 19), ([38, 61], 41), ([40], 7), ([41], 8), ([42], 16), ([42, 42], 35), ([42, 42, 61], 46), ([42, 61], 38), ([43], 14), ([43, 61], 36), ([44], 12), ([45], 15), ([45, 61], 37), ([45, 62], 51), ([46], 23), ([46, 46, 46], 52), ([47], 17), ([47, 47], 47), ([47, 47, 61], 48), ([47, 61], 39), ([58], 11), ([58, 61], 53), ([59], 13), ([60], 20), ([60, 60], 33), ([60, 60, 61], 44), ([60, 61], 29), ([61], 22), ([61, 61], 27), ([62], 21), ([62, 61], 30), ([62, 62], 34), ([62, 62, 61], 45), ([64], 49), ([64, 61], 50), ([91], 9), ([93], 10), ([94], 32), ([94, 61], 43), ([123], 25), ([124], 18), ([124, 61], 42), ([125], 26), ([126], 31)]
def exactD : List (Str × KTD.Dat) := exactL.map fun q => (mkS q.1, .flat (.int q.2))
theorem mkS_inj {a b : List Nat} : mkS a = mkS b ↔ a = b := by
  constructor
  · intro h
    have := congrArg (fun z : Str => z.cps.toList) h
    simpa [mkS] using this
  · exact fun h => h ▸ rfl
theorem in_exact (y : List Nat) : ∀ (l : List (List Nat × Int)), KTD.inKeys (mkS y) (l.map fun q => (mkS q.1, KTD.Dat.flat (.int q.2))) = (l.lookup y).isSome
  | [] => rfl
  | (z, k) :: l => by
    simp only [List.map_cons, KTD.inKeys, List.lookup_cons, in_exact y l, mkS_inj]
    by_cases h : y = z
    · simp [h]
    · simp [h, show (y == z) = false by simpa using h]
theorem at_exact (y : List Nat) : ∀ (l : List (List Nat × Int)), KTD.datumAt (mkS y) (l.map fun q => (mkS q.1, KTD.Dat.flat (.int q.2))) = (l.lookup y).map fun k => KTD.Dat.flat (.int k)
  | [] => rfl
  | (z, k) :: l => by
    simp only [List.map_cons, KTD.datumAt, List.lookup_cons, at_exact y l, mkS_inj]
    by_cases h : y = z
    · simp [h]
    · simp [h, show (y == z) = false by simpa using h]
set_option maxRecDepth 100000 in
theorem exact_tab {w : World} {h : Heap} (X : (hd.heap_39 w.params).In h) : KTD.TextTab h 15 exactD := kt_text_in X (by kernel_rfl)
theorem eachL_exact {h₀ : Heap} {P : Value → Prop} (y : List Nat) : ∀ (l : List (List Nat × Int)), (∀ k t, l.lookup y = some k → P (.int k t)) → KTD.EachL h₀ (mkS y) P (l.map fun q => (mkS q.1, KTD.Dat.flat (.int q.2)))
  | [], _ => trivial
  | (z, k) :: l, h => by
    rw [List.map_cons]
    by_cases e : y = z
    · exact KTD.eachL_hit (by rw [e]) (KTD.opened_int fun t => h k t (by simp [e]))
    · exact KTD.eachL_miss (by simpa [mkS_inj] using e) (eachL_exact y l fun k' t hk => h k' t (by rw [List.lookup_cons, show (y == z) = false by simpa using e]; exact hk))
def knownL (t : List Nat) : List (List Nat) := ([3, 2, 1].map fun k => t.take k).filter fun y => (exactL.lookup y).isSome
theorem known_head {t y : List Nat} {ys : List (List Nat)} (h : knownL t = y :: ys) : (∃ k, exactL.lookup y = some k) ∧ 1 ≤ y.length ∧ y.length ≤ 3 ∧ y = t.take y.length := by
  have hm : y ∈ knownL t := by rw [h]; exact List.Mem.head _
  obtain ⟨h1, h2⟩ := List.mem_filter.mp hm
  have hk : ∃ k, exactL.lookup y = some k := Option.isSome_iff_exists.mp h2
  have h0 : 1 ≤ y.length := by
    cases y with
    | nil => obtain ⟨k, e⟩ := hk; rw [show exactL.lookup [] = none by decide] at e; cases e
    | cons _ _ => simp
  simp only [List.map_cons, List.map_nil, List.mem_cons, List.not_mem_nil, or_false] at h1
  refine ⟨hk, h0, ?_⟩
  rcases h1 with rfl | rfl | rfl
  all_goals
    refine ⟨by rw [List.length_take]; omega, ?_⟩
    rw [List.length_take]
    simp [List.take_take, Nat.min_comm]
def kfB (t : List Nat) : Value → Bool
  | .int k _ => (exactL.lookup (t.take k.toNat)).isSome
  | _ => false
def kgS (t : List Nat) : Value → Str
  | .int k _ => mkS (t.take k.toNat)
  | _ => Str.empty
theorem known_eq (t : List Nat) (a b c : Tok) : ([Value.int 3 a, Value.int 2 b, Value.int 1 c].filter (kfB t)).map (kgS t) = (knownL t).map mkS := by
  have e3 : (3 : Int).toNat = 3 := rfl
  have e2 : (2 : Int).toNat = 2 := rfl
  have e1 : (1 : Int).toNat = 1 := rfl
  cases h3 : (exactL.lookup (t.take 3)).isSome <;> cases h2 : (exactL.lookup (t.take 2)).isSome <;> cases h1 : (exactL.lookup (t.take 1)).isSome <;> simp [knownL, kfB, kgS, List.filter_cons, h3, h2, h1, e3, e2, e1]
/-- what reading a text gives -/
inductive Reads : List Nat → List Wd → Prop
  | nil : Reads [] [(0, [])]
  | sp {c : Nat} {r : List Nat} {ws : List Wd} : spB c = true → Reads r ws → Reads (c :: r) ws
  | nm {c : Nat} {r : List Nat} {ws : List Wd} : spB c = false → alB c = true → Reads ((c :: r).dropWhile anB) ws → Reads (c :: r) ((1, (c :: r).takeWhile anB) :: ws)
  | num {c : Nat} {r : List Nat} {ws : List Wd} : spB c = false → alB c = false → dgB c = true → Reads ((c :: r).dropWhile dgB) ws → Reads (c :: r) ((2, (c :: r).takeWhile dgB) :: ws)
  | stop {c : Nat} {r : List Nat} : spB c = false → alB c = false → dgB c = false → knownL (c :: r) = [] → Reads (c :: r) []
  | op {c : Nat} {r : List Nat} {ws : List Wd} {y : List Nat} {ys : List (List Nat)} {k : Int} : spB c = false → alB c = false → dgB c = false → knownL (c :: r) = y :: ys → exactL.lookup y = some k → Reads ((c :: r).drop y.length) ws → Reads (c :: r) ((k, y) :: ws)

def WEnd (J : Nat → Heap → Prop) (Q : Flow → Shared → Prop) (s : Shared) (n : Nat) (f : Flow) (s₃ : Shared) : Prop :=
  match f with
  | .ret v => Q (.ret v) s₃
  | .brk => Q .next s₃
  | _ => ∃ h' tk n', s₃ = { s with heap := h', toks := tk } ∧ n' < n ∧ J n' h'
theorem WEnd.intro {J : Nat → Heap → Prop} {Q : Flow → Shared → Prop} {s : Shared} {n n' : Nat} {h' : Heap} {tk : Nat} (hn : n' < n) (hJ : J n' h') : WEnd J Q s n .next { s with heap := h', toks := tk } := ⟨h', tk, n', rfl, hn, hJ⟩
theorem While_own {prog : Program} {w : World} {A : Around} {env : Env} {test : Expr} {body : List Stmt} {pos : Pos} {Q : Flow → Shared → Prop} {s : Shared} (J : Nat → Heap → Prop) {n₀ : Nat} (hJ : J n₀ s.heap)
    (turn : ∀ n h₁ tk₁, J n h₁ → wpAny (model prog w) A (isTrue test env (eval test env)) (fun b s₂ => if b = true then wpAny (model prog w) A (execs body env) (WEnd J Q s n) (fun _ _ => False) s₂ else Q .next s₂) (fun _ _ => False) { s with heap := h₁, toks := tk₁ }) :
    wpAny (model prog w) A (exec (.While test body [] pos) env) Q (fun _ _ => False) s := by
  refine wpAny_While (codeAny_whileLoop (fun n s' => ∃ h₁ tk₁, s' = { s with heap := h₁, toks := tk₁ } ∧ J n h₁) ?_ n₀ ⟨s.heap, s.toks, rfl, hJ⟩)
  rintro n s' ⟨h₁, tk₁, rfl, J₁⟩
  refine wpAny_mono (turn n h₁ tk₁ J₁) (fun b s₂ h₂ => ?_) (fun _ _ x => x.elim)
  cases b with
  | false =>
    simp only [Bool.false_eq_true, if_false] at h₂ ⊢
    exact wpAny_execs_nil h₂
  | true =>
    simp only [if_true] at h₂ ⊢
    refine wpAny_mono h₂ (fun f s₃ h₃ => ?_) (fun _ _ x => x.elim)
    cases f with
    | ret v => exact h₃
    | brk => exact h₃
    | next => obtain ⟨h', tk, n', e, hn, hJ'⟩ := h₃; exact ⟨n', hn, h', tk, e, hJ'⟩
    | cont => obtain ⟨h', tk, n', e, hn, hJ'⟩ := h₃; exact ⟨n', hn, h', tk, e, hJ'⟩
theorem news_ne {h₀ h : Heap} {L a b : Addr} {o o' : Obj} {news : List (Addr × Obj)} (N : News h₀ L h news) (h1 : (a, o) ∈ news) (h2 : (b, o') ∈ news) (hne : o.data ≠ o'.data) : a ≠ b := by
  rintro rfl
  have e1 := (N _ h1).1
  have e2 := (N _ h2).1
  rw [e1] at e2
  exact hne (congrArg Obj.data (Option.some.inj e2))
theorem fr_name {h₀ h : Heap} {L : Addr} {m : Str → Option Value} {y : Str} {v : Value} (F : Fr h₀ L h m) (hm : m y = some v) : Fr h₀ L h (fun z => if z = y then some v else m z) := by
  have e : (fun z => if z = y then some v else m z) = m := by
    funext z
    by_cases hz : z = y
    · simp [hz, hm]
    · simp [hz]
  rw [e]; exact F
/-- what holds between two turns of the reading -/
abbrev RJ (h₀ : Heap) (L' R9 : Addr) (x : List Nat) (tx : Tok) (k : Nat) (h : Heap) : Prop := ∃ (i : Nat) (u : Str → Option Value) (vs : List Value) (n : Nat) (oA oT : Obj) (tl : List (Addr × Obj)) (t : Tok) (rows : List Wd),
  k = x.length - i ∧ i ≤ x.length ∧ Fr h₀ L' h (fun y => if y = Str.ofString "row" then some (.ref R9) else u y) ∧ News h₀ L' h ((R9, W.listOf (List.toArray vs) n) :: (L' + 1 + 1, oA) :: (L' + 1, oT) :: tl) ∧ oA.data = .cell (some (.int (i : Int) t)) ∧ oT.data = .cell (some (.str (mkS x) tx)) ∧
  OwnOff tl [R9, L' + 1 + 1, L' + 1] ∧ RowsIn tl vs rows ∧ rows.length ≤ i ∧ ∀ ws, Reads (x.drop i) ws → Reads x (rows ++ ws)
theorem drop_getD {x : List Nat} {i : Nat} (h : i < x.length) : x.drop i = x.getD i 0 :: x.drop (i + 1) := by
  rw [List.drop_eq_getElem_cons h]; simp [h]
/-- one more word upon the row: what holds between two turns holds anew -/
theorem read_end {h₀ h8 : Heap} {L' R9 T : Addr} {x : List Nat} {tx : Tok} {i' n : Nat} {vs : List Value} {oA oT : Obj} {tl news : List (Addr × Obj)} {t tt uu : Tok} {k : Int} {y : List Nat} {rows : List Wd} {m' : Str → Option Value} (hR9 : L' + 1 + 1 < R9)
    (hi : i' ≤ x.length) (F : Fr h₀ L' h8 m') (hm : m' (Str.ofString "row") = some (.ref R9))
    (N : News h₀ L' h8 ((R9, W.listOf (List.toArray (vs ++ [.ref T])) (n + 1)) :: news.filter (fun q => decide (q.1 ≠ R9))))
    (hT : (T, tupOf k tt (mkS y) uu) ∈ news) (hA : (L' + 1 + 1, oA) ∈ news) (hX : (L' + 1, oT) ∈ news) (htl : ∀ q ∈ tl, q ∈ news) (h1 : R9 < T)
    (dA : oA.data = .cell (some (.int (i' : Int) t))) (dT : oT.data = .cell (some (.str (mkS x) tx))) (hoff : OwnOff tl [R9, L' + 1 + 1, L' + 1]) (hrows : RowsIn tl vs rows) (hlen : rows.length + 1 ≤ i') (hgo : ∀ ws, Reads (x.drop i') ws → Reads x ((rows ++ [(k, y)]) ++ ws)) : RJ h₀ L' R9 x tx (x.length - i') h8 := by
  have hk1 : T ≠ R9 := Nat.ne_of_gt h1
  have hk2 : T ≠ L' + 1 + 1 := neN (by have q1 := ltN h1; have q2 := ltN hR9; omega)
  have hk3 : T ≠ L' + 1 := neN (by have q1 := ltN h1; have q2 := ltN hR9; omega)
  have hk4 : L' + 1 + 1 ≠ R9 := Nat.ne_of_lt hR9
  have hk5 : L' + 1 ≠ R9 := neN (by have q2 := ltN hR9; omega)
  refine ⟨i', m', vs ++ [.ref T], n + 1, oA, oT, (T, tupOf k tt (mkS y) uu) :: tl, t, rows ++ [(k, y)], rfl, hi, fr_name F hm, ?_, dA, dT, ?_, RowsIn.snoc (List.Mem.head _) (hrows.mono fun q hq => List.Mem.tail _ hq), by simpa using hlen, hgo⟩
  · intro q hq
    refine N q ?_
    simp only [List.mem_cons] at hq
    rcases hq with rfl | rfl | rfl | rfl | hq
    · exact List.Mem.head _
    · exact List.Mem.tail _ (List.mem_filter.mpr ⟨hA, by simpa using hk4⟩)
    · exact List.Mem.tail _ (List.mem_filter.mpr ⟨hX, by simpa using hk5⟩)
    · exact List.Mem.tail _ (List.mem_filter.mpr ⟨hT, by simpa using hk1⟩)
    · exact List.Mem.tail _ (List.mem_filter.mpr ⟨htl q hq, by simpa using hoff q hq R9 (List.Mem.head _)⟩)
  · intro q hq b hb
    rcases List.mem_cons.mp hq with rfl | hq
    · simp only [List.mem_cons, List.not_mem_nil, or_false] at hb
      rcases hb with rfl | rfl | rfl
      · exact hk1
      · exact hk2
      · exact hk3
    · exact hoff q hq b hb
theorem tw_of (f : Nat → Bool) : ∀ (l : List Nat) (j : Nat), (∀ c ∈ l.take j, f c = true) → (l.length ≤ j ∨ f (l.getD j 0) = false) → l.takeWhile f = l.take j ∧ l.dropWhile f = l.drop j
  | [], j, _, _ => by simp
  | c :: l, 0, _, h => by
    rcases h with h | h
    · simp at h
    · have h' : f c = false := by simpa using h
      simp [List.takeWhile_cons, List.dropWhile_cons, h']
  | c :: l, j + 1, hall, h => by
    have hc : f c = true := hall c (by simp)
    have ih := tw_of f l j (fun d hd => hall d (by simp [hd])) (by
      rcases h with h | h
      · exact .inl (by simpa using h)
      · exact .inr (by simpa using h))
    simp [List.takeWhile_cons, List.dropWhile_cons, hc, ih.1, ih.2]
theorem getD_drop (x : List Nat) (i j : Nat) : (x.drop i).getD j 0 = x.getD (i + j) 0 := by simp [List.getD_eq_getElem?_getD, List.getElem?_drop]
theorem take_more {x : List Nat} {i j : Nat} {f : Nat → Bool} (hall : ∀ c ∈ (x.drop i).take j, f c = true) (hf : f (x.getD (i + j) 0) = true) : ∀ c ∈ (x.drop i).take (j + 1), f c = true := by
  intro c hc
  rw [List.take_add_one] at hc
  rcases List.mem_append.mp hc with h | h
  · exact hall c h
  · have : c = x.getD (i + j) 0 := by
      rw [List.getElem?_drop] at h
      cases e : x[i + j]? with
      | none => rw [e] at h; simp at h
      | some d => rw [e] at h; simp at h; simp [List.getD_eq_getElem?_getD, e, h]
    rw [this]; exact hf
/-- what holds between two turns of an inner loop -/
abbrev IJ (h₀ : Heap) (L' R9 : Addr) (x : List Nat) (f : Nat → Bool) (i : Nat) (m : Str → Option Value) (vs : List Value) (n : Nat) (oT : Obj) (tl : List (Addr × Obj)) (k : Nat) (h : Heap) : Prop := ∃ (j : Nat) (oA : Obj) (t : Tok),
  k = x.length - (i + j) ∧ i + j ≤ x.length ∧ (∀ c ∈ (x.drop i).take j, f c = true) ∧ Fr h₀ L' h m ∧ News h₀ L' h ((R9, W.listOf (List.toArray vs) n) :: (L' + 1 + 1, oA) :: (L' + 1, oT) :: tl) ∧ oA.data = .cell (some (.int ((i + j : Nat) : Int) t))
theorem read_fin {h₀ h8 : Heap} {L R9 T : Addr} {vs : List Value} {n : Nat} {tl news : List (Addr × Obj)} {k : Int} {tt uu : Tok} {y : List Nat} {rows : List Wd} {l : List Addr}
    (N : News h₀ L h8 ((R9, W.listOf (List.toArray (vs ++ [.ref T])) (n + 1)) :: news.filter (fun q => decide (q.1 ≠ R9)))) (hT : (T, tupOf k tt (mkS y) uu) ∈ news) (htl : ∀ q ∈ tl, q ∈ news) (h1 : T ≠ R9) (hoff : OwnOff tl (R9 :: l)) (hrows : RowsIn tl vs rows) : RowsNew h₀ h8 (vs ++ [.ref T]) (rows ++ [(k, y)]) :=
  RowsIn.new N (RowsIn.snoc (List.Mem.tail _ (List.mem_filter.mpr ⟨hT, by simpa using h1⟩)) (hrows.mono fun q hq => List.Mem.tail _ (List.mem_filter.mpr ⟨htl q hq, by simpa using hoff q hq R9 (List.Mem.head _)⟩)))
theorem idx_min (l : Option Int) (j len : Nat) : PySem.Builtin.Str.strSliceIndices l (some (j : Int)) 1 len = PySem.Builtin.Str.strSliceIndices l (some ((min j len : Nat) : Int)) 1 len := by
  have h1 : ¬ ((j : Int) < 0) := by omega
  have h2 : ¬ (((min j len : Nat) : Int) < 0) := by omega
  have e : max (0 : Int) (min (j : Int) (len : Int)) = max (0 : Int) (min ((min j len : Nat) : Int) (len : Int)) := by omega
  simp only [PySem.Builtin.Str.strSliceIndices, h1, h2, if_false, show ((1 : Int) > 0) = True from by simp, if_true, e]
theorem slice_mk (x : List Nat) {i : Nat} (j : Nat) (hi : i ≤ x.length) (hij : i ≤ j) : Txt.slice (mkS x) (some (i : Int)) (some (j : Int)) = mkS ((x.drop i).take (j - i)) := by
  have h := PySem.StrLaws.sliceText_nat (mkS x) (a := i) (b := min j x.length) (by omega) (by rw [mkS_length]; omega)
  have e : ((mkS x).cps.toList.drop i).take (min j x.length - i) = (x.drop i).take (j - i) := by
    show (x.drop i).take (min j x.length - i) = _
    by_cases hj : j ≤ x.length
    · rw [Nat.min_eq_left hj]
    · rw [Nat.min_eq_right (by omega), List.take_of_length_le (by rw [List.length_drop]; omega), List.take_of_length_le (by rw [List.length_drop]; omega)]
  rw [e] at h
  refine Eq.trans ?_ h
  unfold Txt.slice PySem.StrLaws.sliceText
  rw [idx_min, mkS_length]
theorem slice_mk0 (x : List Nat) (j : Nat) : Txt.slice (mkS x) none (some (j : Int)) = mkS (x.take j) := by
  have h := slice_mk x (i := 0) j (Nat.zero_le _) (Nat.zero_le _)
  rw [List.drop_zero, Nat.sub_zero] at h
  rw [← h]
  unfold Txt.slice
  rw [PySem.StrLaws.sliceIdx_none_lo]; rfl
section
variable {prog : Program} {w : World} {A : Around} {E : Value → Shared → Prop} {s : Shared} {value slice : Expr} {x : List Nat} {t : Tok} {h₀ : Heap} {L : Addr} {m : Str → Option Value} {news : List (Addr × Obj)} {Q : Value → Shared → Prop}
theorem str_len (hb : x.length ≤ 100000) (h : ∀ t k, Q (.int (x.length : Int) t) { s with toks := k }) : wpAny (model prog w) A (call (.builtin "len") [.str (mkS x) t]) Q E s := by
  refine len_str (by rw [mkS_length]; omega) ?_
  rw [mkS_length]
  exact h _ _
theorem str_item {i : Nat} {u : Tok} (hi : i < x.length) (hb : x.length ≤ 100000) (h : ∀ t k, Q (.str ⟨#[x.getD i 0]⟩ t) { s with toks := k })
    (hs : subscripted slice false (.str (mkS x) t) (.int (i : Int) u) = operate [.str (mkS x) t, .int (i : Int) u] (getItem (.str (mkS x) t) (.int (i : Int) u)))
    (ht : ∀ r, letTemporaryGo value (.str (mkS x) t) r = pure ()) : wpAny (model prog w) A (subscriptTail value slice (.str (mkS x) t) (.int (i : Int) u)) Q E s := by
  have e : Txt.item (mkS x) (i : Int) = ⟨#[x.getD i 0]⟩ := by
    rw [item_meets ⟨by omega, by rw [mkS_length]; omega⟩]
    simp [mkS]
  refine item_str (fitsSsize_of (N := 9223372036854775808) (by omega) (by omega) (Int.le_refl _)) (by rw [mkS_length]; omega) (by rw [mkS_length]; omega) (fun _ => ?_) hs ht
  rw [e]
  exact h _ _
theorem str_cut {i j : Nat} {ui uj : Tok} (hF : Fr h₀ L s.heap m) (hN : News h₀ L s.heap news) (hi : i ≤ x.length) (hij : i ≤ j) (hb : x.length ≤ 100000) (h : ∀ h' t' k, Fr h₀ L h' m → News h₀ L h' news → Q (.str (mkS ((x.drop i).take (j - i))) t') { s with heap := h', toks := k })
    (hs : subscripted slice false (.str (mkS x) t) (.ref s.heap.objs.size) = operate [.ref s.heap.objs.size, .str (mkS x) t] (getItem (.str (mkS x) t) (.ref s.heap.objs.size)))
    (ht : ∀ r, letTemporaryGo value (.str (mkS x) t) r = pure ()) :
    wpAny (model prog w) A (subscriptTail value slice (.str (mkS x) t) (.ref s.heap.objs.size)) Q E { s with heap := s.heap.push { cls := .type "slice", data := .fields #[.int (i : Int) ui, .int (j : Int) uj, .none] } } := by
  refine slice_strN_ss hF hN (fun h' t' k F' N' => ?_) hs ht (by rw [mkS_length, sizeLine_eq]; omega)
  rw [slice_mk x j hi hij]
  exact h h' t' k F' N'
theorem str_cutA {i k : Nat} {ui uj : Tok} (hF : Fr h₀ L s.heap m) (hN : News h₀ L s.heap news) (hi : i ≤ x.length) (hb : x.length ≤ 100000) (h : ∀ h' t' kk, Fr h₀ L h' m → News h₀ L h' news → Q (.str (mkS ((x.drop i).take k)) t') { s with heap := h', toks := kk })
    (hs : subscripted slice false (.str (mkS x) t) (.ref s.heap.objs.size) = operate [.ref s.heap.objs.size, .str (mkS x) t] (getItem (.str (mkS x) t) (.ref s.heap.objs.size)))
    (ht : ∀ r, letTemporaryGo value (.str (mkS x) t) r = pure ()) :
    wpAny (model prog w) A (subscriptTail value slice (.str (mkS x) t) (.ref s.heap.objs.size)) Q E { s with heap := s.heap.push { cls := .type "slice", data := .fields #[.int (i : Int) ui, .int ((i : Int) + (k : Int)) uj, .none] } } := by
  have e : (i : Int) + (k : Int) = ((i + k : Nat) : Int) := by omega
  rw [e]
  refine str_cut hF hN hi (Nat.le_add_right i k) hb (fun h' t' kk F' N' => ?_) hs ht
  rw [Nat.add_sub_cancel_left]
  exact h h' t' kk F' N'
theorem str_cut0 {j : Nat} {uj : Tok} (hF : Fr h₀ L s.heap m) (hN : News h₀ L s.heap news) (hb : x.length ≤ 100000) (h : ∀ h' t' k, Fr h₀ L h' m → News h₀ L h' news → Q (.str (mkS (x.take j)) t') { s with heap := h', toks := k })
    (hs : subscripted slice false (.str (mkS x) t) (.ref s.heap.objs.size) = operate [.ref s.heap.objs.size, .str (mkS x) t] (getItem (.str (mkS x) t) (.ref s.heap.objs.size)))
    (ht : ∀ r, letTemporaryGo value (.str (mkS x) t) r = pure ()) :
    wpAny (model prog w) A (subscriptTail value slice (.str (mkS x) t) (.ref s.heap.objs.size)) Q E { s with heap := s.heap.push { cls := .type "slice", data := .fields #[.none, .int (j : Int) uj, .none] } } := by
  refine slice_strN_ns hF hN (fun h' t' k F' N' => ?_) hs ht (by rw [mkS_length, sizeLine_eq]; omega)
  rw [slice_mk0 x j]
  exact h h' t' k F' N'
end
section
variable {prog : Program} {w : World} {A : Around} {E : Value → Shared → Prop} {s : Shared} {h₀ : Heap} {L : Addr} {m : Str → Option Value} {env : Env}
/-- a list out of a source with one test, stored under a name -/
theorem comp_assign {ct elt iter : PySem.Expr} {x y : Str} {px py : Pos} {scope : Scope} {cl : List (Str × Addr)} {pos spos : Pos} {Q : Flow → Shared → Prop} (F₀ : Fr h₀ L s.heap m) (hLe : env.locals = L)
    (hsw : swapsWith (.ListComp elt [⟨.Name x px, iter, [ct], 0⟩] scope pos) (some (.Name y py)) spos.line env = pure true)
    (hclos : closureFor scope env = pure cl) (hcell : ∀ z ∈ scope.names, z.2 ≠ .cell) (hkind : scope.kind = .function)
    (hnames : ∀ z ∈ scope.names, z.2 = .local → scope.names.lookup z.1 = some .local) (hx : scope.names.lookup x = some .local)
    (hy : env.kindOf y = some .local) (hp : (env.scope.kind == .class || (env.scope.kind == .module && env.locals != env.globals)) = false)
    (h : wpAny (model prog w) A (eval iter env) (fun xv s₁ => wpAny (model prog w) A (pyIter xv) (fun it s₂ => ∃ (I : Addr) (fp : List Addr) (n : Nat) (P : Nat → Value → Prop) (St : Nat → Heap → Prop) (S : List (Addr × Obj) → Prop) (news : List (Addr × Obj)),
      it = .ref I ∧ Walks prog w A I fp [I] n P St ∧ n ≤ sizeLine ∧ (∀ i h, St i h → ∃ o, h.get? I = some o) ∧
      (∀ i h h' o nw, St i h → h.get? I = some o → h'.get? I = some o → (∀ b o, h₀.get? b = some o → h'.get? b = some o) → News h₀ L h' nw → S nw → St i h') ∧ St 0 s₂.heap ∧ (∀ b ∈ fp, b < s₂.heap.objs.size) ∧
      Fr h₀ L s₂.heap m ∧ News h₀ L s₂.heap news ∧ L ≠ I ∧ h₀.get? I = none ∧ (∀ p ∈ news, p.1 ≠ I) ∧ S news ∧
      LCt.CompRestT prog w A h₀ L m env ct elt x scope cl s₂ S P (LCg.FinA h₀ L m s₂ y Q) n 0 [] news) E s₁) E s)
    (hs : ∀ x, foldedSetIterable iter env x = pure x) :
    wpAny (model prog w) A (exec (.Assign [.Name y py] (.ListComp elt [⟨.Name x px, iter, [ct], 0⟩] scope pos) spos) env) Q E s := by
  subst hLe
  rw [exec_Assign_Name_used _ _ _ _ hsw]
  refine wpAny_bind (wpAny_standAt (wpAny_bind ?_))
  show wpAny _ A (do let _ ← comprehension (.ListComp elt [⟨.Name x px, iter, [ct], 0⟩] scope pos) scope env _ (newList []) false (eval iter env) (some (assign (.Name y py) env))) _ _ s
  refine wpAny_bind (wpAny_mono (wpAny_comprehension_free (use := some (assign (.Name y py) env)) (Q := fun _ s' => Q .next s') rfl hs hclos hkind hnames
    (wpAny_mono h (fun xv s₁ h₁ => wpAny_mono h₁ (fun it s₂ h₂ => ?_) fun _ _ e => e) fun _ _ e => e)) (fun _ s' hq => wpAny_pure (wpAny_pure hq)) fun _ _ e => e)
  obtain ⟨I, fp, n, P, St, S, news, rfl, W, hsz, hIo, hSt, hst, hfp, F, N, hIL, hI₀, off, hS, R⟩ := h₂
  refine LCt.block_T W hsz hIo hSt hcell hkind hx hst hfp F N hIL hI₀ off hS R ?_
  intro D C h' tk m' ys news' F' N' o1 hn hC₀ hD₀ hCL hDL hCD offC fin
  show wpAny _ A (assign (.Name y py) env (.ref D)) _ _ _
  refine wpAny_assign_Name (wpAny_storeName_local hy F'.ns (fun h₂ hn₂ hs₂ => ?_) hp)
  have hL₀ : h₀.get? env.locals = none := Heap.get?_none_of_le F'.above
  have F₂ : Fr h₀ env.locals h₂ (fun z => if z = y then some (.ref D) else m z) := ⟨hn₂, fun b o e => hs₂.extBut b o (fun q => by rw [q, hL₀] at e; cases e) (F'.keep b o e), F'.above⟩
  refine ⟨m', hn.sameBut hs₂ hCL, fun h'' hs'' => fin D h'' _ (F₂.change hs'' hCL hC₀) (fun p hp => ?_) o1⟩
  have z : h₂.get? p.1 = some p.2 := hs₂.extBut _ _ (N' p hp).2.1 (N' p hp).1
  refine ⟨hs''.extBut _ _ ?_ z, (N' p hp).2⟩
  rcases List.mem_cons.mp hp with rfl | hp
  · exact Ne.symm hCD
  · exact offC p hp
/-- the state behind a quiet look -/
abbrev Quiet (h₀ : Heap) (L : Addr) (m : Str → Option Value) (s : Shared) (news : List (Addr × Obj)) (s' : Shared) : Prop := ∃ h' tk', s' = { s with heap := h', toks := tk' } ∧ Fr h₀ L h' m ∧ News h₀ L h' news
theorem comp_rest {ct elt : PySem.Expr} {x : Str} {scope : Scope} {cl : List (Str × Addr)} {S : List (Addr × Obj) → Prop} {Fin : List Value → List (Addr × Obj) → Prop} {news : List (Addr × Obj)} (its : List Value) (f : Value → Bool) (g : Value → Str) (hS : S news)
    (test : ∀ v I oI C oC D m₂ h tk ys, v ∈ its → LCg.NsObj oC m₂ → m₂ x = some v → Fr h₀ L h m → News h₀ L h ((I, oI) :: (C, oC) :: (D, LCg.lst ys) :: news) →
      wpAny (model prog w) A (isTrue ct (compEnvC scope cl C env) (eval ct (compEnvC scope cl C env))) (fun ok s' => ok = f v ∧ Quiet h₀ L m s ((I, oI) :: (C, oC) :: (D, LCg.lst ys) :: news) s') (fun _ _ => False) { s with heap := h, toks := tk })
    (el : ∀ v I oI C oC D m₂ h tk ys, v ∈ its → f v = true → LCg.NsObj oC m₂ → m₂ x = some v → Fr h₀ L h m → News h₀ L h ((I, oI) :: (C, oC) :: (D, LCg.lst ys) :: news) →
      wpAny (model prog w) A (eval elt (compEnvC scope cl C env)) (fun y s' => (∃ t, y = .str (g v) t) ∧ Quiet h₀ L m s ((I, oI) :: (C, oC) :: (D, LCg.lst ys) :: news) s') (fun _ _ => False) { s with heap := h, toks := tk })
    (fin : ∀ ys, StrsAre ys ((its.filter f).map g) → Fin ys news) :
    LCt.CompRestT prog w A h₀ L m env ct elt x scope cl s S (fun i v => its.toArray[i]? = some v) Fin its.length 0 [] news := by
  have go : ∀ k i ys, i + k = its.length → StrsAre ys (((its.take i).filter f).map g) → LCt.CompRestT prog w A h₀ L m env ct elt x scope cl s S (fun i v => its.toArray[i]? = some v) Fin k i ys news := by
    intro k
    induction k with
    | zero =>
      intro i ys hi hy
      refine LCt.CompRestT.zero (fin ys ?_)
      rw [List.take_of_length_le (by omega)] at hy
      exact hy
    | succ k ih =>
      intro i ys hi hy
      refine LCt.CompRestT.succ ?_
      intro v I oI C oC D m₂ h tk E' hP hC hm F N off _
      have hv : its[i]? = some v := by simpa using hP
      have hmem : v ∈ its := List.mem_of_getElem? hv
      have tk1 := take_succ_filter f its i v hv
      refine wpAny_mono (test v I oI C oC D m₂ h tk ys hmem hC hm F N) (fun ok s' hq => ?_) (fun _ _ x => x.elim)
      obtain ⟨rfl, h', tk', rfl, F', N'⟩ := hq
      cases hf : f v with
      | true =>
        rw [if_pos rfl]
        refine wpAny_mono (el v I oI C oC D m₂ h' tk' ys hmem hf hC hm F' N') (fun y s'' hq => ?_) (fun _ _ x => x.elim)
        obtain ⟨⟨t, rfl⟩, h'', tk'', rfl, F'', N''⟩ := hq
        refine ⟨h'', tk'', news, rfl, F'', N'', off, hS, ih (i + 1) _ (by omega) ?_⟩
        rw [tk1, hf, if_pos rfl, List.map_append]
        exact hy.append' (.cons _ _ .nil)
      | false =>
        rw [if_neg (by simp)]
        refine ⟨h', tk', news, rfl, F', N', off, hS, ih (i + 1) _ (by omega) ?_⟩
        rw [tk1, hf, if_neg (by simp), List.append_nil]
        exact hy
  exact go its.length 0 [] (by omega) (by simpa using StrsAre.nil)
/-- a tuple as the source -/
theorem comp_tup {ct elt : PySem.Expr} {x : Str} {scope : Scope} {cl : List (Str × Addr)} {Fin : Shared → List Value → List (Addr × Obj) → Prop} {T : Addr} {its : List Value} {news : List (Addr × Obj)} (hh : A.handled = none) (F : Fr h₀ L s.heap m) (N : News h₀ L s.heap news) (hT : (T, ({ cls := .type "tuple", data := .seq its.toArray } : Obj)) ∈ news) (hsz : its.length ≤ 100000)
    (h : ∀ g, LCt.CompRestT prog w A h₀ L m env ct elt x scope cl { s with heap := g } (fun nw => (T, ({ cls := .type "tuple", data := .seq its.toArray } : Obj)) ∈ nw) (fun i v => its.toArray[i]? = some v) (Fin { s with heap := g }) its.length 0 [] news) :
    wpAny (model prog w) A (pyIter (.ref T)) (fun it s₂ => ∃ (I : Addr) (fp : List Addr) (n : Nat) (P : Nat → Value → Prop) (St : Nat → Heap → Prop) (S : List (Addr × Obj) → Prop) (news : List (Addr × Obj)),
      it = .ref I ∧ Walks prog w A I fp [I] n P St ∧ n ≤ sizeLine ∧ (∀ i h, St i h → ∃ o, h.get? I = some o) ∧
      (∀ i h h' o nw, St i h → h.get? I = some o → h'.get? I = some o → (∀ b o, h₀.get? b = some o → h'.get? b = some o) → News h₀ L h' nw → S nw → St i h') ∧ St 0 s₂.heap ∧ (∀ b ∈ fp, b < s₂.heap.objs.size) ∧
      Fr h₀ L s₂.heap m ∧ News h₀ L s₂.heap news ∧ L ≠ I ∧ h₀.get? I = none ∧ (∀ p ∈ news, p.1 ≠ I) ∧ S news ∧
      LCt.CompRestT prog w A h₀ L m env ct elt x scope cl s₂ S P (Fin s₂) n 0 [] news) E s := by
  have hg := (N _ hT).1
  have hlt : T < s.heap.objs.size := Heap.lt_size hg
  have ht : s.heap.IsTuple T its.toArray := ⟨_, hg, rfl, _, rfl⟩
  have up : ∀ b o, s.heap.get? b = some o → (s.heap.push { cls := .type "tuple_iterator", data := .fields #[.ref T, .int 0 0] }).get? b = some o := fun b o e => Heap.get?_push_of_some _ e
  refine wpAny_pyIter_tuple ht ?_
  have W := Walks.tuple (prog := prog) (w := w) hh s.heap.objs.size T (Nat.ne_of_lt hlt) its.toArray
  rw [show its.toArray.size = its.length by simp] at W
  refine ⟨s.heap.objs.size, _, its.length, _, _, (fun nw => (T, ({ cls := .type "tuple", data := .seq its.toArray } : Obj)) ∈ nw), news, rfl, W, by rw [sizeLine_eq]; omega, ?_, ?_, ⟨⟨_, Heap.get?_push_size _ rfl, rfl, rfl⟩, ht.at fun o e => up _ o e⟩, ?_,
    F.keeps up, N.grown up, Nat.ne_of_lt F.ns.lt, next_is_new F, fun p hp => Nat.ne_of_lt (Heap.lt_size (N p hp).1), hT, h _⟩
  · intro i h st
    obtain ⟨o, e, _⟩ := st.1
    exact ⟨o, e⟩
  · intro i h h' o nw st e e' k N' S
    refine ⟨?_, ⟨_, (N' _ S).1, rfl, _, rfl⟩⟩
    obtain ⟨o', q, r⟩ := st.1
    rw [e] at q; cases q
    exact ⟨o, e', r⟩
  · intro b hb
    show b < (s.heap.push _).objs.size
    rw [Heap.size_push]
    rcases List.mem_cons.mp hb with rfl | hb
    · exact Nat.lt_succ_self _
    · rw [List.mem_singleton.mp hb]; exact Nat.lt_succ_of_lt hlt
end
section
local macro_rules | `(tactic| walk_at "call ref") => `(tactic| (k_here; (with_reducible show wpAny _ _ (call (Value.ref 80) [Value.str _ _]) _ _ _); k_dflt (refine' Ctr.use (py_isspace _ _) ?kd ?ku ?kB ?kF ?kX ?kN ?kT ?kf ?kk ?kp ?_; (case kd => decide); (case ku => decide); (case kB => k_asm); (case kF => k_asm); (case kX => k_asm); (case kN => k_asm); (case kT => k_asm); (case kf => rfl); (case kk => rfl); (case kp => trivial); k_whole); (intro r' h' tk' hK' hP' F' N'; subst hP'; (try dsimp only at hK'); (try dsimp only)); (try k_sweep)))
local macro_rules | `(tactic| walk_at "call ref") => `(tactic| (k_here; (with_reducible show wpAny _ _ (call (Value.ref 59) [Value.str _ _]) _ _ _); k_dflt (refine' Ctr.use (py_isalpha _ _) ?kd ?ku ?kB ?kF ?kX ?kN ?kT ?kf ?kk ?kp ?_; (case kd => decide); (case ku => decide); (case kB => k_asm); (case kF => k_asm); (case kX => k_asm); (case kN => k_asm); (case kT => k_asm); (case kf => rfl); (case kk => rfl); (case kp => trivial); k_whole); (intro r' h' tk' hK' hP' F' N'; subst hP'; (try dsimp only at hK'); (try dsimp only)); (try k_sweep)))
local macro_rules | `(tactic| walk_at "call ref") => `(tactic| (k_here; (with_reducible show wpAny _ _ (call (Value.ref 52) [Value.str _ _]) _ _ _); k_dflt (refine' Ctr.use (py_isalnum _ _) ?kd ?ku ?kB ?kF ?kX ?kN ?kT ?kf ?kk ?kp ?_; (case kd => decide); (case ku => decide); (case kB => k_asm); (case kF => k_asm); (case kX => k_asm); (case kN => k_asm); (case kT => k_asm); (case kf => rfl); (case kk => rfl); (case kp => trivial); k_whole); (intro r' h' tk' hK' hP' F' N'; subst hP'; (try dsimp only at hK'); (try dsimp only)); (try k_sweep)))
local macro_rules | `(tactic| walk_at "call ref") => `(tactic| (k_here; (with_reducible show wpAny _ _ (call (Value.ref 66) [Value.str _ _]) _ _ _); k_dflt (refine' Ctr.use (py_isdigit _ _) ?kd ?ku ?kB ?kF ?kX ?kN ?kT ?kf ?kk ?kp ?_; (case kd => decide); (case ku => decide); (case kB => k_asm); (case kF => k_asm); (case kX => k_asm); (case kN => k_asm); (case kT => k_asm); (case kf => rfl); (case kk => rfl); (case kp => trivial); k_whole); (intro r' h' tk' hK' hP' F' N'; subst hP'; (try dsimp only at hK'); (try dsimp only)); (try k_sweep)))
local macro_rules | `(tactic| walk_at "call builtin:len") => `(tactic| ((with_reducible show wpAny _ _ (call (Value.builtin "len") [Value.str (mkS _) _]) _ _ _); refine str_len (by omega) ?_; intro t' k'))
local macro_rules | `(tactic| walk_at "subscriptTail Name Name str int") => `(tactic| ((with_reducible show wpAny _ _ (subscriptTail _ _ (Value.str (mkS _) _) (Value.int (Nat.cast _) _)) _ _ _); refine str_item (by omega) (by omega) ?_ (by with_unfolding_all rfl) (by intro _; with_unfolding_all rfl); intro t' k'))
local macro_rules | `(tactic| walk_at "subscriptTail Name Slice str ref") => `(tactic| ((with_reducible show wpAny _ _ (subscriptTail _ (PySem.Expr.Slice (some _) (some _) none _) (Value.str (mkS _) _) (Value.ref _)) _ _ _); k_dflt (refine' str_cutA ?F ?N ?a ?c ?_ ?s ?t; (case F => k_asm); (case N => k_asm); (case a => omega); (case c => omega); (case s => with_unfolding_all rfl); (case t => kmk_pure)); intro h' t' k' F' N'; (try k_sweep)))
local macro_rules | `(tactic| walk_at "subscriptTail Name Slice str ref") => `(tactic| ((with_reducible show wpAny _ _ (subscriptTail _ (PySem.Expr.Slice (some _) (some _) none _) (Value.str (mkS _) _) (Value.ref _)) _ _ _); k_dflt (refine' str_cut ?F ?N ?a ?b ?c ?_ ?s ?t; (case F => k_asm); (case N => k_asm); (case a => omega); (case b => omega); (case c => omega); (case s => with_unfolding_all rfl); (case t => kmk_pure)); intro h' t' k' F' N'; (try k_sweep)))
set_option maxRecDepth 100000 in
set_option maxHeartbeats 8000000 in
theorem py_read {w : World} {p : Program} {loose : List Str} {mean : ExcName → Option Value} {mg mb : Str → Option Value} (x : List Nat) (tx : Tok) :
    Ctr w p loose mean mg mb 400 200 111 [.str (mkS x) tx] (fun _ => x.length ≤ 1000) (fun h h' r => ∃ D vs' n ws, r = .ref D ∧ h'.get? D = some (W.listOf (List.toArray vs') n) ∧ h.get? D = none ∧ RowsNew h h' vs' ws ∧ Reads x ws) := by
  w_on
  intro outer A₀ base s R B X T hpre hret
  k_dflt (refine' enterC (binds := [(Str.ofString "text", .str (mkS x) tx)]) ?k1 ?k2 ?k3 ?k4 ?k5 ?k6 ?k7 ?k8 ?_ ?c2 ?c3 ?c4; (case k1 => k_asm); (case k2 => k_asm); (case k3 => k_is); (case k4 => k_is); (case k5 => decide); (case k6 => exact BindsTo.of_eq rfl); (case k7 => rfl); (case k8 => decide +kernel); (case c2 => rfl); (case c3 => rfl); (case c4 => rfl); k_whole)
  intro L' h' tk' cells' F' N' Y'
  k_cells Y'
  (try dsimp only)
  repeat' ((fail_if_success (with_reducible show wpAny _ _ (exec (Stmt.While _ _ _ _) _) _ _ _)); (first | (k_unfold; (try dsimp only)) | ((with_reducible show wpAny _ _ (execs (List.cons _ List.nil) _) _ _ _); (try dsimp only); (try k_gentoks); (with_reducible refine execs_one ?_)) | ((with_reducible show wpAny _ _ (execs (List.cons _ _) _) _ _ _); (try dsimp only); (try k_gentoks); (with_reducible refine wpAny_execs_cons ?_)) | ((with_reducible show wpAny _ _ (exec (Stmt.If _ _ _ _) _) _ _ _); (with_reducible refine wpAny_If ?_)) | walk1 | (dsimp only; walk1)))
  dsimp only at *
  rename Fr _ _ _ _ => F9
  rename News _ _ _ _ => N9
  rename (_ < _) ∧ _ => l9
  rename Obj.data _ = Data.cell (bindC _ _ _ (Str.ofString "text")) => dT
  rename Obj.data _ = Data.cell (some (Value.int 0 _)) => dA
  refine While_own (RJ s.heap L' _ x tx) (n₀ := x.length) ⟨0, _, [], 0, _, _, [], _, [], rfl, Nat.zero_le _, F9, N9, dA, dT, (fun _ h => nomatch h), .nil, Nat.le_refl _, fun ws h => h⟩ ?_
  have hR9 := l9.1
  clear F9 N9 l9 dT dA
  rintro k h1 tk1 ⟨i, u, vs, n, oA, oT, tl, t, rows, hk, hi, F', N', dA, dT, hoff, hrows, hlen, hgo⟩
  (try k_fold)
  repeat' ((fail_if_success (with_reducible show wpAny _ _ (exec (Stmt.If _ _ _ _) _) _ _ _)); (fail_if_success (with_reducible show wpAny _ _ (exec (Stmt.While _ _ _ _) _) _ _ _)); (fail_if_success (with_reducible show wpAny _ _ (call (Value.builtin "list.append") _) _ _ _)); (first | (k_unfold; (try dsimp only)) | ((with_reducible show wpAny _ _ (execs (List.cons _ List.nil) _) _ _ _); (try dsimp only); (try k_gentoks); (with_reducible refine execs_one ?_)) | ((with_reducible show wpAny _ _ (execs (List.cons _ _) _) _ _ _); (try dsimp only); (try k_gentoks); (with_reducible refine wpAny_execs_cons ?_)) | ((with_reducible show wpAny _ _ (exec (Stmt.If _ _ _ _) _) _ _ _); (with_reducible refine wpAny_If ?_)) | walk1 | (dsimp only; walk1)))
  all_goals (try dsimp only at *)
  · have hlt : i < x.length := by omega
    have hdr := drop_getD hlt
    repeat' ((fail_if_success (with_reducible show wpAny _ _ (exec (Stmt.While _ _ _ _) _) _ _ _)); (fail_if_success (with_reducible show wpAny _ _ (exec (Stmt.Assign _ (PySem.Expr.ListComp _ _ _ _) _) _) _ _ _)); (first | (k_unfold; (try dsimp only)) | ((with_reducible show wpAny _ _ (execs (List.cons _ List.nil) _) _ _ _); (try dsimp only); (try k_gentoks); (with_reducible refine execs_one ?_)) | ((with_reducible show wpAny _ _ (execs (List.cons _ _) _) _ _ _); (try dsimp only); (try k_gentoks); (with_reducible refine wpAny_execs_cons ?_)) | ((with_reducible show wpAny _ _ (exec (Stmt.If _ _ _ _) _) _ _ _); (with_reducible refine wpAny_If ?_)) | walk1 | (dsimp only; walk1)))
    all_goals (try dsimp only at *)
    · rename Fr _ _ _ _ => F9
      rename News _ _ _ _ => N9
      rename Obj.data _ = Data.cell (some (Value.int (_ + 1) _)) => d9
      refine WEnd.intro (n' := x.length - (i + 1)) (by omega) ⟨i + 1, _, vs, n, _, _, tl, _, rows, rfl, hlt, fr_name F9 rfl, N9, d9, dT, hoff, hrows, by omega, fun ws h => hgo ws ?_⟩
      rw [hdr]
      exact .sp (by assumption) h
    · rename Fr _ _ _ _ => F9
      rename News _ _ _ _ => N9
      rename spB _ = false => hsp
      rename alB _ = true => hal
      have hfc : anB (x.getD i 0) = true := by unfold anB; rw [hal]; rfl
      refine While_own (IJ s.heap L' _ x anB i _ vs n oT tl) (n₀ := x.length - i) ⟨0, oA, _, rfl, hi, (by intro c hc; simp at hc), F9, N9, dA⟩ ?_
      clear F9 N9 dA
      rintro k7 h7 tk7 ⟨j, oA, t, hk7, hj, hall, F', N', dA⟩
      repeat' ((fail_if_success (with_reducible show wpAny _ _ (call (Value.builtin "list.append") _) _ _ _)); (first | (k_unfold; (try dsimp only)) | ((with_reducible show wpAny _ _ (execs (List.cons _ List.nil) _) _ _ _); (try dsimp only); (try k_gentoks); (with_reducible refine execs_one ?_)) | ((with_reducible show wpAny _ _ (execs (List.cons _ _) _) _ _ _); (try dsimp only); (try k_gentoks); (with_reducible refine wpAny_execs_cons ?_)) | ((with_reducible show wpAny _ _ (exec (Stmt.If _ _ _ _) _) _ _ _); (with_reducible refine wpAny_If ?_)) | walk1 | (dsimp only; walk1)))
      all_goals (try dsimp only at *)
      · rename Fr _ _ _ _ => F9
        rename News _ _ _ _ => N9
        rename Obj.data _ = Data.cell (some (Value.int (_ + 1) _)) => d9
        exact WEnd.intro (n' := x.length - (i + (j + 1))) (by omega) ⟨j + 1, _, _, rfl, by omega, take_more hall (by assumption), F9, N9, d9⟩
      · rename Fr _ _ _ _ => F9
        rename News _ _ _ _ => N9
        rename (_ < _) ∧ _ => l9
        have hvl := RowsIn.length hrows
        refine row_append F9 N9 (by k_mem) (by omega) ?_
        intro h8 F8 N8
        have htw := tw_of anB (x.drop i) j hall (.inr (by rw [getD_drop]; assumption))
        have hj1 : 1 ≤ j := by
          rcases Nat.eq_zero_or_pos j with rfl | h
          · have q := htw.1
            rw [hdr, List.takeWhile_cons, if_pos hfc, List.take_zero] at q
            cases q
          · exact h
        refine WEnd.intro (n' := x.length - (i + j)) (by omega) (read_end (k := 1) (y := (x.drop i).take (i + j - i)) hR9 hj F8 rfl N8 (by k_mem) (by k_mem) (by k_mem) (fun q hq => by (repeat (refine List.Mem.tail _ ?_)); exact hq) l9.1 dA dT hoff hrows (by omega) ?_)
        intro ws hw
        rw [List.append_assoc]
        refine hgo _ ?_
        have hrd := Reads.nm hsp hal (r := x.drop (i + 1)) (by rw [← hdr, htw.2, List.drop_drop]; exact hw)
        rw [← hdr, htw.1] at hrd
        rw [Nat.add_sub_cancel_left]
        exact hrd
      · rename Fr _ _ _ _ => F9
        rename News _ _ _ _ => N9
        rename (_ < _) ∧ _ => l9
        have hvl := RowsIn.length hrows
        refine row_append F9 N9 (by k_mem) (by omega) ?_
        intro h8 F8 N8
        have htw := tw_of anB (x.drop i) j hall (.inl (by rw [List.length_drop]; omega))
        have hj1 : 1 ≤ j := by
          rcases Nat.eq_zero_or_pos j with rfl | h
          · have q := htw.1
            rw [hdr, List.takeWhile_cons, if_pos hfc, List.take_zero] at q
            cases q
          · exact h
        refine WEnd.intro (n' := x.length - (i + j)) (by omega) (read_end (k := 1) (y := (x.drop i).take (i + j - i)) hR9 hj F8 rfl N8 (by k_mem) (by k_mem) (by k_mem) (fun q hq => by (repeat (refine List.Mem.tail _ ?_)); exact hq) l9.1 dA dT hoff hrows (by omega) ?_)
        intro ws hw
        rw [List.append_assoc]
        refine hgo _ ?_
        have hrd := Reads.nm hsp hal (r := x.drop (i + 1)) (by rw [← hdr, htw.2, List.drop_drop]; exact hw)
        rw [← hdr, htw.1] at hrd
        rw [Nat.add_sub_cancel_left]
        exact hrd
    · rename Fr _ _ _ _ => F9
      rename News _ _ _ _ => N9
      rename spB _ = false => hsp
      rename alB _ = false => hal
      rename dgB _ = true => hfc
      refine While_own (IJ s.heap L' _ x dgB i _ vs n oT tl) (n₀ := x.length - i) ⟨0, oA, _, rfl, hi, (by intro c hc; simp at hc), F9, N9, dA⟩ ?_
      clear F9 N9 dA
      rintro k7 h7 tk7 ⟨j, oA, t, hk7, hj, hall, F', N', dA⟩
      repeat' ((fail_if_success (with_reducible show wpAny _ _ (call (Value.builtin "list.append") _) _ _ _)); (first | (k_unfold; (try dsimp only)) | ((with_reducible show wpAny _ _ (execs (List.cons _ List.nil) _) _ _ _); (try dsimp only); (try k_gentoks); (with_reducible refine execs_one ?_)) | ((with_reducible show wpAny _ _ (execs (List.cons _ _) _) _ _ _); (try dsimp only); (try k_gentoks); (with_reducible refine wpAny_execs_cons ?_)) | ((with_reducible show wpAny _ _ (exec (Stmt.If _ _ _ _) _) _ _ _); (with_reducible refine wpAny_If ?_)) | walk1 | (dsimp only; walk1)))
      all_goals (try dsimp only at *)
      · rename Fr _ _ _ _ => F9
        rename News _ _ _ _ => N9
        rename Obj.data _ = Data.cell (some (Value.int (_ + 1) _)) => d9
        exact WEnd.intro (n' := x.length - (i + (j + 1))) (by omega) ⟨j + 1, _, _, rfl, by omega, take_more hall (by assumption), F9, N9, d9⟩
      · rename Fr _ _ _ _ => F9
        rename News _ _ _ _ => N9
        rename (_ < _) ∧ _ => l9
        have hvl := RowsIn.length hrows
        refine row_append F9 N9 (by k_mem) (by omega) ?_
        intro h8 F8 N8
        have htw := tw_of dgB (x.drop i) j hall (.inr (by rw [getD_drop]; assumption))
        have hj1 : 1 ≤ j := by
          rcases Nat.eq_zero_or_pos j with rfl | h
          · have q := htw.1
            rw [hdr, List.takeWhile_cons, if_pos hfc, List.take_zero] at q
            cases q
          · exact h
        refine WEnd.intro (n' := x.length - (i + j)) (by omega) (read_end (k := 2) (y := (x.drop i).take (i + j - i)) hR9 hj F8 rfl N8 (by k_mem) (by k_mem) (by k_mem) (fun q hq => by (repeat (refine List.Mem.tail _ ?_)); exact hq) l9.1 dA dT hoff hrows (by omega) ?_)
        intro ws hw
        rw [List.append_assoc]
        refine hgo _ ?_
        have hrd := Reads.num hsp hal hfc (r := x.drop (i + 1)) (by rw [← hdr, htw.2, List.drop_drop]; exact hw)
        rw [← hdr, htw.1] at hrd
        rw [Nat.add_sub_cancel_left]
        exact hrd
      · rename Fr _ _ _ _ => F9
        rename News _ _ _ _ => N9
        rename (_ < _) ∧ _ => l9
        have hvl := RowsIn.length hrows
        refine row_append F9 N9 (by k_mem) (by omega) ?_
        intro h8 F8 N8
        have htw := tw_of dgB (x.drop i) j hall (.inl (by rw [List.length_drop]; omega))
        have hj1 : 1 ≤ j := by
          rcases Nat.eq_zero_or_pos j with rfl | h
          · have q := htw.1
            rw [hdr, List.takeWhile_cons, if_pos hfc, List.take_zero] at q
            cases q
          · exact h
        refine WEnd.intro (n' := x.length - (i + j)) (by omega) (read_end (k := 2) (y := (x.drop i).take (i + j - i)) hR9 hj F8 rfl N8 (by k_mem) (by k_mem) (by k_mem) (fun q hq => by (repeat (refine List.Mem.tail _ ?_)); exact hq) l9.1 dA dT hoff hrows (by omega) ?_)
        intro ws hw
        rw [List.append_assoc]
        refine hgo _ ?_
        have hrd := Reads.num hsp hal hfc (r := x.drop (i + 1)) (by rw [← hdr, htw.2, List.drop_drop]; exact hw)
        rw [← hdr, htw.1] at hrd
        rw [Nat.add_sub_cancel_left]
        exact hrd
    · rename spB _ = false => hsp
      rename alB _ = false => hal
      rename dgB _ = false => hdg
      rename Fr _ _ _ _ => F9
      refine comp_assign F9 rfl (by with_unfolding_all rfl) (by with_unfolding_all rfl) (by decide) rfl (by decide) rfl rfl rfl ?_ (by intro _; rfl)
      repeat' ((fail_if_success (with_reducible show wpAny _ _ (pyIter _) _ _ _)); (first | (k_unfold; (try dsimp only)) | ((with_reducible show wpAny _ _ (execs (List.cons _ List.nil) _) _ _ _); (try dsimp only); (try k_gentoks); (with_reducible refine execs_one ?_)) | ((with_reducible show wpAny _ _ (execs (List.cons _ _) _) _ _ _); (try dsimp only); (try k_gentoks); (with_reducible refine wpAny_execs_cons ?_)) | ((with_reducible show wpAny _ _ (exec (Stmt.If _ _ _ _) _) _ _ _); (with_reducible refine wpAny_If ?_)) | walk1 | (dsimp only; walk1)))
      (try dsimp only at *)
      rename Fr _ _ _ _ => F9
      rename News _ _ _ _ => N9
      refine comp_tup (its := [_, _, _]) rfl F9 N9 (by k_mem) (show 3 ≤ 100000 by decide) ?_
      rename (_ < _) ∧ _ => l9
      intro g9
      refine comp_rest _ (kfB (x.drop i)) (kgS (x.drop i)) (by k_mem) ?_ ?_ ?_
      · clear F9 N9
        intro v I oI C oC D m₂ h tk ys hv hC hm F' N'
        obtain ⟨kk, tv, rfl⟩ : ∃ (kk : Nat) (tv : Tok), v = .int (kk : Int) tv := by
          simp only [List.mem_cons, List.not_mem_nil, or_false] at hv
          rcases hv with rfl | rfl | rfl
          · exact ⟨3, _, rfl⟩
          · exact ⟨2, _, rfl⟩
          · exact ⟨1, _, rfl⟩
        clear hv
        repeat' ((fail_if_success (with_reducible show wpAny _ _ (compareOp CmpOp.In _ _) _ _ _)); (first | (k_unfold; (try dsimp only)) | ((with_reducible show wpAny _ _ (execs (List.cons _ List.nil) _) _ _ _); (try dsimp only); (try k_gentoks); (with_reducible refine execs_one ?_)) | ((with_reducible show wpAny _ _ (execs (List.cons _ _) _) _ _ _); (try dsimp only); (try k_gentoks); (with_reducible refine wpAny_execs_cons ?_)) | ((with_reducible show wpAny _ _ (exec (Stmt.If _ _ _ _) _) _ _ _); (with_reducible refine wpAny_If ?_)) | walk1 | (dsimp only; walk1)))
        (try dsimp only at *)
        rename Fr _ _ _ _ => F8
        rename News _ _ _ _ => N8
        refine KTD.in_text ⟨exact_tab X, F8.keep⟩ ?_
        rw [show KTD.inKeys (mkS _) exactD = _ from in_exact _ exactL, Nat.add_sub_cancel_left]
        repeat' ((fail_if_success (with_reducible show _ ∧ _)); (first | (k_unfold; (try dsimp only)) | ((with_reducible show wpAny _ _ (execs (List.cons _ List.nil) _) _ _ _); (try dsimp only); (try k_gentoks); (with_reducible refine execs_one ?_)) | ((with_reducible show wpAny _ _ (execs (List.cons _ _) _) _ _ _); (try dsimp only); (try k_gentoks); (with_reducible refine wpAny_execs_cons ?_)) | ((with_reducible show wpAny _ _ (exec (Stmt.If _ _ _ _) _) _ _ _); (with_reducible refine wpAny_If ?_)) | walk1 | (dsimp only; walk1)))
        exact ⟨rfl, _, _, rfl, F8, N8⟩
      · clear F9 N9
        intro v I oI C oC D m₂ h tk ys hv hfv hC hm F' N'
        obtain ⟨kk, tv, rfl⟩ : ∃ (kk : Nat) (tv : Tok), v = .int (kk : Int) tv := by
          simp only [List.mem_cons, List.not_mem_nil, or_false] at hv
          rcases hv with rfl | rfl | rfl
          · exact ⟨3, _, rfl⟩
          · exact ⟨2, _, rfl⟩
          · exact ⟨1, _, rfl⟩
        clear hv
        clear hfv
        repeat' ((fail_if_success (with_reducible show _ ∧ _)); (first | (k_unfold; (try dsimp only)) | ((with_reducible show wpAny _ _ (execs (List.cons _ List.nil) _) _ _ _); (try dsimp only); (try k_gentoks); (with_reducible refine execs_one ?_)) | ((with_reducible show wpAny _ _ (execs (List.cons _ _) _) _ _ _); (try dsimp only); (try k_gentoks); (with_reducible refine wpAny_execs_cons ?_)) | ((with_reducible show wpAny _ _ (exec (Stmt.If _ _ _ _) _) _ _ _); (with_reducible refine wpAny_If ?_)) | walk1 | (dsimp only; walk1)))
        (try dsimp only at *)
        rename Fr _ _ _ _ => F8
        rename News _ _ _ _ => N8
        rw [Nat.add_sub_cancel_left]
        exact ⟨⟨_, rfl⟩, _, _, rfl, F8, N8⟩
      · intro ys hS D h' tk F' N' o1
        simp only [LCg.Off1] at o1
        (try dsimp only at hS)
        rw [known_eq] at hS
        clear F9 N9
        cases hkn : knownL (x.drop i) with
        | nil =>
          rw [hkn] at hS
          have hys := StrsAre.nil_inv hS
          subst hys
          repeat' ((fail_if_success (with_reducible show wpAny _ _ (compareOp CmpOp.Eq (Value.ref _) (Value.ref _)) _ _ _)); (first | (k_unfold; (try dsimp only)) | ((with_reducible show wpAny _ _ (execs (List.cons _ List.nil) _) _ _ _); (try dsimp only); (try k_gentoks); (with_reducible refine execs_one ?_)) | ((with_reducible show wpAny _ _ (execs (List.cons _ _) _) _ _ _); (try dsimp only); (try k_gentoks); (with_reducible refine wpAny_execs_cons ?_)) | ((with_reducible show wpAny _ _ (exec (Stmt.If _ _ _ _) _) _ _ _); (with_reducible refine wpAny_If ?_)) | walk1 | (dsimp only; walk1)))
          (try dsimp only at *)
          rename Fr _ _ _ _ => F8
          rename News _ _ _ _ => N8
          refine PySem.SeqAt.eq_listAt (e := fun _ => true) (News.isList N8 (by k_mem)) (News.isList N8 (by k_mem)) rfl (show 200 + 3 < cLine by decide) (by intro j h1; exact absurd h1 (Nat.not_lt_zero _)) ?_
          repeat' ((first | (k_unfold; (try dsimp only)) | ((with_reducible show wpAny _ _ (execs (List.cons _ List.nil) _) _ _ _); (try dsimp only); (try k_gentoks); (with_reducible refine execs_one ?_)) | ((with_reducible show wpAny _ _ (execs (List.cons _ _) _) _ _ _); (try dsimp only); (try k_gentoks); (with_reducible refine wpAny_execs_cons ?_)) | ((with_reducible show wpAny _ _ (exec (Stmt.If _ _ _ _) _) _ _ _); (with_reducible refine wpAny_If ?_)) | walk1 | (dsimp only; walk1)))
          refine hret _ _ _ F8.keep ⟨_, vs, n, rows ++ [], rfl, News.get N8 (by k_mem), News.fresh N8 (o := W.listOf vs.toArray n) (by k_mem), ?_, hgo _ ?_⟩
          · rw [List.append_nil]
            exact RowsIn.new N8 (hrows.mono fun q hq => by (repeat (refine List.Mem.tail _ ?_)); exact hq)
          · rw [hdr]
            exact .stop hsp hal hdg (hdr ▸ hkn)
        | cons y yr =>
          rw [hkn, List.map_cons] at hS
          obtain ⟨t5, ys5, rfl, hS5⟩ := StrsAre.cons_inv hS
          obtain ⟨⟨kx, hkx⟩, hy1, hy3, hytk⟩ := known_head hkn
          repeat' ((fail_if_success (with_reducible show wpAny _ _ (compareOp CmpOp.Eq (Value.ref _) (Value.ref _)) _ _ _)); (first | (k_unfold; (try dsimp only)) | ((with_reducible show wpAny _ _ (execs (List.cons _ List.nil) _) _ _ _); (try dsimp only); (try k_gentoks); (with_reducible refine execs_one ?_)) | ((with_reducible show wpAny _ _ (execs (List.cons _ _) _) _ _ _); (try dsimp only); (try k_gentoks); (with_reducible refine wpAny_execs_cons ?_)) | ((with_reducible show wpAny _ _ (exec (Stmt.If _ _ _ _) _) _ _ _); (with_reducible refine wpAny_If ?_)) | walk1 | (dsimp only; walk1)))
          (try dsimp only at *)
          rename Fr _ _ _ _ => F8
          rename News _ _ _ _ => N8
          refine PySem.SeqAt.eq_list_lengthsAt (News.isList N8 (by k_mem)) (News.isList N8 (by k_mem)) (by simp) (show 200 + 3 < cLine by decide) ?_
          repeat' ((fail_if_success (with_reducible show wpAny _ _ (subscriptTail _ _ (Value.ref _) (Value.int _ _)) _ _ _)); (fail_if_success (with_reducible show wpAny _ _ (call (Value.builtin "list.append") _) _ _ _)); (first | (k_unfold; (try dsimp only)) | ((with_reducible show wpAny _ _ (execs (List.cons _ List.nil) _) _ _ _); (try dsimp only); (try k_gentoks); (with_reducible refine execs_one ?_)) | ((with_reducible show wpAny _ _ (execs (List.cons _ _) _) _ _ _); (try dsimp only); (try k_gentoks); (with_reducible refine wpAny_execs_cons ?_)) | ((with_reducible show wpAny _ _ (exec (Stmt.If _ _ _ _) _) _ _ _); (with_reducible refine wpAny_If ?_)) | walk1 | (dsimp only; walk1)))
          (try dsimp only at *)
          refine item_strs (News.isList N8 (by k_mem)) hS (Int.le_refl _) (by simp only [List.length_cons]; omega) (by have := congrArg List.length hkn; have := List.length_filter_le (fun y => (exactL.lookup y).isSome) ([3, 2, 1].map fun k => (x.drop i).take k); simp only [knownL, List.length_cons, List.length_map, List.length_nil] at *; omega) ?_ (by with_unfolding_all rfl)
          intro t7
          rw [show (mkS y :: List.map mkS yr).getD (Int.toNat 0) Str.empty = mkS y from rfl]
          have hyr3 : (mkS y :: List.map mkS yr).length < 2 ^ 62 := by
            have h1 := congrArg List.length hkn
            have h2 := List.length_filter_le (fun y => (exactL.lookup y).isSome) ([3, 2, 1].map fun k => (x.drop i).take k)
            simp only [knownL, List.length_cons, List.length_map, List.length_nil] at *
            omega
          repeat' ((fail_if_success (with_reducible show wpAny _ _ (subscriptTail _ _ (Value.ref _) (Value.int _ _)) _ _ _)); (fail_if_success (with_reducible show wpAny _ _ (subscriptTail _ _ (Value.ref _) (Value.str _ _)) _ _ _)); (fail_if_success (with_reducible show wpAny _ _ (call (Value.builtin "list.append") _) _ _ _)); (first | (k_unfold; (try dsimp only)) | ((with_reducible show wpAny _ _ (execs (List.cons _ List.nil) _) _ _ _); (try dsimp only); (try k_gentoks); (with_reducible refine execs_one ?_)) | ((with_reducible show wpAny _ _ (execs (List.cons _ _) _) _ _ _); (try dsimp only); (try k_gentoks); (with_reducible refine wpAny_execs_cons ?_)) | ((with_reducible show wpAny _ _ (exec (Stmt.If _ _ _ _) _) _ _ _); (with_reducible refine wpAny_If ?_)) | walk1 | (dsimp only; walk1)))
          (try dsimp only at *)
          rename News _ _ _ _ => N7
          refine item_strs (News.isList N7 (by k_mem)) hS (Int.le_refl _) (by simp only [List.length_cons]; omega) hyr3 ?_ (by with_unfolding_all rfl)
          intro t6
          rw [show (mkS y :: List.map mkS yr).getD (Int.toNat 0) Str.empty = mkS y from rfl]
          repeat' ((fail_if_success (with_reducible show wpAny _ _ (subscriptTail _ _ (Value.ref _) (Value.int _ _)) _ _ _)); (fail_if_success (with_reducible show wpAny _ _ (subscriptTail _ _ (Value.ref _) (Value.str _ _)) _ _ _)); (fail_if_success (with_reducible show wpAny _ _ (call (Value.builtin "list.append") _) _ _ _)); (first | (k_unfold; (try dsimp only)) | ((with_reducible show wpAny _ _ (execs (List.cons _ List.nil) _) _ _ _); (try dsimp only); (try k_gentoks); (with_reducible refine execs_one ?_)) | ((with_reducible show wpAny _ _ (execs (List.cons _ _) _) _ _ _); (try dsimp only); (try k_gentoks); (with_reducible refine wpAny_execs_cons ?_)) | ((with_reducible show wpAny _ _ (exec (Stmt.If _ _ _ _) _) _ _ _); (with_reducible refine wpAny_If ?_)) | walk1 | (dsimp only; walk1)))
          (try dsimp only at *)
          rename Fr _ _ _ _ => F7
          refine KTD.item_text ⟨exact_tab X, F7.keep⟩ (by rw [show KTD.inKeys (mkS y) exactD = _ from in_exact y exactL, hkx]; rfl) (eachL_exact y exactL fun k' t' hk' => ?_) (by with_unfolding_all rfl) (by intro _; with_unfolding_all rfl)
          rw [hkx] at hk'
          cases hk'
          repeat' ((fail_if_success (with_reducible show wpAny _ _ (subscriptTail _ _ (Value.ref _) (Value.int _ _)) _ _ _)); (fail_if_success (with_reducible show wpAny _ _ (subscriptTail _ _ (Value.ref _) (Value.str _ _)) _ _ _)); (fail_if_success (with_reducible show wpAny _ _ (call (Value.builtin "list.append") _) _ _ _)); (first | (k_unfold; (try dsimp only)) | ((with_reducible show wpAny _ _ (execs (List.cons _ List.nil) _) _ _ _); (try dsimp only); (try k_gentoks); (with_reducible refine execs_one ?_)) | ((with_reducible show wpAny _ _ (execs (List.cons _ _) _) _ _ _); (try dsimp only); (try k_gentoks); (with_reducible refine wpAny_execs_cons ?_)) | ((with_reducible show wpAny _ _ (exec (Stmt.If _ _ _ _) _) _ _ _); (with_reducible refine wpAny_If ?_)) | walk1 | (dsimp only; walk1)))
          (try dsimp only at *)
          refine item_strs (News.isList N7 (by k_mem)) hS (Int.le_refl _) (by simp only [List.length_cons]; omega) hyr3 ?_ (by with_unfolding_all rfl)
          intro t4
          rw [show (mkS y :: List.map mkS yr).getD (Int.toNat 0) Str.empty = mkS y from rfl]
          repeat' ((fail_if_success (with_reducible show wpAny _ _ (subscriptTail _ _ (Value.ref _) (Value.int _ _)) _ _ _)); (fail_if_success (with_reducible show wpAny _ _ (subscriptTail _ _ (Value.ref _) (Value.str _ _)) _ _ _)); (fail_if_success (with_reducible show wpAny _ _ (call (Value.builtin "list.append") _) _ _ _)); (first | (k_unfold; (try dsimp only)) | ((with_reducible show wpAny _ _ (execs (List.cons _ List.nil) _) _ _ _); (try dsimp only); (try k_gentoks); (with_reducible refine execs_one ?_)) | ((with_reducible show wpAny _ _ (execs (List.cons _ _) _) _ _ _); (try dsimp only); (try k_gentoks); (with_reducible refine wpAny_execs_cons ?_)) | ((with_reducible show wpAny _ _ (exec (Stmt.If _ _ _ _) _) _ _ _); (with_reducible refine wpAny_If ?_)) | walk1 | (dsimp only; walk1)))
          (try dsimp only at *)
          rename Fr _ _ _ _ => F6
          rename News _ _ _ _ => N6
          rename (_ < _) ∧ _ => l6
          rename Obj.data _ = Data.cell (some (Value.int (_ + Nat.cast (List.length _)) _)) => d6
          have hvl := RowsIn.length hrows
          have hil : i + y.length ≤ x.length := by
            have h1 := congrArg List.length hytk
            rw [List.length_take, List.length_drop] at h1
            omega
          refine row_append F6 N6 (by k_mem) (by omega) ?_
          intro h8 F8 N8
          refine WEnd.intro (n' := x.length - (i + y.length)) (by omega) (read_end (k := kx) (y := y) hR9 hil F8 rfl N8 (by k_mem) (by k_mem) (by k_mem) (fun q hq => by (repeat (refine List.Mem.tail _ ?_)); exact hq) l6.2.2.2.1 d6 dT hoff hrows (by omega) ?_)
          intro ws hw
          rw [List.append_assoc]
          refine hgo _ ?_
          rw [← List.drop_drop] at hw
          rw [hdr] at hw hkn ⊢
          exact .op hsp hal hdg hkn hkx hw
  · rename Fr _ _ _ _ => F9
    rename News _ _ _ _ => N9
    rename (_ < _) ∧ _ => l9
    have hvl := RowsIn.length hrows
    refine row_append F9 N9 (by k_mem) (by omega) ?_
    intro h8 F8 N8
    clear F9 N9
    repeat' ((first | (k_unfold; (try dsimp only)) | ((with_reducible show wpAny _ _ (execs (List.cons _ List.nil) _) _ _ _); (try dsimp only); (try k_gentoks); (with_reducible refine execs_one ?_)) | ((with_reducible show wpAny _ _ (execs (List.cons _ _) _) _ _ _); (try dsimp only); (try k_gentoks); (with_reducible refine wpAny_execs_cons ?_)) | ((with_reducible show wpAny _ _ (exec (Stmt.If _ _ _ _) _) _ _ _); (with_reducible refine wpAny_If ?_)) | walk1 | (dsimp only; walk1)))
    refine hret _ _ _ F8.keep ⟨_, _, _, rows ++ [(0, [])], rfl, (N8 _ (List.Mem.head _)).1, (N8 _ (List.Mem.head _)).2.2, read_fin (k := 0) (y := []) N8 (by k_mem) (fun q hq => by (repeat (refine List.Mem.tail _ ?_)); exact hq) (Nat.ne_of_gt l9.1) hoff hrows, hgo _ ?_⟩
    rw [List.drop_of_length_le (by omega)]
    exact .nil
end
/-- the row's words: an operator of the table by its number, a name, a number -/
inductive GoodWd : Wd → Prop
  | op {k : Int} {w : List Nat} : (w, k) ∈ exactL → GoodWd (k, w)
  | nm {w : List Nat} : w ∈ names3 → GoodWd (1, w)
  | num {w : List Nat} : w ≠ [] → w.length ≤ 3 → (∀ c ∈ w, dgB c = true) → GoodWd (2, w)
def headIn (l : List Nat) (t : List Nat) : Bool := match t with
  | [] => false
  | c :: _ => l.contains c
def d10 : List Nat := [48, 49, 50, 51, 52, 53, 54, 55, 56, 57]
def d13 : List Nat := [48, 49, 50, 51, 52, 53, 54, 55, 56, 57, 97, 66, 122]
def grownB (k : Int) (w tail one : List Nat) : Bool := decide (6 < k) && (decide (w.length < one.length) && ((w ++ tail).take one.length == one))
/-- a blank is put behind this word -/
def needs (k : Int) (w tail : List Nat) : Bool := (told.any fun one => grownB k w tail one) || ((k == 1 && headIn d13 tail) || (k == 2 && headIn d10 tail))
def wr : List Wd → List (List Nat)
  | [] => []
  | (k, w) :: r => if needs k w (wr r).flatten then w :: [32] :: wr r else w :: wr r
theorem exact_facts : ∀ q ∈ exactL, q.1 ≠ [] ∧ q.1.length ≤ 3 ∧ 7 ≤ q.2 ∧ q.1 ∈ told ∧ exactL.lookup q.1 = some q.2 ∧ (∀ c ∈ q.1, c ≠ 32 ∧ spB c = false ∧ alB c = false ∧ dgB c = false) := by decide +kernel
theorem told_facts : ∀ o ∈ told, ((exactL.lookup o).isSome = true ∧ o.length ≤ 3) ∧ ∀ c ∈ o, c ≠ 32 := by decide +kernel
theorem names_facts : ∀ w ∈ names3, w ≠ [] ∧ w.length ≤ 3 ∧ (∀ c ∈ w, anB c = true) ∧ w.head?.all (fun c => spB c == false && alB c && d13.contains c) = true := by decide +kernel
theorem mem_of_lookup {y : List Nat} {k : Int} : ∀ {l : List (List Nat × Int)}, l.lookup y = some k → (y, k) ∈ l
  | [], h => by cases h
  | (z, j) :: l, h => by
    rw [List.lookup_cons] at h
    by_cases e : y = z
    · subst e
      simp only [beq_self_eq_true] at h
      cases h
      exact List.Mem.head _
    · rw [show (y == z) = false by simpa using e] at h
      exact List.Mem.tail _ (mem_of_lookup h)
theorem known_some {t o : List Nat} (ho : (exactL.lookup o).isSome = true) (h3 : o.length ≤ 3) (hp : t.take o.length = o) : ∃ y ys, knownL t = y :: ys ∧ o.length ≤ y.length := by
  have hlen : o.length ≤ t.length := by
    have := congrArg List.length hp
    rw [List.length_take] at this
    omega
  have hne : o.length ≠ 0 := by
    intro h0
    have : o = [] := List.length_eq_zero_iff.mp h0
    subst this
    revert ho; decide +kernel
  unfold knownL
  simp only [List.map_cons, List.map_nil, List.filter_cons, List.filter_nil]
  by_cases c3 : (exactL.lookup (t.take 3)).isSome = true
  · exact ⟨_, _, by rw [if_pos c3], by rw [List.length_take]; omega⟩
  · rw [if_neg c3]
    have n3 : o.length ≠ 3 := fun h => c3 (by rw [h] at hp; rw [hp]; exact ho)
    by_cases c2 : (exactL.lookup (t.take 2)).isSome = true
    · exact ⟨_, _, by rw [if_pos c2], by rw [List.length_take]; omega⟩
    · rw [if_neg c2]
      have n2 : o.length ≠ 2 := fun h => c2 (by rw [h] at hp; rw [hp]; exact ho)
      have n1 : o.length = 1 := by omega
      have c1 : (exactL.lookup (t.take 1)).isSome = true := by rw [n1] at hp; rw [hp]; exact ho
      exact ⟨_, _, by rw [if_pos c1], by rw [List.length_take]; omega⟩
/-- the signs that follow make the word longer -/
def Grows (k : Int) (w U : List Nat) : Prop := (6 < k ∧ ∃ one ∈ told, w.length < one.length ∧ (w ++ U).take one.length = one) ∨ (k = 1 ∧ ∃ c r, U = c :: r ∧ anB c = true) ∨ (k = 2 ∧ ∃ c r, U = c :: r ∧ dgB c = true)
theorem tw_nil {f : Nat → Bool} : ∀ (U : List Nat), U.takeWhile f ≠ [] ↔ ∃ c r, U = c :: r ∧ f c = true
  | [] => by simp
  | c :: r => by
    rw [List.takeWhile_cons]
    cases hf : f c <;> simp [hf]
theorem dw_drop {f : Nat → Bool} : ∀ (U : List Nat), U.dropWhile f = U.drop (U.takeWhile f).length
  | [] => rfl
  | c :: r => by
    rw [List.takeWhile_cons, List.dropWhile_cons]
    cases hf : f c <;> simp [dw_drop r]
theorem sp_inv {t : List Nat} {ws : List Wd} (h : Reads (32 :: t) ws) : Reads t ws := by
  cases h with
  | sp _ h => exact h
  | nm h _ _ => exact absurd h (by decide)
  | num h _ _ _ => exact absurd h (by decide)
  | stop h _ _ _ => exact absurd h (by decide)
  | op h _ _ _ _ _ => exact absurd h (by decide)
/-- the first word that is read begins with the word that stands there -/
theorem first {k : Int} {w U : List Nat} {ws : List Wd} (g : GoodWd (k, w)) (h : Reads (w ++ U) ws) :
    ∃ k' e ws', ws = (k', w ++ e) :: ws' ∧ Reads (U.drop e.length) ws' ∧ (e = [] → k' = k) ∧ (e ≠ [] ↔ Grows k w U) := by
  cases g with
  | op hm =>
    obtain ⟨hne, hl3, h7, htold, hlk, hch⟩ := exact_facts _ hm
    dsimp only at hne hl3 h7 htold hlk hch
    obtain ⟨c, w', rfl⟩ := List.exists_cons_of_ne_nil hne
    obtain ⟨_, hsp, hal, hdg⟩ := hch c (List.Mem.head _)
    obtain ⟨y0, ys0, hk0, hle0⟩ := known_some (t := c :: w' ++ U) (by rw [hlk]; rfl) hl3 (by simp)
    rw [List.cons_append] at h hk0
    cases h with
    | sp h' _ => rw [hsp] at h'; cases h'
    | nm _ h' _ => rw [hal] at h'; cases h'
    | num _ _ h' _ => rw [hdg] at h'; cases h'
    | stop _ _ _ h' => rw [hk0] at h'; cases h'
    | op q1 q2 q3 hk hlk' hr =>
      rename_i wsr y ys k'
      rw [hk] at hk0
      obtain ⟨hy00, _⟩ := List.cons.inj hk0
      rw [← hy00] at hle0
      obtain ⟨_, hy1, hy3, hyt⟩ := known_head hk
      have hy : y = (c :: w') ++ U.take (y.length - (c :: w').length) := by
        refine hyt.trans ?_
        rw [← List.cons_append, List.take_append, List.take_of_length_le hle0]
      have hye : y.length = (c :: w').length + (U.take (y.length - (c :: w').length)).length := by
        have := congrArg List.length hy
        rwa [List.length_append] at this
      generalize hE : U.take (y.length - (c :: w').length) = e at hy hye
      refine ⟨k', e, wsr, by rw [← hy], ?_, ?_, ?_⟩
      · rw [← List.cons_append, List.drop_append, List.drop_of_length_le hle0, List.nil_append] at hr
        rw [show e.length = y.length - (c :: w').length by omega]
        exact hr
      · intro he
        rw [he, List.append_nil] at hy
        rw [hy, hlk] at hlk'
        exact (Option.some.inj hlk').symm
      · constructor
        · intro he
          have hmy := mem_of_lookup hlk'
          refine .inl ⟨by omega, y, (exact_facts _ hmy).2.2.2.1, ?_, ?_⟩
          · have : 0 < e.length := List.length_pos_iff.mpr he
            omega
          · rw [List.cons_append]; exact hyt.symm
        · rintro (⟨_, one, ho, hlt, htk⟩ | ⟨h1, _⟩ | ⟨h2, _⟩)
          · obtain ⟨⟨ho1, ho2⟩, _⟩ := told_facts one ho
            rw [List.cons_append] at htk
            obtain ⟨y1, ys1, hk1, hle1⟩ := known_some ho1 ho2 htk
            rw [hk] at hk1
            rw [← (List.cons.inj hk1).1] at hle1
            intro he
            rw [he] at hye
            simp only [List.length_nil] at hye
            omega
          · omega
          · omega
  | nm hm =>
    obtain ⟨hne, hl3, han, hhd⟩ := names_facts _ hm
    obtain ⟨c, w', rfl⟩ := List.exists_cons_of_ne_nil hne
    have hhd' : spB c = false ∧ alB c = true := by
      simp only [List.head?_cons, Option.all_some, Bool.and_eq_true, beq_iff_eq] at hhd
      exact hhd.1
    obtain ⟨hsp, hal⟩ := hhd'
    have htw := List.takeWhile_append_of_pos (l₂ := U) han
    have hdw := List.dropWhile_append_of_pos (l₂ := U) han
    rw [List.cons_append] at h htw hdw
    cases h with
    | sp h' _ => rw [hsp] at h'; cases h'
    | num _ h' _ _ => rw [hal] at h'; cases h'
    | stop _ h' _ _ => rw [hal] at h'; cases h'
    | op _ h' _ _ _ _ => rw [hal] at h'; cases h'
    | nm q1 q2 hr =>
      rename_i wsr
      rw [hdw, dw_drop] at hr
      refine ⟨1, U.takeWhile anB, wsr, by rw [htw, List.cons_append], hr, fun _ => rfl, ?_⟩
      rw [tw_nil]
      constructor
      · intro h; exact .inr (.inl ⟨rfl, h⟩)
      · rintro (⟨h1, _⟩ | ⟨_, h⟩ | ⟨h2, _⟩)
        · omega
        · exact h
        · omega
  | num hne hl3 hdg =>
    obtain ⟨c, w', rfl⟩ := List.exists_cons_of_ne_nil hne
    have hc := hdg c (List.Mem.head _)
    have hcc : spB c = false ∧ alB c = false := by
      simp only [dgB, Bool.and_eq_true, decide_eq_true_eq] at hc
      constructor
      · simp only [spB, Bool.or_eq_false_iff, beq_eq_false_iff_ne]; omega
      · simp only [alB, upB, loB, Bool.or_eq_false_iff, Bool.and_eq_false_iff, decide_eq_false_iff_not]; omega
    obtain ⟨hsp, hal⟩ := hcc
    have htw := List.takeWhile_append_of_pos (l₂ := U) hdg
    have hdw := List.dropWhile_append_of_pos (l₂ := U) hdg
    rw [List.cons_append] at h htw hdw
    cases h with
    | sp h' _ => rw [hsp] at h'; cases h'
    | nm _ h' _ => rw [hal] at h'; cases h'
    | stop _ _ h' _ => rw [hc] at h'; cases h'
    | op _ _ h' _ _ _ => rw [hc] at h'; cases h'
    | num q1 q2 q3 hr =>
      rename_i wsr
      rw [hdw, dw_drop] at hr
      refine ⟨2, U.takeWhile dgB, wsr, by rw [htw, List.cons_append], hr, fun _ => rfl, ?_⟩
      rw [tw_nil]
      constructor
      · intro h; exact .inr (.inr ⟨rfl, h⟩)
      · rintro (⟨h1, _⟩ | ⟨h2, _⟩ | ⟨_, h⟩)
        · omega
        · omega
        · exact h
theorem grows_blank {k : Int} {w T : List Nat} : ¬ Grows k w (32 :: T) := by
  rintro (⟨_, one, ho, hlt, htk⟩ | ⟨_, c, r, e, h⟩ | ⟨_, c, r, e, h⟩)
  · refine (told_facts one ho).2 32 ?_ rfl
    rw [← htk, List.take_append]
    refine List.mem_append.mpr (.inr ?_)
    obtain ⟨n, hn⟩ : ∃ n, one.length - w.length = n + 1 := ⟨one.length - w.length - 1, by omega⟩
    rw [hn, List.take_succ_cons]
    exact List.Mem.head _
  · cases e; exact absurd h (by decide)
  · cases e; exact absurd h (by decide)
/-- a text that begins as the row's words begin -/
def HeadOk (T : List Nat) : Prop := ∀ c r, T = c :: r → anB c = true → c ∈ d13
theorem dg_tab : ∀ c : Fin 58, dgB c = d10.contains (c : Nat) := by decide +kernel
theorem d10_lt : ∀ c ∈ d10, c < 58 := by decide
theorem dg_in {c : Nat} : dgB c = true ↔ c ∈ d10 := by
  constructor
  · intro h
    have hlt : c < 58 := by
      have := (Bool.and_eq_true_iff.mp h).2
      exact Nat.lt_succ_of_le (of_decide_eq_true this)
    have q := dg_tab ⟨c, hlt⟩
    rw [show dgB ((⟨c, hlt⟩ : Fin 58) : Nat) = true from h] at q
    exact List.contains_iff_mem.mp q.symm
  · intro h
    exact (dg_tab ⟨c, d10_lt c h⟩).trans (List.contains_iff_mem.mpr h)
theorem d10_13 {c : Nat} (h : c ∈ d10) : c ∈ d13 := List.mem_append_left (bs := [97, 66, 122]) h
theorem needs_iff {k : Int} {w T : List Nat} (hT : HeadOk T) : needs k w T = true ↔ Grows k w T := by
  have hd : ∀ l, headIn l T = true ↔ ∃ c r, T = c :: r ∧ c ∈ l := by
    intro l
    cases T with
    | nil => simp [headIn]
    | cons c r => simp [headIn]
  unfold needs Grows
  simp only [Bool.or_eq_true, List.any_eq_true, grownB, Bool.and_eq_true, decide_eq_true_eq, beq_iff_eq, hd]
  refine or_congr ?_ (or_congr ?_ ?_)
  · constructor
    · rintro ⟨o, ho, h6, hl, ht⟩; exact ⟨h6, o, ho, hl, ht⟩
    · rintro ⟨h6, o, ho, hl, ht⟩; exact ⟨o, ho, h6, hl, ht⟩
  · refine and_congr Iff.rfl ?_
    constructor
    · rintro ⟨c, r, e, hc⟩
      refine ⟨c, r, e, ?_⟩
      revert c; intro c _ hc
      exact (show ∀ c ∈ d13, anB c = true by decide) c hc
    · rintro ⟨c, r, e, hc⟩
      exact ⟨c, r, e, hT c r e hc⟩
  · refine and_congr Iff.rfl ?_
    constructor
    · rintro ⟨c, r, e, hc⟩; exact ⟨c, r, e, dg_in.mpr hc⟩
    · rintro ⟨c, r, e, hc⟩; exact ⟨c, r, e, dg_in.mp hc⟩
theorem good_ne {k : Int} {w : List Nat} (g : GoodWd (k, w)) : w ≠ [] ∧ w.length ≤ 3 ∧ w ≠ [32] ∧ HeadOk w := by
  cases g with
  | op hm =>
    obtain ⟨hne, hl3, h7, htold, hlk, hch⟩ := exact_facts _ hm
    refine ⟨hne, hl3, ?_, ?_⟩
    · rintro rfl; exact (hch 32 (List.Mem.head _)).1 rfl
    · rintro c r rfl h
      obtain ⟨_, _, h1, h2⟩ := hch c (List.Mem.head _)
      simp [anB, h1, h2] at h
  | nm hm =>
    obtain ⟨hne, hl3, han, hhd⟩ := names_facts _ hm
    refine ⟨hne, hl3, ?_, ?_⟩
    · rintro rfl; exact absurd (han 32 (List.Mem.head _)) (by decide)
    · rintro c r rfl h
      simp only [List.head?_cons, Option.all_some, Bool.and_eq_true] at hhd
      simpa using hhd.2
  | num hne hl3 hdg =>
    refine ⟨hne, hl3, ?_, ?_⟩
    · rintro rfl; exact absurd (hdg 32 (List.Mem.head _)) (by decide)
    · rintro c r rfl h
      exact d10_13 (dg_in.mp (hdg c (List.Mem.head _)))
theorem head_ok {row : List Wd} (g : ∀ q ∈ row, GoodWd q) : HeadOk (wr row).flatten := by
  cases row with
  | nil => intro c r h; simp [wr] at h
  | cons q r =>
    obtain ⟨k, w⟩ := q
    obtain ⟨hne, _, _, hok⟩ := good_ne (g _ (List.Mem.head _))
    obtain ⟨c, w', rfl⟩ := List.exists_cons_of_ne_nil hne
    intro c' r' e h
    have : c = c' := by
      unfold wr at e
      split at e <;> (rw [List.flatten_cons, List.cons_append] at e; exact (List.cons.inj e).1)
    subst this
    exact hok c w' rfl h
/-- read again, the text gives just the row and an end -/
theorem reads_back : ∀ {row : List Wd} {ws : List Wd}, (∀ q ∈ row, GoodWd q) → Reads (wr row).flatten ws → ws = row ++ [(0, [])]
  | [], ws, _, h => by
    cases h with
    | nil => rfl
  | (k, w) :: r, ws, g, h => by
    have hok := head_ok fun q hq => g q (List.Mem.tail _ hq)
    unfold wr at h
    by_cases hn : needs k w (wr r).flatten = true
    · rw [if_pos hn, List.flatten_cons, List.flatten_cons] at h
      obtain ⟨k', e, ws', rfl, hr, hk, hg⟩ := first (g _ (List.Mem.head _)) h
      have he : e = [] := Classical.byContradiction fun h => grows_blank (hg.mp h)
      subst he
      rw [hk rfl, List.append_nil, reads_back (fun q hq => g q (List.Mem.tail _ hq)) (sp_inv hr)]
      rfl
    · rw [if_neg hn, List.flatten_cons] at h
      obtain ⟨k', e, ws', rfl, hr, hk, hg⟩ := first (g _ (List.Mem.head _)) h
      have he : e = [] := Classical.byContradiction fun h => hn ((needs_iff hok).mpr (hg.mp h))
      subst he
      rw [hk rfl, List.append_nil, reads_back (fun q hq => g q (List.Mem.tail _ hq)) hr]
      rfl
/-- with one of the blanks left out it does not -/
theorem reads_off : ∀ {row : List Wd} {j : Nat} {ws : List Wd}, (∀ q ∈ row, GoodWd q) → (wr row)[j]? = some [32] → Reads ((wr row).take j ++ (wr row).drop (j + 1)).flatten ws → ws ≠ row ++ [(0, [])]
  | [], j, ws, _, hj, _ => by simp [wr] at hj
  | (k, w) :: r, j, ws, g, hj, h => by
    have hok := head_ok fun q hq => g q (List.Mem.tail _ hq)
    have gr : ∀ q ∈ r, GoodWd q := fun q hq => g q (List.Mem.tail _ hq)
    have hg0 := g _ (List.Mem.head _)
    unfold wr at h hj
    intro hws
    subst hws
    by_cases hn : needs k w (wr r).flatten = true
    · rw [if_pos hn] at h hj
      match j, hj, h with
      | 0, hj, _ => exact (good_ne hg0).2.2.1 (by simpa using hj)
      | 1, _, h =>
        have h' : Reads (w ++ (wr r).flatten) ((k, w) :: r ++ [(0, [])]) := by simpa using h
        obtain ⟨k', e, ws', e1, hr, hk, hg⟩ := first hg0 h'
        have he := hg.mpr ((needs_iff hok).mp hn)
        rw [List.cons_append] at e1
        have e2 : w = w ++ e := congrArg Prod.snd (List.cons.inj e1).1
        exact he (List.append_cancel_left ((List.append_nil w).trans e2).symm)
      | j + 2, hj, h =>
        have hj' : (wr r)[j]? = some [32] := by simpa using hj
        have h' : Reads (w ++ 32 :: ((wr r).take j ++ (wr r).drop (j + 1)).flatten) ((k, w) :: r ++ [(0, [])]) := by simpa using h
        obtain ⟨k', e, ws', e1, hr, hk, hg⟩ := first hg0 h'
        have he : e = [] := Classical.byContradiction fun h => grows_blank (hg.mp h)
        subst he
        rw [List.cons_append] at e1
        exact reads_off gr hj' (sp_inv hr) (List.cons.inj e1).2.symm
    · rw [if_neg hn] at h hj
      match j, hj, h with
      | 0, hj, _ => exact (good_ne hg0).2.2.1 (by simpa using hj)
      | j + 1, hj, h =>
        have hj' : (wr r)[j]? = some [32] := by simpa using hj
        have h' : Reads (w ++ ((wr r).take j ++ (wr r).drop (j + 1)).flatten) ((k, w) :: r ++ [(0, [])]) := by simpa using h
        obtain ⟨k', e, ws', e1, hr, hk, hg⟩ := first hg0 h'
        rw [List.cons_append] at e1
        have e2 : w = w ++ e := congrArg Prod.snd (List.cons.inj e1).1
        have he : e = [] := List.append_cancel_left ((List.append_nil w).trans e2).symm
        subst he
        exact reads_off gr hj' hr (List.cons.inj e1).2.symm
theorem wr_len : ∀ {row : List Wd}, (∀ q ∈ row, GoodWd q) → (wr row).length ≤ 2 * row.length ∧ ∀ x ∈ wr row, x.length ≤ 3
  | [], _ => by simp [wr]
  | (k, w) :: r, g => by
    obtain ⟨ih1, ih2⟩ := wr_len fun q hq => g q (List.Mem.tail _ hq)
    have hw := (good_ne (g _ (List.Mem.head _))).2.1
    unfold wr
    split
    · refine ⟨by simp only [List.length_cons]; omega, ?_⟩
      intro x hx
      rcases List.mem_cons.mp hx with rfl | hx
      · exact hw
      · rcases List.mem_cons.mp hx with rfl | hx
        · decide
        · exact ih2 x hx
    · refine ⟨by simp only [List.length_cons]; omega, ?_⟩
      intro x hx
      rcases List.mem_cons.mp hx with rfl | hx
      · exact hw
      · exact ih2 x hx
theorem digs_nat (n : Nat) : digs (n : Int) = (Nat.toDigits 10 n).map Char.toNat := by
  unfold digs
  rw [Str.ofString_eq_toList]
  show (List.map Char.toNat (toString (n : Int)).toList) = _
  rw [show toString (n : Int) = String.ofList (Nat.toDigits 10 n) from rfl, String.toList_ofList]
theorem digs_all : ∀ n : Fin 1000, (Nat.toDigits 10 n).map Char.toNat ≠ [] ∧ ((Nat.toDigits 10 n).map Char.toNat).length ≤ 3 ∧ ∀ c ∈ (Nat.toDigits 10 n).map Char.toNat, dgB c = true := by decide +kernel
theorem word_good (n : Int) : GoodWd (wordOf n) := by
  have h60 := fmod_bd n 60 (by decide)
  have h3 := fmod_bd (n.fdiv 60) 3 (by decide)
  have h1000 := fmod_bd (n.fdiv 60) 1000 (by decide)
  unfold wordOf
  split
  · refine .op ?_
    have q := (show ∀ i : Fin 48, (told.getD i [], ((i : Nat) : Int) + 7) ∈ exactL by decide +kernel) ⟨(n.fmod 60).toNat, by omega⟩
    dsimp only at q
    rwa [Int.toNat_of_nonneg h60.1] at q
  · split
    · exact .nm ((show ∀ i : Fin 3, names3.getD i [] ∈ names3 by decide +kernel) ⟨((n.fdiv 60).fmod 3).toNat, by omega⟩)
    · have q := digs_all ⟨((n.fdiv 60).fmod 1000).toNat, by omega⟩
      dsimp only at q
      rw [← digs_nat, Int.toNat_of_nonneg h1000.1] at q
      exact .num q.1 q.2.1 q.2.2
theorem words_good (ns : List Int) : ∀ q ∈ words ns, GoodWd q := by
  intro q hq
  obtain ⟨j, _, rfl⟩ := List.mem_map.mp hq
  exact word_good _
/-- an own invariant of a loop over a list of the ledger -/
theorem items_inv {prog : Program} {w : World} {A : Around} {E : Value → Shared → Prop} {s : Shared} {env : Env} {h₀ : Heap} {target : PySem.Expr} {body : List Stmt} {Q : Flow → Shared → Prop} {I ax : Addr} {lo : Obj} {vs : List Value} (J : Nat → (Str → Option Value) → List (Addr × Obj) → Prop)
    (turn : ∀ i v m₁ news₁ o h tk, vs[i]? = some v → J i m₁ news₁ → Fr h₀ env.locals h m₁ → News h₀ env.locals h ((I, o) :: news₁) →
      wpAny (model prog w) A (assign target env v) (fun _ s₂ => wpAny (model prog w) A (execs body env) (UnrPostW h₀ env.locals { s with heap := h, toks := tk } [(I, o)] (fun m' n' => SubL [(ax, lo)] n' ∧ J (i + 1) m' n') Q) E s₂) E { s with heap := h, toks := tk })
    (done : ∀ m₁ news₁ h tk, J vs.length m₁ news₁ → Fr h₀ env.locals h m₁ → News h₀ env.locals h news₁ → Q .next { s with heap := h, toks := tk }) :
    ∀ (k i : Nat) (m₁ : Str → Option Value) (news₁ : List (Addr × Obj)), i + k = vs.length → J i m₁ news₁ → ItemsRest prog w A E h₀ env target body Q s [(I, "list_iterator")] [(ax, lo)] ((vs.drop i).map .val) m₁ news₁
  | 0, i, m₁, news₁, hi, hJ => by
    rw [List.drop_of_length_le (by omega)]
    refine ItemsRest.zero fun h tk F N => done m₁ news₁ h tk ?_ F N
    rw [show vs.length = i by omega]; exact hJ
  | k + 1, i, m₁, news₁, hi, hJ => by
    have hlt : i < vs.length := by omega
    rw [List.drop_eq_getElem_cons hlt, List.map_cons]
    refine ItemsRest.val fun h tk F => AllObj.cons fun o _ => AllObj.nil fun N => ?_
    refine wpAny_mono (turn i _ m₁ news₁ o h tk (List.getElem?_eq_getElem hlt) hJ F N) (fun _ s₂ h₂ => wpAny_mono h₂ (fun f s₃ h₃ => ?_) fun _ _ e => e) fun _ _ e => e
    have fin : UnrEndW h₀ env.locals { s with heap := h, toks := tk } [(I, o)] (fun m' n' => SubL [(ax, lo)] n' ∧ J (i + 1) m' n') s₃ → UnrEndW h₀ env.locals { s with heap := h, toks := tk } [(I, o)] (fun m' n' => SubL [(ax, lo)] n' ∧ ItemsRest prog w A E h₀ env target body Q s [(I, "list_iterator")] [(ax, lo)] ((vs.drop (i + 1)).map .val) m' n') s₃ := by
      rintro ⟨h', tk', m', n', e, F', N', off, hs, hJ'⟩
      exact ⟨h', tk', m', n', e, F', N', off, hs, items_inv J turn done k (i + 1) m' n' (by omega) hJ'⟩
    cases f with
    | ret v => exact h₃
    | brk => exact h₃
    | next => exact fin h₃
    | cont => exact fin h₃
theorem for_list {prog : Program} {w : World} {A : Around} {E : Value → Shared → Prop} {s : Shared} {env : Env} {h₀ : Heap} {target : PySem.Expr} {body : List Stmt} {Q : Flow → Shared → Prop} {ax : Addr} {vs : List Value} {n : Nat} {m₀ : Str → Option Value} {news : List (Addr × Obj)} (J : Nat → (Str → Option Value) → List (Addr × Obj) → Prop)
    (hh : A.handled = none) (F : Fr h₀ env.locals s.heap m₀) (N : News h₀ env.locals s.heap news) (hm : (ax, W.listOf vs.toArray n) ∈ news) (hJ : J 0 m₀ news)
    (turn : ∀ I, (∀ p ∈ news, p.1 < I) → ∀ i v m₁ news₁ o h tk, vs[i]? = some v → J i m₁ news₁ → Fr h₀ env.locals h m₁ → News h₀ env.locals h ((I, o) :: news₁) →
      wpAny (model prog w) A (assign target env v) (fun _ s₂ => wpAny (model prog w) A (execs body env) (UnrPostW h₀ env.locals { s with heap := h, toks := tk } [(I, o)] (fun m' n' => SubL [(ax, W.listOf vs.toArray n)] n' ∧ J (i + 1) m' n') Q) E s₂) E { s with heap := h, toks := tk })
    (done : ∀ m₁ news₁ h tk, J vs.length m₁ news₁ → Fr h₀ env.locals h m₁ → News h₀ env.locals h news₁ → Q .next { s with heap := h, toks := tk }) :
    wpAny (model prog w) A (pyIter (.ref ax)) (fun it s₂ => TurnsAt prog w A h₀ env target body Q E it s₂) E s := by
  refine iter_listTurns (news := news) hh F N hm rfl rfl fun I hI => ?_
  have q := items_inv (s := s) (E := E) (ax := ax) (lo := W.listOf vs.toArray n) J (turn I hI) done vs.length 0 m₀ news (Nat.zero_add _) hJ
  rw [List.drop_zero] at q; exact q
/-- a list as the source of a comprehension -/
theorem comp_lst {prog : Program} {w : World} {A : Around} {E : Value → Shared → Prop} {s : Shared} {h₀ : Heap} {L : Addr} {m : Str → Option Value} {env : Env} {ct elt : PySem.Expr} {x : Str} {scope : Scope} {cl : List (Str × Addr)} {Fin : Shared → List Value → List (Addr × Obj) → Prop} {T : Addr} {its : List Value} {nn : Nat} {news : List (Addr × Obj)} (hh : A.handled = none) (F : Fr h₀ L s.heap m) (N : News h₀ L s.heap news) (hT : (T, W.listOf its.toArray nn) ∈ news) (hsz : its.length ≤ 100000)
    (h : ∀ g, LCt.CompRestT prog w A h₀ L m env ct elt x scope cl { s with heap := g } (fun nw => (T, W.listOf its.toArray nn) ∈ nw) (fun i v => its.toArray[i]? = some v) (Fin { s with heap := g }) its.length 0 [] news) :
    wpAny (model prog w) A (pyIter (.ref T)) (fun it s₂ => ∃ (I : Addr) (fp : List Addr) (n : Nat) (P : Nat → Value → Prop) (St : Nat → Heap → Prop) (S : List (Addr × Obj) → Prop) (news : List (Addr × Obj)),
      it = .ref I ∧ Walks prog w A I fp [I] n P St ∧ n ≤ sizeLine ∧ (∀ i h, St i h → ∃ o, h.get? I = some o) ∧
      (∀ i h h' o nw, St i h → h.get? I = some o → h'.get? I = some o → (∀ b o, h₀.get? b = some o → h'.get? b = some o) → News h₀ L h' nw → S nw → St i h') ∧ St 0 s₂.heap ∧ (∀ b ∈ fp, b < s₂.heap.objs.size) ∧
      Fr h₀ L s₂.heap m ∧ News h₀ L s₂.heap news ∧ L ≠ I ∧ h₀.get? I = none ∧ (∀ p ∈ news, p.1 ≠ I) ∧ S news ∧
      LCt.CompRestT prog w A h₀ L m env ct elt x scope cl s₂ S P (Fin s₂) n 0 [] news) E s := by
  have hg := (N _ hT).1
  have hlt : T < s.heap.objs.size := Heap.lt_size hg
  have ht : s.heap.IsList T its.toArray := ⟨_, hg, rfl, _, rfl⟩
  have up : ∀ b o, s.heap.get? b = some o → (s.heap.push { cls := .type "list_iterator", data := .fields #[.ref T, .int 0 0] }).get? b = some o := fun b o e => Heap.get?_push_of_some _ e
  refine wpAny_pyIter_list ht ?_
  have Wk := Walks.list (prog := prog) (w := w) hh s.heap.objs.size T (Nat.ne_of_lt hlt) its.toArray
  rw [show its.toArray.size = its.length by simp] at Wk
  refine ⟨s.heap.objs.size, _, its.length, _, _, (fun nw => (T, W.listOf its.toArray nn) ∈ nw), news, rfl, Wk, by rw [sizeLine_eq]; omega, ?_, ?_, ⟨⟨_, Heap.get?_push_size _ rfl, rfl, rfl⟩, ht.at fun o e => up _ o e⟩, ?_,
    F.keeps up, N.grown up, Nat.ne_of_lt F.ns.lt, next_is_new F, fun p hp => Nat.ne_of_lt (Heap.lt_size (N p hp).1), hT, h _⟩
  · intro i h st
    obtain ⟨o, e, _⟩ := st.1
    exact ⟨o, e⟩
  · intro i h h' o nw st e e' k N' S
    refine ⟨?_, ⟨_, (N' _ S).1, rfl, _, rfl⟩⟩
    obtain ⟨o', q, r⟩ := st.1
    rw [e] at q; cases q
    exact ⟨o, e', r⟩
  · intro b hb
    show b < (s.heap.push _).objs.size
    rw [Heap.size_push]
    rcases List.mem_cons.mp hb with rfl | hb
    · exact Nat.lt_succ_self _
    · rw [List.mem_singleton.mp hb]; exact Nat.lt_succ_of_lt hlt
theorem news_sub {h₀ h : Heap} {L : Addr} {all news : List (Addr × Obj)} (N : News h₀ L h all) (hs : SubL news all) : News h₀ L h news := fun q hq => N q (hs.mem q hq)
theorem news_turn {h₀ h : Heap} {L : Addr} {D T P W K t : Addr × Obj} (N : News h₀ L h [D, T, P, W, K, t]) : News h₀ L h [P, W, K, t, T, D] :=
  news_sub N ⟨.tail _ (.tail _ (.head _)), .tail _ (.tail _ (.tail _ (.head _))), .tail _ (.tail _ (.tail _ (.tail _ (.head _)))), .tail _ (.tail _ (.tail _ (.tail _ (.tail _ (.head _))))), .tail _ (.head _), .head _, trivial⟩
theorem strs_mem : ∀ {l : List (List Nat)} {vs : List Value} {v : Value}, StrsAre vs (l.map mkS) → v ∈ vs → ∃ (o : List Nat) (t : Tok), v = .str (mkS o) t ∧ o ∈ l
  | [], vs, v, h, hv => by rw [StrsAre.nil_inv h] at hv; cases hv
  | o :: l, vs, v, h, hv => by
    obtain ⟨t, vs', rfl, h'⟩ := StrsAre.cons_inv h
    rcases List.mem_cons.mp hv with rfl | hv
    · exact ⟨o, t, rfl, List.Mem.head _⟩
    · obtain ⟨o', t', e, hm⟩ := strs_mem h' hv
      exact ⟨o', t', e, List.Mem.tail _ hm⟩
theorem RowsAt.get {h : Heap} : ∀ {vs : List Value} {ws : List Wd}, RowsAt h vs ws → ∀ (i : Nat) (v : Value), vs[i]? = some v → ∃ T k t u x, v = .ref T ∧ ws[i]? = some (k, x) ∧ h.get? T = some (tupOf k t (mkS x) u)
  | _, _, .nil, i, v, e => by simp at e
  | _, _, .cons hm r, 0, v, e => by
    simp only [List.getElem?_cons_zero] at e ⊢
    cases e
    exact ⟨_, _, _, _, _, rfl, rfl, hm⟩
  | _, _, .cons hm r, i + 1, v, e => by
    simp only [List.getElem?_cons_succ] at e ⊢
    exact RowsAt.get r i v e
theorem RowsAt.getR {h : Heap} {vs : List Value} {ws : List Wd} (r : RowsAt h vs ws) {i : Nat} {v : Value} (e : vs.reverse[i]? = some v) : ∃ T k t u x, v = .ref T ∧ ws.drop (ws.length - (i + 1)) = (k, x) :: ws.drop (ws.length - i) ∧ (k, x) ∈ ws ∧ h.get? T = some (tupOf k t (mkS x) u) ∧ i < ws.length := by
  have hl := RowsAt.length r
  have hi : i < vs.length := by
    have := (List.getElem?_eq_some_iff.mp e).1
    simpa using this
  rw [List.getElem?_reverse hi] at e
  obtain ⟨T, k, t, u, x, rfl, hw, hT⟩ := RowsAt.get r _ _ e
  refine ⟨T, k, t, u, x, rfl, ?_, List.mem_of_getElem? hw, hT, by omega⟩
  obtain ⟨hlt, hg⟩ := List.getElem?_eq_some_iff.mp hw
  rw [show ws.length - (i + 1) = vs.length - 1 - i by omega, List.drop_eq_getElem_cons hlt, hg, show vs.length - 1 - i + 1 = ws.length - i by omega]
def gfB (k : Int) (w tail : List Nat) : Value → Bool
  | .str y _ => grownB k w tail y.cps.toList
  | _ => false
def ggS : Value → Str
  | .str y _ => y
  | _ => Str.empty
theorem grown_1 {k : Int} {w tail one : List Nat} {t : Tok} {b : Bool} (h6 : 6 < k) (h : (w.length : Int) < (one.length : Int)) (e : ((w ++ tail).take one.length == one) = b) : b = gfB k w tail (.str (mkS one) t) := by
  show b = grownB k w tail one
  rw [grownB, decide_eq_true h6, decide_eq_true (show w.length < one.length by omega), e]; rfl
theorem grown_2 {k : Int} {w tail one : List Nat} {t : Tok} (h : ¬ (w.length : Int) < (one.length : Int)) : false = gfB k w tail (.str (mkS one) t) := by
  show false = grownB k w tail one
  rw [grownB, decide_eq_false (show ¬ w.length < one.length by omega), Bool.false_and, Bool.and_false]
theorem grown_3 {k : Int} {w tail one : List Nat} {t : Tok} (h : ¬ 6 < k) : false = gfB k w tail (.str (mkS one) t) := by
  show false = grownB k w tail one
  rw [grownB, decide_eq_false h, Bool.false_and]
theorem grown_eq (k : Int) (w tail : List Nat) : ∀ (l : List (List Nat)) (vs : List Value), StrsAre vs (l.map mkS) → (vs.filter (gfB k w tail)).map ggS = (l.filter fun o => grownB k w tail o).map mkS
  | [], vs, h => by rw [StrsAre.nil_inv h]; rfl
  | o :: l, vs, h => by
    obtain ⟨t, vs', rfl, h'⟩ := StrsAre.cons_inv h
    have ih := grown_eq k w tail l vs' h'
    have e : gfB k w tail (.str (mkS o) t) = grownB k w tail o := rfl
    rw [List.filter_cons, List.filter_cons, e]
    cases grownB k w tail o
    · rw [if_neg (by simp), if_neg (by simp)]; exact ih
    · rw [if_pos rfl, if_pos rfl, List.map_cons, List.map_cons, ih]; rfl
/-- what holds between two turns of the writing -/
abbrev WJ (L' T D : Addr) (vt rv : List Value) (ws : List Wd) (i : Nat) (m : Str → Option Value) (nw : List (Addr × Obj)) : Prop := ∃ (P : Addr) (vp : List Value) (np : Nat) (oW oK oT : Obj) (t : Tok) (xW xK : Option Value) (u : Str → Option Value),
  @LT.lt Nat _ (L' + 1 + 1 + 1) P ∧ (m = fun y => if y = Str.ofString "pieces" then some (.ref P) else if y = Str.ofString "told" then some (.ref T) else u y) ∧
  nw = [(P, W.listOf (List.toArray vp) np), (L' + 1 + 1 + 1, oW), (L' + 1 + 1, oK), (L' + 1, oT), (T, W.listOf (List.toArray vt) 0), (D, W.listOf (List.toArray rv) 0)] ∧
  oW.data = .cell xW ∧ oK.data = .cell xK ∧ oT.data = .cell (some (.str (mkS (wr (ws.drop (ws.length - i))).flatten) t)) ∧ StrsAre vp ((wr (ws.drop (ws.length - i))).map mkS)
theorem mkS_append (a b : List Nat) : mkS a ++ mkS b = mkS (a ++ b) := by
  show (⟨a.toArray ++ b.toArray⟩ : Str) = ⟨(a ++ b).toArray⟩
  rw [List.append_toArray]
theorem wr_flat : ∀ {row : List Wd}, (∀ q ∈ row, q.2.length ≤ 3) → (wr row).flatten.length ≤ 4 * row.length
  | [], _ => by simp [wr]
  | (k, w) :: r, g => by
    have ih := wr_flat fun q hq => g q (List.Mem.tail _ hq)
    have hw : w.length ≤ 3 := g _ (List.Mem.head _)
    unfold wr
    split <;> simp only [List.flatten_cons, List.length_append, List.length_cons, List.length_nil] <;> omega
theorem wr_cnt : ∀ (row : List Wd), (wr row).length ≤ 2 * row.length
  | [] => by simp [wr]
  | (k, w) :: r => by
    have ih := wr_cnt r
    unfold wr
    split <;> simp only [List.length_cons] <;> omega
theorem str_inj {a b : List Nat} : (mkS a == mkS b) = (a == b) := by
  rw [Bool.eq_iff_iff, beq_iff_eq, beq_iff_eq, mkS_inj]
section
variable {prog : Program} {w : World} {A : Around} {E : Value → Shared → Prop} {s : Shared} {value slice : PySem.Expr} {x y : List Nat} {t u : Tok} {h₀ : Heap} {L : Addr} {m : Str → Option Value} {news : List (Addr × Obj)} {Q : Value → Shared → Prop}
theorem str_add (hb : x.length + y.length ≤ 100000) (h : ∀ t' tk, Q (.str (mkS (x ++ y)) t') { s with toks := tk }) : wpAny (model prog w) A (binaryOp .Add (.str (mkS x) t) (.str (mkS y) u)) Q E s :=
  PyProof.Rows.add_str (fun t' tk => by rw [mkS_append]; exact h t' tk) (by rw [mkS_length, mkS_length, sizeLine_eq]; omega)
theorem str_addB (hb : y.length ≤ 10000) (h : ∀ t' tk, Q (.str (mkS (32 :: y)) t') { s with toks := tk }) : wpAny (model prog w) A (binaryOp .Add (.str (Str.ofString " ") t) (.str (mkS y) u)) Q E s := by
  rw [show Str.ofString " " = mkS [32] by decide +kernel]
  exact str_add (by simp only [List.length_cons, List.length_nil]; omega) h
theorem str_eq (h : Q (.bool (x == y)) s) : wpAny (model prog w) A (compareOp .Eq (.str (mkS x) t) (.str (mkS y) u)) Q E s :=
  PyProof.Rows.eq_str (by rw [str_inj]; exact h)
theorem str_ne0 (h : Q (.bool (!(x == []))) s) : wpAny (model prog w) A (compareOp .NotEq (.str (mkS x) t) (.str (Str.ofString "") u)) Q E s := by
  rw [show Str.ofString "" = mkS [] by decide +kernel]
  exact PyProof.Rows.ne_str (by first | (rw [str_inj]; exact h) | (simp only [bne, str_inj]; exact h))
theorem str_cut1 {uj : Tok} (hF : Fr h₀ L s.heap m) (hN : News h₀ L s.heap news) (hb : x.length ≤ 100000) (h : ∀ h' t' k, Fr h₀ L h' m → News h₀ L h' news → Q (.str (mkS (x.take 1)) t') { s with heap := h', toks := k })
    (hs : subscripted slice false (.str (mkS x) t) (.ref s.heap.objs.size) = operate [.ref s.heap.objs.size, .str (mkS x) t] (getItem (.str (mkS x) t) (.ref s.heap.objs.size)))
    (ht : ∀ r, letTemporaryGo value (.str (mkS x) t) r = pure ()) :
    wpAny (model prog w) A (subscriptTail value slice (.str (mkS x) t) (.ref s.heap.objs.size)) Q E { s with heap := s.heap.push { cls := .type "slice", data := .fields #[.none, .int 1 uj, .none] } } :=
  str_cut0 (j := 1) hF hN hb h hs ht
theorem lst_add {a b : Addr} {xs ys : List Value} (F : Fr h₀ L s.heap m) (N : News h₀ L s.heap news) (ha : s.heap.IsList a xs.toArray) (hb : s.heap.IsList b ys.toArray) (hz : xs.length + ys.length ≤ 100000)
    (h : ∀ D h', Fr h₀ L h' m → News h₀ L h' ((D, W.listOf (List.toArray (xs ++ ys)) 0) :: news) → (∀ p ∈ news, p.1 < D) → Q (.ref D) { s with heap := h' }) : wpAny (model prog w) A (binaryOp .Add (.ref a) (.ref b)) Q E s :=
  kmk_add_lit F N ha hb rfl h (by rw [sizeLine_eq]; show xs.length + ys.length ≤ _; omega)
theorem lst_ne {a b : Addr} {xs : List Value} {v : Value} (ha : s.heap.IsList a (List.toArray (v :: xs))) (hb : s.heap.IsList b #[]) (hu : A.units < cLine) (h : Q (.bool true) s) : wpAny (model prog w) A (compareOp .NotEq (.ref a) (.ref b)) Q E s :=
  PySem.SeqAt.RcNeAt.lists_lengths ha hb (by simp) hu prog w E Q h
theorem lst_ne_nil {a b : Addr} (ha : s.heap.IsList a #[]) (hb : s.heap.IsList b #[]) (hu : A.units < cLine) (h : Q (.bool false) s) : wpAny (model prog w) A (compareOp .NotEq (.ref a) (.ref b)) Q E s :=
  PySem.SeqAt.RcNeAt.lists (e := fun _ => true) ha hb rfl hu (by intro j h1; exact absurd h1 (Nat.not_lt_zero _)) prog w E Q h
theorem str_cut1c {c : Nat} {r : List Nat} {uj : Tok} (hF : Fr h₀ L s.heap m) (hN : News h₀ L s.heap news) (hb : r.length ≤ 10000) (h : ∀ h' t' k, Fr h₀ L h' m → News h₀ L h' news → Q (.str (mkS [c]) t') { s with heap := h', toks := k })
    (hs : subscripted slice false (.str (mkS (c :: r)) t) (.ref s.heap.objs.size) = operate [.ref s.heap.objs.size, .str (mkS (c :: r)) t] (getItem (.str (mkS (c :: r)) t) (.ref s.heap.objs.size)))
    (ht : ∀ q, letTemporaryGo value (.str (mkS (c :: r)) t) q = pure ()) :
    wpAny (model prog w) A (subscriptTail value slice (.str (mkS (c :: r)) t) (.ref s.heap.objs.size)) Q E { s with heap := s.heap.push { cls := .type "slice", data := .fields #[.none, .int 1 uj, .none] } } :=
  str_cut0 (j := 1) hF hN (by simp only [List.length_cons]; omega) h hs ht
theorem str_nec {c : Nat} {r : List Nat} (h : Q (.bool true) s) : wpAny (model prog w) A (compareOp .NotEq (.str (mkS (c :: r)) t) (.str (Str.ofString "") u)) Q E s := str_ne0 h
theorem str_item0 {c : Nat} {r : List Nat} (hb : r.length ≤ 10000) (h : ∀ t k, Q (.str ⟨#[c]⟩ t) { s with toks := k })
    (hs : subscripted slice false (.str (mkS (c :: r)) t) (.int 0 u) = operate [.str (mkS (c :: r)) t, .int 0 u] (getItem (.str (mkS (c :: r)) t) (.int 0 u)))
    (ht : ∀ q, letTemporaryGo value (.str (mkS (c :: r)) t) q = pure ()) : wpAny (model prog w) A (subscriptTail value slice (.str (mkS (c :: r)) t) (.int 0 u)) Q E s :=
  str_item (x := c :: r) (i := 0) (by simp) (by simp only [List.length_cons]; omega) h hs ht
theorem str_in13 {c : Nat} (h : Q (.bool (d13.contains c)) s) : wpAny (model prog w) A (compareOp .In (.str ⟨#[c]⟩ t) (.str (Str.ofString "0123456789aBz") u)) Q E s := by
  refine PyProof.Rows.in_str ?_
  rw [PySem.StrLaws.found_one, show (Str.ofString "0123456789aBz").cps.toList = d13 by decide +kernel]
  exact (show d13.contains c = decide (c ∈ d13) by simp) ▸ h
theorem str_in10 {c : Nat} (h : Q (.bool (d10.contains c)) s) : wpAny (model prog w) A (compareOp .In (.str ⟨#[c]⟩ t) (.str (Str.ofString "0123456789") u)) Q E s := by
  refine PyProof.Rows.in_str ?_
  rw [PySem.StrLaws.found_one, show (Str.ofString "0123456789").cps.toList = d10 by decide +kernel]
  exact (show d10.contains c = decide (c ∈ d10) by simp) ▸ h
end
/-- a test that comes out as told, nothing changed: the two ways behind it -/
theorem cut_if {prog : Program} {w : World} {A : Around} {env : Env} {test : PySem.Expr} {body orelse : List Stmt} {pos : Pos} {Q : Flow → Shared → Prop} {s : Shared} {h₀ : Heap} {L : Addr} {m : Str → Option Value} {news : List (Addr × Obj)} (Bv : Bool) (_F : Fr h₀ L s.heap m) (_N : News h₀ L s.heap news)
    (h1 : wpAny (model prog w) A (isTrue test env (eval test env)) (fun b s' => b = Bv ∧ Quiet h₀ L m s news s') (fun _ _ => False) s)
    (h2 : ∀ h' tk', Fr h₀ L h' m → News h₀ L h' news → if Bv = true then wpAny (model prog w) A (execs body env) Q (fun _ _ => False) { s with heap := h', toks := tk' } else wpAny (model prog w) A (execs orelse env) Q (fun _ _ => False) { s with heap := h', toks := tk' }) :
    wpAny (model prog w) A (exec (.If test body orelse pos) env) Q (fun _ _ => False) s := by
  refine wpAny_If (wpAny_mono h1 (fun b s' hb => ?_) fun _ _ e => e)
  obtain ⟨rfl, h', tk', rfl, F', N'⟩ := hb
  exact h2 h' tk' F' N'
def hintB (k : Int) (tail : List Nat) : Bool := (k == 1 && headIn d13 tail) || (k == 2 && headIn d10 tail)
theorem needs_hint {k : Int} {x tail : List Nat} (h : hintB k tail = true) : needs k x tail = true := by
  show (_ || hintB k tail) = true
  rw [h, Bool.or_true]
theorem needs_not {k : Int} {x tail : List Nat} (h : hintB k tail = false) (hf : told.filter (fun o => grownB k x tail o) = []) : needs k x tail = false := by
  show (_ || hintB k tail) = false
  rw [h, Bool.or_false, List.any_eq_false]
  intro o ho
  exact List.filter_eq_nil_iff.mp hf o ho
theorem needs_some {k : Int} {x tail : List Nat} {o : List Nat} {os : List (List Nat)} (hf : told.filter (fun o => grownB k x tail o) = o :: os) : needs k x tail = true := by
  have hm : o ∈ told.filter (fun o => grownB k x tail o) := by rw [hf]; exact List.Mem.head _
  obtain ⟨h1, h2⟩ := List.mem_filter.mp hm
  show (_ || hintB k tail) = true
  rw [List.any_eq_true.mpr ⟨o, h1, h2⟩, Bool.true_or]
theorem wr_blank {k : Int} {x : List Nat} {row : List Wd} (h : needs k x (wr row).flatten = true) : wr ((k, x) :: row) = x :: [32] :: wr row := by rw [wr, if_pos h]
theorem wr_plain {k : Int} {x : List Nat} {row : List Wd} (h : needs k x (wr row).flatten = false) : wr ((k, x) :: row) = x :: wr row := by rw [wr, if_neg (by rw [h]; decide)]
theorem strs_blank {t : Tok} {vs : List Value} {l : List Str} (h : StrsAre vs l) : StrsAre (.str (Str.ofString " ") t :: vs) (mkS [32] :: l) := by
  rw [show Str.ofString " " = mkS [32] by decide +kernel]
  exact .cons _ _ h
/-- a turn's end: what holds between two turns holds anew -/
theorem write_end {h₀ h8 : Heap} {L' T D P I : Addr} {vt rv vp : List Value} {ws row : List Wd} {i np : Nat} {m' : Str → Option Value} {news : List (Addr × Obj)} {oW oK oT o : Obj} {xW xK : Option Value} {t : Tok} {k : Int} {x : List Nat} {ps : List (List Nat)} {s₁ : Shared} {tk : Nat}
    (hdrop : ws.drop (ws.length - (i + 1)) = (k, x) :: row) (hps : wr ((k, x) :: row) = ps) (F : Fr h₀ L' h8 m') (hm1 : m' (Str.ofString "pieces") = some (.ref P)) (hm2 : m' (Str.ofString "told") = some (.ref T)) (N : News h₀ L' h8 news)
    (q1 : (P, W.listOf (List.toArray vp) np) ∈ news) (q2 : (L' + 1 + 1 + 1, oW) ∈ news) (q3 : (L' + 1 + 1, oK) ∈ news) (q4 : (L' + 1, oT) ∈ news) (q5 : (T, W.listOf (List.toArray vt) 0) ∈ news) (q6 : (D, W.listOf (List.toArray rv) 0) ∈ news) (q7 : (I, o) ∈ news)
    (hP : @LT.lt Nat _ (L' + 1 + 1 + 1) P) (n1 : @Ne Nat P I) (n2 : @LT.lt Nat _ (L' + 1 + 1 + 1) I) (n5 : @Ne Nat T I) (n6 : @Ne Nat D I)
    (dW : oW.data = .cell xW) (dK : oK.data = .cell xK) (dT : oT.data = .cell (some (.str (mkS ps.flatten) t))) (hS : StrsAre vp (ps.map mkS)) :
    UnrEndW h₀ L' s₁ [(I, o)] (fun m' n' => SubL [(D, W.listOf (List.toArray rv) 0)] n' ∧ WJ L' T D vt rv ws (i + 1) m' n') { s₁ with heap := h8, toks := tk } := by
  refine ⟨h8, tk, _, [(P, W.listOf (List.toArray vp) np), (L' + 1 + 1 + 1, oW), (L' + 1 + 1, oK), (L' + 1, oT), (T, W.listOf (List.toArray vt) 0), (D, W.listOf (List.toArray rv) 0)], rfl, fr_name (y := Str.ofString "pieces") (fr_name (y := Str.ofString "told") F hm2) hm1, news_sub N ⟨q7, q1, q2, q3, q4, q5, q6, trivial⟩, ?_, ⟨.tail _ (.tail _ (.tail _ (.tail _ (.tail _ (.head _))))), trivial⟩, ⟨P, vp, np, oW, oK, oT, t, xW, xK, m', hP, rfl, rfl, dW, dK, ?_, ?_⟩⟩
  · intro p hp q hq
    rw [List.mem_singleton.mp hq]
    simp only [List.mem_cons, List.not_mem_nil, or_false] at hp
    rcases hp with rfl | rfl | rfl | rfl | rfl | rfl
    · exact n1
    · exact neN (by omega)
    · exact neN (by omega)
    · exact neN (by omega)
    · exact n5
    · exact n6
  · rw [hdrop, hps]; exact dT
  · rw [hdrop, hps]; exact hS
theorem hint_n {k : Int} : false = hintB k [] := by simp [hintB, headIn]
theorem hint_a {k : Int} {c : Nat} {r : List Nat} (h : k = 1) (e : d13.contains c = true) : true = hintB k (c :: r) := by rw [h]; simp only [hintB, headIn, e]; rfl
theorem hint_b {k : Int} {c : Nat} {r : List Nat} (h : k ≠ 2) (e : d13.contains c = false) : false = hintB k (c :: r) := by simp only [hintB, headIn, e, show (k == 2) = false by simpa using h, Bool.and_false, Bool.false_and, Bool.or_false]
theorem hint_c {k : Int} {c : Nat} {r : List Nat} {b : Bool} (h : k ≠ 1) (h2 : k = 2) (e : d10.contains c = b) : b = hintB k (c :: r) := by rw [h2]; simp only [hintB, headIn, e]; simp
theorem hint_d {k : Int} {c : Nat} {r : List Nat} (h : k ≠ 1) (h2 : k ≠ 2) : false = hintB k (c :: r) := by simp only [hintB, show (k == 1) = false by simpa using h, show (k == 2) = false by simpa using h2, Bool.false_and, Bool.or_false]
section
local macro_rules | `(tactic| walk_at "subscriptTail Name Slice ref ref") => `(tactic| (k_here; (with_reducible show wpAny _ _ (subscriptTail _ (PySem.Expr.Slice none none (some _) _) (Value.ref _) (Value.ref _)) _ _ _); k_dflt (refine' krv_lit ?F ?N ?l ?k ?e ?_ ?s ?t ?z; (case F => k_asm); (case N => k_asm); (case l => kmk_list); (case k => exact IsPart.int _ _); (case e => rfl); (case s => with_unfolding_all rfl); (case t => kmk_pure); (case z => (simp only [List.size_toArray, sizeLine_eq]; omega))); intro D' h' F' N' l1; (try k_lt l1); (try k_sweep)))
local macro_rules | `(tactic| walk_at "call builtin:len") => `(tactic| ((with_reducible show wpAny _ _ (call (Value.builtin "len") [Value.str (mkS _) _]) _ _ _); refine str_len (by omega) ?_; intro t' k'))
local macro_rules | `(tactic| walk_at "binaryOp Add str str") => `(tactic| ((with_reducible show wpAny _ _ (binaryOp Operator.Add (Value.str (mkS _) _) (Value.str (mkS _) _)) _ _ _); refine str_add (by first | omega | (simp only [List.length_cons]; omega)) ?_; intro t' k'))
local macro_rules | `(tactic| walk_at "binaryOp Add str str") => `(tactic| ((with_reducible show wpAny _ _ (binaryOp Operator.Add (Value.str (Str.ofString " ") _) (Value.str (mkS _) _)) _ _ _); refine str_addB (by omega) ?_; intro t' k'))
local macro_rules | `(tactic| walk_at "subscriptTail Name Slice str ref") => `(tactic| ((with_reducible show wpAny _ _ (subscriptTail _ (PySem.Expr.Slice none (some _) none _) (Value.str (mkS _) _) (Value.ref _)) _ _ _); k_dflt (refine' str_cut0 ?F ?N ?c ?_ ?s ?t; (case F => k_asm); (case N => k_asm); (case c => first | omega | (simp only [List.length_append]; omega)); (case s => with_unfolding_all rfl); (case t => kmk_pure)); intro h' t' k' F' N'; (try k_sweep)))
local macro_rules | `(tactic| walk_at "subscriptTail Name Slice str ref") => `(tactic| ((with_reducible show wpAny _ _ (subscriptTail _ (PySem.Expr.Slice none (some _) none _) (Value.str (mkS _) _) (Value.ref _)) _ _ _); k_dflt (refine' str_cut1 ?F ?N ?c ?_ ?s ?t; (case F => k_asm); (case N => k_asm); (case c => omega); (case s => with_unfolding_all rfl); (case t => kmk_pure)); intro h' t' k' F' N'; (try k_sweep)))
local macro_rules | `(tactic| walk_at "subscriptTail Name Slice str ref") => `(tactic| ((with_reducible show wpAny _ _ (subscriptTail _ (PySem.Expr.Slice none (some _) none _) (Value.str (mkS (List.cons _ _)) _) (Value.ref _)) _ _ _); k_dflt (refine' str_cut1c ?F ?N ?c ?_ ?s ?t; (case F => k_asm); (case N => k_asm); (case c => omega); (case s => with_unfolding_all rfl); (case t => kmk_pure)); intro h' t' k' F' N'; (try k_sweep)))
local macro_rules | `(tactic| walk_at "compareOp Eq str str") => `(tactic| ((with_reducible show wpAny _ _ (compareOp CmpOp.Eq (Value.str (mkS _) _) (Value.str (mkS _) _)) _ _ _); refine str_eq ?_))
local macro_rules | `(tactic| walk_at "compareOp NotEq str str") => `(tactic| ((with_reducible show wpAny _ _ (compareOp CmpOp.NotEq (Value.str (mkS _) _) (Value.str (Str.ofString "") _)) _ _ _); refine str_ne0 ?_))
local macro_rules | `(tactic| walk_at "compareOp NotEq str str") => `(tactic| ((with_reducible show wpAny _ _ (compareOp CmpOp.NotEq (Value.str (mkS (List.cons _ _)) _) (Value.str (Str.ofString "") _)) _ _ _); refine str_nec ?_))
local macro_rules | `(tactic| walk_at "compareOp In str str") => `(tactic| ((with_reducible show wpAny _ _ (compareOp CmpOp.In (Value.str _ _) (Value.str _ _)) _ _ _); first | refine str_in13 ?_ | refine str_in10 ?_))
local macro_rules | `(tactic| walk_at "subscriptTail Name Constant str int") => `(tactic| ((with_reducible show wpAny _ _ (subscriptTail _ _ (Value.str (mkS (List.cons _ _)) _) (Value.int _ _)) _ _ _); refine str_item0 (by omega) ?_ (by with_unfolding_all rfl) (by intro _; with_unfolding_all rfl); intro t' k'))
set_option maxRecDepth 100000 in
set_option maxHeartbeats 8000000 in
theorem py_written {w : World} {p : Program} {loose : List Str} {mean : ExcName → Option Value} {mg mb : Str → Option Value} (a : Addr) (vs : List Value) (ws : List Wd) :
    Ctr w p loose mean mg mb 400 200 106 [.ref a] (fun h => h.IsList a vs.toArray ∧ RowsAt h vs ws ∧ ws.length ≤ 100 ∧ ∀ q ∈ ws, q.2.length ≤ 3) (fun h h' r => ∃ D vs' n, r = .ref D ∧ h'.get? D = some (W.listOf (List.toArray vs') n) ∧ h.get? D = none ∧ StrsAre vs' ((wr ws).map mkS)) := by
  w_on
  intro outer A₀ base s R B X T hpre hret
  obtain ⟨hL, hRows, hlen, hw3⟩ := hpre
  have hvl := RowsAt.length hRows
  k_dflt (refine' enterC (binds := [(Str.ofString "row", .ref a)]) ?k1 ?k2 ?k3 ?k4 ?k5 ?k6 ?k7 ?k8 ?_ ?c2 ?c3 ?c4; (case k1 => k_asm); (case k2 => k_asm); (case k3 => k_is); (case k4 => k_is); (case k5 => decide); (case k6 => exact BindsTo.of_eq rfl); (case k7 => rfl); (case k8 => decide +kernel); (case c2 => rfl); (case c3 => rfl); (case c4 => rfl); k_whole)
  intro L' h' tk' cells' F' N' Y'
  k_cells Y'
  (try dsimp only)
  repeat' ((fail_if_success (with_reducible show wpAny _ _ (exec (Stmt.For _ _ _ _ _) _) _ _ _)); (fail_if_success (with_reducible show wpAny _ _ (call (Value.ref 94) _) _ _ _)); (first | (k_unfold; (try dsimp only)) | ((with_reducible show wpAny _ _ (execs (List.cons _ List.nil) _) _ _ _); (try dsimp only); (try k_gentoks); (with_reducible refine execs_one ?_)) | ((with_reducible show wpAny _ _ (execs (List.cons _ _) _) _ _ _); (try dsimp only); (try k_gentoks); (with_reducible refine wpAny_execs_cons ?_)) | ((with_reducible show wpAny _ _ (exec (Stmt.If _ _ _ _) _) _ _ _); (with_reducible refine wpAny_If ?_)) | walk1 | (dsimp only; walk1)))
  (try dsimp only at *)
  rename Fr _ _ _ _ => F0
  rename News _ _ _ _ => N0
  refine Ctr.use py_told (by decide) (by decide) B F0 X N0 T rfl rfl trivial ?_
  intro r' h' tk' hK' hP' F' N'
  obtain ⟨D', vt, e', hg', hn', hS'⟩ := hP'
  subst e'
  have N1 := news_add F0 N' hg' hn'
  have l1 := ne_add N0 hn'
  clear N' N0 F0
  (try dsimp only at *)
  repeat' ((fail_if_success (with_reducible show wpAny _ _ (exec (Stmt.For _ _ _ _ _) _) _ _ _)); (first | (k_unfold; (try dsimp only)) | ((with_reducible show wpAny _ _ (execs (List.cons _ List.nil) _) _ _ _); (try dsimp only); (try k_gentoks); (with_reducible refine execs_one ?_)) | ((with_reducible show wpAny _ _ (execs (List.cons _ _) _) _ _ _); (try dsimp only); (try k_gentoks); (with_reducible refine wpAny_execs_cons ?_)) | ((with_reducible show wpAny _ _ (exec (Stmt.If _ _ _ _) _) _ _ _); (with_reducible refine wpAny_If ?_)) | walk1 | (dsimp only; walk1)))
  (try dsimp only at *)
  rename Fr _ _ _ _ => F0
  refine For_turns (hE := passesNo) F0 ?_
  repeat' ((fail_if_success (with_reducible show wpAny _ _ (pyIter _) _ _ _)); (first | (k_unfold; (try dsimp only)) | ((with_reducible show wpAny _ _ (execs (List.cons _ List.nil) _) _ _ _); (try dsimp only); (try k_gentoks); (with_reducible refine execs_one ?_)) | ((with_reducible show wpAny _ _ (execs (List.cons _ _) _) _ _ _); (try dsimp only); (try k_gentoks); (with_reducible refine wpAny_execs_cons ?_)) | ((with_reducible show wpAny _ _ (exec (Stmt.If _ _ _ _) _) _ _ _); (with_reducible refine wpAny_If ?_)) | walk1 | (dsimp only; walk1)))
  (try dsimp only at *)
  rename Fr _ _ _ _ => F2
  rename News _ _ _ _ => N2
  rename (_ < _) ∧ _ => l2
  rename Obj.data _ = Data.cell (some (Value.str _ _)) => dT0
  rename Obj.data _ = Data.cell (bindC _ _ _ (Str.ofString "word")) => dW0
  rename Obj.data _ = Data.cell (bindC _ _ _ (Str.ofString "kind")) => dK0
  simp only [List.forall_mem_cons] at l1
  have hT1 : @Ne Nat (L' + 1) D' := l1.2.2.2.1
  have hT2 : @Ne Nat (L' + 1 + 1) D' := l1.2.2.1
  have hT3 : @Ne Nat (L' + 1 + 1 + 1) D' := l1.2.1
  have hw0 : ws.drop (ws.length - 0) = [] := by simp
  refine for_list (WJ L' D' _ vt vs.reverse ws) rfl (fr_name (y := Str.ofString "pieces") (fr_name (y := Str.ofString "told") F2 rfl) rfl) (news_turn N2) (by k_mem) ⟨_, [], 0, _, _, _, _, _, _, _, (by omega), rfl, rfl, dW0, dK0, by rw [hw0]; exact dT0, by rw [hw0]; exact .nil⟩ ?turn ?done
  case done =>
    intro m₁ nw h tk hJ F' N'
    obtain ⟨P, vp, np, oW, oK, oT, t, xW, xK, u, hP, rfl, rfl, dW, dK, dT, hSp⟩ := hJ
    clear F2 N2
    (try dsimp only at *)
    repeat' ((first | (k_unfold; (try dsimp only)) | ((with_reducible show wpAny _ _ (execs (List.cons _ List.nil) _) _ _ _); (try dsimp only); (try k_gentoks); (with_reducible refine execs_one ?_)) | ((with_reducible show wpAny _ _ (execs (List.cons _ _) _) _ _ _); (try dsimp only); (try k_gentoks); (with_reducible refine wpAny_execs_cons ?_)) | ((with_reducible show wpAny _ _ (exec (Stmt.If _ _ _ _) _) _ _ _); (with_reducible refine wpAny_If ?_)) | walk1 | (dsimp only; walk1)))
    rename Fr _ _ _ _ => F8
    rename News _ _ _ _ => N8
    refine hret _ _ _ F8.keep ⟨_, vp, np, rfl, (N8 _ (List.Mem.head _)).1, (N8 _ (List.Mem.head _)).2.2, ?_⟩
    rw [List.length_reverse, hvl, Nat.sub_self, List.drop_zero] at hSp
    exact hSp
  case turn =>
    clear F2 N2 hret
    intro I hI i v m₁ nw o h tk hv hJ F' N'
    obtain ⟨P, vp, np, oW, oK, oT, t, xW, xK, u, hP, rfl, rfl, dW, dK, dT, hSp⟩ := hJ
    obtain ⟨Tt, k, tt, uu, x, rfl, hdrop, hmem, hTt, hi⟩ := RowsAt.getR hRows hv
    have hTup : IsTup h Tt #[.int k tt, .str (mkS x) uu] := ⟨_, F'.keep _ _ hTt, rfl, _, rfl⟩
    have hx3 := hw3 _ hmem
    k_lt hI
    (try dsimp only at *)
    generalize hrow : ws.drop (ws.length - i) = row at *
    have htl : (wr row).flatten.length ≤ 400 := by
      have h1 := wr_flat (row := row) (by rw [← hrow]; exact fun q hq => hw3 q (List.mem_of_mem_drop hq))
      have h2 : row.length ≤ ws.length := by rw [← hrow, List.length_drop]; omega
      omega
    have hvp : vp.length ≤ 1000 := by
      have h1 := wr_cnt row
      have h2 : row.length ≤ ws.length := by rw [← hrow, List.length_drop]; omega
      have h3 := StrsAre.length hSp
      rw [List.length_map] at h3
      omega
    generalize htail : (wr row).flatten = tail at *
    repeat' ((fail_if_success (with_reducible show wpAny _ _ (exec (Stmt.Assign _ (PySem.Expr.ListComp _ _ _ _) _) _) _ _ _)); (first | (k_unfold; (try dsimp only)) | ((with_reducible show wpAny _ _ (execs (List.cons _ List.nil) _) _ _ _); (try dsimp only); (try k_gentoks); (with_reducible refine execs_one ?_)) | ((with_reducible show wpAny _ _ (execs (List.cons _ _) _) _ _ _); (try dsimp only); (try k_gentoks); (with_reducible refine wpAny_execs_cons ?_)) | ((with_reducible show wpAny _ _ (exec (Stmt.If _ _ _ _) _) _ _ _); (with_reducible refine wpAny_If ?_)) | walk1 | (dsimp only; walk1)))
    (try dsimp only at *)
    rename Fr _ _ _ _ => F9
    refine comp_assign F9 rfl (by with_unfolding_all rfl) (by with_unfolding_all rfl) (by decide) rfl (by decide) rfl rfl rfl ?_ (by intro _; rfl)
    repeat' ((fail_if_success (with_reducible show wpAny _ _ (pyIter _) _ _ _)); (first | (k_unfold; (try dsimp only)) | ((with_reducible show wpAny _ _ (execs (List.cons _ List.nil) _) _ _ _); (try dsimp only); (try k_gentoks); (with_reducible refine execs_one ?_)) | ((with_reducible show wpAny _ _ (execs (List.cons _ _) _) _ _ _); (try dsimp only); (try k_gentoks); (with_reducible refine wpAny_execs_cons ?_)) | ((with_reducible show wpAny _ _ (exec (Stmt.If _ _ _ _) _) _ _ _); (with_reducible refine wpAny_If ?_)) | walk1 | (dsimp only; walk1)))
    (try dsimp only at *)
    rename Fr _ _ _ _ => F9
    rename News _ _ _ _ => N9
    refine comp_lst (its := vt) (nn := 0) rfl F9 N9 (by k_mem) (by rw [StrsAre.length hS', List.length_map, told_len]; decide) ?_
    intro g9
    refine comp_rest _ (gfB k x tail) ggS (by k_mem) ?_ ?_ ?_
    · clear F9 N9
      intro v I oI C oC D m₂ h tk ys hv hC hm F' N'
      obtain ⟨one, tv, rfl, ho⟩ : ∃ (one : List Nat) (tv : Tok), v = .str (mkS one) tv ∧ one ∈ told := strs_mem hS' hv
      clear hv
      have ho3 := (told_facts one ho).1.2
      repeat' ((fail_if_success (with_reducible show _ ∧ _)); (first | (k_unfold; (try dsimp only)) | ((with_reducible show wpAny _ _ (execs (List.cons _ List.nil) _) _ _ _); (try dsimp only); (try k_gentoks); (with_reducible refine execs_one ?_)) | ((with_reducible show wpAny _ _ (execs (List.cons _ _) _) _ _ _); (try dsimp only); (try k_gentoks); (with_reducible refine wpAny_execs_cons ?_)) | ((with_reducible show wpAny _ _ (exec (Stmt.If _ _ _ _) _) _ _ _); (with_reducible refine wpAny_If ?_)) | walk1 | (dsimp only; walk1)))
      all_goals (try dsimp only at *)
      all_goals (rename Fr _ _ _ _ => F8; rename News _ _ _ _ => N8)
      all_goals refine ⟨?_, _, _, rfl, F8, N8⟩
      all_goals first | exact grown_1 (by assumption) (by assumption) (by assumption) | exact grown_2 (by assumption) | exact grown_3 (by assumption)
    · clear F9 N9
      intro v I oI C oC D m₂ h tk ys hv hfv hC hm F' N'
      obtain ⟨one, tv, rfl, ho⟩ : ∃ (one : List Nat) (tv : Tok), v = .str (mkS one) tv ∧ one ∈ told := strs_mem hS' hv
      clear hv hfv
      repeat' ((fail_if_success (with_reducible show _ ∧ _)); (first | (k_unfold; (try dsimp only)) | ((with_reducible show wpAny _ _ (execs (List.cons _ List.nil) _) _ _ _); (try dsimp only); (try k_gentoks); (with_reducible refine execs_one ?_)) | ((with_reducible show wpAny _ _ (execs (List.cons _ _) _) _ _ _); (try dsimp only); (try k_gentoks); (with_reducible refine wpAny_execs_cons ?_)) | ((with_reducible show wpAny _ _ (exec (Stmt.If _ _ _ _) _) _ _ _); (with_reducible refine wpAny_If ?_)) | walk1 | (dsimp only; walk1)))
      (try dsimp only at *)
      rename Fr _ _ _ _ => F8
      rename News _ _ _ _ => N8
      exact ⟨⟨_, rfl⟩, _, _, rfl, F8, N8⟩
    · intro ys hS D h' tk F' N' o1
      simp only [LCg.Off1] at o1
      (try dsimp only at hS)
      rw [grown_eq k x tail told vt hS'] at hS
      clear F9 N9
      have hD1 : @Ne Nat (L' + 1) D := o1.2.2.2.2.1
      have hD2 : @Ne Nat (L' + 1 + 1) D := o1.2.2.2.1
      have hD3 : @Ne Nat (L' + 1 + 1 + 1) D := o1.2.2.1
      dsimp only at F' N' ⊢
      refine wpAny_execs_cons ?_
      refine cut_if (hintB k tail) F' N' ?_ ?_
      · cases tail with
        | nil =>
          repeat' ((fail_if_success (with_reducible show _ ∧ _)); (first | (k_unfold; (try dsimp only)) | ((with_reducible show wpAny _ _ (execs (List.cons _ List.nil) _) _ _ _); (try dsimp only); (try k_gentoks); (with_reducible refine execs_one ?_)) | ((with_reducible show wpAny _ _ (execs (List.cons _ _) _) _ _ _); (try dsimp only); (try k_gentoks); (with_reducible refine wpAny_execs_cons ?_)) | ((with_reducible show wpAny _ _ (exec (Stmt.If _ _ _ _) _) _ _ _); (with_reducible refine wpAny_If ?_)) | walk1 | (dsimp only; walk1)))
          all_goals (try dsimp only at *)
          all_goals (rename Fr _ _ _ _ => F8; rename News _ _ _ _ => N8)
          all_goals exact ⟨hint_n, _, _, rfl, F8, N8⟩
        | cons c r =>
          have hrl : r.length ≤ 400 := by simp only [List.length_cons] at htl; omega
          repeat' ((fail_if_success (with_reducible show _ ∧ _)); (first | (k_unfold; (try dsimp only)) | ((with_reducible show wpAny _ _ (execs (List.cons _ List.nil) _) _ _ _); (try dsimp only); (try k_gentoks); (with_reducible refine execs_one ?_)) | ((with_reducible show wpAny _ _ (execs (List.cons _ _) _) _ _ _); (try dsimp only); (try k_gentoks); (with_reducible refine wpAny_execs_cons ?_)) | ((with_reducible show wpAny _ _ (exec (Stmt.If _ _ _ _) _) _ _ _); (with_reducible refine wpAny_If ?_)) | walk1 | (dsimp only; walk1)))
          all_goals (try dsimp only at *)
          all_goals (rename Fr _ _ _ _ => F8; rename News _ _ _ _ => N8)
          all_goals refine ⟨?_, _, _, rfl, F8, N8⟩
          all_goals first | exact hint_a (by assumption) (by assumption) | exact hint_b (by assumption) (by assumption) | exact hint_d (by assumption) (by assumption) | exact hint_c (by assumption) (by assumption) (by assumption) | (exfalso; omega)
      · clear F' N'
        intro h' tk' F' N'
        (try dsimp only)
        cases hB : hintB k tail with
        | true =>
          rw [if_pos rfl]
          repeat' ((fail_if_success (with_reducible show wpAny _ _ (compareOp CmpOp.NotEq (Value.ref _) (Value.ref _)) _ _ _)); (first | (k_unfold; (try dsimp only)) | ((with_reducible show wpAny _ _ (execs (List.cons _ List.nil) _) _ _ _); (try dsimp only); (try k_gentoks); (with_reducible refine execs_one ?_)) | ((with_reducible show wpAny _ _ (execs (List.cons _ _) _) _ _ _); (try dsimp only); (try k_gentoks); (with_reducible refine wpAny_execs_cons ?_)) | ((with_reducible show wpAny _ _ (exec (Stmt.If _ _ _ _) _) _ _ _); (with_reducible refine wpAny_If ?_)) | walk1 | (dsimp only; walk1)))
          (try dsimp only at *)
          rename News _ _ _ _ => N8
          refine lst_ne (News.isList N8 (by k_mem)) (News.isList N8 (by k_mem)) (show 200 + 3 < cLine by decide) ?_
          repeat' ((fail_if_success (with_reducible show wpAny _ _ (binaryOp Operator.Add (Value.ref _) (Value.ref _)) _ _ _)); (first | (k_unfold; (try dsimp only)) | ((with_reducible show wpAny _ _ (execs (List.cons _ List.nil) _) _ _ _); (try dsimp only); (try k_gentoks); (with_reducible refine execs_one ?_)) | ((with_reducible show wpAny _ _ (execs (List.cons _ _) _) _ _ _); (try dsimp only); (try k_gentoks); (with_reducible refine wpAny_execs_cons ?_)) | ((with_reducible show wpAny _ _ (exec (Stmt.If _ _ _ _) _) _ _ _); (with_reducible refine wpAny_If ?_)) | walk1 | (dsimp only; walk1)))
          (try dsimp only at *)
          rename Fr _ _ _ _ => F8
          rename News _ _ _ _ => N8
          refine lst_add (xs := [_]) (ys := vp) F8 N8 (News.isList N8 (by k_mem)) (News.isList N8 (by k_mem)) (by simp only [List.length_append, List.length_cons, List.length_nil]; omega) ?_
          clear F8 N8
          intro D5 h5 F5 N5 l5
          k_lt l5
          repeat' ((fail_if_success (with_reducible show wpAny _ _ (binaryOp Operator.Add (Value.ref _) (Value.ref _)) _ _ _)); (first | (k_unfold; (try dsimp only)) | ((with_reducible show wpAny _ _ (execs (List.cons _ List.nil) _) _ _ _); (try dsimp only); (try k_gentoks); (with_reducible refine execs_one ?_)) | ((with_reducible show wpAny _ _ (execs (List.cons _ _) _) _ _ _); (try dsimp only); (try k_gentoks); (with_reducible refine wpAny_execs_cons ?_)) | ((with_reducible show wpAny _ _ (exec (Stmt.If _ _ _ _) _) _ _ _); (with_reducible refine wpAny_If ?_)) | walk1 | (dsimp only; walk1)))
          (try dsimp only at *)
          rename Fr _ _ _ _ => F8
          rename News _ _ _ _ => N8
          refine lst_add (xs := [_]) (ys := [_] ++ vp) F8 N8 (News.isList N8 (by k_mem)) (News.isList N8 (by k_mem)) (by simp only [List.length_append, List.length_cons, List.length_nil]; omega) ?_
          clear F8 N8
          intro D5 h5 F5 N5 l5
          k_lt l5
          repeat' ((first | (k_unfold; (try dsimp only)) | ((with_reducible show wpAny _ _ (execs (List.cons _ List.nil) _) _ _ _); (try dsimp only); (try k_gentoks); (with_reducible refine execs_one ?_)) | ((with_reducible show wpAny _ _ (execs (List.cons _ _) _) _ _ _); (try dsimp only); (try k_gentoks); (with_reducible refine wpAny_execs_cons ?_)) | ((with_reducible show wpAny _ _ (exec (Stmt.If _ _ _ _) _) _ _ _); (with_reducible refine wpAny_If ?_)) | walk1 | (dsimp only; walk1)))
          (try dsimp only at *)
          rename Fr _ _ _ _ => F8
          rename News _ _ _ _ => N8
          rename Obj.data _ = Data.cell (some (Value.str (mkS (x ++ _)) _)) => d8
          exact write_end (L' := L') hdrop (wr_blank (by rw [htail]; exact needs_hint hB)) F8 rfl rfl N8 (by k_mem) (by k_mem) (by k_mem) (by k_mem) (by k_mem) (by k_mem) (by k_mem) (by omega) (by omega) (by omega) (by omega) (by omega) (by assumption) (by assumption) (by rw [show List.flatten (x :: [32] :: wr row) = x ++ 32 :: tail by rw [← htail]; rfl]; exact d8) (.cons _ _ (strs_blank hSp))
        | false =>
          rw [if_neg (by decide)]
          cases hfl : told.filter (fun o => grownB k x tail o) with
          | nil =>
            rw [hfl] at hS
            have hys := StrsAre.nil_inv hS
            subst hys
            repeat' ((fail_if_success (with_reducible show wpAny _ _ (compareOp CmpOp.NotEq (Value.ref _) (Value.ref _)) _ _ _)); (first | (k_unfold; (try dsimp only)) | ((with_reducible show wpAny _ _ (execs (List.cons _ List.nil) _) _ _ _); (try dsimp only); (try k_gentoks); (with_reducible refine execs_one ?_)) | ((with_reducible show wpAny _ _ (execs (List.cons _ _) _) _ _ _); (try dsimp only); (try k_gentoks); (with_reducible refine wpAny_execs_cons ?_)) | ((with_reducible show wpAny _ _ (exec (Stmt.If _ _ _ _) _) _ _ _); (with_reducible refine wpAny_If ?_)) | walk1 | (dsimp only; walk1)))
            (try dsimp only at *)
            rename News _ _ _ _ => N8
            refine lst_ne_nil (News.isList N8 (by k_mem)) (News.isList N8 (by k_mem)) (show 200 + 3 < cLine by decide) ?_
            repeat' ((fail_if_success (with_reducible show wpAny _ _ (binaryOp Operator.Add (Value.ref _) (Value.ref _)) _ _ _)); (first | (k_unfold; (try dsimp only)) | ((with_reducible show wpAny _ _ (execs (List.cons _ List.nil) _) _ _ _); (try dsimp only); (try k_gentoks); (with_reducible refine execs_one ?_)) | ((with_reducible show wpAny _ _ (execs (List.cons _ _) _) _ _ _); (try dsimp only); (try k_gentoks); (with_reducible refine wpAny_execs_cons ?_)) | ((with_reducible show wpAny _ _ (exec (Stmt.If _ _ _ _) _) _ _ _); (with_reducible refine wpAny_If ?_)) | walk1 | (dsimp only; walk1)))
            (try dsimp only at *)
            rename Fr _ _ _ _ => F8
            rename News _ _ _ _ => N8
            refine lst_add (xs := [_]) (ys := vp) F8 N8 (News.isList N8 (by k_mem)) (News.isList N8 (by k_mem)) (by simp only [List.length_append, List.length_cons, List.length_nil]; omega) ?_
            clear F8 N8
            intro D5 h5 F5 N5 l5
            k_lt l5
            repeat' ((first | (k_unfold; (try dsimp only)) | ((with_reducible show wpAny _ _ (execs (List.cons _ List.nil) _) _ _ _); (try dsimp only); (try k_gentoks); (with_reducible refine execs_one ?_)) | ((with_reducible show wpAny _ _ (execs (List.cons _ _) _) _ _ _); (try dsimp only); (try k_gentoks); (with_reducible refine wpAny_execs_cons ?_)) | ((with_reducible show wpAny _ _ (exec (Stmt.If _ _ _ _) _) _ _ _); (with_reducible refine wpAny_If ?_)) | walk1 | (dsimp only; walk1)))
            (try dsimp only at *)
            rename Fr _ _ _ _ => F8
            rename News _ _ _ _ => N8
            rename Obj.data _ = Data.cell (some (Value.str (mkS (x ++ _)) _)) => d8
            exact write_end (L' := L') hdrop (wr_plain (by rw [htail]; exact needs_not hB hfl)) F8 rfl rfl N8 (by k_mem) (by k_mem) (by k_mem) (by k_mem) (by k_mem) (by k_mem) (by k_mem) (by omega) (by omega) (by omega) (by omega) (by omega) (by assumption) (by assumption) (by rw [show List.flatten (x :: wr row) = x ++ tail by rw [← htail]; rfl]; exact d8) (.cons _ _ hSp)
          | cons og or =>
            rw [hfl, List.map_cons] at hS
            obtain ⟨t5, ys5, rfl, hS5⟩ := StrsAre.cons_inv hS
            repeat' ((fail_if_success (with_reducible show wpAny _ _ (compareOp CmpOp.NotEq (Value.ref _) (Value.ref _)) _ _ _)); (first | (k_unfold; (try dsimp only)) | ((with_reducible show wpAny _ _ (execs (List.cons _ List.nil) _) _ _ _); (try dsimp only); (try k_gentoks); (with_reducible refine execs_one ?_)) | ((with_reducible show wpAny _ _ (execs (List.cons _ _) _) _ _ _); (try dsimp only); (try k_gentoks); (with_reducible refine wpAny_execs_cons ?_)) | ((with_reducible show wpAny _ _ (exec (Stmt.If _ _ _ _) _) _ _ _); (with_reducible refine wpAny_If ?_)) | walk1 | (dsimp only; walk1)))
            (try dsimp only at *)
            rename News _ _ _ _ => N8
            refine lst_ne (News.isList N8 (by k_mem)) (News.isList N8 (by k_mem)) (show 200 + 3 < cLine by decide) ?_
            repeat' ((fail_if_success (with_reducible show wpAny _ _ (binaryOp Operator.Add (Value.ref _) (Value.ref _)) _ _ _)); (first | (k_unfold; (try dsimp only)) | ((with_reducible show wpAny _ _ (execs (List.cons _ List.nil) _) _ _ _); (try dsimp only); (try k_gentoks); (with_reducible refine execs_one ?_)) | ((with_reducible show wpAny _ _ (execs (List.cons _ _) _) _ _ _); (try dsimp only); (try k_gentoks); (with_reducible refine wpAny_execs_cons ?_)) | ((with_reducible show wpAny _ _ (exec (Stmt.If _ _ _ _) _) _ _ _); (with_reducible refine wpAny_If ?_)) | walk1 | (dsimp only; walk1)))
            (try dsimp only at *)
            rename Fr _ _ _ _ => F8
            rename News _ _ _ _ => N8
            refine lst_add (xs := [_]) (ys := vp) F8 N8 (News.isList N8 (by k_mem)) (News.isList N8 (by k_mem)) (by simp only [List.length_append, List.length_cons, List.length_nil]; omega) ?_
            clear F8 N8
            intro D5 h5 F5 N5 l5
            k_lt l5
            repeat' ((fail_if_success (with_reducible show wpAny _ _ (binaryOp Operator.Add (Value.ref _) (Value.ref _)) _ _ _)); (first | (k_unfold; (try dsimp only)) | ((with_reducible show wpAny _ _ (execs (List.cons _ List.nil) _) _ _ _); (try dsimp only); (try k_gentoks); (with_reducible refine execs_one ?_)) | ((with_reducible show wpAny _ _ (execs (List.cons _ _) _) _ _ _); (try dsimp only); (try k_gentoks); (with_reducible refine wpAny_execs_cons ?_)) | ((with_reducible show wpAny _ _ (exec (Stmt.If _ _ _ _) _) _ _ _); (with_reducible refine wpAny_If ?_)) | walk1 | (dsimp only; walk1)))
            (try dsimp only at *)
            rename Fr _ _ _ _ => F8
            rename News _ _ _ _ => N8
            refine lst_add (xs := [_]) (ys := [_] ++ vp) F8 N8 (News.isList N8 (by k_mem)) (News.isList N8 (by k_mem)) (by simp only [List.length_append, List.length_cons, List.length_nil]; omega) ?_
            clear F8 N8
            intro D5 h5 F5 N5 l5
            k_lt l5
            repeat' ((first | (k_unfold; (try dsimp only)) | ((with_reducible show wpAny _ _ (execs (List.cons _ List.nil) _) _ _ _); (try dsimp only); (try k_gentoks); (with_reducible refine execs_one ?_)) | ((with_reducible show wpAny _ _ (execs (List.cons _ _) _) _ _ _); (try dsimp only); (try k_gentoks); (with_reducible refine wpAny_execs_cons ?_)) | ((with_reducible show wpAny _ _ (exec (Stmt.If _ _ _ _) _) _ _ _); (with_reducible refine wpAny_If ?_)) | walk1 | (dsimp only; walk1)))
            (try dsimp only at *)
            rename Fr _ _ _ _ => F8
            rename News _ _ _ _ => N8
            rename Obj.data _ = Data.cell (some (Value.str (mkS (x ++ _)) _)) => d8
            exact write_end (L' := L') hdrop (wr_blank (by rw [htail]; exact needs_some hfl)) F8 rfl rfl N8 (by k_mem) (by k_mem) (by k_mem) (by k_mem) (by k_mem) (by k_mem) (by k_mem) (by omega) (by omega) (by omega) (by omega) (by omega) (by assumption) (by assumption) (by rw [show List.flatten (x :: [32] :: wr row) = x ++ 32 :: tail by rw [← htail]; rfl]; exact d8) (.cons _ _ (strs_blank hSp))
end
theorem join_flat : ∀ (ps : List (List Nat)), Txt.join (Str.ofString "") (ps.map mkS) = mkS ps.flatten := by
  intro ps
  show Builtin.Str.glued _ _ = _
  rw [StrLaws.glued_eq_join, show Str.ofString "" = ⟨#[]⟩ by decide +kernel]
  induction ps with
  | nil => rfl
  | cons a r ih => rw [List.map_cons, join_nil_cons, ih, mkS_append, List.flatten_cons]
theorem sum_flat : ∀ (ps : List (List Nat)), ((ps.map mkS).map (·.length)).sum = ps.flatten.length
  | [] => rfl
  | a :: r => by
    rw [List.map_cons, List.map_cons, List.sum_cons, sum_flat r, mkS_length, List.flatten_cons, List.length_append]
section
variable {prog : Program} {w : World} {A : Around} {E : Value → Shared → Prop} {s : Shared} {value slice : PySem.Expr} {t u : Tok} {h₀ : Heap} {L : Addr} {m : Str → Option Value} {news : List (Addr × Obj)} {Q : Value → Shared → Prop}
theorem str_join {D : Addr} {vp : List Value} {ps : List (List Nat)} (hl : s.heap.IsList D vp.toArray) (hS : StrsAre vp (ps.map mkS)) (hf : ps.flatten.length ≤ 1000) (h : ∀ t' k, Q (.str (mkS ps.flatten) t') { s with toks := k }) :
    wpAny (model prog w) A (call (.builtin "str.join") [.str (Str.ofString "") t, .ref D]) Q E s :=
  join_list hl (ys := ps.map mkS) hS (by rw [sum_flat, show (Str.ofString "").length = 0 by decide +kernel]; omega) fun t' k => by rw [join_flat]; exact h t' k
theorem word_eqAt {T T' : Addr} {k k' : Int} {t t' u u' : Tok} {x x' : List Nat} (ha : s.heap.get? T = some (tupOf k t (mkS x) u)) (hb : s.heap.get? T' = some (tupOf k' t' (mkS x') u')) (hu : A.units < cLine) : SeqAt.EqAt A s (.ref T) (.ref T') (decide ((k, x) = (k', x'))) := by
  by_cases hT : T = T'
  · subst hT
    rw [ha] at hb
    have hd := congrArg Obj.data (Option.some.inj hb)
    have e1 : k = k' ∧ x = x' := by
      simp only [tupOf, Data.seq.injEq, Array.mk.injEq, List.cons.injEq, Value.int.injEq, Value.str.injEq, mkS_inj] at hd
      exact ⟨hd.1.1.1, hd.1.2.1.1⟩
    rw [decide_eq_true (by rw [e1.1, e1.2])]
    exact SeqAt.EqAt.same _
  · have q := SeqAt.RcAt.tuples (A := A) (s := s) (l := T) (b := T') (e := fun j => if j = 0 then k == k' else mkS x == mkS x') ⟨_, ha, rfl, _, rfl⟩ ⟨_, hb, rfl, _, rfl⟩ hu (by
      intro j h1 h2
      match j, h1, h2 with
      | 0, _, _ => exact SeqAt.EqAt.int_int _ _ _ _
      | 1, _, _ => exact SeqAt.EqAt.str_str _ _ _ _
      | j + 2, h1, _ => exact absurd h1 (by simp))
    refine SeqAt.EqAt.of_refs hT ?_
    have e : ((List.range (min (#[Value.int k t, Value.str (mkS x) u] : Array Value).size (#[Value.int k' t', Value.str (mkS x') u'] : Array Value).size)).all (fun j => if j = 0 then k == k' else mkS x == mkS x') && (#[Value.int k t, Value.str (mkS x) u] : Array Value).size == (#[Value.int k' t', Value.str (mkS x') u'] : Array Value).size) = decide ((k, x) = (k', x')) := by
      show ((List.range 2).all _ && true) = _
      rw [show List.range 2 = [0, 1] from rfl, str_inj]
      by_cases h1 : k = k' <;> by_cases h2 : x = x' <;> simp [h1, h2]
    rw [e] at q
    exact q
theorem rows_all {ws ws' : List Wd} (h : ws.length = ws'.length) : (List.range ws.length).all (fun j => decide (ws[j]? = ws'[j]?)) = decide (ws = ws') := by
  rw [Bool.eq_iff_iff, List.all_eq_true, decide_eq_true_eq]
  constructor
  · intro hall
    apply List.ext_getElem?
    intro i
    by_cases hi : i < ws.length
    · simpa using hall i (List.mem_range.mpr hi)
    · rw [List.getElem?_eq_none (by omega), List.getElem?_eq_none (by omega)]
  · rintro rfl j _
    simp
theorem rows_at {vs vs' : List Value} {ws ws' : List Wd} (ra : RowsAt s.heap vs ws) (rb : RowsAt s.heap vs' ws') (hu : A.units < cLine) : ∀ j (h1 : j < vs.toArray.size) (h2 : j < vs'.toArray.size), SeqAt.EqAt A s vs.toArray[j] vs'.toArray[j] (decide (ws[j]? = ws'[j]?)) := by
  intro j h1 h2
  obtain ⟨T, k, t, u, x, e, hw, hT⟩ := RowsAt.get ra j vs.toArray[j] (by simp at h1; simp [h1])
  obtain ⟨T', k', t', u', x', e', hw', hT'⟩ := RowsAt.get rb j vs'.toArray[j] (by simp at h2; simp [h2])
  rw [e, e', hw, hw']
  have q := word_eqAt (A := A) hT hT' hu
  rw [show decide (some (k, x) = some (k', x')) = decide ((k, x) = (k', x')) by simp]
  exact q
theorem rows_eq {a b : Addr} {vs vs' : List Value} {ws ws' : List Wd} (ha : s.heap.IsList a vs.toArray) (hb : s.heap.IsList b vs'.toArray) (ra : RowsAt s.heap vs ws) (rb : RowsAt s.heap vs' ws') (hu : A.units < cLine) (hu' : A.in1.units < cLine)
    (h : Q (.bool (decide (ws = ws'))) s) : wpAny (model prog w) A (compareOp .Eq (.ref a) (.ref b)) Q E s := by
  have l1 := RowsAt.length ra
  have l2 := RowsAt.length rb
  by_cases hl : ws.length = ws'.length
  · have e := rows_all hl
    refine SeqAt.eq_listAt ha hb (by simp only [List.size_toArray]; omega) hu (rows_at ra rb hu') ?_
    rw [List.size_toArray, l1, e]
    exact h
  · refine SeqAt.eq_list_lengthsAt ha hb (by simp only [List.size_toArray, bne_iff_ne]; omega) hu ?_
    rw [decide_eq_false (fun e => hl (by rw [e]))] at h
    exact h
theorem rows_ne {a b : Addr} {vs vs' : List Value} {ws ws' : List Wd} (ha : s.heap.IsList a vs.toArray) (hb : s.heap.IsList b vs'.toArray) (ra : RowsAt s.heap vs ws) (rb : RowsAt s.heap vs' ws') (hu : A.units < cLine) (hu' : A.in1.units < cLine)
    (h : Q (.bool (!decide (ws = ws'))) s) : wpAny (model prog w) A (compareOp .NotEq (.ref a) (.ref b)) Q E s := by
  have l1 := RowsAt.length ra
  have l2 := RowsAt.length rb
  by_cases hl : ws.length = ws'.length
  · have e := rows_all hl
    refine SeqAt.RcNeAt.lists ha hb (by simp only [List.size_toArray]; omega) hu (rows_at ra rb hu') prog w E Q ?_
    rw [List.size_toArray, l1, e]
    exact h
  · refine SeqAt.RcNeAt.lists_lengths ha hb (by simp only [List.size_toArray, bne_iff_ne]; omega) hu prog w E Q ?_
    rw [decide_eq_false (fun e => hl (by rw [e]))] at h
    exact h
theorem str_eqB {x : List Nat} (h : Q (.bool (x == [32])) s) : wpAny (model prog w) A (compareOp .Eq (.str (mkS x) t) (.str (Str.ofString " ") u)) Q E s := by
  rw [show Str.ofString " " = mkS [32] by decide +kernel]
  exact str_eq h
end
/-- a loop over a range that changes nothing but its own name -/
theorem for_rng {prog : Program} {w : World} {A : Around} {E : Value → Shared → Prop} {s : Shared} {env : Env} {h₀ : Heap} {x : Str} {body : List Stmt} {Q : Flow → Shared → Prop} {r : Addr} {b₀ : Int} {t₀ u₀ v₀ : Tok} {n : Nat} {m₀ : Str → Option Value} {news : List (Addr × Obj)}
    (hh : A.handled = none) (hr : IsRange s.heap r 0 b₀ 1 t₀ u₀ v₀) (hsmall : Builtin.Range.small 0 b₀ 1 = true) (hsz : Builtin.Range.rangeSize 0 b₀ 1 = (n : Int)) (F : Fr h₀ env.locals s.heap m₀) (N : News h₀ env.locals s.heap news)
    (turn : ∀ (i : Nat) t h tk own, i < n → OwnOff own (news.map (·.1)) → Fr h₀ env.locals h (fun y => if y = x then some (.int (i : Int) t) else m₀ y) → News h₀ env.locals h (news ++ own) →
      wpAny (model prog w) A (execs body env) (InvPostG h₀ env.locals (fun m nx => (∀ y, y ≠ x → m y = m₀ y) ∧ nx = news) own { s with heap := h, toks := tk } Q) E { s with heap := h, toks := tk })
    (done : ∀ u h tk, Fr h₀ env.locals h (fun y => if y = x then u else m₀ y) → News h₀ env.locals h news → Q .next { s with heap := h, toks := tk }) :
    wpAny (model prog w) A (pyIter (.ref r)) (fun it s₂ => LoopAtV prog w A h₀ env x body Q E it s₂) E s := by
  refine wpAny_pyIter_range hr hsmall ?_
  have Wk : Walks prog w A s.heap.objs.size [s.heap.objs.size] [s.heap.objs.size] n (fun i v => i < n ∧ ∃ t, v = .int (0 + i * 1) t)
      (fun i h => IsRangeIter h s.heap.objs.size (0 + (i : Nat) * 1) ((n : Int) - (i : Nat)) 1) := (Walks.range hh _ 0 1 n).bound
  refine kdr_loop (fun _ m nx => (∀ y, y ≠ x → m y = m₀ y) ∧ nx = news) Wk (fun _ h => h) (fun _ h => h) ?_ ?_ ?_ ?_ (by show IsRangeIter _ _ _ _ _; rw [hsz]; simpa using Heap.get?_push_size _ rfl) (F.push _) (fun p hp => ⟨Heap.get?_push_of_some _ (N p hp).1, (N p hp).2⟩) ⟨fun _ _ => rfl, rfl⟩ ?_ ?_
  · intro i h hi b hb
    rw [List.mem_singleton.mp hb]
    exact ⟨_, hi⟩
  · intro hm
    exact absurd F.ns.lt ((List.mem_singleton.mp hm) ▸ Nat.lt_irrefl _)
  · intro b hb
    rw [List.mem_singleton.mp hb]
    exact next_is_new F
  · intro p hp hI
    exact absurd (Heap.lt_size (N p hp).1) ((List.mem_singleton.mp hI) ▸ Nat.lt_irrefl _)
  · rintro i v m₁ nx h tk own hi ⟨_, t, rfl⟩ hoff ⟨hm, rfl⟩ F₁ N₁
    refine turn i t h tk own hi hoff ?_ N₁
    have e : (fun y => if y = x then some (Value.int (0 + (i : Int) * 1) t) else m₁ y) = fun y => if y = x then some (Value.int (i : Int) t) else m₀ y := by
      funext y
      by_cases hy : y = x
      · simp [hy]
      · simp [hy, hm y hy]
    rw [e] at F₁
    exact F₁
  · rintro m₁ nx h tk ⟨hm, rfl⟩ F₁ N₁
    refine done (m₁ x) h tk ?_ N₁
    have e : (fun y => if y = x then m₁ x else m₀ y) = m₁ := by
      funext y
      by_cases hy : y = x
      · simp [hy]
      · simp [hy, hm y hy]
    rw [e]
    exact F₁
/-- the kinds of a row, by a comprehension over its pairs -/
theorem comp_kinds {prog : Program} {w : World} {A : Around} {s : Shared} {h₀ : Heap} {L : Addr} {m : Str → Option Value} {env : Env} {elt : PySem.Expr} {x x₂ : Str} {scope : Scope} {cl : List (Str × Addr)} {S : List (Addr × Obj) → Prop} {Fin : List Value → List (Addr × Obj) → Prop} {news : List (Addr × Obj)} {vs : List Value} {ws : List Wd} (hS : S news) (hr : RowsIn news vs ws)
    (el : ∀ (k : Int) (t : Tok) I oI C oC D m₂ h tk ys (E' : Value → Shared → Prop), LCg.NsObj oC m₂ → m₂ x = some (.int k t) → Fr h₀ L h m → News h₀ L h ((I, oI) :: (C, oC) :: (D, LCg.lst ys) :: news) →
      wpAny (model prog w) A (eval elt (compEnvC scope cl C env)) (fun y s' => (∃ t, y = .int k t) ∧ Quiet h₀ L m s ((I, oI) :: (C, oC) :: (D, LCg.lst ys) :: news) s') E' { s with heap := h, toks := tk })
    (fin : ∀ ys, IntsAre ys (ws.map (·.1)) → Fin ys news) :
    LCp.CompRestP prog w A h₀ L m env elt x x₂ scope cl s S (fun i v => vs.toArray[i]? = some v) Fin vs.length 0 [] news := by
  have hget : ∀ {vs : List Value} {ws : List Wd}, RowsIn news vs ws → ∀ (i : Nat) (v : Value), vs[i]? = some v → ∃ T k t u y, v = .ref T ∧ ws[i]? = some (k, y) ∧ (T, tupOf k t (mkS y) u) ∈ news := by
    intro vs ws r
    induction r with
    | nil => intro i v e; simp at e
    | cons hm r ih =>
      intro i v e
      match i, e with
      | 0, e => simp only [List.getElem?_cons_zero] at e; cases e; exact ⟨_, _, _, _, _, rfl, rfl, hm⟩
      | i + 1, e => simp only [List.getElem?_cons_succ] at e ⊢; exact ih i v e
  have hlen := RowsIn.length hr
  have go : ∀ k i ys, i + k = vs.length → IntsAre ys ((ws.take i).map (·.1)) → LCp.CompRestP prog w A h₀ L m env elt x x₂ scope cl s S (fun i v => vs.toArray[i]? = some v) Fin k i ys news := by
    intro k
    induction k with
    | zero =>
      intro i ys hi hy
      refine LCp.CompRestP.zero (fin ys ?_)
      rw [List.take_of_length_le (by omega)] at hy
      exact hy
    | succ k ih =>
      intro i ys hi hy
      refine LCp.CompRestP.succ ?_
      intro v hP
      have hv : vs[i]? = some v := by simpa using hP
      obtain ⟨T, kk, t, u, y, rfl, hw, hT⟩ := hget hr i v hv
      refine ⟨T, _, .int kk t, .str (mkS y) u, _, rfl, hT, rfl, rfl, ?_⟩
      intro I oI C oC D m₂ h tk E' hC hm _ F N off _
      refine wpAny_mono (el kk t I oI C oC D m₂ h tk ys E' hC hm F N) (fun z s' hq => ?_) (fun _ _ x => x)
      obtain ⟨⟨t', rfl⟩, h', tk', rfl, F', N'⟩ := hq
      refine ⟨h', tk', news, rfl, F', N', off, hS, ih (i + 1) _ (by omega) ?_⟩
      rw [List.take_add_one, hw, List.map_append]
      exact hy.append (.cons _ _ .nil)
  exact go vs.length 0 [] (by omega) (by simpa using IntsAre.nil)
theorem news_more {h₀ h h' : Heap} {L D : Addr} {o : Obj} {m : Str → Option Value} {news tl : List (Addr × Obj)} (F : Fr h₀ L h m) (N : News h₀ L h' news) (hg : h'.get? D = some o) (hn : h.get? D = none) (ht : ∀ q ∈ tl, h'.get? q.1 = some q.2 ∧ h.get? q.1 = none) : News h₀ L h' ((D, o) :: (news ++ tl)) := by
  have one : ∀ q : Addr × Obj, h'.get? q.1 = some q.2 → h.get? q.1 = none → h'.get? q.1 = some q.2 ∧ q.1 ≠ L ∧ h₀.get? q.1 = none := fun q e e0 => (news_add (news := []) (D := q.1) (o := q.2) F (fun _ h => nomatch h) e e0) q (List.Mem.head _)
  intro q hq
  rcases List.mem_cons.mp hq with rfl | hq
  · exact one _ hg hn
  · rcases List.mem_append.mp hq with hq | hq
    · exact N q hq
    · exact one q (ht q hq).1 (ht q hq).2
theorem pick12 {vw : List Value} {v : Value} (h : vw.length = 12) : slicePick (List.toArray (vw ++ [v])) none (some 12) none = vw.toArray := by
  rw [show (12 : Int) = ((12 : Nat) : Int) from rfl, pick_upto, ← h]
  simp
theorem lst_len {prog : Program} {w : World} {A : Around} {E : Value → Shared → Prop} {s : Shared} {Q : Value → Shared → Prop} {D : Addr} {vs : List Value} (hl : s.heap.IsList D vs.toArray) (hb : vs.length ≤ 100000) (h : ∀ t k, Q (.int (vs.length : Int) t) { s with toks := k }) : wpAny (model prog w) A (call (.builtin "len") [.ref D]) Q E s := by
  refine PyProof.Rows.len_list hl (by simp only [List.size_toArray]; omega) ?_
  rw [List.size_toArray]
  exact h _ _
theorem news_keep {h₀ h : Heap} {L : Addr} {R P A D l T0 D1 Nm Sl : Addr × Obj} {tl : List (Addr × Obj)} (N : News h₀ L h (R :: P :: A :: D :: l :: T0 :: D1 :: Nm :: Sl :: tl)) : News h₀ L h (P :: D :: T0 :: Nm :: tl) := by
  intro q hq
  refine N q ?_
  simp only [List.mem_cons] at hq ⊢
  rcases hq with h | h | h | h | h
  · exact .inr (.inl h)
  · exact .inr (.inr (.inr (.inl h)))
  · exact .inr (.inr (.inr (.inr (.inr (.inl h)))))
  · exact .inr (.inr (.inr (.inr (.inr (.inr (.inr (.inl h)))))))
  · exact .inr (.inr (.inr (.inr (.inr (.inr (.inr (.inr (.inr h))))))))
theorem mem4 {p a b c d : Addr × Obj} {tl own : List (Addr × Obj)} (h : p ∈ a :: b :: c :: d :: tl) : p ∈ a :: b :: c :: d :: (tl ++ own) := by
  simp only [List.mem_cons, List.mem_append] at h ⊢
  rcases h with h | h | h | h | h
  · exact .inl h
  · exact .inr (.inl h)
  · exact .inr (.inr (.inl h))
  · exact .inr (.inr (.inr (.inl h)))
  · exact .inr (.inr (.inr (.inr (.inl h))))
theorem mem4o {p a b c d : Addr × Obj} {tl own : List (Addr × Obj)} (h : p ∈ own) : p ∈ a :: b :: c :: d :: (tl ++ own) := by
  simp only [List.mem_cons, List.mem_append]
  exact .inr (.inr (.inr (.inr (.inr h))))
theorem pick_u (vs : List Value) (i : Nat) : slicePick vs.toArray none (some (i : Int)) none = (vs.take i).toArray := pick_upto _ _
theorem pick_f (vs : List Value) (i : Nat) : slicePick vs.toArray (some ((i : Int) + 1)) none none = (vs.drop (i + 1)).toArray := by
  rw [show (i : Int) + 1 = ((i + 1 : Nat) : Int) by omega]
  exact pick_from _ _
theorem get_mk (l : List (List Nat)) (i : Nat) : (l.map mkS).getD ((i : Int).toNat) Str.empty = mkS (l.getD i []) := by
  simp only [Int.toNat_natCast, List.getD_eq_getElem?_getD, List.getElem?_map]
  cases l[i]? <;> rfl
theorem flat_le : ∀ {l : List (List Nat)}, (∀ x ∈ l, x.length ≤ 3) → l.flatten.length ≤ 3 * l.length
  | [], _ => by simp
  | a :: r, h => by
    have := flat_le fun x hx => h x (List.Mem.tail _ hx)
    have h1 := h a (List.Mem.head _)
    simp only [List.flatten_cons, List.length_append, List.length_cons]
    omega
theorem cut_le {ps : List (List Nat)} {i : Nat} (h : ∀ x ∈ ps, x.length ≤ 3) (hl : ps.length ≤ 100) : (ps.take i ++ ps.drop (i + 1)).flatten.length ≤ 1000 := by
  have h1 := flat_le (l := ps.take i ++ ps.drop (i + 1)) (by
    intro x hx
    rcases List.mem_append.mp hx with hx | hx
    · exact h x (List.mem_of_mem_take hx)
    · exact h x (List.mem_of_mem_drop hx))
  have h2 : (ps.take i ++ ps.drop (i + 1)).length ≤ 200 := by
    rw [List.length_append, List.length_take, List.length_drop]; omega
  omega
theorem strs_cut {vp : List Value} {ps : List (List Nat)} (h : StrsAre vp (ps.map mkS)) (i : Nat) : StrsAre (vp.take i ++ vp.drop (i + 1)) ((ps.take i ++ ps.drop (i + 1)).map mkS) := by
  rw [List.map_append, List.map_take, List.map_drop]
  exact (h.take' i).append' (h.drop' (i + 1))
theorem get_blank {ps : List (List Nat)} {i : Nat} (hi : i < ps.length) (h : (ps.getD i [] == [32]) = true) : ps[i]? = some [32] := by
  have := beq_iff_eq.mp h
  simp only [List.getD_eq_getElem?_getD, List.getElem?_eq_getElem hi, Option.getD_some] at this
  rw [List.getElem?_eq_getElem hi, this]
theorem carried_ints {f : Int → Int} : ∀ {l : List Int} {vs : List Value}, CarriedAll vs (l.map fun a => PyData.int (f a)) → IntsAre vs (l.map f)
  | [], _, h => by cases h; exact .nil
  | a :: l, _, h => by
    rw [List.map_cons] at h
    cases h with
    | cons h1 h2 =>
      cases h1
      exact .cons _ _ (carried_ints h2)
theorem ints_at {vs : List Value} {ks : List Int} (h : IntsAre vs ks) {i : Nat} {v : Value} (e : vs[i]? = some v) : ∃ k t, v = .int k t := by
  induction h generalizing i with
  | nil => simp at e
  | cons n t r ih =>
    match i, e with
    | 0, e => simp only [List.getElem?_cons_zero] at e; cases e; exact ⟨_, _, rfl⟩
    | i + 1, e => simp only [List.getElem?_cons_succ] at e; exact ih e
theorem news_head {h₀ h : Heap} {L : Addr} {p : Addr × Obj} {tl : List (Addr × Obj)} (N : News h₀ L h (p :: tl)) : News h₀ L h [p] := fun q hq => N q (by rw [List.mem_singleton.mp hq]; exact List.Mem.head _)
theorem fdiv256 (k : Int) : k.fdiv 256 = k / 256 := Int.fdiv_eq_ediv_of_nonneg k (by decide)
theorem is_1 {k : Int} (h : (decide (k < 256) != decide (k.fdiv 256 < 1)) = true) : False := by
  rw [fdiv256, bne_iff_ne] at h
  exact h (decide_eq_decide.mpr (by omega))
theorem is_2 {k : Int} (h : (decide (256 ≤ k) != decide (0 < k.fdiv 256)) = true) : False := by
  rw [fdiv256, bne_iff_ne] at h
  exact h (decide_eq_decide.mpr (by omega))
theorem is_3 {k : Int} (h : (decide (k = 0) != (k == 0)) = true) : False := by
  rw [bne_iff_ne] at h
  exact h (by by_cases hk : k = 0 <;> simp [hk])
theorem loop_end {h₀ h8 : Heap} {L I D : Addr} {o oD : Obj} {m' : Str → Option Value} {s₁ : Shared} {tk : Nat} (hI : ∀ p ∈ [(D, oD)], p.1 < I) (F : Fr h₀ L h8 m') (N : News h₀ L h8 [(I, o), (D, oD)]) :
    UnrEndW h₀ L s₁ [(I, o)] (fun _ n' => SubL [(D, oD)] n' ∧ n' = [(D, oD)]) { s₁ with heap := h8, toks := tk } := by
  refine ⟨h8, tk, m', [(D, oD)], rfl, F, N, ?_, ⟨.head _, trivial⟩, rfl⟩
  intro p hp q hq
  rw [List.mem_singleton.mp hq]
  exact Nat.ne_of_lt (hI p hp)
section
set_option maxRecDepth 100000 in
set_option maxHeartbeats 8000000 in
theorem py_ist {w : World} {p : Program} {loose : List Str} {mean : ExcName → Option Value} {mg mb : Str → Option Value} (n : Int) (tk : Tok) :
    Ctr w p loose mean mg mb 400 200 24 [.int n tk] (fun _ => True) (fun _ _ r => r = .bool (decide (n < 256))) := by
  w_on
  intro outer A₀ base s R B X T _ hret
  k_dflt (refine' enter (binds := [(Str.ofString "x", .int n tk)]) ?k1 ?k2 ?k3 ?k4 ?k5 ?k6 ?k7 ?_ ?c1 ?c2 ?c3 ?c4; (case k1 => k_asm); (case k2 => k_asm); (case k3 => k_is); (case k4 => k_is); (case k5 => decide); (case k6 => exact BindsTo.of_eq rfl); (case k7 => exact locs rfl); (case c1 => decide); (case c2 => rfl); (case c3 => rfl); (case c4 => rfl); k_whole)
  intro L' h' F' N'
  (try dsimp only)
  k_steps
  all_goals exact hret _ _ _ (Fr.keep (by assumption)) (by first | rfl | (simp only [Value.bool.injEq]; rw [Bool.eq_iff_iff]; simp only [decide_eq_true_eq]; omega) | (simp only [Value.bool.injEq]; rw [Bool.eq_iff_iff]; simp; try omega))
set_option maxRecDepth 100000 in
set_option maxHeartbeats 8000000 in
theorem py_isnt {w : World} {p : Program} {loose : List Str} {mean : ExcName → Option Value} {mg mb : Str → Option Value} (n : Int) (tk : Tok) :
    Ctr w p loose mean mg mb 400 200 31 [.int n tk] (fun _ => True) (fun _ _ r => r = .bool (decide (256 ≤ n))) := by
  w_on
  intro outer A₀ base s R B X T _ hret
  k_dflt (refine' enter (binds := [(Str.ofString "x", .int n tk)]) ?k1 ?k2 ?k3 ?k4 ?k5 ?k6 ?k7 ?_ ?c1 ?c2 ?c3 ?c4; (case k1 => k_asm); (case k2 => k_asm); (case k3 => k_is); (case k4 => k_is); (case k5 => decide); (case k6 => exact BindsTo.of_eq rfl); (case k7 => exact locs rfl); (case c1 => decide); (case c2 => rfl); (case c3 => rfl); (case c4 => rfl); k_whole)
  intro L' h' F' N'
  (try dsimp only)
  k_steps
  all_goals exact hret _ _ _ (Fr.keep (by assumption)) (by first | rfl | (simp only [Value.bool.injEq]; rw [Bool.eq_iff_iff]; simp only [decide_eq_true_eq]; omega) | (simp only [Value.bool.injEq]; rw [Bool.eq_iff_iff]; simp; try omega))
set_option maxRecDepth 100000 in
set_option maxHeartbeats 8000000 in
theorem py_iseof {w : World} {p : Program} {loose : List Str} {mean : ExcName → Option Value} {mg mb : Str → Option Value} (n : Int) (tk : Tok) :
    Ctr w p loose mean mg mb 400 200 38 [.int n tk] (fun _ => True) (fun _ _ r => r = .bool (decide (n = 0))) := by
  w_on
  intro outer A₀ base s R B X T _ hret
  k_dflt (refine' enter (binds := [(Str.ofString "x", .int n tk)]) ?k1 ?k2 ?k3 ?k4 ?k5 ?k6 ?k7 ?_ ?c1 ?c2 ?c3 ?c4; (case k1 => k_asm); (case k2 => k_asm); (case k3 => k_is); (case k4 => k_is); (case k5 => decide); (case k6 => exact BindsTo.of_eq rfl); (case k7 => exact locs rfl); (case c1 => decide); (case c2 => rfl); (case c3 => rfl); (case c4 => rfl); k_whole)
  intro L' h' F' N'
  (try dsimp only)
  k_steps
  all_goals exact hret _ _ _ (Fr.keep (by assumption)) (by first | rfl | (simp only [Value.bool.injEq]; rw [Bool.eq_iff_iff]; simp only [decide_eq_true_eq]; omega) | (simp only [Value.bool.injEq]; rw [Bool.eq_iff_iff]; simp; try omega))
end
section
local macro_rules | `(tactic| walk_at "call ref") => `(tactic| (k_here; (with_reducible show wpAny _ _ (call (Value.ref 24) [Value.int _ _]) _ _ _); k_dflt (refine' Ctr.use (py_ist _ _) ?kd ?ku ?kB ?kF ?kX ?kN ?kT ?kf ?kk ?kp ?_; (case kd => decide); (case ku => decide); (case kB => k_asm); (case kF => k_asm); (case kX => k_asm); (case kN => k_asm); (case kT => k_asm); (case kf => rfl); (case kk => rfl); (case kp => trivial); k_whole); (intro r' h' tk' hK' hP' F' N'; subst hP'; (try dsimp only at hK'); (try dsimp only)); (try k_sweep)))
local macro_rules | `(tactic| walk_at "call ref") => `(tactic| (k_here; (with_reducible show wpAny _ _ (call (Value.ref 31) [Value.int _ _]) _ _ _); k_dflt (refine' Ctr.use (py_isnt _ _) ?kd ?ku ?kB ?kF ?kX ?kN ?kT ?kf ?kk ?kp ?_; (case kd => decide); (case ku => decide); (case kB => k_asm); (case kF => k_asm); (case kX => k_asm); (case kN => k_asm); (case kT => k_asm); (case kf => rfl); (case kk => rfl); (case kp => trivial); k_whole); (intro r' h' tk' hK' hP' F' N'; subst hP'; (try dsimp only at hK'); (try dsimp only)); (try k_sweep)))
local macro_rules | `(tactic| walk_at "call ref") => `(tactic| (k_here; (with_reducible show wpAny _ _ (call (Value.ref 38) [Value.int _ _]) _ _ _); k_dflt (refine' Ctr.use (py_iseof _ _) ?kd ?ku ?kB ?kF ?kX ?kN ?kT ?kf ?kk ?kp ?_; (case kd => decide); (case ku => decide); (case kB => k_asm); (case kF => k_asm); (case kX => k_asm); (case kN => k_asm); (case kT => k_asm); (case kf => rfl); (case kk => rfl); (case kp => trivial); k_whole); (intro r' h' tk' hK' hP' F' N'; subst hP'; (try dsimp only at hK'); (try dsimp only)); (try k_sweep)))
local macro_rules | `(tactic| walk_at "subscriptTail Name Slice ref ref") => `(tactic| (k_here; (with_reducible show wpAny _ _ (subscriptTail _ (PySem.Expr.Slice _ _ none _) (Value.ref _) (Value.ref _)) _ _ _); k_dflt (refine' kmk_slice ?F ?N ?l ?p ?q ?_ ?s ?t ?z; (case F => k_asm); (case N => k_asm); (case l => exact News.isList (by k_asm) (by k_mem)); (case p => kmk_part); (case q => kmk_part); (case s => with_unfolding_all rfl); (case t => kmk_pure); (case z => (simp only [List.size_toArray, List.length_append, List.length_cons, List.length_nil, sizeLine_eq]; omega))); intro D' h' F' N' l1; (try k_lt l1); (try k_sweep)))
local macro_rules | `(tactic| walk_at "compareOp Eq str str") => `(tactic| ((with_reducible show wpAny _ _ (compareOp CmpOp.Eq (Value.str (mkS _) _) (Value.str (Str.ofString " ") _)) _ _ _); refine str_eqB ?_))
set_option maxRecDepth 100000 in
set_option maxHeartbeats 8000000 in
theorem py_law {w : World} {p : Program} {loose : List Str} {mean : ExcName → Option Value} {mg mb : Str → Option Value} (a : Addr) (vs : List Value) (ns : List Int) :
    Ctr w p loose mean mg mb 301 100 116 [.ref a] (fun h => h.IsList a vs.toArray ∧ IntsAre vs ns ∧ ns.length ≤ 63) (fun h h' r => r = .bool true) := by
  w_on
  intro outer A₀ base s R B X T hpre hret
  obtain ⟨hL, hI, hlen⟩ := hpre
  k_dflt (refine' enter (binds := [(Str.ofString "script", .ref a)]) ?k1 ?k2 ?k3 ?k4 ?k5 ?k6 ?k7 ?_ ?c1 ?c2 ?c3 ?c4; (case k1 => k_asm); (case k2 => k_asm); (case k3 => k_is); (case k4 => k_is); (case k5 => decide); (case k6 => exact BindsTo.of_eq rfl); (case k7 => exact locs rfl); (case c1 => decide); (case c2 => rfl); (case c3 => rfl); (case c4 => rfl); k_whole)
  intro L' h' F' N'
  (try dsimp only)
  repeat' ((fail_if_success (with_reducible show wpAny _ _ (call (Value.ref 101) _) _ _ _)); (first | (k_unfold; (try dsimp only)) | ((with_reducible show wpAny _ _ (execs (List.cons _ List.nil) _) _ _ _); (try dsimp only); (try k_gentoks); (with_reducible refine execs_one ?_)) | ((with_reducible show wpAny _ _ (execs (List.cons _ _) _) _ _ _); (try dsimp only); (try k_gentoks); (with_reducible refine wpAny_execs_cons ?_)) | ((with_reducible show wpAny _ _ (exec (Stmt.If _ _ _ _) _) _ _ _); (with_reducible refine wpAny_If ?_)) | walk1 | (dsimp only; walk1)))
  (try dsimp only at *)
  rename Fr _ _ _ _ => F0
  rename News _ _ _ _ => N0
  rename IntsAre _ _ => hI8
  rename @Ne Nat _ _ => o0
  generalize hms : List.map _ (List.take 63 ns) = ms at *
  have hmsl : ms.length ≤ 63 := by rw [← hms, List.length_map, List.length_take]; omega
  refine Ctr.use (py_words _ _ ms) (by decide) (by decide) B F0 X N0 T rfl rfl ⟨News.isList N0 (by k_mem), hI8, hmsl⟩ ?_
  intro r' h' tk' hK' hP' F' N'
  obtain ⟨D1, vw, nw, e', hg', hn', tl, hRI, htl⟩ := hP'
  subst e'
  have N1 := news_more F0 N' hg' hn' htl
  simp only [List.cons_append, List.nil_append] at N1
  clear N' N0 F0
  have hvw : vw.length = 12 := by rw [RowsIn.length hRI]; simp [words]
  (try dsimp only at *)
  repeat' ((fail_if_success (with_reducible show wpAny _ _ (binaryOp Operator.Add (Value.ref _) (Value.ref _)) _ _ _)); (first | (k_unfold; (try dsimp only)) | ((with_reducible show wpAny _ _ (execs (List.cons _ List.nil) _) _ _ _); (try dsimp only); (try k_gentoks); (with_reducible refine execs_one ?_)) | ((with_reducible show wpAny _ _ (execs (List.cons _ _) _) _ _ _); (try dsimp only); (try k_gentoks); (with_reducible refine wpAny_execs_cons ?_)) | ((with_reducible show wpAny _ _ (exec (Stmt.If _ _ _ _) _) _ _ _); (with_reducible refine wpAny_If ?_)) | walk1 | (dsimp only; walk1)))
  (try dsimp only at *)
  rename Fr _ _ _ _ => F8
  rename News _ _ _ _ => N8
  refine lst_add (xs := vw) (ys := [_]) F8 N8 (News.isList N8 (by k_mem)) (News.isList N8 (by k_mem)) (by simp only [List.length_cons, List.length_nil]; omega) ?_
  clear F8 N8
  intro D5 h5 F5 N5 l5
  k_lt l5
  repeat' ((fail_if_success (with_reducible show wpAny _ _ (call (Value.ref 106) _) _ _ _)); (first | (k_unfold; (try dsimp only)) | ((with_reducible show wpAny _ _ (execs (List.cons _ List.nil) _) _ _ _); (try dsimp only); (try k_gentoks); (with_reducible refine execs_one ?_)) | ((with_reducible show wpAny _ _ (execs (List.cons _ _) _) _ _ _); (try dsimp only); (try k_gentoks); (with_reducible refine wpAny_execs_cons ?_)) | ((with_reducible show wpAny _ _ (exec (Stmt.If _ _ _ _) _) _ _ _); (with_reducible refine wpAny_If ?_)) | walk1 | (dsimp only; walk1)))
  (try dsimp only at *)
  rename Fr _ _ _ _ => F0
  rename News _ _ _ _ => N0
  rw [pick12 hvw] at N0
  have hg3 : ∀ q ∈ words ms, q.2.length ≤ 3 := fun q hq => (good_ne (k := q.1) (words_good ms q hq)).2.1
  refine Ctr.use (py_written _ vw (words ms)) (by decide) (by decide) B F0 X N0 T rfl rfl ⟨News.isList N0 (by k_mem), RowsIn.at N0 (hRI.mono fun q hq => by (repeat (refine List.Mem.tail _ ?_)); exact hq), by rw [← RowsIn.length hRI, hvw]; decide, hg3⟩ ?_
  intro r' h' tk' hK' hP' F' N'
  obtain ⟨P, vp, np, e', hg', hn', hSp⟩ := hP'
  subst e'
  have N1 := news_add F0 N' hg' hn'
  clear N' N0 F0
  (try dsimp only at *)
  have hwr := wr_len (words_good ms)
  have hwfl := wr_flat hg3
  have hw12 : (words ms).length = 12 := by rw [← RowsIn.length hRI, hvw]
  generalize hps : wr (words ms) = ps at *
  repeat' ((fail_if_success (with_reducible show wpAny _ _ (call (Value.builtin "str.join") _) _ _ _)); (first | (k_unfold; (try dsimp only)) | ((with_reducible show wpAny _ _ (execs (List.cons _ List.nil) _) _ _ _); (try dsimp only); (try k_gentoks); (with_reducible refine execs_one ?_)) | ((with_reducible show wpAny _ _ (execs (List.cons _ _) _) _ _ _); (try dsimp only); (try k_gentoks); (with_reducible refine wpAny_execs_cons ?_)) | ((with_reducible show wpAny _ _ (exec (Stmt.If _ _ _ _) _) _ _ _); (with_reducible refine wpAny_If ?_)) | walk1 | (dsimp only; walk1)))
  (try dsimp only at *)
  rename News _ _ _ _ => N8
  refine str_join (ps := ps) (News.isList N8 (by k_mem)) hSp (by omega) ?_
  intro tj kj
  repeat' ((fail_if_success (with_reducible show wpAny _ _ (call (Value.ref 111) _) _ _ _)); (first | (k_unfold; (try dsimp only)) | ((with_reducible show wpAny _ _ (execs (List.cons _ List.nil) _) _ _ _); (try dsimp only); (try k_gentoks); (with_reducible refine execs_one ?_)) | ((with_reducible show wpAny _ _ (execs (List.cons _ _) _) _ _ _); (try dsimp only); (try k_gentoks); (with_reducible refine wpAny_execs_cons ?_)) | ((with_reducible show wpAny _ _ (exec (Stmt.If _ _ _ _) _) _ _ _); (with_reducible refine wpAny_If ?_)) | walk1 | (dsimp only; walk1)))
  (try dsimp only at *)
  rename Fr _ _ _ _ => F0
  rename News _ _ _ _ => N0
  refine Ctr.use (py_read ps.flatten _) (by decide) (by decide) B F0 X N0 T rfl rfl (by omega) ?_
  intro r' h' tk' hK' hP' F' N'
  obtain ⟨R1, vr, nr, ws1, e', hg', hn', hRN, hRd⟩ := hP'
  subst e'
  have N1 := news_add F0 N' hg' hn'
  have hws1 : ws1 = words ms ++ [(0, [])] := reads_back (words_good ms) (by rw [hps]; exact hRd)
  clear N' N0 F0
  (try dsimp only at *)
  repeat' ((fail_if_success (with_reducible show wpAny _ _ (compareOp CmpOp.NotEq (Value.ref _) (Value.ref _)) _ _ _)); (first | (k_unfold; (try dsimp only)) | ((with_reducible show wpAny _ _ (execs (List.cons _ List.nil) _) _ _ _); (try dsimp only); (try k_gentoks); (with_reducible refine execs_one ?_)) | ((with_reducible show wpAny _ _ (execs (List.cons _ _) _) _ _ _); (try dsimp only); (try k_gentoks); (with_reducible refine wpAny_execs_cons ?_)) | ((with_reducible show wpAny _ _ (exec (Stmt.If _ _ _ _) _) _ _ _); (with_reducible refine wpAny_If ?_)) | walk1 | (dsimp only; walk1)))
  (try dsimp only at *)
  rename News _ _ _ _ => N8
  refine rows_ne (News.isList N8 (by k_mem)) (News.isList N8 (by k_mem)) hRN.at (RowsIn.at N8 (RowsIn.snoc (k := 0) (x := []) (by k_mem) (hRI.mono fun q hq => by (repeat (refine List.Mem.tail _ ?_)); exact hq))) (show 100 + 3 < cLine by decide) (show 100 + 3 + 1 < cLine by decide) ?_
  rw [decide_eq_true hws1]
  repeat' ((fail_if_success (with_reducible show wpAny _ _ (exec (Stmt.For _ _ _ _ _) _) _ _ _)); (first | (k_unfold; (try dsimp only)) | ((with_reducible show wpAny _ _ (execs (List.cons _ List.nil) _) _ _ _); (try dsimp only); (try k_gentoks); (with_reducible refine execs_one ?_)) | ((with_reducible show wpAny _ _ (execs (List.cons _ _) _) _ _ _); (try dsimp only); (try k_gentoks); (with_reducible refine wpAny_execs_cons ?_)) | ((with_reducible show wpAny _ _ (exec (Stmt.If _ _ _ _) _) _ _ _); (with_reducible refine wpAny_If ?_)) | walk1 | (dsimp only; walk1)))
  (try dsimp only at *)
  refine For_invV (hE := passesNo) s.heap rfl rfl ?_
  repeat' ((fail_if_success (with_reducible show wpAny _ _ (call (Value.builtin "len") [Value.ref _]) _ _ _)); (first | (k_unfold; (try dsimp only)) | ((with_reducible show wpAny _ _ (execs (List.cons _ List.nil) _) _ _ _); (try dsimp only); (try k_gentoks); (with_reducible refine execs_one ?_)) | ((with_reducible show wpAny _ _ (execs (List.cons _ _) _) _ _ _); (try dsimp only); (try k_gentoks); (with_reducible refine wpAny_execs_cons ?_)) | ((with_reducible show wpAny _ _ (exec (Stmt.If _ _ _ _) _) _ _ _); (with_reducible refine wpAny_If ?_)) | walk1 | (dsimp only; walk1)))
  (try dsimp only at *)
  rename News _ _ _ _ => N8
  have hvpl : vp.length = ps.length := by have := StrsAre.length hSp; rwa [List.length_map] at this
  refine lst_len (vs := vp) (News.isList N8 (by k_mem)) (by omega) ?_
  intro tn kn
  repeat' ((fail_if_success (with_reducible show wpAny _ _ (pyIter _) _ _ _)); (first | (k_unfold; (try dsimp only)) | ((with_reducible show wpAny _ _ (execs (List.cons _ List.nil) _) _ _ _); (try dsimp only); (try k_gentoks); (with_reducible refine execs_one ?_)) | ((with_reducible show wpAny _ _ (execs (List.cons _ _) _) _ _ _); (try dsimp only); (try k_gentoks); (with_reducible refine wpAny_execs_cons ?_)) | ((with_reducible show wpAny _ _ (exec (Stmt.If _ _ _ _) _) _ _ _); (with_reducible refine wpAny_If ?_)) | walk1 | (dsimp only; walk1)))
  (try dsimp only at *)
  rename IsRange _ _ _ _ _ _ _ _ => hr9
  rename Fr _ _ _ _ => F9
  rename News _ _ _ _ => N9
  refine for_rng (n := ps.length) rfl hr9 (small_one (by omega) (by omega) (by omega) (by omega)) (by rw [rangeSize_nat]; omega) F9 (news_keep N9) ?turn ?done
  case turn =>
    clear F9 N9 hr9 hret
    intro i t h tk own hi hoff F' N'
    simp only [List.cons_append] at N'
    (try dsimp only at *)
    repeat' ((fail_if_success (with_reducible show wpAny _ _ (subscriptTail _ _ (Value.ref _) (Value.int _ _)) _ _ _)); (first | (k_unfold; (try dsimp only)) | ((with_reducible show wpAny _ _ (execs (List.cons _ List.nil) _) _ _ _); (try dsimp only); (try k_gentoks); (with_reducible refine execs_one ?_)) | ((with_reducible show wpAny _ _ (execs (List.cons _ _) _) _ _ _); (try dsimp only); (try k_gentoks); (with_reducible refine wpAny_execs_cons ?_)) | ((with_reducible show wpAny _ _ (exec (Stmt.If _ _ _ _) _) _ _ _); (with_reducible refine wpAny_If ?_)) | walk1 | (dsimp only; walk1)))
    (try dsimp only at *)
    rename News _ _ _ _ => N8
    refine item_strs (xs := ps.map mkS) (News.isList N8 (by k_mem)) hSp (by omega) (by rw [List.length_map]; omega) (by rw [List.length_map]; omega) ?_ (by with_unfolding_all rfl)
    intro t7
    rw [get_mk]
    repeat' ((fail_if_success (with_reducible show wpAny _ _ (binaryOp Operator.Add (Value.ref _) (Value.ref _)) _ _ _)); (fail_if_success (with_reducible show InvEndG _ _ _ _ _ _)); (first | (k_unfold; (try dsimp only)) | ((with_reducible show wpAny _ _ (execs (List.cons _ List.nil) _) _ _ _); (try dsimp only); (try k_gentoks); (with_reducible refine execs_one ?_)) | ((with_reducible show wpAny _ _ (execs (List.cons _ _) _) _ _ _); (try dsimp only); (try k_gentoks); (with_reducible refine wpAny_execs_cons ?_)) | ((with_reducible show wpAny _ _ (exec (Stmt.If _ _ _ _) _) _ _ _); (with_reducible refine wpAny_If ?_)) | walk1 | (dsimp only; walk1)))
    all_goals (try dsimp only at *)
    · rename (_ == [32]) = true => hbl
      rename Fr _ _ _ _ => F8
      rename News _ _ _ _ => N8
      simp only [pick_u, pick_f] at N8
      refine lst_add (xs := vp.take i) (ys := vp.drop (i + 1)) F8 N8 (News.isList N8 (by k_mem)) (News.isList N8 (by k_mem)) (by rw [List.length_take, List.length_drop]; omega) ?_
      clear F8 N8
      intro D5 h5 F5 N5 l5
      k_lt l5
      repeat' ((fail_if_success (with_reducible show wpAny _ _ (call (Value.builtin "str.join") _) _ _ _)); (first | (k_unfold; (try dsimp only)) | ((with_reducible show wpAny _ _ (execs (List.cons _ List.nil) _) _ _ _); (try dsimp only); (try k_gentoks); (with_reducible refine execs_one ?_)) | ((with_reducible show wpAny _ _ (execs (List.cons _ _) _) _ _ _); (try dsimp only); (try k_gentoks); (with_reducible refine wpAny_execs_cons ?_)) | ((with_reducible show wpAny _ _ (exec (Stmt.If _ _ _ _) _) _ _ _); (with_reducible refine wpAny_If ?_)) | walk1 | (dsimp only; walk1)))
      (try dsimp only at *)
      rename News _ _ _ _ => N8
      refine str_join (ps := ps.take i ++ ps.drop (i + 1)) (News.isList N8 (by k_mem)) (strs_cut hSp i) (cut_le hwr.2 (by omega)) ?_
      intro tj kj
      repeat' ((fail_if_success (with_reducible show wpAny _ _ (call (Value.ref 111) _) _ _ _)); (first | (k_unfold; (try dsimp only)) | ((with_reducible show wpAny _ _ (execs (List.cons _ List.nil) _) _ _ _); (try dsimp only); (try k_gentoks); (with_reducible refine execs_one ?_)) | ((with_reducible show wpAny _ _ (execs (List.cons _ _) _) _ _ _); (try dsimp only); (try k_gentoks); (with_reducible refine wpAny_execs_cons ?_)) | ((with_reducible show wpAny _ _ (exec (Stmt.If _ _ _ _) _) _ _ _); (with_reducible refine wpAny_If ?_)) | walk1 | (dsimp only; walk1)))
      (try dsimp only at *)
      rename Fr _ _ _ _ => F0
      rename News _ _ _ _ => N0
      refine Ctr.use (py_read (ps.take i ++ ps.drop (i + 1)).flatten _) (by decide) (by decide) B F0 X N0 T rfl rfl (cut_le hwr.2 (by omega)) ?_
      intro r' h' tk' hK' hP' F' N'
      obtain ⟨R2, vr2, nr2, ws2, e', hg', hn', hRN2, hRd2⟩ := hP'
      subst e'
      have N1 := news_add F0 N' hg' hn'
      have hws2 : ws2 ≠ words ms ++ [(0, [])] := reads_off (words_good ms) (j := i) (by rw [hps]; exact get_blank hi hbl) (by rw [hps]; exact hRd2)
      clear N' N0 F0
      (try dsimp only at *)
      repeat' ((fail_if_success (with_reducible show wpAny _ _ (compareOp CmpOp.Eq (Value.ref _) (Value.ref _)) _ _ _)); (first | (k_unfold; (try dsimp only)) | ((with_reducible show wpAny _ _ (execs (List.cons _ List.nil) _) _ _ _); (try dsimp only); (try k_gentoks); (with_reducible refine execs_one ?_)) | ((with_reducible show wpAny _ _ (execs (List.cons _ _) _) _ _ _); (try dsimp only); (try k_gentoks); (with_reducible refine wpAny_execs_cons ?_)) | ((with_reducible show wpAny _ _ (exec (Stmt.If _ _ _ _) _) _ _ _); (with_reducible refine wpAny_If ?_)) | walk1 | (dsimp only; walk1)))
      (try dsimp only at *)
      rename News _ _ _ _ => N8
      refine rows_eq (News.isList N8 (by k_mem)) (News.isList N8 (by k_mem)) hRN2.at (RowsIn.at N8 (RowsIn.snoc (k := 0) (x := []) (by k_mem) (hRI.mono fun q hq => by (repeat (first | exact List.mem_append_left _ hq | refine List.Mem.tail _ ?_))))) (show 100 + 3 < cLine by decide) (show 100 + 3 + 1 < cLine by decide) ?_
      rw [decide_eq_false hws2]
      repeat' ((fail_if_success (with_reducible show InvEndG _ _ _ _ _ _)); (first | (k_unfold; (try dsimp only)) | ((with_reducible show wpAny _ _ (execs (List.cons _ List.nil) _) _ _ _); (try dsimp only); (try k_gentoks); (with_reducible refine execs_one ?_)) | ((with_reducible show wpAny _ _ (execs (List.cons _ _) _) _ _ _); (try dsimp only); (try k_gentoks); (with_reducible refine wpAny_execs_cons ?_)) | ((with_reducible show wpAny _ _ (exec (Stmt.If _ _ _ _) _) _ _ _); (with_reducible refine wpAny_If ?_)) | walk1 | (dsimp only; walk1)))
      (try dsimp only at *)
      rename Fr _ _ _ _ => F8
      rename News _ _ _ _ => N8
      refine InvEndG.intro F8 N8 ⟨fun y hy => if_neg hy, rfl⟩ hoff (fun p hp => by (repeat (first | exact mem4 hp | refine List.Mem.tail _ ?_))) (fun p hp => by (repeat (first | exact mem4o hp | refine List.Mem.tail _ ?_)))
    · rename Fr _ _ _ _ => F8
      rename News _ _ _ _ => N8
      refine InvEndG.intro F8 N8 ⟨fun y hy => if_neg hy, rfl⟩ hoff (fun p hp => mem4 hp) (fun p hp => mem4o hp)
  case done =>
    clear F9 N9 hr9
    intro u h tk F' N'
    (try dsimp only at *)
    repeat' ((fail_if_success (with_reducible show wpAny _ _ (exec (Stmt.For _ _ _ _ _) _) _ _ _)); (first | (k_unfold; (try dsimp only)) | ((with_reducible show wpAny _ _ (execs (List.cons _ List.nil) _) _ _ _); (try dsimp only); (try k_gentoks); (with_reducible refine execs_one ?_)) | ((with_reducible show wpAny _ _ (execs (List.cons _ _) _) _ _ _); (try dsimp only); (try k_gentoks); (with_reducible refine wpAny_execs_cons ?_)) | ((with_reducible show wpAny _ _ (exec (Stmt.If _ _ _ _) _) _ _ _); (with_reducible refine wpAny_If ?_)) | walk1 | (dsimp only; walk1)))
    (try dsimp only at *)
    rename Fr _ _ _ _ => F0
    refine For_turns (hE := passesNo) F0 ?_
    repeat' ((fail_if_success (with_reducible show wpAny _ _ (eval (PySem.Expr.ListComp _ _ _ _) _) _ _ _)); (first | (k_unfold; (try dsimp only)) | ((with_reducible show wpAny _ _ (execs (List.cons _ List.nil) _) _ _ _); (try dsimp only); (try k_gentoks); (with_reducible refine execs_one ?_)) | ((with_reducible show wpAny _ _ (execs (List.cons _ _) _) _ _ _); (try dsimp only); (try k_gentoks); (with_reducible refine wpAny_execs_cons ?_)) | ((with_reducible show wpAny _ _ (exec (Stmt.If _ _ _ _) _) _ _ _); (with_reducible refine wpAny_If ?_)) | walk1 | (dsimp only; walk1)))
    (try dsimp only at *)
    rename Fr _ _ _ _ => F0
    refine LCp.ListComp_P F0 (by with_unfolding_all rfl) (by decide) rfl (by decide) rfl rfl (by decide) ?_
    repeat' ((fail_if_success (with_reducible show LCp.SrcLP _ _ _ _ _ _ _ _ _ _ _ _ _ _ _)); (first | (k_unfold; (try dsimp only)) | ((with_reducible show wpAny _ _ (execs (List.cons _ List.nil) _) _ _ _); (try dsimp only); (try k_gentoks); (with_reducible refine execs_one ?_)) | ((with_reducible show wpAny _ _ (execs (List.cons _ _) _) _ _ _); (try dsimp only); (try k_gentoks); (with_reducible refine wpAny_execs_cons ?_)) | ((with_reducible show wpAny _ _ (exec (Stmt.If _ _ _ _) _) _ _ _); (with_reducible refine wpAny_If ?_)) | walk1 | (dsimp only; walk1)))
    (try dsimp only at *)
    rename Fr _ _ _ _ => F8
    rename News _ _ _ _ => N8
    refine LCp.SrcLP.ledger (its := List.toArray (vw ++ [_])) rfl F8 N8 (by k_mem) (by simp only [List.size_toArray, List.length_append, List.length_cons, List.length_nil, sizeLine_eq]; omega) ?_
    intro g9
    refine comp_kinds (ws := words ms ++ [(0, [])]) (.inr ⟨_, by k_mem, rfl, _, rfl⟩) (RowsIn.snoc (k := 0) (x := []) (by k_mem) (hRI.mono fun q hq => by (repeat (refine List.Mem.tail _ ?_)); exact hq)) ?_ ?_
    · clear F8 N8
      intro k t I oI C oC D m₂ h tk ys E' hC hm F' N'
      repeat' ((fail_if_success (with_reducible show _ ∧ _)); (first | (k_unfold; (try dsimp only)) | ((with_reducible show wpAny _ _ (execs (List.cons _ List.nil) _) _ _ _); (try dsimp only); (try k_gentoks); (with_reducible refine execs_one ?_)) | ((with_reducible show wpAny _ _ (execs (List.cons _ _) _) _ _ _); (try dsimp only); (try k_gentoks); (with_reducible refine wpAny_execs_cons ?_)) | ((with_reducible show wpAny _ _ (exec (Stmt.If _ _ _ _) _) _ _ _); (with_reducible refine wpAny_If ?_)) | walk1 | (dsimp only; walk1)))
      (try dsimp only at *)
      rename Fr _ _ _ _ => F7
      rename News _ _ _ _ => N7
      exact ⟨⟨_, rfl⟩, _, _, rfl, F7, N7⟩
    · intro yk hIk D6 h6 tk6 F6 N6 o6
      clear F8 N8
      simp only [LCg.Off1] at o6
      (try dsimp only at *)
      repeat' ((fail_if_success (with_reducible show wpAny _ _ (binaryOp Operator.Add (Value.ref _) (Value.ref _)) _ _ _)); (first | (k_unfold; (try dsimp only)) | ((with_reducible show wpAny _ _ (execs (List.cons _ List.nil) _) _ _ _); (try dsimp only); (try k_gentoks); (with_reducible refine execs_one ?_)) | ((with_reducible show wpAny _ _ (execs (List.cons _ _) _) _ _ _); (try dsimp only); (try k_gentoks); (with_reducible refine wpAny_execs_cons ?_)) | ((with_reducible show wpAny _ _ (exec (Stmt.If _ _ _ _) _) _ _ _); (with_reducible refine wpAny_If ?_)) | walk1 | (dsimp only; walk1)))
      (try dsimp only at *)
      have hykl : yk.length = 13 := by rw [IntsAre.length hIk, List.length_map, List.length_append, hw12]; rfl
      rename Fr _ _ _ _ => F8
      rename News _ _ _ _ => N8
      refine lst_add (xs := yk) (ys := [_, _]) F8 N8 (News.isList N8 (by k_mem)) (News.isList N8 (by k_mem)) (by simp only [List.length_cons, List.length_nil]; omega) ?_
      clear F8 N8
      intro D7 h7 F7 N7 l7
      k_lt l7
      repeat' ((fail_if_success (with_reducible show wpAny _ _ (binaryOp Operator.Add (Value.ref _) (Value.ref _)) _ _ _)); (first | (k_unfold; (try dsimp only)) | ((with_reducible show wpAny _ _ (execs (List.cons _ List.nil) _) _ _ _); (try dsimp only); (try k_gentoks); (with_reducible refine execs_one ?_)) | ((with_reducible show wpAny _ _ (execs (List.cons _ _) _) _ _ _); (try dsimp only); (try k_gentoks); (with_reducible refine wpAny_execs_cons ?_)) | ((with_reducible show wpAny _ _ (exec (Stmt.If _ _ _ _) _) _ _ _); (with_reducible refine wpAny_If ?_)) | walk1 | (dsimp only; walk1)))
      (try dsimp only at *)
      rename CarriedAll _ _ => hCa
      rename Heap.IsList _ _ _ => hLa
      have hIa := carried_ints hCa
      have hcl : List.length _ = _ := IntsAre.length hIa
      simp only [List.length_map] at hcl
      have hfl := List.length_filter_le (fun _ : Int => true) ms
      rename Fr _ _ _ _ => F8
      rename News _ _ _ _ => N8
      refine lst_add F8 N8 (News.isList N8 (by k_mem)) hLa (by simp only [List.length_append, List.length_cons, List.length_nil]; omega) ?_
      have hIn := fun t1 t2 => IntsAre.append (IntsAre.append hIk (.cons 255 t1 (.cons 256 t2 .nil))) hIa
      clear F8 N8
      intro D8 h8 F8 N8 l8
      repeat' ((fail_if_success (with_reducible show wpAny _ _ (pyIter _) _ _ _)); (first | (k_unfold; (try dsimp only)) | ((with_reducible show wpAny _ _ (execs (List.cons _ List.nil) _) _ _ _); (try dsimp only); (try k_gentoks); (with_reducible refine execs_one ?_)) | ((with_reducible show wpAny _ _ (execs (List.cons _ _) _) _ _ _); (try dsimp only); (try k_gentoks); (with_reducible refine wpAny_execs_cons ?_)) | ((with_reducible show wpAny _ _ (exec (Stmt.If _ _ _ _) _) _ _ _); (with_reducible refine wpAny_If ?_)) | walk1 | (dsimp only; walk1)))
      (try dsimp only at *)
      rename Fr _ _ _ _ => F9
      rename News _ _ _ _ => N9
      have N5 := news_head N9
      refine for_list (fun _ _ nw => nw = _) rfl F9 N5 (List.Mem.head _) rfl ?turn2 ?done2
      case turn2 =>
        intro I hI i v m₁ nw o h tk hv hJ F' N'
        subst hJ
        obtain ⟨k, t, rfl⟩ := ints_at (hIn _ _) hv
        clear hv
        (try dsimp only at *)
        repeat' ((fail_if_success (with_reducible show UnrEndW _ _ _ _ _ _)); (first | (k_unfold; (try dsimp only)) | ((with_reducible show wpAny _ _ (execs (List.cons _ List.nil) _) _ _ _); (try dsimp only); (try k_gentoks); (with_reducible refine execs_one ?_)) | ((with_reducible show wpAny _ _ (execs (List.cons _ _) _) _ _ _); (try dsimp only); (try k_gentoks); (with_reducible refine wpAny_execs_cons ?_)) | ((with_reducible show wpAny _ _ (exec (Stmt.If _ _ _ _) _) _ _ _); (with_reducible refine wpAny_If ?_)) | walk1 | (dsimp only; walk1)))
        all_goals (try dsimp only at *)
        all_goals first | exact (is_1 (by assumption)).elim | exact (is_2 (by assumption)).elim | exact (is_3 (by assumption)).elim | skip
        rename Fr _ _ _ _ => F8
        rename News _ _ _ _ => N8
        exact loop_end hI F8 N8
      case done2 =>
        intro m₁ nw h tk hJ F' N'
        repeat' ((first | (k_unfold; (try dsimp only)) | ((with_reducible show wpAny _ _ (execs (List.cons _ List.nil) _) _ _ _); (try dsimp only); (try k_gentoks); (with_reducible refine execs_one ?_)) | ((with_reducible show wpAny _ _ (execs (List.cons _ _) _) _ _ _); (try dsimp only); (try k_gentoks); (with_reducible refine wpAny_execs_cons ?_)) | ((with_reducible show wpAny _ _ (exec (Stmt.If _ _ _ _) _) _ _ _); (with_reducible refine wpAny_If ?_)) | walk1 | (dsimp only; walk1)))
        exact hret _ _ _ F'.keep rfl
end
theorem fin_good {c : ClaimW} {cl : Str → Option Addr} {mean : ExcName → Option Value} {args : List WData} {s₁ s' : Shared} (hk : Kp s₁.heap s'.heap) (hos : s'.os = s₁.os) (hg : s'.gens = #[]) (hn : ∀ cls, c.raises args cls = false) (hp : c.post args (.bool true) args = true) : GoodWG c cl mean args s₁ (.ok (.ret (.bool true))) s' :=
  GoodW.toG ⟨.inl ⟨_, _, [], rfl, hn, .bool true, hp, fun _ => ⟨List.nodup_nil, fun _ h => nomatch h⟩⟩, hk, hos, hg⟩
end Mine
set_option maxRecDepth 100000 in
set_option maxHeartbeats 8000000 in
theorem PySem.Challenge.cw_mj0136_01_holds : PySem.Challenge.rw_mj0136_01.Holds := by
  refine Mine.hd ?_
  w_on
  intro w s₀ s₁ mg mb G Y fa o pm cd doc dV kV ho hd' hcd hD hmg hg args vals as hpre hlay hrd hwl hlo
  have KX := kIn_of Y
  refine Ground.open G ?_
  intro T B D TE TW
  try (refine guard_noD D (by decide +kernel) ?_; clear D)
  have hfa : mg (Str.ofString "law") = some (.ref 116) := mg_of KX T.g (by kernel_rfl)
  have e0 : (some (Value.ref fa) : Option Value) = some (.ref 116) := hmg.symm.trans hfa
  have e1 : fa = 116 := by injection e0 with e0; injection e0
  subst e1
  clear hmg
  wrow_args hpre hlay hrd hwl hlo
  refine enter_call ?_
  clear hcd hD hd' ho
  rename Heap.IsList _ _ _ => hL
  rename IntsAre _ _ => hI
  rename ¬ ((63 : Int) < _) => hc
  refine Mine.codeAny_le (dp := 301) (un := 4) (Mine.py_law _ _ _ [] callerA s₁.heap s₁ _ (below_caller _) KX T ⟨hL, hI, by omega⟩ ?_) (by decide) (by decide)
  intro r' h' tk' hk hr
  subst hr
  exact Mine.fin_good hk rfl hg (fun cls => rfl) (by wrow_post)

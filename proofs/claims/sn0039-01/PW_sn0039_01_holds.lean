import PyProof.Rows.All
import Wide.All
import OpenK.AllK
import Wide.FinOn
import Open.Tops
import Lean
import PySem.Challenge.RW_sn0039_01
set_option Elab.async false
set_option rowWalk.seconds 0
set_option maxRecDepth 100000
set_option compiler.extract_closed false
open PySem PySem.W PySem.W.X PyProof.Rows PySem.Calls
set_option maxHeartbeats 0 in
open_shared Mine.sh for PySem.Challenge.pw_sn0039_01 leaving 0
namespace Mine
local macro_rules | `(tactic| walk_at "clr") => `(tactic| (repeat (first | (rename _ ≠ _ => hh0; clear hh0) | (rename (_ ≠ _) ∧ _ => hh0; clear hh0) | (rename ((_ ≠ _) ∧ _) ∧ _ => hh0; clear hh0))))
local macro_rules | `(tactic| walk_at "om") => `(tactic| first | (walk_at "clr"; (repeat (first | (rename _ ∨ _ => hh0; clear hh0) | (rename _ = Int.toNat _ => hh0; clear hh0) | (rename (_ : Nat) = _ - _ => hh0; clear hh0))); omega) | (walk_at "clr"; omega) | omega)
local macro_rules | `(tactic| k_ne) => `(tactic| (refine neN ?_; (try dsimp only); (fail_if_success (fail_if_success omega)); first | assumption | exact Ne.symm (by assumption) | (refine Nat.ne_of_lt ?_; (repeat (first | exact Nat.lt_succ_self _ | apply Nat.lt_succ_of_lt)); done) | (refine Nat.ne_of_gt ?_; (repeat (first | exact Nat.lt_succ_self _ | apply Nat.lt_succ_of_lt)); done) | (refine Nat.ne_of_gt (Nat.lt_of_le_of_lt ?_ (by assumption)); (repeat (first | exact Nat.le_refl _ | apply Nat.le_succ_of_le)); done) | omega))
section
/-- the objects of the text's top that the walk reads -/
noncomputable def KF (P : Params) : Frag := [(nat_lit 2, PySem.W.boot_o_2 P), (nat_lit 3, Mine.sh.o_46 P), (nat_lit 6, PySem.W.boot_o_6 P), (nat_lit 20, Mine.sh.o_12 P), (nat_lit 21, Mine.sh.o_13 P), (nat_lit 27, Mine.sh.o_19 P), (nat_lit 28, Mine.sh.o_20 P), (nat_lit 34, Mine.sh.o_26 P), (nat_lit 35, Mine.sh.o_27 P), (nat_lit 41, Mine.sh.o_33 P), (nat_lit 42, Mine.sh.o_34 P), (nat_lit 43, Mine.sh.o_40 P), (nat_lit 51, Mine.sh.o_53 P), (nat_lit 52, Mine.sh.o_54 P), (nat_lit 58, Mine.sh.o_60 P), (nat_lit 59, Mine.sh.o_61 P), (nat_lit 65, Mine.sh.o_67 P), (nat_lit 66, Mine.sh.o_68 P), (nat_lit 72, Mine.sh.o_74 P), (nat_lit 73, Mine.sh.o_75 P), (nat_lit 79, Mine.sh.o_81 P), (nat_lit 80, Mine.sh.o_82 P), (nat_lit 86, Mine.sh.o_88 P), (nat_lit 87, Mine.sh.o_89 P), (nat_lit 93, Mine.sh.o_95 P), (nat_lit 94, Mine.sh.o_96 P), (nat_lit 98, Mine.sh.o_100 P), (nat_lit 99, Mine.sh.o_101 P), (nat_lit 105, Mine.sh.o_107 P), (nat_lit 106, Mine.sh.o_108 P), (nat_lit 110, Mine.sh.o_112 P), (nat_lit 111, Mine.sh.o_113 P)]
/-- the text, as the head sees it -/
noncomputable def VQ : Program := view PySem.Challenge.pw_sn0039_01 [1, 3, 4, 5, 7, 8, 9, 10, 11, 12, 13, 14, 15, 16, 17, 18, 19, 20, 21, 22, 23, 24, 25, 26, 27, 28, 29, 30, 31, 32, 33, 34, 35, 36, 37, 38, 39, 40, 41, 42, 43, 44, 45, 46, 47, 48, 49, 50, 51, 52, 53, 54, 55, 56, 57, 58, 59, 61, 62, 63, 64, 65, 67, 68, 69, 70, 71, 72]
end
section
noncomputable abbrev PR : Program := PySem.Challenge.rw_sn0039_01.row.prog
section
variable {prog : Program} {w : World} {A : Around} {s : Shared} {K : Frag}
theorem enter_def {R : Result → Shared → Prop} {name qual : Str} {params : Arguments} {body : List Stmt} {scope : Scope} {dV kV doc pm cdv ct oc : Value} {an od : Option Addr} {osl : Array (Option Value)} {f : Addr} {args : Args} {binds : List (Str × Value)}
    (X : K.In s.heap) (hlim : s.heap.NoLimit)
    (ho : K.lookup f = some ⟨oc, od, .func (fnOf name qual params body scope dV kV doc pm an cdv ct), osl⟩) (hcd : codeIn K cdv qual = true) (hroom : A.depth < recursionLimit)
    (hbind : BindsTo s (fnOf name qual params body scope dV kV doc pm an cdv ct) args binds) (hloc : ∀ y ∈ binds, scope.names.lookup y.1 = some .local)
    (h : ∀ L' h₁, Fr s.heap L' h₁ (fun y => binds.reverse.lookup y) → News s.heap L' h₁ [] → K.In s.heap →
      wpAny (model prog w) (A.deeper (envOf qual scope L' f cdv)) (execs body (envOf qual scope L' f cdv))
        (fun fl s' => R (.ok (.ret (match fl with | .ret v => v | _ => .none))) s')
        (fun e s' => wpAny (model prog w) (A.deeper (envOf qual scope L' f cdv)) («leaving» (envOf qual scope L' f cdv) e) (fun _ s'' => R (.error e) s'') (fun e' s'' => R (.error e') s'') s')
        { s with heap := h₁, toks := s.toks + binds.length })
    (hco : scope.isCoroutine = false := by rfl) (hgen : scope.isGenerator = false := by rfl) (hk : scope.kind = .function := by rfl)
    (hcell : ∀ x ∈ scope.names, x.2 ≠ .cell := by decide) : codeAny (model prog w) A (.call (.ref f) args) R s := by
  refine codeAny_call_def (fd := fnOf name qual params body scope dV kV doc pm an cdv ct) (body := body) (binds := binds) hroom (X _ _ ho) rfl hlim (codeRec_of X hcd) rfl hbind hcell hloc (fun h₁ hns hk₁ => ?_) hco hgen hk
  exact h s.heap.objs.size h₁ ⟨hns, hk₁, Nat.le_refl _⟩ News.nil X
theorem enter_defC {R : Result → Shared → Prop} {name qual : Str} {params : Arguments} {body : List Stmt} {scope : Scope} {dV kV doc pm cdv ct oc : Value} {an od : Option Addr} {osl : Array (Option Value)} {f : Addr} {args : Args} {binds : List (Str × Value)}
    (X : K.In s.heap) (hlim : s.heap.NoLimit)
    (ho : K.lookup f = some ⟨oc, od, .func (fnOf name qual params body scope dV kV doc pm an cdv ct), osl⟩) (hcd : codeIn K cdv qual = true) (hroom : A.depth < recursionLimit)
    (hbind : BindsTo s (fnOf name qual params body scope dV kV doc pm an cdv ct) args binds)
    (hkind : (binds.all fun y => scope.names.lookup y.1 == some .local || scope.names.lookup y.1 == some .cell) = true)
    (hnd : ((cellsFrom 0 scope.names []).map (·.1)).Nodup)
    (h : ∀ L' h₁ tk cells, Fr s.heap L' h₁ (bindL (envOfC qual scope L' f cdv).kindOf binds fun _ => none) → News s.heap L' h₁ cells →
      CellsAre (bindC (envOfC qual scope L' f cdv).kindOf binds fun _ => none) (cellsFrom (L' + 1) scope.names []) cells → K.In s.heap →
      wpAny (model prog w) (A.deeper (envOfC qual scope L' f cdv)) (execs body (envOfC qual scope L' f cdv))
        (fun fl s' => R (.ok (.ret (match fl with | .ret v => v | _ => .none))) s')
        (fun e s' => wpAny (model prog w) (A.deeper (envOfC qual scope L' f cdv)) («leaving» (envOfC qual scope L' f cdv) e) (fun _ s'' => R (.error e) s'') (fun e' s'' => R (.error e') s'') s')
        { s with heap := h₁, toks := tk })
    (hco : scope.isCoroutine = false := by rfl) (hgen : scope.isGenerator = false := by rfl) (hk : scope.kind = .function := by rfl) : codeAny (model prog w) A (.call (.ref f) args) R s := by
  refine codeAny_call_function hroom (X _ _ ho) rfl hco hgen rfl (codeRec_of X hcd) (hbind _ _ _ _ ?_)
  refine wpAny_newFunctionEnv_cells hk (kindsX hkind _) fun env' he s' x => ?_
  subst he
  refine ⟨hlim.keeps x.toInCall.keep, codeAny_func ?_⟩
  obtain ⟨h₁, tk, rfl, _⟩ := x.done
  have hk₁ := x.toInCall.keep
  obtain ⟨cells, NC, Y⟩ := Cl.news (h₀ := s.heap) (Nat.le_refl _) fun n c hm => ⟨x.cell n c (lookup_of_mem_nodup (cellsFrom_names scope.names 0 (s.heap.objs.size + 1) [] [] rfl ▸ hnd) hm), x.above n c hm⟩
  exact h s.heap.objs.size h₁ tk cells ⟨x.toInCall.ns, hk₁, Nat.le_refl _⟩ (fun p hp => ⟨(NC p hp).1, (NC p hp).2.1, (NC p hp).2.2⟩) Y X
end
/-- what stands between two calls -/
structure Ctx (w : World) (mg mb : Str → Option Value) (mean : ExcName → Option Value) (base : Heap) (outer : List Env) (d u : Nat) (gs : Option (List Code)) (h : Heap) : Prop where
  X : (KF w.params).In h
  T : Top VQ (looseW VQ [Str.ofString "EXACT_TOKEN_TYPES"]) mean mg mb h
  B : Below ⟨none, d, some outer, gs, u⟩ base outer h
theorem Ctx.keeps {w : World} {mg mb : Str → Option Value} {mean : ExcName → Option Value} {base : Heap} {outer : List Env} {d u : Nat} {gs : Option (List Code)} {h h' : Heap}
    (C : Ctx w mg mb mean base outer d u gs h) (k : h.StaysIn h') : Ctx w mg mb mean base outer d u gs h' :=
  ⟨C.X.keeps k, C.T.keeps k, ⟨C.B.stack, fun b o e => k b o (C.B.stays b o e), C.B.frames.of_keeps fun b o e _ => ⟨o, k b o e, rfl⟩⟩⟩
theorem Ctx.push {w : World} {mg mb : Str → Option Value} {mean : ExcName → Option Value} {base : Heap} {outer : List Env} {d u : Nat} {gs : Option (List Code)} {h h' : Heap}
    {env : Env} {L : Addr} {m : Str → Option Value}
    (C : Ctx w mg mb mean base outer d u gs h) (F : Fr h L h' m) (hf : env.frame = some L) (hk : env.scope.kind = .function) : Ctx w mg mb mean base (env :: outer) (d + 1) (u + 3) gs h' :=
  ⟨C.X.keeps F.keep, C.T.keeps F.keep, ⟨rfl, fun b o e => F.keep b o (C.B.stays b o e), (pushX C.B F hf hk).frames⟩⟩
/-- the def at `f`, called with `args`, hands back a value for which P holds, and touches nothing that stood -/
noncomputable def Gives (lvl : Nat) (w : World) (f : Addr) (args : List Value) (Pre : Heap → Prop) (P : Value → Heap → Heap → Prop) : Prop :=
  ∀ (mg mb : Str → Option Value) (mean : ExcName → Option Value) (base : Heap) (outer : List Env) (d u : Nat) (gs : Option (List Code)) (s : Shared) (R : Result → Shared → Prop),
    Ctx w mg mb mean base outer d u gs s.heap → d ≤ lvl → u ≤ 4 * lvl → Pre s.heap →
    (∀ h' tk v, s.heap.StaysIn h' → P v s.heap h' → R (.ok (.ret v)) { s with heap := h', toks := tk }) →
    codeAny (model PySem.Challenge.rw_sn0039_01.row.prog w) ⟨none, d, some outer, gs, u⟩ (.call (.ref f) ⟨args, []⟩) R s
theorem call_gives {lvl : Nat} {w : World} {f : Addr} {args : List Value} {Pre : Heap → Prop} {P : Value → Heap → Heap → Prop} (G : Gives lvl w f args Pre P)
    {mg mb : Str → Option Value} {mean : ExcName → Option Value} {base : Heap} {outer : List Env} {d u : Nat} {gs : Option (List Code)} {s : Shared} {E : Value → Shared → Prop} {Q : Value → Shared → Prop}
    {h₀ : Heap} {env : Env} {L : Addr} {m : Str → Option Value} {news : List (Addr × Obj)}
    (C : Ctx w mg mb mean base outer d u gs h₀) (F : Fr h₀ L s.heap m) (N : News h₀ L s.heap news) (hd : d + 1 ≤ lvl) (hu : u + 3 ≤ 4 * lvl) (hp : Pre s.heap)
    (h : ∀ h' tk v, Fr h₀ L h' m → News h₀ L h' news → P v s.heap h' → s.heap.StaysIn h' → Q v { s with heap := h', toks := tk })
    (hf : env.frame = some L := by rfl) (hk : env.scope.kind = .function := by rfl) :
    wpAny (model PySem.Challenge.rw_sn0039_01.row.prog w) (Around.deeper ⟨none, d, some outer, gs, u⟩ env) (call (.ref f) args) Q E s := by
  refine wpAny_call ?_
  refine G _ _ _ _ _ _ _ _ _ _ (C.push F hf hk) hd hu hp (fun h' tk v st hP => ?_)
  refine h h' tk v ?_ (fun p hp => ⟨st _ _ (N p hp).1, (N p hp).2⟩) hP st
  obtain ⟨oL, a1, a2, hL, a3⟩ := F.ns
  exact ⟨⟨oL, a1, a2, st _ _ hL, a3⟩, fun b o e => st b o (F.keep b o e), F.above⟩
end
section
noncomputable def Stop (P : Prop) : Prop := P
theorem stop {P : Prop} (h : Stop P) : P := h
noncomputable abbrev upd (m : Str → Option Value) (x : Str) (v : Value) : Str → Option Value := fun y => if y = x then some v else m y
theorem storeU {M : Model} {A : Around} {E : Value → Shared → Prop} {s : Shared} {h₀ : Heap} {L a : Addr} {m : Str → Option Value} {cn : Str} {cs : Scope} {ccd : Value} {cl : List (Str × Addr)} {news : List (Addr × Obj)} {x : Str} {v : Value} {Q : Unit → Shared → Prop}
    (F : Fr h₀ L s.heap m) (N : News h₀ L s.heap news) (h : ∀ h', Fr h₀ L h' (upd m x v) → News h₀ L h' news → Q () { s with heap := h', toks := s.toks + 1 })
    (hk : cs.kind = .function := by rfl) (hx : (envX cn cs L a ccd cl).kindOf x = some .local := by rfl) : wpAny M A (storeName (envX cn cs L a ccd cl) x v) Q E s :=
  storeX_L F N h hk hx
theorem letA {A : Around} (P : Around → Prop) (h : let A1 := A; P A1) : P A := h
theorem letAE {A : Around} {env : Env} (P : Around → Env → Prop) (h : let A1 := A; let e1 := env; P A1 e1) : P A env := h
noncomputable def kb (u : Str → Option Value) : List (Str × Value) → Str → Option Value
  | [] => u
  | p :: r => upd (kb u r) p.1 p.2
noncomputable def PsOk (m : Str → Option Value) : List (Str × Value) → Prop
  | [] => True
  | p :: r => m p.1 = some p.2 ∧ PsOk m r
theorem kb_eq {m : Str → Option Value} : ∀ {ps : List (Str × Value)}, PsOk m ps → kb m ps = m
  | [], _ => rfl
  | p :: r, ⟨h1, h2⟩ => by
    funext z
    show (if z = p.1 then some p.2 else kb m r z) = m z
    rw [kb_eq h2]
    by_cases e : z = p.1
    · rw [if_pos e, e, h1]
    · rw [if_neg e]
theorem fr_up {h₀ h h' : Heap} {L : Addr} {m : Str → Option Value} (F : Fr h₀ L h m) (st : h.StaysIn h') : Fr h₀ L h' m :=
  let ⟨oL, a1, a2, hL, a3⟩ := F.ns; ⟨⟨oL, a1, a2, st _ _ hL, a3⟩, fun b o e => st b o (F.keep b o e), F.above⟩
theorem news_up {h₀ h h' : Heap} {L : Addr} {news : List (Addr × Obj)} (N : News h₀ L h news) (st : h.StaysIn h') : News h₀ L h' news :=
  fun p hp => ⟨st _ _ (N p hp).1, (N p hp).2⟩
theorem news_pick {h₀ h : Heap} {L : Addr} {a b : List (Addr × Obj)} (N : News h₀ L h a) (hs : ∀ p ∈ b, p ∈ a) : News h₀ L h b := fun p hp => N p (hs p hp)
/-- what a turn hands on -/
noncomputable def Nxt {σ : Type} (h₀ : Heap) (L : Addr) (Led : σ → List (Addr × Obj)) (ps : σ → List (Str × Value)) (P : σ → Prop) (X : Shared → Prop) (own : List (Addr × Obj)) (s₂ : Shared) : Prop :=
  ∃ c m', P c ∧ PsOk m' (ps c) ∧ Fr h₀ L s₂.heap m' ∧ News h₀ L s₂.heap (Led c ++ own) ∧ X s₂ ∧ OwnOff own ((Led c).map (·.1))
noncomputable def Turn (Q : Flow → Shared → Prop) (K : Shared → Prop) (f : Flow) (s₂ : Shared) : Prop :=
  match f with
  | .ret v => Q (.ret v) s₂
  | .brk => Q .next s₂
  | _ => K s₂
section
variable {prog : Program} {w : World} {A : Around} {E : Value → Shared → Prop} {s : Shared} {env : Env} {h₀ : Heap} {x : Str} {px : Pos} {body : List Stmt} {Q : Flow → Shared → Prop}
theorem for_walk {σ : Type} (Led : σ → List (Addr × Obj)) (ps : σ → List (Str × Value)) (P : Nat → σ → Prop) (X : Shared → Prop)
    {I : Addr} {fp wr : List Addr} {n : Nat} {Pv : Nat → Value → Prop} {St : Nat → Heap → Prop} {m₀ : Str → Option Value} {c₀ : σ}
    (hXt : ∀ s h tk, X s → X { s with heap := h, toks := tk })
    (W : Walks prog w A I fp wr n Pv St) (hLf : env.locals ∉ fp) (hwr : ∀ b ∈ wr, h₀.get? b = none) (hfp : ∀ q ∈ Led c₀, q.1 ∉ fp) (hlive : ∀ i h, St i h → ∀ b ∈ fp, ∃ o, h.get? b = some o)
    (hst : St 0 s.heap) (F : Fr h₀ env.locals s.heap m₀) (N : News h₀ env.locals s.heap (Led c₀)) (hk : PsOk m₀ (ps c₀)) (hP : P 0 c₀) (hX : X s)
    (turn : ∀ i v c u s₁ own, i < n → Pv i v → P i c → OwnOff own ((Led c).map (·.1)) → X s₁ → Fr h₀ env.locals s₁.heap (upd (kb u (ps c)) x v) → News h₀ env.locals s₁.heap (Led c ++ own) →
      wpAny (model prog w) A (execs body env) (Turn Q (Nxt h₀ env.locals Led ps (P (i + 1)) X own)) E s₁)
    (done : ∀ c m s₁, P n c → X s₁ → PsOk m (ps c) → Fr h₀ env.locals s₁.heap m → News h₀ env.locals s₁.heap (Led c) → Q .next s₁)
    (hx : env.kindOf x = some .local := by rfl)
    (hp : (env.scope.kind == .class || (env.scope.kind == .module && env.locals != env.globals)) = false := by rfl) (hE : PassesOwn (model prog w) A env E := by passes_own) :
    codeAny (model prog w) A (.forLoop (.Name x px) (.ref I) body [] env) (fun r s' => match r with | .ok f => Q f s' | .error e => cameBackBy (model prog w) A env E e s') s := by
  have hLw : env.locals ∉ wr := fun h => hLf (W.sub _ h)
  have old : ∀ b o, h₀.get? b = some o → b ∉ wr := fun b o e hb => by rw [hwr b hb] at e; cases e
  refine codeAny_forLoop
    (fun k s' => ∃ c m' i, St i s'.heap ∧ Fr h₀ env.locals s'.heap m' ∧ News h₀ env.locals s'.heap (Led c) ∧ PsOk m' (ps c) ∧ P i c ∧ X s' ∧ i ≤ n ∧ k = n + 1 - i ∧ ∀ q ∈ Led c, q.1 ∉ fp) ?_ (n + 1)
    ⟨c₀, m₀, 0, hst, F, N, hk, hP, hX, Nat.zero_le _, rfl, hfp⟩
  rintro k s' ⟨c, m', i, hst', F', N', hk', hP', hX', hi, rfl, nin⟩
  have next : ∀ h₁ : Heap, (∀ b o, b ∉ wr → s'.heap.get? b = some o → h₁.get? b = some o) → Fr h₀ env.locals h₁ m' ∧ News h₀ env.locals h₁ (Led c) := fun h₁ hk₁ =>
    ⟨⟨F'.ns.at' fun o e => hk₁ _ o hLw e, fun b o e => hk₁ b o (old b o e) (F'.keep b o e), F'.above⟩, fun p hp => ⟨hk₁ _ _ (fun q => nin p hp (W.sub _ q)) (N' p hp).1, (N' p hp).2⟩⟩
  by_cases hlt : i < n
  · refine W.item i _ _ _ hlt hst' fun v h₁ tk₁ hPv hst₁ hk₁ => ?_
    obtain ⟨F₁, N₁⟩ := next h₁ hk₁
    refine wpAny_assign_Name (wpAny_storeName_local hx F₁.ns (fun h₂ hn₂ hs₂ => ?_) hp)
    have F₂ := F₁.set hn₂ hs₂
    have Nown : News h₀ env.locals h₂ (ownOf h₀ fp h₂) := news_ownOf hLf
    have hoff : OwnOff (ownOf h₀ fp h₂) ((Led c).map (·.1)) := fun p hp b hb e => by
      obtain ⟨q, hq, rfl⟩ := List.mem_map.mp hb
      exact nin q hq (e ▸ ownOf_sub p hp)
    have F₃ : Fr h₀ env.locals h₂ (upd (kb m' (ps c)) x v) := by rw [kb_eq hk']; exact F₂
    refine wpAny_mono (turn i v c m' ⟨h₂, s'.gens, s'.drawn, tk₁ + 1, s'.os⟩ (ownOf h₀ fp h₂) hlt hPv hP' hoff (hXt _ _ _ hX') F₃ ((N₁.set hs₂).append Nown)) (fun f s₃ h₃ => ?_) hE
    have fin : Nxt h₀ env.locals Led ps (P (i + 1)) X (ownOf h₀ fp h₂) s₃ → ∃ m, m < n + 1 - i ∧ ∃ c m' i, St i s₃.heap ∧ Fr h₀ env.locals s₃.heap m' ∧ News h₀ env.locals s₃.heap (Led c) ∧ PsOk m' (ps c) ∧ P i c ∧ X s₃ ∧ i ≤ n ∧ m = n + 1 - i ∧ ∀ q ∈ Led c, q.1 ∉ fp := by
      rintro ⟨c', m₃, hP₃, hps₃, F₃, N₃, hX₃, hO₃⟩
      refine ⟨n + 1 - (i + 1), by (first | lia | walk_at "om"), c', m₃, i + 1, ?_, F₃, news_pick N₃ fun p hp => List.mem_append_left _ hp, hps₃, hP₃, hX₃, hlt, rfl, fun q hq hqf => ?_⟩
      rotate_left
      · have hq0 := N₃ q (List.mem_append_left _ hq)
        obtain ⟨o, ho⟩ := hlive _ _ hst₁ q.1 hqf
        exact hO₃ (q.1, o) (mem_ownOf hqf hq0.2.2 ((hs₂.2 q.1 fun e => hLf (e ▸ hqf)).trans ho)) q.1 (List.mem_map_of_mem hq) rfl
      refine W.frame _ _ _ hst₁ fun b hb o e => ?_
      have e₂ : h₂.get? b = some o := (hs₂.2 b fun q => hLf (q ▸ hb)).trans e
      cases hn : h₀.get? b with
      | some o₀ =>
        have : o₀ = o := by have := F₂.keep b o₀ hn; rw [e₂] at this; exact (Option.some.inj this).symm
        exact this ▸ F₃.keep b o₀ hn
      | none => exact (N₃ _ (List.mem_append_right _ (mem_ownOf hb hn e₂))).1
    cases f with
    | ret v => exact h₃
    | brk => exact h₃
    | cont => exact fin h₃
    | next => exact fin h₃
  · have hin : i = n := by (first | lia | walk_at "om")
    subst hin
    refine W.done _ _ _ hst' fun h₁ tk₁ hk₁ => wpAny_execs_nil ?_
    obtain ⟨F₁, N₁⟩ := next h₁ hk₁
    exact done c m' _ hP' (hXt _ _ _ hX') hk' F₁ N₁
/-- a for over range(a, b) -/
theorem it_range {σ : Type} (Led : σ → List (Addr × Obj)) (ps : σ → List (Str × Value)) (P : Nat → σ → Prop) (X : Shared → Prop)
    {r : Addr} {a₀ b₀ : Int} {t₀ u₀ v₀ : Tok} (n : Nat) {m₀ : Str → Option Value} {c₀ : σ}
    (hh : A.handled = none) (hr : IsRange s.heap r a₀ b₀ 1 t₀ u₀ v₀) (hsmall : Builtin.Range.small a₀ b₀ 1 = true) (hn : Builtin.Range.rangeSize a₀ b₀ 1 = (n : Int))
    (hXt : ∀ s h tk, X s → X { s with heap := h, toks := tk })
    (F : Fr h₀ env.locals s.heap m₀) (N : News h₀ env.locals s.heap (Led c₀)) (hk : PsOk m₀ (ps c₀)) (hP : P 0 c₀) (hX : X s)
    (turn : ∀ i t c u s₁ own, i < n → P i c → OwnOff own ((Led c).map (·.1)) → X s₁ → Fr h₀ env.locals s₁.heap (upd (kb u (ps c)) x (.int (a₀ + (i : Int)) t)) → News h₀ env.locals s₁.heap (Led c ++ own) →
      wpAny (model prog w) A (execs body env) (Turn Q (Nxt h₀ env.locals Led ps (P (i + 1)) X own)) E s₁)
    (done : ∀ c m s₁, P n c → X s₁ → PsOk m (ps c) → Fr h₀ env.locals s₁.heap m → News h₀ env.locals s₁.heap (Led c) → Q .next s₁)
    (hx : env.kindOf x = some .local := by rfl)
    (hp : (env.scope.kind == .class || (env.scope.kind == .module && env.locals != env.globals)) = false := by rfl) (hE : PassesOwn (model prog w) A env E := by passes_own) :
    wpAny (model prog w) A (pyIter (.ref r)) (fun it s₂ => codeAny (model prog w) A (.forLoop (.Name x px) it body [] env) (fun r s' => match r with | .ok f => Q f s' | .error e => cameBackBy (model prog w) A env E e s') s₂) E s := by
  refine wpAny_pyIter_range hr hsmall ?_
  refine for_walk Led ps P X hXt (Walks.range hh s.heap.objs.size a₀ 1 n) ?_ ?_ ?_ (fun i h st b hb => (List.mem_singleton.mp hb).symm ▸ ⟨_, st⟩) (by show IsRangeIter _ _ _ _ _; rw [hn]; simpa using Heap.get?_push_size _ rfl) (F.push _) (news_up N fun b o e => Heap.get?_push_of_some _ e) hk hP (hXt s _ s.toks hX) ?_ done hx hp hE
  · intro hm
    exact absurd F.ns.lt ((List.mem_singleton.mp hm) ▸ Nat.lt_irrefl _)
  · intro b hb
    rw [List.mem_singleton.mp hb]
    exact next_is_new F
  · intro q hq hm
    exact absurd (Heap.lt_size (N q hq).1) ((List.mem_singleton.mp hm) ▸ Nat.lt_irrefl _)
  · rintro i v c u s₁ own hi ⟨t, rfl⟩ hP' hoff hX' F' N'
    have e1 : a₀ + (i : Int) * 1 = a₀ + (i : Int) := by (first | lia | walk_at "om")
    rw [e1] at F'
    exact turn i t c u s₁ own hi hP' hoff hX' F' N'
/-- a for over a list that the loop does not change -/
theorem it_list {σ : Type} (Led : σ → List (Addr × Obj)) (ps : σ → List (Str × Value)) (P : Nat → σ → Prop) (X : Shared → Prop)
    {l : Addr} {vs : List Value} {m₀ : Str → Option Value} {c₀ : σ}
    (hh : A.handled = none) (hl : s.heap.IsList l vs.toArray) (hlL : l ≠ env.locals) (hla : ∀ q ∈ Led c₀, q.1 ≠ l)
    (hXt : ∀ s h tk, X s → X { s with heap := h, toks := tk })
    (F : Fr h₀ env.locals s.heap m₀) (N : News h₀ env.locals s.heap (Led c₀)) (hk : PsOk m₀ (ps c₀)) (hP : P 0 c₀) (hX : X s)
    (turn : ∀ i v c u s₁ own, vs[i]? = some v → P i c → OwnOff own ((Led c).map (·.1)) → X s₁ → Fr h₀ env.locals s₁.heap (upd (kb u (ps c)) x v) → News h₀ env.locals s₁.heap (Led c ++ own) →
      wpAny (model prog w) A (execs body env) (Turn Q (Nxt h₀ env.locals Led ps (P (i + 1)) X own)) E s₁)
    (done : ∀ c m s₁, P vs.length c → X s₁ → PsOk m (ps c) → Fr h₀ env.locals s₁.heap m → News h₀ env.locals s₁.heap (Led c) → Q .next s₁)
    (hx : env.kindOf x = some .local := by rfl)
    (hp : (env.scope.kind == .class || (env.scope.kind == .module && env.locals != env.globals)) = false := by rfl) (hE : PassesOwn (model prog w) A env E := by passes_own) :
    wpAny (model prog w) A (pyIter (.ref l)) (fun it s₂ => codeAny (model prog w) A (.forLoop (.Name x px) it body [] env) (fun r s' => match r with | .ok f => Q f s' | .error e => cameBackBy (model prog w) A env E e s') s₂) E s := by
  refine wpAny_pyIter_list hl ?_
  obtain ⟨ol, hol, _⟩ := id hl
  have hne : l ≠ s.heap.objs.size := Nat.ne_of_lt (Heap.lt_size hol)
  have W := Walks.list (prog := prog) (w := w) hh s.heap.objs.size l hne vs.toArray
  rw [show vs.toArray.size = vs.length from by simp] at W
  refine for_walk Led ps P X hXt W ?_ ?_ ?_ ?_ ⟨⟨_, Heap.get?_push_size _ rfl, rfl, rfl⟩, hl.at fun o e => Heap.get?_push_of_some _ e⟩ (F.push _) (news_up N fun b o e => Heap.get?_push_of_some _ e) hk hP (hXt s _ s.toks hX) ?_ done hx hp hE
  · intro hm
    rcases List.mem_cons.mp hm with e | hm
    · exact absurd F.ns.lt (e ▸ Nat.lt_irrefl _)
    · exact hlL (List.mem_singleton.mp hm).symm
  · intro b hb
    rw [List.mem_singleton.mp hb]
    exact next_is_new F
  · intro q hq hm
    rcases List.mem_cons.mp hm with e | hm
    · exact absurd (Heap.lt_size (N q hq).1) (e ▸ Nat.lt_irrefl _)
    · exact hla q hq (List.mem_singleton.mp hm)
  · intro i h st b hb
    rcases List.mem_cons.mp hb with rfl | hb
    · exact let ⟨o, e, _⟩ := st.1; ⟨o, e⟩
    · rw [List.mem_singleton.mp hb]; exact let ⟨o, e, _⟩ := st.2; ⟨o, e⟩
  · rintro i v c u s₁ own hi hv hP' hoff hX' F' N'
    exact turn i v c u s₁ own (by simpa using hv) hP' hoff hX' F' N'
/-- a while -/
theorem while_inv {σ : Type} (Led : σ → List (Addr × Obj)) (ps : σ → List (Str × Value)) (P : σ → Prop) (μ : σ → Nat) (X : Shared → Prop) {test : Expr} {pos : Pos} {m₀ : Str → Option Value} {c₀ : σ}
    (F : Fr h₀ env.locals s.heap m₀) (N : News h₀ env.locals s.heap (Led c₀)) (hk : PsOk m₀ (ps c₀)) (hP : P c₀) (hX : X s)
    (turn : ∀ c u s₁, P c → X s₁ → Fr h₀ env.locals s₁.heap (kb u (ps c)) → News h₀ env.locals s₁.heap (Led c) →
      wpAny (model prog w) A (isTrue test env (eval test env)) (fun b s₂ =>
        if b then wpAny (model prog w) A (execs body env) (Turn Q (Nxt h₀ env.locals Led ps (fun c' => P c' ∧ μ c' < μ c) X [])) E s₂
        else Q .next s₂) E s₁) (hE : PassesOwn (model prog w) A env E := by passes_own) :
    wpAny (model prog w) A (exec (.While test body [] pos) env) Q E s := by
  refine wpAny_While ?_
  refine codeAny_whileLoop (fun k s' => ∃ c m', Fr h₀ env.locals s'.heap m' ∧ News h₀ env.locals s'.heap (Led c) ∧ PsOk m' (ps c) ∧ P c ∧ X s' ∧ k = μ c) ?_ (μ c₀) ⟨c₀, m₀, F, N, hk, hP, hX, rfl⟩
  rintro k s' ⟨c, m', F', N', hk', hP', hX', rfl⟩
  refine wpAny_mono (turn c m' s' hP' hX' (by rw [kb_eq hk']; exact F') N') (fun b s₂ hb => ?_) hE
  cases b with
  | false => exact wpAny_execs_nil hb
  | true =>
    refine wpAny_mono hb (fun f s₃ h₃ => ?_) hE
    have fin : Nxt h₀ env.locals Led ps (fun c' => P c' ∧ μ c' < μ c) X [] s₃ → ∃ m, m < μ c ∧ ∃ c m', Fr h₀ env.locals s₃.heap m' ∧ News h₀ env.locals s₃.heap (Led c) ∧ PsOk m' (ps c) ∧ P c ∧ X s₃ ∧ m = μ c := by
      rintro ⟨c', m₃, hP₃, hps₃, F₃, N₃, hX₃, _⟩
      exact ⟨μ c', hP₃.2, c', m₃, F₃, news_pick N₃ fun p hp => List.mem_append_left _ hp, hps₃, hP₃.1, hX₃, rfl⟩
    cases f with
    | ret v => exact h₃
    | brk => exact h₃
    | cont => exact fin h₃
    | next => exact fin h₃
end
/-- only heap and marks have moved -/
noncomputable def Only (s₀ s : Shared) : Prop := ∃ h tk, s = { s₀ with heap := h, toks := tk }
theorem Only.rfl' {s₀ : Shared} : Only s₀ s₀ := ⟨s₀.heap, s₀.toks, rfl⟩
theorem Only.step {s₀ : Shared} : ∀ (s : Shared) (h : Heap) (tk : Nat), Only s₀ s → Only s₀ { s with heap := h, toks := tk } := fun _ h tk ⟨_, _, e⟩ => ⟨h, tk, by rw [e]⟩
theorem p34 {p : Int} (hp : p = 3 ∨ p = 4) : 3 ≤ p ∧ p ≤ 4 := by (first | lia | walk_at "om")
theorem len2p {p : Int} {n : Nat} (hp : p = 3 ∨ p = 4) (h : n = (2 * p).toNat) : (n : Int) = 2 * p := by (first | lia | walk_at "om")
theorem minus_toNat {n : Nat} {k : Int} (h0 : 0 ≤ k) (h1 : k ≤ n) : ((n - k.toNat : Nat) : Int) = n - k := by (first | lia | walk_at "om")
theorem zi (i : Nat) : (0 + (i : Int)).toNat = i := by (first | lia | walk_at "om")
end
noncomputable def StopMark : Prop := True
section
local macro_rules | `(tactic| walk_at "storeName") => `(tactic| (k_here; k_dflt (refine' storeU ?F ?N ?_ ?a ?b; (case F => k_asm); (case N => k_asm); (case a => rfl); (case b => rfl); k_whole); intro h' F' N'; (try k_sweep)))
local macro_rules | `(tactic| walk_at "exec For Name Call cons nil") => `(tactic| (refine stop ?_))
local macro_rules | `(tactic| walk_at "exec For Name Name cons nil") => `(tactic| (refine stop ?_))
local macro_rules | `(tactic| walk_at "pyIter ref") => `(tactic| (refine stop ?_))
local macro_rules | `(tactic| walk_at "exec While") => `(tactic| (refine stop ?_))
theorem resetC1 : ∃ x : Nat, x = 0 := by
  first | (walk1; fail) | skip
  w_top off
  exact ⟨0, rfl⟩
section
theorem small_of {n : Int} (h0 : 0 ≤ n) (h : n < 2 ^ 62) : Builtin.Range.small 0 n 1 = true := small_one (by decide) (by decide) (by walk_at "om") h
theorem size_of {n : Int} (h0 : 0 ≤ n) : Builtin.Range.rangeSize 0 n 1 = (n.toNat : Int) := by rw [rangeSize_one]; split <;> walk_at "om"
/-- a new list of ints -/
noncomputable def IntList (xs : List Int) (v : Value) (h h' : Heap) : Prop := ∃ a vs n, v = .ref a ∧ h'.get? a = some (W.listOf vs.toArray n) ∧ IntsAre vs xs ∧ h.get? a = none
noncomputable def placesOf (x : Str) : List Int := if Txt.find x (Str.ofString ")(") < 0 then [(x.length : Int) - 1] else [Txt.find x (Str.ofString ")(") + 2, Txt.find x (Str.ofString ")(") + 1]
set_option maxHeartbeats 8000000 in
theorem isterminal {w : World} {x : Int} {t : Tok} : Gives 500 w 52 [.int x t] (fun _ => True) (fun v _ _ => v = .bool (decide (x < 256))) := by
  intro mg mb mean base outer d u gs s R C hd hu hpre h
  have C0 := C
  obtain ⟨X, T, B⟩ := C
  revert X
  k_fill
  intro X
  refine' enter_def X T.nolimit ?k6 ?k7 ?k8 ?k9 ?kB ?_ ?c2 ?c3 ?c4 ?c5
  case k6 => k_is
  case k7 => k_is
  case k8 => simp only [recursionLimit]; walk_at "om"
  case k9 => exact BindsTo.of_eq rfl
  case kB => exact locs rfl
  case c2 => rfl
  case c3 => rfl
  case c4 => rfl
  case c5 => decide
  intro L' h' F' N' X'
  dsimp only
  refine wpAny_noRaise ?_
  (k_fold; first | (refine letAE (fun A1 e1 => wpAny _ A1 (execs _ e1) _ _ _) ?_; intro A1 e1) | (refine letA (fun A1 => wpAny _ A1 _ _ _ _) ?_; intro A1) | skip)
  ((try (show wpAny _ _ _ _ _ _; k_fold)); k_steps)
  exact h _ _ _ F'.keep rfl
set_option maxHeartbeats 8000000 in
theorem iseof {w : World} {x : Int} {t : Tok} : Gives 500 w 59 [.int x t] (fun _ => True) (fun v _ _ => v = .bool (x == 0)) := by
  intro mg mb mean base outer d u gs s R C hd hu hpre h
  have C0 := C
  obtain ⟨X, T, B⟩ := C
  revert X
  k_fill
  intro X
  refine' enter_def X T.nolimit ?k6 ?k7 ?k8 ?k9 ?kB ?_ ?c2 ?c3 ?c4 ?c5
  case k6 => k_is
  case k7 => k_is
  case k8 => simp only [recursionLimit]; walk_at "om"
  case k9 => exact BindsTo.of_eq rfl
  case kB => exact locs rfl
  case c2 => rfl
  case c3 => rfl
  case c4 => rfl
  case c5 => decide
  intro L' h' F' N' X'
  dsimp only
  refine wpAny_noRaise ?_
  (k_fold; first | (refine letAE (fun A1 e1 => wpAny _ A1 (execs _ e1) _ _ _) ?_; intro A1 e1) | (refine letA (fun A1 => wpAny _ A1 _ _ _ _) ?_; intro A1) | skip)
  ((try (show wpAny _ _ _ _ _ _; k_fold)); k_steps)
  exact h _ _ _ F'.keep rfl
set_option maxHeartbeats 8000000 in
theorem subst_cost {w : World} {x y : Str} {t t' : Tok} (hx : x = Str.ofString "(" ∨ x = Str.ofString ")") (hy : y = Str.ofString "(" ∨ y = Str.ofString ")") :
    Gives 500 w 66 [.str x t, .str y t'] (fun _ => True) (fun v _ _ => ∃ tk, v = .int (if x = y then 0 else 2) tk) := by
  intro mg mb mean base outer d u gs s R C hd hu hpre h
  have C0 := C
  obtain ⟨X, T, B⟩ := C
  revert X
  k_fill
  intro X
  refine' enter_def X T.nolimit ?k6 ?k7 ?k8 ?k9 ?kB ?_ ?c2 ?c3 ?c4 ?c5
  case k6 => k_is
  case k7 => k_is
  case k8 => simp only [recursionLimit]; walk_at "om"
  case k9 => exact BindsTo.of_eq rfl
  case kB => exact locs rfl
  case c2 => rfl
  case c3 => rfl
  case c4 => rfl
  case c5 => decide
  intro L' h' F' N' X'
  dsimp only
  refine wpAny_noRaise ?_
  (k_fold; first | (refine letAE (fun A1 e1 => wpAny _ A1 (execs _ e1) _ _ _) ?_; intro A1 e1) | (refine letA (fun A1 => wpAny _ A1 _ _ _ _) ?_; intro A1) | skip)
  rcases hx with rfl | rfl <;> rcases hy with rfl | rfl
  all_goals k_steps
  all_goals exact h _ _ _ F'.keep ⟨_, rfl⟩
set_option maxHeartbeats 8000000 in
theorem law_places {w : World} {x : Str} {t : Tok} (hx : x.length ≤ 100) :
    Gives 500 w 87 [.str x t] (fun _ => True) (IntList (placesOf x)) := by
  intro mg mb mean base outer d u gs s R C hd hu hpre h
  have C0 := C
  obtain ⟨X, T, B⟩ := C
  revert X
  k_fill
  intro X
  refine' enter_def X T.nolimit ?k6 ?k7 ?k8 ?k9 ?kB ?_ ?c2 ?c3 ?c4 ?c5
  case k6 => k_is
  case k7 => k_is
  case k8 => simp only [recursionLimit]; walk_at "om"
  case k9 => exact BindsTo.of_eq rfl
  case kB => exact locs rfl
  case c2 => rfl
  case c3 => rfl
  case c4 => rfl
  case c5 => decide
  intro L' h' F' N' X'
  dsimp only
  refine wpAny_noRaise ?_
  (k_fold; first | (refine letAE (fun A1 e1 => wpAny _ A1 (execs _ e1) _ _ _) ?_; intro A1 e1) | (refine letA (fun A1 => wpAny _ A1 _ _ _ _) ?_; intro A1) | skip)
  ((try (show wpAny _ _ _ _ _ _; k_fold)); k_steps)
  · have hc : Txt.find x (Str.ofString ")(") < 0 := by assumption
    have N := (by assumption : News _ _ _ [_])
    refine h _ _ _ (Fr.keep (by assumption)) ⟨_, _, _, rfl, (N _ (.head _)).1, ?_, (N _ (.head _)).2.2⟩
    unfold placesOf
    rw [if_pos hc]
    exact .cons _ _ .nil
  · have hc : ¬ Txt.find x (Str.ofString ")(") < 0 := by assumption
    have N := (by assumption : News _ _ _ [_])
    refine h _ _ _ (Fr.keep (by assumption)) ⟨_, _, _, rfl, (N _ (.head _)).1, ?_, (N _ (.head _)).2.2⟩
    unfold placesOf
    rw [if_neg hc]
    exact .cons _ _ (.cons _ _ .nil)
end
theorem resetC3 : ∃ x : Nat, x = 0 := by
  first | (walk1; fail) | skip
  w_top off
  exact ⟨0, rfl⟩
section
noncomputable def rowStep (x p k : Int) (row : Str) : Str :=
  if Txt.count row (Str.ofString "(") < p ∧ (k = 2 * Txt.count row (Str.ofString "(") ∨ Int.fmod (Int.fdiv x (2 ^ k.toNat)) 2 = 1) then row ++ Str.ofString "(" else row ++ Str.ofString ")"
noncomputable def rowN (x p : Int) : Nat → Str
  | 0 => Str.ofString ""
  | k + 1 => rowStep x p k (rowN x p k)
theorem rowN_succ {x p : Int} {i : Nat} : rowN x p (i + 1) = rowStep x p i (rowN x p i) := rfl
set_option maxHeartbeats 8000000 in
theorem law_first {w : World} {x p : Int} {t t' : Tok} (hp : p = 3 ∨ p = 4) :
    Gives 400 w 80 [.int x t, .int p t'] (fun _ => 0 ≤ x ∧ x < 256) (fun v _ _ => ∃ tr, v = .str (rowN x p (2 * p).toNat) tr) := by
  intro mg mb mean base outer d u gs s R C hd hu hpre h
  have C0 := C
  obtain ⟨X, T, B⟩ := C
  revert X
  k_fill
  intro X
  refine' enter_def X T.nolimit ?k6 ?k7 ?k8 ?k9 ?kB ?_ ?c2 ?c3 ?c4 ?c5
  case k6 => k_is
  case k7 => k_is
  case k8 => simp only [recursionLimit]; walk_at "om"
  case k9 => exact BindsTo.of_eq rfl
  case kB => exact locs rfl
  case c2 => rfl
  case c3 => rfl
  case c4 => rfl
  case c5 => decide
  intro L' h' F' N' X'
  dsimp only
  refine wpAny_noRaise ?_
  (k_fold; first | (refine letAE (fun A1 e1 => wpAny _ A1 (execs _ e1) _ _ _) ?_; intro A1 e1) | (refine letA (fun A1 => wpAny _ A1 _ _ _ _) ?_; intro A1) | skip)
  ((try (show wpAny _ _ _ _ _ _; k_fold)); k_steps)
  refine wpAny_For ?_ (by intro _; rfl)
  ((try (show wpAny _ _ _ _ _ _; k_fold)); k_steps)
  rename_i R' F2 N2 keep2
  refine it_range (σ := Str × Tok) (fun _ => []) (fun c => [(Str.ofString "row", .str c.1 c.2), (Str.ofString "draw", .int x t), (Str.ofString "pairs", .int p t')]) (fun i c => c.1 = rowN x p i ∧ c.1.length = i) (Only s) (2 * p).toNat rfl R' (small_of (by walk_at "om") (by walk_at "om")) (size_of (by walk_at "om")) Only.step F2 (c₀ := (Str.ofString "", _)) N2 ⟨rfl, rfl, rfl, trivial⟩ ⟨rfl, rfl⟩ ⟨_, _, rfl⟩ ?_ ?_
  · intro i tt zz2 uu s₁ own hi zz7 hoff zz9 F3 N3
    obtain ⟨h₁, tk₁, rfl⟩ := zz9
    try (show wpAny _ _ _ _ _ _; k_fold)
    obtain ⟨row, tr⟩ := zz2
    obtain ⟨hrow, hlen⟩ := zz7
    dsimp only [kb] at F3 N3 hrow hlen
    have hi8 : i < 8 := by have hpA := p34 hp; walk_at "om"
    have hl8 : row.length < 8 := by rw [hlen]; exact hi8
    ((try (show wpAny _ _ _ _ _ _; k_fold)); k_steps)
    all_goals
      refine ⟨(_, _), _, ⟨?_, ?_⟩, ⟨rfl, rfl, rfl, trivial⟩, by assumption, by assumption, ⟨_, _, rfl⟩, fun _ _ _ h => nomatch h⟩
    all_goals dsimp only
    all_goals try (rw [Str.length_append, hlen]; rfl)
    all_goals
      rw [rowN_succ, ← hrow]
      unfold rowStep
      simp only [Int.zero_add] at *
      clear h R' keep2 F3 N3 hlen hrow
      grind
  · intro zz0 m s₁ zz3 zz4 hk F3 N3
    obtain ⟨h₁, tk₁, rfl⟩ := zz4
    try (show wpAny _ _ _ _ _ _; k_fold)
    obtain ⟨row, tr⟩ := zz0
    obtain ⟨hrow, hlen⟩ := zz3
    dsimp only at hrow
    subst hrow
    rw [← kb_eq hk] at F3
    dsimp only [kb] at F3
    ((try (show wpAny _ _ _ _ _ _; k_fold)); k_steps)
    exact h _ _ _ F3.keep ⟨_, rfl⟩
end
theorem resetC4 : ∃ x : Nat, x = 0 := by
  first | (walk1; fail) | skip
  w_top off
  exact ⟨0, rfl⟩
section
local macro_rules | `(tactic| omega) => `(tactic| ((rename ((_ ≠ _) ∧ _) ∧ _ => hh0; clear hh0); walk_at "clr"; omega +splitDisjunctions))
/-- what the figures say, as the text reckons it -/
noncomputable def valOf (l : List Int) : Int := (List.map (fun k' : Int => l.getD k'.toNat 0 * 64 ^ ((l.length : Int) - 1 - k').toNat) (rangeKs 0 l.length)).sum
noncomputable def dueStep (st : List Int × List Int) (o : Int) : List Int × List Int := if o < 64 then (st.1 ++ [valOf (st.2 ++ [Int.fmod o 64])], []) else (st.1, st.2 ++ [Int.fmod o 64])
noncomputable def dueAt (os : List Int) (i : Nat) : List Int × List Int := (os.take i).foldl dueStep ([], [])
theorem dueAt_succ {os : List Int} {i : Nat} {o : Int} (h : os[i]? = some o) : dueAt os (i + 1) = dueStep (dueAt os i) o := by
  unfold dueAt
  rw [List.take_add_one, h, List.foldl_append]; rfl
noncomputable def Bits (l : List Int) : Prop := ∀ j, Builtin.Int.intBits (l.getD j 0) ≤ 64
theorem mul_bits {l : List Int} {j : Nat} {b : Int} (hb : Bits l) : IntMulOk (l.getD j 0) b := IntMulOk.of_left (hb j)
theorem bits_of {l : List Int} (h : ∀ x ∈ l, 0 ≤ x ∧ x < 64) : Bits l := fun j => by
  by_cases hj : j < l.length
  · have := h _ (List.getElem_mem hj)
    rw [show l.getD j 0 = l[j] by simp [hj]]
    exact intBits_le_64 (by walk_at "om") (by walk_at "om")
  · rw [show l.getD j 0 = 0 by simp [Nat.le_of_not_lt hj]]
    decide
theorem of_allLt {d : Nat} {l : List (Addr × Obj)} (h : AllLt d l) : ∀ p ∈ l, p.1 ≠ d := by
  induction l with
  | nil => intro p hp; cases hp
  | cons q r ih =>
    intro p hp
    rcases List.mem_cons.mp hp with rfl | hp
    · exact Nat.ne_of_lt h.1
    · exact ih h.2 p hp
theorem dueAt_figs {os : List Int} : ∀ i, ∀ x ∈ (dueAt os i).2, 0 ≤ x ∧ x < 64
  | 0, x, h => nomatch h
  | i + 1, x, h => by
    cases ho : os[i]? with
    | none =>
      have : dueAt os (i + 1) = dueAt os i := by unfold dueAt; rw [List.take_add_one, ho]; simp
      rw [this] at h; exact dueAt_figs i x h
    | some o =>
      rw [dueAt_succ ho] at h
      unfold dueStep at h
      split at h
      · cases h
      · rcases List.mem_append.mp h with h | h
        · exact dueAt_figs i x h
        · rw [List.mem_singleton.mp h, Int.fmod_eq_emod_of_nonneg _ (by decide)]
          exact ⟨Int.emod_nonneg _ (by decide), Int.emod_lt_of_pos _ (by decide)⟩
theorem ints_get {vs : List Value} {os : List Int} (hi : IntsAre vs os) {i : Nat} {v : Value} (h : vs[i]? = some v) : ∃ ov t, os[i]? = some ov ∧ v = .int ov t := by
  have hlt : i < vs.length := (List.getElem?_eq_some_iff.mp h).1
  have hlt' : i < os.length := by rw [← IntsAre.length hi]; exact hlt
  obtain ⟨t, ht⟩ := hi.get i os[i] (by simp [hlt'])
  exact ⟨os[i], t, by simp [hlt'], by rw [h] at ht; exact Option.some.inj ht⟩
local macro_rules | `(tactic| walk_at "binaryOp Mult int int") => `(tactic| (refine mul_int ?_ (mul_bits (by assumption))))
structure Due where
  aF : Addr
  vF : List Value
  nF : Nat
  vN : List Value
  nN : Nat
  o : Obj
set_option maxHeartbeats 8000000 in
theorem law_due {w : World} {a : Addr} {vs : List Value} {os : List Int} (hi : IntsAre vs os) (hl : os.length ≤ 20) (hn : ∀ n ∈ os, 0 ≤ n ∧ n < 128) :
    Gives 400 w 99 [.ref a] (fun h => h.IsList a vs.toArray) (IntList (dueAt os os.length).1) := by
  intro mg mb mean base outer d u gs s R C hd hu hpre h
  have C0 := C
  obtain ⟨X, T, B⟩ := C
  revert X
  k_fill
  intro X
  refine' enter_defC X T.nolimit ?k6 ?k7 ?k8 ?k9 ?kB ?kD ?_ ?c2 ?c3 ?c4
  case k6 => k_is
  case k7 => k_is
  case k8 => simp only [recursionLimit]; walk_at "om"
  case k9 => exact BindsTo.of_eq rfl
  case kB => exact rfl
  case kD => decide +kernel
  case c2 => rfl
  case c3 => rfl
  case c4 => rfl
  intro L' h' tk' cells' F' N' Y' X'
  k_cells Y'
  (try dsimp only)
  refine wpAny_noRaise ?_
  (k_fold; first | (refine letAE (fun A1 e1 => wpAny _ A1 (execs _ e1) _ _ _) ?_; intro A1 e1) | (refine letA (fun A1 => wpAny _ A1 _ _ _ _) ?_; intro A1) | skip)
  ((try (show wpAny _ _ _ _ _ _; k_fold)); k_steps)
  refine wpAny_For ?_ (by intro _; rfl)
  ((try (show wpAny _ _ _ _ _ _; k_fold)); k_steps)
  rename_i lN hA ltA hB lF hD ltB hC oF F2 N2 d2
  have hpre' : Heap.IsList _ a vs.toArray := hpre.at fun o e => F2.keep _ o e
  have hnew : ∀ b, s.heap.get? b = none → b ≠ a := fun b hb e => by obtain ⟨o, ho, _⟩ := hpre; rw [← e, hb] at ho; cases ho
  have hnL : a ≠ L' := fun e => by obtain ⟨o, ho, _⟩ := hpre; exact absurd (Nat.lt_of_lt_of_le (Heap.lt_size ho) F2.above) (by rw [e]; exact Nat.lt_irrefl _)
  refine it_list (σ := Due) (fun c => [(c.aF, W.listOf c.vF.toArray c.nF), (lN, W.listOf c.vN.toArray c.nN), (L' + 1, c.o)]) (fun c => [(Str.ofString "numbers", .ref lN)])
    (fun i c => c.o.data = .cell (some (.ref c.aF)) ∧ IntsAre c.vN (dueAt os i).1 ∧ IntsAre c.vF (dueAt os i).2 ∧ (dueAt os i).2.length ≤ i ∧ (dueAt os i).1.length ≤ i ∧ c.aF ≠ lN ∧ c.aF ≠ L' + 1) (Only s) rfl hpre' hnL ?_ Only.step F2 (c₀ := ⟨lF, [], 0, [], 0, oF⟩) N2 ⟨rfl, trivial⟩ ⟨d2, .nil, .nil, Nat.zero_le _, Nat.zero_le _, ?_, ?_⟩ ⟨_, _, rfl⟩ ?_ ?_
  · intro q hq
    exact hnew _ (N2 q hq).2.2
  · exact Nat.ne_of_gt ltB.1
  · exact Nat.ne_of_gt ltB.2
  · intro i v zz2 uu s₁ own hiv zz7 hoff zz9 F3 N3
    obtain ⟨h₁, tk₁, rfl⟩ := zz9
    try (show wpAny _ _ _ _ _ _; k_fold)
    obtain ⟨aF, vF, nF, vN, nN, o⟩ := zz2
    obtain ⟨hc, hN, hF, hlen, hlen2, hne, hne2⟩ := zz7
    obtain ⟨ov, tv, hov, rfl⟩ := ints_get hi hiv
    dsimp only [kb] at F3 N3 hc hN hF hlen hlen2 hne hne2 hoff
    simp only [List.cons_append, List.nil_append] at N3
    simp only [List.map_cons, List.map_nil] at hoff
    replace hne := neN hne
    replace hne2 := neN hne2
    have hlF : vF.length = (dueAt os i).2.length := IntsAre.length hF
    have hlN : vN.length = (dueAt os i).1.length := IntsAre.length hN
    have hil : i < os.length := (List.getElem?_eq_some_iff.mp hov).1
    have hzF : vF.toArray.size ≤ 20 := by simp only [List.size_toArray]; walk_at "om"
    have hzF' : vF.toArray.size ≤ sizeLine := Nat.le_trans hzF (by decide)
    have hzN : vN.toArray.size ≤ 20 := by simp only [List.size_toArray]; walk_at "om"
    have hzN' : vN.toArray.size ≤ sizeLine := Nat.le_trans hzN (by decide)
    have hm : 0 ≤ Int.fmod ov 64 ∧ Int.fmod ov 64 < 64 := by
      rw [Int.fmod_eq_emod_of_nonneg _ (by decide)]
      exact ⟨Int.emod_nonneg _ (by decide), Int.emod_lt_of_pos _ (by decide)⟩
    have hB : Bits ((dueAt os i).2 ++ [Int.fmod ov 64]) := bits_of fun x hx => by
      rcases List.mem_append.mp hx with hx | hx
      · exact dueAt_figs i x hx
      · rw [List.mem_singleton.mp hx]; exact hm
    ((try (show wpAny _ _ _ _ _ _; k_fold)); k_steps)
    · have hc64 := (by assumption : ov < 64)
      rename_i t5 h4 tk4 l5 h5 F5 N5 lt5 h6 o6 F6 N6 d6
      have hval : (List.map (fun k' : Int => ((dueAt os i).2 ++ [Int.fmod ov 64]).getD k'.toNat 0 * 64 ^ ((((dueAt os i).2.length + 1 : Nat) : Int) - 1 - k').toNat) (rangeKs 0 (((((dueAt os i).2.length + 1 : Nat) : Int) - 0).toNat))).sum = valOf ((dueAt os i).2 ++ [Int.fmod ov 64]) := by
        unfold valOf
        simp only [List.length_append, List.length_cons, List.length_nil, Nat.zero_add, Int.sub_zero, Int.toNat_natCast]
      rw [hval] at N6
      have hs := dueAt_succ hov
      unfold dueStep at hs
      rw [if_pos hc64] at hs
      refine ⟨⟨l5, [], 0, vN ++ [.int (valOf ((dueAt os i).2 ++ [Int.fmod ov 64])) t5], nN + 1, o6⟩, _, ⟨d6, ?_, ?_, ?_, ?_, Nat.ne_of_gt lt5.2.2.1, Nat.ne_of_gt lt5.2.2.2.1⟩, ⟨rfl, trivial⟩, F6, news_pick N6 ?_, ⟨_, _, rfl⟩, ?_⟩
      rotate_left 4
      · intro p hp
        simp only [List.cons_append, List.nil_append, ← List.push_toArray] at hp
        rcases List.mem_cons.mp hp with rfl | hp
        · exact .head _
        · rcases List.mem_cons.mp hp with rfl | hp
          · exact .tail _ (.tail _ (.tail _ (.head _)))
          · exact .tail _ (.tail _ (.tail _ (.tail _ hp)))
      · intro p hp b hb
        simp only [List.map_cons, List.map_nil] at hb
        rcases List.mem_cons.mp hb with rfl | hb
        · exact of_allLt lt5.2.2.2.2 p hp
        · exact hoff p hp b (.tail _ hb)
      · rw [hs]
        exact IntsAre.append hN (.cons _ _ .nil)
      · rw [hs]; exact .nil
      · rw [hs]; exact Nat.zero_le _
      · rw [hs]; simp only [List.length_append, List.length_cons, List.length_nil]; walk_at "om"
    · have hc64 := (by assumption : ¬ ov < 64)
      have hs := dueAt_succ hov
      unfold dueStep at hs
      rw [if_neg hc64] at hs
      refine ⟨⟨aF, vF ++ [.int (Int.fmod ov 64) (tk₁ + 1)], nF + 1, vN, nN, o⟩, _, ⟨hc, ?_, ?_, ?_, ?_, hne, hne2⟩, ⟨rfl, trivial⟩, by assumption, ?_, ⟨_, _, rfl⟩, hoff⟩
      rotate_left 4
      · simp only [List.cons_append, List.nil_append, ← List.push_toArray]
        assumption
      · rw [hs]; exact hN
      · rw [hs]; exact IntsAre.append hF (.cons _ _ .nil)
      · rw [hs]; simp only [List.length_append, List.length_cons, List.length_nil]; walk_at "om"
      · rw [hs]; exact Nat.le_succ_of_le hlen2
  · intro zz0 m s₁ zz3 zz4 hk F3 N3
    obtain ⟨h₁, tk₁, rfl⟩ := zz4
    try (show wpAny _ _ _ _ _ _; k_fold)
    obtain ⟨aF, vF, nF, vN, nN, o⟩ := zz0
    obtain ⟨hc, hN, hF, hlen, hlen2, hne, hne2⟩ := zz3
    dsimp only at N3 hN
    rw [← kb_eq hk] at F3
    dsimp only [kb] at F3
    ((try (show wpAny _ _ _ _ _ _; k_fold)); k_steps)
    rw [IntsAre.length hi] at hN
    exact h _ _ _ F3.keep ⟨lN, vN, nN, rfl, (N3 _ (.tail _ (.head _))).1, hN, (N3 _ (.tail _ (.head _))).2.2⟩
end
theorem resetG1 : ∃ x : Nat, x = 0 := by
  first | (walk1; fail) | skip
  w_top off
  exact ⟨0, rfl⟩
section
open Sem (wp)
section
variable {M : Model} {A : Around} {R : GenEnd} {Y : Protocol} {n : Nat} {s₀ : Shared} {c : Code} {fs : List Frame} {s : Shared} {env : Env}
  {K : Flow → Sem Fin} {H : Value → Sem Fin} {gd : Bool → Bool} {lv : List Value → List Value}
theorem seg_If {test : Expr} {body orelse : List Stmt} {pos : Pos}
    (h : wpAny M (A.over c fs) (isTrue test env (eval test env)) (fun b s' => if b then Seg M A R Y n s₀ c ((execs body env).wrap K H gd lv) fs s' else Seg M A R Y n s₀ c ((execs orelse env).wrap K H gd lv) fs s')
      (fun _ _ => False) s) :
    Seg M A R Y n s₀ c ((exec (.If test body orelse pos) env).wrap K H gd lv) fs s := by
  rw [exec_If]
  show Seg M A R Y n s₀ c (.at pos fun _ => (isTrue test env (eval test env) >>= fun b => if b = true then execs body env else execs orelse env).wrap K H gd lv) fs s
  refine seg_at ?_
  rw [Sem.bind_eq_wrap', Sem.wrap_wrap]
  refine seg_wrap (wpAny_mono h (fun b s' hb => ?_) fun _ _ x => x.elim)
  cases b <;> exact hb
theorem seg_For {target iter : Expr} {body orelse : List Stmt} {pos : Pos} (hs : ∀ x, foldedSetIterable iter env x = pure x)
    (h : wpAny M (A.over c fs) (eval iter env) (fun x s₁ => wpAny M (A.over c fs) (pyIter x) (fun it s₂ => ∀ p, Seg M A R Y n s₀ (.forLoop target it body orelse env) (M.den (.forLoop target it body orelse env))
      (.ret (fun r => ((match r with | .ok f => (.pure f : Sem Flow) | .error e => .raise e).onRaise fun (x : Value) => do
        if (← field x 1) == Value.none then unsupported "frame.own-activation:exception-without-traceback"
        setFlight x env.frame).wrap K H gd lv) none (gd false) (lv []) c p [] :: fs) s₂) (fun _ _ => False) s₁) (fun _ _ => False) s) :
    Seg M A R Y n s₀ c ((exec (.For target iter body orelse pos) env).wrap K H gd lv) fs s := by
  rw [exec_For]
  show Seg M A R Y n s₀ c (.at pos fun _ => (eval iter env >>= fun v => foldedSetIterable iter env v >>= fun x => standAt iter.pos >>= fun _ =>
    holding [x] (pyIter x) >>= fun it => runOwn (.forLoop target it body orelse env) env).wrap K H gd lv) fs s
  refine seg_at ?_
  rw [Sem.bind_eq_wrap', Sem.wrap_wrap]
  refine seg_wrap (wpAny_mono h (fun x s₁ h₁ => ?_) fun _ _ x => x.elim)
  rw [hs x]
  show Seg M A R Y n s₀ c (.at iter.pos fun _ => (holding [x] (pyIter x) >>= fun it => runOwn (.forLoop target it body orelse env) env).wrap K H gd lv) fs s₁
  refine seg_at ?_
  rw [Sem.bind_eq_wrap', Sem.wrap_wrap]
  refine seg_wrap (wpAny_holding (wpAny_mono h₁ (fun it s₂ h₂ => ?_) fun _ _ x => x.elim))
  exact seg_call h₂
end
section
variable {prog : Program} {w : World} {A : Around} {R : GenEnd} {Y : Protocol} {n : Nat} {s₀ : Shared} {fs : List Frame} {s : Shared} {env : Env}
theorem seg_forLoop {target : Expr} {it : Value} {body : List Stmt}
    (h : wpAny (model prog w) (A.over (.forLoop target it body [] env) fs) (pyNext it) (fun r s₁ => match r with
      | none => Seg (model prog w) A R Y n s₀ (.block [] env) (leafOf (.ok .next)) fs s₁
      | some v => wpAny (model prog w) (A.over (.forLoop target it body [] env) fs) (letOwnedTupleGo target it v) (fun _ s₂ => wpAny (model prog w) (A.over (.forLoop target it body [] env) fs) (assign target env v) (fun _ s₃ =>
          Seg (model prog w) A R Y n s₀ (.forLoop target it body [] env) ((execs body env).wrap (fun f => match f with
            | .next | .cont => .pure (.again (.forLoop target it body [] env))
            | .brk => .pure (.done .next)
            | .ret v => .pure (.done (.ret v))) (fun e => (do noteFrame e env; theTreesLotGoes e : Sem Unit).wrap (fun _ => .raise e) .raise id id) id id) fs s₃) (fun _ _ => False) s₂) (fun _ _ => False) s₁)
      (fun _ _ => False) s) :
    Seg (model prog w) A R Y n s₀ (.forLoop target it body [] env) ((model prog w).den (.forLoop target it body [] env)) fs s := by
  show Seg _ A R Y n s₀ _ ((forTurn target it body [] env).onRaise (fun x => do noteFrame x env; theTreesLotGoes x)) fs s
  unfold forTurn
  rw [Sem.onRaise_eq_wrap]
  show Seg _ A R Y n s₀ _ (.at target.pos fun _ => Sem.wrap _ _ _ _ (((pyNext it).onRaise fun _ => standAt { target.pos with line := 0 }) >>= _)) fs s
  refine seg_at ?_
  rw [Sem.bind_eq_wrap', Sem.wrap_wrap]
  refine seg_wrap (wpAny_onRaise (wpAny_mono h (fun r s₁ h₁ => ?_) fun _ _ x => x.elim))
  cases r with
  | none => exact seg_again rfl h₁
  | some v =>
    dsimp only at h₁ ⊢
    rw [Sem.bind_eq_wrap', Sem.wrap_wrap]
    refine seg_wrap (wpAny_mono h₁ (fun _ s₂ h₂ => ?_) fun _ _ x => x.elim)
    rw [Sem.bind_eq_wrap', Sem.wrap_wrap]
    refine seg_wrap (wpAny_mono h₂ (fun _ s₃ h₃ => ?_) fun _ _ x => x.elim)
    rw [Sem.bind_eq_wrap', Sem.wrap_wrap]
    rw [Sem.wrap_congr (execs body env) _ _ (K' := fun f => match f with
            | .next | .cont => .pure (.again (.forLoop target it body [] env))
            | .brk => .pure (.done .next)
            | .ret v => .pure (.done (.ret v))) (H' := (fun e => (do noteFrame e env; theTreesLotGoes e : Sem Unit).wrap (fun _ => .raise e) .raise id id))
        (fun f => by cases f <;> rfl)
        (fun e => by first | exact Sem.bind_eq_wrap _ _ | (show (do noteFrame e env; theTreesLotGoes e : Sem Unit).bind (fun _ => .raise e) = _; rw [Sem.bind_eq_wrap]))]
    exact h₃
end
end
theorem resetG2 : ∃ x : Nat, x = 0 := by
  first | (walk1; fail) | skip
  w_top off
  exact ⟨0, rfl⟩
section
/-- what the generator yields from the signs `l` on, the first of them at place `i` -/
noncomputable def escFrom : List Nat → Nat → Bool → List (Int × Str)
  | [], i, e => if e then [((i : Int) - 1, Str.ofString "\\")] else []
  | c :: r, i, true => ((i : Int), Str.ofString "\\" ++ ⟨#[c]⟩) :: escFrom r (i + 1) false
  | c :: r, i, false => if c = 92 then escFrom r (i + 1) true else ((i : Int), ⟨#[c]⟩) :: escFrom r (i + 1) false
noncomputable def escOf (x : Str) : List (Int × Str) := escFrom x.cps.toList 0 false
theorem escFrom_nt {c : Nat} {r : List Nat} {i : Nat} : escFrom (c :: r) i true = ((i : Int), Str.ofString "\\" ++ ⟨#[c]⟩) :: escFrom r (i + 1) false := rfl
theorem escFrom_92 {r : List Nat} {i : Nat} : escFrom (92 :: r) i false = escFrom r (i + 1) true := by
  show (if (92 : Nat) = 92 then escFrom r (i + 1) true else _) = _
  exact if_pos rfl
theorem escFrom_ne {c : Nat} {r : List Nat} {i : Nat} (h : c ≠ 92) : escFrom (c :: r) i false = ((i : Int), ⟨#[c]⟩) :: escFrom r (i + 1) false := by
  show (if c = 92 then _ else _) = _
  exact if_neg h
section
variable (h₀ : Heap) (Lg I E : Addr) (x : Str) (tx : Tok)
noncomputable def Kb (s₀ s : Shared) : Prop := ∀ b o, b ≠ Lg → b ≠ I → b ≠ E → s₀.heap.get? b = some o → s.heap.get? b = some o
noncomputable def others (h : Heap) : List (Addr × Obj) := ownOf h₀ ((List.range h.objs.size).filter fun b => decide (b ≠ Lg ∧ b ≠ I ∧ b ≠ E)) h
/-- between two turns, `i` signs taken -/
structure GS (i : Nat) (e : Bool) (s₀ s : Shared) : Prop where
  st0 : h₀.StaysIn s₀.heap
  fr : ∃ m, Fr h₀ Lg s.heap m ∧ m (Str.ofString "addr") = some (.str x tx) ∧ m (Str.ofString "escape") = some (.bool e) ∧ (0 < i → ∃ t, m (Str.ofString "pos") = some (.int ((i : Int) - 1) t))
  en : ∃ old, IsEnum s.heap E I i old
  it : s.heap.IsStrIter I (strIterType x) x tx i
  kp : Kb Lg I E s₀ s
  only : Only s₀ s
  sfx : ∃ pre, escOf x = pre ++ escFrom (x.cps.toList.drop i) i e
/-- when the signs are at their end -/
structure ES (i : Nat) (e : Bool) (s₀ s : Shared) : Prop where
  st0 : h₀.StaysIn s₀.heap
  fr : ∃ m, Fr h₀ Lg s.heap m ∧ m (Str.ofString "addr") = some (.str x tx) ∧ m (Str.ofString "escape") = some (.bool e) ∧ (0 < i → ∃ t, m (Str.ofString "pos") = some (.int ((i : Int) - 1) t))
  kp : Kb Lg I E s₀ s
  only : Only s₀ s
  sfx : ∃ pre, escOf x = pre ++ escFrom [] i e
  lt : E < s.heap.objs.size
/-- in a turn, behind the names' storing -/
structure BS (i : Nat) (c : Nat) (e : Bool) (s₀ s : Shared) : Prop where
  st0 : h₀.StaysIn s₀.heap
  fr : ∃ m t u, Fr h₀ Lg s.heap m ∧ PsOk m [(Str.ofString "pos", .int i t), (Str.ofString "ch", .str ⟨#[c]⟩ u), (Str.ofString "escape", .bool e), (Str.ofString "addr", .str x tx)]
  en : ∃ old, IsEnum s.heap E I ((i + 1 : Nat) : Int) old
  it : s.heap.IsStrIter I (strIterType x) x tx (i + 1)
  kp : Kb Lg I E s₀ s
  only : Only s₀ s
  sfx : ∃ pre, escOf x = pre ++ escFrom (x.cps.toList.drop i) i e
noncomputable def RG (n : Nat) (s₀ s₁ : Shared) : Prop := n = 0 ∧ Kb Lg I E s₀ s₁ ∧ Only s₀ s₁ ∧ ∃ m, Fr h₀ Lg s₁.heap m
noncomputable def YG (ys : List (Int × Str)) : Protocol := fun j s₀ v s₁ next =>
  (∃ T p c tk tk' k, v = .ref T ∧ ys[ys.length - 1 - j]? = some (p, c) ∧ j < ys.length ∧ s₁.heap.get? T = some { cls := .type "tuple", data := .seq #[.int p tk, .str c tk'] k } ∧ s₀.heap.get? T = none ∧ h₀.get? T = none ∧ T ≠ Lg ∧ T ≠ I ∧ T ≠ E) ∧
  Kb Lg I E s₀ s₁ ∧ Only s₀ s₁ ∧ (∃ m, Fr h₀ Lg s₁.heap m) ∧
  ∀ s₂ : Shared, h₀.StaysIn s₂.heap → (∀ b, b = Lg ∨ b = I ∨ b = E → ∀ o, s₁.heap.get? b = some o → s₂.heap.get? b = some o) → next (.send .none) s₂
end
section
variable {h₀ : Heap} {Lg I E : Addr} {x : Str} {tx : Tok} {i c : Nat} {e : Bool} {s₀ s : Shared}
theorem kb_of_others (st0 : h₀.StaysIn s₀.heap) {m : Str → Option Value} (F : Fr h₀ Lg s.heap m) (N : News h₀ Lg s.heap (others h₀ Lg I E s₀.heap)) : Kb Lg I E s₀ s := by
  intro b o h1 h2 h3 ho
  cases hb : h₀.get? b with
  | some o₀ =>
    have := st0 b o₀ hb
    rw [ho] at this
    exact (Option.some.inj this).symm ▸ F.keep b o₀ hb
  | none =>
    refine (N (b, o) (mem_ownOf ?_ hb ho)).1
    refine List.mem_filter.mpr ⟨List.mem_range.mpr (Heap.lt_size ho), ?_⟩
    simp [h1, h2, h3]
theorem others_of_kb (hLI : Lg ≠ I) (hLE : Lg ≠ E) (kb : Kb Lg I E s₀ s) : News h₀ Lg s.heap (others h₀ Lg I E s₀.heap) := by
  intro p hp
  obtain ⟨b, hb, e⟩ := List.mem_filterMap.mp hp
  obtain ⟨_, hb2⟩ := List.mem_filter.mp hb
  simp only [decide_eq_true_eq] at hb2
  cases hn : h₀.get? b with
  | some x => simp [hn] at e
  | none =>
    cases ho : s₀.heap.get? b with
    | none => simp [hn, ho] at e
    | some o =>
      have : p = (b, o) := by simpa [hn, ho] using e.symm
      subst this
      exact ⟨kb b o hb2.1 hb2.2.1 hb2.2.2 ho, hb2.1, hn⟩
theorem GS.again (g : GS h₀ Lg I E x tx i e s₀ s) {s₂ : Shared} (st : h₀.StaysIn s₂.heap) (hs : ∀ b, b = Lg ∨ b = I ∨ b = E → ∀ o, s.heap.get? b = some o → s₂.heap.get? b = some o) : GS h₀ Lg I E x tx i e s₂ s₂ := by
  obtain ⟨m, F, h1, h2, h3⟩ := g.fr
  refine ⟨st, ⟨m, ⟨F.ns.at' fun o q => hs Lg (.inl rfl) o q, st, F.above⟩, h1, h2, h3⟩, ?_, ?_, fun _ _ _ _ _ q => q, ⟨s₂.heap, s₂.toks, rfl⟩, g.sfx⟩
  · obtain ⟨old, q⟩ := g.en
    exact ⟨old, hs E (.inr (.inr rfl)) _ q⟩
  · obtain ⟨o, ho, r⟩ := g.it
    exact ⟨o, hs I (.inr (.inl rfl)) o ho, r⟩
theorem BS.again (g : BS h₀ Lg I E x tx i c e s₀ s) {s₂ : Shared} (st : h₀.StaysIn s₂.heap) (hs : ∀ b, b = Lg ∨ b = I ∨ b = E → ∀ o, s.heap.get? b = some o → s₂.heap.get? b = some o) : BS h₀ Lg I E x tx i c e s₂ s₂ := by
  obtain ⟨m, t, t', F, h1⟩ := g.fr
  refine ⟨st, ⟨m, t, t', ⟨F.ns.at' fun o q => hs Lg (.inl rfl) o q, st, F.above⟩, h1⟩, ?_, ?_, fun _ _ _ _ _ q => q, ⟨s₂.heap, s₂.toks, rfl⟩, g.sfx⟩
  · obtain ⟨old, q⟩ := g.en
    exact ⟨old, hs E (.inr (.inr rfl)) _ q⟩
  · obtain ⟨o, ho, r⟩ := g.it
    exact ⟨o, hs I (.inr (.inl rfl)) o ho, r⟩
/-- a turn's state, opened for the walk -/
theorem BS.open (b : BS h₀ Lg I E x tx i c e s₀ s) (hLI : Lg ≠ I) (hLE : Lg ≠ E) (hI : h₀.get? I = none) (hE : h₀.get? E = none) :
    ∃ u t t' oI oE, Fr h₀ Lg s.heap (kb u [(Str.ofString "pos", .int i t), (Str.ofString "ch", .str ⟨#[c]⟩ t'), (Str.ofString "escape", .bool e), (Str.ofString "addr", .str x tx)]) ∧
      News h₀ Lg s.heap ((I, oI) :: (E, oE) :: others h₀ Lg I E s₀.heap) ∧
      (oI.cls = .type (strIterType x) ∧ oI.data = .fields #[.str x tx, .int ((i + 1 : Nat) : Int) 0]) ∧
      (∃ old, oE = { cls := .type "enumerate", dict := none, data := .fields #[.none, .bool false, .ref I, rawInt ((i + 1 : Nat) : Int), .none, old], slots := #[] }) := by
  obtain ⟨m, t, t', F, hk⟩ := b.fr
  obtain ⟨old, hE'⟩ := b.en
  obtain ⟨oI, hI', hc, hd⟩ := b.it
  refine ⟨m, t, t', oI, _, by rw [kb_eq hk]; exact F, ?_, ⟨hc, hd⟩, ⟨old, rfl⟩⟩
  intro p hp
  rcases List.mem_cons.mp hp with rfl | hp
  · exact ⟨hI', Ne.symm hLI, hI⟩
  · rcases List.mem_cons.mp hp with rfl | hp
    · exact ⟨hE', Ne.symm hLE, hE⟩
    · exact others_of_kb hLI hLE b.kp p hp
theorem GS.close {m : Str → Option Value} {t : Tok} {oI oE : Obj} (st0 : h₀.StaysIn s₀.heap) (F : Fr h₀ Lg s.heap m) (N : News h₀ Lg s.heap ((I, oI) :: (E, oE) :: others h₀ Lg I E s₀.heap))
    (hI : oI.cls = .type (strIterType x) ∧ oI.data = .fields #[.str x tx, .int ((i + 1 : Nat) : Int) 0])
    (hE : ∃ old, oE = { cls := .type "enumerate", dict := none, data := .fields #[.none, .bool false, .ref I, rawInt ((i + 1 : Nat) : Int), .none, old], slots := #[] })
    (ho : Only s₀ s) (h1 : m (Str.ofString "addr") = some (.str x tx)) (h2 : m (Str.ofString "escape") = some (.bool e)) (h3 : m (Str.ofString "pos") = some (.int i t)) (h4 : ∃ pre, escOf x = pre ++ escFrom (x.cps.toList.drop (i + 1)) (i + 1) e) :
    GS h₀ Lg I E x tx (i + 1) e s₀ s := by
  obtain ⟨old, rfl⟩ := hE
  refine ⟨st0, ⟨m, F, h1, h2, fun _ => ⟨t, by rw [h3]; congr 2; (first | lia | walk_at "om")⟩⟩, ⟨old, (N _ (.tail _ (.head _))).1⟩, ⟨oI, (N _ (.head _)).1, hI⟩, kb_of_others st0 F (fun p hp => N p (.tail _ (.tail _ hp))), ho, h4⟩
end
theorem idx_of {ys pre tl : List (Int × Str)} {hd : Int × Str} (h : ys = pre ++ hd :: tl) : ys[ys.length - 1 - tl.length]? = some hd ∧ tl.length < ys.length := by
  subst h
  have hl : (pre ++ hd :: tl).length = pre.length + tl.length + 1 := by simp; (first | lia | walk_at "om")
  rw [hl]
  refine ⟨?_, by (first | lia | walk_at "om")⟩
  rw [show pre.length + tl.length + 1 - 1 - tl.length = pre.length by (first | lia | walk_at "om")]
  simp
/-- a yield of a new pair -/
theorem yield_YG {M : Model} {A : Around} {h₀ : Heap} {Lg I E : Addr} {s₀ s : Shared} {ys : List (Int × Str)} {j : Nat} {p : Int} {c : Str} {tk tk' : Tok} {m : Str → Option Value} {Ef : Value → Shared → Prop} {Z : Shared → Prop}
    (st0 : h₀.StaysIn s₀.heap) (F : Fr h₀ Lg s.heap m) (N : News h₀ Lg s.heap (others h₀ Lg I E s₀.heap)) (hIE : I < E) (hE : E < s.heap.objs.size) (ho : Only s₀ s)
    (hy : ys[ys.length - 1 - j]? = some (p, c) ∧ j < ys.length)
    (hZ : ∀ s₂ : Shared, h₀.StaysIn s₂.heap → (∀ b, b = Lg ∨ b = I ∨ b = E → ∀ o, s.heap.get? b = some o → s₂.heap.get? b = some o) → Z s₂) :
    wpAny M A (newTuple [.int p tk, .str c tk']) (fun v s' => ∀ kap : Resume → Shared → Prop, (∀ x s'', (match x with | .ref _ => False | _ => Z s'') → kap (.send x) s'') → YG h₀ Lg I E ys j s₀ v s' kap) Ef s := by
  have hk := kb_of_others st0 F N
  have hL := F.ns.lt
  have hT0 : s₀.heap.get? s.heap.objs.size = none := by
    cases q : s₀.heap.get? s.heap.objs.size with
    | none => rfl
    | some o => exact absurd (Heap.lt_size (hk _ o (Nat.ne_of_gt hL) (Nat.ne_of_gt (Nat.lt_trans hIE hE)) (Nat.ne_of_gt hE) q)) (Nat.lt_irrefl _)
  have hh0 : h₀.get? s.heap.objs.size = none := by
    cases q : h₀.get? s.heap.objs.size with
    | none => rfl
    | some o => exact absurd (Heap.lt_size (F.keep _ o q)) (Nat.lt_irrefl _)
  refine wpAny_newObj_type ?_ (by size_fits)
  intro kap hkap
  refine ⟨⟨s.heap.objs.size, p, c, tk, tk', 0, rfl, hy.1, hy.2, Heap.get?_push_size _ rfl, hT0, hh0, Nat.ne_of_gt hL, Nat.ne_of_gt (Nat.lt_trans hIE hE), Nat.ne_of_gt hE⟩, ?_, ?_, ⟨m, F.push _⟩, ?_⟩
  · intro b o h1 h2 h3 q
    exact Heap.get?_push_of_some _ (hk b o h1 h2 h3 q)
  · exact Only.step s _ s.toks ho
  · intro s₂ hst hs
    exact hkap .none s₂ (hZ s₂ hst fun b hb o q => hs b hb o (Heap.get?_push_of_some _ q))
section
variable {prog : Program} {w : World} {A : Around} {R : GenEnd} {Y : Protocol} {fs : List Frame} {env : Env}
variable {h₀ : Heap} {I E : Addr} {x : Str} {tx : Tok}
theorem esc_seg {pa pb tp : Pos} {kk : Nat} {body : List Stmt} (hh : A.handled = none) (hfs : (marksOver fs (none, none)).1 = none)
    (hIE : I < E) (hLI : env.locals ≠ I) (hLE : env.locals ≠ E)
    (ha : env.kindOf (Str.ofString "pos") = some .local) (hb : env.kindOf (Str.ofString "ch") = some .local) (hp : (env.scope.kind == .class || (env.scope.kind == .module && env.locals != env.globals)) = false)
    (hI0 : h₀.get? I = none) (hE0 : h₀.get? E = none)
    (hend : ∀ n i e s₀ s, ES h₀ env.locals I E x tx i e s₀ s → i = x.cps.size → n = (escFrom [] i e).length → (e = true → 0 < i) →
      Seg (model prog w) A R Y n s₀ (.block [] env) (leafOf (.ok .next)) fs s)
    (hbody : ∀ n i c e s₀ s, x.cps.toList[i]? = some c → BS h₀ env.locals I E x tx i c e s₀ s → n = (escFrom (x.cps.toList.drop i) i e).length →
      (∀ e' s₀ s n, GS h₀ env.locals I E x tx (i + 1) e' s₀ s → n = (escFrom (x.cps.toList.drop (i + 1)) (i + 1) e').length → Seg (model prog w) A R Y n s₀ (.forLoop (.Tuple [.Name (Str.ofString "pos") pa, .Name (Str.ofString "ch") pb] kk tp) (.ref E) body [] env)
          (.pure (.again (.forLoop (.Tuple [.Name (Str.ofString "pos") pa, .Name (Str.ofString "ch") pb] kk tp) (.ref E) body [] env))) fs s) →
      Seg (model prog w) A R Y n s₀ (.forLoop (.Tuple [.Name (Str.ofString "pos") pa, .Name (Str.ofString "ch") pb] kk tp) (.ref E) body [] env) ((execs body env).wrap (fun f => match f with
            | .next | .cont => .pure (.again (.forLoop (.Tuple [.Name (Str.ofString "pos") pa, .Name (Str.ofString "ch") pb] kk tp) (.ref E) body [] env))
            | .brk => .pure (.done .next)
            | .ret v => .pure (.done (.ret v))) (fun e => (do noteFrame e env; theTreesLotGoes e : Sem Unit).wrap (fun _ => .raise e) .raise id id) id id) fs s) :
    ∀ rest i e s₀ s, x.cps.toList.drop i = rest → i ≤ x.cps.size → (e = true → 0 < i) → GS h₀ env.locals I E x tx i e s₀ s →
      Seg (model prog w) A R Y (escFrom rest i e).length s₀ (.forLoop (.Tuple [.Name (Str.ofString "pos") pa, .Name (Str.ofString "ch") pb] kk tp) (.ref E) body [] env)
        ((model prog w).den (.forLoop (.Tuple [.Name (Str.ofString "pos") pa, .Name (Str.ofString "ch") pb] kk tp) (.ref E) body [] env)) fs s := by
  have hA : ∀ c : Code, (A.over c fs).in1.handled = none := fun c => by
    show (marksOver fs (A.handled, A.handled)).1 = none
    rw [hh]; exact hfs
  have hA' : ∀ c : Code, (A.over c fs).handled = none := fun c => hA c
  have D : ∀ c : Code, Draws prog w (A.over c fs).in1 I [I] x.cps.size (fun i v => ∃ c u, x.cps[i]? = some c ∧ v = .str ⟨#[c]⟩ u) (fun i h => h.IsStrIter I (strIterType x) x tx i) := fun c => by
    cases hx : x.cps.all (· < 128)
    · have e : strIterType x = "str_iterator" := by simp [strIterType, hx]
      rw [e]; exact Draws.strWide (hA c) I x tx
    · have e : strIterType x = "str_ascii_iterator" := by simp [strIterType, hx]
      rw [e]; exact Draws.strAscii (hA c) I x tx
  intro rest
  induction rest with
  | nil =>
    intro i e s₀ s hrest hi he g
    have hiz : i = x.cps.size := by
      have h1 : x.cps.toList.length ≤ i := List.drop_eq_nil_iff.mp hrest
      have h2 : x.cps.toList.length = x.cps.size := by simp
      (first | lia | walk_at "om")
    obtain ⟨old, hen⟩ := g.en
    refine seg_forLoop (wpAny_pyNext_enum_endD (D (.forLoop (.Tuple [.Name (Str.ofString "pos") pa, .Name (Str.ofString "ch") pb] kk tp) (.ref E) body [] env)) hen (by rw [← hiz]; exact g.it) fun h' hk0 => ?_)
    have hk : ∀ b o, b ∉ [E, I] → s.heap.get? b = some o → h'.get? b = some o := fun b o hb q => hk0 b o (fun e => hb (by simp [e])) q
    have hEl : E < h'.objs.size := Heap.lt_size (hk0 E _ (Nat.ne_of_gt hIE) hen)
    obtain ⟨m, F, f1, f2, f3⟩ := g.fr
    have hne : ∀ b o, h₀.get? b = some o → b ∉ [E, I] := fun b o hb hm => by
      rcases List.mem_cons.mp hm with rfl | hm
      · rw [hE0] at hb; cases hb
      · rw [List.mem_singleton.mp hm, hI0] at hb; cases hb
    have hLw : env.locals ∉ [E, I] := fun hm => by
      rcases List.mem_cons.mp hm with h | hm
      · exact hLE h
      · exact hLI (List.mem_singleton.mp hm)
    refine hend _ i e s₀ _ ⟨g.st0, ⟨m, ⟨F.ns.at' fun o q => hk _ o hLw q, fun b o q => hk b o (hne b o q) (F.keep b o q), F.above⟩, f1, f2, f3⟩, fun b o h1 h2 h3 ho => hk b o (fun hm => ?_) (g.kp b o h1 h2 h3 ho), Only.step s h' s.toks g.only, by rw [← hrest]; exact g.sfx, hEl⟩ hiz rfl he
    · rcases List.mem_cons.mp hm with h | hm
      · exact h3 h
      · exact h2 (List.mem_singleton.mp hm)
  | cons c rest ih =>
    intro i e s₀ s hrest hi he g
    have hc : x.cps.toList[i]? = some c := by
      have := List.getElem?_drop (xs := x.cps.toList) (i := i) (j := 0)
      rw [hrest] at this
      simpa using this.symm
    have hlt : i < x.cps.size := by
      have := (List.getElem?_eq_some_iff.mp hc).1
      simpa using this
    have hdr : x.cps.toList.drop (i + 1) = rest := by
      have := List.drop_drop (i := 1) (j := i) (l := x.cps.toList)
      rw [hrest] at this
      rw [Nat.add_comm] at this
      simpa [Nat.add_comm] using this.symm
    have W := WalksT.enumerateD (D (.forLoop (.Tuple [.Name (Str.ofString "pos") pa, .Name (Str.ofString "ch") pb] kk tp) (.ref E) body [] env)) E (Nat.ne_of_gt hIE) (fun h => Nat.ne_of_gt hIE (List.mem_singleton.mp h)) (List.mem_singleton.mpr rfl)
    refine seg_forLoop (W.item i s _ _ hlt ⟨g.en, g.it⟩ fun T vals h' tk hv hTn hT hMid hk => ?_)
    obtain ⟨tk', xv, ⟨c', u, hc', rfl⟩, rfl⟩ := hv
    have hcc : c' = c := by
      rw [← Array.getElem?_toList, hc] at hc'
      exact (Option.some.inj hc').symm
    subst hcc
    have hTw : T ∉ [E, I] := W.apart _ _ _ hMid
    refine W.go _ _ _ i T _ _ _ hMid fun h'' hst'' hk'' => ?_
    obtain ⟨m, F, f1, f2, f3⟩ := g.fr
    have hne : ∀ b o, h₀.get? b = some o → b ∉ [E, I] := fun b o hb hm => by
      rcases List.mem_cons.mp hm with rfl | hm
      · rw [hE0] at hb; cases hb
      · rw [List.mem_singleton.mp hm, hI0] at hb; cases hb
    have hLw : env.locals ∉ [E, I] := fun hm => by
      rcases List.mem_cons.mp hm with h | hm
      · exact hLE h
      · exact hLI (List.mem_singleton.mp hm)
    have hT'' : h''.IsTuple T #[.int i tk', .str ⟨#[c']⟩ u] := let ⟨o, ho, r⟩ := hT; ⟨o, hk'' _ o hTw ho, r⟩
    have hn'' : h''.Ns env.locals m := (F.ns.at' fun o q => hk _ o hLw q).at' fun o q => hk'' _ o hLw q
    refine kcp_assign (hA' _) hT'' ha hb hp hn'' fun h3 tk3 hn3 hk3 => ?_
    refine hbody _ i c' e s₀ _ hc ⟨g.st0, ⟨_, tk', u, ⟨hn3, fun b o q => ?_, F.above⟩, ?_⟩, ?_, ?_, ?_, ?_, g.sfx⟩ (by rw [hrest]) ?_
    · have hbL : b ≠ env.locals := fun h => by
        have h1 := Heap.lt_size q
        have h2 := F.above
        rw [h] at h1
        exact absurd h1 (Nat.not_lt.mpr h2)
      exact hk3 b o hbL (hk'' b o (hne b o q) (hk b o (hne b o q) (F.keep b o q)))
    · exact ⟨rfl, rfl, f2, f1, trivial⟩
    · obtain ⟨old, q⟩ := hst''.1
      exact ⟨old, hk3 E _ (Ne.symm hLE) q⟩
    · obtain ⟨o, ho, r⟩ := hst''.2
      exact ⟨o, hk3 I o (Ne.symm hLI) ho, r⟩
    · intro b o h1 h2 h3 ho
      have hbw : b ∉ [E, I] := fun hm => by
        rcases List.mem_cons.mp hm with h | hm
        · exact h3 h
        · exact h2 (List.mem_singleton.mp hm)
      exact hk3 b o h1 (hk'' b o hbw (hk b o hbw (g.kp b o h1 h2 h3 ho)))
    · exact Only.step s _ _ g.only
    · intro e' s₀' s' n' g' hn'
      rw [hn', hdr]
      exact seg_again rfl (ih (i + 1) e' s₀' s' hdr hlt (fun _ => Nat.succ_pos _) g')
end
end
theorem resetG3 : ∃ x : Nat, x = 0 := by
  first | (walk1; fail) | skip
  w_top off
  exact ⟨0, rfl⟩
section
theorem st_size {M : Model} {A : Around} {E : Value → Shared → Prop} {s : Shared} {name : Str} {scope : Scope} {L a : Addr} {cd : Value} {h₀ : Heap} {m : Str → Option Value} {news : List (Addr × Obj)} {x : Str} {v : Value} {Q : Unit → Shared → Prop}
    (F : Fr h₀ L s.heap m) (N : News h₀ L s.heap news)
    (h : ∀ h', Fr h₀ L h' (upd m x v) → News h₀ L h' news → h'.objs.size = s.heap.objs.size → Q () { s with heap := h', toks := s.toks + 1 })
    (hk : scope.kind = .function := by rfl) (hl : (envOf name scope L a cd).kindOf x = some .local := by rfl) :
    wpAny M A (storeName (envOf name scope L a cd) x v) Q E s :=
  wpAny_storeName_local hl F.ns (fun h' hn hs => h h' (F.set hn hs) (N.set hs) hs.1)
    (by show (scope.kind == .class || (scope.kind == .module && L != mainGlobals)) = false; rw [hk]; rfl)
local macro_rules | `(tactic| walk_at "storeName") => `(tactic| (k_dflt (refine' st_size ?F ?N ?_ ; (case F => k_asm); (case N => k_asm)); intro h' F' N' hz'))
local macro_rules | `(tactic| walk_at "call type:enumerate") => `(tactic| (refine stop ?_))
local macro_rules | `(tactic| walk_at "newTuple") => `(tactic| (refine stop ?_))
section
variable {prog : Program} {w : World} {A : Around} {s : Shared} {K : Frag}
theorem enter_gen {R : Result → Shared → Prop} {name qual : Str} {params : Arguments} {body : List Stmt} {scope : Scope} {dV kV doc pm cdv ct oc : Value} {an od : Option Addr} {osl : Array (Option Value)} {f : Addr} {args : Args} {binds : List (Str × Value)}
    (X : K.In s.heap) (hlim : s.heap.NoLimit)
    (ho : K.lookup f = some ⟨oc, od, .func (fnOf name qual params body scope dV kV doc pm an cdv ct), osl⟩) (hcd : codeIn K cdv qual = true) (hroom : A.depth < recursionLimit)
    (hbind : BindsTo s (fnOf name qual params body scope dV kV doc pm an cdv ct) args binds) (hloc : ∀ y ∈ binds, scope.names.lookup y.1 = some .local)
    (h : ∀ (h₁ : Heap) (n1 n2 : Str) (t1 t2 : Tok), h₁.Ns s.heap.objs.size (fun y => binds.reverse.lookup y) → (∀ b o, s.heap.get? b = some o → h₁.get? b = some o) → h₁.objs.size = s.heap.objs.size + 1 →
      R (.ok (.ret (.ref h₁.objs.size))) { s with gens := s.gens.push (.fresh (.func body (envOf qual scope s.heap.objs.size f cdv))), toks := s.toks + binds.length + 1 + 1, heap := h₁.push { cls := .type "generator", data := .fields #[.int s.gens.size 0, .str n1 t1, .str n2 t2] } })
    (hco : scope.isCoroutine = false := by rfl) (hgen : scope.isGenerator = true := by rfl) (hk : scope.kind = .function := by rfl)
    (hcell : ∀ x ∈ scope.names, x.2 ≠ .cell := by decide) : codeAny (model prog w) A (.call (.ref f) args) R s := by
  refine codeAny_call_generator (fd := fnOf name qual params body scope dV kV doc pm an cdv ct) hroom (X _ _ ho) rfl hco hgen rfl (codeRec_of X hcd) (hbind _ _ _ _ ?_)
  refine wpAny_newFunctionEnv hcell hloc (fun h₀ hns₀ hsb₀ => ⟨hlim.fresh _ hsb₀, ?_⟩) hk
  exact h h₀ _ _ _ _ hns₀ (fun b o e => hsb₀.extBut b o (Nat.ne_of_lt (Heap.lt_size e)) (Heap.get?_push_of_some _ e)) (by rw [hsb₀.1, Heap.size_push])
end
theorem str_92 {c : Nat} : ((⟨#[c]⟩ : Str) == Str.ofString "\\") = decide (c = 92) := by
  rw [show Str.ofString "\\" = ⟨#[92]⟩ from by decide +kernel]
  by_cases h : c = 92
  · subst h; decide
  · rw [decide_eq_false h]
    exact beq_false_of_ne fun e => h (by injection e with e; injection e with e; injection e)
/-- a generator that has not begun -/
noncomputable def GFresh (M : Model) (A : Around) (h₀ : Heap) (Lg : Addr) (x : Str) (tx : Tok) (gs : GenState) : Prop :=
  ∀ s : Shared, h₀.StaysIn s.heap → (∃ m, Fr h₀ Lg s.heap m ∧ m (Str.ofString "addr") = some (.str x tx)) →
    gs.Goes M A (fun n s₀ r s₁ => r = .ok (.ret .none) ∧ RG h₀ Lg s.heap.objs.size (s.heap.objs.size + 1) n s₀ s₁) (YG h₀ Lg s.heap.objs.size (s.heap.objs.size + 1) (escOf x)) (escOf x).length (.send .none) s
set_option maxHeartbeats 8000000 in
theorem iter_call {w : World} {mg mb : Str → Option Value} {mean : ExcName → Option Value} {base : Heap} {outer : List Env} {d u : Nat} {gs : Option (List Code)} {s : Shared} {R : Result → Shared → Prop}
    {h₀ : Heap} {x : Str} {tx : Tok} {L : Addr} {env : Env} {m : Str → Option Value} {news : List (Addr × Obj)} (C : Ctx w mg mb mean base outer d u gs h₀) (F : Fr h₀ L s.heap m) (N : News h₀ L s.heap news) (hd : d ≤ 500)
    (hQ : ∀ h' tk a Lg g, Fr h₀ L h' m → News h₀ L h' news → h'.IsGen a s.gens.size → s.heap.get? a = none → (∃ m, Fr h₀ Lg h' m ∧ m (Str.ofString "addr") = some (.str x tx)) → s.heap.get? Lg = none → s.heap.objs.size ≤ Lg → a ≠ Lg →
      GFresh (model PySem.Challenge.rw_sn0039_01.row.prog w) (Around.in1 (Around.deeper ⟨none, d, some outer, gs, u⟩ env)) h₀ Lg x tx g → g.bare = true → R (.ok (.ret (.ref a))) { s with heap := h', toks := tk, gens := s.gens.push g }) :
    codeAny (model PySem.Challenge.rw_sn0039_01.row.prog w) (Around.deeper ⟨none, d, some outer, gs, u⟩ env) (.call (.ref 28) ⟨[.str x tx], []⟩) R s := by
  have C0 := C
  obtain ⟨X₀, T, B⟩ := C
  have X := X₀.keeps F.keep
  revert X
  k_fill
  intro X
  refine' enter_gen X (T.nolimit.keeps F.keep) ?k6 ?k7 ?k8 ?k9 ?kB ?_ ?c2 ?c3 ?c4 ?c5
  case k6 => k_is
  case k7 => k_is
  case k8 => show d + 1 < recursionLimit; simp only [recursionLimit]; walk_at "om"
  case k9 => exact BindsTo.of_eq rfl
  case kB => exact locs rfl
  case c2 => rfl
  case c3 => rfl
  case c4 => rfl
  case c5 => decide
  intro h₁ n1 n2 t1 t2 hns hk hsz
  have hLg := hns.lt
  have hLk : L ≠ s.heap.objs.size := Nat.ne_of_lt F.ns.lt
  have up : ∀ b o, s.heap.get? b = some o → (h₁.push { cls := .type "generator", data := .fields #[.int s.gens.size 0, .str n1 t1, .str n2 t2] }).get? b = some o := fun b o e => Heap.get?_push_of_some _ (hk b o e)
  have hno : ∀ b, s.heap.objs.size ≤ b → s.heap.get? b = none := fun b hb => Heap.get?_none_of_le hb
  refine hQ _ _ _ s.heap.objs.size _ (fr_up F up) (news_up N up) ⟨_, _, _, Heap.get?_push_size _ rfl, rfl, rfl, rfl⟩ (hno h₁.objs.size (hsz ▸ Nat.le_succ _)) ⟨_, ⟨(hns.push _), fun b o e => up b o (F.keep b o e), Nat.le_of_lt (Nat.lt_of_le_of_lt F.above F.ns.lt)⟩, rfl⟩ (hno _ (Nat.le_refl _)) (Nat.le_refl _) (hsz ▸ Nat.succ_ne_self _) ?_ rfl
  clear hns hk hQ up hno hLk hsz hLg
  rintro s₁ st ⟨mg₁, F₁, hm₁⟩
  generalize s.heap.objs.size = Lg at F₁ ⊢
  have hps : PsOk mg₁ [(Str.ofString "addr", .str x tx)] := ⟨hm₁, trivial⟩
  rw [← kb_eq hps] at F₁
  dsimp only [kb] at F₁
  refine ⟨rfl, seg_func ?_⟩
  refine seg_execs_cons (seg_wrap ?_)
  have hLI : Lg ≠ s₁.heap.objs.size := Nat.ne_of_lt F₁.ns.lt
  have hLE : Lg ≠ s₁.heap.objs.size + 1 := Nat.ne_of_lt (Nat.lt_succ_of_lt F₁.ns.lt)
  have N₁ : News h₀ Lg s₁.heap (others h₀ Lg s₁.heap.objs.size (s₁.heap.objs.size + 1) s₁.heap) := others_of_kb hLI hLE fun _ _ _ _ _ e => e
  generalize hoth : others h₀ Lg s₁.heap.objs.size (s₁.heap.objs.size + 1) s₁.heap = oth at N₁
  k_steps
  refine seg_execs_cons (seg_wrap ?_)
  k_steps
  rename_i h2 F2 N2 z2 h3 F3 N3 z3
  have hz : h3.objs.size = s₁.heap.objs.size := z3.trans z2
  refine seg_execs_cons (seg_For (by intro _; rfl) ?_)
  k_steps
  refine call_enumerate_str fun h4 he hi hz4 hk4 => ?_
  dsimp only at he hi hz4 hk4 ⊢
  rw [hz] at he hi hz4 ⊢
  refine wpAny_pyIter_enum he ?_
  intro p
  subst hoth
  have F4 := fr_up F3 hk4
  have N4 := news_up N3 hk4
  have hI0 : h₀.get? s₁.heap.objs.size = none := next_is_new F₁
  have hE0 : h₀.get? (s₁.heap.objs.size + 1) = none := Heap.get?_none_of_le (Nat.le_succ_of_le (Nat.le_of_lt (Nat.lt_of_le_of_lt F₁.above F₁.ns.lt)))
  refine esc_seg (h₀ := h₀) (I := s₁.heap.objs.size) (E := s₁.heap.objs.size + 1) (x := x) (tx := tx) rfl rfl (Nat.lt_succ_self _) hLI hLE rfl rfl rfl hI0 hE0 ?_ ?_ x.cps.toList 0 false s₁ _ rfl (Nat.zero_le _) (fun h => nomatch h) ⟨st, ⟨_, F4, rfl, rfl, fun h => absurd h (Nat.lt_irrefl _)⟩, ⟨.none, he⟩, hi, kb_of_others st F4 N4, ⟨_, _, rfl⟩, ⟨[], rfl⟩⟩
  · rintro n i e s₀ s' g hix hn hei
    refine seg_leaf _ ?_
    obtain ⟨mm, F5, f1, f2, f3⟩ := g.fr
    have hlt := g.lt
    cases e with
    | false =>
      have hps : PsOk mm [(Str.ofString "escape", .bool false)] := ⟨f2, trivial⟩
      rw [← kb_eq hps] at F5
      dsimp only [kb] at F5
      have N5 : News h₀ Lg s'.heap (others h₀ Lg s₁.heap.objs.size (s₁.heap.objs.size + 1) s₀.heap) := others_of_kb hLI hLE g.kp
      refine seg_execs_cons (seg_If ?_)
      k_steps
      refine seg_execs_nil (seg_execs_nil ?_)
      refine seg_end (.ok (.ret .none)) ?_
      exact ⟨rfl, hn, g.kp, g.only, _, F5⟩
    | true =>
      obtain ⟨tp, f4⟩ := f3 (hei rfl)
      have hps : PsOk mm [(Str.ofString "escape", .bool true), (Str.ofString "pos", .int ((i : Int) - 1) tp)] := ⟨f2, f4, trivial⟩
      rw [← kb_eq hps] at F5
      dsimp only [kb] at F5
      have N5 : News h₀ Lg s'.heap (others h₀ Lg s₁.heap.objs.size (s₁.heap.objs.size + 1) s₀.heap) := others_of_kb hLI hLE g.kp
      obtain ⟨pre, hpre⟩ := g.sfx
      have hn1 : n = 0 + 1 := hn
      subst hn1
      refine seg_execs_cons (seg_If ?_)
      k_steps
      refine seg_execs_cons (seg_Expr_Yield rfl rfl rfl ?_)
      k_steps
      refine yield_YG g.st0 F5 N5 (Nat.lt_succ_self _) hlt (Only.step s' _ _ g.only) (idx_of hpre) (fun s₂ hst hs => ?_)
      refine seg_execs_nil (seg_execs_nil ?_)
      refine seg_end (.ok (.ret .none)) ?_
      exact ⟨rfl, rfl, fun _ _ _ _ _ q => q, ⟨s₂.heap, s₂.toks, rfl⟩, _, ⟨F5.ns.at' fun o q => hs Lg (.inl rfl) o q, hst, F5.above⟩⟩
  · rintro n i c e s₀ s' hc b hn hcont
    have hdr : x.cps.toList.drop i = c :: x.cps.toList.drop (i + 1) := by
      obtain ⟨hlt, hge⟩ := List.getElem?_eq_some_iff.mp hc
      rw [List.drop_eq_getElem_cons hlt, hge]
    obtain ⟨uu, t, t', oI, oE, F5, N5, hoI, hoE⟩ := b.open hLI hLE hI0 hE0
    dsimp only [kb] at F5
    obtain ⟨pre, hpre⟩ := b.sfx
    rw [hdr] at hn hpre
    have hlt : s₁.heap.objs.size + 1 < s'.heap.objs.size := Heap.lt_size (N5 _ (.tail _ (.head _))).1
    have Nr : News h₀ Lg s'.heap (others h₀ Lg s₁.heap.objs.size (s₁.heap.objs.size + 1) s₀.heap) := fun p hp => N5 p (.tail _ (.tail _ hp))
    refine seg_execs_cons (seg_If ?_)
    cases e with
    | true =>
      rw [escFrom_nt, List.length_cons] at hn
      rw [escFrom_nt] at hpre
      subst hn
      k_steps
      refine seg_execs_cons (seg_Expr_Yield rfl rfl rfl ?_)
      k_steps
      refine yield_YG b.st0 F5 Nr (Nat.lt_succ_self _) hlt (Only.step s' _ _ b.only) (idx_of hpre) (fun s₂ hst hs => ?_)
      obtain ⟨uu2, t2, t2', oI2, oE2, F6, N6, hoI2, hoE2⟩ := (b.again hst hs).open hLI hLE hI0 hE0
      dsimp only [kb] at F6
      refine seg_execs_cons (seg_wrap ?_)
      k_steps
      refine seg_execs_nil (seg_execs_nil ?_)
      refine hcont false s₂ _ _ (GS.close hst (by assumption) (by assumption) hoI2 hoE2 ⟨_, _, rfl⟩ rfl rfl rfl ⟨pre ++ [_], by rw [List.append_assoc]; exact hpre⟩) rfl
    | false =>
      k_steps
      refine seg_execs_cons (seg_If ?_)
      k_steps
      · have hq := (by assumption : ((⟨#[c]⟩ : Str) == Str.ofString "\\") = true)
        have hc92 : c = 92 := by rw [str_92] at hq; exact of_decide_eq_true hq
        subst hc92
        rw [escFrom_92] at hn hpre
        clear Nr
        refine seg_execs_cons (seg_wrap ?_)
        k_steps
        refine seg_execs_nil (seg_execs_nil (seg_execs_nil ?_))
        exact hcont true s₀ _ n (GS.close b.st0 (by assumption) (by assumption) hoI hoE (Only.step s' _ _ b.only) rfl rfl rfl ⟨pre, hpre⟩) hn
      · have hq := (by assumption : ((⟨#[c]⟩ : Str) == Str.ofString "\\") = false)
        have hc92 : c ≠ 92 := by rw [str_92] at hq; exact of_decide_eq_false hq
        rw [escFrom_ne hc92, List.length_cons] at hn
        rw [escFrom_ne hc92] at hpre
        subst hn
        refine seg_execs_cons (seg_Expr_Yield rfl rfl rfl ?_)
        k_steps
        refine yield_YG b.st0 F5 Nr (Nat.lt_succ_self _) hlt (Only.step s' _ _ b.only) (idx_of hpre) (fun s₂ hst hs => ?_)
        obtain ⟨uu2, t2, t2', oI2, oE2, F6, N6, hoI2, hoE2⟩ := (b.again hst hs).open hLI hLE hI0 hE0
        dsimp only [kb] at F6
        refine seg_execs_nil (seg_execs_nil (seg_execs_nil ?_))
        exact hcont false s₂ _ _ (GS.close hst F6 N6 hoI2 hoE2 ⟨_, _, rfl⟩ rfl rfl rfl ⟨pre ++ [_], by rw [List.append_assoc]; exact hpre⟩) rfl
end
theorem resetG4 : ∃ x : Nat, x = 0 := by
  first | (walk1; fail) | skip
  w_top off
  exact ⟨0, rfl⟩
section
section
variable {prog : Program} {w : World} {A : Around} {E : Value → Shared → Prop} {s : Shared}
/-- the next item of a def's generator; what is left of it bears no cleanup -/
theorem gen_next {a : Addr} {g n : Nat} {gs : GenState} {P : Nat → Shared → Shared → Prop} {Y : Protocol} {Q : Option Value → Shared → Prop} (hh : A.handled = none) (hl : s.heap.NoLimit) (hroom : A.depth < recursionLimit)
    (hg : s.heap.IsGen a g) (hgs : s.gens[g]? = some gs)
    (hgo : gs.Goes (model prog w) A.in1 (fun n s₀ r s₁ => r = .ok (.ret .none) ∧ P n s₀ s₁) Y n (.send .none) (s.setGen g .running))
    (hY : ∀ v s₁ gs', gs'.bare = true → Y (n - 1) (s.setGen g .running) v s₁ (fun r' s'' => match n with
        | 0 => False
        | m + 1 => gs'.Goes (model prog w) A.in1 (fun n s₀ r s₁ => r = .ok (.ret .none) ∧ P n s₀ s₁) Y m r' s'') → Q (some v) (s₁.setGen g gs'))
    (hP : ∀ s₁, P n (s.setGen g .running) s₁ → ∀ h', (∀ b o, s₁.heap.get? b = some o → h'.get? b = some o) → Q none { s₁.setGen g .finished with heap := h' }) :
    wpAny (model prog w) A (pyNext (.ref a)) Q E s := by
  have hst : gs ≠ .running ∧ gs ≠ .finished := by constructor <;> (rintro rfl; exact hgo.elim)
  refine wpAny_bind (wpAny_attempt (wpAny_callSpecial?_slot (name := Str.ofString "__next__") hg.typeIs slot_gen_next
    (wpAny_call_entry slot_gen_next hg.typeIs entry_gen_next ?_ (args_gen_next _))))
  show wpAny _ _ (Builtin.Generator.genWake (.ref a) (.send .none)) _ _ s
  unfold Builtin.Generator.genWake
  refine wpAny_bind (wpAny_holding (wpAny_genNumber hg (wpAny_bind (wpAny_genState hgs ?_))))
  have ends : ∀ s₁, P n (s.setGen g .running) s₁ → ∀ K : Value → Sem Unit, (∀ x, K x = raiseNew x) → ∀ {α : Type} (K2 : Unit → Sem α) (Q2 : α → Shared → Prop) (E2 : Value → Shared → Prop),
      (∀ e h', (∃ o, h'.get? e = some o ∧ o.cls = .type "StopIteration") → (∀ b o, s₁.heap.get? b = some o → h'.get? b = some o) → E2 (.ref e) { s₁.setGen g .finished with heap := h' }) →
      wpAny (model prog w) A.in1 (newExc (.type "StopIteration") [] >>= fun x => K x >>= K2) Q2 E2 (s₁.setGen g .finished) := by
    intro s₁ _ K hK α K2 Q2 E2 he
    refine wpAny_bind ?_
    simp only [newExc, newTuple]
    refine wpAny_bind (wpAny_newObj_type ?_ (by size_fits))
    refine wpAny_bind (m := firstArgMember _ _) (wpAny_of_eq (a := Value.none) (by first | rfl | (simp only [firstArgMember]; rfl)) (wpAny_newObj_type ?_ (by size_fits)))
    rw [hK]
    simp only [raiseNew]
    refine wpAny_bind (wpAny_bind (wpAny_handled ?_))
    rw [show A.in1.handled = none from hh]
    exact wpAny_throw (he _ _ ⟨_, Heap.get?_push_size _ rfl, rfl⟩ fun b o q => Heap.get?_push_of_some _ (Heap.get?_push_of_some _ q))
  have fin : ∀ s₁, P n (s.setGen g .running) s₁ → ∀ e h', (∃ o, h'.get? e = some o ∧ o.cls = .type "StopIteration") → (∀ b o, s₁.heap.get? b = some o → h'.get? b = some o) →
      wpAny (model prog w) A (isInstance (.ref e) (.type "StopIteration")) (fun b s' => b = true ∧ Q none s') E { s₁.setGen g .finished with heap := h' } := by
    intro s₁ hp e h' zz4 hk
    try (show wpAny _ _ _ _ _ _; k_fold)
    obtain ⟨o, ho, hc⟩ := zz4
    exact wpAny_isInstance (T := "StopIteration") (b := true) ⟨o, ho, hc⟩ isSubtype_stop ⟨rfl, hP s₁ hp h' hk⟩
  cases gs with
  | running => exact absurd rfl hst.1
  | finished => exact absurd rfl hst.2
  | _ =>
    refine wpAny_bind (wpAny_roomToWake hl hroom ?_)
    show wpAny _ _ (.resume g (.send .none) [] _) _ _ s
    refine wpAny_resumeQ hgs hgo (fun x s₁ hx => ?_) (fun v s₁ gs' hb hv => wpAny_pure ⟨v, rfl, wpAny_pure (hY v s₁ gs' hb hv)⟩)
    obtain ⟨rfl, hp⟩ := hx
    refine ends s₁ hp raiseNew (fun _ => rfl) _ _ _ fun e h' ho hk => ?_
    refine wpAny_bind (wpAny_mono (fin s₁ hp e h' ho hk) (fun b s' hb => ?_) fun _ _ q => q)
    obtain ⟨rfl, hb⟩ := hb
    exact wpAny_pure hb
theorem letGo_gen {elts : List Expr} {k : Nat} {pos : Pos} {a T : Addr} {g : Nat} {Q : Unit → Shared → Prop} (hg : s.heap.IsGen a g) (h : Q () s) :
    wpAny (model prog w) A (letOwnedTupleGo (.Tuple elts k pos) (.ref a) (.ref T)) Q E s := by
  obtain ⟨o, nm, qn, ho, hc, hd, _⟩ := hg
  unfold letOwnedTupleGo
  refine wpAny_bind (wpAny_load ho ?_)
  rw [hc, hd]
  exact wpAny_pure h
/-- heap, marks and generators alone have moved; none of these is left with a cleanup -/
noncomputable def GOnly (s₀ s : Shared) : Prop := ∃ h tk gs, s = { s₀ with heap := h, toks := tk, gens := gs } ∧ AllBare gs
theorem allBare_set {gens : Array GenState} {g : Nat} {y : GenState} (x : AllBare gens) (hy : y.bare = true) : AllBare (gens.setIfInBounds g y) := fun z hz => by
  obtain ⟨i, hi, rfl⟩ := Array.mem_iff_getElem.mp hz
  rw [Array.size_setIfInBounds] at hi
  rw [Array.getElem_setIfInBounds hi]
  split
  · exact hy
  · exact x _ (Array.getElem_mem hi)
theorem for_gen {σ : Type} (Led : σ → List (Addr × Obj)) (ps : σ → List (Str × Value)) (P : Nat → σ → Prop) (adr : List Addr)
    {env : Env} {h₀ : Heap} {pa pb tp : Pos} {kk : Nat} {body : List Stmt} {Q : Flow → Shared → Prop} {a Lg : Addr} {g : Nat} {gs0 : GenState} {x : Str} {tx : Tok} {m₀ : Str → Option Value} {c₀ : σ}
    (hh : A.handled = none) (hroom : A.depth < recursionLimit) (hlim : h₀.NoLimit)
    (hgen : s.heap.IsGen a g) (hgs : s.gens[g]? = some gs0) (hb0 : AllBare s.gens) (hG : GFresh (model prog w) A.in1 h₀ Lg x tx gs0) (hfr : ∃ m, Fr h₀ Lg s.heap m ∧ m (Str.ofString "addr") = some (.str x tx))
    (F : Fr h₀ env.locals s.heap m₀) (N : News h₀ env.locals s.heap (Led c₀)) (hk : PsOk m₀ (ps c₀)) (hP : P 0 c₀)
    (hadr : ∀ c, (Led c).map (·.1) = adr) (ha0 : h₀.get? a = none) (haL : a ≠ env.locals) (haG : a ≠ Lg) (hLG : env.locals ≠ Lg) (haA : ∀ b ∈ adr, b ≠ a ∧ b ≠ Lg)
    (turn : ∀ i p cs tp' tc c u s₁ own, (escOf x)[i]? = some (p, cs) → P i c → OwnOff own ((Led c).map (·.1)) → GOnly s s₁ →
      Fr h₀ env.locals s₁.heap (upd (upd (kb u (ps c)) (Str.ofString "pos") (.int p tp')) (Str.ofString "ch") (.str cs tc)) → News h₀ env.locals s₁.heap (Led c ++ own) →
      wpAny (model prog w) A (execs body env) (Turn Q (Nxt h₀ env.locals Led ps (P (i + 1)) (Only s₁) own)) (fun _ _ => False) s₁)
    (done : ∀ c m s₁, P (escOf x).length c → GOnly s s₁ → PsOk m (ps c) → Fr h₀ env.locals s₁.heap m → News h₀ env.locals s₁.heap (Led c) → Q .next s₁)
    (hx : env.kindOf (Str.ofString "pos") = some .local := by rfl) (hy : env.kindOf (Str.ofString "ch") = some .local := by rfl)
    (hp : (env.scope.kind == .class || (env.scope.kind == .module && env.locals != env.globals)) = false := by rfl) :
    codeAny (model prog w) A (.forLoop (.Tuple [.Name (Str.ofString "pos") pa, .Name (Str.ofString "ch") pb] kk tp) (.ref a) body [] env) (fun r s' => match r with | .ok f => Q f s' | .error e => cameBackBy (model prog w) A env E e s') s := by
  have hG0 : h₀.get? Lg = none := by
    obtain ⟨_, Fg, _⟩ := hfr
    exact Heap.get?_none_of_le Fg.above
  -- what a turn finds
  let GAt : Nat → Shared → Prop := fun i s' => ∃ gs', s'.gens[g]? = some gs' ∧ ∃ I Ea, I ≠ env.locals ∧ Ea ≠ env.locals ∧ I ≠ a ∧ Ea ≠ a ∧ (∀ b ∈ adr, b ≠ I ∧ b ≠ Ea) ∧ h₀.get? I = none ∧ h₀.get? Ea = none ∧
    ∀ s₂ : Shared, s₂.heap = s'.heap →
      gs'.Goes (model prog w) A.in1 (fun n s₀ r s₁ => r = .ok (.ret .none) ∧ RG h₀ Lg I Ea n s₀ s₁) (YG h₀ Lg I Ea (escOf x)) ((escOf x).length - i) (.send .none) s₂
  refine codeAny_forLoop_any
    (fun k s' => ∃ c m' i, Fr h₀ env.locals s'.heap m' ∧ News h₀ env.locals s'.heap (Led c) ∧ PsOk m' (ps c) ∧ P i c ∧ GOnly s s' ∧ s'.heap.IsGen a g ∧ GAt i s' ∧ i ≤ (escOf x).length ∧ k = (escOf x).length + 1 - i) ?_ ((escOf x).length + 1)
    ⟨c₀, m₀, 0, F, N, hk, hP, ⟨s.heap, s.toks, s.gens, rfl, hb0⟩, hgen, ?_, Nat.zero_le _, rfl⟩
  · rintro k s' ⟨c, m', i, F', N', hk', hP', ⟨h', tk', gsA, rfl, hbA⟩, hgen', ⟨gs', hgs', I, Ea, hIL, hEL, hIa, hEa, hIA, hI0, hE0, hGo⟩, hi, rfl⟩
    dsimp only at F' N' hgen' hgs'
    have hgl : g < gsA.size := (Array.getElem?_eq_some_iff.mp hgs').1
    have adrIn : ∀ c, ∀ q ∈ Led c, q.1 ∈ adr := fun c q hq => by rw [← hadr c]; exact List.mem_map_of_mem hq
    refine gen_next hh (hlim.keeps F'.keep) hroom hgen' hgs' (hGo _ rfl) ?_ ?_
    · intro v s₁ gs'' hb'' hY
      obtain ⟨⟨T, p, cs, t1, t2, kT, rfl, hyT, hjT, hT, hT0, hTh, hTL, hTI, hTE⟩, hKb, ⟨h1, tk1, rfl⟩, ⟨mg, Fg⟩, hnext⟩ := hY
      dsimp only at hT Fg hKb hnext
      by_cases hin : i < (escOf x).length
      · obtain ⟨m, hm⟩ : ∃ m, (escOf x).length - i = m + 1 := ⟨(escOf x).length - i - 1, by (first | lia | walk_at "om")⟩
        rw [hm] at hyT hnext
        rw [show (escOf x).length - 1 - (m + 1 - 1) = i by (first | lia | walk_at "om")] at hyT
        have F1 : Fr h₀ env.locals h1 m' := ⟨F'.ns.at' fun o e => hKb _ o hLG (Ne.symm hIL) (Ne.symm hEL) e, Fg.keep, F'.above⟩
        have N1 : News h₀ env.locals h1 (Led c) := fun q hq => ⟨hKb _ _ (haA _ (adrIn c q hq)).2 (hIA _ (adrIn c q hq)).1 (hIA _ (adrIn c q hq)).2 (N' q hq).1, (N' q hq).2⟩
        have g1 : h1.IsGen a g := let ⟨o, nm, qn, ho, r⟩ := hgen'; ⟨o, nm, qn, hKb _ o haG (Ne.symm hIa) (Ne.symm hEa) ho, r⟩
        refine letGo_gen g1 ?_
        refine kcp_assign hh ⟨_, hT, rfl, _, rfl⟩ hx hy hp F1.ns fun h3 tk3 hn3 hk3 => ?_
        have hLh : ∀ b o, h₀.get? b = some o → b ≠ env.locals := fun b o e q => absurd (Heap.lt_size e) (Nat.not_lt.mpr (by rw [q]; exact F1.above))
        have F3 : Fr h₀ env.locals h3 (upd (upd (kb m' (ps c)) (Str.ofString "pos") (.int p t1)) (Str.ofString "ch") (.str cs t2)) := by
          rw [kb_eq hk']
          exact ⟨hn3, fun b o e => hk3 b o (hLh b o e) (F1.keep b o e), F1.above⟩
        obtain ⟨og, nm, qn, hog, hogr⟩ := g1
        have hog3 := hk3 a og haL hog
        have hown : ∀ q ∈ ownOf h₀ [Lg, I, Ea] h3, q.1 = Lg ∨ q.1 = I ∨ q.1 = Ea := fun q hq => by
          have := ownOf_sub q hq
          simpa using this
        have hLs : env.locals ∉ [Lg, I, Ea] := by
          simp only [List.mem_cons, List.not_mem_nil, or_false, not_or]
          exact ⟨hLG, Ne.symm hIL, Ne.symm hEL⟩
        have N3 : News h₀ env.locals h3 (Led c ++ (ownOf h₀ [Lg, I, Ea] h3 ++ [(a, og)])) := by
          intro q hq
          rcases List.mem_append.mp hq with hq | hq
          · exact ⟨hk3 _ _ (N1 q hq).2.1 (N1 q hq).1, (N1 q hq).2⟩
          · rcases List.mem_append.mp hq with hq | hq
            · exact news_ownOf hLs q hq
            · rw [List.mem_singleton.mp hq]; exact ⟨hog3, haL, ha0⟩
        have hoff : OwnOff (ownOf h₀ [Lg, I, Ea] h3 ++ [(a, og)]) ((Led c).map (·.1)) := by
          intro q hq b hb e
          rw [hadr c] at hb
          rcases List.mem_append.mp hq with hq | hq
          · rcases hown q hq with h | h | h
            · exact (haA b hb).2 (e ▸ h)
            · exact (hIA b hb).1 (e ▸ h)
            · exact (hIA b hb).2 (e ▸ h)
          · rw [List.mem_singleton.mp hq] at e; exact (haA b hb).1 e.symm
        refine wpAny_noRaise (wpAny_mono (turn i p cs t1 t2 c m' _ _ hyT hP' hoff ⟨h3, tk3, _, rfl, allBare_set (allBare_set hbA rfl) hb''⟩ F3 N3) (fun f s₄ h₄ => ?_) fun _ _ e => e)
        have fin : Nxt h₀ env.locals Led ps (P (i + 1)) (Only { s with heap := h3, toks := tk3, gens := (gsA.setIfInBounds g .running).setIfInBounds g gs'' }) (ownOf h₀ [Lg, I, Ea] h3 ++ [(a, og)]) s₄ →
            ∃ n, n < (escOf x).length + 1 - i ∧ ∃ c m' i, Fr h₀ env.locals s₄.heap m' ∧ News h₀ env.locals s₄.heap (Led c) ∧ PsOk m' (ps c) ∧ P i c ∧ GOnly s s₄ ∧ s₄.heap.IsGen a g ∧ GAt i s₄ ∧ i ≤ (escOf x).length ∧ n = (escOf x).length + 1 - i := by
          rintro ⟨c', m4, hP4, hps4, F4, N4, ⟨h4, tk4, rfl⟩, _⟩
          dsimp only at F4 N4
          refine ⟨_, by (first | lia | walk_at "om"), c', m4, i + 1, F4, news_pick N4 fun q hq => List.mem_append_left _ hq, hps4, hP4, ⟨h4, tk4, _, rfl, allBare_set (allBare_set hbA rfl) hb''⟩, ⟨og, nm, qn, (N4 (a, og) (List.mem_append_right _ (List.mem_append_right _ (List.mem_singleton.mpr rfl)))).1, hogr⟩, ⟨gs'', ?_, I, Ea, hIL, hEL, hIa, hEa, hIA, hI0, hE0, ?_⟩, by (first | lia | walk_at "om"), rfl⟩
          · show ((gsA.setIfInBounds g .running).setIfInBounds g gs'')[g]? = some gs''
            rw [Array.getElem?_setIfInBounds_self_of_lt (by rw [Array.size_setIfInBounds]; exact hgl)]
          · intro s₂ hs₂
            rw [show (escOf x).length - (i + 1) = m by (first | lia | walk_at "om")]
            refine hnext s₂ (by rw [hs₂]; exact F4.keep) fun b hb o ho => ?_
            rw [hs₂]
            have hbL : b ≠ env.locals := by rcases hb with h | h | h <;> rw [h] <;> first | exact Ne.symm hLG | exact hIL | exact hEL
            have hb0 : h₀.get? b = none := by rcases hb with h | h | h <;> rw [h] <;> assumption
            exact (N4 (b, o) (List.mem_append_right _ (List.mem_append_left _ (mem_ownOf (by simpa using hb) hb0 (hk3 b o hbL ho))))).1
        cases f with
        | ret v => exact h₄
        | brk => exact h₄
        | cont => exact fin h₄
        | next => exact fin h₄
      · rw [show (escOf x).length - i = 0 by (first | lia | walk_at "om")] at hnext
        exact (hnext { s with heap := h1 } Fg.keep (fun _ _ _ e => e)).elim
    · intro s₁ zz1 h5 hk5
      obtain ⟨hn0, hKb, ⟨h1, tk1, rfl⟩, mg, Fg⟩ := zz1
      try (show wpAny _ _ _ _ _ _; k_fold)
      have hiN : i = (escOf x).length := by (first | lia | walk_at "om")
      subst hiN
      dsimp only at hKb Fg hk5
      refine wpAny_execs_nil (done c m' _ hP' ⟨h5, tk1, _, rfl, allBare_set (allBare_set hbA rfl) rfl⟩ hk' ?_ ?_)
      · exact ⟨F'.ns.at' fun o e => hk5 _ o (hKb _ o hLG (Ne.symm hIL) (Ne.symm hEL) e), fun b o e => hk5 b o (Fg.keep b o e), F'.above⟩
      · exact fun q hq => ⟨hk5 _ _ (hKb _ _ (haA _ (adrIn c q hq)).2 (hIA _ (adrIn c q hq)).1 (hIA _ (adrIn c q hq)).2 (N' q hq).1), (N' q hq).2⟩
  · refine ⟨gs0, hgs, s.heap.objs.size, s.heap.objs.size + 1, ?_, ?_, ?_, ?_, ?_, ?_, ?_, ?_⟩
    · exact Nat.ne_of_gt F.ns.lt
    · exact Nat.ne_of_gt (Nat.lt_succ_of_lt F.ns.lt)
    · obtain ⟨o, _, _, ho, _⟩ := hgen; exact Nat.ne_of_gt (Heap.lt_size ho)
    · obtain ⟨o, _, _, ho, _⟩ := hgen; exact Nat.ne_of_gt (Nat.lt_succ_of_lt (Heap.lt_size ho))
    · intro b hb
      rw [← hadr c₀] at hb
      obtain ⟨q, hq, rfl⟩ := List.mem_map.mp hb
      have hl := Heap.lt_size (N q hq).1
      exact ⟨Nat.ne_of_lt hl, Nat.ne_of_lt (Nat.lt_succ_of_lt hl)⟩
    · exact next_is_new F
    · exact Heap.get?_none_of_le (Nat.le_succ_of_le (Nat.le_of_lt (Nat.lt_of_le_of_lt F.above F.ns.lt)))
    · intro s₂ hs₂
      have := hG s₂ (by rw [hs₂]; exact F.keep) (by rw [hs₂]; exact hfr)
      rw [hs₂] at this
      exact this
end
end
section
local macro_rules | `(tactic| walk_at "call ref") => `(tactic| (refine stop ?_))
theorem resetC2 : ∃ x : Nat, x = 0 := by
  first | (walk1; fail) | skip
  w_top off
  exact ⟨0, rfl⟩
section
noncomputable def divs (n : Int) : Nat := if h : 64 ≤ n then divs (n / 64) + 1 else 0
termination_by n.toNat
decreasing_by walk_at "om"
noncomputable def closesFrom : List Int → Nat → Int → Bool
  | [], _, _ => true
  | n :: r, k, o => if 256 + (o + divs n) - k - 1 < 256 then false else closesFrom r (k + 1) (o + divs n)
noncomputable def closesOf (ns : List Int) (p : Int) : Bool := closesFrom ns 0 0 && (p - ns.length == 0)
theorem divs_ge {n : Int} (h : 64 ≤ n) : (divs n : Int) = divs (Int.fdiv n 64) + 1 := by
  rw [Int.fdiv_eq_ediv_of_nonneg _ (by decide)]
  conv => lhs; rw [divs, dif_pos h]
  rfl
theorem divs_lt {n : Int} (h : ¬ 64 ≤ n) : divs n = 0 := by rw [divs, dif_neg h]
theorem closesFrom_drop {ns : List Int} {i : Nat} {o : Int} (hi : i < ns.length) :
    closesFrom (ns.drop i) i o = if 256 + (o + divs ns[i]) - i - 1 < 256 then false else closesFrom (ns.drop (i + 1)) (i + 1) (o + divs ns[i]) := by
  rw [List.drop_eq_getElem_cons hi]; rfl
set_option maxHeartbeats 8000000 in
theorem law_closes {w : World} {a : Addr} {vs : List Value} {ns : List Int} {p : Int} {t : Tok} (hi : IntsAre vs ns) (hl : ns.length ≤ 20) (hp : 0 ≤ p ∧ p ≤ 10) (hn : ∀ n ∈ ns, 0 ≤ n) :
    Gives 400 w 106 [.ref a, .int p t] (fun h => h.IsList a vs.toArray) (fun v _ _ => v = .bool (closesOf ns p)) := by
  intro mg mb mean base outer d u gs s R C hd hu hpre h
  have C0 := C
  obtain ⟨X, T, B⟩ := C
  revert X
  k_fill
  intro X
  refine' enter_def X T.nolimit ?k6 ?k7 ?k8 ?k9 ?kB ?_ ?c2 ?c3 ?c4 ?c5
  case k6 => k_is
  case k7 => k_is
  case k8 => simp only [recursionLimit]; walk_at "om"
  case k9 => exact BindsTo.of_eq rfl
  case kB => exact locs rfl
  case c2 => rfl
  case c3 => rfl
  case c4 => rfl
  case c5 => decide
  intro L' h' F' N' X'
  dsimp only
  refine wpAny_noRaise ?_
  (k_fold; first | (refine letAE (fun A1 e1 => wpAny _ A1 (execs _ e1) _ _ _) ?_; intro A1 e1) | (refine letA (fun A1 => wpAny _ A1 _ _ _ _) ?_; intro A1) | skip)
  ((try (show wpAny _ _ _ _ _ _; k_fold)); k_steps)
  refine wpAny_For ?_ (by intro _; rfl)
  ((try (show wpAny _ _ _ _ _ _; k_fold)); k_steps)
  rename_i R' F2 N2 keep2
  refine it_range (σ := Int × Tok) (fun _ => []) (fun c => [(Str.ofString "opened", .int c.1 c.2), (Str.ofString "numbers", .ref a), (Str.ofString "pairs", .int p t)])
    (fun i c => closesFrom ns 0 0 = closesFrom (ns.drop i) i c.1) (Only s) ns.length rfl R' (small_of (by walk_at "om") (by walk_at "om")) (by rw [size_of (by walk_at "om")]; simp) Only.step F2 (c₀ := (0, _)) N2 ⟨rfl, rfl, rfl, trivial⟩ rfl ⟨_, _, rfl⟩ ?_ ?_
  · intro i tt zz2 uu s₁ own hi' hP hoff zz9 F3 N3
    obtain ⟨h₁, tk₁, rfl⟩ := zz9
    try (show wpAny _ _ _ _ _ _; k_fold)
    obtain ⟨o, tr⟩ := zz2
    dsimp only [kb] at F3 N3 hP
    ((try (show wpAny _ _ _ _ _ _; k_fold)); k_steps)
    have F4 := (by assumption : Fr _ _ _ (upd _ (Str.ofString "number") (Value.int (ns.getD (0 + (i : Int)).toNat 0) _)))
    have N4 := (by assumption : News _ _ _ ([] ++ own))
    have hge : ns.getD (0 + (i : Int)).toNat 0 = ns[i] := by simp [hi']
    have hn0 : 0 ≤ ns[i] := hn _ (List.getElem_mem hi')
    refine while_inv (σ := (Int × Tok) × Int × Tok) (fun _ => own) (fun c => [(Str.ofString "number", .int c.1.1 c.1.2), (Str.ofString "opened", .int c.2.1 c.2.2), (Str.ofString "k", .int (0 + (i : Int)) tt), (Str.ofString "numbers", .ref a), (Str.ofString "pairs", .int p t)])
      (fun c => 0 ≤ c.1.1 ∧ c.2.1 + divs c.1.1 = o + divs (ns[i])) (fun c => c.1.1.toNat) (Only s) F4 (c₀ := ((_, _), (_, _))) N4 ⟨rfl, rfl, rfl, rfl, rfl, trivial⟩ ⟨by show 0 ≤ ns.getD (0 + (i : Int)).toNat 0; rw [hge]; exact hn0, by show o + (divs (ns.getD (0 + (i : Int)).toNat 0) : Int) = _; rw [hge]⟩ ⟨_, _, rfl⟩ ?_
    intro zz0 u' s₁ zz3 zz4 F5 N5
    obtain ⟨h₂, tk₂, rfl⟩ := zz4
    try (show wpAny _ _ _ _ _ _; k_fold)
    obtain ⟨⟨n', tn⟩, ⟨o', to⟩⟩ := zz0
    obtain ⟨hn', ho'⟩ := zz3
    dsimp only [kb] at F5 N5 hn' ho'
    ((try (show wpAny _ _ _ _ _ _; k_fold)); k_steps)
    · refine ⟨((Int.fdiv n' 64, _), (o' + 1, _)), _, ⟨⟨?_, ?_⟩, ?_⟩, ⟨rfl, rfl, rfl, rfl, rfl, trivial⟩, by assumption, by rw [List.append_nil]; assumption, ⟨_, _, rfl⟩, fun _ h => nomatch h⟩
      all_goals (have hg := (by assumption : 64 ≤ n'); have hf := Int.fdiv_eq_ediv_of_nonneg n' (b := 64) (by decide); dsimp only; have hv := divs_ge hg; walk_at "om")
    · have hg := (by assumption : ¬ 64 ≤ n')
      have hv := divs_lt hg
      have hoo : o' = o + divs ns[i] := by walk_at "om"
      subst hoo
      rw [closesFrom_drop hi'] at hP
      refine call_gives isterminal C0 F5 N5 (by walk_at "om") (by walk_at "om") trivial ?_
      rintro h₃ tk₃ v F6 N6 rfl st
      ((try (show wpAny _ _ _ _ _ _; k_fold)); k_steps)
      · have hc := (by assumption : 256 + (o + (divs ns[i] : Int)) - (0 + (i : Int)) - 1 < 256)
        exact h _ _ _ F6.keep (by unfold closesOf; rw [hP, if_pos (by walk_at "om")]; rfl)
      · have hc := (by assumption : ¬ 256 + (o + (divs ns[i] : Int)) - (0 + (i : Int)) - 1 < 256)
        refine ⟨(o + divs ns[i], _), _, ?_, ⟨rfl, rfl, rfl, trivial⟩, by assumption, by assumption, ⟨_, _, rfl⟩, fun _ _ _ h => nomatch h⟩
        dsimp only
        rw [hP, if_neg (by walk_at "om")]
  · intro zz0 m s₁ hP zz4 hk F3 N3
    obtain ⟨h₁, tk₁, rfl⟩ := zz4
    try (show wpAny _ _ _ _ _ _; k_fold)
    obtain ⟨o, tr⟩ := zz0
    rw [← kb_eq hk] at F3
    dsimp only [kb] at F3
    rw [List.drop_length] at hP
    ((try (show wpAny _ _ _ _ _ _; k_fold)); k_steps)
    refine call_gives iseof C0 F3 N3 (by walk_at "om") (by walk_at "om") trivial ?_
    rintro h₃ tk₃ v F6 N6 rfl st
    ((try (show wpAny _ _ _ _ _ _; k_fold)); k_steps)
    exact h _ _ _ F6.keep (by unfold closesOf; rw [hP]; rfl)
end
theorem resetC5 : ∃ x : Nat, x = 0 := by
  first | (walk1; fail) | skip
  w_top off
  exact ⟨0, rfl⟩
section
local macro_rules | `(tactic| walk_at "exec For Tuple") => `(tactic| (refine stop ?_))
local macro_rules | `(tactic| walk_at "call builtin:str.join") => `(tactic| (refine stop ?_))
/-- as Gives, with generators made -/
noncomputable def GivesG (lvl : Nat) (w : World) (f : Addr) (args : List Value) (Pre : Heap → Prop) (P : Value → Heap → Heap → Prop) : Prop :=
  ∀ (mg mb : Str → Option Value) (mean : ExcName → Option Value) (base : Heap) (outer : List Env) (d u : Nat) (gs : Option (List Code)) (s : Shared) (R : Result → Shared → Prop),
    Ctx w mg mb mean base outer d u gs s.heap → d ≤ lvl → u ≤ 4 * lvl → Pre s.heap → AllBare s.gens →
    (∀ s' v, GOnly s s' → s.heap.StaysIn s'.heap → P v s.heap s'.heap → R (.ok (.ret v)) s') →
    codeAny (model PySem.Challenge.rw_sn0039_01.row.prog w) ⟨none, d, some outer, gs, u⟩ (.call (.ref f) ⟨args, []⟩) R s
theorem call_givesG {lvl : Nat} {w : World} {f : Addr} {args : List Value} {Pre : Heap → Prop} {P : Value → Heap → Heap → Prop} (G : GivesG lvl w f args Pre P)
    {mg mb : Str → Option Value} {mean : ExcName → Option Value} {base : Heap} {outer : List Env} {d u : Nat} {gs : Option (List Code)} {s : Shared} {E : Value → Shared → Prop} {Q : Value → Shared → Prop}
    {h₀ : Heap} {env : Env} {L : Addr} {m : Str → Option Value} {news : List (Addr × Obj)}
    (C : Ctx w mg mb mean base outer d u gs h₀) (F : Fr h₀ L s.heap m) (N : News h₀ L s.heap news) (hd : d + 1 ≤ lvl) (hu : u + 3 ≤ 4 * lvl) (hp : Pre s.heap) (hb : AllBare s.gens)
    (h : ∀ s' v, GOnly s s' → Fr h₀ L s'.heap m → News h₀ L s'.heap news → P v s.heap s'.heap → s.heap.StaysIn s'.heap → Q v s')
    (hf : env.frame = some L := by rfl) (hk : env.scope.kind = .function := by rfl) :
    wpAny (model PySem.Challenge.rw_sn0039_01.row.prog w) (Around.deeper ⟨none, d, some outer, gs, u⟩ env) (call (.ref f) args) Q E s := by
  refine wpAny_call (G _ _ _ _ _ _ _ _ _ _ (C.push F hf hk) hd hu hp hb fun s' v g st hP => ?_)
  exact h s' v g (fr_up F st) (news_up N st) hP st
/-- one turn of the stripping -/
noncomputable def stripStep (x : Str) (st : Int × Option Int × List Str) (y : Int × Str) : Int × Option Int × List Str :=
  if y.2 == Str.ofString "\"" then
    match st.2.1 with
    | none => (st.1, some y.1, st.2.2)
    | some o => (y.1 + 1, none, if st.1 = o then st.2.2 else st.2.2 ++ [Txt.slice x (some st.1) (some o)])
  else st
noncomputable def stripAt (x : Str) (i : Nat) : Int × Option Int × List Str := ((escOf x).take i).foldl (stripStep x) (0, none, [])
noncomputable def stripParts (x : Str) : List Str :=
  let r := stripAt x (escOf x).length
  if r.1 < x.length then r.2.2 ++ [Txt.slice x (some r.1) none] else r.2.2
noncomputable def stripOf (x : Str) : Str := if (Builtin.Str.occurrences x (Str.ofString "\"") 0 x.length 1).isEmpty then x else Txt.join (Str.ofString "") (stripParts x)
theorem stripAt_succ {x : Str} {i : Nat} {y : Int × Str} (h : (escOf x)[i]? = some y) : stripAt x (i + 1) = stripStep x (stripAt x i) y := by
  unfold stripAt
  rw [List.take_add_one, h, List.foldl_append]; rfl
theorem escFrom_len : ∀ (l : List Nat) (i : Nat) (e : Bool), (escFrom l i e).length ≤ l.length + 1
  | [], i, e => by cases e <;> simp [escFrom]
  | c :: r, i, true => by
    rw [escFrom_nt, List.length_cons]
    have := escFrom_len r (i + 1) false
    simp only [List.length_cons]; walk_at "om"
  | c :: r, i, false => by
    by_cases h : c = 92
    · subst h
      rw [escFrom_92]
      have := escFrom_len r (i + 1) true
      simp only [List.length_cons]; walk_at "om"
    · rw [escFrom_ne h, List.length_cons]
      have := escFrom_len r (i + 1) false
      simp only [List.length_cons]; walk_at "om"
theorem escOf_len (x : Str) : (escOf x).length ≤ x.length + 1 := by
  have := escFrom_len x.cps.toList 0 false
  simpa [escOf, Str.length] using this
theorem strsAre_append : ∀ {vs ws : List Value} {xs ys : List Str}, StrsAre vs xs → StrsAre ws ys → StrsAre (vs ++ ws) (xs ++ ys)
  | _, _, _, _, .nil, h => h
  | _, _, _, _, .cons y t r, h => .cons y t (strsAre_append r h)
theorem strsAre_len : ∀ {vs : List Value} {xs : List Str}, StrsAre vs xs → vs.length = xs.length
  | _, _, .nil => rfl
  | _, _, .cons _ _ r => congrArg (· + 1) (strsAre_len r)
theorem sum_le {B : Nat} : ∀ {l : List Str}, (∀ y ∈ l, y.length ≤ B) → (l.map (·.length)).sum ≤ l.length * B
  | [], _ => Nat.zero_le _
  | y :: r, h => by
    have h1 := h y (.head _)
    have h2 := sum_le (l := r) fun z hz => h z (.tail _ hz)
    simp only [List.map_cons, List.sum_cons, List.length_cons, Nat.succ_mul]
    walk_at "om"
theorem strip_bound {x : Str} : ∀ i, (stripAt x i).2.2.length ≤ i ∧ ∀ y ∈ (stripAt x i).2.2, y.length ≤ x.length
  | 0 => ⟨Nat.le_refl _, fun _ h => nomatch h⟩
  | i + 1 => by
    obtain ⟨h1, h2⟩ := strip_bound (x := x) i
    cases hy : (escOf x)[i]? with
    | none =>
      have : stripAt x (i + 1) = stripAt x i := by unfold stripAt; rw [List.take_add_one, hy]; simp
      rw [this]; exact ⟨Nat.le_succ_of_le h1, h2⟩
    | some y =>
      rw [stripAt_succ hy]
      unfold stripStep
      split
      · split
        · exact ⟨Nat.le_succ_of_le h1, h2⟩
        · dsimp only
          split
          · exact ⟨Nat.le_succ_of_le h1, h2⟩
          · refine ⟨by simp only [List.length_append, List.length_cons, List.length_nil]; walk_at "om", fun z hz => ?_⟩
            rcases List.mem_append.mp hz with hz | hz
            · exact h2 z hz
            · rw [List.mem_singleton.mp hz]; exact Txt.slice_le _ _ _
      · exact ⟨Nat.le_succ_of_le h1, h2⟩
structure StS where
  st : Int
  ts : Tok
  op : Option (Int × Tok)
  vs : List Value
  n : Nat
noncomputable def optV : Option (Int × Tok) → Value
  | none => .none
  | some o => .int o.1 o.2
noncomputable def StOk (x : Str) (i : Nat) (c : StS) : Prop := c.st = (stripAt x i).1 ∧ c.op.map (·.1) = (stripAt x i).2.1 ∧ StrsAre c.vs (stripAt x i).2.2
set_option maxHeartbeats 8000000 in
theorem strip_ {w : World} {x : Str} {t : Tok} (hx : x.length ≤ 100) :
    GivesG 400 w 35 [.str x t] (fun _ => True) (fun v _ _ => ∃ tk, v = .str (stripOf x) tk) := by
  intro mg mb mean base outer d u gs s R C hd hu hpre hbare h
  have C0 := C
  obtain ⟨X, T, B⟩ := C
  revert X
  k_fill
  intro X
  refine' enter_def X T.nolimit ?k6 ?k7 ?k8 ?k9 ?kB ?_ ?c2 ?c3 ?c4 ?c5
  case k6 => k_is
  case k7 => k_is
  case k8 => simp only [recursionLimit]; walk_at "om"
  case k9 => exact BindsTo.of_eq rfl
  case kB => exact locs rfl
  case c2 => rfl
  case c3 => rfl
  case c4 => rfl
  case c5 => decide
  intro L' h' F' N' X'
  dsimp only
  refine wpAny_noRaise ?_
  (k_fold; first | (refine letAE (fun A1 e1 => wpAny _ A1 (execs _ e1) _ _ _) ?_; intro A1 e1) | (refine letA (fun A1 => wpAny _ A1 _ _ _ _) ?_; intro A1) | skip)
  ((try (show wpAny _ _ _ _ _ _; k_fold)); k_steps)
  · have hq := (by assumption : (Builtin.Str.occurrences x (Str.ofString "\"") 0 x.length 1).isEmpty = true)
    exact h _ _ ⟨_, _, _, rfl, hbare⟩ F'.keep ⟨_, by unfold stripOf; rw [if_pos hq]⟩
  · have hq := (by assumption : (Builtin.Str.occurrences x (Str.ofString "\"") 0 x.length 1).isEmpty = false)
    refine wpAny_For ?_ (by intro _; rfl)
    ((try (show wpAny _ _ _ _ _ _; k_fold)); k_steps)
    rename_i lR hA l1 hR F2 N2
    refine wpAny_call (iter_call C0 F2 N2 (by walk_at "om") ?_)
    intro h3 tk3 a Lg g F3 N3 hgen hga hfr hLg hLgs haLg hG hgb
    ((try (show wpAny _ _ _ _ _ _; k_fold)); k_steps)
    refine wpAny_pyIter_gen hgen ?_
    have hl0 := (N2 (lR, _) (.head _)).1
    have hbg : AllBare (s.gens.push g) := hbare.push hgb
    have hgs : (s.gens.push g)[s.gens.size]? = some g := Array.getElem?_push_size
    have hLg' : hR.get? Lg = none := hLg
    have hga' : hR.get? a = none := hga
    obtain ⟨oL, _, _, hoL, _⟩ := F2.ns
    have hoL' : hR.get? L' = some oL := hoL
    refine for_gen (σ := StS) (fun c => [(lR, W.listOf c.vs.toArray c.n)]) (fun c => [(Str.ofString "start", .int c.st c.ts), (Str.ofString "open_pos", optV c.op), (Str.ofString "result", .ref lR), (Str.ofString "addr", .str x t)])
      (StOk x) [lR] rfl (by show d + 1 < recursionLimit; simp only [recursionLimit]; walk_at "om") T.nolimit hgen hgs hbg hG hfr F3 (c₀ := ⟨0, _, none, [], 0⟩) N3 ⟨rfl, rfl, rfl, rfl, trivial⟩ ⟨rfl, rfl, .nil⟩ (fun _ => rfl) ?_ ?_ haLg ?_ ?_ ?_ ?_
    · cases q : s.heap.get? a with
      | none => rfl
      | some o => rw [F2.keep _ o q] at hga'; cases hga'
    · exact ne_of_none_some hga' hoL'
    · exact Ne.symm (ne_of_none_some hLg' hoL')
    · intro b hb
      rw [List.mem_singleton.mp hb]
      exact ⟨Ne.symm (ne_of_none_some hga' hl0), Ne.symm (ne_of_none_some hLg' hl0)⟩
    · intro i p cs tp tc zz5 uu s₁ own hy hP hoff zz12 F4 N4
      obtain ⟨h4, tk4, gs4, rfl, hb4⟩ := zz12
      try (show wpAny _ _ _ _ _ _; k_fold)
      obtain ⟨st, ts, op, vs, n⟩ := zz5
      obtain ⟨q1, q2, q3⟩ := hP
      have hs := stripAt_succ hy
      dsimp only [kb, optV] at F4 N4 q1 q2 q3
      simp only [List.cons_append, List.nil_append] at N4
      have hz : vs.toArray.size ≤ sizeLine := by
        have h1 := strsAre_len q3
        have h2 := (strip_bound (x := x) i).1
        have h3 := escOf_len x
        have h4 := (List.getElem?_eq_some_iff.mp hy).1
        simp only [List.size_toArray]
        exact Nat.le_trans (show vs.length ≤ 101 by walk_at "om") (by decide)
      simp only [List.map_cons, List.map_nil] at hoff
      clear hG hfr hgen
      cases op with
      | none =>
        dsimp only [optV] at F4
        unfold stripStep at hs
        rw [← q2] at hs
        ((try (show wpAny _ _ _ _ _ _; k_fold)); k_steps)
        · have hc := (by assumption : (cs == Str.ofString "\"") = true)
          rw [if_pos hc] at hs
          refine ⟨⟨st, ts, some (p, tp), vs, n⟩, _, ⟨?_, ?_, ?_⟩, ⟨rfl, rfl, rfl, rfl, trivial⟩, by assumption, by assumption, ⟨_, _, rfl⟩, hoff⟩
          · rw [hs]; exact q1
          · rw [hs]; rfl
          · rw [hs]; exact q3
        · have hc := (by assumption : (cs == Str.ofString "\"") = false)
          rw [if_neg (by rw [hc]; exact Bool.false_ne_true)] at hs
          refine ⟨⟨st, ts, none, vs, n⟩, _, ⟨?_, ?_, ?_⟩, ⟨rfl, rfl, rfl, rfl, trivial⟩, by assumption, by assumption, ⟨_, _, rfl⟩, hoff⟩
          · rw [hs]; exact q1
          · rw [hs, ← q2]
          · rw [hs]; exact q3
      | some o =>
        dsimp only [optV] at F4
        unfold stripStep at hs
        rw [← q2] at hs
        dsimp only [Option.map] at hs
        ((try (show wpAny _ _ _ _ _ _; k_fold)); k_steps)
        · have hc := (by assumption : (cs == Str.ofString "\"") = true)
          have hne := (by assumption : st ≠ o.1)
          rw [if_pos hc, ← q1, if_neg hne] at hs
          rename_i tR hB tkB hC hD F5 N5
          refine ⟨⟨p + 1, _, none, vs ++ [.str (Txt.slice x (some st) (some o.1)) _], n + 1⟩, _, ⟨?_, ?_, ?_⟩, ⟨rfl, rfl, rfl, rfl, trivial⟩, F5, by (simp only [← List.push_toArray, List.cons_append, List.nil_append]; exact N5), ⟨_, _, rfl⟩, hoff⟩
          · rw [hs]
          · rw [hs]; rfl
          · rw [hs]; exact strsAre_append q3 (.cons _ _ .nil)
        · have hc := (by assumption : (cs == Str.ofString "\"") = true)
          have hne := (by assumption : st = o.1)
          rw [if_pos hc, ← q1, if_pos hne] at hs
          refine ⟨⟨p + 1, _, none, vs, n⟩, _, ⟨?_, ?_, ?_⟩, ⟨rfl, rfl, rfl, rfl, trivial⟩, by assumption, by assumption, ⟨_, _, rfl⟩, hoff⟩
          · rw [hs]
          · rw [hs]; rfl
          · rw [hs]; exact q3
        · have hc := (by assumption : (cs == Str.ofString "\"") = false)
          rw [if_neg (by rw [hc]; exact Bool.false_ne_true)] at hs
          refine ⟨⟨st, ts, some o, vs, n⟩, _, ⟨?_, ?_, ?_⟩, ⟨rfl, rfl, rfl, rfl, trivial⟩, by assumption, by assumption, ⟨_, _, rfl⟩, hoff⟩
          · rw [hs]; exact q1
          · rw [hs, ← q2]
          · rw [hs]; exact q3
    · intro zz0 m s₁ hP zz4 hk F4 N4
      obtain ⟨h4, tk4, gs4, rfl, hb4⟩ := zz4
      try (show wpAny _ _ _ _ _ _; k_fold)
      obtain ⟨st, ts, op, vs, n⟩ := zz0
      obtain ⟨q1, q2, q3⟩ := hP
      rw [← kb_eq hk] at F4
      dsimp only [kb] at F4 N4 q1 q2 q3
      have hb := strip_bound (x := x) (escOf x).length
      have hel := escOf_len x
      have hvl := strsAre_len q3
      have hz : vs.toArray.size ≤ sizeLine := by
        simp only [List.size_toArray]
        exact Nat.le_trans (show vs.length ≤ 101 by walk_at "om") (by decide)
      clear hG hfr hgen
      ((try (show wpAny _ _ _ _ _ _; k_fold)); k_steps)
      · have hc := (by assumption : st < (x.length : Int))
        rename_i hB tR kR hle hC F5 N5
        refine join_list ⟨_, (N5 _ (.head _)).1, rfl, _, rfl⟩ (ys := stripParts x) ?_ ?_ fun t' k => ?_
        · unfold stripParts
          dsimp only
          rw [← q1, if_pos hc]
          simp only [List.push_toArray, List.toList_toArray]
          exact strsAre_append q3 (.cons _ _ .nil)
        · unfold stripParts
          dsimp only
          rw [← q1, if_pos hc]
          have h1 := sum_le hb.2
          have h2 := Txt.slice_le x (some st) none
          simp only [List.map_append, List.sum_append, List.map_cons, List.map_nil, List.sum_cons, List.sum_nil, List.length_append, List.length_cons, List.length_nil]
          have h3 : (stripAt x (escOf x).length).2.2.length * x.length ≤ 101 * 100 := Nat.mul_le_mul (by walk_at "om") hx
          have h4 : (Str.ofString "").length = 0 := rfl
          rw [h4, Nat.mul_zero]
          walk_at "om"
        · ((try (show wpAny _ _ _ _ _ _; k_fold)); k_steps)
          exact h _ _ ⟨_, _, _, rfl, hb4⟩ F5.keep ⟨_, by unfold stripOf; rw [if_neg (by rw [hq]; exact Bool.false_ne_true)]⟩
      · have hc := (by assumption : ¬ st < (x.length : Int))
        refine join_list ⟨_, (N4 _ (.head _)).1, rfl, _, rfl⟩ (ys := stripParts x) ?_ ?_ fun t' k => ?_
        · unfold stripParts
          dsimp only
          rw [← q1, if_neg hc]
          exact q3
        · unfold stripParts
          dsimp only
          rw [← q1, if_neg hc]
          have h1 := sum_le hb.2
          have h3 : (stripAt x (escOf x).length).2.2.length * x.length ≤ 101 * 100 := Nat.mul_le_mul (by walk_at "om") hx
          have h4 : (Str.ofString "").length = 0 := rfl
          rw [h4, Nat.mul_zero]
          walk_at "om"
        · ((try (show wpAny _ _ _ _ _ _; k_fold)); k_steps)
          exact h _ _ ⟨_, _, _, rfl, hb4⟩ F4.keep ⟨_, by unfold stripOf; rw [if_neg (by rw [hq]; exact Bool.false_ne_true)]⟩
end
theorem resetC6 : ∃ x : Nat, x = 0 := by
  first | (walk1; fail) | skip
  w_top off
  exact ⟨0, rfl⟩
section
local macro_rules | `(tactic| walk_at "exec For Tuple") => `(tactic| (refine stop ?_))
noncomputable def checkFrom : List (Int × Str) → Int → Bool
  | [], o => o == 0
  | y :: r, o => if y.2 == Str.ofString "(" then checkFrom r (o + 1) else if y.2 == Str.ofString ")" then (if o - 1 < 0 then false else checkFrom r (o - 1)) else checkFrom r o
noncomputable def checkOf (x : Str) : Bool := checkFrom (escOf (stripOf x)) 0
theorem checkFrom_drop {ys : List (Int × Str)} {i : Nat} {y : Int × Str} (h : ys[i]? = some y) (o : Int) :
    checkFrom (ys.drop i) o = if y.2 == Str.ofString "(" then checkFrom (ys.drop (i + 1)) (o + 1) else if y.2 == Str.ofString ")" then (if o - 1 < 0 then false else checkFrom (ys.drop (i + 1)) (o - 1)) else checkFrom (ys.drop (i + 1)) o := by
  obtain ⟨hlt, hge⟩ := List.getElem?_eq_some_iff.mp h
  rw [List.drop_eq_getElem_cons hlt, hge]; rfl
set_option maxHeartbeats 8000000 in
theorem check_ {w : World} {x : Str} {t : Tok} (hx : x.length ≤ 100) :
    GivesG 390 w 42 [.str x t] (fun _ => True) (fun v _ _ => v = .bool (checkOf x)) := by
  intro mg mb mean base outer d u gs s R C hd hu hpre hbare h
  have C0 := C
  obtain ⟨X, T, B⟩ := C
  revert X
  k_fill
  intro X
  refine' enter_def X T.nolimit ?k6 ?k7 ?k8 ?k9 ?kB ?_ ?c2 ?c3 ?c4 ?c5
  case k6 => k_is
  case k7 => k_is
  case k8 => simp only [recursionLimit]; walk_at "om"
  case k9 => exact BindsTo.of_eq rfl
  case kB => exact locs rfl
  case c2 => rfl
  case c3 => rfl
  case c4 => rfl
  case c5 => decide
  intro L' h' F' N' X'
  dsimp only
  refine wpAny_noRaise ?_
  (k_fold; first | (refine letAE (fun A1 e1 => wpAny _ A1 (execs _ e1) _ _ _) ?_; intro A1 e1) | (refine letA (fun A1 => wpAny _ A1 _ _ _ _) ?_; intro A1) | skip)
  ((try (show wpAny _ _ _ _ _ _; k_fold)); k_steps)
  refine call_givesG (strip_ hx) C0 F' N' (by walk_at "om") (by walk_at "om") trivial hbare ?_
  intro s1 v zz2 F1 N1 zz5 st1
  obtain ⟨h1, tk1, gs1, rfl, hb1⟩ := zz2
  obtain ⟨tk2, rfl⟩ := zz5
  try (show wpAny _ _ _ _ _ _; k_fold)
  ((try (show wpAny _ _ _ _ _ _; k_fold)); k_steps)
  refine wpAny_For ?_ (by intro _; rfl)
  ((try (show wpAny _ _ _ _ _ _; k_fold)); k_steps)
  rename_i hA hR F2 N2
  refine wpAny_call (iter_call C0 F2 N2 (by walk_at "om") ?_)
  intro h3 tk3 a Lg g F3 N3 hgen hga hfr hLg hLgs haLg hG hgb
  ((try (show wpAny _ _ _ _ _ _; k_fold)); k_steps)
  refine wpAny_pyIter_gen hgen ?_
  have hbg : AllBare (gs1.push g) := hb1.push hgb
  have hgs : (gs1.push g)[gs1.size]? = some g := Array.getElem?_push_size
  have hLg' : hR.get? Lg = none := hLg
  have hga' : hR.get? a = none := hga
  obtain ⟨oL, _, _, hoL, _⟩ := F2.ns
  have hoL' : hR.get? L' = some oL := hoL
  refine for_gen (σ := Int × Tok) (fun c => []) (fun c => [(Str.ofString "opens", .int c.1 c.2)])
    (fun i c => checkFrom (escOf (stripOf x)) 0 = checkFrom ((escOf (stripOf x)).drop i) c.1) [] rfl (by show d + 1 < recursionLimit; simp only [recursionLimit]; walk_at "om") T.nolimit hgen hgs hbg hG hfr F3 (c₀ := (0, _)) N3 ⟨rfl, trivial⟩ rfl (fun _ => rfl) ?_ ?_ haLg ?_ ?_ ?_ ?_
  · cases q : s.heap.get? a with
    | none => rfl
    | some o => rw [F2.keep _ o q] at hga'; cases hga'
  · exact ne_of_none_some hga' hoL'
  · exact Ne.symm (ne_of_none_some hLg' hoL')
  · exact fun b hb => nomatch hb
  · intro i p cs tp tc zz5 uu s₁ own hy hP hoff zz12 F4 N4
    obtain ⟨h4, tk4, gs4, rfl, hb4⟩ := zz12
    try (show wpAny _ _ _ _ _ _; k_fold)
    obtain ⟨o, to⟩ := zz5
    rw [checkFrom_drop hy] at hP
    dsimp only [kb] at F4 N4 hP
    clear hG hfr hgen
    ((try (show wpAny _ _ _ _ _ _; k_fold)); k_steps)
    · have hc := (by assumption : (cs == Str.ofString "(") = true)
      rw [if_pos hc] at hP
      exact ⟨(o + 1, _), _, hP, ⟨rfl, trivial⟩, by assumption, by assumption, ⟨_, _, rfl⟩, fun _ _ _ h => nomatch h⟩
    · have hc := (by assumption : (cs == Str.ofString "(") = false)
      have hc2 := (by assumption : (cs == Str.ofString ")") = true)
      have hlt := (by assumption : o - 1 < 0)
      rw [if_neg (by rw [hc]; exact Bool.false_ne_true), if_pos hc2, if_pos hlt] at hP
      have F5 := (by assumption : Fr s.heap L' _ (upd _ (Str.ofString "opens") (Value.int (o - 1) _)))
      exact h _ _ ⟨_, _, _, rfl, hb4⟩ F5.keep (by unfold checkOf; rw [hP])
    · have hc := (by assumption : (cs == Str.ofString "(") = false)
      have hc2 := (by assumption : (cs == Str.ofString ")") = true)
      have hlt := (by assumption : ¬ o - 1 < 0)
      rw [if_neg (by rw [hc]; exact Bool.false_ne_true), if_pos hc2, if_neg hlt] at hP
      exact ⟨(o - 1, _), _, hP, ⟨rfl, trivial⟩, by assumption, by assumption, ⟨_, _, rfl⟩, fun _ _ _ h => nomatch h⟩
    · have hc := (by assumption : (cs == Str.ofString "(") = false)
      have hc2 := (by assumption : (cs == Str.ofString ")") = false)
      rw [if_neg (by rw [hc]; exact Bool.false_ne_true), if_neg (by rw [hc2]; exact Bool.false_ne_true)] at hP
      exact ⟨(o, to), _, hP, ⟨rfl, trivial⟩, by assumption, by assumption, ⟨_, _, rfl⟩, fun _ _ _ h => nomatch h⟩
  · intro zz0 m s₁ hP zz4 hk F4 N4
    obtain ⟨h4, tk4, gs4, rfl, hb4⟩ := zz4
    try (show wpAny _ _ _ _ _ _; k_fold)
    obtain ⟨o, to⟩ := zz0
    rw [← kb_eq hk] at F4
    rw [List.drop_length] at hP
    dsimp only [kb] at F4 N4 hP
    clear hG hfr hgen
    ((try (show wpAny _ _ _ _ _ _; k_fold)); k_steps)
    exact h _ _ ⟨_, _, _, rfl, hb4⟩ F4.keep (by unfold checkOf; rw [hP]; rfl)
end
theorem resetC7a : ∃ x : Nat, x = 0 := by
  first | (walk1; fail) | skip
  w_top off
  exact ⟨0, rfl⟩
section
noncomputable def ItAt (o : Obj) (b : Array UInt8) (t : Tok) (i : Nat) : Prop := o.cls = .type "bytes_iterator" ∧ o.data = .fields #[.bytes b t, .int i 0]
section
variable {prog : Program} {w : World} {A : Around} {E : Value → Shared → Prop} {s : Shared} {h₀ : Heap} {L : Addr} {m : Str → Option Value} {news : List (Addr × Obj)} {it : Addr} {io : Obj} {b : Array UInt8} {t : Tok} {i : Nat}
theorem news_but {h' : Heap} (N : News h₀ L s.heap ((it, io) :: news)) (hnd : ∀ q ∈ news, q.1 ≠ it) (hs : Heap.SameBut it s.heap h') : News h₀ L h' news := fun q hq =>
  ⟨(hs.2 q.1 (hnd q hq)).trans (N q (.tail _ hq)).1, (N q (.tail _ hq)).2⟩
theorem nextK {c : UInt8} {Q : Value → Shared → Prop} (F : Fr h₀ L s.heap m) (N : News h₀ L s.heap ((it, io) :: news)) (hnd : ∀ q ∈ news, q.1 ≠ it) (hi : ItAt io b t i) (hx : b[i]? = some c)
    (h : ∀ h' io', Fr h₀ L h' m → News h₀ L h' ((it, io') :: news) → ItAt io' b t (i + 1) → Q (.int (c.toNat : Int) s.toks) { s with heap := h', toks := s.toks + 1 }) :
    wpAny (model prog w) A (call (.builtin "next") [.ref it]) Q E s := by
  have hm := N (it, io) (.head _)
  have hT : s.TypeIs (.ref it) "bytes_iterator" := ⟨io, hm.1, hi.1⟩
  refine call_function_entry (by decide +kernel) (by decide +kernel) kdk_entry_next (kdk_args_next _) ?_
  unfold Builtin.«next»
  refine wpAny_bind (m := someArgs "next" 1 2 _) (wpAny_of_eq (a := [Value.ref it]) (by first | rfl | kernel_rfl!) ?_)
  dsimp only
  refine wpAny_bind (wpAny_specialOf (name := Str.ofString "__next__") hT KBw.slot_next.lookup ?_)
  refine wpAny_ite_split (fun hab => absurd hab (by decide)) (fun _ => ?_)
  refine wpAny_bind (wpAny_callSpecial?_slot (name := Str.ofString "__next__") hT KBw.slot_next (wpAny_call_entry KBw.slot_next hT KBw.entry_next ?_ (KBw.args_next _)))
  show wpAny _ _ (field (.ref it) 0 >>= _) _ _ s
  refine wpAny_bind (wpAny_field hm.1 hi.2 (x := .bytes b t) rfl ?_)
  show wpAny _ _ (if (Value.bytes b t == Value.none) = true then _ else _) _ _ s
  rw [if_neg (show ¬ ((Value.bytes b t == Value.none) = true) from Bool.false_ne_true)]
  show wpAny _ _ (field (.ref it) 1 >>= _) _ _ s
  refine wpAny_bind (wpAny_field hm.1 hi.2 (x := .int i 0) rfl ?_)
  refine wpAny_bind (wpAny_of_eq (a := b) rfl ?_)
  simp only [Int.toNat_natCast, hx]
  refine wpAny_bind (wpAny_setField hm.1 hi.2 (by simp) (wpAny_bind (wpAny_mkInt (wpAny_pure ⟨_, rfl, wpAny_pure ⟨_, rfl, ?_⟩⟩))))
  have hs : Heap.SameBut it s.heap (s.heap.update it (Obj.mapFields (·.setIfInBounds 1 (rawInt ((i : Int) + 1))))) := Heap.SameBut.update ..
  refine h _ (Obj.mapFields (·.setIfInBounds 1 (rawInt ((i : Int) + 1))) io) (F.change hs hm.2.1 hm.2.2) (fun q hq => ?_) ⟨(Obj.cls_mapFields ..).trans hi.1, by rw [Obj.data_mapFields hi.2]; simp [rawInt]⟩
  rcases List.mem_cons.mp hq with rfl | hq
  · exact ⟨Heap.get?_update_self _ hm.1 (Obj.isFreed_of_fields (Obj.data_mapFields hi.2 _)), hm.2⟩
  · exact news_but N hnd hs q hq
theorem stopK {Q : Value → Shared → Prop} (hh : A.handled = none) (F : Fr h₀ L s.heap m) (N : News h₀ L s.heap ((it, io) :: news)) (hnd : ∀ q ∈ news, q.1 ≠ it) (hi : ItAt io b t i) (hx : b[i]? = none)
    (h : ∀ h₁ h' e, Fr h₀ L h₁ m → News h₀ L h₁ news → Heap.MadeExc h₁ h' e "StopIteration" [] → E (.ref e) { s with heap := h' }) :
    wpAny (model prog w) A (call (.builtin "next") [.ref it]) Q E s := by
  have hm := N (it, io) (.head _)
  have hT : s.TypeIs (.ref it) "bytes_iterator" := ⟨io, hm.1, hi.1⟩
  refine call_function_entry (by decide +kernel) (by decide +kernel) kdk_entry_next (kdk_args_next _) ?_
  unfold Builtin.«next»
  refine wpAny_bind (m := someArgs "next" 1 2 _) (wpAny_of_eq (a := [Value.ref it]) (by first | rfl | kernel_rfl!) ?_)
  dsimp only
  refine wpAny_bind (wpAny_specialOf (name := Str.ofString "__next__") hT KBw.slot_next.lookup ?_)
  refine wpAny_ite_split (fun hab => absurd hab (by decide)) (fun _ => ?_)
  refine wpAny_bind (wpAny_callSpecial?_slot (name := Str.ofString "__next__") hT KBw.slot_next (wpAny_call_entry KBw.slot_next hT KBw.entry_next ?_ (KBw.args_next _)))
  show wpAny _ _ (field (.ref it) 0 >>= _) _ _ s
  refine wpAny_bind (wpAny_field hm.1 hi.2 (x := .bytes b t) rfl ?_)
  show wpAny _ _ (if (Value.bytes b t == Value.none) = true then _ else _) _ _ s
  rw [if_neg (show ¬ ((Value.bytes b t == Value.none) = true) from Bool.false_ne_true)]
  show wpAny _ _ (field (.ref it) 1 >>= _) _ _ s
  refine wpAny_bind (wpAny_field hm.1 hi.2 (x := .int i 0) rfl ?_)
  refine wpAny_bind (wpAny_of_eq (a := b) rfl ?_)
  simp only [Int.toNat_natCast, hx]
  refine wpAny_bind (wpAny_rule (wpAny_bind (wpAny_setField hm.1 hi.2 (by simp) ?_)))
  show wpAny _ _ (newExc (.type "StopIteration") [] >>= _) _ _ _
  refine wpAny_bind ?_
  simp only [newExc, newTuple]
  refine wpAny_bind (wpAny_newObj_type ?_ (by size_fits))
  refine wpAny_bind (m := firstArgMember _ _) (wpAny_of_eq (a := Value.none) (by first | rfl | (simp only [firstArgMember]; rfl)) ?_)
  refine wpAny_newObj_type ?_ (by size_fits)
  simp only [raiseNew]
  refine wpAny_bind (wpAny_handled ?_)
  first | rw [show A.in1.in1.handled = none from hh] | rw [show A.in1.handled = none from hh] | rw [hh]
  refine wpAny_bind (wpAny_pure (wpAny_throw ?_))
  have hs : Heap.SameBut it s.heap (s.heap.update it (Obj.mapFields (·.setIfInBounds 0 Value.none))) := Heap.SameBut.update ..
  refine h _ _ _ (F.change hs hm.2.1 hm.2.2) (news_but N hnd hs) ⟨fun b o hb => Heap.get?_push_of_some _ (Heap.get?_push_of_some _ hb), Heap.get?_none_of_le (by rw [Heap.size_push]; exact Nat.le_succ _), _, Heap.get?_push_size _ rfl, Heap.get?_none_of_le (Nat.le_refl _), ?_⟩
  exact Heap.get?_push_of_some _ (Heap.get?_push_size _ rfl)
end
end
theorem resetC7b : ∃ x : Nat, x = 0 := by
  first | (walk1; fail) | skip
  w_top off
  exact ⟨0, rfl⟩
section
local macro_rules | `(tactic| walk_at "call builtin:next") => `(tactic| (refine stop ?_))
noncomputable def contN (n v : Int) (more : Int → List Int → Option (Int × List Int)) (r : List Int) : Option (Int × List Int) := if Builtin.bitAnd n 64 ≠ 0 then more v r else some (v, r)
noncomputable def moreN : Int → List Int → Option (Int × List Int)
  | _, [] => none
  | v, n :: r => if Builtin.bitAnd n 64 ≠ 0 then moreN (v * 64 + n % 64) r else some (v * 64 + n % 64, r)
theorem moreN_cons (v n : Int) (r : List Int) : moreN v (n :: r) = contN n (v * 64 + n % 64) moreN r := rfl
theorem drop_byte {b : Array UInt8} {i : Nat} {c : UInt8} (h : b[i]? = some c) : (KBw.bInts b).drop i = (c.toNat : Int) :: (KBw.bInts b).drop (i + 1) := by
  have h2 := KBw.ints_get h
  obtain ⟨hlt, hge⟩ := List.getElem?_eq_some_iff.mp h2
  rw [List.drop_eq_getElem_cons hlt, hge]
theorem drop_end {b : Array UInt8} {i : Nat} (h : b[i]? = none) : (KBw.bInts b).drop i = [] := by
  refine List.drop_eq_nil_of_le ?_
  rw [KBw.ints_length]
  exact Array.getElem?_eq_none_iff.mp h
theorem land63 (c : Nat) : (((c : Int).toNat &&& Int.toNat 63 : Nat) : Int) = (c : Int) % 64 := by
  have h := Nat.and_two_pow_sub_one_eq_mod c 6
  have e1 : (c : Int).toNat = c := by walk_at "om"
  rw [e1, show Int.toNat 63 = 2 ^ 6 - 1 from rfl, h]; rfl
theorem or_add (v n : Int) (hv : 0 ≤ v) : Builtin.bitOr (v * 2 ^ Int.toNat 6) (Builtin.bitAnd n 63) = v * 64 + n % 64 := by
  rw [bitAnd_m6, bitOr_and]
  obtain ⟨a, rfl⟩ := Int.eq_ofNat_of_zero_le hv
  obtain ⟨c, hc⟩ := Int.eq_ofNat_of_zero_le (Int.emod_nonneg n (by decide : (64 : Int) ≠ 0))
  have hlt : c < 64 := by have := Int.emod_lt_of_pos n (by decide : (0 : Int) < 64); walk_at "om"
  rw [hc, show (Int.toNat 6) = 6 from rfl, show (2 : Int) ^ 6 = 64 from rfl]
  rw [bitAnd_pp (by walk_at "om") (by walk_at "om")]
  have e1 : ((a : Int) * 64).toNat = 2 ^ 6 * a := by walk_at "om"
  have e2 : ((c : Int)).toNat = c := by walk_at "om"
  rw [e1, e2]
  have e3 : 2 ^ 6 * a &&& c = 0 := by
    apply Nat.eq_of_testBit_eq
    intro j
    rw [Nat.testBit_and, Nat.testBit_two_pow_mul, Nat.zero_testBit]
    by_cases hj : 6 ≤ j
    · rw [Nat.testBit_lt_two_pow (Nat.lt_of_lt_of_le hlt (Nat.pow_le_pow_right (n := 2) (by decide) hj)), Bool.and_false]
    · simp [hj]
  rw [e3]
  walk_at "om"
set_option maxHeartbeats 8000000 in
theorem parse_ {w : World} {it : Addr} {b : Array UInt8} {t : Tok} {mg mb : Str → Option Value} {mean : ExcName → Option Value} {base g : Heap} {outer : List Env} {d u : Nat} {gs : Option (List Code)} {s : Shared} {R : Result → Shared → Prop} {news : List (Addr × Obj)} {io : Obj} {i : Nat}
    (C : Ctx w mg mb mean base outer d u gs g) (hd : d ≤ 390) (hu : u ≤ 1560) (st : g.StaysIn s.heap) (hsz : g.objs.size ≤ s.heap.objs.size)
    (hN : ∀ q ∈ (it, io) :: news, s.heap.get? q.1 = some q.2 ∧ g.get? q.1 = none) (hnd : ∀ q ∈ news, q.1 ≠ it) (hi : ItAt io b t i) (hb : b.size ≤ 9)
    (hret : ∀ h' tk io' j v tv, moreN 0 ((KBw.bInts b).drop i) = some (v, (KBw.bInts b).drop j) → i < j → j ≤ b.size → g.StaysIn h' → (∀ q ∈ (it, io') :: news, h'.get? q.1 = some q.2) → ItAt io' b t j → R (.ok (.ret (.int v tv))) { s with heap := h', toks := tk })
    (hraise : ∀ h' tk e tu, moreN 0 ((KBw.bInts b).drop i) = none → RaisedK base outer e (.type "StopIteration") tu [] news h' → g.UpToSlots h' → R (.error (.ref e)) { s with heap := h', toks := tk }) :
    codeAny (model PySem.Challenge.rw_sn0039_01.row.prog w) ⟨none, d, some outer, gs, u⟩ (.call (.ref 21) ⟨[.ref it], []⟩) R s := by
  have T0 := C.T.keeps st
  have C0 := C
  obtain ⟨X, T, B⟩ := C
  revert X
  k_fill
  intro X
  refine' enter_def (X.keeps st) T0.nolimit ?k6 ?k7 ?k8 ?k9 ?kB ?_ ?c2 ?c3 ?c4 ?c5
  case k6 => k_is
  case k7 => k_is
  case k8 => simp only [recursionLimit]; walk_at "om"
  case k9 => exact BindsTo.of_eq rfl
  case kB => exact locs rfl
  case c2 => rfl
  case c3 => rfl
  case c4 => rfl
  case c5 => decide
  intro L' h' F0 N0 X'
  dsimp only
  have F' : Fr g L' h' _ := ⟨F0.ns, fun b o e => F0.keep b o (st b o e), Nat.le_trans hsz F0.above⟩
  have N' : News g L' h' ((it, io) :: news) := fun q hq => ⟨F0.keep _ _ (hN q hq).1, Nat.ne_of_lt (Nat.lt_of_lt_of_le (Heap.lt_size (hN q hq).1) F0.above), (hN q hq).2⟩
  clear F0 N0 X' T0
  show wpAny _ _ _ _ _ _
  (k_fold; first | (refine letAE (fun A1 e1 => wpAny _ A1 (execs _ e1) _ _ _) ?_; intro A1 e1) | (refine letA (fun A1 => wpAny _ A1 _ _ _ _) ?_; intro A1) | skip)
  ((try (show wpAny _ _ _ _ _ _; k_fold)); k_steps)
  cases hx : b[i]? with
  | none =>
    refine stopK rfl F' N' hnd hi hx ?_
    intro h1 h2 e F1 N1 hm
    (try dsimp only)
    exact leave_raiseK B (Heap.MadeExc.of hm) F1 N1 fun h3 tu RK U => hraise _ _ _ _ (by rw [drop_end hx]; rfl) RK U
  | some c =>
  refine nextK F' N' hnd hi hx ?_
  intro h1 io1 F1 N1 hi1
  ((try (show wpAny _ _ _ _ _ _; k_fold)); k_steps)
  rename_i h2 F2 N2
  refine while_inv (σ := Nat × Obj × Int × Tok × Int × Tok) (fun c => (it, c.2.1) :: news) (fun c => [(Str.ofString "iterator", .ref it), (Str.ofString "b", .int c.2.2.1 c.2.2.2.1), (Str.ofString "val", .int c.2.2.2.2.1 c.2.2.2.2.2)])
    (fun c => ItAt c.2.1 b t c.1 ∧ moreN 0 ((KBw.bInts b).drop i) = contN c.2.2.1 c.2.2.2.2.1 moreN ((KBw.bInts b).drop c.1) ∧ i < c.1 ∧ c.1 ≤ b.size ∧ 0 ≤ c.2.2.2.2.1 ∧ c.2.2.2.2.1 < ((64 ^ c.1 : Nat) : Int)) (fun c => b.size - c.1) (Only s) (c₀ := (i + 1, io1, _, _, _, _)) F2 N2 ⟨rfl, rfl, rfl, trivial⟩ ⟨hi1, ?_, Nat.lt_succ_self i, ?_, ?_, ?_⟩ ⟨_, _, rfl⟩ ?_
  · dsimp only
    rw [drop_byte hx, moreN_cons, Int.zero_mul, Int.zero_add]
    exact congrArg (fun z => contN _ z moreN _) (land63 c.toNat).symm
  · exact (Array.getElem?_eq_some_iff.mp hx).1
  · exact le_of_le_of_eq (Int.emod_nonneg _ (by decide)) (land63 c.toNat).symm
  · refine lt_of_eq_of_lt (land63 c.toNat) ?_
    have h1 := Int.emod_lt_of_pos (c.toNat : Int) (by decide : (0 : Int) < 64)
    have h2 : 1 ≤ 64 ^ i := Nat.pow_le_pow_right (n := 64) (by decide) (Nat.zero_le i)
    show _ < ((64 ^ (i + 1) : Nat) : Int)
    rw [Nat.pow_succ]; walk_at "om"
  intro zz0 m s₁ hP zz4 F4 N4
  obtain ⟨h4, tk4, rfl⟩ := zz4
  try (show wpAny _ _ _ _ _ _; k_fold)
  obtain ⟨j, ioj, n, tn, v, tv⟩ := zz0
  dsimp only [kb] at F4 N4 hP
  obtain ⟨hit, hmo, hij, hjb, hv0, hv1⟩ := hP
  have hv2 : v.natAbs < 2 ^ 64 := by
    have : 64 ^ j ≤ 64 ^ 9 := Nat.pow_le_pow_right (n := 64) (by decide) (by walk_at "om")
    have e : 64 ^ 9 = 18014398509481984 := by decide
    walk_at "om"
  ((try (show wpAny _ _ _ _ _ _; k_fold)); k_steps)
  · rename_i h5 F5 N5
    cases hx5 : b[j]? with
    | none =>
      refine stopK rfl F5 N5 hnd hit hx5 ?_
      intro h6 h7 e F6 N6 hm
      (try dsimp only)
      refine leave_raiseK B (Heap.MadeExc.of hm) F6 N6 fun h3 tu RK U => hraise _ _ _ _ ?_ RK U
      rw [hmo, drop_end hx5]; exact if_pos (by assumption)
    | some c5 =>
    refine nextK F5 N5 hnd hit hx5 ?_
    intro h6 io6 F6 N6 hi6
    have hmo5 : moreN 0 ((KBw.bInts b).drop i) = contN (c5.toNat : Int) (v * 64 + (c5.toNat : Int) % 64) moreN ((KBw.bInts b).drop (j + 1)) := by
      rw [hmo, drop_byte hx5]; exact if_pos (by assumption)
    have hj5 := (Array.getElem?_eq_some_iff.mp hx5).1
    ((try (show wpAny _ _ _ _ _ _; k_fold)); k_steps)
    have e5 := or_add v (c5.toNat : Int) hv0
    have hlo := Int.emod_nonneg (c5.toNat : Int) (by decide : (64 : Int) ≠ 0)
    have hhi := Int.emod_lt_of_pos (c5.toNat : Int) (by decide : (0 : Int) < 64)
    refine ⟨(j + 1, io6, _, _, _, _), _, ⟨⟨hi6, hmo5.trans (congrArg (fun z => contN _ z moreN _) e5.symm), Nat.lt_succ_of_lt hij, hj5, le_of_le_of_eq (by walk_at "om") e5.symm, lt_of_eq_of_lt e5 ?_⟩, ?_⟩, ⟨rfl, rfl, rfl, trivial⟩, by assumption, news_pick (by assumption) (fun p hp => by simpa using hp), ⟨_, _, rfl⟩, fun _ h => nomatch h⟩
    · show _ < ((64 ^ (j + 1) : Nat) : Int)
      rw [Nat.pow_succ]; walk_at "om"
    · show b.size - (j + 1) < b.size - j
      walk_at "om"
  · refine hret _ _ ioj j v tv ?_ hij hjb F4.keep (fun q hq => (N4 q hq).1) hit
    rw [hmo]; exact if_neg (fun h => h (by assumption))
end
theorem resetC7c : ∃ x : Nat, x = 0 := by
  first | (walk1; fail) | skip
  w_top off
  exact ⟨0, rfl⟩
section
local macro_rules | `(tactic| walk_at "call builtin:iter") => `(tactic| (refine stop ?_))
local macro_rules | `(tactic| k_all) => `(tactic| assumption)
local macro_rules | `(tactic| walk_at "exec Try") => `(tactic| (refine stop ?_))
/-- the numbers that the octets spell -/
noncomputable def readL : Int → List Int → List Int
  | _, [] => []
  | v, n :: r => if Builtin.bitAnd n 64 ≠ 0 then readL (v * 64 + n % 64) r else (v * 64 + n % 64) :: readL 0 r
theorem readL_cons (v n : Int) (r : List Int) : readL v (n :: r) = if Builtin.bitAnd n 64 ≠ 0 then readL (v * 64 + n % 64) r else (v * 64 + n % 64) :: readL 0 r := rfl
theorem readL_none : ∀ {l : List Int} {v : Int}, moreN v l = none → readL v l = []
  | [], _, _ => rfl
  | n :: r, v, h => by
    unfold moreN at h
    unfold readL
    split at h
    · rename_i hc; rw [if_pos hc]; exact readL_none h
    · cases h
theorem readL_some : ∀ {l r : List Int} {v x : Int}, moreN v l = some (x, r) → readL v l = x :: readL 0 r
  | [], _, _, _, h => by cases h
  | n :: l, r, v, x, h => by
    rw [moreN_cons] at h
    unfold contN at h
    rw [readL_cons]
    split at h
    · rename_i hc; rw [if_pos hc]; exact readL_some h
    · rename_i hc; rw [if_neg hc]; cases h; rfl
theorem hide_all {h₀ h : Heap} {L : Addr} {m : Str → Option Value} {news : List (Addr × Obj)} (F : Fr h₀ L h m) (N : News h₀ L h news) :
    ∃ g, Fr h₀ L g m ∧ g.StaysIn h ∧ (∀ q ∈ news, g.get? q.1 = none) ∧ g.objs.size ≤ h.objs.size := by
  refine ⟨hideAll h (news.map (·.1)), ⟨F.ns.at' fun o e => hideAll_get _ e fun hm => ?_, fun b o e => hideAll_get _ (F.keep b o e) fun hm => ?_, F.above⟩, fun b o e => of_hideAll _ e, fun q hq => hideAll_none _ (List.mem_map_of_mem hq), Nat.le_of_eq (hideAll_size _ _)⟩
  · obtain ⟨q, hq, e⟩ := List.mem_map.mp hm
    exact (N q hq).2.1 e
  · obtain ⟨q, hq, rfl⟩ := List.mem_map.mp hm
    rw [(N q hq).2.2] at e; cases e
section
variable {prog : Program} {w : World} {A₀ : Around} {E : Value → Shared → Prop} {s' : Shared} {h₀ h : Heap} {outer : List Env} {L a e t : Addr} {m : Str → Option Value} {name : Str} {scope : Scope} {cd : Value}
  {vs : List Value} {b₀ : Stmt} {suite : List Stmt} {pos np : Pos} {rest : List ExceptHandler} {Q : Flow → Shared → Prop} {news : List (Addr × Obj)}
  {p : Program} {loose : List Str} {mg mb : Str → Option Value} {x : Str} {X T' : String}
/-- caught in a frame that is not the first -/
theorem caught_in (hst : A₀.frames = some outer) (F : Fr h₀ L h m) (hsm : h.UpToSlots s'.heap) (R : RaisedK h₀ (envOf name scope L a cd :: outer) e (.type X) t vs news s'.heap)
    (T : TopRead p loose mg mb h₀) (hv : bootBuiltins x = some (.type T'))
    (hexc : isSubtype (.type T') (.type "BaseException") = pure true) (hnt : isSubtype (.type ((Manifest.find? T').elim "type" fun y => y.metatype)) (.type "tuple") = pure false) (hsub : isSubtype (.type X) (.type T') = pure true)
    (k : ∀ h', Fr h₀ L h' m → News h₀ L h' news → h.UpToSlots h' → 
      wpAny (model prog w) ((A₀.deeper (envOf name scope L a cd)).mark (some (.ref e))) (execs (b₀ :: suite) (envOf name scope L a cd)) Q E { s' with heap := h' })
    (h1 : x ∉ startupNames := by decide +kernel) (h2 : x ∉ loose := by decide +kernel) (h3 : x ∉ (recsOf p).map (·.name) := by decide +kernel) (h4 : x ∉ (litsOf p).map (·.1) := by decide +kernel) (h4c : x ∉ (clssOf p loose).map (·.name) := by decide +kernel) (hn : x ≠ "__name__" := by decide +kernel)
    (hk : scope.kind = .function := by rfl) (hx : (envOf name scope L a cd).kindOf x = some .globalImplicit := by rfl) (hd : (x == ("__debug__" : Str)) = false := by decide)
    (hE : PassesOwnAt (model prog w) ((A₀.deeper (envOf name scope L a cd)).mark (some (.ref e))) (A₀.deeper (envOf name scope L a cd)) (envOf name scope L a cd) E := by passes_own) :
    wpAny (model prog w) (A₀.deeper (envOf name scope L a cd)) (noteFrame (.ref e) (envOf name scope L a cd))
      (fun _ s₂ => wpAny (model prog w) (A₀.deeper (envOf name scope L a cd)) (setFlight (.ref e) none) (fun _ s₃ =>
        wpAny (model prog w) (A₀.deeper (envOf name scope L a cd)) (handleBy (.ref e) (envOf name scope L a cd) (.ExceptHandler (some (.Name x np)) none (b₀ :: suite) pos :: rest)) Q E s₃) E s₂) E s' := by
  obtain ⟨⟨B, hB, hl, hfl, hnew⟩, htup⟩ := R
  have hL : B.get? L = none := by
    obtain ⟨_, ⟨L', _, hf, hn', _⟩, _⟩ := hfl.2.2.1
    obtain rfl : L = L' := Option.some.inj hf
    exact hn'
  refine wpAny_looks_onW (Around.frames_deeper hst) rfl hfl fun g₁ y₁ u₁ => ?_
  refine wpAny_landsW y₁ fun g₂ y₂ u₂ => ?_
  have u := u₁.trans u₂
  have z := flyingW_base hB y₂
  obtain ⟨ob, hob, hobc⟩ := y₂.there
  refine wpAny_handleBy_builtin (X := X) (T := T') (b := true) hexc hnt hsub (ld_builtin_at (F.of_stays z.1 (hsm.trans u)) T.g (T.free x h1 h2 h3 h4 h4c) T.b ((T.builtins x hn).trans hv) ⟨rfl, ⟨ob, hob, hobc⟩, ?_⟩ hk hx hd)
  refine lands_againW y₂ fun g₃ y₃ u₃ => ?_
  have z₃ := flyingW_base hB y₃
  have v := (hsm.trans u).trans u₃
  exact wpAny_passesOwnAt hE (k g₃ (F.of_stays z₃.1 v) (fun q hq => ⟨y₃.1 _ _ (hl q hq).1, (fun e => by have := (hl q hq).1; rw [e, hL] at this; cases this), (hl q hq).2⟩) v)
end
theorem iterK {prog : Program} {w : World} {A : Around} {E : Value → Shared → Prop} {s : Shared} {h₀ : Heap} {L : Addr} {m : Str → Option Value} {news : List (Addr × Obj)} {b : Array UInt8} {t : Tok} {Q : Value → Shared → Prop} (F : Fr h₀ L s.heap m) (N : News h₀ L s.heap news)
    (h : ∀ I h' o, Fr h₀ L h' m → News h₀ L h' ((I, o) :: news) → (∀ p ∈ news, p.1 < I) → L < I → ItAt o b t 0 → Q (.ref I) { s with heap := h' }) : wpAny (model prog w) A (call (.builtin "iter") [.bytes b t]) Q E s := by
  refine call_function_entry (by decide +kernel) (by decide +kernel) kdk_entry_iter (kdk_args_iter _) ?_
  unfold Builtin.«iter»
  refine wpAny_bind (m := someArgs "iter" 1 2 _) (wpAny_of_eq (a := [Value.bytes b t]) (by first | rfl | kernel_rfl!) ?_)
  show wpAny _ _ (pyIter (.bytes b t) >>= _) _ _ _
  refine wpAny_bind (KBw.pyIter_bytes ?_)
  exact wpAny_pure ⟨_, rfl, h _ _ _ (F.push _) (News.push F N _ rfl) (fun q hq => Heap.lt_size (N q hq).1) F.ns.lt ⟨rfl, rfl⟩⟩
theorem call_parse {w : World} {it : Addr} {b : Array UInt8} {t : Tok} {mg mb : Str → Option Value} {mean : ExcName → Option Value} {base h₀ : Heap} {outer : List Env} {d u : Nat} {gs : Option (List Code)} {s : Shared} {E : Value → Shared → Prop} {Q : Value → Shared → Prop} {env : Env} {L : Addr} {m : Str → Option Value} {news : List (Addr × Obj)} {io : Obj} {i : Nat}
    (C : Ctx w mg mb mean base outer d u gs h₀) (F : Fr h₀ L s.heap m) (N : News h₀ L s.heap ((it, io) :: news)) (hnd : ∀ q ∈ news, q.1 ≠ it) (hi : ItAt io b t i) (hb : b.size ≤ 9) (hd : d + 1 ≤ 390) (hu : u + 3 ≤ 1560)
    (hQ : ∀ h' tk io' j v tv, moreN 0 ((KBw.bInts b).drop i) = some (v, (KBw.bInts b).drop j) → i < j → j ≤ b.size → Fr h₀ L h' m → News h₀ L h' ((it, io') :: news) → ItAt io' b t j → Q (.int v tv) { s with heap := h', toks := tk })
    (hE : ∀ g h' tk e tu, moreN 0 ((KBw.bInts b).drop i) = none → Fr h₀ L g m → RaisedK base (env :: outer) e (.type "StopIteration") tu [] news h' → g.UpToSlots h' → E (.ref e) { s with heap := h', toks := tk })
    (hf : env.frame = some L := by rfl) (hk : env.scope.kind = .function := by rfl) :
    wpAny (model PySem.Challenge.rw_sn0039_01.row.prog w) (Around.deeper ⟨none, d, some outer, gs, u⟩ env) (call (.ref 21) [.ref it]) Q E s := by
  obtain ⟨g, Fg, st, hg, hsz⟩ := hide_all F N
  refine wpAny_call ?_
  refine parse_ (C.push Fg hf hk) hd hu st hsz (fun q hq => ⟨(N q hq).1, hg q hq⟩) hnd hi hb ?_ ?_
  · intro h' tk io' j v tv e hij hj st' hN' hi'
    exact hQ h' tk io' j v tv e hij hj (fr_up Fg st') (fun q hq => ⟨hN' q hq, by
      rcases List.mem_cons.mp hq with rfl | hq
      · exact (N (it, io) (.head _)).2
      · exact (N q (.tail _ hq)).2⟩) hi'
  · intro h' tk e tu hm RK U
    exact hE g h' tk e tu hm Fg RK U
set_option maxHeartbeats 8000000 in
theorem law_read {w : World} {a : Addr} {vs : List Value} {ns : List Int} {na : Nat} (hi : IntsAre vs ns) (hl : ns.length ≤ 9) (hn : ∀ n ∈ ns, 0 ≤ n ∧ n < 256)
    {mg mb : Str → Option Value} {mean : ExcName → Option Value} {base g : Heap} {outer : List Env} {d u : Nat} {gs : Option (List Code)} {s : Shared} {R : Result → Shared → Prop} {news : List (Addr × Obj)}
    (C : Ctx w mg mb mean base outer d u gs g) (TB : Top VQ (looseW VQ [Str.ofString "EXACT_TOKEN_TYPES"]) mean mg mb base) (hd : d ≤ 380) (hu : u ≤ 1520) (st : g.StaysIn s.heap) (hsz : g.objs.size ≤ s.heap.objs.size) (hbs : base.objs.size ≤ s.heap.objs.size)
    (hN : ∀ q ∈ (a, W.listOf vs.toArray na) :: news, s.heap.get? q.1 = some q.2 ∧ g.get? q.1 = none)
    (h : ∀ h' tk D vs' n', base.StaysIn h' → g.UpToSlots h' → (∀ q ∈ (a, W.listOf vs.toArray na) :: news, h'.get? q.1 = some q.2) → h'.get? D = some (W.listOf vs'.toArray n') → s.heap.get? D = none → IntsAre vs' (readL 0 ns) → R (.ok (.ret (.ref D))) { s with heap := h', toks := tk }) :
    codeAny (model PySem.Challenge.rw_sn0039_01.row.prog w) ⟨none, d, some outer, gs, u⟩ (.call (.ref 94) ⟨[.ref a], []⟩) R s := by
  have T0 := C.T.keeps st
  have C0 := C
  obtain ⟨X, T, B⟩ := C
  revert X
  k_fill
  intro X
  refine' enter_def (X.keeps st) T0.nolimit ?k6 ?k7 ?k8 ?k9 ?kB ?_ ?c2 ?c3 ?c4 ?c5
  case k6 => k_is
  case k7 => k_is
  case k8 => simp only [recursionLimit]; walk_at "om"
  case k9 => exact BindsTo.of_eq rfl
  case kB => exact locs rfl
  case c2 => rfl
  case c3 => rfl
  case c4 => rfl
  case c5 => decide
  intro L' h' F0 N0 X'
  dsimp only
  have F' : Fr g L' h' _ := ⟨F0.ns, fun b o e => F0.keep b o (st b o e), Nat.le_trans hsz F0.above⟩
  have hsL : s.heap.objs.size ≤ L' := F0.above
  have N' : News g L' h' ((a, W.listOf vs.toArray na) :: news) := fun q hq => ⟨F0.keep _ _ (hN q hq).1, Nat.ne_of_lt (Nat.lt_of_lt_of_le (Heap.lt_size (hN q hq).1) F0.above), (hN q hq).2⟩
  clear F0 N0 X' T0
  have hvl : vs.length ≤ 9 := by rw [IntsAre.length hi]; exact hl
  have hvz : vs.toArray.size ≤ sizeLine := by simp only [List.size_toArray, sizeLine_eq]; walk_at "om"
  refine wpAny_noRaise ?_
  (k_fold; first | (refine letAE (fun A1 e1 => wpAny _ A1 (execs _ e1) _ _ _) ?_; intro A1 e1) | (refine letA (fun A1 => wpAny _ A1 _ _ _ _) ?_; intro A1) | skip)
  ((try (show wpAny _ _ _ _ _ _; k_fold)); k_steps)
  rename_i hA FA NA _ _
  refine iterK FA NA ?_
  intro it h1 io F1 N1 l1 lI hi1
  ((try (show wpAny _ _ _ _ _ _; k_fold)); k_steps)
  refine wpAny_Try_except ?_
  k_steps
  refine wpAny_For ?_ (by intro _; rfl)
  k_steps
  rename_i l hx1 lx hx2 Fx Nx hx3 tky t1 u1 v1 R2 F2 N2 keep2
  have eb : KBw.bInts (byteArr ns) = ns := KBa.ints_make (by assumption)
  have ebs : (byteArr ns).size = ns.length := byteArr_size ns
  have hnl : ∀ q ∈ news, q.1 ≠ it ∧ q.1 ≠ l := fun q hq => ⟨Nat.ne_of_lt (l1 q (.tail _ hq)), of_allLt lx.2.2 q hq⟩
  have hal : a ≠ l := Nat.ne_of_lt lx.2.1
  have hai : a ≠ it := Nat.ne_of_lt (l1 _ (.head _))
  have hil : it ≠ l := Nat.ne_of_lt lx.1
  have hLl : L' < l := Nat.lt_trans lI lx.1
  clear lx
  refine it_range (σ := Nat × Obj × List Value × Nat × List Int) (fun c => (it, c.2.1) :: (l, W.listOf c.2.2.1.toArray c.2.2.2.1) :: (a, W.listOf vs.toArray na) :: news) (fun _ => [(Str.ofString "sent", .ref it), (Str.ofString "numbers", .ref l)])
    (fun k c => ItAt c.2.1 (byteArr ns) _ c.1 ∧ IntsAre c.2.2.1 c.2.2.2.2 ∧ c.2.2.2.2 ++ readL 0 (ns.drop c.1) = readL 0 ns ∧ k ≤ c.1 ∧ c.1 ≤ ns.length ∧ c.2.2.1.length = k) (Only s) (ns.length + 1) rfl R2 (small_of (by walk_at "om") (by walk_at "om")) (by rw [size_of (by walk_at "om")]; walk_at "om") Only.step F2 (c₀ := (0, io, [], 0, []))
    (news_pick N2 fun p hp => by simp only [List.mem_cons] at hp ⊢; grind) ⟨rfl, rfl, trivial⟩ ⟨hi1, .nil, rfl, Nat.le_refl _, Nat.zero_le _, rfl⟩ ⟨_, _, rfl⟩ ?_ ?_
  · intro k tt zz2 uu s₁ own hk zz7 hoff zz9 F3 N3
    obtain ⟨h3, tk3, rfl⟩ := zz9
    try (show wpAny _ _ _ _ _ _; k_fold)
    obtain ⟨i, iok, vN, nN, xs⟩ := zz2
    obtain ⟨hit, hxs, hre, hki, hil2, hvk⟩ := zz7
    dsimp only [kb] at F3 N3 hit hxs hre hki hil2 hvk
    have hvz2 : vN.toArray.size ≤ sizeLine := by simp only [List.size_toArray, sizeLine_eq]; walk_at "om"
    have hoo : ∀ q ∈ own, q.1 ≠ it ∧ q.1 ≠ l := fun q hq => ⟨fun e => hoff q hq it (.head _) e, fun e => hoff q hq l (.tail _ (.head _)) e⟩
    ((try (show wpAny _ _ _ _ _ _; k_fold)); k_steps)
    refine call_parse C0 F3 N3 ?_ hit (by rw [ebs]; exact hl) (by walk_at "om") (by walk_at "om") ?_ ?_
    · intro q hq
      rcases List.mem_append.mp hq with hq | hq
      · rcases List.mem_cons.mp hq with rfl | hq
        · exact Ne.symm hil
        · rcases List.mem_cons.mp hq with rfl | hq
          · exact hai
          · exact (hnl q hq).1
      · exact (hoo q hq).1
    · intro h4 tk4 io4 j v tv he hij hj F4 N4 hi4
      rw [eb] at he
      have N5 : News g L' h4 ((it, io4) :: (l, W.listOf vN.toArray nN) :: (a, W.listOf vs.toArray na) :: (news ++ own)) := N4
      have hno : ∀ q ∈ (news ++ own), q.1 ≠ l := fun q hq => (List.mem_append.mp hq).elim (fun hq => (hnl q hq).2) fun hq => (hoo q hq).2
      have hal2 := neN hal
      have hil2' := neN hil
      clear N4
      ((try (show wpAny _ _ _ _ _ _; k_fold)); k_steps)
      have N6 := (by assumption : News g L' _ ((it, io4) :: (l, { cls := Value.type "list", data := Data.seq (vN.toArray.push (Value.int v tv)) (nN + 1) }) :: _))
      refine ⟨(j, io4, vN ++ [.int v tv], nN + 1, xs ++ [v]), _, ⟨hi4, IntsAre.append hxs (.cons _ _ .nil), ?_, by show k + 1 ≤ j; walk_at "om", by show j ≤ ns.length; walk_at "om", by simp [hvk]⟩, ⟨rfl, rfl, trivial⟩, by assumption, ?_, ⟨_, _, rfl⟩, hoff⟩
      · rw [List.append_assoc, List.singleton_append, ← readL_some he]; exact hre
      · have e1 : (vN ++ [Value.int v tv]).toArray = vN.toArray.push (Value.int v tv) := by simp
        dsimp only
        rw [e1]
        exact N6
    · intro g4 h4 tk4 e4 tu hm Fg RK U4
      rw [eb] at hm
      refine caught_in (T' := "StopIteration") (X := "StopIteration") rfl ⟨Fg.ns, fun b o e => Fg.keep b o (B.stays b o e), Nat.le_trans hbs hsL⟩ U4 RK (topRead_of TB) PyProof.Rows.Boot.«StopIteration» owsi_raise.isExc (by rw [isSubtype_type]; kernel_rfl) owsi_facts.sub ?_
      intro h6 F6 N6 U6
      ((try (show wpAny _ _ _ _ _ _; k_fold)); k_steps)
      have e0 : readL 0 (ns.drop i) = [] := readL_none hm
      rw [e0, List.append_nil] at hre
      exact h _ _ l vN nN F6.keep ((Heap.UpToSlots.of_keeps Fg.keep).trans U6) (fun q hq => (N6 q (.tail _ (List.mem_append_left _ hq))).1) (N6 _ (.head _)).1 (Heap.get?_none_of_le (Nat.le_of_lt (Nat.lt_of_le_of_lt hsL hLl))) (hre ▸ hxs)
  · intro zz0 m s₁ zz3 zz4 hk F3 N3
    obtain ⟨h3, tk3, rfl⟩ := zz4
    try (show wpAny _ _ _ _ _ _; k_fold)
    obtain ⟨i, iok, vN, nN, xs⟩ := zz0
    obtain ⟨hit, hxs, hre, hki, hil2, hvk⟩ := zz3
    exact absurd hki (by walk_at "om")
theorem call_read {w : World} {a : Addr} {vs : List Value} {ns : List Int} {na : Nat} (hi : IntsAre vs ns) (hl : ns.length ≤ 9) (hn : ∀ n ∈ ns, 0 ≤ n ∧ n < 256)
    {mg mb : Str → Option Value} {mean : ExcName → Option Value} {h₀ : Heap} {d u : Nat} {gs : Option (List Code)} {s : Shared} {E : Value → Shared → Prop} {Q : Value → Shared → Prop} {env : Env} {L : Addr} {m : Str → Option Value} {news : List (Addr × Obj)}
    (C : Ctx w mg mb mean h₀ [] d u gs h₀) (F : Fr h₀ L s.heap m) (N : News h₀ L s.heap ((a, W.listOf vs.toArray na) :: news)) (hd : d + 1 ≤ 380) (hu : u + 3 ≤ 1520)
    (h : ∀ h' tk D vs' n', Fr h₀ L h' m → News h₀ L h' ((D, W.listOf vs'.toArray n') :: (a, W.listOf vs.toArray na) :: news) → (∀ q ∈ (a, W.listOf vs.toArray na) :: news, q.1 ≠ D) → IntsAre vs' (readL 0 ns) → Q (.ref D) { s with heap := h', toks := tk })
    (hf : env.frame = some L := by rfl) (hk : env.scope.kind = .function := by rfl) :
    wpAny (model PySem.Challenge.rw_sn0039_01.row.prog w) (Around.deeper ⟨none, d, some [], gs, u⟩ env) (call (.ref 94) [.ref a]) Q E s := by
  obtain ⟨g, Fg, st, hg, hsz⟩ := hide_all F N
  refine wpAny_call ?_
  refine law_read hi hl hn (C.push Fg hf hk) C.T hd hu st hsz (Nat.le_trans F.above (Nat.le_of_lt F.ns.lt)) (fun q hq => ⟨(N q hq).1, hg q hq⟩) ?_
  intro h' tk D vs' n' hb hU hN hD hDn hv
  have hne : ∀ q ∈ (a, W.listOf vs.toArray na) :: news, q.1 ≠ D := fun q hq e => by have := (N q hq).1; rw [e, hDn] at this; cases this
  have hLD : D ≠ L := fun e => by
    obtain ⟨oL, _, _, hoL, _⟩ := F.ns
    rw [e, hoL] at hDn; cases hDn
  have hD0 : h₀.get? D = none := by
    cases q : h₀.get? D with
    | none => rfl
    | some o => rw [F.keep _ o q] at hDn; cases hDn
  refine h h' tk D vs' n' (Fg.of_stays hb hU) (fun q hq => ?_) hne hv
  rcases List.mem_cons.mp hq with rfl | hq
  · exact ⟨hD, hLD, hD0⟩
  · exact ⟨hN q hq, (N q hq).2⟩
end
theorem resetC8 : ∃ x : Nat, x = 0 := by
  first | (walk1; fail) | skip
  w_top off
  exact ⟨0, rfl⟩
section
section
variable {prog : Program} {w : World} {A : Around} {s : Shared} {h₀ : Heap} {L : Addr} {m : Str → Option Value} {env : Env} {elt : Expr} {x : Str} {scope : Scope} {cl : List (Str × Addr)} {S : List (Addr × Obj) → Prop} {P : Nat → Value → Prop} {Fin : List Value → List (Addr × Obj) → Prop}
/-- what a turn of a comprehension hands on -/
noncomputable def CTurn (h₀ : Heap) (L : Addr) (m : Str → Option Value) (s : Shared) (all : List (Addr × Obj)) (J : Value → Prop) (y : Value) (s₂ : Shared) : Prop :=
  ∃ h' tk', s₂ = { s with heap := h', toks := tk' } ∧ Fr h₀ L h' m ∧ News h₀ L h' all ∧ J y
theorem comp_rest (J : Nat → List Value → Prop) {n : Nat} {news : List (Addr × Obj)} (hS : S news)
    (turn : ∀ i ys v I oI C oC D m₂ h tk (E' : Value → Shared → Prop), i < n → J i ys → P i v → LCg.NsObj oC m₂ → m₂ x = some v → Fr h₀ L h m → News h₀ L h ((I, oI) :: (C, oC) :: (D, LCg.lst ys) :: news) → LCg.Off3 I C D news → ((@Ne Nat I C) ∧ (@Ne Nat I D) ∧ (@Ne Nat C D)) →
      wpAny (model prog w) A (eval elt (compEnvC scope cl C env)) (CTurn h₀ L m { s with heap := h, toks := tk } ((I, oI) :: (C, oC) :: (D, LCg.lst ys) :: news) (fun y => J (i + 1) (ys ++ [y]))) E' { s with heap := h, toks := tk })
    (fin : ∀ ys, J n ys → Fin ys news) : ∀ k i ys, i + k = n → J i ys → LCg.CompRest prog w A h₀ L m env elt x scope cl s S P Fin k i ys news
  | 0, i, ys, hk, hJ => LCg.CompRest.zero (fin ys (by rw [Nat.add_zero] at hk; exact hk ▸ hJ))
  | k + 1, i, ys, hk, hJ => LCg.CompRest.succ fun v I oI C oC D m₂ h tk E' hP hoC hm F N off ne => by
    refine wpAny_mono (turn i ys v I oI C oC D m₂ h tk E' (by walk_at "om") hJ hP hoC hm F N off ne) (fun y s₂ hy => ?_) fun _ _ e => e
    obtain ⟨h', tk', rfl, F', N', hJ'⟩ := hy
    exact LCg.CompEnd.intro F' N' news (fun p hp => hp) off hS (comp_rest J hS turn fin k (i + 1) (ys ++ [y]) (by walk_at "om") hJ')
end
end
section
local macro_rules | `(tactic| walk_at "eval ListComp") => `(tactic| (refine stop ?_))
local macro_rules | `(tactic| walk_at "CompSrc") => `(tactic| (refine stop ?_))
local macro_rules | `(tactic| walk_at "exec Assign") => `(tactic| ((with_reducible rename StopMark => hSM); refine stop ?_))
theorem resetC9 : ∃ x : Nat, x = 0 := by
  first | (walk1; fail) | skip
  w_top off
  exact ⟨0, rfl⟩
section
noncomputable def lawBody : List Stmt := match PySem.Challenge.pw_sn0039_01.main.body.getLast? with | some (.FunctionDef _ _ b _ _ _ _ _ _ _) => b | _ => []
noncomputable def lawScope : Scope := match PySem.Challenge.pw_sn0039_01.main.body.getLast? with | some (.FunctionDef _ _ _ _ _ _ sc _ _ _) => sc | _ => default
noncomputable def LE (L : Addr) : Env := envOfC (Str.ofString "law") lawScope L 111 (.ref 110)
noncomputable def LA (d u : Nat) (gs : Option (List Code)) (L : Addr) : Around := Around.deeper ⟨none, d, some [], gs, u⟩ (LE L)
/-- the law's text from its statement k on -/
noncomputable def LawAt (w : World) (d u : Nat) (gs : Option (List Code)) (L : Addr) (k : Nat) (Q : Flow → Shared → Prop) (s : Shared) : Prop :=
  wpAny (model PySem.Challenge.rw_sn0039_01.row.prog w) (LA d u gs L) (exec ((lawBody.drop k).headD default) (LE L)) (fun f s' => match f with
    | .next => wpAny (model PySem.Challenge.rw_sn0039_01.row.prog w) (LA d u gs L) (execs (lawBody.drop (k + 1)) (LE L)) Q (fun _ _ => False) s'
    | f => Q f s') (fun _ _ => False) s
noncomputable def rangeO (n : Int) (t u v : Tok) : Obj := { cls := .type "range", data := .fields #[.int 0 t, .int n u, .int 1 v] }
section
variable {prog : Program} {w : World} {A : Around} {E : Value → Shared → Prop} {s : Shared} {h₀ : Heap} {L : Addr} {m : Str → Option Value} {news : List (Addr × Obj)}
theorem rangeK {n : Int} {t : Tok} {Q : Value → Shared → Prop} (F : Fr h₀ L s.heap m) (N : News h₀ L s.heap news)
    (h : ∀ r h' tk t u v, Fr h₀ L h' m → News h₀ L h' ((r, rangeO n t u v) :: news) → (∀ p ∈ news, p.1 < r) → Q (.ref r) { s with heap := h', toks := tk }) :
    wpAny (model prog w) A (call (.type "range") [.int n t]) Q E s :=
  call_range_1 (h _ _ _ _ _ _ (F.push _) (News.push F N _ rfl) fun q hq => Heap.lt_size (N q hq).1)
end
local macro_rules | `(tactic| walk_at "call type:range") => `(tactic| (refine stop ?_))
local macro_rules | `(tactic| walk_at "eval IfExp") => `(tactic| (refine stop ?_))
/-- the seven cells -/
noncomputable def cells7 (L : Addr) (o1 o2 o3 o4 o5 o6 o7 : Obj) : List (Addr × Obj) :=
  [(L + 1 + 1 + 1 + 1 + 1 + 1 + 1, o7), (L + 1 + 1 + 1 + 1 + 1 + 1, o6), (L + 1 + 1 + 1 + 1 + 1, o5), (L + 1 + 1 + 1 + 1, o4), (L + 1 + 1 + 1, o3), (L + 1 + 1, o2), (L + 1, o1)]
set_option maxHeartbeats 8000000 in
theorem law_s1 {w : World} {l : Addr} {vs : List Value} {ns : List Int} (hi : IntsAre vs ns) (hl : ns.length ≤ 63)
    {mg mb : Str → Option Value} {mean : ExcName → Option Value} {d u : Nat} {gs : Option (List Code)} {s : Shared} {R : Result → Shared → Prop}
    (C : Ctx w mg mb mean s.heap [] d u gs s.heap) (hd : d ≤ 320) (hu : u ≤ 1200) (hL : s.heap.IsList l vs.toArray)
    (next : ∀ L h' tk m p x tp r t₁ u₁ v₁ tg o1 o2 o3 o4 o5 o6 o7, (p = 3 ∨ p = 4) → 0 ≤ x → x < 4 ^ p.toNat → Fr s.heap L h' m → m (Str.ofString "places") = some (.ref r) →
      News s.heap L h' ((r, rangeO (2 * p) t₁ u₁ v₁) :: cells7 L o1 o2 o3 o4 o5 o6 o7) → L + 1 + 1 + 1 + 1 + 1 + 1 + 1 < r →
      o1.data = .cell (some (.ref l)) → o2.data = .cell (some (.int p tp)) → o3.data = .cell (some (.str (rowN x p (2 * p).toNat) tg)) → o4.data = .cell none → o5.data = .cell none → o6.data = .cell none → o7.data = .cell none →
      LawAt w d u gs L 3 (fun fl s' => R (.ok (.ret (match fl with | .ret v => v | _ => .none))) s') { s with heap := h', toks := tk }) :
    codeAny (model PySem.Challenge.rw_sn0039_01.row.prog w) ⟨none, d, some [], gs, u⟩ (.call (.ref 111) ⟨[.ref l], []⟩) R s := by
  have C0 := C
  obtain ⟨X, T, B⟩ := C
  revert X
  k_fill
  intro X
  refine' enter_defC X T.nolimit ?k6 ?k7 ?k8 ?k9 ?kB ?kD ?_ ?c2 ?c3 ?c4
  case k6 => k_is
  case k7 => k_is
  case k8 => simp only [recursionLimit]; walk_at "om"
  case k9 => exact BindsTo.of_eq rfl
  case kB => exact rfl
  case kD => decide +kernel
  case c2 => rfl
  case c3 => rfl
  case c4 => rfl
  intro L' h' tk' cells' F' N' Y' X'
  k_cells Y'
  (try dsimp only)
  refine wpAny_noRaise ?_
  (k_fold; first | (refine letAE (fun A1 e1 => wpAny _ A1 (execs _ e1) _ _ _) ?_; intro A1 e1) | (refine letA (fun A1 => wpAny _ A1 _ _ _ _) ?_; intro A1) | skip)
  have hvz : vs.toArray.size ≤ sizeLine := by rw [List.size_toArray, IntsAre.length hi, sizeLine_eq]; walk_at "om"
  have hvl : vs.length ≤ 63 := by rw [IntsAre.length hi]; exact hl
  ((try (show wpAny _ _ _ _ _ _; k_fold)); k_steps)
  refine wpAny_mono (Q := fun v s₂ => ∃ p t tk, (p = 3 ∨ p = 4) ∧ v = .int p t ∧ s₂ = { s with heap := h', toks := tk }) ?_ ?_ (fun _ _ e => e)
  · refine IfExp_ ?_
    ((try (show wpAny _ _ _ _ _ _; k_fold)); k_steps)
    · exact .inl rfl
    · exact .inr rfl
  rintro v s₂ ⟨p, tp, tk2, hp, rfl, rfl⟩
  ((try (show wpAny _ _ _ _ _ _; k_fold)); k_steps)
  rename_i F1 N1 tk1
  refine rangeK F1 N1 ?_
  intro r h1 tk3 t₁ u₁ v₁ F2 N2 lr
  clear F1 N1
  replace lr := allLt_of lr
  simp only [AllLt, and_true] at lr
  ((try (show wpAny _ _ _ _ _ _; k_fold)); k_steps)
  refine LCg.ListComp_U (F₀ := by assumption) (by with_unfolding_all rfl) (by decide) (by rfl) (by decide) (by rfl) ?_
  ((try (show wpAny _ _ _ _ _ _; k_fold)); k_steps)
  rename_i hI1 hC1 hL1 l1
  rename List Value => ws
  have hws : ws.length ≤ 63 := by rw [IntsAre.length hI1]; walk_at "om"
  refine LCg.CompSrc.ledger (its := ws.toArray) rfl (by assumption) (by assumption) (.head _) (by rw [List.size_toArray, sizeLine_eq]; walk_at "om") (fun g => comp_rest (n := ws.toArray.size) (fun i ys => ∃ xs, IntsAre ys xs ∧ xs.length = i ∧ ∀ x ∈ xs, 0 ≤ x ∧ x < 256) (.inr ⟨_, .head _, rfl, _, rfl⟩) ?_ ?_ _ 0 [] (Nat.zero_add _) ⟨[], .nil, rfl, fun _ h => nomatch h⟩)
  · intro i ys v I oI C oC D m₂ h tk E' hin zz13 hP hoC hm F N off ne
    try (show wpAny _ _ _ _ _ _; k_fold)
    obtain ⟨xs, hxs, hxl, hxb⟩ := zz13
    obtain ⟨ov, tv, hov, rfl⟩ := ints_get hI1 (show ws[i]? = some v by simpa using hP)
    ((try (show wpAny _ _ _ _ _ _; k_fold)); k_steps)
    exact ⟨h, _, rfl, F, N, xs ++ [_], IntsAre.append hxs (.cons _ _ .nil), by simp [hxl], fun x hx => by
      rcases List.mem_append.mp hx with hx | hx
      · exact hxb x hx
      · rw [List.mem_singleton.mp hx, Int.fmod_eq_emod_of_nonneg _ (by decide)]
        exact ⟨Int.emod_nonneg _ (by decide), Int.emod_lt_of_pos _ (by decide)⟩⟩
  intro ys zz1 D2 h2 tk3 F2 N2 off2
  try (show wpAny _ _ _ _ _ _; k_fold)
  obtain ⟨xs, hxs, hxl, hxb⟩ := zz1
  ((try (show wpAny _ _ _ _ _ _; k_fold)); k_steps)
  rename_i F3 N3
  have hx4 : 0 ≤ (45 + xs.sum).fmod (4 ^ p.toNat) ∧ (45 + xs.sum).fmod (4 ^ p.toNat) < 4 ^ p.toNat := by
    have hpos : (0 : Int) < 4 ^ p.toNat := by rcases hp with rfl | rfl <;> decide
    rw [Int.fmod_eq_emod_of_nonneg _ (Int.le_of_lt hpos)]
    exact ⟨Int.emod_nonneg _ (Int.ne_of_gt hpos), Int.emod_lt_of_pos _ hpos⟩
  have h256 : (4 : Int) ^ p.toNat ≤ 256 := by rcases hp with rfl | rfl <;> decide
  refine call_gives (law_first hp) C0 F3 N3 (by walk_at "om") (by walk_at "om") ⟨hx4.1, Int.lt_of_lt_of_le hx4.2 h256⟩ ?_
  intro h4 tk4 v4 F4 N4 hv4 st4
  obtain ⟨tr4, rfl⟩ := hv4
  have N5 := news_pick (b := (r, rangeO (2 * p) t₁ u₁ v₁) :: _) N4 fun q hq => .tail _ (.tail _ hq)
  clear N4 F3 N3 F2 N2
  have hSM : StopMark := trivial
  ((try (show wpAny _ _ _ _ _ _; k_fold)); k_steps)
  refine next _ _ _ _ p _ tp r t₁ u₁ v₁ tr4 _ _ _ _ _ _ _ hp hx4.1 hx4.2 (by assumption) rfl (by assumption) (lr.1) ?_ ?_ ?_ ?_ ?_ ?_ ?_
  all_goals assumption
end
theorem resetD1 : ∃ x : Nat, x = 0 := by
  first | (walk1; fail) | skip
  w_top off
  exact ⟨0, rfl⟩
section
local macro_rules | `(tactic| walk_at "subscriptTail Name Slice ref ref") => `(tactic| (refine stop ?_))
/-- a lies apart from the seven cells -/
noncomputable def Apart (L a : Nat) : Prop := L + 1 + 1 + 1 + 1 + 1 + 1 + 1 ≠ a ∧ L + 1 + 1 + 1 + 1 + 1 + 1 ≠ a ∧ L + 1 + 1 + 1 + 1 + 1 ≠ a ∧ L + 1 + 1 + 1 + 1 ≠ a ∧ L + 1 + 1 + 1 ≠ a ∧ L + 1 + 1 ≠ a ∧ L + 1 ≠ a
theorem ints_of {zs : List Value} (h : ∀ v ∈ zs, ∃ n t, v = .int n t) : ∃ ms, IntsAre zs ms := by
  induction zs with
  | nil => exact ⟨[], .nil⟩
  | cons v r ih =>
    obtain ⟨n, t, rfl⟩ := h v (.head _)
    obtain ⟨ms, hms⟩ := ih fun v hv => h v (.tail _ hv)
    exact ⟨n :: ms, .cons _ _ hms⟩
theorem pick_ints {vs : List Value} {ns : List Int} (hi : IntsAre vs ns) (lo up st : Option Int) : ∃ ms, IntsAre (slicePick vs.toArray lo up st).toList ms := by
  refine ints_of fun v hv => ?_
  unfold slicePick at hv
  obtain ⟨i, _, hiv⟩ := List.mem_filterMap.mp hv
  have hm : v ∈ vs := by
    have h1 : vs[i]? = some v := by simpa using hiv
    exact List.mem_of_getElem? h1
  obtain ⟨j, hj, e⟩ := List.getElem_of_mem hm
  obtain ⟨ov, t, _, rfl⟩ := ints_get hi (show vs[j]? = some v by rw [List.getElem?_eq_getElem hj, e])
  exact ⟨ov, t, rfl⟩
set_option maxHeartbeats 8000000 in
theorem law_s3 {w : World} {l : Addr} {vs : List Value} {ns : List Int} (hi : IntsAre vs ns) (hl : ns.length ≤ 63)
    {mg mb : Str → Option Value} {mean : ExcName → Option Value} {h₀ : Heap} {d u : Nat} {gs : Option (List Code)} {s : Shared} {Q : Flow → Shared → Prop}
    (C : Ctx w mg mb mean h₀ [] d u gs h₀) (hd : d ≤ 320) (hu : u ≤ 1200) (hL : h₀.IsList l vs.toArray)
    {L r : Addr} {m : Str → Option Value} {p : Int} {sg : Str} {tp t₁ u₁ v₁ tg : Tok} {o1 o2 o3 o4 o5 o6 o7 : Obj} (hp : p = 3 ∨ p = 4) (F : Fr h₀ L s.heap m) (hm : m (Str.ofString "places") = some (.ref r))
    (N : News h₀ L s.heap ((r, rangeO (2 * p) t₁ u₁ v₁) :: cells7 L o1 o2 o3 o4 o5 o6 o7)) (lr : L + 1 + 1 + 1 + 1 + 1 + 1 + 1 < r)
    (d1 : o1.data = .cell (some (.ref l))) (d2 : o2.data = .cell (some (.int p tp))) (d3 : o3.data = .cell (some (.str sg tg))) (d4 : o4.data = .cell none)
    (next : ∀ h' tk a xs ys n o4', IntsAre ys xs → xs.length = (2 * p).toNat → (∀ x ∈ xs, 1 ≤ x ∧ x ≤ 63) → Fr h₀ L h' m → News h₀ L h' ((a, W.listOf ys.toArray n) :: (r, rangeO (2 * p) t₁ u₁ v₁) :: cells7 L o1 o2 o3 o4' o5 o6 o7) →
      Apart L a → r ≠ a → o4'.data = .cell (some (.ref a)) → LawAt w d u gs L 4 Q { s with heap := h', toks := tk }) :
    LawAt w d u gs L 3 Q s := by
  replace lr := ltN lr
  have hk : PsOk m [(Str.ofString "places", .ref r)] := ⟨hm, trivial⟩
  have F1 : Fr h₀ L s.heap (kb m [(Str.ofString "places", .ref r)]) := by rw [kb_eq hk]; exact F
  dsimp only [kb] at F1
  clear F
  have C0 := C
  obtain ⟨X, T, B⟩ := C
  unfold cells7 at N
  unfold LawAt LA LE
  revert X
  k_fill
  intro X
  conv in (List.headD (List.drop _ lawBody) _) => whnf
  conv in (List.drop _ lawBody) => whnf
  obtain ⟨sc, hsc⟩ : ∃ sc, sc = lawScope := ⟨_, rfl⟩
  rw [← hsc]
  conv at hsc => rhs; whnf
  subst hsc
  have hpA := p34 hp
  have hvz : vs.toArray.size ≤ sizeLine := by rw [List.size_toArray, IntsAre.length hi, sizeLine_eq]; walk_at "om"
  have hvl : vs.length ≤ 63 := by rw [IntsAre.length hi]; exact hl
  show wpAny _ _ _ _ _ _
  (k_fold; first | (refine letAE (fun A1 e1 => wpAny _ A1 (execs _ e1) _ _ _) ?_; intro A1 e1) | (refine letA (fun A1 => wpAny _ A1 _ _ _ _) ?_; intro A1) | skip)
  ((try (show wpAny _ _ _ _ _ _; k_fold)); k_steps)
  refine LCg.ListComp_U (F₀ := by assumption) (by with_unfolding_all rfl) (by decide) (by rfl) (by decide) (by rfl) ?_
  ((try (show wpAny _ _ _ _ _ _; k_fold)); k_steps)
  refine LCg.CompSrc.range (n := (2 * p).toNat) rfl (by assumption) (by assumption) (N _ (.head _)).1 (small_of (by walk_at "om") (by walk_at "om")) (size_of (by walk_at "om")) (by rw [sizeLine_eq]; walk_at "om") (fun g => comp_rest (n := (2 * p).toNat) (fun i ys => ∃ xs, IntsAre ys xs ∧ xs.length = i ∧ ∀ x ∈ xs, 1 ≤ x ∧ x ≤ 63) trivial ?_ ?_ _ 0 [] (Nat.zero_add _) ⟨[], .nil, rfl, fun _ h => nomatch h⟩)
  · intro i ys v I oI C oC D m₂ h tk E' hin zz13 zz14 hoC hmC F N off ne
    obtain ⟨tv, rfl⟩ := zz14
    try (show wpAny _ _ _ _ _ _; k_fold)
    obtain ⟨xs, hxs, hxl, hxb⟩ := zz13
    ((try (show wpAny _ _ _ _ _ _; k_fold)); k_steps)
    refine LCg.ListComp_U (F₀ := by assumption) (by with_unfolding_all rfl) (by decide) (by rfl) (by decide) (by rfl) ?_
    ((try (show wpAny _ _ _ _ _ _; k_fold)); k_steps)
    refine kmk_slice3_lit (by k_asm) (by k_asm) (by kmk_list) (.int _ _) (.int _ _) (.int _ _) (by intro e; injection e with e; walk_at "om") rfl ?_ (by with_unfolding_all rfl) (by intro _; with_unfolding_all rfl) hvz
    intro D1 h1 F1 N1 l1
    obtain ⟨ms, hms⟩ := pick_ints hi (some (0 + (i : Int))) (some 60) (some (2 * p))
    generalize hz : (slicePick vs.toArray (some (0 + (i : Int))) (some 60) (some (2 * p))).toList = zs at N1 hms
    have hzl : zs.length ≤ 63 := by
      have h1 := slicePick_size_le vs.toArray (some (0 + (i : Int))) (some 60) (some (2 * p))
      have h2 : vs.toArray.size = vs.length := List.size_toArray ..
      rw [← hz, Array.length_toList]; walk_at "om"
    clear hz
    ((try (show wpAny _ _ _ _ _ _; k_fold)); k_steps)
    refine LCg.CompSrc.ledger (its := zs.toArray) rfl F1 N1 (.head _) (by rw [List.size_toArray, sizeLine_eq]; walk_at "om") (fun g => comp_rest (n := zs.toArray.size) (fun i ys => ∃ xs, IntsAre ys xs ∧ xs.length = i ∧ ∀ x ∈ xs, 0 ≤ x ∧ x < 63) (.inr ⟨_, .head _, rfl, _, rfl⟩) ?_ ?_ _ 0 [] (Nat.zero_add _) ⟨[], .nil, rfl, fun _ h => nomatch h⟩)
    · intro i2 ys2 v2 I2 oI2 C2 oC2 D2 m2 h2 tk2 E2 hin2 zz13 hP2 hoC2 hmC2 F2 N2 off2 ne2
      try (show wpAny _ _ _ _ _ _; k_fold)
      obtain ⟨xs2, hxs2, hxl2, hxb2⟩ := zz13
      obtain ⟨ov, tv2, hov, rfl⟩ := ints_get hms (show zs[i2]? = some v2 by simpa using hP2)
      ((try (show wpAny _ _ _ _ _ _; k_fold)); k_steps)
      exact ⟨h2, _, rfl, F2, N2, xs2 ++ [_], IntsAre.append hxs2 (.cons _ _ .nil), by simp [hxl2], fun x hx => by
        rcases List.mem_append.mp hx with hx | hx
        · exact hxb2 x hx
        · rw [List.mem_singleton.mp hx, Int.fmod_eq_emod_of_nonneg _ (by decide)]
          exact ⟨Int.emod_nonneg _ (by decide), Int.emod_lt_of_pos _ (by decide)⟩⟩
    · intro ys2 zz1 D2 h2 tk2 F2 N2 off2
      try (show wpAny _ _ _ _ _ _; k_fold)
      obtain ⟨xs2, hxs2, hxl2, hxb2⟩ := zz1
      ((try (show wpAny _ _ _ _ _ _; k_fold)); k_steps)
      rename_i h3 tk3 t3 F3 N3
      refine ⟨_, _, rfl, F3, news_pick N3 (fun q hq => .tail _ (.tail _ hq)), xs ++ [_], IntsAre.append hxs (.cons _ _ .nil), by simp [hxl], fun x hx => ?_⟩
      rcases List.mem_append.mp hx with hx | hx
      · exact hxb x hx
      · rw [List.mem_singleton.mp hx, Int.fmod_eq_emod_of_nonneg _ (by decide)]
        have h1 := Int.emod_nonneg (7 + 11 * (0 + (i : Int)) + xs2.sum) (by decide : (63 : Int) ≠ 0)
        have h2 := Int.emod_lt_of_pos (7 + 11 * (0 + (i : Int)) + xs2.sum) (by decide : (0 : Int) < 63)
        walk_at "om"
  · intro ys zz1 D h tk F N off
    try (show wpAny _ _ _ _ _ _; k_fold)
    obtain ⟨xs, hxs, hxl, hxb⟩ := zz1
    obtain ⟨e1, e2, e3, e4, e5, e6, e7, e8, _⟩ := off
    dsimp only at e1 e2 e3 e4 e5 e6 e7 e8
    have hSM : StopMark := trivial
    ((try (show wpAny _ _ _ _ _ _; k_fold)); k_steps)
    refine next _ _ D xs ys ys.length _ hxs hxl hxb (by rw [← kb_eq hk]; assumption) (by assumption) ⟨e2, e3, e4, e5, e6, e7, e8⟩ e1 (by assumption)
end
theorem resetD2 : ∃ x : Nat, x = 0 := by
  first | (walk1; fail) | skip
  w_top off
  exact ⟨0, rfl⟩
section
local macro_rules | `(tactic| omega) => `(tactic| ((rename (_ ≠ _) ∧ _ => hh0; clear hh0); walk_at "clr"; omega +splitDisjunctions))
local macro_rules | `(tactic| walk_at "subscriptTail") => `(tactic| ((with_reducible show wpAny _ _ (subscriptTail _ _ (Value.ref _) (Value.str (Txt.item _ _) _)) _ _ _); refine stop ?_))
/-- the octet at a place -/
noncomputable def octAt (sg : Str) (xs : List Int) (i : Nat) : Int := xs.getD i 0 + (if Txt.item sg (i : Int) = Str.ofString "(" then 64 else 0)
noncomputable def octsOf (sg : Str) (xs : List Int) (n : Nat) : List Int := (List.range n).map (octAt sg xs)
theorem octsOf_succ (sg : Str) (xs : List Int) (n : Nat) : octsOf sg xs (n + 1) = octsOf sg xs n ++ [octAt sg xs n] := by
  unfold octsOf
  rw [List.range_succ, List.map_append]; rfl
set_option maxHeartbeats 8000000 in
theorem law_s4 {w : World}
    {mg mb : Str → Option Value} {mean : ExcName → Option Value} {h₀ : Heap} {d u : Nat} {gs : Option (List Code)} {s : Shared} {Q : Flow → Shared → Prop}
    (C : Ctx w mg mb mean h₀ [] d u gs h₀) (hd : d ≤ 320) (hu : u ≤ 1200)
    {L r a : Addr} {m : Str → Option Value} {p : Int} {sg : Str} {tp t₁ u₁ v₁ tg : Tok} {o1 o2 o3 o4 o5 o6 o7 : Obj} {xs : List Int} {ys : List Value} {n : Nat} (hp : p = 3 ∨ p = 4) (F : Fr h₀ L s.heap m) (hm : m (Str.ofString "places") = some (.ref r))
    (N : News h₀ L s.heap ((a, W.listOf ys.toArray n) :: (r, rangeO (2 * p) t₁ u₁ v₁) :: cells7 L o1 o2 o3 o4 o5 o6 o7)) (lr : L + 1 + 1 + 1 + 1 + 1 + 1 + 1 < r) (hA : Apart L a) (hra : r ≠ a)
    (d3 : o3.data = .cell (some (.str sg tg))) (d4 : o4.data = .cell (some (.ref a))) (d5 : o5.data = .cell none)
    (hys : IntsAre ys xs) (hxl : xs.length = (2 * p).toNat) (hxb : ∀ x ∈ xs, 1 ≤ x ∧ x ≤ 63) (hsl : sg.length = (2 * p).toNat) (hbr : ∀ i : Nat, i < (2 * p).toNat → Txt.item sg (i : Int) = Str.ofString "(" ∨ Txt.item sg (i : Int) = Str.ofString ")")
    (next : ∀ h' tk b zs n2 o5', IntsAre zs (octsOf sg xs (2 * p).toNat) → Fr h₀ L h' m → News h₀ L h' ((b, W.listOf zs.toArray n2) :: (a, W.listOf ys.toArray n) :: (r, rangeO (2 * p) t₁ u₁ v₁) :: cells7 L o1 o2 o3 o4 o5' o6 o7) →
      Apart L b → r ≠ b → a ≠ b → o5'.data = .cell (some (.ref b)) → LawAt w d u gs L 5 Q { s with heap := h', toks := tk }) :
    LawAt w d u gs L 4 Q s := by
  replace lr := ltN lr
  obtain ⟨q1, q2, q3, q4, q5, q6, q7⟩ := hA
  have hk : PsOk m [(Str.ofString "places", .ref r)] := ⟨hm, trivial⟩
  have F1 : Fr h₀ L s.heap (kb m [(Str.ofString "places", .ref r)]) := by rw [kb_eq hk]; exact F
  dsimp only [kb] at F1
  clear F
  have hpA := p34 hp
  have hxA := len2p hp hxl
  have hslA := len2p hp hsl
  have hyl : ys.length ≤ 8 := by rw [IntsAre.length hys]; walk_at "om"
  have hyz : ys.toArray.size ≤ sizeLine := by rw [List.size_toArray]; exact Nat.le_trans (by assumption) (by decide)
  have C0 := C
  obtain ⟨X, T, B⟩ := C
  unfold cells7 at N
  unfold LawAt LA LE
  revert X
  k_fill
  intro X
  conv in (List.headD (List.drop _ lawBody) _) => whnf
  conv in (List.drop _ lawBody) => whnf
  obtain ⟨sc, hsc⟩ : ∃ sc, sc = lawScope := ⟨_, rfl⟩
  rw [← hsc]
  conv at hsc => rhs; whnf
  subst hsc
  show wpAny _ _ _ _ _ _
  (k_fold; first | (refine letAE (fun A1 e1 => wpAny _ A1 (execs _ e1) _ _ _) ?_; intro A1 e1) | (refine letA (fun A1 => wpAny _ A1 _ _ _ _) ?_; intro A1) | skip)
  ((try (show wpAny _ _ _ _ _ _; k_fold)); k_steps)
  refine LCg.ListComp_U (F₀ := by assumption) (by with_unfolding_all rfl) (by decide) (by rfl) (by decide) (by rfl) ?_
  ((try (show wpAny _ _ _ _ _ _; k_fold)); k_steps)
  refine LCg.CompSrc.range (n := (2 * p).toNat) rfl (by assumption) (by assumption) (N _ (.tail _ (.head _))).1 (small_of (by walk_at "om") (by walk_at "om")) (size_of (by walk_at "om")) (by rw [sizeLine_eq]; walk_at "om") (fun g => comp_rest (n := (2 * p).toNat) (fun i zs => IntsAre zs (octsOf sg xs i)) trivial ?_ ?_ _ 0 [] (Nat.zero_add _) .nil)
  · intro i ys2 v I oI C oC D m₂ h tk E' hin hxs2 zz14 hoC hmC F N off ne
    obtain ⟨tv, rfl⟩ := zz14
    try (show wpAny _ _ _ _ _ _; k_fold)
    have hc : Txt.item sg (0 + (i : Int)) = Str.ofString "(" ∨ Txt.item sg (0 + (i : Int)) = Str.ofString ")" := by rw [Int.zero_add]; exact hbr i hin
    have ei : (0 + (i : Int)).toNat = i := zi i
    ((try (show wpAny _ _ _ _ _ _; k_fold)); k_steps)
    rcases hc with hc | hc
    all_goals
      rw [hc]
      show wpAny _ _ _ _ _ _
      ((try (show wpAny _ _ _ _ _ _; k_fold)); k_steps)
    · refine ⟨_, _, rfl, F, N, ?_⟩
      rw [octsOf_succ]
      refine IntsAre.append hxs2 ?_
      unfold octAt
      rw [Int.zero_add] at hc
      rw [if_pos hc, ei]
      exact .cons _ _ .nil
    · refine ⟨_, _, rfl, F, N, ?_⟩
      rw [octsOf_succ]
      refine IntsAre.append hxs2 ?_
      unfold octAt
      rw [Int.zero_add] at hc
      rw [if_neg (by rw [hc]; decide), ei]
      exact .cons _ _ .nil
  · rintro ys2 hxs2 D h tk F N off
    obtain ⟨e0, e1, e2, e3, e4, e5, e6, e7, e8, _⟩ := off
    dsimp only at e0 e1 e2 e3 e4 e5 e6 e7 e8
    have hSM : StopMark := trivial
    ((try (show wpAny _ _ _ _ _ _; k_fold)); k_steps)
    exact next _ _ D ys2 ys2.length _ hxs2 (by rw [← kb_eq hk]; assumption) (by assumption) ⟨e2, e3, e4, e5, e6, e7, e8⟩ e1 e0 (by assumption)
end
theorem resetD3 : ∃ x : Nat, x = 0 := by
  first | (walk1; fail) | skip
  w_top off
  exact ⟨0, rfl⟩
section
local macro_rules | `(tactic| walk_at "subscriptTail") => `(tactic| ((fail_if_success (with_reducible rename StopMark => hSM9)); refine stop ?_))
noncomputable def riders : List Str := [Str.ofString "", Str.ofString "\\(", Str.ofString "\")\"", Str.ofString "\\\"", Str.ofString "\\\\"]
set_option maxHeartbeats 8000000 in
theorem law_s5 {w : World}
    {mg mb : Str → Option Value} {mean : ExcName → Option Value} {h₀ : Heap} {d u : Nat} {gs : Option (List Code)} {s : Shared} {Q : Flow → Shared → Prop}
    (C : Ctx w mg mb mean h₀ [] d u gs h₀) (hd : d ≤ 320) (hu : u ≤ 1200)
    {L r a b : Addr} {m : Str → Option Value} {p : Int} {t₁ u₁ v₁ : Tok} {o1 o2 o3 o4 o5 o6 o7 oa : Obj} {os : List Int} {zs : List Value} {n2 : Nat} (hp : p = 3 ∨ p = 4) (F : Fr h₀ L s.heap m) (hm : m (Str.ofString "places") = some (.ref r))
    (N : News h₀ L s.heap ((b, W.listOf zs.toArray n2) :: (a, oa) :: (r, rangeO (2 * p) t₁ u₁ v₁) :: cells7 L o1 o2 o3 o4 o5 o6 o7)) (lr : L + 1 + 1 + 1 + 1 + 1 + 1 + 1 < r) (hA : Apart L a) (hB : Apart L b)
    (d5 : o5.data = .cell (some (.ref b))) (d6 : o6.data = .cell none)
    (hzs : IntsAre zs os) (hol : os.length = (2 * p).toNat)
    (next : ∀ h' tk rd trd o6', rd ∈ riders → Fr h₀ L h' m → News h₀ L h' ((b, W.listOf zs.toArray n2) :: (a, oa) :: (r, rangeO (2 * p) t₁ u₁ v₁) :: cells7 L o1 o2 o3 o4 o5 o6' o7) →
      o6'.data = .cell (some (.str rd trd)) → LawAt w d u gs L 6 Q { s with heap := h', toks := tk }) :
    LawAt w d u gs L 5 Q s := by
  replace lr := ltN lr
  obtain ⟨q1, q2, q3, q4, q5, q6, q7⟩ := hA
  obtain ⟨r1, r2, r3, r4, r5, r6, r7⟩ := hB
  have hk : PsOk m [(Str.ofString "places", .ref r)] := ⟨hm, trivial⟩
  have F1 : Fr h₀ L s.heap (kb m [(Str.ofString "places", .ref r)]) := by rw [kb_eq hk]; exact F
  dsimp only [kb] at F1
  clear F
  have hpA := p34 hp
  have holA := len2p hp hol
  have hzl : zs.length ≤ 8 := by rw [IntsAre.length hzs]; walk_at "om"
  have hzz : zs.toArray.size ≤ sizeLine := by rw [List.size_toArray]; exact Nat.le_trans (by assumption) (by decide)
  have ho1 : 0 < os.length := by walk_at "om"
  have C0 := C
  obtain ⟨X, T, B⟩ := C
  unfold cells7 at N
  unfold LawAt LA LE
  revert X
  k_fill
  intro X
  conv in (List.headD (List.drop _ lawBody) _) => whnf
  conv in (List.drop _ lawBody) => whnf
  obtain ⟨sc, hsc⟩ : ∃ sc, sc = lawScope := ⟨_, rfl⟩
  rw [← hsc]
  conv at hsc => rhs; whnf
  subst hsc
  show wpAny _ _ _ _ _ _
  (k_fold; first | (refine letAE (fun A1 e1 => wpAny _ A1 (execs _ e1) _ _ _) ?_; intro A1 e1) | (refine letA (fun A1 => wpAny _ A1 _ _ _ _) ?_; intro A1) | skip)
  ((try (show wpAny _ _ _ _ _ _; k_fold)); k_steps)
  have hSM : StopMark := trivial
  show wpAny _ _ _ _ _ _
  ((try (show wpAny _ _ _ _ _ _; k_fold)); k_steps)
  · exact next _ _ (Str.ofString "") _ _ (by decide) (by rw [← kb_eq hk]; assumption) (news_pick (by assumption) fun q hq => .tail _ hq) (by assumption)
  · exact next _ _ (Str.ofString "\\(") _ _ (by decide) (by rw [← kb_eq hk]; assumption) (news_pick (by assumption) fun q hq => .tail _ hq) (by assumption)
  · exact next _ _ (Str.ofString "\")\"") _ _ (by decide) (by rw [← kb_eq hk]; assumption) (news_pick (by assumption) fun q hq => .tail _ hq) (by assumption)
  · exact next _ _ (Str.ofString "\\\"") _ _ (by decide) (by rw [← kb_eq hk]; assumption) (news_pick (by assumption) fun q hq => .tail _ hq) (by assumption)
  · exact next _ _ (Str.ofString "\\\\") _ _ (by decide) (by rw [← kb_eq hk]; assumption) (news_pick (by assumption) fun q hq => .tail _ hq) (by assumption)
end
theorem resetS9 : ∃ x : Nat, x = 0 := by
  first | (walk1; fail) | skip
  w_top off
  exact ⟨0, rfl⟩
section
local macro_rules | `(tactic| walk_at "exec Assign cons ListComp") => `(tactic| ((with_reducible rename StopMark => hSM); refine stop ?_))
theorem resetD4 : ∃ x : Nat, x = 0 := by
  first | (walk1; fail) | skip
  w_top off
  exact ⟨0, rfl⟩
section
noncomputable def pieceAt (sg rd : Str) (q : Int) (i : Nat) : Str := (if (i : Int) = q then rd else Str.ofString "") ++ Txt.item sg (i : Int)
noncomputable def piecesOf (sg rd : Str) (q : Int) (n : Nat) : List Str := (List.range n).map (pieceAt sg rd q)
theorem piecesOf_succ (sg rd : Str) (q : Int) (n : Nat) : piecesOf sg rd q (n + 1) = piecesOf sg rd q n ++ [pieceAt sg rd q n] := by
  unfold piecesOf
  rw [List.range_succ, List.map_append]; rfl
set_option maxHeartbeats 8000000 in
theorem law_s6 {w : World}
    {mg mb : Str → Option Value} {mean : ExcName → Option Value} {h₀ : Heap} {d u : Nat} {gs : Option (List Code)} {s : Shared} {Q : Flow → Shared → Prop}
    (C : Ctx w mg mb mean h₀ [] d u gs h₀) (hd : d ≤ 320) (hu : u ≤ 1200)
    {L r a b : Addr} {m : Str → Option Value} {p : Int} {sg rd : Str} {t₁ u₁ v₁ tg trd : Tok} {o1 o2 o3 o4 o5 o6 o7 oa : Obj} {os : List Int} {zs : List Value} {n2 : Nat} (hp : p = 3 ∨ p = 4) (F : Fr h₀ L s.heap m) (hm : m (Str.ofString "places") = some (.ref r))
    (N : News h₀ L s.heap ((b, W.listOf zs.toArray n2) :: (a, oa) :: (r, rangeO (2 * p) t₁ u₁ v₁) :: cells7 L o1 o2 o3 o4 o5 o6 o7)) (lr : L + 1 + 1 + 1 + 1 + 1 + 1 + 1 < r) (hA : Apart L a) (hB : Apart L b)
    (d3 : o3.data = .cell (some (.str sg tg))) (d5 : o5.data = .cell (some (.ref b))) (d6 : o6.data = .cell (some (.str rd trd))) (d7 : o7.data = .cell none)
    (hzs : IntsAre zs os) (hol : os.length = (2 * p).toNat) (hsl : sg.length = (2 * p).toNat) (hrd : rd ∈ riders)
    (next : ∀ h' tk c ws n3 o7', StrsAre ws (piecesOf sg rd (Int.fmod (os.getD 1 0) (sg.length : Int)) (2 * p).toNat) → Fr h₀ L h' m → News h₀ L h' ((c, W.listOf ws.toArray n3) :: (b, W.listOf zs.toArray n2) :: (a, oa) :: (r, rangeO (2 * p) t₁ u₁ v₁) :: cells7 L o1 o2 o3 o4 o5 o6 o7') →
      Apart L c → b ≠ c → o7'.data = .cell (some (.ref c)) → LawAt w d u gs L 7 Q { s with heap := h', toks := tk }) :
    LawAt w d u gs L 6 Q s := by
  replace lr := ltN lr
  obtain ⟨q1, q2, q3, q4, q5, q6, q7⟩ := hA
  obtain ⟨r1, r2, r3, r4, r5, r6, r7⟩ := hB
  have hk : PsOk m [(Str.ofString "places", .ref r)] := ⟨hm, trivial⟩
  have F1 : Fr h₀ L s.heap (kb m [(Str.ofString "places", .ref r)]) := by rw [kb_eq hk]; exact F
  dsimp only [kb] at F1
  clear F
  have hpA := p34 hp
  have holA := len2p hp hol
  have hslA := len2p hp hsl
  have hzl : zs.length ≤ 8 := by rw [IntsAre.length hzs]; walk_at "om"
  have hzz : zs.toArray.size ≤ sizeLine := by rw [List.size_toArray]; exact Nat.le_trans (by assumption) (by decide)
  have ho1 : 1 < os.length := by walk_at "om"
  have hsl8 : sg.length ≤ 8 := by walk_at "om"
  have hrl : rd.length ≤ 3 := by
    have : ∀ x ∈ riders, x.length ≤ 3 := by decide
    exact this rd hrd
  have C0 := C
  obtain ⟨X, T, B⟩ := C
  unfold cells7 at N
  unfold LawAt LA LE
  revert X
  k_fill
  intro X
  conv in (List.headD (List.drop _ lawBody) _) => whnf
  conv in (List.drop _ lawBody) => whnf
  obtain ⟨sc, hsc⟩ : ∃ sc, sc = lawScope := ⟨_, rfl⟩
  rw [← hsc]
  conv at hsc => rhs; whnf
  subst hsc
  show wpAny _ _ _ _ _ _
  (k_fold; first | (refine letAE (fun A1 e1 => wpAny _ A1 (execs _ e1) _ _ _) ?_; intro A1 e1) | (refine letA (fun A1 => wpAny _ A1 _ _ _ _) ?_; intro A1) | skip)
  ((try (show wpAny _ _ _ _ _ _; k_fold)); k_steps)
  refine LCg.ListComp_U (F₀ := by assumption) (by with_unfolding_all rfl) (by decide) (by rfl) (by decide) (by rfl) ?_
  ((try (show wpAny _ _ _ _ _ _; k_fold)); k_steps)
  refine LCg.CompSrc.range (n := (2 * p).toNat) rfl (by assumption) (by assumption) (N _ (.tail _ (.tail _ (.head _)))).1 (small_of (by walk_at "om") (by walk_at "om")) (size_of (by walk_at "om")) (by rw [sizeLine_eq]; walk_at "om") (fun g => comp_rest (n := (2 * p).toNat) (fun i zs => StrsAre zs (piecesOf sg rd (Int.fmod (os.getD 1 0) (sg.length : Int)) i)) trivial ?_ ?_ _ 0 [] (Nat.zero_add _) .nil)
  · intro i ys2 v I oI C oC D m₂ h tk E' hin hxs2 zz14 hoC hmC F N off ne
    obtain ⟨tv, rfl⟩ := zz14
    try (show wpAny _ _ _ _ _ _; k_fold)
    ((try (show wpAny _ _ _ _ _ _; k_fold)); k_steps)
    · have hq := (by assumption : 0 + (i : Int) = (os.getD (Int.toNat 1) 0).fmod (sg.length : Int))
      refine ⟨_, _, rfl, F, N, ?_⟩
      rw [piecesOf_succ]
      refine strsAre_append hxs2 ?_
      unfold pieceAt
      rw [if_pos (by rw [Int.zero_add] at hq; exact hq), Int.zero_add]
      exact .cons _ _ .nil
    · have hq := (by assumption : 0 + (i : Int) ≠ (os.getD (Int.toNat 1) 0).fmod (sg.length : Int))
      refine ⟨_, _, rfl, F, N, ?_⟩
      rw [piecesOf_succ]
      refine strsAre_append hxs2 ?_
      unfold pieceAt
      rw [if_neg (by rw [Int.zero_add] at hq; exact hq), Int.zero_add]
      exact .cons _ _ .nil
  · rintro ys2 hxs2 D h tk F N off
    obtain ⟨e0, e1, e2, e3, e4, e5, e6, e7, e8, e9, _⟩ := off
    dsimp only at e0 e1 e2 e3 e4 e5 e6 e7 e8 e9
    have hSM : StopMark := trivial
    ((try (show wpAny _ _ _ _ _ _; k_fold)); k_steps)
    exact next _ _ D ys2 ys2.length _ hxs2 (by rw [← kb_eq hk]; assumption) (by assumption) ⟨e3, e4, e5, e6, e7, e8, e9⟩ e0 (by assumption)
end
theorem resetD5 : ∃ x : Nat, x = 0 := by
  first | (walk1; fail) | skip
  w_top off
  exact ⟨0, rfl⟩
section
noncomputable def upTo (n : Nat) : List Int := (List.range n).map fun i : Nat => (i : Int)
theorem upTo_succ (n : Nat) : upTo (n + 1) = upTo n ++ [(n : Int)] := by
  unfold upTo
  rw [List.range_succ, List.map_append]; rfl
/-- f lies above all that stands -/
noncomputable def Top7 (f e c b a r L : Nat) : Prop := e < f ∧ c < f ∧ b < f ∧ a < f ∧ r < f ∧ L + 1 + 1 + 1 + 1 + 1 + 1 + 1 < f ∧ L + 1 + 1 + 1 + 1 + 1 + 1 < f ∧ L + 1 + 1 + 1 + 1 + 1 < f ∧ L + 1 + 1 + 1 + 1 < f ∧ L + 1 + 1 + 1 < f ∧ L + 1 + 1 < f ∧ L + 1 < f
set_option maxHeartbeats 8000000 in
theorem law_s7 {w : World}
    {mg mb : Str → Option Value} {mean : ExcName → Option Value} {h₀ : Heap} {d u : Nat} {gs : Option (List Code)} {s : Shared} {Q : Flow → Shared → Prop}
    (C : Ctx w mg mb mean h₀ [] d u gs h₀) (hd : d ≤ 320) (hu : u ≤ 1200)
    {L r a b c : Addr} {m : Str → Option Value} {p : Int} {t₁ u₁ v₁ : Tok} {o1 o2 o3 o4 o5 o6 o7 oa ob oc : Obj} (hp : p = 3 ∨ p = 4) (F : Fr h₀ L s.heap m) (hm : m (Str.ofString "places") = some (.ref r))
    (N : News h₀ L s.heap ((c, oc) :: (b, ob) :: (a, oa) :: (r, rangeO (2 * p) t₁ u₁ v₁) :: cells7 L o1 o2 o3 o4 o5 o6 o7))
    (next : ∀ h' tk m' e f ks n4, IntsAre ks (upTo (2 * p).toNat) → Fr h₀ L h' m' → m' (Str.ofString "order") = some (.ref e) → m' (Str.ofString "met") = some (.ref f) →
      News h₀ L h' ((f, W.listOf #[] 0) :: (e, W.listOf ks.toArray n4) :: (c, oc) :: (b, ob) :: (a, oa) :: (r, rangeO (2 * p) t₁ u₁ v₁) :: cells7 L o1 o2 o3 o4 o5 o6 o7) →
      Top7 f e c b a r L →
      LawAt w d u gs L 9 Q { s with heap := h', toks := tk }) :
    LawAt w d u gs L 7 Q s := by
  have hk : PsOk m [(Str.ofString "places", .ref r)] := ⟨hm, trivial⟩
  have F1 : Fr h₀ L s.heap (kb m [(Str.ofString "places", .ref r)]) := by rw [kb_eq hk]; exact F
  dsimp only [kb] at F1
  clear F
  have C0 := C
  obtain ⟨X, T, B⟩ := C
  unfold cells7 at N
  unfold LawAt LA LE
  revert X
  k_fill
  intro X
  conv in (List.headD (List.drop _ lawBody) _) => whnf
  conv in (List.drop _ lawBody) => whnf
  obtain ⟨sc, hsc⟩ : ∃ sc, sc = lawScope := ⟨_, rfl⟩
  rw [← hsc]
  conv at hsc => rhs; whnf
  subst hsc
  show wpAny _ _ _ _ _ _
  (k_fold; first | (refine letAE (fun A1 e1 => wpAny _ A1 (execs _ e1) _ _ _) ?_; intro A1 e1) | (refine letA (fun A1 => wpAny _ A1 _ _ _ _) ?_; intro A1) | skip)
  ((try (show wpAny _ _ _ _ _ _; k_fold)); k_steps)
  refine LCg.CompSrc.range (n := (2 * p).toNat) rfl (by assumption) (by assumption) (N _ (.tail _ (.tail _ (.tail _ (.head _))))).1 (small_of (by walk_at "om") (by walk_at "om")) (size_of (by walk_at "om")) (by rw [sizeLine_eq]; walk_at "om") (fun g => comp_rest (n := (2 * p).toNat) (fun i zs => IntsAre zs (upTo i)) trivial ?_ ?_ _ 0 [] (Nat.zero_add _) .nil)
  · intro i ys2 v I oI C oC D m₂ h tk E' hin hxs2 zz14 hoC hmC F N off ne
    obtain ⟨tv, rfl⟩ := zz14
    try (show wpAny _ _ _ _ _ _; k_fold)
    ((try (show wpAny _ _ _ _ _ _; k_fold)); k_steps)
    refine ⟨_, _, rfl, F, N, ?_⟩
    rw [upTo_succ, Int.zero_add]
    exact IntsAre.append hxs2 (.cons _ _ .nil)
  · rintro ys2 hxs2 D h tk F N off
    ((try (show wpAny _ _ _ _ _ _; k_fold)); k_steps)
    exact next _ _ _ D _ ys2 ys2.length hxs2 (by assumption) rfl rfl (by assumption) (by unfold Top7; assumption)
end
section
/-- the row that an order spells -/
noncomputable def rowS (sg : Str) (os : List Int) : Str := Txt.join (Str.ofString "") (os.map (Txt.item sg))
noncomputable def triedOf (os : List Int) (k : Int) : List Int := [os.getD 0 0, os.getD k.toNat 0] ++ (os.take k.toNat).drop 1 ++ os.drop (k.toNat + 1)
/-- do the brackets close -/
noncomputable def balFrom : List Str → Int → Bool
  | [], o => o == 0
  | y :: r, o => if y = Str.ofString "(" then balFrom r (o + 1) else if o - 1 < 0 then false else balFrom r (o - 1)
noncomputable def balOf (sg : Str) (os : List Int) : Bool := balFrom (os.map (Txt.item sg)) 0
noncomputable def stepOf (sg : Str) (os : List Int) : List Int := (placesOf (rowS sg os)).foldl (fun om k => if om = [] then (if balOf sg (triedOf os k) then triedOf os k else []) else om) []
noncomputable def ordAt (sg : Str) : Nat → List Int
  | 0 => upTo sg.length
  | j + 1 => stepOf sg (ordAt sg j)
noncomputable def rowAt (sg : Str) (j : Nat) : Str := rowS sg (ordAt sg j)
noncomputable def rows3 : List Str := (List.range 64).map fun x : Nat => rowN (x : Int) 3 6
noncomputable def rows4 : List Str := (List.range 256).map fun x : Nat => rowN (x : Int) 4 8
noncomputable def firsts (l : List Str) : List Str := l.foldl (fun acc x => if x ∈ acc then acc else acc ++ [x]) []
theorem try3 : (firsts rows3).length = 5 := by decide +kernel
end
section
open PySem.Builtin.Str
noncomputable def Br (l : List Nat) : Prop := ∀ c ∈ l, c = 40 ∨ c = 41
noncomputable def runB : List Nat → Int → (Int → Bool) → Bool
  | [], o, k => k o
  | c :: r, o, k => if c = 40 then runB r (o + 1) k else if o - 1 < 0 then false else runB r (o - 1) k
/-- do the brackets close -/
noncomputable def balL (l : List Nat) : Bool := runB l 0 (fun o => o == 0)
theorem runB_cons (c : Nat) (r : List Nat) (o : Int) (k : Int → Bool) : runB (c :: r) o k = if c = 40 then runB r (o + 1) k else if o - 1 < 0 then false else runB r (o - 1) k := rfl
theorem runB_append : ∀ (u v : List Nat) (o : Int) (k : Int → Bool), runB (u ++ v) o k = runB u o (fun o' => runB v o' k)
  | [], v, o, k => rfl
  | c :: r, v, o, k => by
    rw [List.cons_append, runB_cons, runB_cons, runB_append r v, runB_append r v]
theorem Br.tail {c : Nat} {r : List Nat} (h : Br (c :: r)) : Br r := fun x hx => h x (.tail _ hx)
theorem check_cons (y : Int × Str) (r : List (Int × Str)) (o : Int) : checkFrom (y :: r) o = if y.2 == Str.ofString "(" then checkFrom r (o + 1) else if y.2 == Str.ofString ")" then (if o - 1 < 0 then false else checkFrom r (o - 1)) else checkFrom r o := rfl
theorem check_run : ∀ (u t : List Nat) (i : Nat) (o : Int), Br u → checkFrom (escFrom (u ++ t) i false) o = runB u o (fun o' => checkFrom (escFrom t (i + u.length) false) o')
  | [], t, i, o, _ => rfl
  | c :: r, t, i, o, hb => by
    have e : i + (c :: r).length = i + 1 + r.length := by rw [List.length_cons]; (first | lia | walk_at "om")
    rw [List.cons_append, runB_cons, e]
    rcases hb c (.head _) with rfl | rfl
    · rw [escFrom_ne (by decide), check_cons, if_pos (by dsimp only; decide), if_pos rfl, check_run r t (i + 1) (o + 1) hb.tail]
    · rw [escFrom_ne (by decide), check_cons, if_neg (by dsimp only; decide), if_pos (by dsimp only; decide), if_neg (by decide : ¬ (41 : Nat) = 40)]
      split
      · rfl
      · rw [check_run r t (i + 1) (o - 1) hb.tail]
theorem check_skip {c : Nat} {t : List Nat} {i : Nat} {o : Int} (hc : c = 40 ∨ c = 34 ∨ c = 92) : checkFrom (escFrom (92 :: c :: t) i false) o = checkFrom (escFrom t (i + 1 + 1) false) o := by
  rw [escFrom_92, escFrom_nt, check_cons]
  rcases hc with rfl | rfl | rfl
  all_goals rw [if_neg (by dsimp only; decide), if_neg (by dsimp only; decide)]
theorem strip_run (x : Str) : ∀ (u t : List Nat) (i : Nat) (st : Int × Option Int × List Str), Br u → (escFrom (u ++ t) i false).foldl (stripStep x) st = (escFrom t (i + u.length) false).foldl (stripStep x) st
  | [], t, i, st, _ => rfl
  | c :: r, t, i, st, hb => by
    have e : i + (c :: r).length = i + 1 + r.length := by rw [List.length_cons]; (first | lia | walk_at "om")
    rw [List.cons_append, e]
    have hs : stripStep x st ((i : Int), (⟨#[c]⟩ : Str)) = st := by
      unfold stripStep
      rcases hb c (.head _) with rfl | rfl
      all_goals rw [if_neg (by dsimp only; decide)]
    have hc : c ≠ 92 := by rcases hb c (.head _) with rfl | rfl <;> decide
    rw [escFrom_ne hc, List.foldl_cons, hs, strip_run x r t (i + 1) st hb.tail]
theorem strip_skip (x : Str) {c : Nat} {t : List Nat} {i : Nat} {st : Int × Option Int × List Str} (hc : c = 40 ∨ c = 34 ∨ c = 92) : (escFrom (92 :: c :: t) i false).foldl (stripStep x) st = (escFrom t (i + 1 + 1) false).foldl (stripStep x) st := by
  rw [escFrom_92, escFrom_nt, List.foldl_cons]
  have hs : stripStep x st ((i + 1 : Nat), (Str.ofString "\\" ++ ⟨#[c]⟩ : Str)) = st := by
    unfold stripStep
    rcases hc with rfl | rfl | rfl
    all_goals rw [if_neg (by dsimp only; decide)]
  rw [hs]
theorem strip_all (x : Str) : stripAt x (escOf x).length = (escOf x).foldl (stripStep x) (0, none, []) := by
  unfold stripAt; rw [List.take_length]
/-- a rider that has no quotation mark of its own -/
noncomputable def Calm (r : List Nat) : Prop := r = [] ∨ ∃ c, (c = 40 ∨ c = 34 ∨ c = 92) ∧ r = [92, c]
theorem calm_check {r t : List Nat} (h : Calm r) (i : Nat) (o : Int) : checkFrom (escFrom (r ++ t) i false) o = checkFrom (escFrom t (i + r.length) false) o := by
  rcases h with rfl | ⟨c, hc, rfl⟩
  · rfl
  · exact check_skip hc
theorem calm_strip (x : Str) {r t : List Nat} (h : Calm r) (i : Nat) (st : Int × Option Int × List Str) : (escFrom (r ++ t) i false).foldl (stripStep x) st = (escFrom t (i + r.length) false).foldl (stripStep x) st := by
  rcases h with rfl | ⟨c, hc, rfl⟩
  · rfl
  · exact strip_skip x hc
theorem str_len_cps (x : Str) : x.length = x.cps.toList.length := by simp [Str.length]
theorem str_ext {x : Str} {l : List Nat} (h : x.cps.toList = l) : x = ⟨l.toArray⟩ := by
  cases x with | mk c => cases c with | mk l' => subst h; rfl
theorem slice_all {x : Str} : Txt.slice x (some 0) none = x := by
  rw [slice_from_eq (b := x.length) (Int.le_refl 0) (Int.natCast_nonneg _) rfl]
  have e : (List.drop (0 : Int).toNat x.cps.toList).take ((x.length : Int) - 0).toNat = x.cps.toList := by
    rw [Int.sub_zero, Int.toNat_natCast, str_len_cps]
    exact List.take_length
  rw [e]
theorem join_one (x : Str) : Txt.join (Str.ofString "") [x] = x := by
  show glued _ _ = _
  rw [StrLaws.glued_eq_join]; rfl
theorem calm_same {x : Str} {u r v : List Nat} (hu : Br u) (hr : Calm r) (hv : Br v) (hx : x.cps.toList = u ++ (r ++ v)) (h0 : 0 < x.length) : stripOf x = x := by
  have hs : stripAt x (escOf x).length = (0, none, []) := by
    rw [strip_all]
    unfold escOf
    rw [hx, strip_run x _ _ _ _ hu, calm_strip x hr]
    have := strip_run x v [] (0 + u.length + r.length) (0, none, []) hv
    rw [List.append_nil] at this
    rw [this]; rfl
  unfold stripOf
  split
  · rfl
  · unfold stripParts
    rw [hs]
    dsimp only
    rw [if_pos (by (first | lia | walk_at "om")), List.nil_append, slice_all, join_one]
theorem calm_checks {x : Str} {u r v : List Nat} (hu : Br u) (hr : Calm r) (hv : Br v) (hx : x.cps.toList = u ++ (r ++ v)) (h0 : 0 < x.length) : checkOf x = balL (u ++ v) := by
  unfold checkOf balL
  rw [calm_same hu hr hv hx h0, runB_append]
  unfold escOf
  rw [hx, check_run _ _ _ _ hu]
  congr 1
  funext o
  rw [calm_check hr]
  have := check_run v [] (0 + u.length + r.length) o hv
  rw [List.append_nil] at this
  rw [this]; rfl
theorem quote_parts {x : Str} {u v : List Nat} (hu : Br u) (hv : Br v) (hx : x.cps.toList = u ++ (34 :: 41 :: 34 :: v)) :
    stripAt x (escOf x).length = ((u.length : Int) + 2 + 1, none, if (0 : Int) = u.length then [] else [Txt.slice x (some 0) (some (u.length : Int))]) := by
  rw [strip_all]
  unfold escOf
  rw [hx, strip_run x _ _ _ _ hu, Nat.zero_add, escFrom_ne (by decide), escFrom_ne (by decide), escFrom_ne (by decide), List.foldl_cons, List.foldl_cons, List.foldl_cons]
  have e1 : stripStep x (0, none, []) ((u.length : Int), (⟨#[34]⟩ : Str)) = (0, some (u.length : Int), []) := by
    unfold stripStep; rw [if_pos (by dsimp only; decide)]
  have e2 : ∀ st, stripStep x st (((u.length + 1 : Nat) : Int), (⟨#[41]⟩ : Str)) = st := by
    intro st; unfold stripStep; rw [if_neg (by dsimp only; decide)]
  have e3 : stripStep x (0, some (u.length : Int), []) (((u.length + 1 + 1 : Nat) : Int), (⟨#[34]⟩ : Str)) = (((u.length + 1 + 1 : Nat) : Int) + 1, none, if (0 : Int) = u.length then [] else [] ++ [Txt.slice x (some 0) (some (u.length : Int))]) := by
    unfold stripStep; rw [if_pos (by dsimp only; decide)]
  have e4 := strip_run x v [] (u.length + 1 + 1 + 1)
  simp only [List.append_nil] at e4
  rw [e1, e2, e3, e4 _ hv]
  rfl
theorem join_two (x y : Str) : Txt.join (Str.ofString "") [x, y] = ⟨(x.cps.toList ++ y.cps.toList).toArray⟩ := by
  show glued _ _ = _
  rw [StrLaws.glued_eq_join]
  show x ++ Str.ofString "" ++ y = _
  apply str_ext
  show (x.cps ++ (Str.ofString "").cps ++ y.cps).toList = _
  rw [Array.toList_append, Array.toList_append]
  show x.cps.toList ++ [] ++ y.cps.toList = _
  rw [List.append_nil]
theorem quote_strips {x : Str} {u v : List Nat} (hu : Br u) (hv : Br v) (hv0 : v ≠ []) (hx : x.cps.toList = u ++ (34 :: 41 :: 34 :: v)) : stripOf x = ⟨(u ++ v).toArray⟩ := by
  have hl : x.length = u.length + (v.length + 1 + 1 + 1) := by rw [str_len_cps, hx, List.length_append]; rfl
  have hvl : 0 < v.length := List.length_pos_iff.mpr hv0
  have h34 : (!(Builtin.Str.occurrences x ⟨#[34]⟩ 0 x.length 1).isEmpty) = true := by
    rw [StrLaws.found_one, hx]; simp
  have hq : Str.ofString "\"" = ⟨#[34]⟩ := by decide
  have htail : Txt.slice x (some ((u.length : Int) + 2 + 1)) none = ⟨v.toArray⟩ := by
    rw [slice_from_eq (b := x.length) (by (first | lia | walk_at "om")) (by (first | lia | walk_at "om")) rfl, hx]
    have e1 : ((u.length : Int) + 2 + 1).toNat = u.length + 3 := by (first | lia | walk_at "om")
    have e2 : ((x.length : Int) - ((u.length : Int) + 2 + 1)).toNat = v.length := by (first | lia | walk_at "om")
    rw [e1, e2, List.drop_append, List.drop_of_length_le (by (first | lia | walk_at "om"))]
    have e3 : u.length + 3 - u.length = 3 := by (first | lia | walk_at "om")
    rw [e3]
    show (⟨(List.take v.length v).toArray⟩ : Str) = _
    rw [List.take_length]
  unfold stripOf
  rw [hq, if_neg (by rw [Bool.not_eq_true']  at h34; rw [h34]; exact Bool.false_ne_true)]
  unfold stripParts
  rw [quote_parts hu hv hx]
  dsimp only
  rw [if_pos (by (first | lia | walk_at "om")), htail]
  by_cases hu0 : (0 : Int) = u.length
  · have : u = [] := List.eq_nil_of_length_eq_zero (by (first | lia | walk_at "om"))
    rw [if_pos hu0, this, List.nil_append, join_one]; rfl
  · have hhead : Txt.slice x (some 0) (some (u.length : Int)) = ⟨u.toArray⟩ := by
      rw [eq_of_beq (slice_closesL (Int.le_refl 0) (Int.natCast_nonneg _) (by (first | lia | walk_at "om"))), hx]
      show (⟨(List.take ((u.length : Int) - 0).toNat _).toArray⟩ : Str) = _
      rw [Int.sub_zero, Int.toNat_natCast, show (0 : Int).toNat = 0 from rfl, List.drop_zero, List.take_append_of_le_length (Nat.le_refl _), List.take_length]
    rw [if_neg hu0, hhead]
    exact join_two _ _
theorem quote_checks {x : Str} {u v : List Nat} (hu : Br u) (hv : Br v) (hv0 : v ≠ []) (hx : x.cps.toList = u ++ (34 :: 41 :: 34 :: v)) : checkOf x = balL (u ++ v) := by
  unfold checkOf
  rw [quote_strips hu hv hv0 hx]
  unfold escOf balL
  have hb : Br (u ++ v) := fun c hc => (List.mem_append.mp hc).elim (hu c) (hv c)
  have := check_run (u ++ v) [] 0 0 hb
  rw [List.append_nil] at this
  show checkFrom (escFrom (u ++ v) 0 false) 0 = _
  rw [this]; rfl
end
section
inductive Oct : List Int → List Nat → Prop
  | nil : Oct [] []
  | op {f : Int} {r : List Int} {c : List Nat} : 1 ≤ f → f ≤ 63 → Oct r c → Oct ((f + 64) :: r) (40 :: c)
  | cl {f : Int} {r : List Int} {c : List Nat} : 1 ≤ f → f ≤ 63 → Oct r c → Oct (f :: r) (41 :: c)
theorem and64_fin : ∀ k : Nat, k < 128 → ((Builtin.bitAnd (k : Int) 64 ≠ 0) ↔ 64 ≤ k) := by decide +kernel
theorem and64 {n : Int} (h0 : 0 ≤ n) (h : n < 128) : Builtin.bitAnd n 64 ≠ 0 ↔ 64 ≤ n := by
  obtain ⟨k, rfl⟩ := Int.eq_ofNat_of_zero_le h0
  rw [and64_fin k (by (first | lia | walk_at "om"))]; (first | lia | walk_at "om")
theorem read_op {v o : Int} {r : List Int} (h0 : 64 ≤ o) (h1 : o < 128) : readL v (o :: r) = readL (v * 64 + o % 64) r := by
  rw [readL_cons, if_pos ((and64 (by (first | lia | walk_at "om")) h1).mpr h0)]
theorem read_cl {v o : Int} {r : List Int} (h0 : 0 ≤ o) (h1 : o < 64) : readL v (o :: r) = (v * 64 + o % 64) :: readL 0 r := by
  rw [readL_cons, if_neg fun h => by have := (and64 h0 (by (first | lia | walk_at "om"))).mp h; (first | lia | walk_at "om")]
theorem sum_64 (g : Int → Int) : ∀ l : List Int, (l.map fun k => g k * 64).sum = (l.map g).sum * 64
  | [] => rfl
  | a :: r => by rw [List.map_cons, List.map_cons, List.sum_cons, List.sum_cons, sum_64 g r, Int.add_mul]
theorem val_snoc (F : List Int) (f : Int) : valOf (F ++ [f]) = valOf F * 64 + f := by
  unfold valOf rangeKs
  rw [List.length_append, List.length_singleton, List.range_succ, List.map_append, List.map_append, List.sum_append]
  simp only [List.map_cons, List.map_nil, List.sum_cons, List.sum_nil, Int.add_zero]
  congr 1
  · rw [← sum_64]
    congr 1
    apply List.map_congr_left
    intro k hk
    obtain ⟨i, hi, rfl⟩ := List.mem_map.mp hk
    have hi := List.mem_range.mp hi
    have e1 : (0 + (i : Int)).toNat = i := zi i
    have e3 : ((F.length + 1 : Nat) : Int) - 1 - (0 + (i : Int)) = ((F.length : Int) - 1 - (0 + (i : Int))) + 1 := by (first | lia | walk_at "om")
    have e4 : 0 ≤ (F.length : Int) - 1 - (0 + (i : Int)) := by (first | lia | walk_at "om")
    have e2 : (((F.length + 1 : Nat) : Int) - 1 - (0 + (i : Int))).toNat = ((F.length : Int) - 1 - (0 + (i : Int))).toNat + 1 := by rw [e3]; exact Int.toNat_add e4 (by decide)
    rw [e2, Int.pow_succ, ← Int.mul_assoc, e1]
    congr 2
    rw [List.getD_eq_getElem?_getD, List.getD_eq_getElem?_getD, List.getElem?_append_left hi]
  · have e1 : (0 + (F.length : Int)).toNat = F.length := zi _
    have e2 : (((F.length + 1 : Nat) : Int) - 1 - (0 + (F.length : Int))).toNat = 0 := by (first | lia | walk_at "om")
    rw [e1, e2, List.getD_eq_getElem?_getD, List.getElem?_append_right (Nat.le_refl _), Nat.sub_self]
    simp
theorem due_read : ∀ (l : List Int) (N F : List Int), (∀ o ∈ l, 0 ≤ o ∧ o < 128) → (l.foldl dueStep (N, F)).1 = N ++ readL (valOf F) l
  | [], N, F, _ => by
    show N = N ++ readL _ []
    unfold readL; rw [List.append_nil]
  | o :: r, N, F, h => by
    have ho := h o (.head _)
    have hr : ∀ o ∈ r, 0 ≤ o ∧ o < 128 := fun x hx => h x (.tail _ hx)
    have hf : Int.fmod o 64 = o % 64 := Int.fmod_eq_emod_of_nonneg _ (by decide)
    rw [List.foldl_cons]
    unfold dueStep
    by_cases hc : o < 64
    · rw [if_pos hc, read_cl ho.1 hc]
      show (List.foldl dueStep (N ++ [valOf (F ++ [Int.fmod o 64])], []) r).1 = _
      rw [due_read r _ _ hr, val_snoc, hf, List.append_assoc]; rfl
    · rw [if_neg hc, read_op (by (first | lia | walk_at "om")) ho.2]
      show (List.foldl dueStep (N, F ++ [Int.fmod o 64]) r).1 = _
      rw [due_read r _ _ hr, val_snoc, hf]
theorem due_eq {l : List Int} (h : ∀ o ∈ l, 0 ≤ o ∧ o < 128) : (dueAt l l.length).1 = readL 0 l := by
  unfold dueAt
  rw [List.take_length, due_read l [] [] h]; rfl
theorem divs_of : ∀ (m : Nat) (n : Int), 64 ^ m ≤ n → n < 64 ^ (m + 1) → divs n = m
  | 0, n, _, h => divs_lt (by (first | lia | walk_at "om"))
  | m + 1, n, h0, h1 => by
    have hm : (0 : Int) < 64 ^ m := Int.pow_pos (by decide)
    have e1 : (64 : Int) ^ (m + 1) = 64 ^ m * 64 := Int.pow_succ _ _
    have e2 : (64 : Int) ^ (m + 1 + 1) = 64 ^ (m + 1) * 64 := Int.pow_succ _ _
    rw [divs, dif_pos (by (first | lia | walk_at "om")), divs_of m (n / 64) (by (first | lia | walk_at "om")) (by (first | lia | walk_at "om"))]
noncomputable def Pend (v : Int) (m : Nat) : Prop := (m = 0 ∧ v = 0) ∨ ∃ j, m = j + 1 ∧ 64 ^ j ≤ v ∧ v < 64 ^ (j + 1)
theorem pend_next {v f : Int} {m : Nat} (h : Pend v m) (h1 : 1 ≤ f) (h2 : f ≤ 63) : 64 ^ m ≤ v * 64 + f ∧ v * 64 + f < 64 ^ (m + 1) := by
  rcases h with ⟨rfl, rfl⟩ | ⟨j, rfl, a, b⟩
  · exact ⟨by show (1 : Int) ≤ _; (first | lia | walk_at "om"), by show _ < (64 : Int); (first | lia | walk_at "om")⟩
  · have e1 : (64 : Int) ^ (j + 1) = 64 ^ j * 64 := Int.pow_succ _ _
    have e2 : (64 : Int) ^ (j + 1 + 1) = 64 ^ (j + 1) * 64 := Int.pow_succ _ _
    (first | lia | walk_at "om")
theorem closes_cons (n : Int) (r : List Int) (k : Nat) (o : Int) : closesFrom (n :: r) k o = if 256 + (o + divs n) - k - 1 < 256 then false else closesFrom r (k + 1) (o + divs n) := rfl
theorem closes_run {K : Int → Bool} {l : List Int} {cs : List Nat} (h : Oct l cs) : ∀ (v : Int) (m k : Nat) (o b : Int), Pend v m → b = o + m - k → 0 ≤ b →
    runB cs b K = (if closesFrom (readL v l) k o = true then K (b + cs.length - 2 * (readL v l).length) else false) ∧ (closesFrom (readL v l) k o = true → 0 ≤ b + cs.length - 2 * (readL v l).length) := by
  induction h with
  | nil =>
    intro v m k o b hp hb h0
    have e : readL v [] = [] := by unfold readL; rfl
    rw [e]
    refine ⟨?_, fun _ => by simpa using h0⟩
    show K b = if true = true then K (b + 0 - 2 * 0) else false
    rw [if_pos rfl]; congr 1; (first | lia | walk_at "om")
  | @op f r c h1 h2 _ ih =>
    intro v m k o b hp hb h0
    rw [read_op (by (first | lia | walk_at "om")) (by (first | lia | walk_at "om")), runB_cons, if_pos rfl]
    have e : (f + 64) % 64 = f := by (first | lia | walk_at "om")
    rw [e]
    have hn := pend_next hp h1 h2
    obtain ⟨i1, i2⟩ := ih (v * 64 + f) (m + 1) k o (b + 1) (.inr ⟨m, rfl, hn.1, hn.2⟩) (by (first | lia | walk_at "om")) (by (first | lia | walk_at "om"))
    rw [i1, List.length_cons]
    have e3 : b + 1 + (c.length : Int) = b + ((c.length + 1 : Nat) : Int) := by (first | lia | walk_at "om")
    rw [e3] at i2 ⊢
    exact ⟨rfl, i2⟩
  | @cl f r c h1 h2 _ ih =>
    intro v m k o b hp hb h0
    rw [read_cl (by (first | lia | walk_at "om")) (by (first | lia | walk_at "om")), runB_cons, if_neg (by decide)]
    have e : f % 64 = f := by (first | lia | walk_at "om")
    rw [e, closes_cons]
    have hn := pend_next hp h1 h2
    rw [divs_of m _ hn.1 hn.2]
    by_cases hc : b - 1 < 0
    · rw [if_pos hc, if_pos (show 256 + (o + (m : Int)) - k - 1 < 256 by (first | lia | walk_at "om"))]
      exact ⟨rfl, fun h => nomatch h⟩
    · rw [if_neg hc, if_neg (show ¬ 256 + (o + (m : Int)) - k - 1 < 256 by (first | lia | walk_at "om"))]
      obtain ⟨i1, i2⟩ := ih 0 0 (k + 1) (o + m) (b - 1) (.inl ⟨rfl, rfl⟩) (by (first | lia | walk_at "om")) (by (first | lia | walk_at "om"))
      rw [i1, List.length_cons, List.length_cons]
      have e3 : b - 1 + (c.length : Int) - 2 * ((readL 0 r).length : Int) = b + ((c.length + 1 : Nat) : Int) - 2 * (((readL 0 r).length + 1 : Nat) : Int) := by (first | lia | walk_at "om")
      rw [e3] at i2 ⊢
      exact ⟨rfl, i2⟩
theorem closes_bal {l : List Int} {cs : List Nat} {p : Int} (h : Oct l cs) (hl : (cs.length : Int) = 2 * p ∨ (cs.length : Int) = 2 * p - 1) : closesOf (readL 0 l) p = balL cs := by
  obtain ⟨i1, i2⟩ := closes_run (K := fun o => o == 0) h 0 0 0 0 0 (.inl ⟨rfl, rfl⟩) rfl (Int.le_refl 0)
  unfold balL closesOf
  rw [i1]
  cases hc : closesFrom (readL 0 l) 0 0 with
  | false => rfl
  | true =>
    have i3 := i2 hc
    rw [if_pos rfl, Bool.true_and, Bool.eq_iff_iff, beq_iff_eq, beq_iff_eq]
    (first | lia | walk_at "om")
theorem Oct.bound {l : List Int} {cs : List Nat} (h : Oct l cs) : ∀ o ∈ l, 0 ≤ o ∧ o < 128 := by
  induction h with
  | nil => intro o ho; cases ho
  | op h1 h2 _ ih =>
    intro o ho
    rcases List.mem_cons.mp ho with rfl | ho
    · (first | lia | walk_at "om")
    · exact ih o ho
  | cl h1 h2 _ ih =>
    intro o ho
    rcases List.mem_cons.mp ho with rfl | ho
    · (first | lia | walk_at "om")
    · exact ih o ho
end
section
open PySem.Builtin.Str
noncomputable def cd (sg : Str) (k : Int) : Nat := (Txt.charAt sg k).getD 0
theorem item_cd (sg : Str) (k : Int) : Txt.item sg k = ⟨#[cd sg k]⟩ := rfl
theorem join_cps (l : List Str) : (Txt.join (Str.ofString "") l).cps.toList = (l.map (·.cps.toList)).flatten := by
  show (glued _ _).cps.toList = _
  rw [StrLaws.glued_eq_join]
  induction l with
  | nil => rfl
  | cons x r ih =>
    cases r with
    | nil => show x.cps.toList = _; simp
    | cons y r =>
      show (x ++ Str.ofString "" ++ Str.join (Str.ofString "") (y :: r)).cps.toList = _
      show (x.cps ++ (Str.ofString "").cps ++ (Str.join (Str.ofString "") (y :: r)).cps).toList = _
      rw [Array.toList_append, Array.toList_append, ih]
      show x.cps.toList ++ [] ++ _ = _
      rw [List.append_nil]; rfl
theorem flat_cd (sg : Str) : ∀ os : List Int, ((os.map (Txt.item sg)).map (·.cps.toList)).flatten = os.map (cd sg)
  | [] => rfl
  | k :: r => by
    rw [List.map_cons, List.map_cons, List.flatten_cons, flat_cd sg r]; rfl
theorem rowS_cps (sg : Str) (os : List Int) : (rowS sg os).cps.toList = os.map (cd sg) := by
  unfold rowS
  rw [join_cps, flat_cd]
theorem beq40 (c : Nat) : ((⟨#[c]⟩ : Str) = Str.ofString "(") ↔ c = 40 := by
  have e : Str.ofString "(" = ⟨#[40]⟩ := by decide
  rw [e]
  constructor
  · intro h; injection h with h; simpa using h
  · rintro rfl; rfl
theorem bal_run (sg : Str) : ∀ (os : List Int) (o : Int), balFrom (os.map (Txt.item sg)) o = runB (os.map (cd sg)) o (fun o => o == 0)
  | [], o => rfl
  | k :: r, o => by
    rw [List.map_cons, List.map_cons, runB_cons, ← bal_run sg r, ← bal_run sg r]
    show (if Txt.item sg k = Str.ofString "(" then balFrom (r.map (Txt.item sg)) (o + 1) else if o - 1 < 0 then false else balFrom (r.map (Txt.item sg)) (o - 1)) = _
    rw [item_cd]
    by_cases h : cd sg k = 40
    · rw [if_pos ((beq40 _).mpr h), if_pos h]
    · rw [if_neg (fun e => h ((beq40 _).mp e)), if_neg h]
theorem bal_eq (sg : Str) (os : List Int) : balOf sg os = balL (os.map (cd sg)) := bal_run sg os 0
noncomputable def triedL (r : List Nat) (k : Nat) : List Nat := [r.getD 0 0, r.getD k 0] ++ (r.take k).drop 1 ++ r.drop (k + 1)
theorem getD_map {f : Int → Nat} {os : List Int} {i : Nat} (h : i < os.length) : f (os.getD i 0) = (os.map f).getD i 0 := by
  rw [List.getD_eq_getElem?_getD, List.getD_eq_getElem?_getD, List.getElem?_map, List.getElem?_eq_getElem h]; rfl
theorem tried_map {f : Int → Nat} {os : List Int} {k : Int} (h1 : 1 ≤ k) (h2 : k < os.length) : (triedOf os k).map f = triedL (os.map f) k.toNat := by
  unfold triedOf triedL
  rw [List.map_append, List.map_append, List.map_drop, List.map_take, List.map_drop, ← getD_map (by walk_at "om"), ← getD_map (by walk_at "om")]; rfl
theorem tried_perm {os : List Int} {k : Int} (h1 : 1 ≤ k) (h2 : k < os.length) : (triedOf os k).Perm os := by
  cases os with
  | nil => simp at h2; walk_at "om"
  | cons a r =>
    obtain ⟨j, rfl⟩ : ∃ j : Nat, k = (j : Int) + 1 := ⟨(k - 1).toNat, by walk_at "om"⟩
    have hj : j < r.length := by rw [List.length_cons] at h2; walk_at "om"
    have e : ((j : Int) + 1).toNat = j + 1 := by walk_at "om"
    unfold triedOf
    rw [e, List.take_succ_cons, List.drop_succ_cons, List.drop_succ_cons, List.drop_zero]
    show (a :: r.getD j 0 :: (r.take j ++ r.drop (j + 1))).Perm (a :: r)
    refine List.Perm.cons a ?_
    have e2 : r.getD j 0 = r[j] := by rw [List.getD_eq_getElem?_getD, List.getElem?_eq_getElem hj]; rfl
    have e3 : r = r.take j ++ r[j] :: r.drop (j + 1) := by
      rw [← List.drop_eq_getElem_cons hj, List.take_append_drop]
    rw [e2]
    exact (List.perm_middle.symm).trans (List.Perm.of_eq e3.symm)
noncomputable def stepL (row : Str) : List Nat := (placesOf row).foldl (fun om k => if om = [] then (if balL (triedL row.cps.toList k.toNat) then triedL row.cps.toList k.toNat else []) else om) []
theorem step_fold (sg : Str) (os : List Int) : ∀ (l : List Int) (om : List Int), (∀ k ∈ l, 1 ≤ k ∧ k < os.length) →
    (l.foldl (fun om k => if om = [] then (if balOf sg (triedOf os k) then triedOf os k else []) else om) om).map (cd sg) =
    l.foldl (fun om k => if om = [] then (if balL (triedL (rowS sg os).cps.toList k.toNat) then triedL (rowS sg os).cps.toList k.toNat else []) else om) (om.map (cd sg))
  | [], om, _ => rfl
  | k :: r, om, h => by
    rw [List.foldl_cons, List.foldl_cons, step_fold sg os r _ fun x hx => h x (.tail _ hx)]
    congr 1
    have hk := h k (.head _)
    rw [bal_eq, tried_map hk.1 hk.2, rowS_cps sg os]
    by_cases ho : om = []
    · subst ho
      simp only [List.map_nil, if_true]
      by_cases hb : balL (triedL (List.map (cd sg) os) k.toNat) = true
      · simp only [hb, if_true]
        exact tried_map hk.1 hk.2
      · simp only [hb]
        rfl
    · rw [if_neg ho, if_neg (by rwa [List.map_eq_nil_iff])]
theorem step_map {sg : Str} {os : List Int} (h : ∀ k ∈ placesOf (rowS sg os), 1 ≤ k ∧ k < os.length) : (stepOf sg os).map (cd sg) = stepL (rowS sg os) := step_fold sg os _ [] h
theorem fold_perm (sg : Str) (os : List Int) : ∀ (l : List Int) (om : List Int), (∀ k ∈ l, 1 ≤ k ∧ k < os.length) → (om = [] ∨ om.Perm os) →
    (l.foldl (fun om k => if om = [] then (if balOf sg (triedOf os k) then triedOf os k else []) else om) om = [] ∨ (l.foldl (fun om k => if om = [] then (if balOf sg (triedOf os k) then triedOf os k else []) else om) om).Perm os)
  | [], om, _, h => h
  | k :: r, om, hl, h => by
    rw [List.foldl_cons]
    refine fold_perm sg os r _ (fun x hx => hl x (.tail _ hx)) ?_
    have hk := hl k (.head _)
    split
    · split
      · exact .inr (tried_perm hk.1 hk.2)
      · exact .inl rfl
    · exact h
theorem step_perm {sg : Str} {os : List Int} (h : ∀ k ∈ placesOf (rowS sg os), 1 ≤ k ∧ k < os.length) : stepOf sg os = [] ∨ (stepOf sg os).Perm os := fold_perm sg os _ [] h (.inl rfl)
noncomputable def C3s : List Str := [Str.ofString "((()))", Str.ofString "()(())", Str.ofString "(()())", Str.ofString "()()()", Str.ofString "(())()"]
noncomputable def C4s : List Str := [Str.ofString "(((())))", Str.ofString "()((()))", Str.ofString "(()(()))", Str.ofString "((()()))", Str.ofString "()(()())", Str.ofString "(()()())", Str.ofString "()()(())", Str.ofString "(())(())", Str.ofString "((())())", Str.ofString "()(())()", Str.ofString "(()())()", Str.ofString "()()()()", Str.ofString "(())()()", Str.ofString "((()))()"]
/-- y comes behind x, both of n brackets -/
noncomputable def okRow (n : Nat) (x y : Str) : Bool := x.length == n && (placesOf x).all (fun k => decide (1 ≤ k) && decide (k < (n : Int))) && stepL x == y.cps.toList && x.cps.toList.all (fun c => c == 40 || c == 41) && rowS x (upTo n) == x
noncomputable def cyc (R : List Str) (i : Nat) : Str := R.getD (i % R.length) (Str.ofString "")
set_option maxHeartbeats 0 in
theorem ok3 : ∀ i, i < 5 → okRow 6 (cyc C3s i) (cyc C3s (i + 1)) = true := by decide +kernel
set_option maxHeartbeats 0 in
theorem ok4 : ∀ i, i < 14 → okRow 8 (cyc C4s i) (cyc C4s (i + 1)) = true := by decide +kernel
set_option maxHeartbeats 0 in
theorem nd3 : ∀ i, i < 5 → ∀ j, j < 5 → i ≠ j → cyc C3s i ≠ cyc C3s j := by decide +kernel
set_option maxHeartbeats 0 in
theorem nd4 : ∀ i, i < 14 → ∀ j, j < 14 → i ≠ j → cyc C4s i ≠ cyc C4s j := by decide +kernel
end
section
open PySem.Builtin.Str
noncomputable def rdCodes (rd : Str) : List Nat := rd.cps.toList
theorem rider_kind : ∀ rd ∈ riders, Calm rd.cps.toList ∨ rd.cps.toList = [34, 41, 34] := by
  intro rd h
  have e : rd.cps.toList = [] ∨ rd.cps.toList = [92, 40] ∨ rd.cps.toList = [34, 41, 34] ∨ rd.cps.toList = [92, 34] ∨ rd.cps.toList = [92, 92] := by
    revert rd; decide
  rcases e with e | e | e | e | e <;> rw [e]
  · exact .inl (.inl rfl)
  · exact .inl (.inr ⟨40, .inl rfl, rfl⟩)
  · exact .inr rfl
  · exact .inl (.inr ⟨34, .inr (.inl rfl), rfl⟩)
  · exact .inl (.inr ⟨92, .inr (.inr rfl), rfl⟩)
theorem pieces_get {sg rd : Str} {q : Int} {n : Nat} {i : Int} (h0 : 0 ≤ i) (h : i < n) : (piecesOf sg rd q n).getD i.toNat (Str.ofString "") = (if i = q then rd else Str.ofString "") ++ Txt.item sg i := by
  unfold piecesOf
  have hn : i.toNat < n := by walk_at "om"
  have e : ((i.toNat : Nat) : Int) = i := by walk_at "om"
  rw [List.getD_eq_getElem?_getD, List.getElem?_map, List.getElem?_range hn]
  show pieceAt sg rd q i.toNat = _
  unfold pieceAt
  rw [e]
theorem flat_no {sg rd : Str} {q : Int} {n : Nat} : ∀ {T : List Int}, (∀ x ∈ T, 0 ≤ x ∧ x < n) → q ∉ T →
    ((T.map fun i => (piecesOf sg rd q n).getD i.toNat (Str.ofString "")).map (·.cps.toList)).flatten = T.map (cd sg)
  | [], _, _ => rfl
  | k :: r, h, hq => by
    have hk := h k (.head _)
    rw [List.map_cons, List.map_cons, List.flatten_cons, flat_no (fun x hx => h x (.tail _ hx)) (fun hx => hq (.tail _ hx)), pieces_get hk.1 hk.2, if_neg (fun e : k = q => hq (by rw [← e]; exact .head _))]
    rfl
theorem str_app_cps (x y : Str) : (x ++ y).cps.toList = x.cps.toList ++ y.cps.toList := by
  show (x.cps ++ y.cps).toList = _
  rw [Array.toList_append]
theorem pieces_check {sg rd : Str} {q : Int} {n : Nat} {T : List Int} (hrd : rd ∈ riders) (hT : ∀ x ∈ T, 0 ≤ x ∧ x < n) (hnd : T.Nodup) (hT0 : T ≠ []) (hbr : Br (T.map (cd sg))) :
    checkOf (Txt.join (Str.ofString "") (T.map fun i => (piecesOf sg rd q n).getD i.toNat (Str.ofString ""))) = balL (T.map (cd sg)) := by
  obtain ⟨x, hx⟩ : ∃ x, x = Txt.join (Str.ofString "") (T.map fun i => (piecesOf sg rd q n).getD i.toNat (Str.ofString "")) := ⟨_, rfl⟩
  rw [← hx]
  have hc : x.cps.toList = (Txt.join (Str.ofString "") (T.map fun i => (piecesOf sg rd q n).getD i.toNat (Str.ofString ""))).cps.toList := congrArg (fun z : Str => z.cps.toList) hx
  rw [join_cps] at hc
  have hlen : 0 < (T.map (cd sg)).length := by rw [List.length_map]; exact List.length_pos_iff.mpr hT0
  by_cases hq : q ∈ T
  · obtain ⟨A, B, rfl⟩ := List.append_of_mem hq
    have hA : q ∉ A := fun h => (List.nodup_append.mp hnd).2.2 q h q (.head _) rfl
    have hB : q ∉ B := (List.nodup_cons.mp (List.nodup_append.mp hnd).2.1).1
    have hqr := hT q hq
    rw [List.map_append, List.map_append, List.flatten_append, flat_no (fun y hy => hT y (List.mem_append_left _ hy)) hA, List.map_cons, List.map_cons, List.flatten_cons,
      flat_no (fun y hy => hT y (List.mem_append_right _ (.tail _ hy))) hB, pieces_get hqr.1 hqr.2, if_pos rfl, str_app_cps, item_cd, List.append_assoc] at hc
    rw [List.map_append, List.map_cons] at hbr ⊢
    have hu : Br (A.map (cd sg)) := fun c h => hbr c (List.mem_append_left _ h)
    have hv : Br (cd sg q :: B.map (cd sg)) := fun c h => hbr c (List.mem_append_right _ h)
    rcases rider_kind rd hrd with hr | hr
    · refine calm_checks hu hr hv hc ?_
      rw [str_len_cps, hc]
      simp only [List.length_append, List.length_cons]; walk_at "om"
    · rw [hr] at hc
      exact quote_checks hu hv (fun h => nomatch h) hc
  · rw [flat_no hT hq] at hc
    have h1 := calm_checks (x := x) (u := []) (r := []) (v := T.map (cd sg)) (fun _ h => nomatch h) (.inl rfl) hbr hc (by rw [str_len_cps, hc]; exact hlen)
    exact h1
theorem octs_get {sg : Str} {xs : List Int} {n : Nat} {i : Int} (h0 : 0 ≤ i) (h : i < n) : (octsOf sg xs n).getD i.toNat 0 = xs.getD i.toNat 0 + (if cd sg i = 40 then 64 else 0) := by
  unfold octsOf
  have hn : i.toNat < n := by walk_at "om"
  have e : ((i.toNat : Nat) : Int) = i := by walk_at "om"
  rw [List.getD_eq_getElem?_getD, List.getElem?_map, List.getElem?_range hn]
  show octAt sg xs i.toNat = _
  unfold octAt
  rw [e, item_cd]
  by_cases hc : cd sg i = 40
  · rw [if_pos ((beq40 _).mpr hc), if_pos hc]
  · rw [if_neg (fun h => hc ((beq40 _).mp h)), if_neg hc]
theorem octs_rel {sg : Str} {xs : List Int} {n : Nat} (hxl : xs.length = n) (hxb : ∀ x ∈ xs, 1 ≤ x ∧ x ≤ 63) : ∀ {T : List Int}, (∀ x ∈ T, 0 ≤ x ∧ x < n) → Br (T.map (cd sg)) →
    Oct (T.map fun i => (octsOf sg xs n).getD i.toNat 0) (T.map (cd sg))
  | [], _, _ => .nil
  | k :: r, h, hb => by
    have hk := h k (.head _)
    have hi : k.toNat < xs.length := by walk_at "om"
    have hx := hxb _ (List.getElem_mem hi)
    have e : xs.getD k.toNat 0 = xs[k.toNat] := by rw [List.getD_eq_getElem?_getD, List.getElem?_eq_getElem hi]; rfl
    have ih := octs_rel hxl hxb (T := r) (fun x hx => h x (.tail _ hx)) hb.tail
    rw [List.map_cons, List.map_cons]
    show Oct ((octsOf sg xs n).getD k.toNat 0 :: _) _
    rw [octs_get hk.1 hk.2, e]
    rcases hb (cd sg k) (.head _) with hc | hc
    · rw [hc, if_pos rfl]; exact .op hx.1 hx.2 ih
    · rw [hc, if_neg (by decide), Int.add_zero]; exact .cl hx.1 hx.2 ih
end
theorem resetD7 : ∃ x : Nat, x = 0 := by
  first | (walk1; fail) | skip
  w_top off
  exact ⟨0, rfl⟩
section
local macro_rules | `(tactic| walk_at "subscriptTail Name Slice ref ref") => `(tactic| (refine stop ?_))
local macro_rules | `(tactic| walk_at "storeName") => `(tactic| (refine storeU (by k_asm) (by k_asm) ?_ rfl rfl; intro _ _ _; try k_sweep))
local macro_rules | `(tactic| walk_at "call builtin:str.join") => `(tactic| (refine stop ?_))
local macro_rules | `(tactic| walk_at "compareOp NotEq ref ref") => `(tactic| (refine stop ?_))
local macro_rules | `(tactic| walk_at "subscriptTail") => `(tactic| (refine stop ?_))
local macro_rules | `(tactic| walk_at "binaryOp Add ref ref") => `(tactic| (refine stop ?_))
noncomputable def whileBody : List Stmt := match (lawBody.drop 9).headD default with | .While _ b _ _ => b | _ => []
noncomputable def forBody : List Stmt := match (whileBody.drop 4).headD default with | .For _ _ b _ _ => b | _ => []
/-- the pieces of an order -/
noncomputable def joinOf (pcs : List Str) (os : List Int) : Str := Txt.join (Str.ofString "") (os.map fun i => pcs.getD i.toNat (Str.ofString ""))
noncomputable def sentOf (octs : List Int) (os : List Int) : List Int := os.map fun i => octs.getD i.toNat 0
theorem take_map_succ {os : List Int} {i : Nat} {o : Int} {f : Int → Str} (h : os[i]? = some o) : (os.take (i + 1)).map f = (os.take i).map f ++ [f o] := by
  rw [List.take_add_one, h, List.map_append]; rfl
theorem tried_cut {os : List Int} {k : Int} (h1 : 1 ≤ k) (h2 : k < os.length) : [os.getD (Int.toNat 0) 0, os.getD k.toNat 0] ++ List.take (min k.toNat os.length - Int.toNat 1) (List.drop (Int.toNat 1) os) ++ os.drop (k + 1).toNat = triedOf os k := by
  unfold triedOf
  have e1 : (k + 1).toNat = k.toNat + 1 := Int.toNat_add (Int.le_trans (by decide) h1) (by decide)
  have e2 : min k.toNat os.length - Int.toNat 1 = k.toNat - 1 := by
    show min k.toNat os.length - 1 = _
    rw [Nat.min_eq_left (Int.toNat_le.mpr (Int.le_of_lt h2))]
  rw [e1, e2]
  show _ ++ List.take (k.toNat - 1) (List.drop 1 os) ++ _ = _
  rw [List.drop_take]; rfl
theorem join_len {B : Nat} {l : List Str} (h : ∀ y ∈ l, y.length ≤ B) : (Txt.join (Str.ofString "") l).length ≤ l.length * B := by
  rw [str_len_cps, join_cps, List.length_flatten, List.map_map]
  refine Nat.le_trans (Nat.le_of_eq ?_) (sum_le h)
  congr 1
theorem pieces_le {pcs : List Str} {B : Nat} (h : ∀ y ∈ pcs, y.length ≤ B) (tr : List Int) : ∀ y ∈ tr.map (fun k => pcs.getD k.toNat (Str.ofString "")), y.length ≤ B := by
  intro y hy
  obtain ⟨k, _, rfl⟩ := List.mem_map.mp hy
  rw [List.getD_eq_getElem?_getD]
  cases hc : pcs[k.toNat]? with
  | none => exact Nat.zero_le _
  | some z => exact h z (List.mem_of_getElem? hc)
theorem call_list {lvl : Nat} {w : World} {f : Addr} {args : List Value} {Pre : Heap → Prop} {xs : List Int} (G : Gives lvl w f args Pre (IntList xs))
    {mg mb : Str → Option Value} {mean : ExcName → Option Value} {base : Heap} {outer : List Env} {d u : Nat} {gs : Option (List Code)} {s : Shared} {E : Value → Shared → Prop} {Q : Value → Shared → Prop}
    {h₀ : Heap} {env : Env} {L : Addr} {m : Str → Option Value} {news : List (Addr × Obj)}
    (C : Ctx w mg mb mean base outer d u gs h₀) (F : Fr h₀ L s.heap m) (N : News h₀ L s.heap news) (hd : d + 1 ≤ lvl) (hu : u + 3 ≤ 4 * lvl) (hp : Pre s.heap)
    (h : ∀ h' tk a vs n, IntsAre vs xs → Fr h₀ L h' m → News h₀ L h' ((a, W.listOf vs.toArray n) :: news) → (∀ q ∈ news, q.1 ≠ a) → a ≠ L → Q (.ref a) { s with heap := h', toks := tk })
    (hf : env.frame = some L := by rfl) (hk : env.scope.kind = .function := by rfl) :
    wpAny (model PySem.Challenge.rw_sn0039_01.row.prog w) (Around.deeper ⟨none, d, some outer, gs, u⟩ env) (call (.ref f) args) Q E s := by
  refine call_gives G C F N hd hu hp ?_ hf hk
  intro h' tk v F' N' zz5 st
  obtain ⟨a, vs, n, rfl, ha, hv, hn⟩ := zz5
  skip
  have hL : a ≠ L := fun e => by
    obtain ⟨oL, _, _, hoL, _⟩ := F.ns
    rw [e, hoL] at hn; cases hn
  have h0 : h₀.get? a = none := by
    cases q : h₀.get? a with
    | none => rfl
    | some o => rw [F.keep a o q] at hn; cases hn
  refine h h' tk a vs n hv F' (fun q hq => ?_) (fun q hq e => by have := (N q hq).1; rw [e, hn] at this; cases this) hL
  rcases List.mem_cons.mp hq with rfl | hq
  · exact ⟨ha, hL, h0⟩
  · exact N' q hq
theorem take_map_succI {os : List Int} {i : Nat} {o : Int} {f : Int → Int} (h : os[i]? = some o) : (os.take (i + 1)).map f = (os.take i).map f ++ [f o] := by
  rw [List.take_add_one, h, List.map_append]; rfl
theorem sent_bound {octs : List Int} (h : ∀ x ∈ octs, 0 ≤ x ∧ x < 128) (tr : List Int) : ∀ x ∈ sentOf octs tr, 0 ≤ x ∧ x < 128 := by
  intro x hx
  obtain ⟨k, _, rfl⟩ := List.mem_map.mp hx
  rw [List.getD_eq_getElem?_getD]
  cases hc : octs[k.toNat]? with
  | none => exact ⟨Int.le_refl _, by decide⟩
  | some z => exact h z (List.mem_of_getElem? hc)
theorem readL_len : ∀ (v : Int) (l : List Int), (readL v l).length ≤ l.length
  | v, [] => by unfold readL; exact Nat.le_refl _
  | v, o :: r => by
    rw [readL_cons]
    split
    · exact Nat.le_succ_of_le (readL_len _ r)
    · exact Nat.succ_le_succ (readL_len _ r)
theorem readL_pos : ∀ (l : List Int) (v : Int), 0 ≤ v → (∀ o ∈ l, 0 ≤ o) → ∀ n ∈ readL v l, 0 ≤ n
  | [], v, _, _, n, hn => by unfold readL at hn; cases hn
  | o :: r, v, hv, h, n, hn => by
    have ho := h o (.head _)
    rw [readL_cons] at hn
    split at hn
    · exact readL_pos r _ (by walk_at "om") (fun x hx => h x (.tail _ hx)) n hn
    · rcases List.mem_cons.mp hn with rfl | hn
      · walk_at "om"
      · exact readL_pos r 0 (Int.le_refl 0) (fun x hx => h x (.tail _ hx)) n hn
set_option maxHeartbeats 8000000 in
theorem law_t {w : World}
    {mg mb : Str → Option Value} {mean : ExcName → Option Value} {h₀ : Heap} {d u : Nat} {gs : Option (List Code)} {s : Shared} {Q : Flow → Shared → Prop} {K : Shared → Prop} {E : Value → Shared → Prop}
    (C : Ctx w mg mb mean h₀ [] d u gs h₀) (hd : d ≤ 320) (hu : u ≤ 1200) (hbare : AllBare s.gens)
    {L r a b c e f v : Addr} {m : Str → Option Value} {p : Int} {sg : Str} {tp tg t₁ u₁ v₁ ta : Tok} {o1 o2 o3 o4 o5 o6 o7 oa : Obj} {ks zs ws ms vs : List Value} {n2 n3 n4 nm nv : Nat} {octs os om : List Int} {pcs : List Str} {at_ : Int} {own : List (Addr × Obj)} (hp : p = 3 ∨ p = 4)
    (F : Fr h₀ L s.heap (upd (kb m [(Str.ofString "moved", .ref v), (Str.ofString "order", .ref e), (Str.ofString "met", .ref f)]) (Str.ofString "at") (.int at_ ta)))
    (N : News h₀ L s.heap ((v, W.listOf vs.toArray nv) :: (f, W.listOf ms.toArray nm) :: (e, W.listOf ks.toArray n4) :: (c, W.listOf ws.toArray n3) :: (b, W.listOf zs.toArray n2) :: (a, oa) :: (r, rangeO (2 * p) t₁ u₁ v₁) :: (cells7 L o1 o2 o3 o4 o5 o6 o7 ++ own)))
    (d2 : o2.data = .cell (some (.int p tp))) (d3 : o3.data = .cell (some (.str sg tg))) (d5 : o5.data = .cell (some (.ref b))) (d7 : o7.data = .cell (some (.ref c)))
    (hks : IntsAre ks os) (hzs : IntsAre zs octs) (hws : StrsAre ws pcs) (hvs : IntsAre vs om) (hol : octs.length = (2 * p).toNat) (hpl : pcs.length = (2 * p).toNat) (hos : os.length = (2 * p).toNat) (hat : 1 ≤ at_ ∧ at_ < 2 * p) (hob : ∀ x ∈ os, 0 ≤ x ∧ x < 2 * p)
    (hml : ms.length ≤ 14) (hoct : ∀ x ∈ octs, 0 ≤ x ∧ x < 128) (hpcs : ∀ y ∈ pcs, y.length ≤ 4)
    (hchk : checkOf (joinOf pcs (triedOf os at_)) = balOf sg (triedOf os at_))
    (hnum : ms.length = 1 → readL 0 (sentOf octs (triedOf os at_)) = (dueAt (sentOf octs (triedOf os at_)) (sentOf octs (triedOf os at_)).length).1 ∧ closesOf (readL 0 (sentOf octs (triedOf os at_))) p = balOf sg (triedOf os at_))
    (next : ∀ h tk gs' m' v' vs' nv', IntsAre vs' (if om = [] then (if balOf sg (triedOf os at_) then triedOf os at_ else []) else om) → AllBare gs' → Fr h₀ L h m' → PsOk m' [(Str.ofString "moved", .ref v'), (Str.ofString "order", .ref e), (Str.ofString "met", .ref f)] →
      News h₀ L h ((v', W.listOf vs'.toArray nv') :: (f, W.listOf ms.toArray nm) :: (e, W.listOf ks.toArray n4) :: (c, W.listOf ws.toArray n3) :: (b, W.listOf zs.toArray n2) :: (a, oa) :: (r, rangeO (2 * p) t₁ u₁ v₁) :: (cells7 L o1 o2 o3 o4 o5 o6 o7 ++ own)) →
      (v' = v ∨ (@Ne Nat v' f ∧ ∀ q ∈ own, q.1 ≠ v')) → K { s with heap := h, toks := tk, gens := gs' }) :
    wpAny (model PySem.Challenge.rw_sn0039_01.row.prog w) (LA d u gs L) (execs forBody (LE L)) (Turn Q K) E s := by
  have C0 := C
  obtain ⟨X, T, B⟩ := C
  unfold cells7 at N
  simp only [List.cons_append, List.nil_append] at N
  dsimp only [kb] at F
  unfold LA LE
  revert X
  k_fill
  intro X
  conv in forBody => whnf
  obtain ⟨sc, hsc⟩ : ∃ sc, sc = lawScope := ⟨_, rfl⟩
  rw [← hsc]
  conv at hsc => rhs; whnf
  subst hsc
  show wpAny _ _ _ _ _ _
  k_fold
  have hpA := p34 hp
  have holA := len2p hp hol
  have hplA := len2p hp hpl
  have hosA := len2p hp hos
  have hkl : ks.length ≤ 8 := by rw [IntsAre.length hks]; walk_at "om"
  have hkz : ks.toArray.size ≤ sizeLine := by rw [List.size_toArray]; exact Nat.le_trans (by assumption) (by decide)
  have hpl1 := hat.1
  have hpl2 : at_ < (os.length : Int) := by walk_at "om"
  have ho1 : 0 < os.length := by walk_at "om"
  have hmz : ms.toArray.size ≤ sizeLine := by rw [List.size_toArray, sizeLine_eq]; walk_at "om"
  k_steps
  · have hom : om = [] := of_decide_eq_true (by assumption)
    refine kmk_slice_ints (lo := some 1) (hi := some at_) (by k_asm) (by k_asm) (by kmk_list) (.int _ _) (.int _ _) hks (kmk_run hks (by decide) (by walk_at "om")) rfl ?_ (by with_unfolding_all rfl) (by intro _; with_unfolding_all rfl) hkz
    intro D1 ws1 h1 F1 N1 l1 hw1 _ _
    dsimp only
    k_steps
    refine kmk_add_ints (by k_asm) (by k_asm) (by kmk_list) (by kmk_list) (.cons _ _ (.cons _ _ .nil)) hw1 ?_ ?_
    rotate_left
    · simp only [List.length_cons, List.length_nil, List.length_take, List.length_drop, sizeLine_eq]
      exact Nat.le_trans (Nat.add_le_add_left (Nat.le_trans (Nat.min_le_right _ _) (Nat.sub_le _ _)) _) (by walk_at "om")
    intro D2 ws2 h2 F2 N2 l2 hw2
    dsimp only
    have N3 := news_pick (b := (D2, W.listOf ws2.toArray 0) :: (v, W.listOf vs.toArray nv) :: _) N2 fun q hq => by
      rcases List.mem_cons.mp hq with rfl | hq
      · exact .head _
      · exact .tail _ (.tail _ (.tail _ (.tail _ hq)))
    have l3 : ∀ q ∈ (v, W.listOf vs.toArray nv) :: _, q.1 < D2 := fun q hq => l2 q (.tail _ (.tail _ (.tail _ hq)))
    clear N2 l2 N1 F1
    k_steps
    refine kmk_slice_ints (lo := some (at_ + 1)) (hi := none) (by k_asm) (by k_asm) (by kmk_list) (.int _ _) .none hks (kmk_from hks (by walk_at "om")) rfl ?_ (by with_unfolding_all rfl) (by intro _; with_unfolding_all rfl) hkz
    intro D3 ws3 h3 F3 N4 l4 hw3 _ _
    dsimp only
    k_steps
    refine kmk_add_ints (by k_asm) (by k_asm) (by kmk_list) (by kmk_list) hw2 hw3 ?_ ?_
    rotate_left
    · simp only [List.length_append, List.length_cons, List.length_nil, List.length_take, List.length_drop, sizeLine_eq]
      exact Nat.le_trans (Nat.add_le_add (Nat.add_le_add_left (Nat.le_trans (Nat.min_le_right _ _) (Nat.sub_le _ _)) _) (Nat.sub_le _ _)) (by walk_at "om")
    intro D4 ws4 h4 F4 N5 l5 hw4
    dsimp only
    rw [tried_cut hpl1 hpl2] at hw4
    have N6 := news_pick (b := (D4, W.listOf ws4.toArray 0) :: (v, W.listOf vs.toArray nv) :: _) N5 fun q hq => by
      rcases List.mem_cons.mp hq with rfl | hq
      · exact .head _
      · exact .tail _ (.tail _ (.tail _ hq))
    have l6 : ∀ q ∈ (v, W.listOf vs.toArray nv) :: _, q.1 < D4 := fun q hq => l5 q (.tail _ (.tail _ hq))
    clear N5 l5 N4 l4 F3 N3 l3 hw3 hw2 hw1 F2
    k_steps
    have hDf : @Ne Nat D4 f := Nat.ne_of_gt (l6 (f, W.listOf ms.toArray nm) (.tail _ (.head _)))
    have hDo : ∀ q ∈ own, q.1 ≠ D4 := fun q hq => Nat.ne_of_lt (l6 q (by repeat (first | exact hq | apply List.Mem.tail)))
    clear l6
    have htr := tried_perm hpl1 hpl2
    obtain ⟨tr, htr0⟩ : ∃ tr, tr = triedOf os at_ := ⟨_, rfl⟩
    rw [← htr0] at hw4 htr hchk hnum next
    have htl : tr.length = (2 * p).toNat := by rw [htr.length_eq]; exact hos
    have htlA := len2p hp htl
    have hto : ∀ x ∈ tr, 0 ≤ x ∧ x < 2 * p := fun x hx => hob x (htr.mem_iff.mp hx)
    have hwl : ws4.length ≤ 8 := by rw [IntsAre.length hw4]; walk_at "om"
    have hwz : ws4.toArray.size ≤ sizeLine := by rw [List.size_toArray]; exact Nat.le_trans (by assumption) (by decide)
    have hjn : ((tr.map fun k => pcs.getD k.toNat (Str.ofString "")).map (·.length)).sum + (tr.map fun k => pcs.getD k.toNat (Str.ofString "")).length ≤ 1048576 := by
      have h1 := sum_le (pieces_le hpcs tr)
      rw [List.length_map] at h1 ⊢
      walk_at "om"
    have hsl : (sentOf octs tr).length ≤ 9 := by unfold sentOf; rw [List.length_map]; walk_at "om"
    have hsb : ∀ x ∈ sentOf octs tr, 0 ≤ x ∧ x < 256 := fun x hx => by
      have := sent_bound hoct tr x hx
      walk_at "om"
    have hjx : (Txt.join (Str.ofString "") (tr.map fun k => pcs.getD k.toNat (Str.ofString ""))).length ≤ 100 := by
      refine Nat.le_trans (join_len (pieces_le hpcs tr)) ?_
      rw [List.length_map]; walk_at "om"
    refine LCg.ListComp_U (F₀ := by assumption) (by with_unfolding_all rfl) (by decide) (by rfl) (by decide) (by rfl) ?_
    k_steps
    refine LCg.CompSrc.ledger (its := ws4.toArray) rfl (by assumption) (by assumption) (.head _) hwz (fun g => comp_rest (n := ws4.toArray.size) (fun i ys => StrsAre ys ((tr.take i).map fun k => pcs.getD k.toNat (Str.ofString ""))) (.inr ⟨_, .head _, rfl, _, rfl⟩) ?_ ?_ _ 0 [] (Nat.zero_add _) .nil)
    · rintro i ys v I oI C oC D m₂ h tk E' hin hys hP hoC hmC F N off ne
      obtain ⟨ov, tv, hov, rfl⟩ := ints_get hw4 (show ws4[i]? = some v by simpa using hP)
      have hov2 := hto ov (List.mem_of_getElem? hov)
      have hov3 : ov < (pcs.length : Int) := by walk_at "om"
      k_steps
      refine PySem.W.KTb.item_list (ws := pcs) ⟨_, (N _ (.tail _ (.tail _ (.tail _ (.tail _ (.tail _ (.tail _ (.tail _ (.head _))))))))).1, rfl, _, rfl⟩ hws hov2.1 hov3 (by walk_at "om") (fun t' hlt' => ?_) (by with_unfolding_all rfl)
      refine ⟨_, _, rfl, F, N, ?_⟩
      rw [take_map_succ hov]
      exact strsAre_append hys (.cons _ _ .nil)
    · rintro ys hys D h tk F N off
      have e0 : tr.take ws4.toArray.size = tr := List.take_of_length_le (by rw [List.size_toArray, IntsAre.length hw4]; exact Nat.le_refl _)
      rw [e0] at hys
      clear off
      dsimp only
      k_steps
      refine join_listW ⟨_, (N _ (.head _)).1, rfl, _, rfl⟩ (ys := tr.map fun k => pcs.getD k.toNat (Str.ofString "")) hys (by decide) hjn fun t' k' => ?_
      have N7 := news_pick N fun q hq => List.mem_cons_of_mem _ hq
      have F7 := F
      clear F N
      k_steps
      refine call_givesG (check_ hjx) C0 F7 N7 (Nat.le_trans (Nat.succ_le_succ hd) (by decide)) (Nat.le_trans (Nat.add_le_add_right hu 3) (by decide)) trivial hbare ?_
      intro s1 v1 zz2 F8 N8 zz5 st8
      obtain ⟨h8, tk8, gs8, rfl, hb8⟩ := zz2
      obtain rfl := zz5
      skip
      dsimp only
      have hchk' : checkOf (Txt.join (Str.ofString "") (tr.map fun k => pcs.getD k.toNat (Str.ofString ""))) = balOf sg tr := hchk
      rw [hchk']
      dsimp only at F8 N8
      clear F7 N7 st8
      k_steps
      refine PyProof.Rows.len_list (items := ms.toArray) (by kmk_list) (by rw [List.size_toArray]; walk_at "om") ?_
      k_steps
      · skip
        have hm1 := (by assumption : (ms.toArray.size : Int) = 1)
        have hm2 : ms.length = 1 := by rw [List.size_toArray] at hm1; walk_at "om"
        obtain ⟨hn1, hn2⟩ := hnum hm2
        clear hnum
        refine LCg.CompSrc.ledger (its := ws4.toArray) rfl (by assumption) (by assumption) (.head _) hwz (fun g => comp_rest (n := ws4.toArray.size) (fun i ys => IntsAre ys ((tr.take i).map fun k => octs.getD k.toNat 0)) (.inr ⟨_, .head _, rfl, _, rfl⟩) ?_ ?_ _ 0 [] (Nat.zero_add _) .nil)
        · rintro i ys v I oI C oC D m₂ h tk E' hin hys hP hoC hmC F N off ne
          obtain ⟨ov, tv, hov, rfl⟩ := ints_get hw4 (show ws4[i]? = some v by simpa using hP)
          have hov2 := hto ov (List.mem_of_getElem? hov)
          have hov4 : ov.toNat < octs.length := by walk_at "om"
          have hov5 : ov < 2 ^ 63 := by walk_at "om"
          obtain ⟨tx, htx⟩ := hzs.get ov.toNat (octs.getD ov.toNat 0) (by rw [List.getD_eq_getElem?_getD, List.getElem?_eq_getElem hov4]; rfl)
          k_steps
          refine ⟨_, _, rfl, F, N, ?_⟩
          rw [take_map_succI hov]
          exact IntsAre.append hys (.cons _ _ .nil)
        · rintro ys hys D h tk F N off
          have e0 : tr.take ws4.toArray.size = tr := List.take_of_length_le (by rw [List.size_toArray, IntsAre.length hw4]; exact Nat.le_refl _)
          rw [e0] at hys
          have hys2 : IntsAre ys (sentOf octs tr) := hys
          clear off hys
          dsimp only
          k_steps
          refine call_read hys2 hsl hsb C0 (by assumption) (by assumption) (Nat.le_trans (Nat.succ_le_succ hd) (by decide)) (Nat.le_trans (Nat.add_le_add_right hu 3) (by decide)) ?_
          intro h9 tk9 D9 vs9 n9 F9 N9 l9 hv9
          dsimp only
          k_steps
          refine call_list (law_due hys2 (Nat.le_trans hsl (by decide)) (sent_bound hoct tr)) C0 (by assumption) (by assumption) (Nat.le_trans (Nat.succ_le_succ hd) (by decide)) (Nat.le_trans (Nat.add_le_add_right hu 3) (by decide)) (by kmk_list) ?_
          intro h10 tk10 D10 vs10 n10 hv10 F10 N10 l10 lL10
          dsimp only
          k_steps
          refine ne_intsK (by kmk_list) hv9 (by kmk_list) hv10 (by units_room) ?_
          rw [hn1, decide_eq_true rfl, Bool.not_true]
          k_steps
          refine call_gives (law_closes hv9 (Nat.le_trans (readL_len _ _) (Nat.le_trans hsl (by decide))) ⟨by walk_at "om", by walk_at "om"⟩ (readL_pos _ 0 (Int.le_refl 0) fun x hx => (hsb x hx).1)) C0 (by assumption) (by assumption) (Nat.le_trans (Nat.succ_le_succ hd) (by decide)) (Nat.le_trans (Nat.add_le_add_right hu 3) (by decide)) (by kmk_list) ?_
          rintro h11 tk11 v11 F11 N11 rfl st11
          rw [hn2]
          dsimp only
          k_steps
          · exact absurd (by assumption : (balOf sg tr != balOf sg tr) = true) (by simp)
          · have hbt := (by assumption : balOf sg tr = true)
            refine next _ _ gs8 _ D4 ws4 0 ?_ hb8 (by assumption) ⟨rfl, rfl, rfl, trivial⟩ (news_pick (by assumption) ?_) (.inr ⟨hDf, hDo⟩)
            · rw [if_pos hom, if_pos hbt]; exact hw4
            · intro q hq
              rcases List.mem_cons.mp hq with rfl | hq
              · exact .tail _ (.tail _ (.tail _ (.head _)))
              · exact .tail _ (.tail _ (.tail _ (.tail _ (.tail _ hq))))
          · have hbt := (by assumption : balOf sg tr = false)
            refine next _ _ gs8 _ v vs nv ?_ hb8 (by assumption) ⟨rfl, rfl, rfl, trivial⟩ (news_pick (by assumption) ?_) (.inl rfl)
            · rw [if_pos hom, if_neg (by rw [hbt]; exact Bool.false_ne_true)]; exact hom ▸ hvs
            · intro q hq
              exact .tail _ (.tail _ (.tail _ (.tail _ hq)))
      · have hbt := (by assumption : balOf sg tr = true)
        refine next _ _ gs8 _ D4 ws4 0 ?_ hb8 (by assumption) ⟨rfl, rfl, rfl, trivial⟩ (news_pick (by assumption) ?_) (.inr ⟨hDf, hDo⟩)
        · rw [if_pos hom, if_pos hbt]; exact hw4
        · intro q hq
          rcases List.mem_cons.mp hq with rfl | hq
          · exact .head _
          · exact .tail _ (.tail _ hq)
      · have hbt := (by assumption : balOf sg tr = false)
        refine next _ _ gs8 _ v vs nv ?_ hb8 (by assumption) ⟨rfl, rfl, rfl, trivial⟩ (news_pick (by assumption) ?_) (.inl rfl)
        · rw [if_pos hom, if_neg (by rw [hbt]; exact Bool.false_ne_true)]; exact hom ▸ hvs
        · intro q hq
          exact .tail _ hq
  · have hom : ¬ om = [] := of_decide_eq_false (by assumption)
    refine next _ _ s.gens _ v vs nv ?_ hbare (by assumption) ⟨rfl, rfl, rfl, trivial⟩ (news_pick (by assumption) ?_) (.inl rfl)
    · rw [if_neg hom]; exact hvs
    · intro q hq
      exact .tail _ hq
end
theorem resetD6 : ∃ x : Nat, x = 0 := by
  first | (walk1; fail) | skip
  w_top off
  exact ⟨0, rfl⟩
section
noncomputable def GX (s s₁ : Shared) : Prop := ∃ h tk gs, s₁ = { s with heap := h, toks := tk, gens := gs } ∧ AllBare gs
noncomputable def lim (p : Int) : Nat := if p = 3 then 5 else 14
noncomputable def signAt (sg : Str) (k : Int) : Str := Txt.item sg k
theorem GX.step {s : Shared} : ∀ (s₁ : Shared) (h : Heap) (tk : Nat), GX s s₁ → GX s { s₁ with heap := h, toks := tk } := fun _ h tk ⟨_, _, g, e, hb⟩ => ⟨h, tk, g, by rw [e], hb⟩
structure MS where
  v : Addr
  vs : List Value
  n : Nat
  os : List Int
structure WS where
  e : Addr
  ks : List Value
  nk : Nat
  os : List Int
  ms : List Value
  nm : Nat
  rows : List Str
structure Good (sg : Str) (p : Int) (pcs : List Str) (octs : List Int) : Prop where
  len : ∀ j, j ≤ lim p → (ordAt sg j).length = (2 * p).toNat
  rng : ∀ j, j ≤ lim p → ∀ x ∈ ordAt sg j, 0 ≤ x ∧ x < 2 * p
  diff : ∀ i j, i < j → j < lim p → rowAt sg i ≠ rowAt sg j
  plc : ∀ j, j < lim p → ∀ k ∈ placesOf (rowAt sg j), 1 ≤ k ∧ k < 2 * p
  go : ∀ j, j < lim p → stepOf sg (ordAt sg j) ≠ []
  chk : ∀ j, j < lim p → ∀ k ∈ placesOf (rowAt sg j), checkOf (joinOf pcs (triedOf (ordAt sg j) k)) = balOf sg (triedOf (ordAt sg j) k)
  num : ∀ k ∈ placesOf (rowAt sg 0), readL 0 (sentOf octs (triedOf (ordAt sg 0) k)) = (dueAt (sentOf octs (triedOf (ordAt sg 0) k)) (sentOf octs (triedOf (ordAt sg 0) k)).length).1 ∧ closesOf (readL 0 (sentOf octs (triedOf (ordAt sg 0) k))) p = balOf sg (triedOf (ordAt sg 0) k)
  ocb : ∀ x ∈ octs, 0 ≤ x ∧ x < 128
  pcb : ∀ y ∈ pcs, y.length ≤ 4
noncomputable def stepF (sg : Str) (os : List Int) (om : List Int) (k : Int) : List Int := if om = [] then (if balOf sg (triedOf os k) then triedOf os k else []) else om
theorem stepOf_fold (sg : Str) (os : List Int) : stepOf sg os = (placesOf (rowS sg os)).foldl (stepF sg os) [] := rfl
theorem row_new {sg : Str} {p : Int} {pcs : List Str} {octs os : List Int} {rows : List Str} (G : Good sg p pcs octs) (hlt : rows.length < lim p) (hos : os = ordAt sg rows.length) (hrs : rows = (List.range rows.length).map (rowAt sg))
    (hin : (rows.any fun x => x == Txt.join (Str.ofString "") (os.map (Txt.item sg))) = true) : False := by
  obtain ⟨x, hx, hxe⟩ := List.any_eq_true.mp hin
  rw [hrs] at hx
  obtain ⟨i, hi, rfl⟩ := List.mem_map.mp hx
  have hi := List.mem_range.mp hi
  refine G.diff i rows.length hi hlt ?_
  rw [eq_of_beq hxe, hos]; rfl
set_option maxHeartbeats 8000000 in
theorem law_s9 {w : World}
    {mg mb : Str → Option Value} {mean : ExcName → Option Value} {h₀ : Heap} {d u : Nat} {gs : Option (List Code)} {s : Shared} {Q : Flow → Shared → Prop}
    (C : Ctx w mg mb mean h₀ [] d u gs h₀) (hd : d ≤ 320) (hu : u ≤ 1200) (hbare : AllBare s.gens)
    {L r a b c e f : Addr} {m : Str → Option Value} {p : Int} {sg : Str} {tp tg t₁ u₁ v₁ : Tok} {o1 o2 o3 o4 o5 o6 o7 oa : Obj} {ks zs ws : List Value} {n2 n3 n4 : Nat} {octs : List Int} {pcs : List Str} (hp : p = 3 ∨ p = 4) (F : Fr h₀ L s.heap m)
    (hmo : m (Str.ofString "order") = some (.ref e)) (hmm : m (Str.ofString "met") = some (.ref f))
    (N : News h₀ L s.heap ((f, W.listOf #[] 0) :: (e, W.listOf ks.toArray n4) :: (c, W.listOf ws.toArray n3) :: (b, W.listOf zs.toArray n2) :: (a, oa) :: (r, rangeO (2 * p) t₁ u₁ v₁) :: cells7 L o1 o2 o3 o4 o5 o6 o7)) (hT : Top7 f e c b a r L)
    (d2 : o2.data = .cell (some (.int p tp))) (d3 : o3.data = .cell (some (.str sg tg))) (d5 : o5.data = .cell (some (.ref b))) (d7 : o7.data = .cell (some (.ref c)))
    (hks : IntsAre ks (upTo (2 * p).toNat)) (hzs : IntsAre zs octs) (hws : StrsAre ws pcs) (hol : octs.length = (2 * p).toNat) (hpl : pcs.length = (2 * p).toNat) (hsl : sg.length = (2 * p).toNat) (G : Good sg p pcs octs)
    (next : ∀ h' tk gs' m' e' ks' n4' ms nm, AllBare gs' → IntsAre ks' (ordAt sg (lim p)) → StrsAre ms ((List.range (lim p)).map (rowAt sg)) → Fr h₀ L h' m' → m' (Str.ofString "order") = some (.ref e') → m' (Str.ofString "met") = some (.ref f) →
      News h₀ L h' ((f, W.listOf (List.toArray ms) nm) :: (e', W.listOf (List.toArray ks') n4') :: (c, W.listOf ws.toArray n3) :: (b, W.listOf zs.toArray n2) :: (a, oa) :: (r, rangeO (2 * p) t₁ u₁ v₁) :: cells7 L o1 o2 o3 o4 o5 o6 o7) →
      LawAt w d u gs L 10 Q { s with heap := h', toks := tk, gens := gs' }) :
    LawAt w d u gs L 9 Q s := by
  obtain ⟨y1, y2, y3, y4, y5, y6⟩ := hT
  have hk : PsOk m [(Str.ofString "order", .ref e), (Str.ofString "met", .ref f)] := ⟨hmo, hmm, trivial⟩
  have C0 := C
  obtain ⟨X, T, B⟩ := C
  unfold cells7 at N
  unfold LawAt LA LE
  revert X
  k_fill
  intro X
  conv in (List.headD (List.drop _ lawBody) _) => whnf
  conv in (List.drop _ lawBody) => whnf
  obtain ⟨sc, hsc⟩ : ∃ sc, sc = lawScope := ⟨_, rfl⟩
  rw [← hsc]
  conv at hsc => rhs; whnf
  subst hsc
  show wpAny _ _ _ _ _ _
  k_fold
  refine while_inv (σ := WS) (fun z => (f, W.listOf z.ms.toArray z.nm) :: (z.e, W.listOf z.ks.toArray z.nk) :: (c, W.listOf ws.toArray n3) :: (b, W.listOf zs.toArray n2) :: (a, oa) :: (r, rangeO (2 * p) t₁ u₁ v₁) :: cells7 L o1 o2 o3 o4 o5 o6 o7)
    (fun z => [(Str.ofString "order", .ref z.e), (Str.ofString "met", .ref f)])
    (fun z => IntsAre z.ks z.os ∧ z.os = ordAt sg z.rows.length ∧ z.rows = (List.range z.rows.length).map (rowAt sg) ∧ StrsAre z.ms z.rows ∧ z.rows.length ≤ lim p ∧ @Ne Nat z.e f) (fun z => 20 - z.rows.length) (GX s) (c₀ := ⟨e, ks, n4, upTo (2 * p).toNat, [], 0, []⟩) F N hk ⟨hks, by rw [← hsl]; rfl, rfl, .nil, Nat.zero_le _, Nat.ne_of_lt y1⟩ ⟨_, _, _, rfl, hbare⟩ ?_
  intro zz0 m₁ s₁ zz3 zz4 F1 N1
  obtain ⟨h1, tk1, gs1, rfl, hb1⟩ := zz4
  skip
  obtain ⟨e, ks, nk, os, ms, nm, rows⟩ := zz0
  obtain ⟨hks, hos, hrs, hms, hml0, hne⟩ := zz3
  dsimp only [kb, cells7] at F1 N1 hks hos hrs hms hml0 hne
  have hml : rows.length ≤ 14 := by
    refine Nat.le_trans hml0 ?_
    unfold lim; split <;> decide
  have hlim : lim p ≤ 14 := by unfold lim; split <;> decide
  have hol2 : os.length = (2 * p).toNat := by rw [hos]; exact G.len _ hml0
  have hob : ∀ x ∈ os, 0 ≤ x ∧ x < 2 * p := by rw [hos]; exact G.rng _ hml0
  have hpA := p34 hp
  have holA := len2p hp hol2
  have hslA := len2p hp hsl
  have hkl : ks.length ≤ 8 := by rw [IntsAre.length hks]; walk_at "om"
  have hkz : ks.toArray.size ≤ sizeLine := by rw [List.size_toArray]; exact Nat.le_trans (by assumption) (by decide)
  have hmsl : ms.length ≤ 14 := by rw [strsAre_len hms]; exact hml
  have hmz : ms.toArray.size ≤ sizeLine := by rw [List.size_toArray]; exact Nat.le_trans (by assumption) (by decide)
  refine wpAny_mono (Q := fun b s₂ => ∃ tk, b = decide (rows.length < lim p) ∧ s₂ = { s with heap := h1, toks := tk, gens := gs1 }) ?_ ?_ (fun _ _ e => e)
  · unfold lim
    k_steps
    · rw [if_pos (by assumption)]; simp only [Int.ofNat_lt, decide_eq_decide]; walk_at "om"
    · rw [if_neg (by assumption)]; simp only [decide_eq_decide]; walk_at "om"
  rintro tb s₂ ⟨tk2, rfl, rfl⟩
  by_cases hlt : rows.length < lim p
  · rw [decide_eq_true hlt, if_pos rfl]
    k_steps
    have hrl : (Txt.join (Str.ofString "") (os.map (Txt.item sg))).length ≤ 100 := by
      refine Nat.le_trans (join_len (B := 1) fun y hy => ?_) ?_
      · obtain ⟨k, _, rfl⟩ := List.mem_map.mp hy
        exact Nat.le_of_eq (PyProof.Rows.len_item sg k)
      · rw [List.length_map]; walk_at "om"
    have hjn : ((os.map (Txt.item sg)).map (·.length)).sum + (os.map (Txt.item sg)).length ≤ 1048576 := by
      have h1 := sum_le (B := 1) (l := os.map (Txt.item sg)) fun y hy => by
        obtain ⟨k, _, rfl⟩ := List.mem_map.mp hy
        exact Nat.le_of_eq (PyProof.Rows.len_item sg k)
      rw [List.length_map] at h1 ⊢
      walk_at "om"
    refine LCg.ListComp_U (F₀ := by assumption) (by with_unfolding_all rfl) (by decide) (by rfl) (by decide) (by rfl) ?_
    k_steps
    refine LCg.CompSrc.ledger (its := ks.toArray) rfl F1 N1 (.tail _ (.head _)) hkz (fun g => comp_rest (n := ks.toArray.size) (fun i ys => StrsAre ys ((os.take i).map (Txt.item sg))) (.inr ⟨_, .tail _ (.head _), rfl, _, rfl⟩) ?_ ?_ _ 0 [] (Nat.zero_add _) .nil)
    · rintro i ys v I oI C oC D m₂ h tk E' hin hys hP hoC hmC F N off ne
      obtain ⟨ov, tv, hov, rfl⟩ := ints_get hks (show ks[i]? = some v by simpa using hP)
      have hob2 := hob ov (List.mem_of_getElem? hov)
      k_steps
      refine ⟨_, _, rfl, F, N, ?_⟩
      rw [take_map_succ hov]
      exact strsAre_append hys (.cons _ _ .nil)
    · rintro ys hys D h tk F N off
      have e0 : os.take ks.toArray.size = os := List.take_of_length_le (by rw [List.size_toArray, IntsAre.length hks]; exact Nat.le_refl _)
      rw [e0] at hys
      clear off
      dsimp only
      k_steps
      refine join_listW ⟨_, (N _ (.head _)).1, rfl, _, rfl⟩ (ys := os.map (Txt.item sg)) hys (by decide) hjn fun t' k' => ?_
      have N7 := news_pick N fun q hq => List.mem_cons_of_mem _ hq
      have F7 := F
      clear F N
      k_steps
      · exfalso
        have hin := (by assumption : (rows.any fun x => x == Txt.join (Str.ofString "") (os.map (Txt.item sg))) = true)
        exact row_new G hlt hos hrs hin
      refine wpAny_For ?_ (by intro _; rfl)
      k_steps
      refine call_list (law_places hrl) C0 (by assumption) (by assumption) (by walk_at "om") (by walk_at "om") trivial ?_
      intro h3 tk3 g3 vs3 n3' hvs3 F3 N3 hgne hgL
      dsimp only
      have ep : ms.toArray.push (Value.str (Txt.join (Str.ofString "") (os.map (Txt.item sg))) t') = (ms ++ [Value.str (Txt.join (Str.ofString "") (os.map (Txt.item sg))) t']).toArray := by simp
      rw [ep] at N3 hgne
      k_steps
      refine it_list (σ := MS) (fun z => (z.v, W.listOf z.vs.toArray z.n) :: (f, W.listOf (ms ++ [Value.str (Txt.join (Str.ofString "") (os.map (Txt.item sg))) t']).toArray (nm + 1)) :: (e, W.listOf ks.toArray nk) :: (c, W.listOf ws.toArray n3) :: (b, W.listOf zs.toArray n2) :: (a, oa) :: (r, rangeO (2 * p) t₁ u₁ v₁) :: cells7 L o1 o2 o3 o4 o5 o6 o7)
        (fun z => [(Str.ofString "moved", .ref z.v), (Str.ofString "order", .ref e), (Str.ofString "met", .ref f)])
        (fun i z => IntsAre z.vs z.os ∧ @Ne Nat z.v f ∧ z.os = ((placesOf (rowS sg os)).take i).foldl (stepF sg os) []) (GX s) rfl ⟨_, (N3 _ (.head _)).1, rfl, _, rfl⟩ hgL ?_ GX.step F3 (c₀ := ⟨_, [], 0, []⟩) (news_pick N3 ?_) ⟨rfl, rfl, rfl, trivial⟩ ⟨.nil, ?_, rfl⟩ ⟨_, _, _, rfl, hb1⟩ ?_ ?_
      · intro q hq
        rcases List.mem_cons.mp hq with rfl | hq
        · exact hgne _ (.head _)
        · exact hgne _ (.tail _ hq)
      · intro q hq
        rcases List.mem_cons.mp hq with rfl | hq
        · exact .tail _ (.head _)
        · exact .tail _ (.tail _ hq)
      · exact Nat.ne_of_gt (by assumption : f < _ ∧ e < _ ∧ _).1
      · intro i v zz2 u₁ s₁ own hv zz7 hoff zz9 F5 N5
        obtain ⟨h5, tk5, gs5, rfl, hb5⟩ := zz9
        skip
        obtain ⟨mv, vm, nmv, om⟩ := zz2
        obtain ⟨hom, hmf, hfo⟩ := zz7
        dsimp only [cells7] at N5
        dsimp only at F5 hom hmf hfo
        obtain ⟨at_, tat, hat, rfl⟩ := ints_get hvs3 hv
        have hat2 : at_ ∈ placesOf (rowAt sg rows.length) := by unfold rowAt rowS; rw [← hos]; exact List.mem_of_getElem? hat
        have hpl3 := G.plc _ hlt at_ hat2
        have hck := G.chk _ hlt at_ hat2
        rw [← hos] at hck
        refine law_t C0 hd hu hb5 hp (ta := tat) (om := om) (os := os) (ms := ms ++ [Value.str (Txt.join (Str.ofString "") (os.map (Txt.item sg))) t']) F5 N5 d2 d3 d5 d7 hks hzs hws hom hol hpl hol2 hpl3 hob ?_ G.ocb G.pcb hck ?_ ?_
        · rw [List.length_append, List.length_singleton, strsAre_len hms]; walk_at "om"
        · intro h1
          have h0 : rows.length = 0 := by rw [List.length_append, List.length_singleton, strsAre_len hms] at h1; walk_at "om"
          have h2 := G.num at_ (by rw [← h0]; exact hat2)
          rw [h0] at hos
          rw [hos]; exact h2
        · intro h6 tk6 gs6 m6 v6 vs6 nv6 hv6 hb6 F6 hps6 N6 hv6'
          refine ⟨⟨v6, vs6, nv6, _⟩, m6, ⟨hv6, ?_, ?_⟩, hps6, F6, N6, ⟨_, _, _, rfl, hb6⟩, ?_⟩
          · rcases hv6' with rfl | hv6'
            · exact hmf
            · exact hv6'.1
          · show stepF sg os om at_ = _
            rw [List.take_add_one, show (placesOf (rowS sg os))[i]? = some at_ from hat, List.foldl_append, ← hfo]; rfl
          · intro q hq b2 hb2
            rcases List.mem_cons.mp hb2 with rfl | hb2
            · rcases hv6' with rfl | hv6'
              · exact hoff q hq _ (.head _)
              · exact hv6'.2 q hq
            · exact hoff q hq _ (.tail _ hb2)
      · intro zz0 m2 s₁ zz3 zz4 hk5 F5 N5
        obtain ⟨h5, tk5, gs5, rfl, hb5⟩ := zz4
        skip
        obtain ⟨mv, vm, nmv, om⟩ := zz0
        obtain ⟨hom, hmf, hfo⟩ := zz3
        dsimp only at hom hmf hfo hk5 N5
        rw [← kb_eq hk5] at F5
        dsimp only [kb, cells7] at F5 N5
        have hvs4 : IntsAre vs3 (placesOf (rowS sg os)) := hvs3
        have eo : om = stepOf sg os := by rw [stepOf_fold, hfo, List.take_of_length_le (Nat.le_of_eq (IntsAre.length hvs4).symm)]
        have hgo := G.go _ hlt
        rw [← hos, ← eo] at hgo
        k_steps
        · refine ⟨⟨mv, vm, nmv, om, ms ++ [Value.str (Txt.join (Str.ofString "") (os.map (Txt.item sg))) t'], nm + 1, rows ++ [Txt.join (Str.ofString "") (os.map (Txt.item sg))]⟩, _, ⟨⟨hom, ?_, ?_, strsAre_append hms (.cons _ _ .nil), ?_, hmf⟩, ?_⟩, ⟨rfl, rfl, trivial⟩, by assumption, news_pick (by assumption) ?_, ⟨_, _, _, rfl, hb5⟩, fun _ h => nomatch h⟩
          · dsimp only
            rw [List.length_append]
            show om = stepOf sg (ordAt sg rows.length)
            rw [← hos]; exact eo
          · dsimp only
            rw [List.length_append, List.length_singleton, List.range_succ, List.map_append, ← hrs]
            show _ = rows ++ [rowAt sg rows.length]
            unfold rowAt
            rw [← hos]; rfl
          · dsimp only
            rw [List.length_append, List.length_singleton]; walk_at "om"
          · dsimp only
            rw [List.length_append, List.length_singleton]; walk_at "om"
          · intro q hq
            rw [List.append_nil] at hq
            rcases List.mem_cons.mp hq with rfl | hq
            · exact .tail _ (.tail _ (.head _))
            · rcases List.mem_cons.mp hq with rfl | hq
              · exact .tail _ (.head _)
              · exact .tail _ (.tail _ (.tail _ (.tail _ hq)))
  · rw [decide_eq_false hlt, if_neg Bool.false_ne_true]
    have hrl : rows.length = lim p := by walk_at "om"
    have hSM : StopMark := trivial
    k_steps
    exact next _ _ gs1 _ e ks nk ms nm hb1 (by rw [← hrl, ← hos]; exact hks) (by rw [← hrl, ← hrs]; exact hms) F1 rfl rfl N1
end
theorem resetD8 : ∃ x : Nat, x = 0 := by
  first | (walk1; fail) | skip
  w_top off
  exact ⟨0, rfl⟩
section
local macro_rules | `(tactic| walk_at "subscriptTail Name Slice ref ref") => `(tactic| (refine stop ?_))
local macro_rules | `(tactic| walk_at "call builtin:str.join") => `(tactic| (refine stop ?_))
local macro_rules | `(tactic| walk_at "compareOp NotEq ref ref") => `(tactic| (refine stop ?_))
local macro_rules | `(tactic| walk_at "subscriptTail") => `(tactic| ((with_reducible show wpAny _ _ (subscriptTail _ _ (Value.ref _) (Value.int 0 _)) _ _ _); refine stop ?_))
local macro_rules | `(tactic| walk_at "subscriptTail Name Constant ref int") => `(tactic| (refine stop ?_))
theorem strsAre_take : ∀ {vs : List Value} {xs : List Str} (k : Nat), StrsAre vs xs → StrsAre (vs.take k) (xs.take k)
  | _, _, 0, _ => .nil
  | _, _, _ + 1, .nil => .nil
  | _, _, k + 1, .cons y t r => .cons y t (strsAre_take k r)
theorem but_last {ws : List Value} {pcs : List Str} (h : StrsAre ws pcs) : ∃ vs : List Value, slicePick ws.toArray none (some (-1)) none = vs.toArray ∧ StrsAre vs (pcs.take (pcs.length - 1)) := by
  refine ⟨ws.take (ws.length - 1), ?_, ?_⟩
  · have := slicePick_butLast ws.toArray 1 (Nat.le_refl 1)
    simpa using this
  · rw [← strsAre_len h]; exact strsAre_take _ h
theorem row_get {sg : Str} {n j : Nat} (h : j < n) : ((List.range n).map (rowAt sg)).getD (Int.toNat (j : Int)) PySem.Str.empty = rowAt sg j := by
  rw [Int.toNat_natCast, List.getD_eq_getElem?_getD, List.getElem?_map, List.getElem?_range h]; rfl
set_option maxHeartbeats 8000000 in
theorem law_s10 {w : World}
    {mg mb : Str → Option Value} {mean : ExcName → Option Value} {h₀ : Heap} {d u : Nat} {gs : Option (List Code)} {s : Shared} {Q : Flow → Shared → Prop}
    (C : Ctx w mg mb mean h₀ [] d u gs h₀) (hd : d ≤ 320) (hu : u ≤ 1200) (hbare : AllBare s.gens)
    {L r a b c e f : Addr} {m : Str → Option Value} {p : Int} {sg : Str} {tp tg t₁ u₁ v₁ : Tok} {o1 o2 o3 o4 o5 o6 o7 oa : Obj} {ks zs ws ms : List Value} {n2 n3 n4 nm : Nat} {octs : List Int} {pcs : List Str} (hp : p = 3 ∨ p = 4) (F : Fr h₀ L s.heap m)
    (hmo : m (Str.ofString "order") = some (.ref e)) (hmm : m (Str.ofString "met") = some (.ref f))
    (N : News h₀ L s.heap ((f, W.listOf ms.toArray nm) :: (e, W.listOf ks.toArray n4) :: (c, W.listOf ws.toArray n3) :: (b, W.listOf zs.toArray n2) :: (a, oa) :: (r, rangeO (2 * p) t₁ u₁ v₁) :: cells7 L o1 o2 o3 o4 o5 o6 o7))
    (d2 : o2.data = .cell (some (.int p tp))) (d3 : o3.data = .cell (some (.str sg tg))) (d5 : o5.data = .cell (some (.ref b))) (d7 : o7.data = .cell (some (.ref c)))
    {os : List Int} (hks : IntsAre ks os) (hzs : IntsAre zs octs) (hws : StrsAre ws pcs) (hms : StrsAre ms ((List.range (lim p)).map (rowAt sg))) (hol : octs.length = (2 * p).toNat) (hpl : pcs.length = (2 * p).toNat) (hos : os.length = (2 * p).toNat) (hob : ∀ x ∈ os, 0 ≤ x ∧ x < 2 * p)
    (hsl : sg.length = (2 * p).toNat) (hoct : ∀ x ∈ octs, 0 ≤ x ∧ x < 128) (hpcs : ∀ y ∈ pcs, y.length ≤ 4)
    (hn1 : readL 0 (octs.take (octs.length - 1)) = (dueAt (octs.take (octs.length - 1)) (octs.take (octs.length - 1)).length).1)
    (hn2 : closesOf (readL 0 (octs.take (octs.length - 1))) p = checkOf (Txt.join (Str.ofString "") (pcs.take (pcs.length - 1))))
    (hlev : ∀ x y t t' t2, x = rowAt sg 0 → y = rowAt sg 1 → Gives 400 w 73 [.str x t, .str y t', .int 4 t2] (fun _ => True) (fun v _ _ => ∃ tk, v = .int 4 tk))
    (hback : rowS sg os = rowAt sg 0)
    (done : ∀ h tk gs' m', AllBare gs' → Fr h₀ L h m' → Q (.ret (.bool true)) { s with heap := h, toks := tk, gens := gs' }) :
    LawAt w d u gs L 10 Q s := by
  have hk : PsOk m [(Str.ofString "order", .ref e), (Str.ofString "met", .ref f)] := ⟨hmo, hmm, trivial⟩
  have F1 : Fr h₀ L s.heap (kb m [(Str.ofString "order", .ref e), (Str.ofString "met", .ref f)]) := by rw [kb_eq hk]; exact F
  dsimp only [kb] at F1
  clear F
  have C0 := C
  obtain ⟨X, T, B⟩ := C
  unfold cells7 at N
  unfold LawAt LA LE
  revert X
  k_fill
  intro X
  conv in (List.headD (List.drop _ lawBody) _) => whnf
  conv in (List.drop _ lawBody) => whnf
  obtain ⟨sc, hsc⟩ : ∃ sc, sc = lawScope := ⟨_, rfl⟩
  rw [← hsc]
  conv at hsc => rhs; whnf
  subst hsc
  show wpAny _ _ _ _ _ _
  (k_fold; first | (refine letAE (fun A1 e1 => wpAny _ A1 (execs _ e1) _ _ _) ?_; intro A1 e1) | (refine letA (fun A1 => wpAny _ A1 _ _ _ _) ?_; intro A1) | skip)
  have hpA := p34 hp
  have holA := len2p hp hol
  have hplA := len2p hp hpl
  have hosA := len2p hp hos
  have hslA := len2p hp hsl
  have hkl : ks.length ≤ 8 := by rw [IntsAre.length hks]; walk_at "om"
  have hkz : ks.toArray.size ≤ sizeLine := by rw [List.size_toArray]; exact Nat.le_trans (by assumption) (by decide)
  have hzz : zs.toArray.size ≤ sizeLine := by rw [List.size_toArray, sizeLine_eq, IntsAre.length hzs]; walk_at "om"
  have hwz : ws.toArray.size ≤ sizeLine := by rw [List.size_toArray, sizeLine_eq, strsAre_len hws]; walk_at "om"
  have htl : (octs.take (octs.length - 1)).length ≤ 9 := by rw [List.length_take]; exact Nat.le_trans (Nat.min_le_right _ _) (by walk_at "om")
  have htb : ∀ x ∈ octs.take (octs.length - 1), 0 ≤ x ∧ x < 128 := fun x hx => hoct x (List.mem_of_mem_take hx)
  have htb2 : ∀ x ∈ octs.take (octs.length - 1), 0 ≤ x ∧ x < 256 := fun x hx => by have := htb x hx; walk_at "om"
  have hd1 : d + 1 ≤ 380 := by walk_at "om"
  have hu1 : u + 3 ≤ 1520 := by walk_at "om"
  ((try (show wpAny _ _ _ _ _ _; k_fold)); k_steps)
  refine kmk_slice_ints (lo := none) (hi := some (-1)) (by k_asm) (by k_asm) (by kmk_list) .none (.int _ _) hzs (kmk_upto_neg hzs (by decide)) rfl ?_ (by with_unfolding_all rfl) (by intro _; with_unfolding_all rfl) hzz
  intro D1 ws1 h1 F2 N2 l1 hw1 _ _
  dsimp only
  replace hw1 : IntsAre ws1 (octs.take (octs.length - 1)) := hw1
  clear F1 N
  ((try (show wpAny _ _ _ _ _ _; k_fold)); k_steps)
  refine call_read hw1 htl htb2 C0 (by assumption) (by assumption) hd1 hu1 ?_
  intro h2 tk2 D2 vs2 n2' F3 N3 l2 hv2
  dsimp only
  clear F2 N2
  ((try (show wpAny _ _ _ _ _ _; k_fold)); k_steps)
  refine kmk_slice_ints (lo := none) (hi := some (-1)) (by k_asm) (by k_asm) (by kmk_list) .none (.int _ _) hzs (kmk_upto_neg hzs (by decide)) rfl ?_ (by with_unfolding_all rfl) (by intro _; with_unfolding_all rfl) hzz
  intro D3 ws3 h3 F4 N4 l3 hw3 _ _
  dsimp only
  replace hw3 : IntsAre ws3 (octs.take (octs.length - 1)) := hw3
  ((try (show wpAny _ _ _ _ _ _; k_fold)); k_steps)
  refine call_list (law_due hw3 (Nat.le_trans htl (by decide)) htb) C0 (by assumption) (by assumption) (Nat.le_trans hd1 (by decide)) (Nat.le_trans hu1 (by decide)) (by kmk_list) ?_
  intro h4 tk4 D4 vs4 n4' hv4 F5 N5 l4 lL4
  dsimp only
  ((try (show wpAny _ _ _ _ _ _; k_fold)); k_steps)
  refine ne_intsK (by kmk_list) hv2 (by kmk_list) hv4 (by units_room) ?_
  rw [hn1, decide_eq_true rfl, Bool.not_true]
  ((try (show wpAny _ _ _ _ _ _; k_fold)); k_steps)
  refine kmk_slice (lo := none) (hi := some (-1)) (by k_asm) (by k_asm) (its := ws.toArray) (by kmk_list) .none (.int _ _) ?_ (by with_unfolding_all rfl) (by intro _; with_unfolding_all rfl) hwz
  intro D5 h5 F6 N6 l5
  dsimp only
  obtain ⟨ws5, hw5, hs5⟩ := but_last hws
  rw [hw5] at N6
  have hjn : ((pcs.take (pcs.length - 1)).map (·.length)).sum + (pcs.take (pcs.length - 1)).length ≤ 1048576 := by
    have h1 := sum_le (B := 4) (l := pcs.take (pcs.length - 1)) fun y hy => hpcs y (List.mem_of_mem_take hy)
    have h3 : (pcs.take (pcs.length - 1)).length ≤ 8 := by rw [List.length_take]; exact Nat.le_trans (Nat.min_le_right _ _) (by walk_at "om")
    exact Nat.le_trans (Nat.add_le_add (Nat.le_trans h1 (Nat.mul_le_mul_right 4 h3)) h3) (by decide)
  have hjx : (Txt.join (Str.ofString "") (pcs.take (pcs.length - 1))).length ≤ 100 := by
    refine Nat.le_trans (join_len (B := 4) fun y hy => hpcs y (List.mem_of_mem_take hy)) ?_
    rw [List.length_take]; exact Nat.le_trans (Nat.mul_le_mul_right 4 (Nat.min_le_right _ _)) (by walk_at "om")
  ((try (show wpAny _ _ _ _ _ _; k_fold)); k_steps)
  refine join_listW ⟨_, (N6 _ (.head _)).1, rfl, _, rfl⟩ (ys := pcs.take (pcs.length - 1)) hs5 (by decide) hjn fun t' k' => ?_
  ((try (show wpAny _ _ _ _ _ _; k_fold)); k_steps)
  refine call_givesG (check_ hjx) C0 (by assumption) (by assumption) (Nat.le_trans hd1 (by decide)) (Nat.le_trans hu1 (by decide)) trivial hbare ?_
  intro s1 v1 zz2 F8 N8 zz5 st8
  obtain ⟨h8, tk8, gs8, rfl, hb8⟩ := zz2
  obtain rfl := zz5
  try (show wpAny _ _ _ _ _ _; k_fold)
  dsimp only
  dsimp only at F8 N8
  ((try (show wpAny _ _ _ _ _ _; k_fold)); k_steps)
  refine call_gives (law_closes hv2 (Nat.le_trans (readL_len _ _) (Nat.le_trans htl (by decide))) ⟨by walk_at "om", by walk_at "om"⟩ (readL_pos _ 0 (Int.le_refl 0) fun x hx => (htb x hx).1)) C0 (by assumption) (by assumption) (Nat.le_trans hd1 (by decide)) (Nat.le_trans hu1 (by decide)) (by kmk_list) ?_
  rintro h11 tk11 v11 F11 N11 rfl st11
  rw [hn2]
  dsimp only
  ((try (show wpAny _ _ _ _ _ _; k_fold)); k_steps)
  · exact absurd (by assumption : (checkOf _ != checkOf _) = true) (by simp)
  have N12 := news_pick N11 (b := (f, W.listOf ms.toArray nm) :: _) fun q hq => .tail _ (.tail _ (.tail _ (.tail _ (.tail _ hq))))
  clear N11
  have hm0 : ((List.range (lim p)).map (rowAt sg)).getD (Int.toNat 0) PySem.Str.empty = rowAt sg 0 := row_get (by rcases hp with rfl | rfl <;> decide)
  have hm1 : ((List.range (lim p)).map (rowAt sg)).getD (Int.toNat 1) PySem.Str.empty = rowAt sg 1 := row_get (by rcases hp with rfl | rfl <;> decide)
  have hl2 : (1 : Int) < (((List.range (lim p)).map (rowAt sg)).length : Int) := by
    rw [List.length_map, List.length_range]
    rcases hp with rfl | rfl <;> decide
  refine PySem.W.KTb.item_list (ws := (List.range (lim p)).map (rowAt sg)) ⟨_, (N12 _ (.head _)).1, rfl, _, rfl⟩ hms (Int.le_refl 0) (Int.lt_trans (by decide) hl2) (by decide) (fun t0 hlt0 => ?_) (by with_unfolding_all rfl)
  rw [hm0]
  dsimp only
  ((try (show wpAny _ _ _ _ _ _; k_fold)); k_steps)
  refine PySem.W.KTb.item_list (ws := (List.range (lim p)).map (rowAt sg)) ⟨_, (N12 _ (.head _)).1, rfl, _, rfl⟩ hms (by decide) hl2 (by decide) (fun t0' hlt0' => ?_) (by with_unfolding_all rfl)
  rw [hm1]
  dsimp only
  ((try (show wpAny _ _ _ _ _ _; k_fold)); k_steps)
  refine call_gives (hlev _ _ _ _ _ rfl rfl) C0 F11 N12 (Nat.le_trans hd1 (by decide)) (Nat.le_trans hu1 (by decide)) trivial ?_
  intro h13 tk13 v13 F13 N13 zz5 st13
  obtain ⟨tk14, rfl⟩ := zz5
  try (show wpAny _ _ _ _ _ _; k_fold)
  dsimp only
  clear F11 N12
  ((try (show wpAny _ _ _ _ _ _; k_fold)); k_steps)
  refine LCg.ListComp_U (F₀ := by assumption) (by with_unfolding_all rfl) (by decide) (by rfl) (by decide) (by rfl) ?_
  ((try (show wpAny _ _ _ _ _ _; k_fold)); k_steps)
  have hjn2 : ((os.map (Txt.item sg)).map (·.length)).sum + (os.map (Txt.item sg)).length ≤ 1048576 := by
    have h1 := sum_le (B := 1) (l := os.map (Txt.item sg)) fun y hy => by
      obtain ⟨k, _, rfl⟩ := List.mem_map.mp hy
      exact Nat.le_of_eq (PyProof.Rows.len_item sg k)
    rw [List.length_map] at h1 ⊢
    walk_at "om"
  refine LCg.CompSrc.ledger (its := ks.toArray) rfl (by assumption) (by assumption) (.tail _ (.head _)) hkz (fun g => comp_rest (n := ks.toArray.size) (fun i ys => StrsAre ys ((os.take i).map (Txt.item sg))) (.inr ⟨_, .tail _ (.head _), rfl, _, rfl⟩) ?_ ?_ _ 0 [] (Nat.zero_add _) .nil)
  · rintro i ys v I oI C oC D m₂ h tk E' hin hys hP hoC hmC F N off ne
    obtain ⟨ov, tv, hov, rfl⟩ := ints_get hks (show ks[i]? = some v by simpa using hP)
    have hob2 := hob ov (List.mem_of_getElem? hov)
    ((try (show wpAny _ _ _ _ _ _; k_fold)); k_steps)
    refine ⟨_, _, rfl, F, N, ?_⟩
    rw [take_map_succ hov]
    exact strsAre_append hys (.cons _ _ .nil)
  · rintro ys hys D h tk F N off
    have e0 : os.take ks.toArray.size = os := List.take_of_length_le (by rw [List.size_toArray, IntsAre.length hks]; exact Nat.le_refl _)
    rw [e0] at hys
    clear off
    dsimp only
    ((try (show wpAny _ _ _ _ _ _; k_fold)); k_steps)
    refine join_listW ⟨_, (N _ (.head _)).1, rfl, _, rfl⟩ (ys := os.map (Txt.item sg)) hys (by decide) hjn2 fun t' k' => ?_
    have N7 := news_pick N fun q hq => List.mem_cons_of_mem _ hq
    have F7 := F
    clear F N
    k_steps
    refine PySem.W.KTb.item_list (ws := (List.range (lim p)).map (rowAt sg)) ⟨_, (N7 _ (.head _)).1, rfl, _, rfl⟩ hms (Int.le_refl 0) (Int.lt_trans (by decide) hl2) (by decide) (fun t0 hlt0 => ?_) (by with_unfolding_all rfl)
    rw [hm0]
    dsimp only
    have hbk : Txt.join (Str.ofString "") (os.map (Txt.item sg)) = rowAt sg 0 := hback
    rw [hbk]
    k_steps
    rw [beq_self_eq_true]
    exact done _ _ _ _ hb8 F7
end
end
end
theorem resetE1 : ∃ x : Nat, x = 0 := by
  first | (walk1; fail) | skip
  w_top off
  exact ⟨0, rfl⟩
section
open PySem.Builtin.Str
noncomputable def OptMark : Prop := True
/-- `post or None` -/
noncomputable def optV0 (ps : Int) (t : Tok) : Value := if ps = 0 then .none else .int ps t
noncomputable def optS (x : Str) (ps : Int) : Str := Txt.slice x none (if ps = 0 then none else some ps)
section
variable {prog : Program} {w : World} {A : Around} {E : Value → Shared → Prop} {s : Shared} {h₀ : Heap} {L : Addr} {m : Str → Option Value} {news : List (Addr × Obj)} {env : Env} {e₁ : Expr} {k : Nat} {pos pos1 : Pos} {value slice : Expr} {x : Str} {t : Tok}
theorem post_or {k : Nat} {Q : Value → Shared → Prop} (h : wpAny (model prog w) A (eval e₁ env) (fun v s₁ => ∃ ps tps, v = .int ps tps ∧ Q (optV0 ps tps) s₁) E s) : wpAny (model prog w) A (evalPart (some (.BoolOp .Or [e₁, .Constant .none k pos1] pos)) env) Q E s := by
  refine evalPart_some_step (BoolOp_or (wpAny_mono h ?_ fun _ _ e => e))
  rintro v s₁ ⟨ps, tps, rfl, hq⟩
  refine truthy_int ?_
  unfold optV0 at hq
  by_cases hz : ps = 0
  · rw [if_pos hz] at hq; rw [if_neg (by simp [hz])]; exact BoolOp_one (Constant_none hq)
  · rw [if_neg hz] at hq; rw [if_pos (by simpa using hz)]; exact hq
theorem slice_opt {ps : Int} {tps : Tok} {Q : Value → Shared → Prop} (hF : Fr h₀ L s.heap m) (hN : News h₀ L s.heap news) (h : ∀ h' t' k, Fr h₀ L h' m → News h₀ L h' news → Q (.str (optS x ps) t') { s with heap := h', toks := k })
    (hs : subscripted slice false (.str x t) (.ref s.heap.objs.size) = operate [.ref s.heap.objs.size, .str x t] (getItem (.str x t) (.ref s.heap.objs.size)) := by with_unfolding_all rfl)
    (ht : ∀ r, letTemporaryGo value (.str x t) r = pure () := by intro _; with_unfolding_all rfl) (hsz : x.length ≤ sizeLine) :
    wpAny (model prog w) A (subscriptTail value slice (.str x t) (.ref s.heap.objs.size)) Q E { s with heap := s.heap.push { cls := .type "slice", data := .fields #[.none, optV0 ps tps, .none] } } := by
  unfold optS at h
  unfold optV0
  by_cases hz : ps = 0
  · rw [if_pos hz] at h ⊢; exact slice_strN_nn hF hN h hs ht hsz
  · rw [if_neg hz] at h ⊢; exact slice_strN_ns hF hN h hs ht hsz
end
local macro_rules | `(tactic| walk_at "evalPart some") => `(tactic| ((with_reducible show wpAny _ _ (evalPart (some (Expr.BoolOp _ _ _)) _) _ _ _); refine post_or ?_))
local macro_rules | `(tactic| walk_at "subscriptTail Name Slice str ref") => `(tactic| ((with_reducible show wpAny _ _ (subscriptTail _ (Expr.Slice (some _) none none _) _ _) _ _ _); (with_reducible rename Fr _ _ _ _ => FX); (with_reducible rename News _ _ _ _ => NX); (refine slice_strN_sn (hsz := ?hsz) (s := ⟨_, _, _, _, _⟩) FX NX ?_); (case hsz => assumption); clear FX NX; intro _ _ _ _ _))
local macro_rules | `(tactic| walk_at "subscriptTail Name Slice str ref") => `(tactic| ((with_reducible show wpAny _ _ (subscriptTail _ (Expr.Slice none (some _) none _) _ _) _ _ _); (with_reducible rename Fr _ _ _ _ => FX); (with_reducible rename News _ _ _ _ => NX); (refine slice_opt (hsz := ?hsz) (s := ⟨_, _, _, _, _⟩) FX NX ?_); (case hsz => assumption); clear FX NX; intro _ _ _ _ _))
local macro_rules | `(tactic| walk_at "setItem ref int") => `(tactic| (refine stop ?_))
noncomputable def Tst (c : Bool) (s : Shared) (h₀ : Heap) (L : Addr) (m : Str → Option Value) (b : Bool) (s₂ : Shared) : Prop :=
  ∃ h tk, b = c ∧ s₂ = { s with heap := h, toks := tk } ∧ Fr h₀ L h m ∧ News h₀ L h []
theorem ints_of_get : ∀ (us : List Value) (xs : List Int), us.length = xs.length → (∀ (j : Nat) (x : Int), xs[j]? = some x → ∃ t, us[j]? = some (Value.int x t)) → IntsAre us xs
  | [], [], _, _ => .nil
  | v :: r, x :: q, hl, h => by
    obtain ⟨t, ht⟩ := h 0 x rfl
    have e : v = Value.int x t := by simpa using ht
    rw [e]
    exact .cons _ _ (ints_of_get r q (by simpa using hl) fun j y hy => by simpa using h (j + 1) y (by simpa using hy))
  | [], _ :: _, hl, _ => nomatch hl
  | _ :: _, [], hl, _ => nomatch hl
/-- the first row -/
noncomputable def row0 (n : Nat) : List Int := (List.range n).map fun i : Nat => 2 + (i : Int) * 2
theorem list2 {prog : Program} {w : World} {A : Around} {E : Value → Shared → Prop} {s : Shared} {h₀ : Heap} {L r : Addr} {m : Str → Option Value} {news : List (Addr × Obj)} {b : Int} {t u v : Tok} {n : Nat} {Q : Value → Shared → Prop}
    (hh : A.handled = none) (F : Fr h₀ L s.heap m) (N : News h₀ L s.heap news) (hr : IsRange s.heap r 2 b 2 t u v) (hsmall : Builtin.Range.small 2 b 2 = true) (hn : Builtin.Range.rangeSize 2 b 2 = (n : Int)) (hz : n ≤ 2 ^ 24)
    (h : ∀ D us c h' tk, Fr h₀ L h' m → News h₀ L h' ((D, W.listOf (List.toArray us) c) :: news) → IntsAre us (row0 n) → Q (.ref D) { s with heap := h', toks := tk }) :
    wpAny (model prog w) A (call (.type "list") [.ref r]) Q E s := by
  refine call_list_range hh hr hsmall hn hz fun h' tk acc c hk hD hI => ?_
  have hD' : h'.get? s.heap.objs.size = some (W.listOf (List.toArray acc.toList) c) := by
    rw [Array.toArray_toList]
    exact hD
  refine h _ acc.toList c h' tk (F.keeps hk) (news_pushed F N hk hD' rfl) (ints_of_get _ _ (by rw [Array.length_toList, hI.1]; unfold row0; simp) fun j y hy => ?_)
  unfold row0 at hy
  have hj : j < n := by
    have := (List.getElem?_eq_some_iff.mp hy).1
    simpa using this
  rw [List.getElem?_map, List.getElem?_range hj] at hy
  have hy2 : 2 + (j : Int) * 2 = y := by simpa using hy
  have hja : j < acc.size := by rw [hI.1]; exact hj
  obtain ⟨tk2, e⟩ := hI.2 j acc[j] (Array.getElem?_eq_getElem hja)
  exact ⟨tk2, by rw [Array.getElem?_toList, Array.getElem?_eq_getElem hja, e, ← hy2]⟩
noncomputable def inRes (x bc : Str) (st : Int × Int × Int × List Int) (i : Nat) : Int :=
  if st.1 + (if bc = Txt.item x (i : Int) then 0 else 2) < (if st.2.2.2.getD (i : Int).toNat 0 < st.2.1 then st.2.2.2.getD (i : Int).toNat 0 else st.2.1) + 2 then st.1 + (if bc = Txt.item x (i : Int) then 0 else 2)
  else (if st.2.2.2.getD (i : Int).toNat 0 < st.2.1 then st.2.2.2.getD (i : Int).toNat 0 else st.2.1) + 2
noncomputable def inStep (x bc : Str) (st : Int × Int × Int × List Int) (i : Nat) : Int × Int × Int × List Int :=
  (st.2.2.2.getD (i : Int).toNat 0, inRes x bc st i, (if inRes x bc st i < st.2.2.1 then inRes x bc st i else st.2.2.1), st.2.2.2.set (i : Int).toNat (inRes x bc st i))
noncomputable def inRun (x bc : Str) (n : Nat) (st : Int × Int × Int × List Int) : Int × Int × Int × List Int := (List.range n).foldl (inStep x bc) st
/-- the row ahead of turn j, and the result -/
noncomputable def outRun (x y : Str) (n : Nat) : Nat → Int × List Int
  | 0 => (0, row0 n)
  | j + 1 => ((inRun x (Txt.item y j) n ((j : Int) * 2, (j : Int) * 2, 9223372036854775807, (outRun x y n j).2)).2.1, (inRun x (Txt.item y j) n ((j : Int) * 2, (j : Int) * 2, 9223372036854775807, (outRun x y n j).2)).2.2.2)
noncomputable def lowAt (x y : Str) (n j : Nat) : Int := (inRun x (Txt.item y j) n ((j : Int) * 2, (j : Int) * 2, 9223372036854775807, (outRun x y n j).2)).2.2.1
noncomputable def DpOk (x y : Str) (n : Nat) : Prop := (∀ j, j < n → lowAt x y n j ≤ 4) ∧ (outRun x y n n).1 = 4
structure OS where
  r : Int
  tr : Tok
  vs : List Value
  nn : Nat
  row : List Int
structure IS where
  dist : Int
  td : Tok
  r : Int
  tr : Tok
  mn : Int
  tm : Tok
  vs : List Value
  nn : Nat
  row : List Int
/-- pr is where x and y first part -/
noncomputable def IsPre (x y : Str) (n : Nat) (pr : Int) : Prop := 0 ≤ pr ∧ pr < n ∧ (∀ k, 0 ≤ k → k < pr → Txt.item x k = Txt.item y k) ∧ Txt.item x pr ≠ Txt.item y pr
/-- ps is where x and y last part, from the end -/
noncomputable def IsPost (x y : Str) (n : Nat) (ps : Int) : Prop := -(n : Int) < ps ∧ ps ≤ 0 ∧ (∀ k, ps ≤ k → k < 0 → Txt.item x k = Txt.item y k) ∧ Txt.item x (ps - 1) ≠ Txt.item y (ps - 1)
theorem seq_nat {i len : Nat} (h : i < len) : seqIndex? (i : Int) len = some i := by
  unfold seqIndex?
  have h1 : ¬ ((i : Int) < 0) := by (first | lia | walk_at "om")
  simp [h1, h]
theorem seq_neg {j len : Nat} (h0 : 1 ≤ j) (h : j ≤ len) : seqIndex? (-(j : Int)) len = some (len - j) := by
  unfold seqIndex?
  have h1 : -(j : Int) < 0 := by (first | lia | walk_at "om")
  have h2 : (0 : Int) ≤ -(j : Int) + len := by (first | lia | walk_at "om")
  have h3 : -(j : Int) + (len : Int) < len := by (first | lia | walk_at "om")
  have h4 : (-(j : Int) + (len : Int)).toNat = len - j := by rw [Int.add_comm, ← Int.sub_eq_add_neg]; exact Int.toNat_sub len j
  rw [if_pos h1]
  simp only [h2, h3, h4, decide_true, Bool.and_self, if_true]
theorem item_nat {x : Str} {i : Nat} (h : i < x.length) : Txt.item x (i : Int) = ⟨#[x.cps.toList.getD i 0]⟩ := by
  show (⟨#[(Txt.charAt x (i : Int)).getD 0]⟩ : Str) = _
  have e : Txt.charAt x (i : Int) = x.cps.toList[i]? := by
    unfold Txt.charAt
    rw [seq_nat h]; simp
  rw [e, List.getD_eq_getElem?_getD]
theorem item_neg {x : Str} {j : Nat} (h0 : 1 ≤ j) (h : j ≤ x.length) : Txt.item x (-(j : Int)) = ⟨#[x.cps.toList.getD (x.length - j) 0]⟩ := by
  show (⟨#[(Txt.charAt x (-(j : Int))).getD 0]⟩ : Str) = _
  have e : Txt.charAt x (-(j : Int)) = x.cps.toList[x.length - j]? := by
    unfold Txt.charAt
    rw [seq_neg h0 h]; simp
  rw [e, List.getD_eq_getElem?_getD]
theorem slice_cps {x : Str} {pr : Int} (h0 : 0 ≤ pr) (h1 : pr ≤ x.length) : (Txt.slice x (some pr) none).cps.toList = x.cps.toList.drop pr.toNat := by
  rw [slice_from_eq (b := x.length) h0 h1 rfl]
  show List.take ((x.length : Int) - pr).toNat (List.drop pr.toNat x.cps.toList) = _
  obtain ⟨k, rfl⟩ := Int.eq_ofNat_of_zero_le h0
  rw [List.take_of_length_le]
  rw [List.length_drop, ← str_len_cps]
  exact Nat.le_of_eq (by rw [Int.toNat_natCast, Int.toNat_sub])
theorem slice_len {x : Str} {pr : Int} (h0 : 0 ≤ pr) (h1 : pr ≤ x.length) : (Txt.slice x (some pr) none).length = x.length - pr.toNat := by
  rw [str_len_cps, slice_cps h0 h1, List.length_drop, ← str_len_cps]
theorem slice_first {x : Str} {n n1 : Nat} {pr : Int} (hx : x.length = n) (h0 : 0 ≤ pr) (h1 : pr < n) (hn : n1 = n - pr.toNat) : Txt.item (Txt.slice x (some pr) none) (-(n1 : Int)) = Txt.item x pr := by
  obtain ⟨k, rfl⟩ := Int.eq_ofNat_of_zero_le h0
  rw [Int.toNat_natCast] at hn
  have hkn : k < n := Int.ofNat_lt.mp h1
  have hkx : ((k : Nat) : Int) ≤ x.length := by rw [hx]; exact Int.le_of_lt h1
  have hx' : x.length = k + n1 := by rw [hx, hn]; exact (Nat.add_sub_cancel' (Nat.le_of_lt hkn)).symm
  have h1n : 1 ≤ n1 := by rw [hn]; exact Nat.sub_pos_of_lt hkn
  have hl : (Txt.slice x (some (k : Int)) none).length = n1 := by rw [slice_len h0 hkx, Int.toNat_natCast, hx', Nat.add_sub_cancel_left]
  have e2 : Txt.item x (k : Int) = ⟨#[x.cps.toList.getD k 0]⟩ := item_nat (by rw [hx]; exact hkn)
  rw [item_neg h1n (Nat.le_of_eq hl.symm), hl, slice_cps h0 hkx, Int.toNat_natCast]
  rw [e2, Nat.sub_self, List.getD_eq_getElem?_getD, List.getD_eq_getElem?_getD, List.getElem?_drop, Nat.add_zero]
theorem slice_nn {x : Str} : Txt.slice x none none = x := by
  have e : strSliceIndices none none 1 x.length = strSliceIndices (some 0) none 1 x.length := by
    unfold strSliceIndices
    have h0 : max (0 : Int) (min 0 (x.length : Int)) = 0 := by (first | lia | walk_at "om")
    simp [h0]
  unfold Txt.slice
  rw [e]
  exact slice_all
theorem slice_neg_cps {x : Str} {j : Int} (h0 : -(x.length : Int) < j) (h1 : j < 0) : (Txt.slice x none (some j)).cps.toList = x.cps.toList.take (x.length + j).toNat := by
  have e : strSliceIndices none (some j) 1 x.length = strSliceIndices (some 0) (some (x.length + j)) 1 x.length := by
    unfold strSliceIndices
    have h2 : ¬ ((x.length : Int) + j < 0) := by (first | lia | walk_at "om")
    have e1 : j + (x.length : Int) = x.length + j := by (first | lia | walk_at "om")
    have h3 : max (0 : Int) (min 0 (x.length : Int)) = 0 := by (first | lia | walk_at "om")
    simp [h1, h2, e1, h3]
  have e2 : Txt.slice x none (some j) = Txt.slice x (some 0) (some (x.length + j)) := by
    unfold Txt.slice
    rw [e]
  rw [e2, eq_of_beq (slice_closesL (Int.le_refl 0) (by (first | lia | walk_at "om")) (by (first | lia | walk_at "om")))]
  show List.take ((x.length : Int) + j - 0).toNat (List.drop (0 : Int).toNat x.cps.toList) = _
  rw [Int.sub_zero]; rfl
theorem slice_neg_len {x : Str} {j : Int} (h0 : -(x.length : Int) < j) (h1 : j < 0) : (Txt.slice x none (some j)).length = (x.length + j).toNat := by
  rw [str_len_cps, slice_neg_cps h0 h1, List.length_take, ← str_len_cps]
  exact Nat.min_eq_left (Int.toNat_le.mpr (by (first | lia | walk_at "om")))
theorem opt_len {x : Str} {j : Int} (h0 : -(x.length : Int) < j) (h1 : j ≤ 0) : (optS x j).length = (x.length + j).toNat := by
  unfold optS
  by_cases hz : j = 0
  · rw [if_pos hz, slice_nn, hz, Int.add_zero, Int.toNat_natCast]
  · rw [if_neg hz, slice_neg_len h0 (by (first | lia | walk_at "om"))]
theorem small2 {n : Nat} (h : n ≤ 8) : Builtin.Range.small 2 (2 * ((n : Int) + 1)) 2 = true := by
  have : ∀ k, k ≤ 8 → Builtin.Range.small 2 (2 * (((k : Nat) : Int) + 1)) 2 = true := by decide
  exact this n h
theorem size2 {n : Nat} (h : n ≤ 8) : Builtin.Range.rangeSize 2 (2 * ((n : Int) + 1)) 2 = (n : Int) := by
  have : ∀ k, k ≤ 8 → Builtin.Range.rangeSize 2 (2 * (((k : Nat) : Int) + 1)) 2 = ((k : Nat) : Int) := by decide
  exact this n h
theorem Br.drop {l : List Nat} (h : Br l) (k : Nat) : Br (l.drop k) := fun c hc => h c (List.mem_of_mem_drop hc)
theorem Br.take {l : List Nat} (h : Br l) (k : Nat) : Br (l.take k) := fun c hc => h c (List.mem_of_mem_take hc)
theorem opt_br {x : Str} {j : Int} (h : Br x.cps.toList) (h0 : -(x.length : Int) < j) (h1 : j ≤ 0) : Br (optS x j).cps.toList := by
  unfold optS
  by_cases hz : j = 0
  · rw [if_pos hz, slice_nn]; exact h
  · rw [if_neg hz, slice_neg_cps h0 (by (first | lia | walk_at "om"))]; exact h.take _
theorem item_br {x : Str} {i : Nat} (h : Br x.cps.toList) (hi : i < x.length) : Txt.item x (i : Int) = Str.ofString "(" ∨ Txt.item x (i : Int) = Str.ofString ")" := by
  rw [item_nat hi]
  have hi2 : i < x.cps.toList.length := by rw [← str_len_cps]; exact hi
  rw [List.getD_eq_getElem?_getD, List.getElem?_eq_getElem hi2]
  rcases h _ (List.getElem_mem hi2) with e | e
  · rw [e]; exact .inl (by decide)
  · rw [e]; exact .inr (by decide)
theorem cps_of_items {x y : Str} {n : Nat} (hx : x.length = n) (hy : y.length = n) (h : ∀ k : Int, 0 ≤ k → k < n → Txt.item x k = Txt.item y k) : x = y := by
  have e : x.cps.toList = y.cps.toList := by
    apply List.ext_getElem
    · rw [← str_len_cps, ← str_len_cps, hx, hy]
    · intro i h1 h2
      have h1' : i < x.length := by rw [str_len_cps]; exact h1
      have h2' : i < y.length := by rw [str_len_cps]; exact h2
      have h3 := h i (Int.natCast_nonneg i) (by (first | lia | walk_at "om"))
      rw [item_nat h1', item_nat h2', List.getD_eq_getElem?_getD, List.getD_eq_getElem?_getD, List.getElem?_eq_getElem h1, List.getElem?_eq_getElem h2] at h3
      injection h3 with h3
      simpa using h3
  rw [str_ext (x := x) e, str_ext (x := y) rfl]
set_option maxHeartbeats 8000000 in
theorem lev_ {w : World} {x y : Str} {t t' t2 : Tok} {n : Nat} (hx : x.length = n) (hy : y.length = n) (hn : n ≤ 8) (hxy : x ≠ y) (hbx : Br x.cps.toList) (hby : Br y.cps.toList)
    (hok : ∀ pr ps x1 y1 x2 y2 n1 n2, IsPre x y n pr → x1 = Txt.slice x (some pr) none → y1 = Txt.slice y (some pr) none → n1 = n - pr.toNat → IsPost x1 y1 n1 ps → x2 = optS x1 ps → y2 = optS y1 ps → n2 = ((n1 : Int) + ps).toNat → DpOk x2 y2 n2) :
    Gives 400 w 73 [.str x t, .str y t', .int 4 t2] (fun _ => True) (fun v _ _ => ∃ tk, v = .int 4 tk) := by
  intro mg mb mean base outer d u gs s R C hd hu hpre h
  have C0 := C
  obtain ⟨X, T, B⟩ := C
  revert X
  k_fill
  intro X
  refine' enter_def X T.nolimit ?k6 ?k7 ?k8 ?k9 ?kB ?_ ?c2 ?c3 ?c4 ?c5
  case k6 => k_is
  case k7 => k_is
  case k8 => simp only [recursionLimit]; walk_at "om"
  case k9 => exact BindsTo.of_eq rfl
  case kB => exact locs rfl
  case c2 => rfl
  case c3 => rfl
  case c4 => rfl
  case c5 => decide
  intro L' h' F' N' X'
  dsimp only
  refine wpAny_noRaise ?_
  (k_fold; first | (refine letAE (fun A1 e1 => wpAny _ A1 (execs _ e1) _ _ _) ?_; intro A1 e1) | (refine letA (fun A1 => wpAny _ A1 _ _ _ _) ?_; intro A1) | skip)
  have hx8 : x.length ≤ 8 := by rw [hx]; exact hn
  have hy8 : y.length ≤ 8 := by rw [hy]; exact hn
  have hzx : x.length ≤ sizeLine := Nat.le_trans hx8 (by decide)
  have hzy : y.length ≤ sizeLine := Nat.le_trans hy8 (by decide)
  k_steps
  · exact absurd (eq_of_beq (by assumption : (x == y) = true)) hxy
  rename_i F1 N1
  refine while_inv (σ := Int × Tok) (fun _ => []) (fun c => [(Str.ofString "pre", .int c.1 c.2), (Str.ofString "a", .str x t), (Str.ofString "b", .str y t'), (Str.ofString "max_cost", .int 4 t2)]) (fun c => 0 ≤ c.1 ∧ c.1 ≤ n ∧ ∀ k, 0 ≤ k → k < c.1 → Txt.item x k = Txt.item y k) (fun c => ((n : Int) - c.1).toNat) (Only s) F1 (c₀ := (0, _)) N1 ⟨rfl, rfl, rfl, rfl, trivial⟩ ⟨Int.le_refl 0, Int.natCast_nonneg n, fun k h0 h1 => by dsimp only at h1; walk_at "om"⟩ ⟨_, _, rfl⟩ ?_
  clear F1 N1
  intro zz0 u' s₁ zz3 zz4 F5 N5
  obtain ⟨h₂, tk₂, rfl⟩ := zz4
  skip
  obtain ⟨pr, tp⟩ := zz0
  obtain ⟨hp0, hp1, hpe⟩ := zz3
  dsimp only [kb] at F5 N5 hp0 hp1 hpe
  refine wpAny_mono (Q := Tst (decide (pr < n ∧ Txt.item x pr = Txt.item y pr)) s s.heap L' (upd (upd (upd (upd u' (Str.ofString "max_cost") (.int 4 t2)) (Str.ofString "b") (.str y t')) (Str.ofString "a") (.str x t)) (Str.ofString "pre") (.int pr tp))) ?_ ?_ (fun _ _ e => e)
  · k_steps
    all_goals refine ⟨_, _, ?_, rfl, by assumption, by assumption⟩
    all_goals first
      | exact (decide_eq_true ⟨by walk_at "om", eq_of_beq (by assumption)⟩).symm
      | exact (decide_eq_false (fun hh => ne_of_beq_false (by assumption) hh.2)).symm
      | exact (decide_eq_false (fun hh => by have := hh.1; walk_at "om")).symm
  rintro tb s₂ ⟨h3, tk3, rfl, rfl, F6, N6⟩
  clear F5 N5
  by_cases hc : pr < n ∧ Txt.item x pr = Txt.item y pr
  · rw [decide_eq_true hc, if_pos rfl]
    k_steps
    refine ⟨(pr + 1, _), _, ⟨⟨?_, ?_, ?_⟩, ?_⟩, ⟨rfl, rfl, rfl, rfl, trivial⟩, by assumption, by rw [List.append_nil]; assumption, ⟨_, _, rfl⟩, fun _ h => nomatch h⟩
    · dsimp only; walk_at "om"
    · dsimp only; walk_at "om"
    · intro k h0 h1
      dsimp only at h1
      by_cases hk : k < pr
      · exact hpe k h0 hk
      · have : k = pr := by walk_at "om"
        rw [this]; exact hc.2
    · dsimp only; walk_at "om"
  rw [decide_eq_false hc, if_neg Bool.false_ne_true]
  have hpn : pr < n := by
    apply Classical.byContradiction
    intro hge
    exact hxy (cps_of_items hx hy fun k h0 h1 => hpe k h0 (by walk_at "om"))
  have hpd : Txt.item x pr ≠ Txt.item y pr := fun e => hc ⟨hpn, e⟩
  have hpre2 : IsPre x y n pr := ⟨hp0, hpn, hpe, hpd⟩
  k_steps
  rename_i g0 tx1 k1 g1 g2 ty1 k2 g3 g4 F7 N7
  obtain ⟨x1, hx1⟩ : ∃ x1, x1 = Txt.slice x (some pr) none := ⟨_, rfl⟩
  obtain ⟨y1, hy1⟩ : ∃ y1, y1 = Txt.slice y (some pr) none := ⟨_, rfl⟩
  rw [← hx1, ← hy1] at F7
  obtain ⟨n1, hn1⟩ : ∃ n1, n1 = n - pr.toNat := ⟨_, rfl⟩
  have hn1A : (n1 : Int) = n - pr := by rw [hn1]; exact minus_toNat hp0 (Int.le_of_lt hpn)
  have hn10 : 1 ≤ n1 := by walk_at "om"
  have hn18 : n1 ≤ 8 := by walk_at "om"
  have hxl1 : x1.length = n1 := by rw [hx1, slice_len hp0 (by rw [hx]; exact Int.le_of_lt hpn), hx, hn1]
  have hyl1 : y1.length = n1 := by rw [hy1, slice_len hp0 (by rw [hy]; exact Int.le_of_lt hpn), hy, hn1]
  have hne : Txt.item x1 (-(n1 : Int)) ≠ Txt.item y1 (-(n1 : Int)) := by
    rw [hx1, hy1, slice_first hx hp0 hpn hn1, slice_first hy hp0 hpn hn1]; exact hpd
  have hx18 : x1.length ≤ 8 := by rw [hxl1]; exact hn18
  have hy18 : y1.length ≤ 8 := by rw [hyl1]; exact hn18
  have hzx1 : x1.length ≤ sizeLine := Nat.le_trans hx18 (by decide)
  have hzy1 : y1.length ≤ sizeLine := Nat.le_trans hy18 (by decide)
  refine while_inv (σ := Int × Tok) (fun _ => []) (fun c => [(Str.ofString "post", .int c.1 c.2), (Str.ofString "b", .str y1 ty1), (Str.ofString "a", .str x1 tx1), (Str.ofString "max_cost", .int 4 t2)]) (fun c => -(n1 : Int) < c.1 ∧ c.1 ≤ 0 ∧ ∀ k, c.1 ≤ k → k < 0 → Txt.item x1 k = Txt.item y1 k) (fun c => ((n1 : Int) + c.1).toNat) (Only s) F7 (c₀ := (0, _)) N7 ⟨rfl, rfl, rfl, rfl, trivial⟩ ⟨by dsimp only; walk_at "om", Int.le_refl 0, fun k h0 h1 => by dsimp only at h0; walk_at "om"⟩ ⟨_, _, rfl⟩ ?_
  clear F7 N7
  intro zz0 u2 s₁ zz3 zz4 F8 N8
  obtain ⟨h8, tk8, rfl⟩ := zz4
  skip
  obtain ⟨ps, tps⟩ := zz0
  obtain ⟨hq0, hq1, hqe⟩ := zz3
  dsimp only [kb] at F8 N8 hq0 hq1 hqe
  refine wpAny_mono (Q := Tst (decide (Txt.item x1 (ps - 1) = Txt.item y1 (ps - 1))) s s.heap L' (upd (upd (upd (upd u2 (Str.ofString "max_cost") (.int 4 t2)) (Str.ofString "a") (.str x1 tx1)) (Str.ofString "b") (.str y1 ty1)) (Str.ofString "post") (.int ps tps))) ?_ ?_ (fun _ _ e => e)
  · obtain ⟨m2, hm2⟩ : ∃ m2 : Nat, (m2 : Int) = n1 + ps := ⟨((n1 : Int) + ps).toNat, Int.toNat_of_nonneg (by walk_at "om")⟩
    have hm28 : m2 ≤ 8 := by walk_at "om"
    have hm20 : 1 ≤ m2 := by walk_at "om"
    have hox : (optS x1 ps).length = m2 := by rw [opt_len (by rw [hxl1]; exact hq0) hq1, hxl1, ← hm2]; exact Int.toNat_natCast m2
    have hoy : (optS y1 ps).length = m2 := by rw [opt_len (by rw [hyl1]; exact hq0) hq1, hyl1, ← hm2]; exact Int.toNat_natCast m2
    k_steps
    all_goals refine ⟨_, _, ?_, rfl, by assumption, by assumption⟩
    all_goals first
      | exact (decide_eq_true (eq_of_beq (by assumption))).symm
      | exact (decide_eq_false (fun hh => ne_of_beq_false (by assumption) hh)).symm
      | (exfalso; walk_at "om")
  rintro tb s₂ ⟨h9, tk9, rfl, rfl, F9, N9⟩
  clear F8 N8
  by_cases hc : Txt.item x1 (ps - 1) = Txt.item y1 (ps - 1)
  · rw [decide_eq_true hc, if_pos rfl]
    have hps1 : -(n1 : Int) < ps - 1 := by
      apply Classical.byContradiction
      intro hge
      have e : ps - 1 = -(n1 : Int) := by walk_at "om"
      rw [e] at hc
      exact hne hc
    k_steps
    refine ⟨(ps - 1, _), _, ⟨⟨?_, ?_, ?_⟩, ?_⟩, ⟨rfl, rfl, rfl, rfl, trivial⟩, by assumption, by rw [List.append_nil]; assumption, ⟨_, _, rfl⟩, fun _ h => nomatch h⟩
    · dsimp only; walk_at "om"
    · dsimp only; walk_at "om"
    · intro k h0 h1
      dsimp only at h0
      by_cases hk : ps ≤ k
      · exact hqe k hk h1
      · have : k = ps - 1 := by walk_at "om"
        rw [this]; exact hc
    · dsimp only; walk_at "om"
  rw [decide_eq_false hc, if_neg Bool.false_ne_true]
  have hpost : IsPost x1 y1 n1 ps := ⟨hq0, hq1, hqe, hc⟩
  obtain ⟨n2, hn2⟩ : ∃ n2, n2 = (n1 + ps).toNat := ⟨_, rfl⟩
  have hn2A : (n2 : Int) = n1 + ps := by rw [hn2]; exact Int.toNat_of_nonneg (by walk_at "om")
  have hn20 : 1 ≤ n2 := by walk_at "om"
  have hn28 : n2 ≤ 8 := by walk_at "om"
  have hox : (optS x1 ps).length = n2 := by rw [opt_len (by rw [hxl1]; exact hq0) hq1, hxl1, hn2]
  have hoy : (optS y1 ps).length = n2 := by rw [opt_len (by rw [hyl1]; exact hq0) hq1, hyl1, hn2]
  k_steps
  rotate_left
  · exfalso; walk_at "om"
  · exfalso; walk_at "om"
  refine list2 (n := n2) rfl (by assumption) (by assumption) (by assumption) ?_ ?_ (by walk_at "om") ?_
  · rw [hox]; exact small2 hn28
  · rw [hox]; exact size2 hn28
  intro D vsR cR h10 tk10 F10 N10 hR
  dsimp only
  k_steps
  refine wpAny_For ?_ (by intro _; rfl)
  k_steps
  rename_i R11 F11 N11 keep11
  obtain ⟨x2, hx2⟩ : ∃ x2, x2 = optS x1 ps := ⟨_, rfl⟩
  obtain ⟨y2, hy2⟩ : ∃ y2, y2 = optS y1 ps := ⟨_, rfl⟩
  rw [← hx2] at hox F11
  rw [← hy2] at hoy F11 R11
  rw [hoy] at R11
  have hb2 : Br x2.cps.toList := by rw [hx2]; exact opt_br (by rw [hx1, slice_cps hp0 (by rw [hx]; exact Int.le_of_lt hpn)]; exact hbx.drop _) (by rw [hxl1]; exact hq0) hq1
  have hc2 : Br y2.cps.toList := by rw [hy2]; exact opt_br (by rw [hy1, slice_cps hp0 (by rw [hy]; exact Int.le_of_lt hpn)]; exact hby.drop _) (by rw [hyl1]; exact hq0) hq1
  have hdp : DpOk x2 y2 n2 := hok pr ps x1 y1 x2 y2 n1 n2 hpre2 hx1 hy1 hn1 hpost hx2 hy2 hn2
  clear hok hpre2 hpost hne hpd hpe hqe hc hpn hp0 hp1 hq0 hq1 hn1 hn1A hn10 hn18 hxl1 hyl1 hx18 hy18 hzx1 hzy1 hn2 hn2A hx8 hy8 hzx hzy hx hy hn
  refine it_range (σ := OS) (fun z => [(D, W.listOf z.vs.toArray z.nn)]) (fun z => [(Str.ofString "result", .int z.r z.tr), (Str.ofString "row", .ref D), (Str.ofString "b", .str y2 _), (Str.ofString "a", .str x2 _), (Str.ofString "max_cost", .int 4 t2)])
    (fun j z => IntsAre z.vs z.row ∧ outRun x2 y2 n2 j = (z.r, z.row) ∧ z.row.length = n2) (Only s) n2 rfl R11 (small_of (by walk_at "om") (by walk_at "om")) (by rw [size_of (by walk_at "om")]; simp) Only.step F11 (c₀ := ⟨0, _, vsR, cR, row0 n2⟩) N11 ⟨rfl, rfl, rfl, rfl, rfl, trivial⟩ ⟨hR, rfl, by unfold row0; simp⟩ ⟨_, _, rfl⟩ ?_ ?_
  · intro j tj zz2 uu s₁ own hj zz7 hoff zz9 F12 N12
    obtain ⟨h12, tk12, rfl⟩ := zz9
    try (show wpAny _ _ _ _ _ _; k_fold)
    obtain ⟨r, tr, vs, nn, row⟩ := zz2
    obtain ⟨hvs, hout, hrl⟩ := zz7
    dsimp only [kb] at F12 N12 hvs hout hrl
    clear F11 N11 R11
    k_steps
    refine wpAny_For ?_ (by intro _; rfl)
    k_steps
    rename_i R13 F13 N13 keep13
    have ej : (0 + (j : Int)) = j := Int.zero_add _
    rw [hox] at R13
    rw [ej] at F13
    clear F12 N12
    simp only [List.cons_append, List.nil_append] at N13
    have hbc : Txt.item y2 (j : Int) = Str.ofString "(" ∨ Txt.item y2 (j : Int) = Str.ofString ")" := item_br hc2 (by walk_at "om")
    refine it_range (σ := IS) (fun z => (D, W.listOf z.vs.toArray z.nn) :: own) (fun z => [(Str.ofString "minimum", .int z.mn z.tm), (Str.ofString "result", .int z.r z.tr), (Str.ofString "distance", .int z.dist z.td), (Str.ofString "bchar", .str (Txt.item y2 (j : Int)) _), (Str.ofString "bindex", .int (j : Int) tj), (Str.ofString "row", .ref D), (Str.ofString "b", .str y2 _), (Str.ofString "a", .str x2 _), (Str.ofString "max_cost", .int 4 t2)])
      (fun i z => IntsAre z.vs z.row ∧ z.row.length = n2 ∧ (z.dist, z.r, z.mn, z.row) = (List.range i).foldl (inStep x2 (Txt.item y2 (j : Int))) ((j : Int) * 2, (j : Int) * 2, 9223372036854775807, row)) (Only s) n2 rfl R13 (small_of (by walk_at "om") (by walk_at "om")) (by rw [size_of (by walk_at "om")]; simp) Only.step F13 (c₀ := ⟨(j : Int) * 2, _, (j : Int) * 2, _, 9223372036854775807, _, vs, nn, row⟩) N13 ⟨rfl, rfl, rfl, rfl, rfl, rfl, rfl, rfl, rfl, trivial⟩ ⟨hvs, hrl, rfl⟩ ⟨_, _, rfl⟩ ?_ ?_
    · intro i ti zz2 uu2 s₁ own2 hi zz7 hoff2 zz9 F14 N14
      obtain ⟨h14, tk14, rfl⟩ := zz9
      try (show wpAny _ _ _ _ _ _; k_fold)
      obtain ⟨dist, td, res, tr2, mn, tm, vs2, nn2, row2⟩ := zz2
      obtain ⟨hvs2, hrl2, hst⟩ := zz7
      dsimp only [kb] at F14 N14 hvs2 hrl2 hst
      clear F13 N13 R13
      have ei : (0 + (i : Int)) = i := Int.zero_add _
      rw [ei] at F14
      have hic : Txt.item x2 (i : Int) = Str.ofString "(" ∨ Txt.item x2 (i : Int) = Str.ofString ")" := item_br hb2 (by walk_at "om")
      have hall : ∀ q ∈ own ++ own2, q.1 ≠ D := fun q hq => (List.mem_append.mp hq).elim (fun hq => hoff q hq D (.head _)) fun hq => hoff2 q hq D (.head _)
      k_steps
      refine call_gives (subst_cost hbc hic) C0 (by assumption) (by assumption) (by walk_at "om") (by walk_at "om") trivial ?_
      intro h15 tk15 v15 F15 N15 zz5 st15
      obtain ⟨tk16, rfl⟩ := zz5
      skip
      dsimp only
      clear F14 N14
      k_steps
      have N16 := (by assumption : News s.heap L' _ (((D, W.listOf vs2.toArray nn2) :: own) ++ own2))
      refine ksa_set (news' := (D, _) :: (own ++ own2)) (by assumption) N16 (Upd.head hall) hvs2 (Int.natCast_nonneg i) (by walk_at "om") (by walk_at "om") ?_
      intro h17 F17 N17 hvs3 hl3 hs3
      dsimp only
      clear hs3
      k_steps
      · have hlow : inRes x2 (Txt.item y2 (j : Int)) (dist, res, mn, row2) i < mn := (by assumption : _ < mn)
        refine ⟨⟨row2.getD (i : Int).toNat 0, _, inRes x2 (Txt.item y2 (j : Int)) (dist, res, mn, row2) i, _, inRes x2 (Txt.item y2 (j : Int)) (dist, res, mn, row2) i, _, _, nn2, _⟩, _, ⟨hvs3, hl3.trans hrl2, ?_⟩, ⟨rfl, rfl, rfl, rfl, rfl, rfl, rfl, rfl, rfl, trivial⟩, by assumption, by assumption, ⟨_, _, rfl⟩, hoff2⟩
        dsimp only
        rw [List.range_succ, List.foldl_append, ← hst]
        show _ = inStep x2 (Txt.item y2 (j : Int)) (dist, res, mn, row2) i
        unfold inStep
        dsimp only
        rw [if_pos hlow]; rfl
      · have hlow : ¬ inRes x2 (Txt.item y2 (j : Int)) (dist, res, mn, row2) i < mn := (by assumption : ¬ _ < mn)
        refine ⟨⟨row2.getD (i : Int).toNat 0, _, inRes x2 (Txt.item y2 (j : Int)) (dist, res, mn, row2) i, _, mn, _, _, nn2, _⟩, _, ⟨hvs3, hl3.trans hrl2, ?_⟩, ⟨rfl, rfl, rfl, rfl, rfl, rfl, rfl, rfl, rfl, trivial⟩, by assumption, by assumption, ⟨_, _, rfl⟩, hoff2⟩
        dsimp only
        rw [List.range_succ, List.foldl_append, ← hst]
        show _ = inStep x2 (Txt.item y2 (j : Int)) (dist, res, mn, row2) i
        unfold inStep
        dsimp only
        rw [if_neg hlow]; rfl
    · intro zz0 m3 s₁ zz3 zz4 hk14 F14 N14
      obtain ⟨h14, tk14, rfl⟩ := zz4
      skip
      obtain ⟨dist, td, res, tr2, mn, tm, vs2, nn2, row2⟩ := zz0
      obtain ⟨hvs2, hrl2, hst⟩ := zz3
      dsimp only at hvs2 hrl2 hst hk14 N14
      rw [← kb_eq hk14] at F14
      dsimp only [kb] at F14
      clear F13 N13 R13
      have hlo : lowAt x2 y2 n2 j = mn := by
        unfold lowAt inRun
        rw [hout, ← hst]
      have hlo4 := hdp.1 j hj
      rw [hlo] at hlo4
      k_steps
      refine ⟨⟨res, tr2, vs2, nn2, row2⟩, _, ⟨hvs2, ?_, hrl2⟩, ⟨rfl, rfl, rfl, rfl, rfl, trivial⟩, F14, N14, ⟨_, _, rfl⟩, hoff⟩
      show ((inRun x2 (Txt.item y2 (j : Int)) n2 ((j : Int) * 2, (j : Int) * 2, 9223372036854775807, (outRun x2 y2 n2 j).2)).2.1, (inRun x2 (Txt.item y2 (j : Int)) n2 ((j : Int) * 2, (j : Int) * 2, 9223372036854775807, (outRun x2 y2 n2 j).2)).2.2.2) = _
      unfold inRun
      rw [hout, ← hst]
  · intro zz0 m3 s₁ zz3 zz4 hk14 F14 N14
    obtain ⟨h14, tk14, rfl⟩ := zz4
    skip
    obtain ⟨r, tr, vs, nn, row⟩ := zz0
    obtain ⟨hvs, hout, hrl⟩ := zz3
    dsimp only at hvs hout hrl hk14 N14
    rw [← kb_eq hk14] at F14
    dsimp only [kb] at F14
    have hr : r = 4 := by
      have := hdp.2
      rw [hout] at this
      exact this
    subst hr
    k_steps
    exact h _ _ _ F14.keep ⟨_, rfl⟩
end
end
end
section
open PySem.Builtin.Str
noncomputable def stepB (row : Str) (p k : Int) (bit : Bool) : Str :=
  if Txt.count row (Str.ofString "(") < p ∧ (k = 2 * Txt.count row (Str.ofString "(") ∨ bit = true) then row ++ Str.ofString "(" else row ++ Str.ofString ")"
theorem stepB_eq (x p k : Int) (row : Str) : rowStep x p k row = stepB row p k (decide (Int.fmod (Int.fdiv x (2 ^ k.toNat)) 2 = 1)) := by
  unfold rowStep stepB
  simp only [decide_eq_true_eq]
noncomputable def lv3 : Nat → List Str
  | 0 => [Str.ofString ""]
  | 1 => [Str.ofString "("]
  | 2 => [Str.ofString "((", Str.ofString "()"]
  | 3 => [Str.ofString "(((", Str.ofString "(()", Str.ofString "()("]
  | 4 => [Str.ofString "((()", Str.ofString "(()(", Str.ofString "(())", Str.ofString "()((", Str.ofString "()()"]
  | 5 => [Str.ofString "((())", Str.ofString "(()()", Str.ofString "(())(", Str.ofString "()(()", Str.ofString "()()("]
  | _ => C3s
noncomputable def lv4 : Nat → List Str
  | 0 => [Str.ofString ""]
  | 1 => [Str.ofString "("]
  | 2 => [Str.ofString "((", Str.ofString "()"]
  | 3 => [Str.ofString "(((", Str.ofString "(()", Str.ofString "()("]
  | 4 => [Str.ofString "((((", Str.ofString "((()", Str.ofString "(()(", Str.ofString "(())", Str.ofString "()((", Str.ofString "()()"]
  | 5 => [Str.ofString "(((()", Str.ofString "((()(", Str.ofString "((())", Str.ofString "(()((", Str.ofString "(()()", Str.ofString "(())(", Str.ofString "()(((", Str.ofString "()(()", Str.ofString "()()("]
  | 6 => [Str.ofString "(((())", Str.ofString "((()()", Str.ofString "((())(", Str.ofString "((()))", Str.ofString "(()(()", Str.ofString "(()()(", Str.ofString "(()())", Str.ofString "(())((", Str.ofString "(())()", Str.ofString "()((()", Str.ofString "()(()(", Str.ofString "()(())", Str.ofString "()()((", Str.ofString "()()()"]
  | 7 => [Str.ofString "(((()))", Str.ofString "((()())", Str.ofString "((())()", Str.ofString "((()))(", Str.ofString "(()(())", Str.ofString "(()()()", Str.ofString "(()())(", Str.ofString "(())(()", Str.ofString "(())()(", Str.ofString "()((())", Str.ofString "()(()()", Str.ofString "()(())(", Str.ofString "()()(()", Str.ofString "()()()("]
  | _ => C4s
set_option maxHeartbeats 0 in
theorem cl3 : ∀ k, k < 6 → ((lv3 k).all fun r => (lv3 (k + 1)).contains (stepB r 3 (k : Int) true) && (lv3 (k + 1)).contains (stepB r 3 (k : Int) false)) = true := by decide +kernel
set_option maxHeartbeats 0 in
theorem cl4 : ∀ k, k < 8 → ((lv4 k).all fun r => (lv4 (k + 1)).contains (stepB r 4 (k : Int) true) && (lv4 (k + 1)).contains (stepB r 4 (k : Int) false)) = true := by decide +kernel
theorem in_levels {lv : Nat → List Str} {p : Int} {n : Nat} (h0 : Str.ofString "" ∈ lv 0) (hc : ∀ k, k < n → ((lv k).all fun r => (lv (k + 1)).contains (stepB r p (k : Int) true) && (lv (k + 1)).contains (stepB r p (k : Int) false)) = true) (x : Int) : ∀ k, k ≤ n → rowN x p k ∈ lv k
  | 0, _ => h0
  | k + 1, h => by
    have ih := in_levels h0 hc x k (by (first | lia | walk_at "om"))
    have hk := List.all_eq_true.mp (hc k (by (first | lia | walk_at "om"))) _ ih
    rw [Bool.and_eq_true, List.contains_iff_mem, List.contains_iff_mem] at hk
    show rowStep x p k (rowN x p k) ∈ _
    rw [stepB_eq]
    cases decide (Int.fmod (Int.fdiv x (2 ^ (k : Int).toNat)) 2 = 1) with
    | true => exact hk.1
    | false => exact hk.2
theorem cyc_of_mem {R : List Str} {x : Str} (h : x ∈ R) : ∃ i, i < R.length ∧ x = cyc R i := by
  obtain ⟨i, hi, e⟩ := List.getElem_of_mem h
  refine ⟨i, hi, ?_⟩
  unfold cyc
  rw [Nat.mod_eq_of_lt hi, List.getD_eq_getElem?_getD, List.getElem?_eq_getElem hi]
  exact e.symm
theorem row_in3 (x : Int) : ∃ i, i < 5 ∧ rowN x 3 6 = cyc C3s i := cyc_of_mem (in_levels (lv := lv3) (p := 3) (n := 6) (by decide) cl3 x 6 (Nat.le_refl _))
theorem row_in4 (x : Int) : ∃ i, i < 14 ∧ rowN x 4 8 = cyc C4s i := cyc_of_mem (in_levels (lv := lv4) (p := 4) (n := 8) (by decide) cl4 x 8 (Nat.le_refl _))
theorem cyc_mod (R : List Str) (i : Nat) : cyc R (i % R.length) = cyc R i := by
  unfold cyc; rw [Nat.mod_mod]
theorem cyc_mod1 (R : List Str) (i : Nat) : cyc R (i % R.length + 1) = cyc R (i + 1) := by
  unfold cyc; rw [Nat.mod_add_mod]
structure OkRow (n : Nat) (x y : Str) : Prop where
  len : x.length = n
  plc : ∀ k ∈ placesOf x, 1 ≤ k ∧ k < (n : Int)
  step : stepL x = y.cps.toList
  br : Br x.cps.toList
  self : rowS x (upTo n) = x
theorem okRow_of {n : Nat} {x y : Str} (h : okRow n x y = true) : OkRow n x y := by
  unfold okRow at h
  simp only [Bool.and_eq_true, beq_iff_eq, List.all_eq_true, decide_eq_true_eq, Bool.or_eq_true] at h
  exact ⟨h.1.1.1.1, h.1.1.1.2, h.1.1.2, h.1.2, h.2⟩
theorem ok_at {R : List Str} {n : Nat} (h0 : 0 < R.length) (hok : ∀ i, i < R.length → okRow n (cyc R i) (cyc R (i + 1)) = true) (i : Nat) : OkRow n (cyc R i) (cyc R (i + 1)) := by
  have h := okRow_of (hok (i % R.length) (Nat.mod_lt _ h0))
  rw [cyc_mod, cyc_mod1] at h
  exact h
theorem upTo_len (n : Nat) : (upTo n).length = n := by unfold upTo; simp
theorem upTo_mem {n : Nat} {x : Int} (h : x ∈ upTo n) : 0 ≤ x ∧ x < n := by
  obtain ⟨i, hi, rfl⟩ := List.mem_map.mp h
  have := List.mem_range.mp hi
  exact ⟨Int.natCast_nonneg i, by (first | lia | walk_at "om")⟩
theorem upTo_nodup (n : Nat) : (upTo n).Nodup := by
  unfold upTo
  exact List.Pairwise.map (fun i : Nat => (i : Int)) (fun a b hab e => hab (by (first | lia | walk_at "om"))) (List.nodup_range (n := n))
theorem cd_br {sg : Str} {i : Int} (h : Br sg.cps.toList) (h0 : 0 ≤ i) (h1 : i < sg.length) : cd sg i = 40 ∨ cd sg i = 41 := by
  have e : i = ((i.toNat : Nat) : Int) := by (first | lia | walk_at "om")
  have h2 := item_br h (i := i.toNat) (by (first | lia | walk_at "om"))
  rw [← e, item_cd] at h2
  rcases h2 with h2 | h2
  · exact .inl ((beq40 _).mp h2)
  · have e41 : Str.ofString ")" = ⟨#[41]⟩ := by decide
    rw [e41] at h2
    injection h2 with h2
    exact .inr (by simpa using h2)
theorem run_inv {R : List Str} {n a : Nat} (hn : 0 < n) (h0 : 0 < R.length) (hok : ∀ i, i < R.length → okRow n (cyc R i) (cyc R (i + 1)) = true) : ∀ j, (ordAt (cyc R a) j).Perm (upTo n) ∧ rowAt (cyc R a) j = cyc R (a + j)
  | 0 => by
    have h := ok_at h0 hok a
    show (upTo (cyc R a).length).Perm (upTo n) ∧ rowS (cyc R a) (upTo (cyc R a).length) = cyc R (a + 0)
    rw [h.len]
    exact ⟨List.Perm.refl _, h.self⟩
  | j + 1 => by
    obtain ⟨ih1, ih2⟩ := run_inv hn h0 hok j
    have h := ok_at h0 hok (a + j)
    have hl : (ordAt (cyc R a) j).length = n := by rw [ih1.length_eq, upTo_len]
    have hp : ∀ k ∈ placesOf (rowS (cyc R a) (ordAt (cyc R a) j)), 1 ≤ k ∧ k < ((ordAt (cyc R a) j).length : Int) := by
      intro k hk
      rw [hl]
      refine h.plc k ?_
      rw [← ih2]; exact hk
    have hm : (stepOf (cyc R a) (ordAt (cyc R a) j)).map (cd (cyc R a)) = (cyc R (a + j + 1)).cps.toList := by
      rw [step_map hp, ← h.step, ← ih2]; rfl
    have h2 := ok_at h0 hok (a + j + 1)
    have hne : stepOf (cyc R a) (ordAt (cyc R a) j) ≠ [] := by
      intro e
      rw [e] at hm
      have := h2.len
      rw [str_len_cps, ← hm] at this
      simp at this; (first | lia | walk_at "om")
    refine ⟨?_, ?_⟩
    · rcases step_perm hp with e | e
      · exact absurd e hne
      · exact e.trans ih1
    · show rowS (cyc R a) (stepOf (cyc R a) (ordAt (cyc R a) j)) = _
      rw [str_ext ((rowS_cps (cyc R a) (stepOf (cyc R a) (ordAt (cyc R a) j))).trans hm)]
      exact (str_ext rfl).symm
theorem step_ne {R : List Str} {n a : Nat} (hn : 0 < n) (h0 : 0 < R.length) (hok : ∀ i, i < R.length → okRow n (cyc R i) (cyc R (i + 1)) = true) (j : Nat) : stepOf (cyc R a) (ordAt (cyc R a) j) ≠ [] := by
  intro e
  have h := (run_inv (a := a) hn h0 hok (j + 1)).1.length_eq
  rw [upTo_len] at h
  have e2 : ordAt (cyc R a) (j + 1) = [] := e
  rw [e2] at h
  simp at h; (first | lia | walk_at "om")
theorem octs_bound {sg : Str} {xs : List Int} {n : Nat} (hxl : xs.length = n) (hxb : ∀ x ∈ xs, 1 ≤ x ∧ x ≤ 63) : ∀ x ∈ octsOf sg xs n, 0 ≤ x ∧ x < 128 := by
  intro x hx
  obtain ⟨i, hi, rfl⟩ := List.mem_map.mp hx
  have hi := List.mem_range.mp hi
  have hl : i < xs.length := by (first | lia | walk_at "om")
  have := hxb _ (List.getElem_mem hl)
  unfold octAt
  rw [List.getD_eq_getElem?_getD, List.getElem?_eq_getElem hl]
  show 0 ≤ xs[i] + _ ∧ xs[i] + _ < 128
  split <;> (first | lia | walk_at "om")
theorem pieces_bound {sg rd : Str} {q : Int} {n : Nat} (hrd : rd ∈ riders) : ∀ y ∈ piecesOf sg rd q n, y.length ≤ 4 := by
  intro y hy
  obtain ⟨i, _, rfl⟩ := List.mem_map.mp hy
  have h3 : rd.length ≤ 3 := by
    have : ∀ x ∈ riders, x.length ≤ 3 := by decide
    exact this rd hrd
  have h1 : (Txt.item sg (i : Int)).length = 1 := PyProof.Rows.len_item sg _
  unfold pieceAt
  rw [Str.length_append, h1]
  split
  · (first | lia | walk_at "om")
  · show (Str.ofString "").length + 1 ≤ 4
    decide
theorem perm_facts {sg : Str} {n : Nat} {T : List Int} (hT : T.Perm (upTo n)) (hl : sg.length = n) (hb : Br sg.cps.toList) : (∀ x ∈ T, 0 ≤ x ∧ x < n) ∧ T.Nodup ∧ Br (T.map (cd sg)) := by
  have h1 : ∀ x ∈ T, 0 ≤ x ∧ x < n := fun x hx => upTo_mem (hT.mem_iff.mp hx)
  refine ⟨h1, hT.nodup_iff.mpr (upTo_nodup n), fun c hc => ?_⟩
  obtain ⟨k, hk, rfl⟩ := List.mem_map.mp hc
  have := h1 k hk
  exact cd_br hb this.1 (by (first | lia | walk_at "om"))
theorem good_of {R : List Str} {n : Nat} {p : Int} (hp : p = 3 ∨ p = 4) (hR : R.length = lim p) (hn : n = (2 * p).toNat) (hok : ∀ i, i < R.length → okRow n (cyc R i) (cyc R (i + 1)) = true)
    (hnd : ∀ i, i < R.length → ∀ j, j < R.length → i ≠ j → cyc R i ≠ cyc R j) {a : Nat} {rd : Str} {q : Int} {xs : List Int} (hrd : rd ∈ riders) (hxl : xs.length = n) (hxb : ∀ x ∈ xs, 1 ≤ x ∧ x ≤ 63) :
    Good (cyc R a) p (piecesOf (cyc R a) rd q n) (octsOf (cyc R a) xs n) := by
  have h0 : 0 < R.length := by rw [hR]; rcases hp with rfl | rfl <;> decide
  have hn0 : 0 < n := by (first | lia | walk_at "om")
  have ha := ok_at h0 hok a
  have hinv := run_inv (a := a) hn0 h0 hok
  have hplc : ∀ j, ∀ k ∈ placesOf (rowAt (cyc R a) j), 1 ≤ k ∧ k < (n : Int) := fun j k hk => (ok_at h0 hok (a + j)).plc k (by rw [← (hinv j).2]; exact hk)
  have hlen : ∀ j, (ordAt (cyc R a) j).length = n := fun j => by rw [(hinv j).1.length_eq, upTo_len]
  have htr : ∀ j, ∀ k ∈ placesOf (rowAt (cyc R a) j), (triedOf (ordAt (cyc R a) j) k).Perm (upTo n) := fun j k hk => by
    have h := hplc j k hk
    exact (tried_perm h.1 (by rw [hlen j]; exact h.2)).trans (hinv j).1
  refine ⟨fun j _ => by rw [hlen j, hn], fun j _ x hx => ?_, fun i j hij hj => ?_, fun j _ k hk => ?_, fun j _ => step_ne hn0 h0 hok j, fun j _ k hk => ?_, fun k hk => ?_, octs_bound hxl hxb, pieces_bound hrd⟩
  · have := upTo_mem ((hinv j).1.mem_iff.mp hx)
    (first | lia | walk_at "om")
  · rw [(hinv i).2, (hinv j).2, ← cyc_mod R (a + i), ← cyc_mod R (a + j)]
    refine hnd _ (Nat.mod_lt _ h0) _ (Nat.mod_lt _ h0) ?_
    rw [← hR] at hj
    have hL : R.length = 5 ∨ R.length = 14 := by rw [hR]; rcases hp with rfl | rfl <;> decide
    rcases hL with hL | hL <;> rw [hL] at hj ⊢ <;> (first | lia | walk_at "om")
  · have := hplc j k hk
    (first | lia | walk_at "om")
  · obtain ⟨f1, f2, f3⟩ := perm_facts (htr j k hk) ha.len ha.br
    have hT0 : triedOf (ordAt (cyc R a) j) k ≠ [] := fun e => by
      have := (htr j k hk).length_eq
      rw [e, upTo_len] at this
      simp at this; (first | lia | walk_at "om")
    rw [bal_eq]
    exact pieces_check hrd f1 f2 hT0 f3
  · obtain ⟨f1, f2, f3⟩ := perm_facts (htr 0 k hk) ha.len ha.br
    have ho := octs_rel hxl hxb f1 f3
    have hlT : ((triedOf (ordAt (cyc R a) 0) k).map (cd (cyc R a))).length = n := by rw [List.length_map, (htr 0 k hk).length_eq, upTo_len]
    refine ⟨(due_eq ho.bound).symm, ?_⟩
    rw [bal_eq]
    exact closes_bal ho (.inl (by rw [hlT]; (first | lia | walk_at "om")))
theorem take_upTo {α : Type} (d : α) {l : List α} {k : Nat} (h : k ≤ l.length) : l.take k = (upTo k).map fun i => l.getD i.toNat d := by
  apply List.ext_getElem
  · rw [List.length_take, List.length_map, upTo_len]; (first | lia | walk_at "om")
  · intro i h1 h2
    have hi : i < l.length := by rw [List.length_take] at h1; (first | lia | walk_at "om")
    have hk : i < k := by rw [List.length_take] at h1; (first | lia | walk_at "om")
    rw [List.getElem_take, List.getElem_map]
    unfold upTo
    rw [List.getElem_map, List.getElem_range]
    show l[i] = l.getD ((i : Int)).toNat d
    rw [Int.toNat_natCast, List.getD_eq_getElem?_getD, List.getElem?_eq_getElem hi]; rfl
theorem last_facts {sg rd : Str} {q p : Int} {xs : List Int} {n : Nat} (hp : p = 3 ∨ p = 4) (hn : n = (2 * p).toNat) (hl : sg.length = n) (hb : Br sg.cps.toList) (hrd : rd ∈ riders) (hxl : xs.length = n) (hxb : ∀ x ∈ xs, 1 ≤ x ∧ x ≤ 63) :
    readL 0 ((octsOf sg xs n).take ((octsOf sg xs n).length - 1)) = (dueAt ((octsOf sg xs n).take ((octsOf sg xs n).length - 1)) ((octsOf sg xs n).take ((octsOf sg xs n).length - 1)).length).1 ∧
    closesOf (readL 0 ((octsOf sg xs n).take ((octsOf sg xs n).length - 1))) p = checkOf (Txt.join (Str.ofString "") ((piecesOf sg rd q n).take ((piecesOf sg rd q n).length - 1))) := by
  have hpA := p34 hp
  have hnA := len2p hp hn
  have h1 : (octsOf sg xs n).length = n := by unfold octsOf; simp
  have h2 : (piecesOf sg rd q n).length = n := by unfold piecesOf; simp
  have f1 : ∀ x ∈ upTo (n - 1), 0 ≤ x ∧ x < n := fun x hx => by have := upTo_mem hx; (first | lia | walk_at "om")
  have f3 : Br ((upTo (n - 1)).map (cd sg)) := fun c hc => by
    obtain ⟨k, hk, rfl⟩ := List.mem_map.mp hc
    have := f1 k hk
    exact cd_br hb this.1 (by (first | lia | walk_at "om"))
  have hT0 : upTo (n - 1) ≠ [] := fun e => by
    have := upTo_len (n - 1)
    rw [e] at this
    simp at this; (first | lia | walk_at "om")
  have ho := octs_rel hxl hxb f1 f3
  rw [h1, h2, take_upTo 0 (by (first | lia | walk_at "om")), take_upTo (Str.ofString "") (by (first | lia | walk_at "om"))]
  refine ⟨(due_eq ho.bound).symm, ?_⟩
  rw [closes_bal ho (.inr (by rw [List.length_map, upTo_len]; (first | lia | walk_at "om")))]
  exact (pieces_check hrd f1 (upTo_nodup _) hT0 f3).symm
noncomputable def LevOk (x y : Str) (n : Nat) : Prop := ∀ pr ps x1 y1 x2 y2 n1 n2, IsPre x y n pr → x1 = Txt.slice x (some pr) none → y1 = Txt.slice y (some pr) none → n1 = n - pr.toNat → IsPost x1 y1 n1 ps → x2 = optS x1 ps → y2 = optS y1 ps → n2 = ((n1 : Int) + ps).toNat → DpOk x2 y2 n2
noncomputable def dpB (x y : Str) (n : Nat) : Bool := (List.range n).all (fun j => decide (lowAt x y n j ≤ 4)) && decide ((outRun x y n n).1 = 4)
theorem dp_of {x y : Str} {n : Nat} (h : dpB x y n = true) : DpOk x y n := by
  unfold dpB at h
  rw [Bool.and_eq_true, List.all_eq_true, decide_eq_true_eq] at h
  exact ⟨fun j hj => of_decide_eq_true (h.1 j (List.mem_range.mpr hj)), h.2⟩
noncomputable def preB (x y : Str) (n : Nat) (pr : Nat) : Bool := decide (pr < n) && (List.range pr).all (fun k => Txt.item x (k : Int) == Txt.item y (k : Int)) && !(Txt.item x (pr : Int) == Txt.item y (pr : Int))
noncomputable def postB (x y : Str) (n : Nat) (q : Nat) : Bool := decide (q < n) && (List.range q).all (fun k => Txt.item x (-(k : Int) - 1) == Txt.item y (-(k : Int) - 1)) && !(Txt.item x (-(q : Int) - 1) == Txt.item y (-(q : Int) - 1))
theorem pre_is {x y : Str} {n p0 : Nat} {pr : Int} (h : IsPre x y n pr) (hb : preB x y n p0 = true) : pr = p0 := by
  unfold preB at hb
  rw [Bool.and_eq_true, Bool.and_eq_true, List.all_eq_true, Bool.not_eq_true', decide_eq_true_eq] at hb
  obtain ⟨⟨b1, b2⟩, b3⟩ := hb
  obtain ⟨a1, a2, a3, a4⟩ := h
  rcases Int.lt_trichotomy pr (p0 : Int) with hlt | he | hgt
  · have e : ((pr.toNat : Nat) : Int) = pr := by (first | lia | walk_at "om")
    have h1 := eq_of_beq (b2 pr.toNat (List.mem_range.mpr (by (first | lia | walk_at "om"))))
    rw [e] at h1
    exact absurd h1 a4
  · exact he
  · exact absurd (a3 p0 (Int.natCast_nonneg _) hgt) (ne_of_beq_false b3)
theorem post_is {x y : Str} {n q0 : Nat} {ps : Int} (h : IsPost x y n ps) (hb : postB x y n q0 = true) : ps = -(q0 : Int) := by
  unfold postB at hb
  rw [Bool.and_eq_true, Bool.and_eq_true, List.all_eq_true, Bool.not_eq_true', decide_eq_true_eq] at hb
  obtain ⟨⟨b1, b2⟩, b3⟩ := hb
  obtain ⟨a1, a2, a3, a4⟩ := h
  rcases Int.lt_trichotomy ps (-(q0 : Int)) with hlt | he | hgt
  · exact absurd (a3 (-(q0 : Int) - 1) (by (first | lia | walk_at "om")) (by (first | lia | walk_at "om"))) (ne_of_beq_false b3)
  · exact he
  · have e : -(((-ps).toNat : Nat) : Int) - 1 = ps - 1 := by (first | lia | walk_at "om")
    have h1 := eq_of_beq (b2 (-ps).toNat (List.mem_range.mpr (by (first | lia | walk_at "om"))))
    rw [e] at h1
    exact absurd h1 a4
noncomputable def levB (x y : Str) (n : Nat) (t : Nat × Nat) : Bool :=
  preB x y n t.1 && postB (Txt.slice x (some (t.1 : Int)) none) (Txt.slice y (some (t.1 : Int)) none) (n - t.1) t.2 &&
  dpB (optS (Txt.slice x (some (t.1 : Int)) none) (-(t.2 : Int))) (optS (Txt.slice y (some (t.1 : Int)) none) (-(t.2 : Int))) (n - t.1 - t.2)
theorem lev_of {x y : Str} {n : Nat} {t : Nat × Nat} (h : levB x y n t = true) : LevOk x y n := by
  unfold levB at h
  rw [Bool.and_eq_true, Bool.and_eq_true] at h
  obtain ⟨⟨b1, b2⟩, b3⟩ := h
  intro pr ps x1 y1 x2 y2 n1 n2 hpre hx1 hy1 hn1 hpost hx2 hy2 hn2
  have e1 := pre_is hpre b1
  subst e1
  rw [Int.toNat_natCast] at hn1
  subst hx1 hy1 hn1
  have e2 := post_is hpost b2
  subst e2
  subst hx2 hy2
  have e3 : n2 = n - t.1 - t.2 := by rw [hn2, ← Int.sub_eq_add_neg]; exact Int.toNat_sub _ _
  rw [e3]
  exact dp_of b3
noncomputable def tab3 : List (Nat × Nat) := [(1, 2), (1, 3), (1, 1), (1, 3), (2, 1)]
noncomputable def tab4 : List (Nat × Nat) := [(1, 3), (1, 5), (2, 4), (1, 2), (1, 5), (1, 3), (1, 5), (2, 3), (1, 1), (1, 5), (1, 3), (1, 5), (2, 3), (3, 1)]
set_option maxHeartbeats 0 in
theorem levs3 : ∀ i, i < 5 → levB (cyc C3s i) (cyc C3s (i + 1)) 6 (tab3.getD i (0, 0)) = true := by decide +kernel
set_option maxHeartbeats 0 in
theorem levs4 : ∀ i, i < 14 → levB (cyc C4s i) (cyc C4s (i + 1)) 8 (tab4.getD i (0, 0)) = true := by decide +kernel
end
section
theorem row_data {p x : Int} (hp : p = 3 ∨ p = 4) : ∃ (R : List Str) (n a : Nat), R.length = lim p ∧ n = (2 * p).toNat ∧ (∀ i, i < R.length → okRow n (cyc R i) (cyc R (i + 1)) = true) ∧ (∀ i, i < R.length → ∀ j, j < R.length → i ≠ j → cyc R i ≠ cyc R j) ∧ rowN x p (2 * p).toNat = cyc R a ∧ LevOk (cyc R a) (cyc R (a + 1)) n ∧ cyc R a ≠ cyc R (a + 1) := by
  rcases hp with rfl | rfl
  · obtain ⟨a, ha, e⟩ := row_in3 x
    refine ⟨C3s, 6, a, rfl, rfl, ok3, nd3, e, lev_of (levs3 a ha), ?_⟩
    rw [← cyc_mod C3s (a + 1)]
    have hL : C3s.length = 5 := rfl
    rw [hL]
    refine nd3 a ha _ (Nat.mod_lt _ (by decide)) ?_
    walk_at "om"
  · obtain ⟨a, ha, e⟩ := row_in4 x
    refine ⟨C4s, 8, a, rfl, rfl, ok4, nd4, e, lev_of (levs4 a ha), ?_⟩
    rw [← cyc_mod C4s (a + 1)]
    have hL : C4s.length = 14 := rfl
    rw [hL]
    refine nd4 a ha _ (Nat.mod_lt _ (by decide)) ?_
    walk_at "om"
set_option maxHeartbeats 8000000 in
theorem law_all {w : World} {l : Addr} {vs : List Value} {ns : List Int} (hi : IntsAre vs ns) (hl : ns.length ≤ 63)
    {mg mb : Str → Option Value} {mean : ExcName → Option Value} {d u : Nat} {gs : Option (List Code)} {s : Shared} {R : Result → Shared → Prop}
    (C : Ctx w mg mb mean s.heap [] d u gs s.heap) (hd : d ≤ 320) (hu : u ≤ 1200) (hL : s.heap.IsList l vs.toArray) (hbare : AllBare s.gens)
    (done : ∀ h tk gs', AllBare gs' → s.heap.StaysIn h → R (.ok (.ret (.bool true))) { s with heap := h, toks := tk, gens := gs' }) :
    codeAny (model PySem.Challenge.rw_sn0039_01.row.prog w) ⟨none, d, some [], gs, u⟩ (.call (.ref 111) ⟨[.ref l], []⟩) R s := by
  refine law_s1 hi hl C hd hu hL ?_
  intro L h1 tk1 m p x tp r t₁ u₁ v₁ tg o1 o2 o3 o4 o5 o6 o7 hp hx0 hx1 F1 hm N1 lr d1 d2 d3 d4 d5 d6 d7
  obtain ⟨Rw, n, a0, hR, hn, hok, hnd, hsg, hlv, hne⟩ := row_data (x := x) hp
  rw [hsg] at d3
  obtain ⟨sg, hsgd⟩ : ∃ sg, sg = cyc Rw a0 := ⟨_, rfl⟩
  have h0 : 0 < Rw.length := by rw [hR]; rcases hp with rfl | rfl <;> decide
  have hn0 : 0 < n := by walk_at "om"
  have ha := ok_at h0 hok a0
  have hb := ok_at h0 hok (a0 + 1)
  have hinv := run_inv (a := a0) hn0 h0 hok
  have hsl : (cyc Rw a0).length = (2 * p).toNat := by rw [ha.len, hn]
  have hbr : ∀ i : Nat, i < (2 * p).toNat → Txt.item (cyc Rw a0) (i : Int) = Str.ofString "(" ∨ Txt.item (cyc Rw a0) (i : Int) = Str.ofString ")" := fun i hi => item_br ha.br (by rw [hsl]; exact hi)
  refine law_s3 hi hl C hd hu hL hp F1 hm N1 lr d1 d2 d3 d4 ?_
  intro h3 tk3 a xs ys n3 o4' hys hxl hxb F3 N3 hA hra d4'
  show LawAt _ _ _ _ _ _ _ { s with heap := h3, toks := tk3 }
  refine law_s4 (tp := tp) C hd hu hp F3 hm N3 lr hA hra d3 d4' d5 hys hxl hxb hsl hbr ?_
  intro h4 tk4 b zs n4 o5' hzs F4 N4 hB hrb hab d5'
  show LawAt _ _ _ _ _ _ _ { s with heap := h4, toks := tk4 }
  have hol : (octsOf (cyc Rw a0) xs (2 * p).toNat).length = (2 * p).toNat := by unfold octsOf; simp
  refine law_s5 C hd hu hp F4 hm N4 lr hA hB d5' d6 hzs hol ?_
  intro h5 tk5 rd trd o6' hrd F5 N5 d6'
  show LawAt _ _ _ _ _ _ _ { s with heap := h5, toks := tk5 }
  refine law_s6 C hd hu hp F5 hm N5 lr hA hB d3 d5' d6' d7 hzs hol hsl hrd ?_
  intro h6 tk6 c ws n6 o7' hws F6 N6 hC hbc d7'
  show LawAt _ _ _ _ _ _ _ { s with heap := h6, toks := tk6 }
  refine law_s7 C hd hu hp F6 hm N6 ?_
  intro h7 tk7 m7 e f ks n7 hks F7 hmo hmm N7 hT
  show LawAt _ _ _ _ _ _ _ { s with heap := h7, toks := tk7 }
  subst hn
  have G := good_of hp hR rfl hok hnd (a := a0) (q := Int.fmod ((octsOf (cyc Rw a0) xs (2 * p).toNat).getD 1 0) ((cyc Rw a0).length : Int)) hrd hxl hxb
  have hpl : (piecesOf (cyc Rw a0) rd (Int.fmod ((octsOf (cyc Rw a0) xs (2 * p).toNat).getD 1 0) ((cyc Rw a0).length : Int)) (2 * p).toNat).length = (2 * p).toNat := by unfold piecesOf; simp
  refine law_s9 (s := { s with heap := h7, toks := tk7 }) C hd hu hbare hp F7 hmo hmm N7 hT d2 d3 d5' d7' hks hzs hws hol hpl hsl G ?_
  intro h9 tk9 gs9 m9 e9 ks9 n9 ms nm hb9 hks9 hms F9 hmo9 hmm9 N9
  show LawAt _ _ _ _ _ _ _ { s with heap := h9, toks := tk9, gens := gs9 }
  obtain ⟨q1, q2⟩ := last_facts (q := Int.fmod ((octsOf (cyc Rw a0) xs (2 * p).toNat).getD 1 0) ((cyc Rw a0).length : Int)) hp rfl hsl ha.br hrd hxl hxb
  refine law_s10 (s := { s with heap := h9, toks := tk9, gens := gs9 }) C hd hu hb9 hp F9 hmo9 hmm9 N9 d2 d3 d5' d7' hks9 hzs hws hms hol hpl (G.len _ (Nat.le_refl _)) (G.rng _ (Nat.le_refl _)) hsl G.ocb G.pcb q1 q2 ?_ ?_ ?_
  · rintro x y t t' t2 rfl rfl
    rw [(hinv 0).2, (hinv 1).2]
    exact lev_ ha.len hb.len (by rcases hp with rfl | rfl <;> decide) hne ha.br hb.br hlv
  · show rowAt (cyc Rw a0) (lim p) = _
    rw [(hinv (lim p)).2, (hinv 0).2, ← hR]
    unfold cyc
    rw [Nat.add_mod_right, Nat.add_zero]
  · intro h10 tk10 gs10 m10 hb10 F10
    exact done h10 tk10 gs10 hb10 F10.keep
end
theorem resetZ2 : ∃ x : Nat, x = 0 := by
  first | (walk1; fail) | skip
  w_top off
  exact ⟨0, rfl⟩
section
local macro_rules
  | `(tactic| refine $h:ident (q := $q) $rest*) => do
    unless h.getId == `PySem.W.holds_open do Lean.Macro.throwUnsupported
    let v ← `(VQ)
    if q.raw.isIdent then Lean.Macro.throwUnsupported
    let qr := q.raw
    let go (s : Lean.Syntax) : Lean.Syntax := Id.run (s.replaceM fun x => pure (if x == qr then some v.raw else none))
    let rest' := rest.map fun s => ⟨go s.raw⟩
    `(tactic| refine $h (q := $v) $rest'*)
set_option maxHeartbeats 0 in
theorem law_ : PySem.Challenge.rw_sn0039_01.Holds := by
  w_on
  o_law
  o_head (kHook KF [2, 3, 6, 20, 21, 27, 28, 34, 35, 41, 42, 43, 51, 52, 58, 59, 65, 66, 72, 73, 79, 80, 86, 87, 93, 94, 98, 99, 105, 106, 110, 111] (fun _ => by kernel_rfl))
  case hw => w_witness2
  k_fill
  intro w s₀ s₁ mg mb G Y fa o pm cd doc dV kV ho hd' hcd hD hmg hg args vals as hpre hlay hrd hwl hlo
  have KX : (KF w.params).In s₁.heap := kIn_of Y
  refine Ground.open G ?_
  intro T B D TE TW
  clear D TE TW B
  have TV : Top VQ (looseW VQ [Str.ofString "EXACT_TOKEN_TYPES"]) (ExcName.means s₀.heap) mg mb s₁.heap := T
  have e111 : mg (Str.ofString "law") = some (.ref 111) := mg_of KX T.g (by k_is)
  have efa : fa = 111 := by
    have h1 := hmg.symm.trans e111
    injection h1 with h1
    injection h1 with h1
  subst efa
  clear hmg hD hcd hd' ho
  wrow_args hpre hlay hrd hwl hlo
  show wpAny _ _ (call (.ref 111) [_]) _ _ _
  refine wpAny_call ?_
  refine law_all (d := 301) (u := 4) (gs := some []) (by assumption) (by walk_at "om") ⟨KX, TV, below_caller _⟩ (by decide) (by decide) (by assumption) (fun z hz => by rw [hg] at hz; simp at hz) ?_
  intro h tk gs' hb st
  refine ⟨.inl ⟨.bool true, .bool true, [], rfl, fun _ => rfl, ?_, ?_, fun _ => ⟨List.nodup_nil, fun _ h => nomatch h⟩⟩, OldK.of_keep st, rfl, hb⟩
  · exact .bool true
  · wrow_post
end
end Mine
set_option maxHeartbeats 4000000 in
theorem PySem.Challenge.cw_sn0039_01_holds : PySem.Challenge.rw_sn0039_01.Holds :=
  Mine.law_


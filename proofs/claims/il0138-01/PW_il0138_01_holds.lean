import PyProof.Rows.All
import PyProof.Rows.SetFrom
import KE.KLam
import KE.KDictList
import KE.KDictOf
import KE.KOwnIter
import KE.KSortTup
import Wide.FinOn
import OpenK.AllK
import Wide.All
import Lean
import PySem.Challenge.RW_il0138_01
set_option Elab.async false
set_option maxRecDepth 100000
section
open PySem PySem.W PyProof.Rows
namespace Mine
noncomputable abbrev PG : Program := PySem.Challenge.rw_il0138_01.row.prog
/-- the text's statements whose answers the top's view keeps -/
noncomputable def vkeep : List Nat := [0, 2, 3, 5, 6, 7, 8, 10, 12, 13, 14, 15, 17, 18, 19, 21, 22, 23, 24, 25, 26, 27, 28]
noncomputable def vq : Program := { PySem.Challenge.pw_il0138_01 with main := { PySem.Challenge.pw_il0138_01.main with body := vkeep.filterMap fun i => PySem.Challenge.pw_il0138_01.main.body[i]? } }
theorem left_of_boot {p q : Program} {loose : List Str} {Xt : Shared → Bool} {α : Type} {Yf : Shared → α} {Ya : World → α} {N : Nat} {g0 : Bool}
    (e : opening p = plainProg p.main.scope.names) (hN : Nat.ble 600 N = true) (f : ∀ s, fenceModules? p s = some s)
    (h : ∀ (w : World) (os : OsState), (topFrom treeTable p w N ⟨boot_heap w.params, Array.mk [], boot_drawn, boot_toks, os⟩).map (fun s => (openSeen q loose (importedModules p.main.body) Xt g0 s, Yf s)) = some (openGood q loose, Ya w)) :
    LeftO p q loose Xt Yf Ya N g0 := fun w => by
  obtain ⟨⟨hp, gs, d, k, os⟩, e1, e2⟩ := Option.map_eq_some_iff.mp (boot_open e hN f w)
  obtain ⟨rfl, rfl, rfl, rfl⟩ : hp = boot_heap w.params ∧ gs = Array.mk [] ∧ d = boot_drawn ∧ k = boot_toks := by simpa using e2
  unfold openEnds
  rw [e1]
  exact h w os
/-- the law's looks, by the library's quick form of them -/
theorem ws : OpenLaw.wellSaid PySem.Challenge.rw_il0138_01 = true := (congrFun PySem.W.Fast.te9446332074065402090 _).trans (by kernel_rfl)
/-- the run of the top's text, by the library's quick forms -/
theorem topFrom_q (p : Program) (w : World) (N : Nat) (s₀ : Shared) : topFrom treeTable p w N s₀ = (match s₀.heap.isNs mainGlobals && s₀.gens.size == 0 with
  | true => (PySem.W.Fast.tw14082659384304107361 PySem.W.Fast.tw14364793385576792824 p w s₀.heap.objs.size (s₀.heap.nsMap mainGlobals "__annotations__") N s₀ (topStub p)).bind fun s₁ => match staticsOk (importedModules p.main.body) s₀.heap s₁.heap && namesBound p s₁.heap && gensDone s₁ && laidKept s₀.heap s₁.heap with
      | true => some s₁
      | false => none
  | false => none) := by
  unfold topFrom
  rw [← PySem.W.Fast.te14082659384304107361, ← PySem.W.Fast.te14364793385576792824]
  rfl
theorem head_open {d : DefRec} {kwd : List (Str × Expr)} (H : Hook) (hl : LeftO PySem.Challenge.rw_il0138_01.row.prog vq [PySem.Str.ofString "islice", PySem.Str.ofString "filterfalse", PySem.Str.ofString "_dedupe"] (fun s => xlAt vq [] s && recOk (RowW.records (PySem.Challenge.rw_il0138_01.row.toRowW)) s) H.obs H.val 2784)
    (hdef : defOf vq PySem.Challenge.rw_il0138_01.row.name = some (d, kwd)) (hp : PySem.Challenge.rw_il0138_01.row.prog.theDef PySem.Challenge.rw_il0138_01.row.name = some (d.params, d.body, d.scope)) (hk : kwWritten? d.params.kwonlyargs d.params.kw_defaults = some kwd) (hw : PySem.Challenge.rw_il0138_01.row.toRowW.promised)
    (hc : WalkO vq [PySem.Str.ofString "islice", PySem.Str.ofString "filterfalse", PySem.Str.ofString "_dedupe"] (XL vq []) H.says PySem.Challenge.rw_il0138_01.row.toRowW d kwd fun f vs => PySem.call f vs) : PySem.Challenge.rw_il0138_01.row.Holds :=
  holds_open (q := vq) (loose := [PySem.Str.ofString "islice", PySem.Str.ofString "filterfalse", PySem.Str.ofString "_dedupe"]) (Xt := (fun s => xlAt vq [] s && recOk (RowW.records (PySem.Challenge.rw_il0138_01.row.toRowW)) s)) (XP := XL vq []) (Yf := H.obs) (Ya := H.val) (YP := H.says) (N := 2784) hl H.of H.keeps (fun s e => xl_of s (Bool.and_eq_true_iff.mp e).1) XL.keeps hdef hp hk (fun s e => recFacts_of (Bool.and_eq_true_iff.mp e).2) (by rfl) (row_said ws) (by decide +kernel) ⟨rfl, rfl, rfl, rfl, rfl, by decide +kernel⟩ hw hc
section
local macro_rules | `(tactic| o_law) => `(tactic| refine holds_law ws fun said => ?_)
set_option hygiene false in
local macro_rules | `(tactic| o_head $H) => `(tactic| (refine head_open $H ?hl (by rfl) (by rfl) (by rfl) ?hw ?hc; case hl => exact left_of_boot (by kernel_rfl) (by rfl) (fun s => by kernel_rfl) fun w os => by (rw [topFrom_q, PySem.W.Fast.te4187177175401517315]; kernel_rfl)))
set_option maxRecDepth 100000 in
set_option maxHeartbeats 8000000 in
open_top hd for PySem.Challenge.rw_il0138_01
end
end Mine

end
section
open PySem PySem.W PyProof.Rows PySem.Spec PySem.Calls
namespace Mine
theorem all_nil {α : Type} {P : α → Prop} : ∀ q ∈ ([] : List α), P q := fun _ h => nomatch h
theorem ne_get {h : Heap} {a b : Addr} {o : Obj} (e : h.get? a = some o) (n : h.get? b = none) : a ≠ b := by
  rintro rfl
  exact nomatch e.symm.trans n
theorem get_gone {h h' : Heap} {b : Addr} (k : ∀ o, h.get? b = some o → h'.get? b = some o) (e : h'.get? b = none) : h.get? b = none := by
  cases q : h.get? b with
  | none => rfl
  | some o => exact nomatch (k o q).symm.trans e
theorem toNat_lt_len {q : Int} {n : Nat} (h0 : 0 ≤ q) (h1 : q < n) : q.toNat < n := by omega
theorem cast63 {n m : Nat} (h : n ≤ m) (d : m ≤ 16777216) : (n : Int) < 2 ^ 63 := by omega
theorem int63 {q : Int} {n : Nat} (h : q < n) (d : n ≤ 16777216) : q < 2 ^ 63 := by omega
theorem neg63 {q : Int} (h : 0 ≤ q) : -2 ^ 63 ≤ q := by omega
theorem all_cons {α : Type} {P : α → Prop} {a : α} {l : List α} (h : P a) (t : ∀ q ∈ l, P q) : ∀ q ∈ a :: l, P q := fun q hq => by
  cases hq with
  | head => exact h
  | tail _ m => exact t q m



/-- the standing facts at a heap: the text's own objects, the top's names, the frames below; n: what is left of room -/
structure Std (w : World) (p : Program) (loose : List Str) (mean : ExcName → Option Value) (mg mb : Str → Option Value) (n : Nat) (A : Around) (base : Heap) (h : Heap) : Prop where
  XB : (hd.heap_1 w.params).In base
  TB : Top p loose mean mg mb base
  st : base.StaysIn h
  sz : base.objs.size ≤ h.objs.size
  B : ∀ out, A.frames = some out → Below A base out h ∧ KtsDicts (out.filterMap (·.frame)) h
  hh : A.handled = none
  hd : A.depth + 2 * n < recursionLimit
  hu : A.units + 20 * n < cLine

section
variable {w : World} {p : Program} {loose : List Str} {mean : ExcName → Option Value} {mg mb : Str → Option Value} {n : Nat} {A : Around} {base H h : Heap} {outer : List Env} {L : Addr} {m : Str → Option Value} {env : Env}

theorem Std.X (S : Std w p loose mean mg mb n A base h) : (hd.heap_1 w.params).In h := S.XB.keeps S.st
theorem Std.T (S : Std w p loose mean mg mb n A base h) : Top p loose mean mg mb h := S.TB.keeps S.st
theorem Std.push (S : Std w p loose mean mg mb (n + 1) A base H) (F : Fr H L h m) (hf : env.frame = some L) (hk : env.scope.kind = .function) : Std w p loose mean mg mb n (A.deeper env) base h where
  XB := S.XB
  TB := S.TB
  st := fun b o e => F.keep b o (S.st b o e)
  sz := Nat.le_trans S.sz (Nat.le_trans F.above (Nat.le_of_lt F.ns.lt))
  B := fun out e => by
    cases e0 : A.frames with
    | none => rw [show (A.deeper env).frames = A.frames.map (env :: ·) from rfl, e0] at e; cases e
    | some o1 =>
      have B1 := pushX (S.B o1 e0).1 F hf hk
      rw [B1.stack] at e
      cases e
      refine ⟨B1, fun b hb => ?_⟩
      obtain ⟨env', he, hq⟩ := List.mem_filterMap.mp hb
      rcases List.mem_cons.mp he with rfl | he
      · rw [hf] at hq
        cases hq
        obtain ⟨oL, es, ep, h1, h2, _⟩ := F.ns
        exact ⟨oL, es, ep, h1, h2⟩
      · obtain ⟨o, es, k, h1, h2⟩ := (S.B o1 e0).2 b (List.mem_filterMap.mpr ⟨env', he, hq⟩)
        exact ⟨o, es, k, F.keep _ _ h1, h2⟩
  hh := S.hh
  hd := by have := S.hd; rw [depth_deeper]; omega
  hu := by have := S.hu; rw [Around.deeper_units]; omega

/-- a call that gives back a value and lets all stand that stood -/
noncomputable def Tells (w : World) (p : Program) (loose : List Str) (mean : ExcName → Option Value) (mg mb : Str → Option Value) (n : Nat) (f : Addr) (args : List Value) (pre : Heap → Prop) (post : Heap → Heap → Value → Prop) : Prop :=
  ∀ (A : Around) (base : Heap) (s : Shared) (R : Result → Shared → Prop), Std w p loose mean mg mb n A base s.heap → pre s.heap →
    (∀ v h' tk, s.heap.StaysIn h' → post s.heap h' v → R (.ok (.ret v)) ⟨h', s.gens, s.drawn, tk, s.os⟩) →
    codeAny (model PG w) A (.call (.ref f) ⟨args, []⟩) R s

theorem Tells.use {f : Addr} {args : List Value} {pre : Heap → Prop} {post : Heap → Heap → Value → Prop} {s : Shared} {Q E : Value → Shared → Prop} (C : Tells w p loose mean mg mb n f args pre post)
    (S : Std w p loose mean mg mb (n + 1) A base H) (F : Fr H L s.heap m) (hp : pre s.heap)
    (h : ∀ v h' tk, s.heap.StaysIn h' → post s.heap h' v → Q v ⟨h', s.gens, s.drawn, tk, s.os⟩) (hf : env.frame = some L := by rfl) (hk : env.scope.kind = .function := by rfl) :
    wpAny (model PG w) (A.deeper env) (call (.ref f) args) Q E s :=
  wpAny_call (C _ _ _ _ (S.push F hf hk) hp h)

/-- what a body may know of the frames below and the top, at each heap that bears its frame -/
noncomputable def Inside (w : World) (p : Program) (loose : List Str) (mean : ExcName → Option Value) (mg mb : Str → Option Value) (n : Nat) (A : Around) (base : Heap) (H : Heap) (L : Addr) : Prop :=
  ∀ h m, Fr H L h m → Std w p loose mean mg mb n A base h

theorem Tells.at {f : Addr} {args : List Value} {pre : Heap → Prop} {post : Heap → Heap → Value → Prop} {g : Array GenState} {d : Drawn} {tk : Nat} {o : OsState} {Q E : Value → Shared → Prop} (C : Tells w p loose mean mg mb n f args pre post)
    (S : Inside w p loose mean mg mb n A base H L) (F : Fr H L h m) (hp : pre h)
    (k : ∀ v h' tk', Fr H L h' m → h.StaysIn h' → post h h' v → Q v ⟨h', g, d, tk', o⟩) :
    wpAny (model PG w) A (call (.ref f) args) Q E ⟨h, g, d, tk, o⟩ :=
  wpAny_call (C _ _ _ _ (S h m F) hp fun v h' tk' st hq => k v h' tk' (by
    obtain ⟨oL, es, ep, hL, r⟩ := F.ns
    exact ⟨⟨oL, es, ep, st _ _ hL, r⟩, fun b o e => st _ _ (F.keep b o e), F.above⟩) st hq)

/-- a plain def is entered; nothing leaves it by an exception -/
theorem enter {name qual : Str} {params : Arguments} {body : List Stmt} {scope : Scope} {dV kV doc pm cdv ct oc : Value} {an od : Option Addr} {osl : Array (Option Value)} {f : Addr} {args : Args} (binds : List (Str × Value)) {g : Array GenState} {d : Drawn} {tk : Nat} {o : OsState} {R : Result → Shared → Prop}
    {H₁ : Heap} (S : Std w p loose mean mg mb (n + 1) A base H) (hst : H.StaysIn H₁) (hsz : H.objs.size ≤ H₁.objs.size)
    (ho : (hd.heap_1 w.params).lookup f = some ⟨oc, od, .func (fnOf name qual params body scope dV kV doc pm an cdv ct), osl⟩) (hcd : codeIn (hd.heap_1 w.params) cdv qual = true)
    (hbind : bindArgs (fnOf name qual params body scope dV kV doc pm an cdv ct) args = pure binds) (hloc : (binds.all fun x => decide (scope.names.lookup x.1 = some .local)) = true)
    (hco : scope.isCoroutine = false) (hgen : scope.isGenerator = false) (hk : scope.kind = .function)
    (hcell : (scope.names.all fun x => x.2 != .cell) = true)
    (h : ∀ (L : Addr) (dp un : Nat) (fr : Option (List Env)) (gd : Option (List Code)) (h₁ : Heap) (tk₁ : Nat) (Q : Flow → Shared → Prop), Inside w p loose mean mg mb n ⟨none, dp, fr, gd, un⟩ base H L → H₁.StaysIn h₁ → H₁.objs.size ≤ L → Fr H L h₁ (fun y => binds.reverse.lookup y) →
      (∀ v s', R (.ok (.ret v)) s' → Q (.ret v) s') → (∀ s', R (.ok (.ret .none)) s' → Q .next s') →
      wpAny (model PG w) ⟨none, dp, fr, gd, un⟩ (execs body (envOf qual scope L f cdv)) Q (fun _ _ => False) ⟨h₁, g, d, tk₁, o⟩) : codeAny (model PG w) A (.call (.ref f) args) R ⟨H₁, g, d, tk, o⟩ := by
  obtain ⟨hdA, dpA, frA, gdA, unA⟩ := A
  obtain rfl : hdA = none := S.hh
  refine codeAny_call_def (fd := fnOf name qual params body scope dV kV doc pm an cdv ct) (body := body) (binds := binds) (by have := S.hd; exact (Nat.lt_of_lt_of_le (Nat.lt_succ_of_le (Nat.le_add_right _ _)) (Nat.succ_le_of_lt this))) (hst _ _ (S.X _ _ ho)) rfl (S.T.nolimit.keeps hst) (codeRec_of (S.X.keeps hst) hcd) rfl (BindsTo.of_eq hbind)
    (fun x hx => by simpa using List.all_eq_true.mp hcell x hx) (locs hloc) (fun h₁ hns hk₁ => ?_) hco hgen hk
  exact wpAny_mono (h H₁.objs.size _ _ _ _ h₁ _ (fun fl s' => R (.ok (.ret (match fl with | .ret v => v | _ => .none))) s') (fun h' m' F' => S.push F' rfl hk) hk₁ (Nat.le_refl _) ⟨hns, fun b o e => hk₁ b o (hst b o e), hsz⟩ (fun v s' x => x) fun s' x => x) (fun _ _ x => x) fun _ _ x => x.elim

/-- a def that holds cells is entered; nothing leaves it by an exception -/
theorem enterC {name qual : Str} {params : Arguments} {body : List Stmt} {scope : Scope} {dV kV doc pm cdv ct oc : Value} {an od : Option Addr} {osl : Array (Option Value)} {f : Addr} {args : Args} (binds : List (Str × Value)) {g : Array GenState} {d : Drawn} {tk : Nat} {o : OsState} {R : Result → Shared → Prop}
    {H₁ : Heap} (S : Std w p loose mean mg mb (n + 1) A base H) (hst : H.StaysIn H₁) (hsz : H.objs.size ≤ H₁.objs.size)
    (ho : (hd.heap_1 w.params).lookup f = some ⟨oc, od, .func (fnOf name qual params body scope dV kV doc pm an cdv ct), osl⟩) (hcd : codeIn (hd.heap_1 w.params) cdv qual = true)
    (hbind : bindArgs (fnOf name qual params body scope dV kV doc pm an cdv ct) args = pure binds) (hkind : (binds.all fun y => scope.names.lookup y.1 == some .local || scope.names.lookup y.1 == some .cell) = true)
    (hnd : ((cellsFrom 0 scope.names []).map (·.1)).Nodup)
    (hco : scope.isCoroutine = false) (hgen : scope.isGenerator = false) (hk : scope.kind = .function)
    (h : ∀ (L : Addr) (dp un : Nat) (fr : Option (List Env)) (gd : Option (List Code)) (h₁ : Heap) (tk₁ : Nat) (cells : List (Addr × Obj)) (Q : Flow → Shared → Prop), Inside w p loose mean mg mb n ⟨none, dp, fr, gd, un⟩ base H L → H₁.StaysIn h₁ → H₁.objs.size ≤ L →
      Fr H L h₁ (bindL (envOfC qual scope L f cdv).kindOf binds fun _ => none) → News H L h₁ cells → CellsAre (bindC (envOfC qual scope L f cdv).kindOf binds fun _ => none) (cellsFrom (L + 1) scope.names []) cells →
      (∀ v s', R (.ok (.ret v)) s' → Q (.ret v) s') → (∀ s', R (.ok (.ret .none)) s' → Q .next s') →
      wpAny (model PG w) ⟨none, dp, fr, gd, un⟩ (execs body (envOfC qual scope L f cdv)) Q (fun _ _ => False) ⟨h₁, g, d, tk₁, o⟩) : codeAny (model PG w) A (.call (.ref f) args) R ⟨H₁, g, d, tk, o⟩ := by
  obtain ⟨hdA, dpA, frA, gdA, unA⟩ := A
  obtain rfl : hdA = none := S.hh
  refine codeAny_call_function (by have := S.hd; exact (Nat.lt_of_lt_of_le (Nat.lt_succ_of_le (Nat.le_add_right _ _)) (Nat.succ_le_of_lt this))) (hst _ _ (S.X _ _ ho)) rfl hco hgen rfl (codeRec_of (S.X.keeps hst) hcd) ((BindsTo.of_eq hbind) _ _ _ _ ?_)
  refine wpAny_newFunctionEnv_cells hk (kindsX hkind _) fun env' he s' x => ?_
  subst he
  refine ⟨(S.T.nolimit.keeps hst).keeps x.toInCall.keep, codeAny_func ?_⟩
  obtain ⟨h₁, tk₁, rfl, _⟩ := x.done
  obtain ⟨cells, NC, Y⟩ := Cl.news (h₀ := H) hsz fun n c hm => ⟨x.cell n c (lookup_of_mem_nodup (cellsFrom_names scope.names 0 (H₁.objs.size + 1) [] [] rfl ▸ hnd) hm), x.above n c hm⟩
  exact wpAny_mono (h H₁.objs.size _ _ _ _ h₁ tk₁ cells (fun fl s' => R (.ok (.ret (match fl with | .ret v => v | _ => .none))) s') (fun h' m' F' => S.push F' rfl hk) x.toInCall.keep (Nat.le_refl _) ⟨x.toInCall.ns, fun b o e => x.toInCall.keep b o (hst b o e), hsz⟩ NC Y (fun v s' x => x) fun s' x => x) (fun _ _ x => x) fun _ _ x => x.elim

/-- a while by an invariant; the turn's end is a letter -/
theorem whileR {env : Env} {test : Expr} {body : List Stmt} {pos : Pos} {h : Heap} {g : Array GenState} {d : Drawn} {tk : Nat} {o : OsState} {Q : Flow → Shared → Prop} {news : List (Addr × Obj)} (J : Nat → (Str → Option Value) → List (Addr × Obj) → Prop) {n₀ : Nat}
    (F : Fr H L h m) (N : News H L h news) (hJ : J n₀ m news)
    (turn : ∀ n m₁ news₁ h₁ tk₁ (Qt : Flow → Shared → Prop), (∀ h' tk' m₂ news₂ n', Fr H L h' m₂ → News H L h' news₂ → J n' m₂ news₂ → n' < n → Qt .next ⟨h', g, d, tk', o⟩) →
      (∀ v s', Q (.ret v) s' → Qt (.ret v) s') → (∀ s', Q .next s' → Qt .brk s') → Fr H L h₁ m₁ → News H L h₁ news₁ → J n m₁ news₁ →
      wpAny (model PG w) A (isTrue test env (eval test env)) (fun b s₂ =>
        if b = true then wpAny (model PG w) A (execs body env) Qt (fun _ _ => False) s₂ else Q .next s₂) (fun _ _ => False) ⟨h₁, g, d, tk₁, o⟩) :
    wpAny (model PG w) A (exec (.While test body [] pos) env) Q (fun _ _ => False) ⟨h, g, d, tk, o⟩ := by
  refine While_inv2 (s := ⟨h, g, d, tk, o⟩) J F N hJ fun n m₁ news₁ h₁ tk₁ F₁ N₁ J₁ => ?_
  refine wpAny_mono (turn n m₁ news₁ h₁ tk₁ (fun f s' => (f = .next ∧ ∃ h' tk' m₂ news₂ n', s' = ⟨h', g, d, tk', o⟩ ∧ Fr H L h' m₂ ∧ News H L h' news₂ ∧ n' < n ∧ J n' m₂ news₂) ∨ (f = .brk ∧ Q .next s') ∨ ∃ v, f = .ret v ∧ Q (.ret v) s') (fun h' tk' m₂ news₂ n' F' N' J' hl => .inl ⟨rfl, h', tk', m₂, news₂, n', rfl, F', N', hl, J'⟩)
    (fun v s' x => .inr (.inr ⟨v, rfl, x⟩)) (fun s' x => .inr (.inl ⟨rfl, x⟩)) F₁ N₁ J₁) (fun b s₂ hb => ?_) fun _ _ x => x
  cases b with
  | false => exact hb
  | true =>
    refine wpAny_mono hb (fun f s₃ hf => ?_) fun _ _ x => x
    rcases hf with ⟨rfl, h', tk', m₂, news₂, n', rfl, F', N', hl, J'⟩ | ⟨rfl, x⟩ | ⟨v, rfl, x⟩
    · exact ⟨h', tk', m₂, news₂, n', rfl, F', N', hl, J'⟩
    · exact x
    · exact x
end
end Mine
namespace Mine
section
variable {h₀ h : Heap} {L : Addr} {m : Str → Option Value}
noncomputable def mput (ps : List (Str × Value)) (m : Str → Option Value) : Str → Option Value := fun y => match ps.lookup y with | some v => some v | none => m y
theorem mput_eq {ps : List (Str × Value)} (hp : ∀ q ∈ ps, m q.1 = some q.2) : mput ps m = m := by
  funext y
  unfold mput
  cases e : ps.lookup y with
  | none => rfl
  | some v =>
    induction ps with
    | nil => cases e
    | cons a r ih =>
      obtain ⟨k, u⟩ := a
      rw [List.lookup_cons] at e
      cases hk : y == k with
      | true =>
        rw [hk] at e
        obtain rfl := eq_of_beq hk
        cases e
        exact (hp _ (.head _)).symm
      | false =>
        rw [hk] at e
        exact ih (fun q hq => hp q (.tail _ hq)) e
theorem Fr.norm (F : Fr h₀ L h m) (ps : List (Str × Value)) (hp : ∀ q ∈ ps, m q.1 = some q.2) : Fr h₀ L h (mput ps m) := by rw [mput_eq hp]; exact F
theorem News.lst {news : List (Addr × Obj)} {a : Addr} {its : Array Value} {k : Nat} (N : News h₀ L h news) (hm : (a, W.listOf its k) ∈ news) : h.IsList a its := ⟨_, (N _ hm).1, rfl, _, rfl⟩
theorem Fr.stay {h' : Heap} (F : Fr h₀ L h m) (k : h.StaysIn h') : Fr h₀ L h' m := by
  obtain ⟨oL, es, ep, hL, r⟩ := F.ns
  exact ⟨⟨oL, es, ep, k _ _ hL, r⟩, fun b o e => k _ _ (F.keep b o e), F.above⟩
theorem News.stay {h' : Heap} {news : List (Addr × Obj)} (N : News h₀ L h news) (k : h.StaysIn h') : News h₀ L h' news := fun q hq => ⟨k _ _ (N q hq).1, (N q hq).2⟩
/-- a new object of a callee's joins the ledger -/
theorem News.join {h' : Heap} {news : List (Addr × Obj)} {a : Addr} {o : Obj} (F : Fr h₀ L h m) (N : News h₀ L h news) (k : h.StaysIn h') (hn : h.get? a = none) (ho : h'.get? a = some o) : News h₀ L h' ((a, o) :: news) := by
  intro q hq
  rcases List.mem_cons.mp hq with rfl | hq
  · refine ⟨ho, fun e => ?_, ?_⟩
    · obtain ⟨oL, es, ep, hL, r⟩ := F.ns
      have e' : a = L := e
      (first | exact (ne_get hL (hn) (e').symm).elim | exact (ne_get (hn) hL (e').symm).elim | (rw [← e', hn] at hL; cases hL))
    · cases e : h₀.get? a with
      | none => rfl
      | some x => have := F.keep _ _ e; (first | exact (ne_get this (hn) rfl).elim | exact (ne_get (hn) this rfl).elim | (rw [hn] at this; cases this))
  · exact (News.stay N k) q hq
theorem ints_at {vs : List Value} {ns : List Int} (x : IntsAre vs ns) : ∀ {i : Nat}, i < ns.length → ∃ t, vs[i]? = some (.int (ns.getD i 0) t) := by
  induction x with
  | nil => exact fun h => absurd h (Nat.not_lt_zero _)
  | cons n t _ ih =>
    intro i h
    induction i with
    | zero => exact ⟨t, rfl⟩
    | succ i _ => exact ih (Nat.lt_of_succ_lt_succ h)
theorem strs_at {vs : List Value} {ns : List Str} (x : StrsAre vs ns) : ∀ {i : Nat}, i < ns.length → ∃ t, vs[i]? = some (.str (ns.getD i Str.empty) t) := by
  induction x with
  | nil => exact fun h => absurd h (Nat.not_lt_zero _)
  | cons n t _ ih =>
    intro i h
    induction i with
    | zero => exact ⟨t, rfl⟩
    | succ i _ => exact ih (Nat.lt_of_succ_lt_succ h)
theorem News.only {news : List (Addr × Obj)} {q : Addr × Obj} (N : News h₀ L h news) (hq : q ∈ news) : News h₀ L h [q] := fun x hx => by
  rcases List.mem_cons.mp hx with rfl | hx
  · exact N _ hq
  · cases hx
end
theorem ite_no {a b : Prop} (h : b) : if false = true then a else b := h
theorem ite_yes {a b : Prop} (h : a) : if true = true then a else b := h
theorem newHd {h₀ h : Heap} {L a : Addr} {ob : Obj} {news : List (Addr × Obj)} (N : News h₀ L h ((a, ob) :: news)) : h₀.get? a = none ∧ h.get? a = some ob := ⟨(N _ (.head _)).2.2, (N _ (.head _)).1⟩
end Mine

end
section
open PySem PySem.W PyProof.Rows PySem.Spec PySem.Calls
namespace Mine
section
variable {w : World} {A : Around} {env : Env} {h : Heap} {g : Array GenState} {d : Drawn} {tk : Nat} {o : OsState}

noncomputable abbrev No : Value → Shared → Prop := fun _ _ => False

theorem ifs_nil {env : Env} {Q : Bool → Shared → Prop} {E : Value → Shared → Prop} {s : Shared} (h : Q true s) :
    wpAny (model PG w) A (forIn ([] : List Expr) true fun c r => if r = true then do let ok ← isTrue c env (eval c env); pure (ForInStep.yield ok) else pure (ForInStep.yield r)) Q E s := by
  rw [List.forIn_nil]; exact wpAny_pure h
theorem ifs_one {env : Env} {c : Expr} {Q : Bool → Shared → Prop} {E : Value → Shared → Prop} {s : Shared} (h : wpAny (model PG w) A (isTrue c env (eval c env)) Q E s) :
    wpAny (model PG w) A (forIn [c] true fun c r => if r = true then do let ok ← isTrue c env (eval c env); pure (ForInStep.yield ok) else pure (ForInStep.yield r)) Q E s := by
  rw [List.forIn_cons]
  simp only [if_true]
  refine wpAny_bind (wpAny_bind (wpAny_mono h (fun ok s' hq => wpAny_pure ?_) fun _ _ x => x))
  show wpAny _ _ (forIn [] ok _) _ _ _
  rw [List.forIn_nil]; exact wpAny_pure hq

/-- an address that is none of the frame's, the ledger's, the base's -/
noncomputable def Off (H : Heap) (L : Addr) (news : List (Addr × Obj)) (I : Addr) : Prop := H.get? I = none ∧ L ≠ I ∧ ∀ q ∈ news, q.1 ≠ I
theorem Off.of {H h : Heap} {L : Addr} {m : Str → Option Value} {news : List (Addr × Obj)} {I : Addr} (F : Fr H L h m) (N : News H L h news) (e : h.get? I = none) : Off H L news I := by
  refine ⟨?_, fun q => ?_, fun q hq z => ?_⟩
  · cases e' : H.get? I with
    | none => rfl
    | some x => have := F.keep _ _ e'; (first | exact (ne_get this (e) rfl).elim | exact (ne_get (e) this rfl).elim | (rw [e] at this; cases this))
  · obtain ⟨oL, _, _, hL, _⟩ := F.ns
    (first | exact (ne_get hL (e) (q)).elim | exact (ne_get (e) hL (q)).elim | (rw [q, e] at hL; cases hL))
  · have := (N q hq).1; (first | exact (ne_get this (e) (z)).elim | exact (ne_get (e) this (z)).elim | (rw [z, e] at this; cases this))

section
variable {H : Heap} {L : Addr} {m : Str → Option Value} {news : List (Addr × Obj)} {E : Value → Shared → Prop}
theorem it_range {r : Addr} {a b : Int} {t u v : Tok} {n : Nat} {Q : Value → Shared → Prop} (F : Fr H L h m) (N : News H L h news) (hr : IsRange h r a b 1 t u v) (hs : Builtin.Range.small a b 1 = true) (hn : Builtin.Range.rangeSize a b 1 = (n : Int))
    (k : ∀ I h', Fr H L h' m → News H L h' news → h.StaysIn h' → h.get? I = none → IsRangeIter h' I (a + ((0 : Nat) : Int) * 1) ((n : Int) - ((0 : Nat) : Int)) 1 → (∀ b ∈ [I], b < h'.objs.size) → Off H L news I → Q (.ref I) ⟨h', g, d, tk, o⟩) :
    wpAny (model PG w) A (pyIter (.ref r)) Q E ⟨h, g, d, tk, o⟩ := by
  have st : h.StaysIn (h.push { cls := .type "range_iterator", data := .fields #[rawInt a, rawInt (Builtin.Range.rangeSize a b 1), rawInt 1] }) := fun b o e => Heap.get?_push_of_some _ e
  have fr : h.get? h.objs.size = none := by
    cases e : h.get? h.objs.size with
    | none => rfl
    | some o' => exact absurd (Heap.lt_size e) (Nat.lt_irrefl _)
  refine wpAny_pyIter_range hr hs (k _ _ (F.push _) (News.stay N st) st fr ?_ ?_ ?_)
  · rw [hn]
    have : (⟨h, g, d, tk, o⟩ : Shared).heap.get? h.objs.size = none := fr
    refine (Heap.get?_push_size _ rfl).trans ?_
    simp
  · intro b hb
    rw [List.mem_singleton.mp hb, Heap.size_push]
    exact Nat.lt_succ_self _
  · exact Off.of F N fr
theorem it_list {l : Addr} {vs : List Value} {Q : Value → Shared → Prop} (F : Fr H L h m) (N : News H L h news) (hl : h.IsList l vs.toArray)
    (k : ∀ I h', Fr H L h' m → News H L h' news → h.StaysIn h' → h.get? I = none → l ≠ I → h'.IsListIter I l 0 ∧ h'.IsList l vs.toArray → (∀ b ∈ [I, l], b < h'.objs.size) → Off H L news I → Q (.ref I) ⟨h', g, d, tk, o⟩) :
    wpAny (model PG w) A (pyIter (.ref l)) Q E ⟨h, g, d, tk, o⟩ := by
  have st : h.StaysIn (h.push { cls := .type "list_iterator", data := .fields #[.ref l, .int 0 0] }) := fun b o e => Heap.get?_push_of_some _ e
  have fr : h.get? h.objs.size = none := by
    cases e : h.get? h.objs.size with
    | none => rfl
    | some o' => exact absurd (Heap.lt_size e) (Nat.lt_irrefl _)
  obtain ⟨ol, hol, hrest⟩ := id hl
  refine wpAny_pyIter_list hl (k _ _ (F.push _) (News.stay N st) st fr (Nat.ne_of_lt (Heap.lt_size hol)) ⟨?_, ⟨ol, st _ _ hol, hrest⟩⟩ ?_ ?_)
  · exact ⟨_, Heap.get?_push_size _ rfl, rfl, rfl⟩
  · intro b hb
    rw [Heap.size_push]
    rcases List.mem_cons.mp hb with rfl | hb
    · exact Nat.lt_succ_self _
    · rw [List.mem_singleton.mp hb]; exact Nat.lt_succ_of_lt (Heap.lt_size hol)
  · exact Off.of F N fr
end
end
end Mine

end
section
open PySem PySem.W PyProof.Rows PySem.Spec PySem.Calls
namespace Mine

/-- all stands but what a frame's object keeps in its slots -/
noncomputable def KeepX (fs : List Addr) (h h' : Heap) : Prop := (∀ b o, h.get? b = some o → b ∉ fs → h'.get? b = some o) ∧ ∀ b o, h.get? b = some o → b ∈ fs → ∃ sl, h'.get? b = some { o with slots := sl }
section
variable {fs : List Addr} {h h' h'' g g' : Heap}
theorem KeepX.of_stays (k : h.StaysIn h') : KeepX fs h h' := ⟨fun b o e _ => k b o e, fun b o e _ => ⟨o.slots, k b o e⟩⟩
theorem KeepX.of_turn (T : KtsTurn fs h h') : KeepX fs h h' := ⟨fun b o e n => T.other b o e n, fun b o e n => T.frame b o e n⟩
theorem KeepX.trans (x : KeepX fs h h') (y : KeepX fs h' h'') : KeepX fs h h'' := ⟨fun b o e n => y.1 b o (x.1 b o e n) n, fun b o e n => by
  obtain ⟨s, e'⟩ := x.2 b o e n
  obtain ⟨s', e''⟩ := y.2 b _ e' n
  exact ⟨s', e''⟩⟩
theorem KeepX.up (x : KeepX fs h h') {b : Addr} {o : Obj} (e : h.get? b = some o) : ∃ sl, h'.get? b = some { o with slots := sl } := by
  by_cases q : b ∈ fs
  · exact x.2 b o e q
  · exact ⟨o.slots, x.1 b o e q⟩
theorem KeepX.list {a : Addr} {its : Array Value} (x : KeepX fs h h') (l : h.IsList a its) : h'.IsList a its := by
  obtain ⟨o, e, r⟩ := l
  obtain ⟨sl, e'⟩ := x.up e
  exact ⟨_, e', r⟩
end

/-- a body's room: what it knows of the frames below, at a base that exceptions may have turned -/
structure Room (w : World) (p : Program) (loose : List Str) (mean : ExcName → Option Value) (mg mb : Str → Option Value) (n : Nat) (A : Around) (base : Heap) (outer : List Env) (H₀ H : Heap) : Prop where
  XB : (hd.heap_1 w.params).In base
  TB : Top p loose mean mg mb base
  sz : base.objs.size ≤ H.objs.size
  B : Below A base outer H
  D : KtsDicts (outer.filterMap (·.frame)) H
  T0 : KtsTurn (outer.filterMap (·.frame)) H₀ H
  hh : A.handled = none
  hd : A.depth + 2 * (n + 1) < recursionLimit
  hu : A.units + 20 * (n + 1) < cLine
section
variable {w : World} {p : Program} {loose : List Str} {mean : ExcName → Option Value} {mg mb : Str → Option Value} {n : Nat} {A A₀ : Around} {base H₀ H h : Heap} {outer : List Env} {L : Addr} {m : Str → Option Value} {env : Env} {news : List (Addr × Obj)}
theorem Room.X (R : Room w p loose mean mg mb n A base outer H₀ H) : (hd.heap_1 w.params).In H := R.XB.keeps R.B.stays
theorem Room.T (R : Room w p loose mean mg mb n A base outer H₀ H) : Top p loose mean mg mb H := R.TB.keeps R.B.stays
theorem Room.std (R : Room w p loose mean mg mb n A base outer H₀ H) : Std w p loose mean mg mb (n + 1) A base H := ⟨R.XB, R.TB, R.B.stays, R.sz, fun out e => by
  rw [R.B.stack] at e
  cases e
  exact ⟨R.B, R.D⟩, R.hh, R.hd, R.hu⟩
theorem Room.inside (R : Room w p loose mean mg mb n A base outer H₀ H) (hf : env.frame = some L := by rfl) (hk : env.scope.kind = .function := by rfl) : Inside w p loose mean mg mb n (A.deeper env) base H L := fun _ _ F => R.std.push F hf hk
theorem Room.turn {H' : Heap} (R : Room w p loose mean mg mb n A base outer H₀ H) (T : KtsTurn (outer.filterMap (·.frame)) H H') : Room w p loose mean mg mb n A base outer H₀ H' :=
  ⟨R.XB, R.TB, by rw [T.size]; exact R.sz, ⟨R.B.stack, fun b o e => T.other b o (R.B.stays b o e) (fun hm => by (first | exact (ne_get e ((R.B.frames.mem hm).1) rfl).elim | exact (ne_get ((R.B.frames.mem hm).1) e rfl).elim | (rw [(R.B.frames.mem hm).1] at e; cases e))), R.B.frames.of_keeps fun b o e _ => by
    obtain ⟨sl, hs⟩ := T.up e
    exact ⟨_, hs, rfl⟩⟩, R.D.turn T, R.T0.trans T, R.hh, R.hd, R.hu⟩
/-- a heap in which all stands but the frames' slots: the base turns with it -/
theorem Room.after {h' : Heap} (R : Room w p loose mean mg mb n A base outer H₀ H) (F : Fr H L h m) (N : News H L h news) (K : KeepX (L :: outer.filterMap (·.frame)) h h') :
    ∃ H', Room w p loose mean mg mb n A base outer H₀ H' ∧ KtsTurn (outer.filterMap (·.frame)) H H' ∧ Fr H' L h' m ∧ News H' L h' news := by
  have hL : H.get? L = none := kts_self F
  have hs : ∀ b ∈ outer.filterMap (·.frame), ∃ o, H.get? b = some o := fun b hb => by
    obtain ⟨_, o, ho, _⟩ := R.B.frames.mem hb
    exact ⟨o, ho⟩
  obtain ⟨T, S⟩ := kts_turn_at (h := h') (fs := outer.filterMap (·.frame)) (g := H) hs
    (fun b o e nm => K.1 b o (F.keep b o e) (fun q => by
      rcases List.mem_cons.mp q with rfl | q
      · (first | exact (ne_get e (hL) rfl).elim | exact (ne_get (hL) e rfl).elim | (rw [hL] at e; cases e))
      · exact nm q))
    (fun b o e hm => K.2 b o (F.keep b o e) (.tail _ hm))
  obtain ⟨oL, es, ep, h1, h2, h3⟩ := F.ns
  obtain ⟨sl, e1⟩ := K.up h1
  refine ⟨_, R.turn T, T, ⟨⟨_, es, ep, e1, h2, h3⟩, S, by rw [T.size]; exact F.above⟩, fun q hq => ?_⟩
  obtain ⟨a1, a2, a3⟩ := N q hq
  refine ⟨K.1 _ _ a1 fun z => ?_, a2, T.none_ _ a3⟩
  rcases List.mem_cons.mp z with z | z
  · exact a2 z
  · obtain ⟨o, ho⟩ := hs _ z
    (first | exact (ne_get ho (a3) rfl).elim | exact (ne_get (a3) ho rfl).elim | (rw [a3] at ho; cases ho))

/-- what a body leaves, seen from its entry -/
theorem Room.kept {H' : Heap} (R : Room w p loose mean mg mb n A base outer H₀ H) (F : Fr H L H' m) : KeepX (outer.filterMap (·.frame)) H₀ H' := (KeepX.of_turn R.T0).trans (.of_stays F.keep)

/-- a call behind which all stands but the frames' slots -/
noncomputable def TellsX (w : World) (p : Program) (loose : List Str) (mean : ExcName → Option Value) (mg mb : Str → Option Value) (n : Nat) (f : Addr) (args : List Value) (pre : Heap → Prop) (post : Heap → Heap → Value → Prop) : Prop :=
  ∀ (A : Around) (out : List Env) (base : Heap) (s : Shared) (R : Result → Shared → Prop), A.frames = some out → Std w p loose mean mg mb n A base s.heap → pre s.heap →
    (∀ v h' tk g, KeepX (out.filterMap (·.frame)) s.heap h' → (AllBare s.gens → AllBare g) → post s.heap h' v → R (.ok (.ret v)) ⟨h', g, s.drawn, tk, s.os⟩) →
    codeAny (model PG w) A (.call (.ref f) ⟨args, []⟩) R s

theorem mem_frames {b : Addr} (hf : env.frame = some L) (hm : b ∈ (env :: outer).filterMap (·.frame)) : b ∈ L :: outer.filterMap (·.frame) := by
  rw [List.filterMap_cons, hf] at hm
  exact hm
theorem frames_cons (hf : env.frame = some L) : (env :: outer).filterMap (·.frame) = L :: outer.filterMap (·.frame) := by
  rw [List.filterMap_cons, hf]

theorem TellsX.at {f : Addr} {args : List Value} {pre : Heap → Prop} {post : Heap → Heap → Value → Prop} {g : Array GenState} {d : Drawn} {tk : Nat} {o : OsState} {Q E : Value → Shared → Prop} (C : TellsX w p loose mean mg mb n f args pre post)
    (R : Room w p loose mean mg mb n A base outer H₀ H) (F : Fr H L h m) (N : News H L h news) (hp : pre h)
    (k : ∀ v h' tk' g' H', Room w p loose mean mg mb n A base outer H₀ H' → KtsTurn (outer.filterMap (·.frame)) H H' → Fr H' L h' m → News H' L h' news → KeepX (L :: outer.filterMap (·.frame)) h h' → (AllBare g → AllBare g') → post h h' v → Q v ⟨h', g', d, tk', o⟩)
    (hf : env.frame = some L := by rfl) (hk : env.scope.kind = .function := by rfl) :
    wpAny (model PG w) (A.deeper env) (call (.ref f) args) Q E ⟨h, g, d, tk, o⟩ := by
  refine wpAny_call (C _ (env :: outer) _ _ _ (Around.frames_deeper R.B.stack) (R.std.push F hf hk) hp fun v h' tk' g' K hg hq => ?_)
  rw [frames_cons hf] at K
  obtain ⟨H', R', T, F', N'⟩ := R.after F N K
  exact k v h' tk' g' H' R' T F' N' K hg hq

/-- a plain def is entered, with the frames below in sight -/
theorem enterX {name qual : Str} {params : Arguments} {body : List Stmt} {scope : Scope} {dV kV doc pm cdv ct oc : Value} {an od : Option Addr} {osl : Array (Option Value)} {f : Addr} {args : Args} (binds : List (Str × Value)) {g : Array GenState} {d : Drawn} {tk : Nat} {o : OsState} {R : Result → Shared → Prop}
    {H₁ : Heap} (hout : A.frames = some outer) (S : Std w p loose mean mg mb (n + 1) A base H) (hst : H.StaysIn H₁) (hsz : H.objs.size ≤ H₁.objs.size)
    (ho : (hd.heap_1 w.params).lookup f = some ⟨oc, od, .func (fnOf name qual params body scope dV kV doc pm an cdv ct), osl⟩) (hcd : codeIn (hd.heap_1 w.params) cdv qual = true)
    (hbind : bindArgs (fnOf name qual params body scope dV kV doc pm an cdv ct) args = pure binds) (hloc : (binds.all fun x => decide (scope.names.lookup x.1 = some .local)) = true)
    (hco : scope.isCoroutine = false) (hgen : scope.isGenerator = false) (hk : scope.kind = .function)
    (hcell : (scope.names.all fun x => x.2 != .cell) = true)
    (h : ∀ (L : Addr) (dp un : Nat) (gd : Option (List Code)) (h₁ : Heap) (tk₁ : Nat) (Q : Flow → Shared → Prop), Room w p loose mean mg mb n ⟨none, dp, some outer, gd, un⟩ base outer H H → H₁.StaysIn h₁ → H₁.objs.size ≤ L → Fr H L h₁ (fun y => binds.reverse.lookup y) →
      (∀ v s', R (.ok (.ret v)) s' → Q (.ret v) s') → (∀ s', R (.ok (.ret .none)) s' → Q .next s') →
      wpAny (model PG w) ((⟨none, dp, some outer, gd, un⟩ : Around).deeper (envOf qual scope L f cdv)) (execs body (envOf qual scope L f cdv)) Q No ⟨h₁, g, d, tk₁, o⟩) : codeAny (model PG w) A (.call (.ref f) args) R ⟨H₁, g, d, tk, o⟩ := by
  obtain ⟨hdA, dpA, frA, gdA, unA⟩ := A
  obtain rfl : hdA = none := S.hh
  obtain rfl : frA = some outer := hout
  refine codeAny_call_def (fd := fnOf name qual params body scope dV kV doc pm an cdv ct) (body := body) (binds := binds) (by have := S.hd; omega) (hst _ _ (S.X _ _ ho)) rfl (S.T.nolimit.keeps hst) (codeRec_of (S.X.keeps hst) hcd) rfl (BindsTo.of_eq hbind)
    (fun x hx => by simpa using List.all_eq_true.mp hcell x hx) (locs hloc) (fun h₁ hns hk₁ => ?_) hco hgen hk
  exact wpAny_mono (h H₁.objs.size dpA unA gdA h₁ _ (fun fl s' => R (.ok (.ret (match fl with | .ret v => v | _ => .none))) s') ⟨S.XB, S.TB, S.sz, (S.B _ rfl).1, (S.B _ rfl).2, .refl, rfl, S.hd, S.hu⟩ hk₁ (Nat.le_refl _) ⟨hns, fun b o e => hk₁ b o (hst b o e), hsz⟩ (fun v s' x => x) fun s' x => x) (fun _ _ x => x) fun _ _ x => x.elim

/-- a turn's state under a base that turns -/
noncomputable def Turned (w : World) (p : Program) (loose : List Str) (mean : ExcName → Option Value) (mg mb : Str → Option Value) (n : Nat) (A : Around) (base : Heap) (outer : List Env) (H₀ : Heap) (L : Addr) (P : Heap → (Str → Option Value) → List (Addr × Obj) → Heap → Prop) (h : Heap) : Prop :=
  ∃ H m news, Room w p loose mean mg mb n A base outer H₀ H ∧ Fr H L h m ∧ News H L h news ∧ P H m news h

theorem whileX {test : Expr} {body : List Stmt} {pos : Pos} {g : Array GenState} {d : Drawn} {tk : Nat} {o : OsState} {Q : Flow → Shared → Prop} (J : Nat → Heap → (Str → Option Value) → List (Addr × Obj) → Heap → Prop) {k₀ : Nat}
    (hJ : Turned w p loose mean mg mb n A₀ base outer H₀ L (J k₀) h)
    (turn : ∀ k H m₁ news₁ h₁ tk₁ (Qt : Flow → Shared → Prop), Room w p loose mean mg mb n A₀ base outer H₀ H → Fr H L h₁ m₁ → News H L h₁ news₁ → J k H m₁ news₁ h₁ →
      (∀ h' tk' k' H' m' news', Room w p loose mean mg mb n A₀ base outer H₀ H' → Fr H' L h' m' → News H' L h' news' → J k' H' m' news' h' → k' < k → Qt .next ⟨h', g, d, tk', o⟩) →
      (∀ v s', Q (.ret v) s' → Qt (.ret v) s') → (∀ s', Q .next s' → Qt .brk s') →
      wpAny (model PG w) A (isTrue test env (eval test env)) (fun b s₂ =>
        if b = true then wpAny (model PG w) A (execs body env) Qt No s₂ else Q .next s₂) No ⟨h₁, g, d, tk₁, o⟩) :
    wpAny (model PG w) A (exec (.While test body [] pos) env) Q No ⟨h, g, d, tk, o⟩ := by
  refine wpAny_While (codeAny_whileLoop (fun k s' => ∃ h₁ tk₁, s' = ⟨h₁, g, d, tk₁, o⟩ ∧ Turned w p loose mean mg mb n A₀ base outer H₀ L (J k) h₁) ?_ k₀ ⟨h, tk, rfl, hJ⟩)
  rintro k s' ⟨h₁, tk₁, rfl, H, m₁, news₁, R₁, F₁, N₁, J₁⟩
  refine wpAny_mono (turn k H m₁ news₁ h₁ tk₁ (fun f s' => (f = .next ∧ ∃ k', k' < k ∧ ∃ h₁ tk₁, s' = ⟨h₁, g, d, tk₁, o⟩ ∧ Turned w p loose mean mg mb n A₀ base outer H₀ L (J k') h₁) ∨ (f = .brk ∧ Q .next s') ∨ ∃ v, f = .ret v ∧ Q (.ret v) s') R₁ F₁ N₁ J₁
    (fun h' tk' k' H' m' news' R' F' N' J' hl => .inl ⟨rfl, k', hl, h', tk', rfl, H', m', news', R', F', N', J'⟩) (fun v s' x => .inr (.inr ⟨v, rfl, x⟩)) (fun s' x => .inr (.inl ⟨rfl, x⟩))) (fun b s₂ hb => ?_) fun _ _ x => x.elim
  cases b with
  | false =>
    simp only [Bool.false_eq_true, if_false] at hb ⊢
    exact wpAny_execs_nil hb
  | true =>
    simp only [if_true] at hb ⊢
    refine wpAny_mono hb (fun f s₃ hf => ?_) fun _ _ x => x.elim
    rcases hf with ⟨rfl, k', hk, x⟩ | ⟨rfl, x⟩ | ⟨v, rfl, x⟩
    · exact ⟨k', hk, x⟩
    · exact x
    · exact x

/-- a new exception of a builtin's, raised in the body's own frame, is caught there -/
theorem caught_own {cls T : String} {s' : Shared} {e a : Addr} {name x : Str} {scope : Scope} {cd : Value} {Q : Flow → Shared → Prop} {b₀ : Stmt} {suite : List Stmt} {pos np : Pos} {rest : List ExceptHandler}
    (R : Room w p loose mean mg mb n A₀ base outer H₀ H) (F : Fr H L h m) (N : News H L h news) (hx : Heap.NewExc h s'.heap e cls)
    (ex : nsIn (hd.heap_1 w.params) mainGlobals x = some none) (hv : bootBuiltins x = some (.type T)) (hn' : x ≠ "__name__")
    (hexc : isSubtype (.type T) (.type "BaseException") = pure true) (hnt : isSubtype (.type ((Manifest.find? T).elim "type" fun y => y.metatype)) (.type "tuple") = pure false) (hsub : isSubtype (.type cls) (.type T) = pure true)
    (k : ∀ h' H', Room w p loose mean mg mb n A₀ base outer H₀ H' → KtsTurn (outer.filterMap (·.frame)) H H' → Fr H' L h' m → News H' L h' news →
      wpAny (model PG w) ((A₀.deeper (envOf name scope L a cd)).mark (some (.ref e))) (execs (b₀ :: suite) (envOf name scope L a cd)) Q No { s' with heap := h' })
    (hk : scope.kind = .function := by rfl) (hxk : (envOf name scope L a cd).kindOf x = some .globalImplicit := by rfl) (hd' : (x == ("__debug__" : Str)) = false := by decide) :
    wpAny (model PG w) (A₀.deeper (envOf name scope L a cd)) (noteFrame (.ref e) (envOf name scope L a cd))
      (fun _ s₂ => wpAny (model PG w) (A₀.deeper (envOf name scope L a cd)) (setFlight (.ref e) none) (fun _ s₃ =>
        wpAny (model PG w) (A₀.deeper (envOf name scope L a cd)) (handleBy (.ref e) (envOf name scope L a cd) (.ExceptHandler (some (.Name x np)) none (b₀ :: suite) pos :: rest)) Q No s₃) No s₂) No s' := by
  have K := R.B
  have K' := K.push (name := name) (a := a) (cd := cd) F hk
  generalize hl : (envOf name scope L a cd :: outer) = l at K'
  have hin : ∀ env ∈ l, ∀ b, env.frame = some b → b ∈ l.filterMap (·.frame) := fun env he b hb => List.mem_filterMap.mpr ⟨env, he, hb⟩
  have hfr := Around.frames_deeper (env := envOf name scope L a cd) K.stack
  rw [hl] at hfr
  obtain ⟨ob, tp, he, hcls, hdt⟩ := hx.there
  have hen : (hideAll h (l.filterMap (·.frame))).get? e = none := by
    cases q : (hideAll h (l.filterMap (·.frame))).get? e with
    | none => rfl
    | some o => have := of_hideAll _ q; (first | exact (ne_get this (hx.new) rfl).elim | exact (ne_get (hx.new) this rfl).elim | (rw [hx.new] at this; cases this))
  have hBG : ∀ b o, h.get? b = some o → b ∉ (envOf name scope L a cd :: outer).filterMap (·.frame) → (hideAll h (l.filterMap (·.frame))).get? b = some o := fun b o q nm => hideAll_get _ q (hl ▸ nm)
  have hup : h.UpToSlots s'.heap := Heap.UpToSlots.of_keeps hx.keeps
  have noted : ∀ (Q' : Unit → Shared → Prop), (∀ h₄, Heap.HeldW (hideAll h (l.filterMap (·.frame))) l e (.type cls) tp L h₄ → s'.heap.UpToSlots h₄ → Q' () { s' with heap := h₄ }) →
      wpAny (model PG w) (A₀.deeper (envOf name scope L a cd)) (noteFrame (.ref e) (envOf name scope L a cd)) Q' No s' := fun Q' hQ => by
    have hz : (envOf name scope L a cd).frame = some L := rfl
    unfold noteFrame
    simp only [hz]
    refine wpAny_bind (wpAny_field (x := Value.none) he hdt rfl ?_)
    rw [if_neg (show ¬ ((Value.none != Value.none) = true) by decide)]
    subst hl
    refine wpAny_entryW (base := hideAll h ((envOf name scope L a cd :: outer).filterMap (·.frame))) (a0 := tp) hfr ((funFrames_hide K'.frames hin).of_keeps fun b o hb _ => ⟨o, hx.keeps b o hb, rfl⟩) rfl he (fun b o hb => hx.keeps b o (of_hideAll _ hb)) hen hdt (by simp) rfl fun h₄ hN => ?_
    obtain ⟨k1, k2, k3, k4⟩ := hN
    rw [hcls] at k3
    exact hQ h₄ ⟨k1, hen, k2, k3⟩ k4
  have hL : (hideAll h (l.filterMap (·.frame))).get? L = none := hideAll_none _ (List.mem_filterMap.mpr ⟨envOf name scope L a cd, hl ▸ .head _, rfl⟩)
  have hlN : ∀ q ∈ news, (hideAll h (l.filterMap (·.frame))).get? q.1 = some q.2 ∧ H.get? q.1 = none := fun q hq => by
    refine ⟨hideAll_get _ (N q hq).1 fun hm => ?_, (N q hq).2.2⟩
    subst hl
    rcases kts_mem hm with z | z
    · exact (N q hq).2.1 z
    · obtain ⟨_, o, ho, _⟩ := K.frames.mem z
      (first | exact (ne_get ho ((N q hq).2.2) rfl).elim | exact (ne_get ((N q hq).2.2) ho rfl).elim | (rw [(N q hq).2.2] at ho; cases ho))
  refine noted _ fun h₄ hheld₄ hsm₄ => ?_
  refine wpAny_landsW hheld₄ fun h₅ hheld hsm₅' => ?_
  have hsm₅ := hup.trans (hsm₄.trans hsm₅')
  obtain ⟨g₅, T₅, F₅, K₅⟩ := kts_ground K F hBG hheld.1 hsm₅
  have X₅ : (hd.heap_1 w.params).In g₅ := R.XB.keeps K₅.stays
  have P₅ : TopRead p loose mg mb g₅ := topRead_of (R.TB.keeps K₅.stays)
  obtain ⟨ob', hob, hobc⟩ := hheld.there
  refine wpAny_handleBy_builtin (X := cls) (T := T) (b := true) hexc hnt hsub (name_B F₅ X₅ P₅ ex hv hn' ⟨rfl, ⟨ob', hob, hobc⟩, ?_⟩ hk hxk hd')
  refine lands_againW hheld fun h₆ hfl₆ hsm₆ => ?_
  obtain ⟨g₆, T₆, F₆, K₆⟩ := kts_ground K F hBG hfl₆.1 (hsm₅.trans hsm₆)
  have Nl : News g₆ L h₆ news := fun q hq => ⟨hfl₆.1 _ _ (hlN q hq).1, (fun z => by have := (hlN q hq).1; (first | exact (ne_get this (hL) (z)).elim | exact (ne_get (hL) this (z)).elim | (rw [z, hL] at this; cases this))), T₆.none_ _ (hlN q hq).2⟩
  exact wpAny_passesOwnAt .never (k h₆ g₆ (R.turn T₆) T₆ F₆ Nl)
end
/-- all objects of a heap but the base's and L's, as a ledger -/
noncomputable def ledgerOf (base : Heap) (L : Addr) (h : Heap) : List (Addr × Obj) := (List.range h.objs.size).filterMap fun b => match h.get? b with
  | some o => if b = L ∨ (base.get? b).isSome then none else some (b, o)
  | none => none
theorem mem_ledgerOf {base h : Heap} {L b : Addr} {o : Obj} : (b, o) ∈ ledgerOf base L h ↔ h.get? b = some o ∧ b ≠ L ∧ base.get? b = none := by
  unfold ledgerOf
  rw [List.mem_filterMap]
  constructor
  · rintro ⟨c, _, e⟩
    split at e
    · rename_i o' ho
      split at e
      · cases e
      · rename_i hn
        cases e
        rw [not_or] at hn
        exact ⟨ho, hn.1, by simpa using hn.2⟩
    · cases e
  · rintro ⟨e, hn, hb⟩
    refine ⟨b, List.mem_range.mpr (Heap.lt_size e), ?_⟩
    rw [e]
    dsimp only
    rw [if_neg (by rw [hb]; simp [hn])]
theorem news_ledgerOf {base h : Heap} {L : Addr} : News base L h (ledgerOf base L h) := fun q hq => mem_ledgerOf.mp (show (q.1, q.2) ∈ _ from hq)
end Mine

end
section
open PySem PySem.W PyProof.Rows PySem.Spec PySem.Calls
namespace Mine
theorem News.sub {H h : Heap} {L : Addr} {news news' : List (Addr × Obj)} (N : News H L h news) (hs : ∀ q ∈ news', q ∈ news) : News H L h news' := fun q hq => N q (hs q hq)
section
variable {w : World} {A : Around} {env : Env} {h : Heap} {g : Array GenState} {d : Drawn} {tk : Nat} {o : OsState}
/-- a for over an iterator that writes itself alone; the ledger holds the iterator at its head; the base may turn -/
theorem forW {x : Str} {px : Pos} {body : List Stmt} {Q : Flow → Shared → Prop} {I : Addr} {fp : List Addr} {n : Nat} {P : Nat → Value → Prop} {St : Nat → Heap → Prop} {L : Addr} {oI : Obj}
    (W : Walks (model PG w).prog w A I fp [I] n P St) (BP : Heap → Prop) (J : Nat → Heap → (Str → Option Value) → List (Addr × Obj) → Prop) {H : Heap} {m : Str → Option Value} {news : List (Addr × Obj)}
    (hL : env.locals = L) (hx : env.kindOf x = some .local) (hp : (env.scope.kind == .class || (env.scope.kind == .module && env.locals != env.globals)) = false)
    (hB : BP H) (F : Fr H L h m) (N : News H L h ((I, oI) :: news)) (hn : ∀ q ∈ news, q.1 ≠ I) (hJ : J 0 H m news) (hst : St 0 h)
    (hSI : ∀ i h, St i h → ∃ o, h.get? I = some o) (stay : ∀ i h h' H m news, St i h → (∀ o, h.get? I = some o → h'.get? I = some o) → BP H → Fr H L h' m → News H L h' news → J i H m news → St i h')
    (turn : ∀ i H o₁ v m₁ news₁ h₁ tk₁ (Qt : Flow → Shared → Prop), i < n → P i v → (∃ h₂, St (i + 1) h₂ ∧ h₂.get? I = some o₁) → BP H → Fr H L h₁ (fun y => if y = x then some v else m₁ y) → News H L h₁ ((I, o₁) :: news₁) → (∀ q ∈ news₁, q.1 ≠ I) → J i H m₁ news₁ →
      (∀ h' tk' H' m' news', BP H' → Fr H' L h' m' → News H' L h' ((I, o₁) :: news') → (∀ q ∈ news', q.1 ≠ I) → J (i + 1) H' m' news' → Qt .next ⟨h', g, d, tk', o⟩) →
      (∀ v s', Q (.ret v) s' → Qt (.ret v) s') → (∀ s', Q .next s' → Qt .brk s') →
      wpAny (model PG w) A (execs body env) Qt No ⟨h₁, g, d, tk₁, o⟩)
    (done : ∀ h' tk' H' m' news', BP H' → Fr H' L h' m' → News H' L h' news' → J n H' m' news' → Q .next ⟨h', g, d, tk', o⟩) :
    codeAny (model PG w) A (.forLoop (.Name x px) (.ref I) body [] env) (fun r s' => match r with | .ok f => Q f s' | .error e => cameBackBy (model PG w) A env No e s') ⟨h, g, d, tk, o⟩ := by
  subst hL
  refine codeAny_forLoop (fun k s' => ∃ i H m news oI h₁ tk₁, s' = ⟨h₁, g, d, tk₁, o⟩ ∧ k + i = n ∧ St i h₁ ∧ BP H ∧ Fr H env.locals h₁ m ∧ News H env.locals h₁ ((I, oI) :: news) ∧ (∀ q ∈ news, q.1 ≠ I) ∧ J i H m news) ?_ n ⟨0, H, m, news, oI, h, tk, rfl, rfl, hst, hB, F, N, hn, hJ⟩
  rintro k s' ⟨i, H, m, news, oI, h₁, tk₁, rfl, hki, hst, hB, F, N, hn, hJ⟩
  have hI := N _ (.head _)
  have keep : ∀ h₂, (∀ b o, b ∉ [I] → h₁.get? b = some o → h₂.get? b = some o) → Fr H env.locals h₂ m ∧ News H env.locals h₂ news := fun h₂ hk =>
    ⟨⟨F.ns.at' fun o e => hk _ o (by simpa using hI.2.1.symm) e, fun b o e => hk b o (fun z => by rw [List.mem_singleton.mp z] at e; exact absurd (hI.2.2.symm.trans e) (by simp)) (F.keep b o e), F.above⟩,
      fun q hq => ⟨hk _ _ (by simpa using hn q hq) (N q (.tail _ hq)).1, (N q (.tail _ hq)).2⟩⟩
  by_cases hlt : i < n
  · refine W.item i _ _ _ hlt hst fun v h₂ tk₂ hPv hst₂ hk₂ => ?_
    obtain ⟨F₂, N₂⟩ := keep h₂ hk₂
    obtain ⟨o₂, hI₂⟩ := hSI _ _ hst₂
    refine wpAny_assign_Name (wpAny_storeName_local hx F₂.ns (fun h₃ hn₃ hs₃ => ?_) hp)
    have F₃ : Fr H env.locals h₃ (fun y => if y = x then some v else m y) := F₂.set hn₃ hs₃
    have N₃ : News H env.locals h₃ ((I, o₂) :: news) := fun q hq => by
      rcases List.mem_cons.mp hq with rfl | hq
      · exact ⟨(hs₃.2 _ hI.2.1).trans hI₂, hI.2⟩
      · exact (N₂.set hs₃) q hq
    refine wpAny_mono (turn i H o₂ v m news h₃ _ (fun f s' => (f = .next ∧ ∃ h' tk' H' m' news', s' = ⟨h', g, d, tk', o⟩ ∧ BP H' ∧ Fr H' env.locals h' m' ∧ News H' env.locals h' ((I, o₂) :: news') ∧ (∀ q ∈ news', q.1 ≠ I) ∧ J (i + 1) H' m' news') ∨ (f = .brk ∧ Q .next s') ∨ ∃ v, f = .ret v ∧ Q (.ret v) s') hlt hPv ⟨h₂, hst₂, hI₂⟩ hB F₃ N₃ hn hJ
      (fun h' tk' H' m' news' hB' F' N' hn' hJ' => .inl ⟨rfl, h', tk', H', m', news', rfl, hB', F', N', hn', hJ'⟩) (fun v s' z => .inr (.inr ⟨v, rfl, z⟩)) fun s' z => .inr (.inl ⟨rfl, z⟩)) (fun f s' hf => ?_) fun _ _ z => z.elim
    rcases hf with ⟨rfl, h', tk', H', m', news', rfl, hB', F', N', hn', hJ'⟩ | ⟨rfl, z⟩ | ⟨v, rfl, z⟩
    · have hI' := N' _ (.head _)
      refine ⟨k - 1, by omega, i + 1, H', m', news', o₂, h', tk', rfl, by omega, stay (i + 1) h₂ h' H' m' news' hst₂ (fun o e => ?_) hB' F' (fun q hq => N' q (.tail _ hq)) hJ', hB', F', N', hn', hJ'⟩
      rw [hI₂] at e
      cases e
      exact hI'.1
    · exact z
    · exact z
  · obtain rfl : i = n := by exact (Nat.le_antisymm (Nat.le_trans (Nat.le_add_left _ _) (Nat.le_of_eq hki)) (Nat.le_of_not_lt hlt))
    refine W.done _ _ _ hst fun h₂ tk₂ hk₂ => ?_
    obtain ⟨F₂, N₂⟩ := keep h₂ hk₂
    exact wpAny_execs_nil (done h₂ tk₂ H m news hB F₂ N₂ hJ)

/-- over a range -/
theorem forRange {x : Str} {px : Pos} {body : List Stmt} {Q : Flow → Shared → Prop} {r : Addr} {a b : Int} {t u v : Tok} {n : Nat} {L : Addr} (BP : Heap → Prop) (J : Nat → Heap → (Str → Option Value) → List (Addr × Obj) → Prop) {H : Heap} {m : Str → Option Value} {news : List (Addr × Obj)}
    (hr : IsRange h r a b 1 t u v) (hs : Builtin.Range.small a b 1 = true) (hcount : Builtin.Range.rangeSize a b 1 = (n : Int)) (hh : A.handled = none)
    (hL : env.locals = L) (hx : env.kindOf x = some .local) (hp : (env.scope.kind == .class || (env.scope.kind == .module && env.locals != env.globals)) = false)
    (hB : BP H) (F : Fr H L h m) (N : News H L h news) (hJ : J 0 H m news)
    (turn : ∀ i I H o₁ tv m₁ news₁ h₁ tk₁ (Qt : Flow → Shared → Prop), i < n → BP H → Fr H L h₁ (fun y => if y = x then some (.int (a + i) tv) else m₁ y) → News H L h₁ ((I, o₁) :: news₁) → o₁.cls = .type "range_iterator" → (∀ q ∈ news₁, q.1 ≠ I) → J i H m₁ news₁ →
      (∀ h' tk' H' m' news', BP H' → Fr H' L h' m' → News H' L h' ((I, o₁) :: news') → (∀ q ∈ news', q.1 ≠ I) → J (i + 1) H' m' news' → Qt .next ⟨h', g, d, tk', o⟩) →
      (∀ v s', Q (.ret v) s' → Qt (.ret v) s') → (∀ s', Q .next s' → Qt .brk s') →
      wpAny (model PG w) A (execs body env) Qt No ⟨h₁, g, d, tk₁, o⟩)
    (done : ∀ h' tk' H' m' news', BP H' → Fr H' L h' m' → News H' L h' news' → J n H' m' news' → Q .next ⟨h', g, d, tk', o⟩) :
    wpAny (model PG w) A (pyIter (.ref r)) (fun it s => codeAny (model PG w) A (.forLoop (.Name x px) it body [] env) (fun r s' => match r with | .ok f => Q f s' | .error e => cameBackBy (model PG w) A env No e s') s) No ⟨h, g, d, tk, o⟩ := by
  refine it_range F N hr hs hcount fun I h' F' N' st fr it hsz off => ?_
  have cls : ∀ i h, IsRangeIter h I (a + ((i : Nat) : Int) * 1) ((n : Int) - ((i : Nat) : Int)) 1 → ∃ oI : Obj, h.get? I = some oI ∧ oI.cls = .type "range_iterator" := fun i h e => ⟨_, e, rfl⟩
  obtain ⟨oI, e1, _⟩ := cls 0 _ it
  refine forW (Walks.range hh I a 1 n) BP J (oI := oI) hL hx hp hB F' (fun q hq => ?_) (fun q hq => off.2.2 q hq) hJ it (fun i h e => let ⟨o, e, _⟩ := cls i h e; ⟨o, e⟩) (fun i h h' H m news e k _ _ _ _ => k _ e) ?_ done
  · rcases List.mem_cons.mp hq with rfl | hq
    · exact ⟨e1, off.2.1.symm, off.1⟩
    · exact N' q hq
  · rintro i H o₁ v m₁ news₁ h₁ tk₁ Qt hi ⟨tv, rfl⟩ ⟨h₂, s₂, g₂⟩ hB₁ F₁ N₁ hn₁ hJ₁ hQ h1 h2
    rw [Int.mul_one] at F₁
    obtain ⟨_, g₃, c₃⟩ := cls _ _ s₂
    rw [g₂] at g₃
    cases g₃
    exact turn i I H o₁ tv m₁ news₁ h₁ tk₁ Qt hi hB₁ F₁ N₁ c₃ hn₁ hJ₁ hQ h1 h2

/-- over a list that stands -/
theorem forList {x : Str} {px : Pos} {body : List Stmt} {Q : Flow → Shared → Prop} {l : Addr} {vs : List Value} {L : Addr} (BP : Heap → Prop) (J : Nat → Heap → (Str → Option Value) → List (Addr × Obj) → Prop) {H : Heap} {m : Str → Option Value} {news : List (Addr × Obj)}
    (hl : h.IsList l vs.toArray) (hstand : ∀ i H h' m news, BP H → Fr H L h' m → News H L h' news → J i H m news → h'.IsList l vs.toArray) (hh : A.handled = none)
    (hL : env.locals = L) (hx : env.kindOf x = some .local) (hp : (env.scope.kind == .class || (env.scope.kind == .module && env.locals != env.globals)) = false)
    (hB : BP H) (F : Fr H L h m) (N : News H L h news) (hJ : J 0 H m news)
    (turn : ∀ i I H o₁ v m₁ news₁ h₁ tk₁ (Qt : Flow → Shared → Prop), vs[i]? = some v → BP H → Fr H L h₁ (fun y => if y = x then some v else m₁ y) → News H L h₁ ((I, o₁) :: news₁) → o₁.cls = .type "list_iterator" → (∀ q ∈ news₁, q.1 ≠ I) → J i H m₁ news₁ →
      (∀ h' tk' H' m' news', BP H' → Fr H' L h' m' → News H' L h' ((I, o₁) :: news') → (∀ q ∈ news', q.1 ≠ I) → J (i + 1) H' m' news' → Qt .next ⟨h', g, d, tk', o⟩) →
      (∀ v s', Q (.ret v) s' → Qt (.ret v) s') → (∀ s', Q .next s' → Qt .brk s') →
      wpAny (model PG w) A (execs body env) Qt No ⟨h₁, g, d, tk₁, o⟩)
    (done : ∀ h' tk' H' m' news', BP H' → Fr H' L h' m' → News H' L h' news' → J vs.length H' m' news' → Q .next ⟨h', g, d, tk', o⟩) :
    wpAny (model PG w) A (pyIter (.ref l)) (fun it s => codeAny (model PG w) A (.forLoop (.Name x px) it body [] env) (fun r s' => match r with | .ok f => Q f s' | .error e => cameBackBy (model PG w) A env No e s') s) No ⟨h, g, d, tk, o⟩ := by
  refine it_list F N hl fun I h' F' N' st fr hne it hsz off => ?_
  have cls : ∀ i h, Heap.IsListIter h I l i → ∃ oI : Obj, h.get? I = some oI ∧ oI.cls = .type "list_iterator" := fun i h ⟨o, e, c, _⟩ => ⟨o, e, c⟩
  obtain ⟨oI, e1, _⟩ := cls 0 _ it.1
  refine forW (Walks.list hh I l hne vs.toArray) BP J (oI := oI) hL hx hp hB F' (fun q hq => ?_) (fun q hq => off.2.2 q hq) hJ it (fun i h e => let ⟨o, e, _⟩ := cls i h e.1; ⟨o, e⟩) (fun i h h' H m news e k hB F N hJ => ⟨e.1.at k, hstand i H h' m news hB F N hJ⟩) ?_ (by simpa using done)
  · rcases List.mem_cons.mp hq with rfl | hq
    · exact ⟨e1, off.2.1.symm, off.1⟩
    · exact N' q hq
  · rintro i H o₁ v m₁ news₁ h₁ tk₁ Qt hi hv ⟨h₂, s₂, g₂⟩ hB₁ F₁ N₁ hn₁ hJ₁ hQ h1 h2
    obtain ⟨_, g₃, c₃⟩ := cls _ _ s₂.1
    rw [g₂] at g₃
    cases g₃
    exact turn i I H o₁ v m₁ news₁ h₁ tk₁ Qt (by simpa using hv) hB₁ F₁ N₁ c₃ hn₁ hJ₁ hQ h1 h2
end
end Mine

end
section
open PySem PySem.W PyProof.Rows PySem.Spec PySem.Calls
namespace Mine

noncomputable def chainN (up : List Int) : Nat → Int → List Int
  | 0, _ => []
  | n + 1, p => if p = 0 then [] else chainN up n (up.getD p.toNat 0) ++ [p]
noncomputable def chain (up : List Int) (p : Int) : List Int := chainN up p.toNat p

theorem chainN_enough (up : List Int) (hup : ∀ k : Nat, 0 < k → k < up.length → 0 ≤ up.getD k 0 ∧ up.getD k 0 < k) : ∀ (n m : Nat) (p : Int), 0 ≤ p → p < up.length → p ≤ n → p ≤ m → chainN up n p = chainN up m p := by
  intro n
  induction n with
  | zero =>
    intro m p h0 _ h1 _
    have : p = 0 := by omega
    subst this
    cases m <;> simp [chainN]
  | succ n ih =>
    intro m p h0 hl h1 h2
    by_cases hp : p = 0
    · subst hp; cases m <;> simp [chainN]
    · cases m with
      | zero => omega
      | succ m =>
        have := hup p.toNat (by omega) (by exact (Mine.toNat_lt_len h0 hl))
        simp only [chainN, hp, if_false]
        rw [ih m _ this.1 (by omega) (by omega) (by omega)]
theorem chainN_length (up : List Int) : ∀ (n : Nat) (p : Int), (chainN up n p).length ≤ n := by
  intro n
  induction n with
  | zero => intro p; simp [chainN]
  | succ n ih =>
    intro p
    simp only [chainN]
    split
    · simp
    · simp only [List.length_append, List.length_cons, List.length_nil]; have := ih (up.getD p.toNat 0); exact (Nat.succ_le_succ this)
noncomputable def UpOk (up : List Int) : Prop := ∀ k : Nat, 0 < k → k < up.length → 0 ≤ up.getD k 0 ∧ up.getD k 0 < k

theorem chain_zero (up : List Int) : chain up 0 = [] := rfl
theorem chain_step {up : List Int} (hup : UpOk up) {p : Int} (h0 : 0 < p) (h1 : p < up.length) : chain up p = chain up (up.getD p.toNat 0) ++ [p] := by
  obtain ⟨k, rfl⟩ : ∃ k : Nat, p = ((k + 1 : Nat) : Int) := ⟨(p - 1).toNat, by omega⟩
  have := hup (k + 1) (by exact (Nat.succ_pos _)) (by exact (Int.ofNat_lt.mp h1))
  unfold chain
  have e : ((k + 1 : Nat) : Int).toNat = k + 1 := by exact rfl
  rw [e]
  have hne : ¬ ((k + 1 : Nat) : Int) = 0 := by exact (Int.ne_of_gt h0)
  simp only [chainN, hne, if_false, e]
  rw [chainN_enough up hup k (up.getD (k + 1) 0).toNat _ this.1 (by exact (Int.lt_of_lt_of_le this.2 (Int.le_of_lt h1))) (by omega) (by omega)]
theorem chain_length {up : List Int} {p : Int} : (chain up p).length ≤ p.toNat := chainN_length up _ p

noncomputable def AtInts (h : Heap) (a : Addr) (ns : List Int) : Prop := ∃ vs n, h.get? a = some (W.listOf vs.toArray n) ∧ IntsAre vs ns

section
variable {w : World} {p : Program} {loose : List Str} {mean : ExcName → Option Value} {mg mb : Str → Option Value}
inductive ChainJ (up : List Int) (place : Int) (b : Addr) (n : Nat) (m : Str → Option Value) (news : List (Addr × Obj)) : Prop
  | mk (q : Int) (t : Tok) (r : Addr) (vs : List Value) (row : List Int) (k : Nat) (e1 : m "place" = some (.int q t)) (e2 : m "above" = some (.ref b)) (e3 : m "row" = some (.ref r)) (e4 : news = [(r, W.listOf vs.toArray k)]) (h0 : 0 ≤ q) (h1 : q < up.length) (hn : n = q.toNat) (hi : IntsAre vs row) (hc : chain up q ++ row = chain up place)
set_option maxHeartbeats 1000000 in
theorem chain_tells {n : Nat} (up : List Int) (hup : UpOk up) (place : Int) (t : Tok) (b : Addr) (h0 : 0 ≤ place) (h1 : place < up.length) (hlen : up.length ≤ 1000) :
    Tells w p loose mean mg mb (n + 1) 183 [.int place t, .ref b] (fun h => AtInts h b up) (fun h h' v => ∃ r, v = .ref r ∧ h.get? r = none ∧ AtInts h' r (chain up place)) := by
  rintro A base ⟨H, g, d, tk, o⟩ R S hpre hR
  have X := S.X
  have T := S.T
  refine' enter [("place", .int place t), ("above", .ref b)] S (fun _ _ e => e) (Nat.le_refl _) ?k6 ?k7 ?kb ?kl ?c1 ?c2 ?c3 ?c4 ?_
  case k6 => k_is
  case k7 => k_is
  case kb => exact rfl
  case kl => exact rfl
  case c1 => exact rfl
  case c2 => exact rfl
  case c3 => exact rfl
  case c4 => exact rfl
  intro L dp un fr gd h₁ tk₁ Q I _ _ F hQ _
  have N : News H L h₁ [] := News.nil
  clear S
  iterate 6 (first | walk1 | (dsimp only; walk1))
  dsimp only
  rename Fr _ _ _ _ => F1
  rename News _ _ _ _ => N1
  refine wpAny_execs_cons ?_
  refine whileR (ChainJ up place b) F1 N1 ⟨_, _, _, [], _, _, rfl, rfl, rfl, rfl, h0, h1, rfl, .nil, List.append_nil _⟩ ?_
  rintro n m₁ _ h₂ tk₂ Qt hT _ _ F2 N2 ⟨q, t', r, vs, row, k, e1, e2, e3, rfl, q0, q1, rfl, hI, hc⟩
  replace F2 := Fr.norm F2 [("place", .int q t'), ("above", .ref b), ("row", .ref r)] (by refine all_cons ?_ (all_cons ?_ (all_cons ?_ all_nil)) <;> assumption)
  iterate 3 (first | walk1 | (dsimp only; walk1))
  by_cases hq : q = 0
  · rw [if_neg (by simp [hq])]
    dsimp only
    iterate 3 (first | walk1 | (dsimp only; walk1))
    refine hQ _ _ (hR _ _ _ F2.keep ⟨r, rfl, (N2 _ (.head _)).2.2, vs, k, (N2 _ (.head _)).1, ?_⟩)
    rw [← hc, hq, chain_zero]
    exact hI
  · rw [if_pos (by simpa using hq)]
    have hl2 : vs.length ≤ 1000 := by
      have e := congrArg List.length hc
      rw [List.length_append] at e
      have := chain_length (up := up) (p := place)
      rw [hI.length]; omega
    iterate 9 (first | walk1 | (dsimp only; walk1))
    rename Fr _ _ _ _ => F3
    rename News _ _ _ _ => N3
    refine add_lists F3 N3 (News.lst N3 (.head _)) (News.lst N3 (.tail _ (.head _))) (fun h4 F4 N4 => ?_) (by rw [sizeLine_eq]; simp only [List.length_cons, List.length_nil]; omega)
    dsimp only
    repeat (first | walk1 | (dsimp only; walk1))
    rename Fr _ _ _ _ => F5
    rename News _ _ _ _ => N5
    obtain ⟨ups, ku, hu1, hu2⟩ := hpre
    obtain ⟨tq, hg⟩ := ints_at hu2 (i := q.toNat) (by exact (Mine.toNat_lt_len q0 q1))
    refine item_listL (l := ups) ⟨_, F5.keep _ _ hu1, rfl, _, rfl⟩ q0 (by exact (Mine.int63 q1 (Nat.le_trans hlen (by decide)))) hg ?_
    repeat (first | walk1 | (dsimp only; walk1))
    rename Fr _ _ _ _ => F6
    rename News _ _ _ _ => N6
    have hup' := hup q.toNat (by omega) (by exact (Mine.toNat_lt_len q0 q1))
    refine hT _ _ _ _ (up.getD q.toNat 0).toNat F6 (News.only N6 (.head _)) ⟨_, _, _, _, q :: row, _, rfl, rfl, rfl, rfl, hup'.1, by omega, rfl, .cons _ _ hI, ?_⟩ (by exact (Mine.toNat_lt_len hup'.1 hup'.2))
    rw [← hc, chain_step hup (by omega) q1, List.append_assoc]
    rfl
end
end Mine

end
section
open PySem PySem.W PyProof.Rows PySem.Spec PySem.Calls
namespace Mine
/-- what is left of a list comprehension once the source's iterator stands; RR: what its end must show -/
noncomputable def CompRestR (w : World) (A : Around) (env : Env) (elt : Expr) (gen : Comprehension) (rest : List Comprehension) (scope : Scope) (pos : Pos) (cl : List (Str × Addr)) (RR : Value → Addr → Result → Shared → Prop) (it : Value) (s : Shared) : Prop :=
  wpAny (model PG w) A (newList []) (fun acc s₃ => wpAny (model PG w) A (newFunctionEnv scope env.globals cl [] env.qual none .none (some env)) (fun cenv s₄ =>
    codeAny (model PG w) A (.compStart (.ListComp elt (gen :: rest) scope pos) 0 it acc { cenv with scope := relabel scope env }) (RR acc cenv.locals) s₄) No s₃) No s
/-- all stands but C's object and the frames' slots -/
noncomputable def KeepC (fs : List Addr) (C : Addr) (h h' : Heap) : Prop := (∀ b o, b ≠ C → b ∉ fs → h.get? b = some o → h'.get? b = some o) ∧ (∀ b o, b ≠ C → b ∈ fs → h.get? b = some o → ∃ sl, h'.get? b = some { o with slots := sl }) ∧ ∃ m, h'.Ns C m
noncomputable def HeldX (fs : List Addr) (I : Addr) (h h' : Heap) : Prop := (∀ b o, b ≠ I → b ∉ fs → h.get? b = some o → h'.get? b = some o) ∧ ∀ b o, b ∈ fs → h.get? b = some o → ∃ sl, h'.get? b = some { o with slots := sl }
theorem keepC_of {H h₁ h' : Heap} {C : Addr} {mc mc' : Str → Option Value} {nw : List (Addr × Obj)} (F : Fr H C h₁ mc) (F' : Fr H C h' mc') (N' : News H C h' nw) (hs : ∀ q ∈ ledgerOf H C h₁, q ∈ nw) : KeepC [] C h₁ h' := by
  refine ⟨fun b ob hb _ e => ?_, (fun _ _ _ m => nomatch m), mc', F'.ns⟩
  cases q : H.get? b with
  | some o' =>
    have := F.keep _ _ q
    rw [e] at this
    cases this
    exact F'.keep _ _ q
  | none => exact (N' _ (hs _ (mem_ledgerOf.mpr ⟨e, hb, q⟩))).1
section
variable {w : World} {A : Around} {env : Env} {h : Heap} {g : Array GenState} {d : Drawn} {tk : Nat} {o : OsState}
/-- one generator over an iterator that writes itself alone; a turn may change the slots of the frames fs -/
theorem comp_loopX {fs : List Addr} {elt iter : Expr} {ifs : List Expr} {x : Str} {px : Pos} {scope : Scope} {pos : Pos} {cl : List (Str × Addr)} {RR : Value → Addr → Result → Shared → Prop} {I : Addr} {fp : List Addr} {n : Nat} {P : Nat → Value → Prop} {St : Nat → Heap → Prop}
    (W : Walks (model PG w).prog w A I fp [I] n P St) (hfs : ∀ b ∈ fs, ∃ o, h.get? b = some o) (hfpfs : ∀ b ∈ fp, b ∉ fs) (hst : St 0 h) (hfp : ∀ b ∈ fp, b < h.objs.size) (hsz : n ≤ 1000)
    (hcell : (scope.names.all fun y => y.2 != .cell) = true) (hkind : scope.kind = .function) (hx : scope.names.lookup x = some .local)
    (Inv : Addr → Addr → Nat → List Value → Heap → Array GenState → Prop)
    (start : ∀ D C, Inv D C 0 [] h g ) (stab : ∀ D C i ys h₁ h₂ g₁, Inv D C i ys h₁ g₁ → (∀ b o, b ≠ D → b ≠ C → b ≠ I → h₁.get? b = some o → h₂.get? b = some o) → Inv D C i ys h₂ g₁)
    (turn : ∀ D C i v ys h₁ g₁ tk₁ mc (Qe : Value → Shared → Prop) (Qs : Shared → Prop), h.get? D = none → h.get? C = none → D ≠ C → i < n → P i v → Inv D C i ys h₁ g₁ → mc x = some v → h₁.Ns C mc → h.objs.size ≤ C → HeldX fs I h h₁ → St (i + 1) h₁ → h₁.PlainList D ys.toArray →
      (∀ y h₂ g₂ tk₂, KeepC fs C h₁ h₂ → Inv D C (i + 1) (ys ++ [y]) h₂ g₂ → Qe y ⟨h₂, g₂, d, tk₂, o⟩) → (∀ h₂ g₂ tk₂, KeepC fs C h₁ h₂ → Inv D C (i + 1) ys h₂ g₂ → Qs ⟨h₂, g₂, d, tk₂, o⟩) →
      wpAny (model PG w) A (forIn ifs true fun c r => if r = true then do let ok ← isTrue c (compEnvC scope cl C env) (eval c (compEnvC scope cl C env)); pure (ForInStep.yield ok) else pure (ForInStep.yield r))
        (fun ok s₃ => if ok = true then wpAny (model PG w) A (eval elt (compEnvC scope cl C env)) Qe No s₃ else Qs s₃) No ⟨h₁, g₁, d, tk₁, o⟩)
    (done : ∀ D C h₁ g₁ tk₁ ys mc, h.get? D = none → h.get? C = none → D ≠ C → h.objs.size ≤ C → h₁.Ns C mc → HeldX fs I h h₁ → h₁.PlainList D ys.toArray → ys.length ≤ n → Inv D C n ys h₁ g₁ → RR (.ref D) C (.ok .next) ⟨h₁, g₁, d, tk₁, o⟩) :
    CompRestR w A env elt ⟨.Name x px, iter, ifs, 0⟩ [] scope pos cl RR (.ref I) ⟨h, g, d, tk, o⟩ := by
  unfold CompRestR
  refine wpAny_newObj_type (wpAny_newFunctionEnv (fun y hy => by simpa using List.all_eq_true.mp hcell y hy) (by intro y hy; simp at hy) (fun h₁ hns₁ hsb₁ => ?_) hkind)
  dsimp only at hns₁ hsb₁ ⊢
  generalize hH2 : h.push { cls := .type "list", dict := none, data := .seq ([] : List Value).toArray } = H2 at hns₁ hsb₁ ⊢
  have hC : H2.objs.size = h.objs.size + 1 := by rw [← hH2, Heap.size_push]
  have hDC : h.objs.size ≠ H2.objs.size := by rw [hC]; exact Nat.ne_of_lt (Nat.lt_succ_self _)
  have hDf : h.objs.size ∉ fp := fun hm => Nat.lt_irrefl _ (hfp _ hm)
  have hCf : H2.objs.size ∉ fp := fun hm => by have := hfp _ hm; rw [hC] at this; exact Nat.lt_irrefl _ (Nat.lt_of_succ_lt this)
  have hIf : I ∈ fp := W.sub I (.head _)
  have fresh : ∀ a, h.objs.size ≤ a → h.get? a = none := fun a ha => by
    cases e : h.get? a with
    | none => rfl
    | some o' => exact absurd (Heap.lt_size e) (Nat.not_lt.mpr ha)
  have hD0 := fresh _ (Nat.le_refl _)
  have hC0 : h.get? H2.objs.size = none := fresh _ (by rw [hC]; exact Nat.le_succ _)
  have old : ∀ b o, h.get? b = some o → h₁.get? b = some o := fun b o e => by
    have hb := Heap.lt_size e
    exact hsb₁.extBut b o (by rw [hC]; exact Nat.ne_of_lt (Nat.lt_succ_of_lt hb)) (Heap.get?_push_of_some _ (hH2 ▸ Heap.get?_push_of_some _ e))
  have hacc : h₁.PlainList h.objs.size #[] := ⟨_, hsb₁.extBut _ _ hDC (Heap.get?_push_of_some _ (hH2 ▸ Heap.get?_push_size _ rfl))⟩
  have hst₁ : St 0 h₁ := W.frame _ _ _ hst fun b _ o e => old b o e
  have loop : ∀ s₃ : Shared, s₃ = ⟨h₁, g, d, tk + ([] : List (Str × Value)).length, o⟩ →
      codeAny (model PG w) A (.compLoop (.ListComp elt [⟨.Name x px, iter, ifs, 0⟩] scope pos) 0 (.ref I) (.ref h.objs.size) (compEnvC scope cl H2.objs.size env)) (RR (.ref h.objs.size) H2.objs.size) s₃ := by
    rintro s₃ rfl
    have hCge : h.objs.size ≤ H2.objs.size := by rw [hC]; exact Nat.le_succ _
    obtain ⟨D, hDe⟩ : ∃ D, D = h.objs.size := ⟨_, rfl⟩
    rw [← hDe] at hDC hDf hD0 hacc ⊢
    generalize H2.objs.size = C at hns₁ hDC hCf hC0 hCge ⊢
    refine codeAny_compLoop_tests (fun k s' => ∃ h' g' tk' m' ys i, s' = ⟨h', g', d, tk', o⟩ ∧ St i h' ∧ h'.PlainList D ys.toArray ∧ h'.Ns C m' ∧ Inv D C i ys h' g' ∧ ys.length ≤ i ∧ i ≤ n ∧ k = n - i ∧
      HeldX fs I h h') ?_ n ⟨h₁, g, _, _, [], 0, rfl, hst₁, hacc, hns₁, stab D C _ _ _ _ _ (start D C) (fun b o _ _ _ e => old b o e), Nat.le_refl _, Nat.zero_le _, rfl, ⟨fun b o _ _ e => old b o e, fun b o _ e => ⟨o.slots, old b o e⟩⟩⟩
    rintro k s' ⟨h', g', tk', m', ys, i, rfl, hst', hpl, hn', hI, hys, hin, rfl, hold⟩
    have hDI : D ≠ I := fun e => hDf (e ▸ hIf)
    have hCI : C ≠ I := fun e => hCf (e ▸ hIf)
    by_cases hlt : i < n
    · refine W.item i _ _ _ hlt hst' fun v h₂ tk₂ hPv hst₂ hk₂ => ?_
      refine wpAny_assign_Name (wpAny_storeName_local (lookup_relabel_local hx) (hn'.at' fun o e => hk₂ _ o (by simpa using hCI) e) (fun h₃ hn₃ hs₃ => ?_) (by simp [compEnvC, relabel, hkind]))
      have up : ∀ b o, b ≠ C → b ≠ I → h'.get? b = some o → h₃.get? b = some o := fun b o hbC hbI e => hs₃.extBut b o hbC (hk₂ b o (by simpa using hbI) e)
      have nC : ∀ b o, h.get? b = some o → b ≠ C := fun b o e q => by (first | exact (ne_get e (hC0) (q)).elim | exact (ne_get (hC0) e (q)).elim | (rw [q, hC0] at e; cases e))
      have nD : D ∉ fs := fun hm => by obtain ⟨o, e⟩ := hfs _ hm; (first | exact (ne_get e (hD0) rfl).elim | exact (ne_get (hD0) e rfl).elim | (rw [hD0] at e; cases e))
      have nC' : C ∉ fs := fun hm => by obtain ⟨o, e⟩ := hfs _ hm; (first | exact (ne_get e (hC0) rfl).elim | exact (ne_get (hC0) e rfl).elim | (rw [hC0] at e; cases e))
      have hold₃ : HeldX fs I h h₃ := ⟨fun b o hbI hbf e => up b o (nC b o e) hbI (hold.1 b o hbI hbf e), fun b o hb e => by
        obtain ⟨sl, e'⟩ := hold.2 b o hb e
        exact ⟨sl, up b _ (nC b o e) (fun q => hfpfs I hIf (q ▸ hb)) e'⟩⟩
      have hold₄ : ∀ h₄, KeepC fs C h₃ h₄ → HeldX fs I h h₄ := fun h₄ kx => ⟨fun b o hbI hbf e => kx.1 _ _ (nC b o e) hbf (hold₃.1 b o hbI hbf e), fun b o hb e => by
        obtain ⟨sl, e'⟩ := hold₃.2 b o hb e
        obtain ⟨sl', e''⟩ := kx.2.1 _ _ (nC b o e) hb e'
        exact ⟨sl', e''⟩⟩
      have hpl₃ : h₃.PlainList D ys.toArray := hpl.at fun o e => up D o hDC hDI e
      have hst₃ : St (i + 1) h₃ := W.frame _ _ _ hst₂ fun b hb o e => hs₃.extBut b o (fun q => hCf ((show b = C from q) ▸ hb)) e
      refine wpAny_mono (turn D C i v ys h₃ g' _ _
        (fun y s₄ => ∃ h₄ g₄ tk₄, s₄ = ⟨h₄, g₄, d, tk₄, o⟩ ∧ KeepC fs C h₃ h₄ ∧ Inv D C (i + 1) (ys ++ [y]) h₄ g₄) (fun s₄ => ∃ h₄ g₄ tk₄, s₄ = ⟨h₄, g₄, d, tk₄, o⟩ ∧ KeepC fs C h₃ h₄ ∧ Inv D C (i + 1) ys h₄ g₄)
        hD0 hC0 hDC hlt hPv (stab _ _ _ _ _ _ _ hI fun b o _ hbC hbI e => up b o hbC hbI e) (by simp) hn₃ hCge hold₃ hst₃ hpl₃ (fun y h₄ g₄ tk₄ st hi => ⟨_, _, _, rfl, st, hi⟩) fun h₄ g₄ tk₄ st hi => ⟨_, _, _, rfl, st, hi⟩) (fun ok s₄ h4 => ?_) fun _ _ z => z.elim
      cases ok with
      | false =>
        simp only [Bool.false_eq_true, if_false] at h4 ⊢
        obtain ⟨h₄, g₄, tk₄, rfl, st, hi⟩ := h4
        exact ⟨n - (i + 1), by omega, h₄, g₄, tk₄, _, ys, i + 1, rfl, W.frame _ _ _ hst₃ fun b hb o e => st.1 b o (fun q => hCf (q ▸ hb)) (hfpfs b hb) e, hpl₃.at fun o e => st.1 _ o hDC nD e, st.2.2.choose_spec, hi, by exact (Nat.le_succ_of_le hys), hlt, rfl, hold₄ _ st⟩
      | true =>
        simp only [if_true] at h4 ⊢
        refine wpAny_mono h4 (fun y s₅ h5 => ?_) fun _ _ z => z.elim
        obtain ⟨h₄, g₄, tk₄, rfl, st, hi⟩ := h5
        refine wpAny_list_append_plain (hpl₃.at fun o e => st.1 _ o hDC nD e) (fun h₅ hpl₅ hs₅ => ?_) (by rw [sizeLine_eq]; simp only [List.size_toArray]; omega)
        exact ⟨n - (i + 1), by omega, h₅, g₄, tk₄, _, ys ++ [y], i + 1, rfl, W.frame _ _ _ hst₃ fun b hb o e => hs₅.extBut b o (fun q => hDf (q ▸ hb)) (st.1 b o (fun q => hCf (q ▸ hb)) (hfpfs b hb) e), by simpa using hpl₅, st.2.2.choose_spec.at' fun o e => hs₅.extBut _ o hDC.symm e,
          stab _ _ _ _ _ _ _ hi fun b o hbD _ _ e => hs₅.extBut b o hbD e, by simp only [List.length_append, List.length_cons, List.length_nil]; exact (Nat.succ_le_succ hys), hlt, rfl, ⟨fun b o hb hbf e => hs₅.extBut b o (fun q => by (first | exact (ne_get e (hD0) (q)).elim | exact (ne_get (hD0) e (q)).elim | (rw [q, hD0] at e; cases e))) ((hold₄ _ st).1 b o hb hbf e), fun b o hb e => by
          obtain ⟨sl, e'⟩ := (hold₄ _ st).2 b o hb e
          exact ⟨sl, hs₅.extBut b _ (fun q => nD (q ▸ hb)) e'⟩⟩⟩
    · obtain rfl : i = n := by exact (Nat.le_antisymm hin (Nat.le_of_not_lt hlt))
      refine W.done _ _ _ hst' fun h₂ tk₂ hk₂ => ?_
      have up : ∀ b o, b ≠ I → h'.get? b = some o → h₂.get? b = some o := fun b o hbI e => hk₂ b o (by simpa using hbI) e
      exact done D C h₂ g' _ ys m' hD0 hC0 hDC hCge (hn'.at' fun o e => hk₂ _ o (by simpa using hCI) e) ⟨fun b o hb hbf e => up b o hb (hold.1 b o hb hbf e), fun b o hb e => by
        obtain ⟨sl, e'⟩ := hold.2 b o hb e
        exact ⟨sl, up b _ (fun q => hfpfs I hIf (q ▸ hb)) e'⟩⟩ (hpl.at fun o e => up D o hDI e) hys (stab _ _ _ _ _ _ _ hI fun b o _ _ hbI e => up b o hbI e)
  exact codeAny_compStart_list (loop _ rfl) (W.self 0 _ _ _ hst₁ (loop _ rfl))


theorem comp_openR {elt target iter : Expr} {ifs : List Expr} {rest : List Comprehension} {scope : Scope} {pos : Pos} {cl : List (Str × Addr)} {Q : Value → Shared → Prop} {s : Shared}
    (hclos : closureFor scope env = pure cl) (hkind : scope.kind = .function) (hnames : (scope.names.all fun y => y.2 != .local || decide (scope.names.lookup y.1 = some .local)) = true)
    (h : wpAny (model PG w) A (eval iter env) (fun xv s₁ => wpAny (model PG w) A (pyIter xv) (CompRestR w A env elt ⟨target, iter, ifs, 0⟩ rest scope pos cl (compPost (model PG w) A No none Q)) No s₁) No s)
    (hs : ∀ x, foldedSetIterable iter env x = pure x := by intro _; rfl) : wpAny (model PG w) A (eval (.ListComp elt (⟨target, iter, ifs, 0⟩ :: rest) scope pos) env) Q No s := by
  rw [eval_ListComp]
  refine wpAny_comprehension_free (use := none) rfl hs hclos hkind (fun y hy hl => ?_) h
  have := List.all_eq_true.mp hnames y hy
  rw [hl] at this
  simpa using this
/-- a comprehension that is bound to a name at once -/
theorem comp_assignR {elt target iter : Expr} {ifs : List Expr} {rest : List Comprehension} {scope : Scope} {pos spos py : Pos} {y : Str} {cl : List (Str × Addr)} {Q : Flow → Shared → Prop} {s : Shared}
    (hsw : swapsWith (.ListComp elt (⟨target, iter, ifs, 0⟩ :: rest) scope pos) (some (.Name y py)) spos.line env = pure true)
    (hclos : closureFor scope env = pure cl) (hkind : scope.kind = .function) (hnames : (scope.names.all fun y => y.2 != .local || decide (scope.names.lookup y.1 = some .local)) = true)
    (h : wpAny (model PG w) A (eval iter env) (fun xv s₁ => wpAny (model PG w) A (pyIter xv) (CompRestR w A env elt ⟨target, iter, ifs, 0⟩ rest scope pos cl (compPost (model PG w) A No (some (assign (.Name y py) env)) (fun _ s' => Q .next s'))) No s₁) No s)
    (hs : ∀ x, foldedSetIterable iter env x = pure x := by intro _; rfl) : wpAny (model PG w) A (exec (.Assign [.Name y py] (.ListComp elt (⟨target, iter, ifs, 0⟩ :: rest) scope pos) spos) env) Q No s := by
  rw [exec_Assign_Name_used _ _ _ _ hsw]
  refine wpAny_bind (wpAny_standAt (wpAny_bind ?_))
  show wpAny _ A (do let _ ← comprehension (.ListComp elt (⟨target, iter, ifs, 0⟩ :: rest) scope pos) scope env _ (newList []) false (eval iter env) (some (assign (.Name y py) env))) _ _ s
  refine wpAny_bind (wpAny_mono (wpAny_comprehension_free (use := some (assign (.Name y py) env)) (Q := fun _ s' => Q .next s') rfl hs hclos hkind (fun y hy hl => ?_) h) (fun _ s' hq => wpAny_pure (wpAny_pure hq)) fun _ _ e => e)
  have := List.all_eq_true.mp hnames y hy
  rw [hl] at this
  simpa using this
/-- a comprehension's end, its value handed on -/
theorem post_none {D C : Addr} {h₁ : Heap} {mc : Str → Option Value} {Q : Value → Shared → Prop} (hn : h₁.Ns C mc) (k : ∀ h₂, (∀ b o, b ≠ C → h₁.get? b = some o → h₂.get? b = some o) → Q (.ref D) ⟨h₂, g, d, tk, o⟩) :
    compPost (model PG w) A No none Q (.ref D) C (.ok .next) ⟨h₁, g, d, tk, o⟩ := ⟨mc, hn, fun h₂ hs => k h₂ hs.extBut⟩
/-- a comprehension's end, its value bound -/
theorem post_assign {D C : Addr} {h₁ : Heap} {mc m : Str → Option Value} {y : Str} {py : Pos} {Q : Shared → Prop} (hn : h₁.Ns C mc) (hm : h₁.Ns env.locals m) (hLC : env.locals ≠ C) (hy : env.kindOf y = some .local)
    (hp : (env.scope.kind == .class || (env.scope.kind == .module && env.locals != env.globals)) = false)
    (k : ∀ h₂ tk₂, h₂.Ns env.locals (fun z => if z = y then some (.ref D) else m z) → (∀ b o, b ≠ C → b ≠ env.locals → h₁.get? b = some o → h₂.get? b = some o) → Q ⟨h₂, g, d, tk₂, o⟩) :
    compPost (model PG w) A No (some (assign (.Name y py) env)) (fun _ s' => Q s') (.ref D) C (.ok .next) ⟨h₁, g, d, tk, o⟩ := by
  show wpAny _ A (assign (.Name y py) env (.ref D)) _ _ _
  refine wpAny_assign_Name (wpAny_storeName_local hy hm (fun h₂ hn₂ hs₂ => ?_) hp)
  refine ⟨mc, hn.sameBut hs₂ (Ne.symm hLC), fun h₃ hs₃ => k h₃ _ (hn₂.sameBut hs₃ hLC) fun b o hbC hbL e => hs₃.extBut b o hbC (hs₂.extBut b o hbL e)⟩
end
section
variable {w : World} {p : Program} {loose : List Str} {mean : ExcName → Option Value} {mg mb : Str → Option Value} {n : Nat} {A : Around} {base H : Heap} {outer : List Env}
/-- the frames and the ledger within a turn, under a base that has turned -/
theorem comp_room {H₀ h h₁ : Heap} {L C I : Addr} {m mc : Str → Option Value} {news : List (Addr × Obj)} (Rm : Room w p loose mean mg mb n A base outer H₀ H) (F : Fr H L h m) (N : News H L h news) (off : Off H L news I) (hC : h.get? C = none) (hCs : h.objs.size ≤ C) (ns : h₁.Ns C mc) (hold : HeldX (L :: outer.filterMap (·.frame)) I h h₁) :
    ∃ H', Room w p loose mean mg mb n A base outer H₀ H' ∧ KtsTurn (outer.filterMap (·.frame)) H H' ∧ Fr H' L h₁ m ∧ News H' L h₁ news ∧ Fr H' C h₁ mc ∧ News H' C h₁ news := by
  obtain ⟨oL, es, ep, hL, r⟩ := F.ns
  have F0 : Fr H L (hideAll h [I]) m := ⟨⟨oL, es, ep, hideAll_get _ hL (fun hm => off.2.1 (List.mem_singleton.mp hm)), r⟩, fun b o e => hideAll_get _ (F.keep b o e) (fun hm => by (first | exact (ne_get e (off.1) (List.mem_singleton.mp hm)).elim | exact (ne_get (off.1) e (List.mem_singleton.mp hm)).elim | (rw [List.mem_singleton.mp hm, off.1] at e; cases e))), F.above⟩
  have N0 : News H L (hideAll h [I]) news := fun q hq => ⟨hideAll_get _ (N q hq).1 (fun hm => off.2.2 q hq (List.mem_singleton.mp hm)), (N q hq).2⟩
  have K : KeepX (L :: outer.filterMap (·.frame)) (hideAll h [I]) h₁ := ⟨fun b o e hb => hold.1 b o (fun q => by (first | exact (ne_get e (hideAll_none _ (.head _)) (q)).elim | exact (ne_get (hideAll_none _ (.head _)) e (q)).elim | (rw [q, hideAll_none _ (.head _)] at e; cases e))) hb (of_hideAll _ e), fun b o e hb => hold.2 b o hb (of_hideAll _ e)⟩
  obtain ⟨H', R', T', F', N'⟩ := Rm.after F0 N0 K
  refine ⟨H', R', T', F', N', ⟨ns, F'.keep, Nat.le_trans (Nat.le_trans F'.above (Nat.le_of_lt (Heap.lt_size hL))) hCs⟩, fun q hq => ⟨(N' q hq).1, fun z => ?_, (N' q hq).2.2⟩⟩
  have := (N q hq).1
  (first | exact (ne_get this (hC) (z)).elim | exact (ne_get (hC) this (z)).elim | (rw [z, hC] at this; cases this))
/-- a def that holds cells is entered, with the frames below in sight -/
theorem enterCX {name qual : Str} {params : Arguments} {body : List Stmt} {scope : Scope} {dV kV doc pm cdv ct oc : Value} {an od : Option Addr} {osl : Array (Option Value)} {f : Addr} {args : Args} (binds : List (Str × Value)) {g : Array GenState} {d : Drawn} {tk : Nat} {o : OsState} {R : Result → Shared → Prop}
    {H₁ : Heap} (hout : A.frames = some outer) (S : Std w p loose mean mg mb (n + 1) A base H) (hst : H.StaysIn H₁) (hsz : H.objs.size ≤ H₁.objs.size)
    (ho : (hd.heap_1 w.params).lookup f = some ⟨oc, od, .func (fnOf name qual params body scope dV kV doc pm an cdv ct), osl⟩) (hcd : codeIn (hd.heap_1 w.params) cdv qual = true)
    (hbind : bindArgs (fnOf name qual params body scope dV kV doc pm an cdv ct) args = pure binds) (hkind : (binds.all fun y => scope.names.lookup y.1 == some .local || scope.names.lookup y.1 == some .cell) = true)
    (hnd : ((cellsFrom 0 scope.names []).map (·.1)).Nodup)
    (hco : scope.isCoroutine = false) (hgen : scope.isGenerator = false) (hk : scope.kind = .function)
    (h : ∀ (L : Addr) (dp un : Nat) (gd : Option (List Code)) (h₁ : Heap) (tk₁ : Nat) (cells : List (Addr × Obj)) (Q : Flow → Shared → Prop), Room w p loose mean mg mb n ⟨none, dp, some outer, gd, un⟩ base outer H H → H₁.StaysIn h₁ → H₁.objs.size ≤ L →
      Fr H L h₁ (bindL (envOfC qual scope L f cdv).kindOf binds fun _ => none) → News H L h₁ cells → CellsAre (bindC (envOfC qual scope L f cdv).kindOf binds fun _ => none) (cellsFrom (L + 1) scope.names []) cells →
      (∀ v s', R (.ok (.ret v)) s' → Q (.ret v) s') → (∀ s', R (.ok (.ret .none)) s' → Q .next s') →
      wpAny (model PG w) ((⟨none, dp, some outer, gd, un⟩ : Around).deeper (envOfC qual scope L f cdv)) (execs body (envOfC qual scope L f cdv)) Q No ⟨h₁, g, d, tk₁, o⟩) : codeAny (model PG w) A (.call (.ref f) args) R ⟨H₁, g, d, tk, o⟩ := by
  obtain ⟨hdA, dpA, frA, gdA, unA⟩ := A
  obtain rfl : hdA = none := S.hh
  obtain rfl : frA = some outer := hout
  refine codeAny_call_function (by have := S.hd; exact (Nat.lt_of_lt_of_le (Nat.lt_succ_of_le (Nat.le_add_right _ _)) (Nat.succ_le_of_lt this))) (hst _ _ (S.X _ _ ho)) rfl hco hgen rfl (codeRec_of (S.X.keeps hst) hcd) ((BindsTo.of_eq hbind) _ _ _ _ ?_)
  refine wpAny_newFunctionEnv_cells hk (kindsX hkind _) fun env' he s' x => ?_
  subst he
  refine ⟨(S.T.nolimit.keeps hst).keeps x.toInCall.keep, codeAny_func ?_⟩
  obtain ⟨h₁, tk₁, rfl, _⟩ := x.done
  obtain ⟨cells, NC, Y⟩ := Cl.news (h₀ := H) hsz fun n c hm => ⟨x.cell n c (lookup_of_mem_nodup (cellsFrom_names scope.names 0 (H₁.objs.size + 1) [] [] rfl ▸ hnd) hm), x.above n c hm⟩
  exact wpAny_mono (h H₁.objs.size dpA unA gdA h₁ tk₁ cells (fun fl s' => R (.ok (.ret (match fl with | .ret v => v | _ => .none))) s') ⟨S.XB, S.TB, S.sz, (S.B _ rfl).1, (S.B _ rfl).2, .refl, rfl, S.hd, S.hu⟩ x.toInCall.keep (Nat.le_refl _) ⟨x.toInCall.ns, fun b o e => x.toInCall.keep b o (hst b o e), hsz⟩ NC Y (fun v s' x => x) fun s' x => x) (fun _ _ x => x) fun _ _ x => x.elim
end
end Mine

end
section
open PySem PySem.W PyProof.Rows PySem.Spec PySem.Calls
namespace Mine
noncomputable def AtStrs (h : Heap) (a : Addr) (xs : List Str) : Prop := ∃ vs, h.PlainList a vs.toArray ∧ StrsAre vs xs
noncomputable def unordR : List Str → List Str → List Str × List Str
  | [], act => ([], act)
  | x :: r, act => if act.contains x then unordR r (act.erase x) else (x :: (unordR r act).1, (unordR r act).2)
noncomputable def isStr (x : Str) : Value → Bool
  | .str b _ => b == x
  | _ => false
theorem strs_cons {vs : List Value} {xs : List Str} (h : StrsAre vs xs) : ∀ y ys, xs = y :: ys → ∃ ws t, vs = .str y t :: ws ∧ StrsAre ws ys := by
  cases h with
  | nil => exact fun _ _ e => nomatch e
  | cons y t r =>
    intro _ _ e
    cases e
    exact ⟨_, t, rfl, r⟩
theorem strs_last {xs : List Str} : ∀ {x : Str} {vs : List Value}, StrsAre vs (xs ++ [x]) → ∃ ws t, vs = ws ++ [.str x t] ∧ StrsAre ws xs := by
  induction xs with
  | nil =>
    intro x vs h
    obtain ⟨ws, t, rfl, r⟩ := strs_cons h _ _ rfl
    cases r
    exact ⟨[], t, rfl, .nil⟩
  | cons y xs ih =>
    intro x vs h
    obtain ⟨ws, t, rfl, r⟩ := strs_cons h _ _ rfl
    obtain ⟨ws, t', rfl, h'⟩ := ih r
    exact ⟨_ :: ws, t', rfl, .cons _ _ h'⟩
theorem strs_append {vs us : List Value} {xs ys : List Str} (a : StrsAre vs xs) (h : StrsAre us ys) : StrsAre (vs ++ us) (xs ++ ys) := by
  induction a with
  | nil => exact h
  | cons _ _ _ ih => exact .cons _ _ ih
theorem strs_len {vs : List Value} {xs : List Str} (a : StrsAre vs xs) : vs.length = xs.length := by
  induction a with
  | nil => rfl
  | cons _ _ _ ih => exact congrArg Nat.succ ih
theorem strs_eqGives {x : Str} {t : Tok} {vs : List Value} {xs : List Str} (a : StrsAre vs xs) : ∀ y ∈ vs, MeetsSeq.EqGives y (.str x t) (isStr x y) := by
  induction a with
  | nil => exact all_nil
  | cons a u _ ih => exact all_cons (eqGives_str a x u t) ih
theorem strs_no {x : Str} {vs : List Value} {xs : List Str} (a : StrsAre vs xs) : x ∉ xs → ∀ y ∈ vs, isStr x y = false := by
  induction a with
  | nil => exact fun _ => all_nil
  | cons a u _ ih => exact fun hx => all_cons (beq_eq_false_iff_ne.mpr fun q => hx (q ▸ .head _)) (ih fun q => hx (.tail _ q))
theorem strs_rem {x : Str} {vs : List Value} {xs : List Str} (a : StrsAre vs xs) : x ∈ xs → ∃ j, ∃ hj : j < vs.length, isStr x vs[j] = true ∧ (∀ i (hi : i < vs.length), i < j → isStr x vs[i] = false) ∧ StrsAre (vs.eraseIdx j) (xs.erase x) := by
  induction a with
  | nil => exact fun h => nomatch h
  | @cons a u vs xs r ih =>
    intro h
    by_cases q : a = x
    · subst q
      refine ⟨0, Nat.zero_lt_succ _, beq_self_eq_true a, fun i _ hi => absurd hi (Nat.not_lt_zero _), ?_⟩
      rw [List.erase_cons_head]
      exact r
    · obtain ⟨j, hj, h1, h2, h3⟩ := ih ((List.mem_cons.mp h).resolve_left fun e => q e.symm)
      refine ⟨j + 1, Nat.succ_lt_succ hj, h1, fun i hi hlt => ?_, ?_⟩
      · cases i with
        | zero => exact beq_eq_false_iff_ne.mpr q
        | succ i => exact h2 i (Nat.lt_of_succ_lt_succ hi) (Nat.lt_of_succ_lt_succ hlt)
      · rw [List.eraseIdx_cons_succ, List.erase_cons_tail (fun e => q (eq_of_beq e))]
        exact .cons _ _ h3
inductive UJ (e a : Addr) (exp act : List Str) (k : Nat) (h : Heap) (m : Str → Option Value) (news : List (Addr × Obj)) (h' : Heap) : Prop
  | mk (re ac ml : List Str) (vs us ms : List Value) (mi : Addr) (ke ka km : Nat) (ek : k = re.length) (e1 : m "expected" = some (.ref e)) (e2 : m "actual" = some (.ref a)) (e3 : m "missing" = some (.ref mi)) (en : news = [(mi, W.listOf (List.toArray ms) km), (e, W.listOf (List.toArray vs) ke), (a, W.listOf (List.toArray us) ka)])
    (hv : StrsAre vs re.reverse) (hu : StrsAre us ac) (hm : StrsAre ms ml) (h1 : re.length + ml.length ≤ exp.length) (h2 : ac.length ≤ act.length) (n1 : mi ≠ e) (n2 : mi ≠ a) (hr : (ml ++ (unordR re ac).1, (unordR re ac).2) = unordR exp.reverse act)
theorem turn_none {fs : List Addr} {g g' : Heap} (T : KtsTurn fs g g') {b : Addr} (e : g'.get? b = none) : g.get? b = none := by
  cases q : g.get? b with
  | none => rfl
  | some o =>
    obtain ⟨sl, hs⟩ := T.up q
    (first | exact (ne_get e (hs) rfl).elim | exact (ne_get (hs) e rfl).elim | (rw [hs] at e; cases e))
theorem kl_last_app (ws : List Value) (y : Value) : kl_last (ws ++ [y]) = some (ws, y) := by
  induction ws with
  | nil => rfl
  | cons x ws ih =>
    show kl_last (x :: (ws ++ [y])) = _
    unfold kl_last
    rw [ih]
section
variable {w : World} {A : Around} {E : Value → Shared → Prop} {s : Shared} {H : Heap} {L a : Addr} {m : Str → Option Value} {us : List Value} {ac : List Str} {x : Str} {t : Tok} {ka : Nat} {Q : Value → Shared → Prop}
theorem rem_yes {pre post : List (Addr × Obj)} (F : Fr H L s.heap m) (N : News H L s.heap (pre ++ (a, W.listOf us.toArray ka) :: post)) (h1 : ∀ p ∈ pre, p.1 ≠ a) (h2 : ∀ p ∈ post, p.1 ≠ a) (hv : StrsAre us ac) (hx : x ∈ ac) (hz : us.length ≤ 1000)
    (h : ∀ h' q, StrsAre q (ac.erase x) → Fr H L h' m → News H L h' (pre ++ (a, W.listOf q.toArray (ka + 1)) :: post) → Q .none { s with heap := h' }) : wpAny (model PG w) A (call (.builtin "list.remove") [.ref a, .str x t]) Q E s := by
  obtain ⟨j, hj, k1, k2, k3⟩ := strs_rem hv hx
  have z := N _ (List.mem_append.mpr (.inr (.head _)))
  refine call_meets PySem.F.slot_list_remove ⟨_, z.1, rfl⟩ PySem.F.entry_list_remove (PySem.F.args_list_remove_2 _ _)
    (MeetsSeq.list_remove a us.toArray ka (.str x t) (isStr x) (fun y hy => strs_eqGives hv y (by simpa using hy)) j (by simpa using hj) (by simpa using k1) (fun i hi hlt => k2 i (by simpa using hi) hlt) (by rw [sizeLine_eq, List.size_toArray]; exact (Nat.le_trans hz (by decide))))
    ⟨z.1, h _ _ k3 (F.change (Heap.SameBut.update ..) z.2.1 z.2.2) (ki_turn _ N h1 h2 ?_ ?_)⟩
  · apply Array.toList_inj.mp
    simp
  · rw [if_neg]
    rw [beq_iff_eq, List.size_toArray, List.size_toArray, List.length_eraseIdx, if_pos hj]
    omega
theorem app_one {pre post : List (Addr × Obj)} {v : Value} (F : Fr H L s.heap m) (N : News H L s.heap (pre ++ (a, W.listOf us.toArray ka) :: post)) (h1 : ∀ p ∈ pre, p.1 ≠ a) (h2 : ∀ p ∈ post, p.1 ≠ a) (hz : us.length ≤ 1000)
    (h : ∀ h' k', Fr H L h' m → News H L h' (pre ++ (a, W.listOf (us ++ [v]).toArray k') :: post) → Q .none { s with heap := h' }) : wpAny (model PG w) A (call (.builtin "list.append") [.ref a, v]) Q E s := by
  have z := N _ (List.mem_append.mpr (.inr (.head _)))
  refine wpAny_list_append_plain (s := s) ⟨_, z.1⟩ (fun h' hpl hs => ?_) (by rw [sizeLine_eq, List.size_toArray]; exact (Nat.le_trans hz (by decide)))
  rw [List.push_toArray] at hpl
  obtain ⟨k', hpl⟩ := hpl
  exact h h' k' (F.change hs z.2.1 z.2.2) (News.setAt N h1 h2 hs hpl)
theorem rem_no {post : List (Addr × Obj)} (N : News H L s.heap post) (hm : (a, W.listOf us.toArray ka) ∈ post) (hh : A.handled = none) (hv : StrsAre us ac) (hx : x ∉ ac)
    (h : ∀ h' tk e, Heap.NewExc s.heap h' e "ValueError" → E (.ref e) { s with heap := h', toks := tk }) : wpAny (model PG w) A (call (.builtin "list.remove") [.ref a, .str x t]) Q E s := by
  have z := N _ hm
  refine call_meets PySem.F.slot_list_remove ⟨_, z.1, rfl⟩ PySem.F.entry_list_remove (PySem.F.args_list_remove_2 _ _)
    (MeetsSeq.list_remove_none a us.toArray ka (.str x t) (isStr x) (fun y hy => strs_eqGives hv y (by simpa using hy)) (fun i hi => strs_no hv hx _ (by simp))) ⟨z.1, hh, h⟩
end
theorem News.apart {H h : Heap} {L : Addr} {news : List (Addr × Obj)} {a b : Addr} {x y : Obj} (N : News H L h news) (hx : (a, x) ∈ news) (hy : (b, y) ∈ news) (hn : x.cls ≠ y.cls) : a ≠ b := fun e => by
  have h1 := (N _ hx).1
  have h2 := (N _ hy).1
  rw [show (a, x).1 = (b, y).1 from e, h2] at h1
  exact hn (congrArg Obj.cls (Option.some.inj h1)).symm
section
variable {w : World} {p : Program} {loose : List Str} {mean : ExcName → Option Value} {mg mb : Str → Option Value}

set_option maxHeartbeats 2000000 in
theorem unord_tells {n : Nat} {A : Around} {outer : List Env} {base H H₁ : Heap} {g : Array GenState} {d : Drawn} {tk : Nat} {o : OsState} {R : Result → Shared → Prop} {e a : Addr} {exp act : List Str} (hout : A.frames = some outer) (S : Std w p loose mean mg mb (n + 1) A base H) (st : H.StaysIn H₁) (sz : H.objs.size ≤ H₁.objs.size)
    (he0 : H.get? e = none) (ha0 : H.get? a = none) (he : AtStrs H₁ e exp) (ha : AtStrs H₁ a act) (hne : e ≠ a) (l1 : exp.length ≤ 1000) (l2 : act.length ≤ 1000)
    (hR : ∀ r mi h' tk' ms vs, KeepX (outer.filterMap (·.frame)) H h' → H.get? mi = none → mi ≠ e → mi ≠ a → H.get? r = none → r ≠ e → r ≠ a → h'.get? r = some { cls := .type "tuple", data := .seq #[.ref mi, .ref a] } →
      h'.PlainList mi ms.toArray → StrsAre ms (unordR exp.reverse act).1 → h'.PlainList a vs.toArray → StrsAre vs (unordR exp.reverse act).2 → R (.ok (.ret (.ref r))) ⟨h', g, d, tk', o⟩) :
    codeAny (model PG w) A (.call (.ref 35) ⟨[.ref e, .ref a], []⟩) R ⟨H₁, g, d, tk, o⟩ := by
  have X := S.X
  have T := S.T
  obtain ⟨vs, ⟨ke, he⟩, hvs⟩ := he
  obtain ⟨us, ⟨ka, ha⟩, hus⟩ := ha
  refine' enterX [("expected", .ref e), ("actual", .ref a)] hout S st sz ?k6 ?k7 ?kb ?kl ?c1 ?c2 ?c3 ?c4 ?_
  ((case k6 => k_is); (case k7 => k_is); (case kb => exact rfl); (case kl => exact rfl); (case c1 => exact rfl); (case c2 => exact rfl); (case c3 => exact rfl); (case c4 => exact rfl))
  intro L dp un gd h₁ tk₁ Q Rm K1 hLs F hQ _
  have N : News H L h₁ [(e, W.listOf vs.toArray ke), (a, W.listOf us.toArray ka)] := by
    intro q hq
    rcases List.mem_cons.mp hq with rfl | hq
    · exact ⟨K1 _ _ he, Nat.ne_of_lt (Nat.lt_of_lt_of_le (Heap.lt_size he) hLs), he0⟩
    · obtain rfl := List.mem_singleton.mp hq
      exact ⟨K1 _ _ ha, Nat.ne_of_lt (Nat.lt_of_lt_of_le (Heap.lt_size ha) hLs), ha0⟩
  clear S
  (repeat' (first | k_data | ((fail_if_success (with_reducible show wpAny _ _ (exec (Stmt.While _ _ _ _) _) _ _ _)); (fail_if_success (with_reducible show wpAny _ _ (exec (Stmt.For _ _ _ _ _) _) _ _ _)); (fail_if_success (with_reducible show wpAny _ _ (exec (Stmt.Try _ _ _ _ _) _) _ _ _)); (fail_if_success (with_reducible show wpAny _ _ (eval (Expr.ListComp _ _ _ _) _) _ _ _)); walk1; try dsimp only) | (with_reducible refine ite_no ?_) | (with_reducible refine ite_yes ?_)))
  rename _ ∧ _ => hlt
  rename Fr _ _ _ _ => F1
  rename News _ _ _ _ => N1
  refine whileX (UJ e a exp act) ⟨H, _, _, Rm, F1, N1, exp.reverse, act, [], vs, us, [], _, _, _, _, rfl, rfl, rfl, rfl, rfl, by simpa using hvs, hus, .nil, by simp, Nat.le_refl _, ?_, ?_, rfl⟩ ?_
  rotate_left 2
  · rintro k H' m₁ news₁ h₂ tk₂ Qt R1 F2 N2 ⟨re, ac, ml, vs, us, ms, mi, ke, ka, km, rfl, e1, e2, e3, rfl, s1, s2, s3, l1', l2', n1, n2, hq⟩ hT _ _
    replace F2 := Fr.norm F2 [("expected", .ref e), ("actual", .ref a), ("missing", .ref mi)] (by intro x hx; simp only [List.mem_cons, List.not_mem_nil, or_false] at hx; rcases hx with rfl | rfl | rfl <;> assumption)
    clear X T
    have X := R1.X
    have T := R1.T
    (repeat' (first | k_data | ((fail_if_success (with_reducible show wpAny _ _ (exec (Stmt.While _ _ _ _) _) _ _ _)); (fail_if_success (with_reducible show wpAny _ _ (exec (Stmt.For _ _ _ _ _) _) _ _ _)); (fail_if_success (with_reducible show wpAny _ _ (exec (Stmt.Try _ _ _ _ _) _) _ _ _)); (fail_if_success (with_reducible show wpAny _ _ (eval (Expr.ListComp _ _ _ _) _) _ _ _)); walk1; try dsimp only) | (with_reducible refine ite_no ?_) | (with_reducible refine ite_yes ?_)))
    have hlen := strs_len s1
    rw [List.length_reverse] at hlen
    refine wpAny_truthy_list (News.lst N2 (.tail _ (.head _))) (by rw [List.size_toArray]; omega) ?_
    cases re with
    | nil =>
      cases vs with
      | cons _ _ => cases hlen
      | nil =>
      refine ite_no ?_
      (repeat' (first | k_data | ((fail_if_success (with_reducible show wpAny _ _ (exec (Stmt.While _ _ _ _) _) _ _ _)); (fail_if_success (with_reducible show wpAny _ _ (exec (Stmt.For _ _ _ _ _) _) _ _ _)); (fail_if_success (with_reducible show wpAny _ _ (exec (Stmt.Try _ _ _ _ _) _) _ _ _)); (fail_if_success (with_reducible show wpAny _ _ (eval (Expr.ListComp _ _ _ _) _) _ _ _)); walk1; try dsimp only) | (with_reducible refine ite_no ?_) | (with_reducible refine ite_yes ?_)))
      rename Fr _ _ _ _ => F3
      rename News _ _ _ _ => N3
      have eq : (ml, ac) = unordR exp.reverse act := by rw [← hq]; simp [unordR]
      refine hQ _ _ (hR _ mi _ _ ms us (R1.kept F3) (turn_none R1.T0 (N3 _ (.tail _ (.head _))).2.2) n1 n2 (turn_none R1.T0 (newHd N3).1) ?_ ?_ (newHd N3).2 ⟨_, (N3 _ (.tail _ (.head _))).1⟩ (by rw [← eq]; exact s3) ⟨_, (N3 _ (.tail _ (.tail _ (.tail _ (.head _))))).1⟩ (by rw [← eq]; exact s2))
      · exact News.apart N3 (.head _) (.tail _ (.tail _ (.head _))) (by show Value.type "tuple" ≠ Value.type "list"; decide)
      · exact News.apart N3 (.head _) (.tail _ (.tail _ (.tail _ (.head _)))) (by show Value.type "tuple" ≠ Value.type "list"; decide)
    | cons x re =>
      rw [List.reverse_cons] at s1
      obtain ⟨ws, t, rfl, s1w⟩ := strs_last s1
      rw [show (!(ws ++ [Value.str x t]).toArray.isEmpty) = true by simp]
      refine ite_yes ?_
      (repeat' (first | k_data | ((fail_if_success (with_reducible show wpAny _ _ (exec (Stmt.While _ _ _ _) _) _ _ _)); (fail_if_success (with_reducible show wpAny _ _ (exec (Stmt.For _ _ _ _ _) _) _ _ _)); (fail_if_success (with_reducible show wpAny _ _ (exec (Stmt.Try _ _ _ _ _) _) _ _ _)); (fail_if_success (with_reducible show wpAny _ _ (eval (Expr.ListComp _ _ _ _) _) _ _ _)); walk1; try dsimp only) | (with_reducible refine ite_no ?_) | (with_reducible refine ite_yes ?_)))
      refine kl_pop F2 N2 (kl_last_app ws _) (.tail n1 (.head (fun p hp => by rw [List.mem_singleton.mp hp]; exact hne.symm))) (by rw [sizeLine_eq]; simp only [List.length_append, List.length_cons, List.length_nil]; simp only [List.length_append, List.length_cons, List.length_nil] at hlen l1'; omega) fun h3 F3 N3 => ?_
      (repeat' (first | k_data | ((fail_if_success (with_reducible show wpAny _ _ (exec (Stmt.While _ _ _ _) _) _ _ _)); (fail_if_success (with_reducible show wpAny _ _ (exec (Stmt.For _ _ _ _ _) _) _ _ _)); (fail_if_success (with_reducible show wpAny _ _ (exec (Stmt.Try _ _ _ _ _) _) _ _ _)); (fail_if_success (with_reducible show wpAny _ _ (eval (Expr.ListComp _ _ _ _) _) _ _ _)); walk1; try dsimp only) | (with_reducible refine ite_no ?_) | (with_reducible refine ite_yes ?_)))
      refine wpAny_Try_except ?_
      (repeat' (first | k_data | ((fail_if_success (with_reducible show wpAny _ _ (exec (Stmt.While _ _ _ _) _) _ _ _)); (fail_if_success (with_reducible show wpAny _ _ (exec (Stmt.For _ _ _ _ _) _) _ _ _)); (fail_if_success (with_reducible show wpAny _ _ (exec (Stmt.Try _ _ _ _ _) _) _ _ _)); (fail_if_success (with_reducible show wpAny _ _ (eval (Expr.ListComp _ _ _ _) _) _ _ _)); walk1; try dsimp only) | (with_reducible refine ite_no ?_) | (with_reducible refine ite_yes ?_)))
      rename Fr _ _ _ _ => F4
      rename News _ _ _ _ => N4
      by_cases hx : x ∈ ac
      · have hun : unordR (x :: re) ac = unordR re (ac.erase x) := by rw [unordR, if_pos (by simpa using hx)]
        refine rem_yes (pre := [(mi, _), (e, _)]) (post := []) F4 N4 (by intro p hp; simp only [List.mem_cons, List.not_mem_nil, or_false] at hp; rcases hp with rfl | rfl; exact n2; exact hne) (fun _ h => nomatch h) s2 hx ?_ fun h5 q s2' F5 N5 => ?_
        · have := strs_len s2; omega
        · (repeat' (first | k_data | ((fail_if_success (with_reducible show wpAny _ _ (exec (Stmt.While _ _ _ _) _) _ _ _)); (fail_if_success (with_reducible show wpAny _ _ (exec (Stmt.For _ _ _ _ _) _) _ _ _)); (fail_if_success (with_reducible show wpAny _ _ (exec (Stmt.Try _ _ _ _ _) _) _ _ _)); (fail_if_success (with_reducible show wpAny _ _ (eval (Expr.ListComp _ _ _ _) _) _ _ _)); walk1; try dsimp only) | (with_reducible refine ite_no ?_) | (with_reducible refine ite_yes ?_)))
          refine hT _ _ re.length _ _ _ R1 F5 N5 ⟨re, _, ml, ws, q, ms, mi, _, _, _, rfl, rfl, rfl, rfl, rfl, s1w, s2', s3, ?_, ?_, n1, n2, ?_⟩ (Nat.lt_succ_self _)
          · rw [List.length_cons] at l1'; omega
          · exact Nat.le_trans (List.length_erase_le ..) l2'
          · rw [← hun]; exact hq
      · have hun : unordR (x :: re) ac = (x :: (unordR re ac).1, (unordR re ac).2) := by rw [unordR, if_neg (by simpa using hx)]
        refine rem_no N4 (.tail _ (.tail _ (.head _))) rfl s2 hx fun h5 tk5 ee hne5 => ?_
        refine caught_own (T := "ValueError") R1 F4 N4 hne5 ?ex PyProof.Rows.Boot.«ValueError» ?hn PySem.F.isExc_ValueError PySem.F.notTuple_ValueError ?hsub ?_
        case ex => k_is
        case hn => decide
        case hsub => kts_sub
        intro h6 H6 R6 T6 F6 N6
        clear X T
        have X := R6.X
        have T := R6.T
        (repeat' (first | k_data | ((fail_if_success (with_reducible show wpAny _ _ (exec (Stmt.While _ _ _ _) _) _ _ _)); (fail_if_success (with_reducible show wpAny _ _ (exec (Stmt.For _ _ _ _ _) _) _ _ _)); (fail_if_success (with_reducible show wpAny _ _ (exec (Stmt.Try _ _ _ _ _) _) _ _ _)); (fail_if_success (with_reducible show wpAny _ _ (eval (Expr.ListComp _ _ _ _) _) _ _ _)); walk1; try dsimp only) | (with_reducible refine ite_no ?_) | (with_reducible refine ite_yes ?_)))
        refine app_one (pre := []) F6 N6 (fun _ h => nomatch h) (by intro p hp; simp only [List.mem_cons, List.not_mem_nil, or_false] at hp; rcases hp with rfl | rfl; exact n1.symm; exact n2.symm) (by have := strs_len s3; omega) fun h7 k7 F7 N7 => ?_
        (repeat' (first | k_data | ((fail_if_success (with_reducible show wpAny _ _ (exec (Stmt.While _ _ _ _) _) _ _ _)); (fail_if_success (with_reducible show wpAny _ _ (exec (Stmt.For _ _ _ _ _) _) _ _ _)); (fail_if_success (with_reducible show wpAny _ _ (exec (Stmt.Try _ _ _ _ _) _) _ _ _)); (fail_if_success (with_reducible show wpAny _ _ (eval (Expr.ListComp _ _ _ _) _) _ _ _)); walk1; try dsimp only) | (with_reducible refine ite_no ?_) | (with_reducible refine ite_yes ?_)))
        refine hT _ _ re.length _ _ _ R6 F7 N7 ⟨re, ac, ml ++ [x], ws, us, _, mi, _, _, _, rfl, rfl, rfl, rfl, rfl, s1w, s2, strs_append s3 (.cons _ _ .nil), ?_, l2', n1, n2, ?_⟩ (Nat.lt_succ_self _)
        · rw [List.length_append, List.length_cons, List.length_nil]; rw [List.length_cons] at l1'; omega
        · rw [← hq, hun, List.append_assoc]; rfl
  · exact Nat.ne_of_gt hlt.1
  · exact Nat.ne_of_gt hlt.2
end
end Mine

end
section
open PySem PySem.W PyProof.Rows PySem.Spec PySem.Calls
namespace Mine
section
variable {x y : Str} {px px' py py' : Pos} {iter : Expr} {scope : Scope} {pos : Pos} {cl : List (Str × Addr)}
/-- [y for x in iter for y in x] -/
noncomputable abbrev flatE (x y : Str) (px px' py py' : Pos) (iter : Expr) (scope : Scope) (pos : Pos) : Expr := .ListComp (.Name y py') [⟨.Name x px, iter, [], 0⟩, ⟨.Name y py, .Name x px', [], 0⟩] scope pos
theorem turn_flat1 (it acc : Value) (env : Env) : compTurn (flatE x y px px' py py' iter scope pos) 1 it acc env = (standAt (Expr.pos (.Name x px')) >>= fun _ => pyNext it >>= fun r => match r with
      | none => pure (.done .next)
      | some v => letOwnedTupleGo (.Name y py) it v >>= fun _ => assign (.Name y py) env v >>= fun _ =>
        (eval (.Name y py') env >>= fun x => call (.builtin "list.append") [acc, x] >>= fun _ => pure ()) >>= fun _ =>
          again (.compLoop (flatE x y px px' py py' iter scope pos) 1 it acc env)) := by rfl
theorem turn_flat0 (it acc : Value) (env : Env) : compTurn (flatE x y px px' py py' iter scope pos) 0 it acc env = (standAt iter.pos >>= fun _ => pyNext it >>= fun r => match r with
      | none => pure (.done .next)
      | some v => letOwnedTupleGo (.Name x px) it v >>= fun _ => assign (.Name x px) env v >>= fun _ =>
        eval (.Name x px') env >>= fun xv => standAt (Expr.pos (.Name x px')) >>= fun _ => foldedSetIterable (.Name x px') env xv >>= fun xv => holding [xv] (pyIter xv) >>= fun it2 =>
          runOwn (.compStart (flatE x y px px' py py' iter scope pos) 1 it2 acc env) env >>= fun _ =>
          again (.compLoop (flatE x y px px' py py' iter scope pos) 0 it acc env)) := by unfold compTurn; simp; rfl
variable {w : World} {A : Around} {env : Env} {g : Array GenState} {d : Drawn} {o : OsState} {R : Result → Shared → Prop}
theorem local_at {E : Value → Shared → Prop} {z : Str} {C : Addr} {m : Str → Option Value} {v : Value} {pz : Pos} {Q : Value → Shared → Prop} {s : Shared} (hkind : scope.kind = .function) (hz : scope.names.lookup z = some .local) (hd : (z == ("__debug__" : Str)) = false) (hn : s.heap.Ns C m) (hv : m z = some v) (h : Q v s) :
    wpAny (model PG w) A (eval (.Name z pz) (compEnvC scope cl C env)) Q E s :=
  wpAny_Name (wpAny_loadName_local (by simp [compEnvC, relabel, hkind]) (lookup_relabel_local hz) hn hv h) hd
theorem start_flat1 {it acc : Value} {s : Shared}
    (h0 : codeAny (model PG w) A (.compLoop (flatE x y px px' py py' iter scope pos) 1 it acc env) R s)
    (h : wpAny (model PG w) A (pyIter it) (fun it' s' => codeAny (model PG w) A (.compLoop (flatE x y px px' py py' iter scope pos) 1 it' acc env) R s')
      (notedBy (model PG w) A env fun x s' => R (.error x) s') s) :
    codeAny (model PG w) A (.compStart (flatE x y px px' py py' iter scope pos) 1 it acc env) R s := by
  refine codeAny_of_tree ?_
  show wpAny _ _ ((compStart (flatE x y px px' py py' iter scope pos) 1 it acc env).onRaise (fun x => do noteFrame x env; standAt theWindowsPlace)) _ _ s
  refine wpAny_notedAt ?_
  unfold compStart
  show wpAny _ _ (ask >>= _) _ _ s
  refine wpAny_bind (wpAny_askSetting (wpAny_ite ?_))
  split
  · exact wpAny_bind (wpAny_pure (wpAny_pure (And.intro rfl h0)))
  · refine wpAny_bind (wpAny_rule ?_)
    show wpAny _ _ (standAt (Expr.pos (.Name x px')) >>= _) _ _ s
    exact wpAny_bind (wpAny_standAt (wpAny_bind (wpAny_mono h (fun it' s' h' => wpAny_pure (And.intro rfl h')) fun _ _ x => x)))
theorem flat_inner {a I D C : Addr} {row ys : List Value} {h : Heap} {m : Str → Option Value} {tk : Nat}
    (hh : A.handled = none) (hkind : scope.kind = .function) (hy : scope.names.lookup y = some .local) (hyd : (y == ("__debug__" : Str)) = false)
    (hit : h.IsListIter I a 0) (hl : h.IsList a row.toArray) (hD : h.PlainList D ys.toArray) (hC : h.Ns C m) (n1 : a ≠ I) (n2 : D ≠ I) (n3 : C ≠ I) (n4 : D ≠ C) (n5 : a ≠ D) (n6 : a ≠ C)
    (hsz : ys.length + row.length ≤ 1000000)
    (done : ∀ h₁ tk₁ m₁, h₁.PlainList D (ys ++ row).toArray → h₁.Ns C m₁ → (∀ b ob, b ≠ D → b ≠ C → b ≠ I → h.get? b = some ob → h₁.get? b = some ob) → R (.ok .next) ⟨h₁, g, d, tk₁, o⟩) :
    codeAny (model PG w) A (.compLoop (flatE x y px px' py py' iter scope pos) 1 (.ref I) (.ref D) (compEnvC scope cl C env)) R ⟨h, g, d, tk, o⟩ := by
  have W := Walks.list (prog := PG) (w := w) hh I a n1 row.toArray
  refine codeAny_loop rfl (fun k s' => ∃ h' tk' m' j, s' = ⟨h', g, d, tk', o⟩ ∧ k + j = row.length ∧ (h'.IsListIter I a j ∧ h'.IsList a row.toArray) ∧ h'.PlainList D (ys ++ row.take j).toArray ∧ h'.Ns C m' ∧ ∀ b ob, b ≠ D → b ≠ C → b ≠ I → h.get? b = some ob → h'.get? b = some ob) ?_ row.length ⟨h, tk, m, 0, rfl, rfl, ⟨hit, hl⟩, by simpa using hD, hC, fun _ _ _ _ _ e => e⟩
  rintro k s' ⟨h', tk', m', j, rfl, hk, st, hpl, hns, keep⟩
  show wpAny _ A ((compTurn (flatE x y px px' py py' iter scope pos) 1 (.ref I) (.ref D) _).onRaise (fun x => do noteFrame x _; theTreesLotGoes x)) _ _ _
  refine wpAny_noted ?_
  rw [turn_flat1]
  refine wpAny_bind (wpAny_standAt (wpAny_bind ?_))
  by_cases hlt : j < row.length
  · refine W.item j _ _ _ (by simpa using hlt) st fun v h₂ tk₂ hv st₂ hk₂ => ?_
    have hv' : row[j]? = some v := by simpa using hv
    refine wpAny_bind (wpAny_of_eq rfl (wpAny_bind ?_))
    refine wpAny_assign_Name (wpAny_storeName_local (lookup_relabel_local hy) (hns.at' fun o e => hk₂ _ o (by simpa using n3) e) (fun h₃ hn₃ hs₃ => ?_) (by simp [compEnvC, relabel, hkind]))
    refine wpAny_bind (wpAny_bind (local_at (v := v) hkind hy hyd hn₃ (by simp) (wpAny_bind ?_)))
    have hpl₃ : h₃.PlainList D (ys ++ row.take j).toArray := (hpl.at fun o e => hk₂ _ o (by simpa using n2) e).at fun o e => hs₃.extBut _ o n4 e
    refine wpAny_list_append_plain hpl₃ (fun h₅ hpl₅ hs₅ => ?_) (by rw [sizeLine_eq]; simp only [List.size_toArray, List.length_append, List.length_take]; omega)
    refine wpAny_pure (wpAny_pure ⟨rfl, k - 1, by omega, h₅, _, _, j + 1, rfl, by omega, W.frame _ _ _ (W.frame _ _ _ st₂ fun b hb ob e => hs₃.extBut b ob (fun q => ?_) e) fun b hb ob e => hs₅.extBut b ob (fun q => ?_) e, ?_, hn₃.at' fun o e => hs₅.extBut _ o (Ne.symm n4) e, fun b ob b1 b2 b3 e => hs₅.extBut b ob b1 (hs₃.extBut b ob b2 (hk₂ b ob (by simpa using b3) (keep b ob b1 b2 b3 e)))⟩)
    · simp only [List.mem_cons, List.not_mem_nil, or_false] at hb
      rcases hb with rfl | rfl
      · exact n3 q.symm
      · exact n6 q
    · simp only [List.mem_cons, List.not_mem_nil, or_false] at hb
      rcases hb with rfl | rfl
      · exact n2 q.symm
      · exact n5 q
    · rw [List.take_add_one, hv', ← List.append_assoc]
      simpa using hpl₅
  · obtain rfl : j = row.length := by exact (Nat.le_antisymm (Nat.le_trans (Nat.le_add_left _ _) (Nat.le_of_eq hk)) (Nat.le_of_not_lt hlt))
    refine W.done _ _ _ (by simpa using st) fun h₂ tk₂ hk₂ => ?_
    refine wpAny_pure (done h₂ _ m' ?_ (hns.at' fun o e => hk₂ _ o (by simpa using n3) e) fun b ob b1 b2 b3 e => hk₂ b ob (by simpa using b3) (keep b ob b1 b2 b3 e))
    rw [List.take_length] at hpl
    exact hpl.at fun o e => hk₂ _ o (by simpa using n2) e

theorem comp_flat {RR : Value → Addr → Result → Shared → Prop} {I l : Addr} {vs : List Value} {rows : List (List Value)} {h : Heap} {tk : Nat}
    (hh : A.handled = none) (hcell : (scope.names.all fun y => y.2 != .cell) = true) (hkind : scope.kind = .function) (hx : scope.names.lookup x = some .local) (hxd : (x == ("__debug__" : Str)) = false) (hy : scope.names.lookup y = some .local) (hyd : (y == ("__debug__" : Str)) = false)
    (hit : h.IsListIter I l 0) (hl : h.IsList l vs.toArray) (hlI : l ≠ I) (hlen : vs.length = rows.length) (hrows : ∀ (i : Nat) r, rows[i]? = some r → ∃ a, vs[i]? = some (.ref a) ∧ h.IsList a r.toArray ∧ a ≠ I) (htot : rows.flatten.length ≤ 1000000)
    (done : ∀ D C h₁ tk₁ mc, h.get? D = none → h.get? C = none → D ≠ C → h.objs.size ≤ C → h₁.Ns C mc → (∀ b ob, b ≠ I → h.get? b = some ob → h₁.get? b = some ob) → h₁.PlainList D rows.flatten.toArray → RR (.ref D) C (.ok .next) ⟨h₁, g, d, tk₁, o⟩) :
    CompRestR w A env (.Name y py') ⟨.Name x px, iter, [], 0⟩ [⟨.Name y py, .Name x px', [], 0⟩] scope pos cl RR (.ref I) ⟨h, g, d, tk, o⟩ := by
  have W := Walks.list (prog := PG) (w := w) hh I l hlI vs.toArray
  unfold CompRestR
  refine wpAny_newObj_type (wpAny_newFunctionEnv (fun y hy => by simpa using List.all_eq_true.mp hcell y hy) (by intro y hy; simp at hy) (fun h₁ hns₁ hsb₁ => ?_) hkind)
  dsimp only at hns₁ hsb₁ ⊢
  generalize hH2 : h.push { cls := .type "list", dict := none, data := .seq ([] : List Value).toArray } = H2 at hns₁ hsb₁ ⊢
  have hC : H2.objs.size = h.objs.size + 1 := by rw [← hH2, Heap.size_push]
  have hDC : h.objs.size ≠ H2.objs.size := by rw [hC]; exact Nat.ne_of_lt (Nat.lt_succ_self _)
  have fresh : ∀ a, h.objs.size ≤ a → h.get? a = none := fun a ha => by
    cases e : h.get? a with
    | none => rfl
    | some o' => exact absurd (Heap.lt_size e) (Nat.not_lt.mpr ha)
  have hD0 := fresh _ (Nat.le_refl _)
  have hC0 : h.get? H2.objs.size = none := fresh _ (by rw [hC]; exact Nat.le_succ _)
  have old : ∀ b o, h.get? b = some o → h₁.get? b = some o := fun b o e => by
    have hb := Heap.lt_size e
    exact hsb₁.extBut b o (by rw [hC]; exact Nat.ne_of_lt (Nat.lt_succ_of_lt hb)) (Heap.get?_push_of_some _ (hH2 ▸ Heap.get?_push_of_some _ e))
  have hacc : h₁.PlainList h.objs.size #[] := ⟨_, hsb₁.extBut _ _ hDC (Heap.get?_push_of_some _ (hH2 ▸ Heap.get?_push_size _ rfl))⟩
  have hst₁ : h₁.IsListIter I l 0 ∧ h₁.IsList l vs.toArray := W.frame _ _ _ ⟨hit, hl⟩ fun b _ o e => old b o e
  have hCge : h.objs.size ≤ H2.objs.size := by rw [hC]; exact Nat.le_succ _
  have loop : ∀ s₃ : Shared, s₃ = ⟨h₁, g, d, tk + ([] : List (Str × Value)).length, o⟩ →
      codeAny (model PG w) A (.compLoop (flatE x y px px' py py' iter scope pos) 0 (.ref I) (.ref h.objs.size) (compEnvC scope cl H2.objs.size env)) (RR (.ref h.objs.size) H2.objs.size) s₃ := by
    rintro s₃ rfl
    obtain ⟨D, hDe⟩ : ∃ D, D = h.objs.size := ⟨_, rfl⟩
    rw [← hDe] at hDC hD0 hacc ⊢
    generalize H2.objs.size = C at hns₁ hDC hC0 hCge ⊢
    have nD : ∀ b ob, h.get? b = some ob → b ≠ D := fun b ob e q => by (first | exact (ne_get e (hD0) (q)).elim | exact (ne_get (hD0) e (q)).elim | (rw [q, hD0] at e; cases e))
    have nC : ∀ b ob, h.get? b = some ob → b ≠ C := fun b ob e q => by (first | exact (ne_get e (hC0) (q)).elim | exact (ne_get (hC0) e (q)).elim | (rw [q, hC0] at e; cases e))
    obtain ⟨oI, eI, _⟩ := id hit
    obtain ⟨ol, el, _⟩ := id hl
    refine codeAny_loop rfl (fun k s' => ∃ h' tk' m' j, s' = ⟨h', g, d, tk', o⟩ ∧ k + j = vs.length ∧ (h'.IsListIter I l j ∧ h'.IsList l vs.toArray) ∧ h'.PlainList D (rows.take j).flatten.toArray ∧ h'.Ns C m' ∧ ∀ b ob, b ≠ I → h.get? b = some ob → h'.get? b = some ob) ?_ vs.length ⟨h₁, _, _, 0, rfl, rfl, hst₁, hacc, hns₁, fun b ob _ e => old b ob e⟩
    rintro k s' ⟨h', tk', m', j, rfl, hk, st, hpl, hns, keep⟩
    show wpAny _ A ((compTurn (flatE x y px px' py py' iter scope pos) 0 (.ref I) (.ref D) _).onRaise (fun x => do noteFrame x _; theTreesLotGoes x)) _ _ _
    refine wpAny_noted ?_
    rw [turn_flat0]
    refine wpAny_bind (wpAny_standAt (wpAny_bind ?_))
    by_cases hlt : j < vs.length
    · have hj : j < rows.length := hlen ▸ hlt
      obtain ⟨a, hva, hla, haI⟩ := hrows j rows[j] (List.getElem?_eq_getElem hj)
      refine W.item j _ _ _ (by simpa using hlt) st fun v h₂ tk₂ hv st₂ hk₂ => ?_
      have hv' : vs[j]? = some v := by simpa using hv
      obtain rfl : v = .ref a := Option.some.inj (hv'.symm.trans hva)
      refine wpAny_bind (wpAny_of_eq rfl (wpAny_bind ?_))
      refine wpAny_assign_Name (wpAny_storeName_local (lookup_relabel_local hx) (hns.at' fun o e => hk₂ _ o (by simpa using (nC _ _ eI).symm) e) (fun h₃ hn₃ hs₃ => ?_) (by simp [compEnvC, relabel, hkind]))
      refine wpAny_bind (local_at (v := .ref a) hkind hx hxd hn₃ (by simp) (wpAny_bind (wpAny_standAt (wpAny_bind (wpAny_of_eq rfl (wpAny_bind (wpAny_holding ?_)))))))
      have up : ∀ b ob, b ≠ I → h.get? b = some ob → h₃.get? b = some ob := fun b ob b1 e => hs₃.extBut b ob (nC b ob e) (hk₂ b ob (by simpa using b1) (keep b ob b1 e))
      obtain ⟨oa, ea, _⟩ := id hla
      have hla₃ : h₃.IsList a rows[j].toArray := hla.at fun o e => up a o haI e
      have hpl₃ : h₃.PlainList D (rows.take j).flatten.toArray := (hpl.at fun o e => hk₂ _ o (by simpa using (nD _ _ eI).symm) e).at fun o e => hs₃.extBut _ o hDC e
      obtain ⟨oa₃, ea₃, ra₃⟩ := id hla₃
      refine wpAny_pyIter_list hla₃ (wpAny_bind (wpAny_runOwn ?_))
      have fr₃ : ∀ b ob, h₃.get? b = some ob → b ≠ h₃.objs.size := fun b ob e => Nat.ne_of_lt (Heap.lt_size e)
      have kp : ∀ b ob, h₃.get? b = some ob → (h₃.push { cls := .type "list_iterator", data := .fields #[.ref a, .int 0 0] }).get? b = some ob := fun b ob e => Heap.get?_push_of_some _ e
      obtain ⟨oC3, _, _, eC3, _⟩ := id hn₃
      obtain ⟨kD3, eD3⟩ := id hpl₃
      have lenF : (rows.take j).flatten.length + rows[j].length ≤ rows.flatten.length := by
        have e1 : rows.take (j + 1) = rows.take j ++ [rows[j]] := by rw [List.take_add_one, List.getElem?_eq_getElem hj]; rfl
        have e2 : (rows.take (j + 1)).flatten.length + (rows.drop (j + 1)).flatten.length = rows.flatten.length := by rw [← List.length_append, ← List.flatten_append, List.take_append_drop]
        rw [e1, List.flatten_append, List.length_append, List.flatten_cons, List.flatten_nil, List.append_nil] at e2
        exact (Nat.le_trans (Nat.le_add_right _ _) (Nat.le_of_eq e2))
      have stI : (h₃.push { cls := .type "list_iterator", data := .fields #[.ref a, .int 0 0] }).IsListIter h₃.objs.size a 0 := ⟨_, Heap.get?_push_size _ rfl, rfl, rfl⟩
      refine start_flat1 ?_ (Walks.list (prog := PG) (w := w) (A := A.mark none) (show (none.or A.handled) = none by rw [hh]; rfl) _ _ (fr₃ _ _ ea₃) rows[j].toArray |>.self 0 _ _ _ ⟨stI, hla₃.at fun o e => kp _ _ e⟩ ?_)
      all_goals (
        refine flat_inner (show (none.or A.handled) = none by rw [hh]; rfl) hkind hy hyd stI (hla₃.at fun o e => kp _ _ e) (hpl₃.at fun o e => kp _ _ e) (hn₃.at' fun o e => kp _ _ e) (fr₃ _ _ ea₃) (fr₃ _ _ eD3) (fr₃ _ _ eC3) hDC (nD _ _ ea) (nC _ _ ea) (Nat.le_trans lenF htot) fun h₆ tk₆ m₆ hpl₆ hn₆ k₆ => ?_
        have up₆ : ∀ b ob, b ≠ I → h.get? b = some ob → h₆.get? b = some ob := fun b ob b1 e => k₆ b ob (nD b ob e) (nC b ob e) (fr₃ _ _ (up b ob b1 e)) (kp _ _ (up b ob b1 e))
        obtain ⟨oI2, eI2, _⟩ := id st₂.1
        have upI : ∀ ob, h₂.get? I = some ob → h₆.get? I = some ob := fun ob e => k₆ I ob (nD _ _ eI) (nC _ _ eI) (fr₃ _ _ (hs₃.extBut I ob (nC _ _ eI) e)) (kp _ _ (hs₃.extBut I ob (nC _ _ eI) e))
        refine wpAny_pure ⟨rfl, k - 1, by omega, h₆, _, m₆, j + 1, rfl, by omega, ⟨st₂.1.at upI, hl.at fun ob e => up₆ l ob hlI e⟩, ?_, hn₆, up₆⟩
        have e1 : rows.take (j + 1) = rows.take j ++ [rows[j]] := by rw [List.take_add_one, List.getElem?_eq_getElem hj]; rfl
        rw [e1, List.flatten_append]
        simpa using hpl₆)
    · obtain rfl : j = vs.length := by exact (Nat.le_antisymm (Nat.le_trans (Nat.le_add_left _ _) (Nat.le_of_eq hk)) (Nat.le_of_not_lt hlt))
      refine W.done _ _ _ (by simpa using st) fun h₂ tk₂ hk₂ => ?_
      have k1 : ∀ b ob, b ≠ I → h'.get? b = some ob → h₂.get? b = some ob := fun b ob b1 e => hk₂ b ob (by simpa using b1) e
      rw [hlen, List.take_length] at hpl
      exact wpAny_pure (done D C h₂ _ m' hD0 hC0 hDC hCge (hns.at' fun o e => k1 _ o (nC _ _ eI).symm e) (fun b ob b1 e => k1 b ob b1 (keep b ob b1 e)) (hpl.at fun o e => k1 _ o (nD _ _ eI).symm e))
  exact codeAny_compStart_list (loop _ rfl) (W.self 0 _ _ _ hst₁ (loop _ rfl))
end
end Mine

end
section
open PySem PySem.W PyProof.Rows PySem.Spec PySem.Calls
namespace Mine
noncomputable def AtIntsL (h : Heap) (a : Addr) (ns : List Int) : Prop := ∃ vs, h.IsList a vs.toArray ∧ IntsAre vs ns
noncomputable def AtStrsL (h : Heap) (a : Addr) (xs : List Str) : Prop := ∃ vs, h.IsList a vs.toArray ∧ StrsAre vs xs
theorem HeldX.nil {I : Addr} {h h' : Heap} (x : HeldX [] I h h') : ∀ b o, b ≠ I → h.get? b = some o → h'.get? b = some o := fun b o hb e => x.1 b o hb (fun m => nomatch m) e
/-- the frame and the ledger within a comprehension's turn -/
theorem comp_frames {H h h₁ : Heap} {L C I : Addr} {m mc : Str → Option Value} {news : List (Addr × Obj)} (F : Fr H L h m) (N : News H L h news) (off : Off H L news I) (hC : h.get? C = none) (hCs : h.objs.size ≤ C) (ns : h₁.Ns C mc) (hold : HeldX [] I h h₁) :
    Fr H C h₁ mc ∧ News H C h₁ news ∧ Fr H L h₁ m := by
  have k : ∀ b o, H.get? b = some o → h₁.get? b = some o := fun b o e => hold.nil b o (fun q => by (first | exact (ne_get e (off.1) (q)).elim | exact (ne_get (off.1) e (q)).elim | (rw [q, off.1] at e; cases e))) (F.keep b o e)
  refine ⟨⟨ns, k, Nat.le_trans (Nat.le_trans F.above (Nat.le_of_lt F.ns.lt)) hCs⟩, fun q hq => ⟨hold.nil _ _ (off.2.2 q hq) (N q hq).1, ⟨(fun z => by have := (N q hq).1; (first | exact (ne_get this (hC) (z)).elim | exact (ne_get (hC) this (z)).elim | (rw [z, hC] at this; cases this))), (N q hq).2.2⟩⟩, ⟨F.ns.at' fun o e => hold.nil _ o off.2.1 e, k, F.above⟩⟩
theorem range_small : ∀ k : Fin 9, Builtin.Range.small 0 (k.val : Int) 1 = true ∧ Builtin.Range.rangeSize 0 (k.val : Int) 1 = (k.val : Int) := by decide
theorem strs_reverse {vs : List Value} {xs : List Str} (h : StrsAre vs xs) : StrsAre vs.reverse xs.reverse := by
  induction h with
  | nil => exact .nil
  | cons y t _ ih => rw [List.reverse_cons, List.reverse_cons]; exact strs_append ih (.cons _ _ .nil)
theorem getD_map_at {α β : Type} {f : α → β} {xs : List α} {d : β} {i : Nat} (hi : i < xs.length) : (xs.map f).getD i d = f xs[i] := by
  rw [List.getD_eq_getElem?_getD, List.getElem?_map, List.getElem?_eq_getElem hi]; rfl
theorem idx_of_nodup {ts : List Str} (hnd : ts.Nodup) {k : Nat} (hk : k < ts.length) : ts.getD k Str.empty ∈ ts ∧ ts.idxOf (ts.getD k Str.empty) = k := by
  rw [List.getD_eq_getElem?_getD, List.getElem?_eq_getElem hk]
  exact ⟨List.getElem_mem hk, by
    have := hnd.idxOf_getElem k hk
    simpa using this⟩
theorem index_strs {prog : Program} {w : World} {A : Around} {E : Value → Shared → Prop} {s : Shared} {l : Addr} {vs : List Value} {xs : List Str} {x : Str} {t : Tok} {Q : Value → Shared → Prop} (hl : s.heap.IsList l vs.toArray) (hi : StrsAre vs xs)
    (hk : x ∈ xs) (hb : xs.length ≤ 1000000) (h : Q (.int (xs.idxOf x : Nat) s.toks) { s with toks := s.toks + 1 }) :
    wpAny (model prog w) A (call (.builtin "list.index") [.ref l, .str x t]) Q E s := by
  obtain ⟨⟨cls, dd, data, sl⟩, ho, hc, n, hd⟩ := id hl
  simp only at hc hd
  subst hc hd
  have hlen : vs.length = xs.length := strs_len hi
  have hj : xs.idxOf x < xs.length := List.idxOf_lt_length_iff.mpr hk
  have at_ : ∀ j (hj : j < vs.length), isStr x vs[j] = decide (xs.getD j Str.empty = x) := fun j hj => by
    obtain ⟨t', e⟩ := strs_at hi (i := j) (by exact (Nat.lt_of_lt_of_le hj (Nat.le_of_eq hlen)))
    rw [List.getElem?_eq_getElem hj] at e
    rw [Option.some.inj e]
    simp only [isStr]; exact (Bool.eq_iff_iff.mpr (by simp))
  refine call_meets PySem.F.slot_list_index ⟨_, ho, rfl⟩ PySem.F.entry_list_index (PySem.F.args_list_index_2 _ _)
    (SeqAt.list_indexAt l vs.toArray n dd sl (.str x t) (isStr x) (xs.idxOf x) (by simpa [hlen] using hj) (by omega) ?_ ?_) ⟨ho, fun y hy => (strs_eqGives hi y (by simpa using hy)).at _ _, h⟩
  · show isStr x vs[xs.idxOf x] = true
    rw [at_ _ (by exact (Nat.lt_of_lt_of_le hj (Nat.le_of_eq (Eq.symm hlen))))]
    rw [List.getD_eq_getElem?_getD, List.getElem?_eq_getElem hj]
    simp
  · intro j hjs hlt
    show isStr x vs[j] = false
    have hjs' : j < vs.length := by simpa using hjs
    rw [at_ _ hjs', List.getD_eq_getElem?_getD, List.getElem?_eq_getElem (by exact (Nat.lt_of_lt_of_le hjs' (Nat.le_of_eq hlen)))]
    have := List.not_of_lt_findIdx (p := (· == x)) (xs := xs) (i := j) hlt
    simpa using this
section
variable {w : World} {A : Around} {env : Env} {h : Heap} {g : Array GenState} {d : Drawn} {tk : Nat} {o : OsState}
set_option maxHeartbeats 1000000 in
/-- [x for x in a list of numbers if c] -/
theorem comp_filterI {x : Str} {pe px : Pos} {iter c : Expr} {scope : Scope} {pos : Pos} {cl : List (Str × Addr)} {RR : Value → Addr → Result → Shared → Prop} {a : Addr} {vs : List Value} {ns : List Int} (pr : Int → Bool)
    {H : Heap} {L : Addr} {m : Str → Option Value} {news : List (Addr × Obj)} (F : Fr H L h m) (N : News H L h news) (hh : A.handled = none) (hl : h.IsList a vs.toArray) (hi : IntsAre vs ns) (hlen : ns.length ≤ 1000)
    (hcell : (scope.names.all fun y => y.2 != .cell) = true) (hkind : scope.kind = .function) (hx : scope.names.lookup x = some .local) (hxd : (x == ("__debug__" : Str)) = false)
    (turn : ∀ C n tv h₁ tk₁ mc (Qb : Bool → Shared → Prop), n ∈ ns → mc x = some (.int n tv) → Fr H C h₁ mc → News H C h₁ news → h₁.IsList a vs.toArray → (∀ tk', Qb (pr n) ⟨h₁, g, d, tk', o⟩) →
      wpAny (model PG w) A (isTrue c (compEnvC scope cl C env) (eval c (compEnvC scope cl C env))) Qb No ⟨h₁, g, d, tk₁, o⟩)
    (done : ∀ D C h₁ tk₁ ys mc, h.get? D = none → h.get? C = none → D ≠ C → h₁.Ns C mc → h.StaysIn h₁ → h₁.PlainList D ys.toArray → IntsAre ys (ns.filter pr) → RR (.ref D) C (.ok .next) ⟨h₁, g, d, tk₁, o⟩) :
    wpAny (model PG w) A (pyIter (.ref a)) (CompRestR w A env (.Name x pe) ⟨.Name x px, iter, [c], 0⟩ [] scope pos cl RR) No ⟨h, g, d, tk, o⟩ := by
  refine it_list F N hl fun I h2 F2 N2 st2 fr2 hne hit hsz off => ?_
  have vl : vs.length = ns.length := hi.length
  refine comp_loopX (fs := []) (Walks.list hh I a hne vs.toArray) (fun _ h => nomatch h) (fun _ _ h => nomatch h) hit hsz (by rw [List.size_toArray, vl]; exact hlen) hcell hkind hx (fun D C i ys h g₁ => g₁ = g ∧ IntsAre ys ((ns.take i).filter pr)) (fun _ _ => ⟨rfl, .nil⟩) (fun _ _ _ _ _ _ _ x _ => x) ?_ ?_
  · rintro D C i v ys h3 g3 tk3 mc Qe Qs hD hC hDC hi' hv ⟨rfl, hI⟩ hmx hnc hCs hold hst hpl hQe hQs
    obtain ⟨F3, N3, _⟩ := comp_frames F2 N2 off hC hCs hnc hold
    have hi2 : i < ns.length := by rw [List.size_toArray, vl] at hi'; exact hi'
    obtain ⟨tv, ht⟩ := ints_at hi hi2
    obtain rfl : v = .int (ns.getD i 0) tv := by
      have hv' : vs[i]? = some v := by simpa using hv
      exact Option.some.inj (hv'.symm.trans ht)
    have hg : ns.getD i 0 = ns[i] := by rw [List.getD_eq_getElem?_getD, List.getElem?_eq_getElem hi2]; rfl
    have e1 : (ns.take (i + 1)).filter pr = (ns.take i).filter pr ++ (if pr (ns.getD i 0) = true then [ns.getD i 0] else []) := by
      rw [List.take_add_one, List.getElem?_eq_getElem hi2, List.filter_append, hg]
      show _ ++ List.filter pr [ns[i]] = _
      rw [List.filter_cons, List.filter_nil]
    refine ifs_one (turn C (ns.getD i 0) tv h3 _ mc _ (by rw [hg]; exact List.getElem_mem hi2) hmx F3 N3 hst.2 fun tk' => ?_)
    cases hp : pr (ns.getD i 0) with
    | false =>
      refine ite_no (hQs _ _ _ ⟨fun _ _ _ _ e => e, (fun _ _ _ m => nomatch m), _, hnc⟩ ⟨rfl, ?_⟩)
      rw [e1, hp, if_neg (by decide), List.append_nil]; exact hI
    | true =>
      refine ite_yes (local_at (v := .int (ns.getD i 0) tv) hkind hx hxd hnc hmx (hQe _ _ _ _ ⟨fun _ _ _ _ e => e, (fun _ _ _ m => nomatch m), _, hnc⟩ ⟨rfl, ?_⟩))
      rw [e1, hp, if_pos rfl]; exact hI.append (.cons _ _ .nil)
  · rintro D C h3 g3 tk3 ys mc hD hC hDC hCs hnc hold hpl hlen' ⟨rfl, hI⟩
    have n0 : ∀ b, h2.get? b = none → h.get? b = none := fun b e => by
      exact get_gone (st2 _) e
    rw [List.size_toArray, vl, List.take_length] at hI
    exact done D C h3 tk3 ys mc (n0 _ hD) (n0 _ hC) hDC hnc (fun b ob e => hold.nil b ob (fun q => by (first | exact (ne_get e (fr2) (q)).elim | exact (ne_get (fr2) e (q)).elim | (rw [q, fr2] at e; cases e))) (st2 _ _ e)) hpl hI
end
end Mine
namespace Mine
theorem ints_any {k : Int} {vs : List Value} {ns : List Int} (x : IntsAre vs ns) : vs.any (isInt k) = decide (k ∈ ns) := by
  induction x with
  | nil => rfl
  | cons n t r ih =>
    rw [List.any_cons, ih]
    by_cases h : n = k
    · subst h; simp [isInt]
    · have : ¬ k = n := fun e => h e.symm
      simp [isInt, h, this]
theorem notin_ints {prog : Program} {w : World} {A : Around} {E : Value → Shared → Prop} {s : Shared} {l : Addr} {vs : List Value} {ns : List Int} {k : Int} {t : Tok} {Q : Value → Shared → Prop} (hl : s.heap.IsList l vs.toArray) (hi : IntsAre vs ns)
    (h : Q (.bool (!decide (k ∈ ns))) s) : wpAny (model prog w) A (compareOp .NotIn (.int k t) (.ref l)) Q E s :=
  SeqInW.notIn_listW (isInt k) (fun y hy => eq_isInt k t hi y (by simpa using hy)) hl (by
    rw [show vs.toArray.any (isInt k) = vs.any (isInt k) by simp, ints_any hi]
    exact h)
end Mine

end
section
open PySem PySem.W PyProof.Rows PySem.Spec PySem.Calls
namespace Mine
section
variable {n : Nat} {rank : Nat → Int} {cmp : Nat → Nat → (Bool → Shared → Prop) → Shared → Prop} {s : Shared}
/-- what a comparison answers at s -/
noncomputable def Asks (n : Nat) (rank : Nat → Int) (cmp : Nat → Nat → (Bool → Shared → Prop) → Shared → Prop) (s : Shared) : Prop := ∀ i j (C : Bool → Shared → Prop), i < n → j < n → C (decide (rank i < rank j)) s → cmp i j C s
structure PA (n : Nat) (p : Array Nat) : Prop where
  perm : p.toList.Perm (List.range n)
theorem PA.size {p : Array Nat} (P : PA n p) : p.size = n := by
  have := P.perm.length_eq
  rwa [Array.length_toList, List.length_range] at this
theorem PA.lt {p : Array Nat} (P : PA n p) {k : Nat} (hk : k < n) : p.getD k 0 < n := by
  have h : k < p.size := by rw [P.size]; exact hk
  rw [Array.getD_eq_getD_getElem?, Array.getElem?_eq_getElem h]
  have := P.perm.mem_iff (a := p[k])
  exact List.mem_range.mp (this.mp (by simp))
theorem PA.inj {p : Array Nat} (P : PA n p) {i j : Nat} (hi : i < n) (hj : j < n) (e : p.getD i 0 = p.getD j 0) : i = j := by
  have h1 : i < p.size := by rw [P.size]; exact hi
  have h2 : j < p.size := by rw [P.size]; exact hj
  rw [Array.getD_eq_getD_getElem?, Array.getElem?_eq_getElem h1, Array.getD_eq_getD_getElem?, Array.getElem?_eq_getElem h2] at e
  have nd : p.toList.Nodup := P.perm.nodup_iff.mpr List.nodup_range
  have e' : p.toList[i]'(by simpa using h1) = p.toList[j]'(by simpa using h2) := by simpa using e
  have a1 := nd.idxOf_getElem i (by simpa using h1)
  have a2 := nd.idxOf_getElem j (by simpa using h2)
  rw [e'] at a1
  exact a1.symm.trans a2
noncomputable def Asc (rank : Nat → Int) (p : Array Nat) (b : Nat) : Prop := ∀ i, i + 1 < b → rank (p.getD i 0) < rank (p.getD (i + 1) 0)
theorem Asc.lt {p : Array Nat} {b : Nat} (h : Asc rank p b) {i j : Nat} (hij : i < j) (hj : j < b) : rank (p.getD i 0) < rank (p.getD j 0) := by
  induction j with
  | zero => omega
  | succ j ih =>
    have h1 := h j hj
    rcases Nat.lt_or_ge i j with q | q
    · have := ih q (by exact (Nat.lt_of_succ_lt hj)); exact (Int.lt_of_lt_of_le this (Int.le_of_lt h1))
    · obtain rfl : i = j := by exact (Nat.le_antisymm (Nat.le_of_lt_succ hij) q)
      exact h1
variable (hr : ∀ i j, i < n → j < n → rank i = rank j → i = j) (ha : Asks n rank cmp s)
include hr
theorem rank_ne {p : Array Nat} (P : PA n p) {i j : Nat} (hi : i < n) (hj : j < n) (hij : i ≠ j) : rank (p.getD i 0) ≠ rank (p.getD j 0) := fun e => hij (P.inj hi hj (hr _ _ (P.lt hi) (P.lt hj) e))
include ha
theorem ks_asc {p : Array Nat} (P : PA n p) {Q : Nat → Shared → Prop} : ∀ (f m : Nat), m + f = n → 1 ≤ m → Asc rank p m →
    (∀ m', m ≤ m' → m' ≤ n → Asc rank p m' → (m' < n → rank (p.getD m' 0) < rank (p.getD (m' - 1) 0)) → Q m' s) → (kas_asc p f m).kasWp cmp Q s
  | 0, m, h, _, hA, k => k m (Nat.le_refl _) (by exact (Nat.le_of_eq h)) hA (fun q => by omega)
  | f + 1, m, h, h1, hA, k => by
    refine ha _ _ _ (P.lt (by exact (Nat.lt_of_lt_of_le (Nat.lt_succ_of_le (Nat.le_add_right _ _)) (Nat.le_of_eq h)))) (P.lt (by omega)) ?_
    by_cases hc : rank (p.getD m 0) < rank (p.getD (m - 1) 0)
    · simp only [hc, decide_true, if_true]
      exact k m (Nat.le_refl _) (by exact (Nat.le_trans (Nat.le_add_right _ _) (Nat.le_of_eq h))) hA fun _ => hc
    · simp only [hc, decide_false, Bool.false_eq_true, if_false]
      have hn := rank_ne hr P (i := m - 1) (j := m) (by omega) (by exact (Nat.lt_of_lt_of_le (Nat.lt_succ_of_le (Nat.le_add_right _ _)) (Nat.le_of_eq h))) (by exact (Nat.ne_of_lt (Nat.sub_lt_self (by decide) h1)))
      refine ks_asc P f (m + 1) (by omega) (by exact (Nat.le_add_left _ _)) (fun i hi => ?_) fun m' h1 h2 h3 h4 => k m' (by exact (Nat.le_of_succ_le h1)) h2 h3 h4
      rcases Nat.lt_or_ge (i + 1) m with q | q
      · exact hA i q
      · obtain rfl : m = i + 1 := by exact (Nat.le_antisymm q (Nat.le_of_lt_succ hi))
        rw [Nat.add_sub_cancel] at hc hn
        omega
theorem ks_desc {p : Array Nat} (P : PA n p) {Q : Array Nat × Nat × Nat → Shared → Prop} : ∀ (f m : Nat), m + f = n → 2 ≤ m → (∀ i, i + 1 < m → rank (p.getD (i + 1) 0) < rank (p.getD i 0)) →
    (∀ m', m ≤ m' → m' ≤ n → (∀ i, i + 1 < m' → rank (p.getD (i + 1) 0) < rank (p.getD i 0)) → Q (p, m', 0) s) → (kas_desc f p m 0).kasWp cmp Q s
  | 0, m, h, _, hA, k => k m (Nat.le_refl _) (by exact (Nat.le_of_eq h)) hA
  | f + 1, m, h, h1, hA, k => by
    refine ha _ _ _ (P.lt (by exact (Nat.lt_of_lt_of_le (Nat.lt_succ_of_le (Nat.le_add_right _ _)) (Nat.le_of_eq h)))) (P.lt (by omega)) ?_
    by_cases hc : rank (p.getD m 0) < rank (p.getD (m - 1) 0)
    · simp only [hc, decide_true, if_true]
      rw [if_neg (by decide)]
      refine ks_desc P f (m + 1) (by omega) (by exact (Nat.le_succ_of_le h1)) (fun i hi => ?_) fun m' h1 h2 h3 => k m' (by exact (Nat.le_of_succ_le h1)) h2 h3
      rcases Nat.lt_or_ge (i + 1) m with q | q
      · exact hA i q
      · obtain rfl : m = i + 1 := by exact (Nat.le_antisymm q (Nat.le_of_lt_succ hi))
        rw [Nat.add_sub_cancel] at hc
        exact hc
    · simp only [hc, decide_false, Bool.false_eq_true, if_false]
      have hn := rank_ne hr P (i := m - 1) (j := m) (by omega) (by exact (Nat.lt_of_lt_of_le (Nat.lt_succ_of_le (Nat.le_add_right _ _)) (Nat.le_of_eq h))) (by exact (Nat.ne_of_lt (Nat.sub_lt_self (by decide) (Nat.le_of_succ_le h1))))
      refine ha _ _ _ (P.lt (by omega)) (P.lt (by exact (Nat.lt_of_lt_of_le (Nat.lt_succ_of_le (Nat.le_add_right _ _)) (Nat.le_of_eq h)))) ?_
      rw [decide_eq_true (by omega)]
      dsimp only
      rw [if_pos rfl]
      exact k m (Nat.le_refl _) (by exact (Nat.le_trans (Nat.le_add_right _ _) (Nat.le_of_eq h))) hA
theorem ks_place {p : Array Nat} (P : PA n p) {k : Nat} (hk : k < n) (hA : Asc rank p k) {Q : Nat → Shared → Prop} : ∀ (f l r : Nat), l ≤ r → r ≤ k → r - l ≤ f → (∀ i, i < l → rank (p.getD i 0) < rank (p.getD k 0)) → (∀ i, r ≤ i → i < k → rank (p.getD k 0) < rank (p.getD i 0)) →
    (∀ l, l ≤ k → (∀ i, i < l → rank (p.getD i 0) < rank (p.getD k 0)) → (∀ i, l ≤ i → i < k → rank (p.getD k 0) < rank (p.getD i 0)) → Q l s) → (kas_place p k f l r).kasWp cmp Q s
  | 0, l, r, h1, h2, h3, hl, hrr, q => q l (by exact (Nat.le_trans h1 h2)) hl (fun i a b => hrr i (by omega) b)
  | f + 1, l, r, h1, h2, h3, hl, hrr, q => by
    unfold kas_place
    by_cases hlr : l ≥ r
    · rw [if_pos hlr]
      exact q l (by exact (Nat.le_trans h1 h2)) hl (fun i a b => hrr i (by exact (Nat.le_trans hlr a)) b)
    · rw [if_neg hlr]
      refine ha _ _ _ (P.lt hk) (P.lt (by omega)) ?_
      by_cases hc : rank (p.getD k 0) < rank (p.getD ((l + r) / 2) 0)
      · simp only [hc, decide_true, if_true]
        refine ks_place P hk hA f l ((l + r) / 2) (by omega) (by omega) (by omega) hl (fun i a b => ?_) q
        rcases Nat.lt_or_ge ((l + r) / 2) i with z | z
        · have := hA.lt z b; exact (Int.lt_of_lt_of_le hc (Int.le_of_lt this))
        · obtain rfl : i = (l + r) / 2 := by exact (Nat.le_antisymm z a)
          exact hc
      · simp only [hc, decide_false, Bool.false_eq_true, if_false]
        have hn := rank_ne hr P (i := k) (j := (l + r) / 2) (by exact hk) (by omega) (by omega)
        refine ks_place P hk hA f ((l + r) / 2 + 1) r (by omega) (by exact h2) (by omega) (fun i a => ?_) hrr q
        rcases Nat.lt_or_ge i ((l + r) / 2) with z | z
        · have := hA.lt z (by omega); exact (Int.lt_of_lt_of_le this (Int.not_lt.mp hc))
        · obtain rfl : i = (l + r) / 2 := by exact (Nat.le_antisymm (Nat.le_of_lt_succ a) z)
          omega
theorem ks_bin {Q : Array Nat → Shared → Prop} (q : ∀ p, PA n p → Asc rank p n → Q p s) : ∀ (f k : Nat) (p : Array Nat), k + f = n → 1 ≤ k → PA n p → Asc rank p k → (kas_bin f p k).kasWp cmp Q s
  | 0, k, p, h, _, P, hA => q p P (by obtain rfl : k = n := by exact h
                                      exact hA)
  | f + 1, k, p, h, h1, P, hA => by
    unfold kas_bin
    rw [KasT.kasWp_bind]
    refine ks_place hr ha P (k := k) (by exact (Nat.lt_of_lt_of_le (Nat.lt_succ_of_le (Nat.le_add_right _ _)) (Nat.le_of_eq h))) hA k 0 k (Nat.zero_le _) (Nat.le_refl _) (by exact (Nat.le_refl _)) (fun i hi => by omega) (fun i a b => by omega) fun l hl h1 h2 => ?_
    have hsz := P.size
    have P' : PA n (bubble p k (k - l)) := ⟨(Array.perm_iff_toList_perm.mp (bubble_perm p k (k - l))).trans P.perm⟩
    have at_ : ∀ j, (bubble p k (k - l)).getD j 0 = if j = l then p.getD k 0 else if l < j ∧ j ≤ k then p.getD (j - 1) 0 else p.getD j 0 := fun j => by
      simp only [Array.getD_eq_getD_getElem?]
      rw [getElem?_bubble (by omega) (k - l) (by exact (Nat.sub_le _ _)) j, show k - (k - l) = l by omega]
      split
      · rfl
      · split <;> rfl
    refine ks_bin q f (k + 1) _ (by omega) (by exact (Nat.le_add_left _ _)) P' fun i hi => ?_
    rw [at_, at_]
    rcases Nat.lt_trichotomy i l with z | z | z
    · rw [if_neg (by exact (Nat.ne_of_lt z)), if_neg (by omega)]
      by_cases e : i + 1 = l
      · rw [if_pos e]; exact h1 i z
      · rw [if_neg e, if_neg (by omega)]; exact hA i (by omega)
    · rw [if_pos z, if_neg (by omega), if_pos (by exact ⟨(Nat.lt_succ_of_le (Nat.le_of_eq (Eq.symm z))), (Nat.le_of_lt_succ hi)⟩), Nat.add_sub_cancel]
      exact h2 i (by exact (Nat.le_of_eq (Eq.symm z))) (by exact (Nat.lt_of_lt_of_le (Nat.lt_succ_self _) (Nat.le_of_lt_succ hi)))
    · rw [if_neg (by exact (Nat.ne_of_gt z)), if_pos (by exact ⟨z, (Nat.le_trans (Nat.le_succ _) (Nat.le_of_lt_succ hi))⟩), if_neg (by exact (Nat.ne_of_gt (Nat.lt_succ_of_lt z))), if_pos (by exact ⟨(Nat.lt_succ_of_lt z), (Nat.le_of_lt_succ hi)⟩), Nat.add_sub_cancel]
      have := hA (i - 1) (by omega)
      rwa [show i - 1 + 1 = i by omega] at this
theorem ks_sort (h2 : 2 ≤ n) {Q : Array Nat → Shared → Prop} (q : ∀ p, PA n p → Asc rank p n → Q p s) : (kas_sort n).kasWp cmp Q s := by
  have P0 : PA n (List.toArray (List.range n)) := ⟨by simp⟩
  have fin : ∀ (m : Nat) (p : Array Nat), 1 ≤ m → m ≤ n → PA n p → Asc rank p m → (if m < n then kas_bin (n - max m 1) p (max m 1) else .ret p : KasT (Array Nat)).kasWp cmp Q s := fun m p h1 h2 P hA => by
    by_cases hm : m < n
    · rw [if_pos hm, show max m 1 = m by omega]
      exact ks_bin hr ha q (n - m) m p (by omega) h1 P hA
    · rw [if_neg hm]
      exact q p P (by obtain rfl : m = n := by exact (Nat.le_antisymm h2 (Nat.le_of_not_lt hm))
                      exact hA)
  have tail : ∀ (m : Nat) (p : Array Nat), 1 ≤ m → m ≤ n → PA n p → (∀ i, i + 1 < m → rank (p.getD (i + 1) 0) < rank (p.getD i 0)) →
      (kas_tail3 m n p).kasWp cmp (fun r s' => (if r.1 < n then kas_bin (n - max r.1 1) r.2 (max r.1 1) else .ret r.2 : KasT (Array Nat)).kasWp cmp Q s') s := fun m p h1 h2 P hD => by
    unfold kas_tail3 kas_rev
    rw [KasT.kasWp_bind]
    have hsz := P.size
    have P' : PA n (mirror p 0 m ((m - 0) / 2)) := ⟨(Array.perm_iff_toList_perm.mp (mirror_perm p 0 m _)).trans P.perm⟩
    have at_ : ∀ j, j < m → (mirror p 0 m ((m - 0) / 2)).getD j 0 = p.getD (m - 1 - j) 0 := fun j hj => by
      simp only [Array.getD_eq_getD_getElem?]
      rw [getElem?_mirror (by exact (Nat.le_trans h2 (Nat.le_of_eq (Eq.symm hsz)))) _ (by omega) j]
      split
      · rw [show 0 + m - 1 - j = m - 1 - j by omega]
      · rw [show m - 1 - j = j by omega]
    refine ks_asc hr ha P' (n - m) m (by omega) h1 (fun i hi => ?_) fun m' h3 h4 hA _ => fin m' _ (by exact (Nat.le_trans h1 h3)) h4 P' hA
    rw [at_ i (by exact (Nat.lt_of_succ_lt hi)), at_ (i + 1) (by exact hi)]
    have := hD (m - 1 - (i + 1)) (by omega)
    rwa [show m - 1 - (i + 1) + 1 = m - 1 - i by omega] at this
  unfold kas_sort kas_count
  rw [KasT.kasWp_bind, KasT.kasWp_bind]
  refine ks_asc hr ha P0 (n - 1) 1 (by omega) (Nat.le_refl _) (fun i hi => by omega) fun m h3 h4 hA hb => ?_
  by_cases e : m = n
  · subst e
    rw [if_pos (by simp)]
    exact fin m _ h3 h4 P0 hA
  · rw [if_neg (by simpa using e)]
    have hb := hb (by exact (Nat.lt_of_le_of_ne h4 e))
    by_cases e1 : m > 1
    · rw [if_pos e1]
      refine ha _ _ _ (P0.lt (by exact (Nat.lt_of_lt_of_le (Nat.succ_pos _) h2))) (P0.lt (by omega)) ?_
      rw [decide_eq_true (hA.lt (by omega) (by exact (Nat.sub_lt_self (by decide) h3)))]
      dsimp only
      rw [if_pos rfl]
      exact fin m _ h3 h4 P0 hA
    · obtain rfl : m = 1 := by exact (Nat.le_antisymm (Nat.le_of_not_lt e1) h3)
      rw [if_neg e1]
      unfold kas_descPart
      rw [KasT.kasWp_bind]
      refine ks_desc hr ha P0 (n - (1 + 1)) (1 + 1) (by omega) (Nat.le_refl _) (fun i hi => ?_) fun m' h5 h6 hD => ?_
      · obtain rfl : i = 0 := by omega
        exact hb
      · rw [if_neg (show ¬ ((0 : Nat) > 0) by decide)]
        exact tail m' _ (by exact (Nat.le_of_succ_le h5)) h6 P0 hD
end
end Mine

end
section
open PySem PySem.W PyProof.Rows PySem.Spec PySem.Calls
namespace Mine
theorem pick_all {P : Nat → Value → List Value → Prop} : ∀ {zs : List Value} {n : Nat}, (∀ j v, zs[j]? = some v → ∃ r, P (n + j) v r) → ∃ rws : List (List Value), rws.length = zs.length ∧ ∀ j r, rws[j]? = some r → ∃ v, zs[j]? = some v ∧ P (n + j) v r
  | [], _, _ => ⟨[], rfl, fun j r e => by simp at e⟩
  | z :: zs, n, h => by
    obtain ⟨r, hr⟩ := h 0 z rfl
    obtain ⟨rws, hl, ht⟩ := pick_all (zs := zs) (n := n + 1) fun j v e => by
      obtain ⟨r, x⟩ := h (j + 1) v (by simpa using e)
      exact ⟨r, by rw [show n + 1 + j = n + (j + 1) by omega]; exact x⟩
    refine ⟨r :: rws, by simp [hl], fun j x e => ?_⟩
    cases j with
    | zero =>
      obtain rfl : r = x := by simpa using e
      exact ⟨z, rfl, hr⟩
    | succ j =>
      obtain ⟨v, e1, e2⟩ := ht j x (by simpa using e)
      exact ⟨v, by simpa using e1, by rw [show n + (j + 1) = n + 1 + j by omega]; exact e2⟩
theorem strs_flat {rws : List (List Value)} : ∀ {f : Nat → List Str}, (∀ (j : Nat) r, rws[j]? = some r → StrsAre r (f j)) → StrsAre rws.flatten ((List.range rws.length).flatMap f) := by
  induction rws with
  | nil => exact fun _ => .nil
  | cons r rws ih =>
    intro f h
    rw [List.flatten_cons, List.length_cons, List.range_succ_eq_map, List.flatMap_cons, List.flatMap_map]
    exact strs_append (h 0 r rfl) (ih fun j x e => h (j + 1) x e)
theorem flat_len {f : Nat → List Str} {M : Nat} {n : Nat} : (∀ j, j < n → (f j).length ≤ M) → ((List.range n).flatMap f).length ≤ n * M := by
  induction n with
  | zero => exact fun _ => Nat.zero_le _
  | succ n ih =>
    intro h
    rw [List.range_succ, List.flatMap_append, List.length_append, Nat.succ_mul]
    refine Nat.add_le_add (ih fun j hj => h j (Nat.lt_succ_of_lt hj)) ?_
    rw [List.flatMap_singleton]
    exact h n (Nat.lt_succ_self n)
theorem keysS_of : ∀ {kvs : List (Str × Value)} {C : List Value → Prop}, (∀ vs, StrsAre vs (kvs.map (·.1)) → C vs) → KdlKeysS kvs C
  | [], _, h => h [] .nil
  | _ :: _, _, h => fun _ => keysS_of fun _ hs => h _ (.cons _ _ hs)
/-- the list's members, each at its first place -/
noncomputable def dd {α : Type} [DecidableEq α] (xs : List α) : List α := xs.foldl (fun acc x => if x ∈ acc then acc else acc ++ [x]) []
theorem dd_len_from {α : Type} [DecidableEq α] : ∀ (xs acc : List α), (xs.foldl (fun acc x => if x ∈ acc then acc else acc ++ [x]) acc).length ≤ acc.length + xs.length
  | [], _ => Nat.le_refl _
  | x :: xs, acc => by
    rw [List.foldl_cons, List.length_cons]
    refine Nat.le_trans (dd_len_from xs _) ?_
    split
    · exact (Nat.le_succ _)
    · rw [List.length_append]; simp; omega
theorem dd_len {α : Type} [DecidableEq α] (xs : List α) : (dd xs).length ≤ xs.length := by
  have := dd_len_from xs []
  simpa [dd] using this
noncomputable def ddk (xs : List Str) : List (Str × Value) := xs.map fun x => (x, Value.none)
theorem ddk_keys {xs : List Str} : (ddk xs).map (·.1) = xs := by
  unfold ddk
  rw [List.map_map]
  exact List.map_id _
theorem ddk_store {acc : List Str} {x : Str} : stored (ddk acc) x Value.none = ddk (if x ∈ acc then acc else acc ++ [x]) := by
  unfold stored ddk
  by_cases h : x ∈ acc
  · rw [if_pos h, if_pos (by simpa using h), List.map_map]
    refine List.map_congr_left fun y _ => ?_
    simp only [Function.comp]
    split
    · rename_i e; rw [e]
    · rfl
  · rw [if_neg h, if_neg (by simpa using h), List.map_append]
    rfl
noncomputable abbrev bObj (id T : String) : Obj := { cls := .type "builtin_function_or_method", data := .fields #[.builtin id, .type T] }
theorem fk_check (D : Addr) : checkBoundCall "dict.fromkeys" ⟨[.type "dict", .ref D], []⟩ = pure () := by kernel_rfl
theorem fk_isType : isType (.type "dict") = pure true := by first | rfl | kernel_rfl | (unfold isType; rw [isSubtype_type]; kernel_rfl)
theorem fk_entry : entryFor table "dict.fromkeys" = some Builtin.«dict.fromkeys» := entryFor_of_tree (by kernel_rfl)
theorem fk_entryL : entryFor table "dict.fromkeys.loop" = some Builtin.«dict.fromkeys.loop» := entryFor_of_tree (by kernel_rfl)
theorem fk_quiet {as : Args} : (Code.builtin "dict.fromkeys" as).quiet = true := Code.quiet_builtin _ (by decide +kernel)
theorem fk_quietL {as : Args} : (Code.builtin "dict.fromkeys.loop" as).quiet = true := Code.quiet_builtin _ (by decide +kernel)
theorem fk_typeCall : checkTypeCall "dict" ⟨[], []⟩ = pure () := by kernel_rfl
theorem fk_newCall : checkBuiltinCall "dict.__new__" ⟨[.type "dict"], []⟩ = pure () := by kernel_rfl
section
variable {w : World} {A : Around} {g : Array GenState} {d : Drawn} {o : OsState} {R : Result → Shared → Prop} {E : Value → Shared → Prop} {s : Shared}
theorem so_if {α : Type} {a b : Sem α} {c : Bool} {Q : α → Shared → Prop} (hc : c = true) (h : wpAny (model PG w) A a Q E s) : wpAny (model PG w) A (if c = true then a else b) Q E s := by subst hc; exact h
theorem not_if {α : Type} {a b : Sem α} {c : Bool} {Q : α → Shared → Prop} (hc : c = false) (h : wpAny (model PG w) A b Q E s) : wpAny (model PG w) A (if c = true then a else b) Q E s := by subst hc; exact h
/-- dict() -/
theorem call_dict0 {Q : Value → Shared → Prop} (h : Q (.ref s.heap.objs.size) { s with heap := s.heap.push { cls := .type "dict", data := .dict #[] } }) :
    wpAny (model PG w) A (call (.type "dict") []) Q E s := by
  refine callType_codes (Q₁ := fun obj s₁ => obj = .ref s.heap.objs.size ∧ s₁ = { s with heap := s.heap.push { cls := .type "dict", data := .dict #[] } }) F.kt_called_dict fk_typeCall F.entry_dict_init ?_ ?_
  · refine codeAny_call_builtin F.kt_plain_dict_new F.kt_entry_dict_new (wpAny_of_eq fk_newCall ?_)
    have hsub := F.kt_sub_dict
    have hmro := F.kt_mro_dict
    obtain ⟨hp, g, d, tk, os⟩ := s
    unfold Builtin.«dict.__new__»
    wp_walk
    exact ⟨rfl, rfl⟩
  · rintro obj s₁ ⟨rfl, rfl⟩
    have hnew : (s.heap.push { cls := .type "dict", data := .dict #[] }).DictOf (strKind PG w) s.heap.objs.size [] := Heap.DictOf.new s.heap
    refine ⟨hnew.typeIs, F.args_dict_init_1 _, ?_⟩
    unfold Builtin.«dict.__init__»
    refine wpAny_bind ?_
    unfold Builtin.Dict.selfAndRest
    refine wpAny_bind (wpAny_notOrdered_dict hnew.typeIs ?_)
    show wpAny _ _ (pure (s.heap.objs.size, ([] : List Value))) _ _ _
    refine wpAny_pure ?_
    show wpAny _ _ (Builtin.Dict.addKeywords s.heap.objs.size [] >>= _) _ _ _
    exact wpAny_bind (wpAny_pure (wpAny_pure ⟨rfl, h⟩))
theorem fk_loop {I D a : Addr} {vs : List Value} {xs : List Str} {h₀ : Heap} (hh : A.handled = none) (hs : StrsAre vs xs) (hDI : a ≠ I) (hdI : D ≠ I) (had : a ≠ D) (hsz : xs.length ≤ 1000000)
    (k : ∀ h' tk', (∀ b ob, b ≠ I → b ≠ D → h₀.get? b = some ob → h'.get? b = some ob) → h'.DictOf (strKind PG w) D (ddk (dd xs)) → R (.ok (.ret (.ref D))) ⟨h', g, d, tk', o⟩) :
    ∀ (n j : Nat) (h : Heap) (tk : Nat) (acc : List Str), n + j = xs.length → acc.length ≤ j → (xs.drop j).foldl (fun acc x => if x ∈ acc then acc else acc ++ [x]) acc = dd xs → (h.IsListIter I a j ∧ h.IsList a vs.toArray) → h.DictOf (strKind PG w) D (ddk acc) →
      (∀ b ob, b ≠ I → b ≠ D → h₀.get? b = some ob → h.get? b = some ob) →
      codeAny (model PG w) A (.builtin "dict.fromkeys.loop" ⟨[.ref D, .ref I, .none], []⟩) R ⟨h, g, d, tk, o⟩ := by
  have W := Walks.list (prog := PG) (w := w) (A := A.under (.builtin "dict.fromkeys.loop" ⟨[.ref D, .ref I, .none], []⟩)) hh I a hDI vs.toArray
  have hl : vs.length = xs.length := strs_len hs
  intro n
  induction n with
  | zero =>
    intro j h tk acc hj hac hdd st hd keep
    refine codeAny_builtin fk_entryL ?_
    unfold Builtin.«dict.fromkeys.loop»
    refine wpAny_bind (W.done _ _ _ (by rw [List.size_toArray, hl, ← hj, Nat.zero_add]; exact st) fun h₂ tk₂ hk₂ => ?_)
    refine wpAny_pure ?_
    rw [List.drop_eq_nil_of_le (by exact (Nat.le_trans (Nat.le_of_eq (Eq.symm hj)) (Nat.le_of_eq (Nat.add_comm _ _)))), List.foldl_nil] at hdd
    subst hdd
    exact k _ _ (fun b ob b1 b2 e => hk₂ b ob (by simpa using b1) (keep b ob b1 b2 e)) (by
      obtain ⟨ob, es, ep, e1, r⟩ := hd
      exact ⟨ob, es, ep, hk₂ _ _ (by simpa using hdI) e1, r⟩)
  | succ n ih =>
    intro j h tk acc hj hac hdd st hd keep
    refine codeAny_builtin fk_entryL ?_
    unfold Builtin.«dict.fromkeys.loop»
    refine wpAny_bind (W.item j _ _ _ (by rw [List.size_toArray]; omega) st fun v h₂ tk₂ hv st₂ hk₂ => ?_)
    obtain ⟨t, ht⟩ := strs_at hs (i := j) (by omega)
    obtain rfl : v = .str (xs.getD j Str.empty) t := by
      have hv' : vs[j]? = some v := by simpa using hv
      exact Option.some.inj (hv'.symm.trans ht)
    have hd₂ : h₂.DictOf (strKind PG w) D (ddk acc) := by
      obtain ⟨ob, es, ep, e1, r⟩ := hd
      exact ⟨ob, es, ep, hk₂ _ _ (by simpa using hdI) e1, r⟩
    refine wpAny_bind (wpAny_typeOf hd₂.typeIs ?_)
    refine so_if rfl ?_
    refine wpAny_bind (wpAny_of_eq (a := D) rfl (wpAny_bind (wpAny_holding ?_)))
    refine wpAny_dictSet_pairs (strKind_is _ _ _ _) hd₂ (fun h₃ hd₃ hs₃ => ?_) (by rw [sizeLine_eq]; simp only [ddk, List.length_map]; omega)
    rw [ddk_store] at hd₃
    have e1 : xs.drop j = xs.getD j Str.empty :: xs.drop (j + 1) := by
      rw [List.drop_eq_getElem_cons (by omega), List.getD_eq_getElem?_getD, List.getElem?_eq_getElem (by omega)]; rfl
    rw [e1, List.foldl_cons] at hdd
    refine wpAny_pure ⟨fk_quietL, ih (j + 1) h₃ _ _ (by omega) ?_ hdd (W.frame _ _ _ st₂ fun b hb ob e => hs₃.extBut b ob (fun q => ?_) e) hd₃ fun b ob b1 b2 e => hs₃.extBut b ob b2 (hk₂ b ob (by simpa using b1) (keep b ob b1 b2 e))⟩
    · split
      · exact (Nat.le_succ_of_le hac)
      · rw [List.length_append]; simp; exact hac
    · simp only [List.mem_cons, List.not_mem_nil, or_false] at hb
      rcases hb with rfl | rfl
      · exact hdI q.symm
      · exact had q
/-- dict.fromkeys of a list of strings -/
theorem fromkeys_own {u a : Addr} {vs : List Value} {xs : List Str} {h : Heap} {tk : Nat} {Q : Value → Shared → Prop} (hh : A.handled = none) (hu : h.get? u = some (bObj "dict.fromkeys" "dict")) (hl : h.IsList a vs.toArray) (hs : StrsAre vs xs) (hsz : xs.length ≤ 1000000)
    (k : ∀ h' tk', h.StaysIn h' → h'.DictOf (strKind PG w) h.objs.size (ddk (dd xs)) → Q (.ref h.objs.size) ⟨h', g, d, tk', o⟩) :
    wpAny (model PG w) A (call (.ref u) [.ref a]) Q E ⟨h, g, d, tk, o⟩ := by
  refine wpAny_call (codeAny_of_tree ?_)
  show wpAny _ A.in1 (callAny (.ref u) ⟨[.ref a], []⟩) _ _ _
  simp only [callAny]
  refine wpAny_bind (wpAny_load hu ?_)
  simp only [show (Value.type "builtin_function_or_method" == Value.type "method" || Value.type "builtin_function_or_method" == Value.type "builtin_function_or_method" || Value.type "builtin_function_or_method" == Value.type "method-wrapper") = true by decide, if_true]
  refine so_if (by decide) ?_
  refine wpAny_bind (wpAny_of_eq (a := ()) (fk_check a) ?_)
  refine wpAny_bind (wpAny_pure (wpAny_pure ⟨fk_quiet, codeAny_builtin fk_entry ?_⟩))
  unfold Builtin.«dict.fromkeys»
  refine wpAny_bind (wpAny_of_eq (a := true) fk_isType ?_)
  refine not_if rfl ?_
  refine wpAny_bind (wpAny_of_eq (a := true) F.kt_sub_dict ?_)
  refine not_if rfl ?_
  refine not_if rfl ?_
  refine wpAny_bind (wpAny_rule (wpAny_bind (wpAny_pure ?_)))
  refine wpAny_bind (call_dict0 (wpAny_holding ?_))
  have hnew : (h.push { cls := .type "dict", data := .dict #[] }).DictOf (strKind PG w) h.objs.size [] := Heap.DictOf.new h
  have hl₁ : (h.push { cls := .type "dict", data := .dict #[] }).IsList a vs.toArray := hl.at fun ob e => Heap.get?_push_of_some _ e
  obtain ⟨oa, ea, _⟩ := id hl
  generalize hH : h.push { cls := .type "dict", data := .dict #[] } = H1 at hnew hl₁ ⊢
  have hs1 : H1.objs.size = h.objs.size + 1 := by rw [← hH, Heap.size_push]
  have kp1 : ∀ b ob, h.get? b = some ob → H1.get? b = some ob := fun b ob e => hH ▸ Heap.get?_push_of_some _ e
  refine wpAny_bind (wpAny_typeOf hl₁.typeIs ?_)
  refine wpAny_bind (wpAny_typeOf hnew.typeIs ?_)
  refine not_if (by decide) ?_
  refine wpAny_bind (wpAny_typeOf hnew.typeIs ?_)
  refine not_if (by decide) ?_
  refine wpAny_bind (wpAny_pyIter_list hl₁ ?_)
  have kp : ∀ b ob, H1.get? b = some ob → (H1.push { cls := .type "list_iterator", data := .fields #[.ref a, .int 0 0] }).get? b = some ob := fun b ob e => Heap.get?_push_of_some _ e
  have ltI : ∀ b ob, h.get? b = some ob → b ≠ H1.objs.size := fun b ob e => by rw [hs1]; exact Nat.ne_of_lt (Nat.lt_succ_of_lt (Heap.lt_size e))
  refine wpAny_pure ⟨fk_quietL, fk_loop (I := H1.objs.size) (h₀ := h) hh hs (ltI _ _ ea) (by rw [hs1]; exact Nat.ne_of_lt (Nat.lt_succ_self _)) (Nat.ne_of_lt (Heap.lt_size ea)) hsz (fun h' tk' kk hd' => k h' tk' (fun b ob e => kk b ob (ltI _ _ e) (Nat.ne_of_lt (Heap.lt_size e)) e) hd') xs.length 0 _ _ [] (by exact rfl) (Nat.le_refl _) rfl ⟨⟨_, Heap.get?_push_size _ rfl, rfl, rfl⟩, hl₁.at fun ob e => kp _ _ e⟩ (by
    obtain ⟨ob, es, ep, e1, r⟩ := hnew
    exact ⟨ob, es, ep, kp _ _ e1, r⟩) fun b ob b1 b2 e => kp _ _ (kp1 _ _ e)⟩
/-- a bound builtin is called: its arguments first -/
theorem callWith_bo {pos : Pos} {u : Addr} {id T : String} {first : List Value} {env : Env} {e : Expr} {rest : List Expr} {Q : Value → Shared → Prop}
    (h : wpAny (model PG w) A (spliced (backTo pos (starEach (e :: rest) env))) (fun vs s₁ => s₁.heap.get? u = some (bObj id T) ∧ wpAny (model PG w) A (call (.ref u) (first ++ vs)) Q E s₁) E s)
    (he : starEach (e :: rest) env = (false, eval e env) :: starEach rest env := by rfl) (hplain : (backTo pos (starEach rest env)).any (·.1) = false := by rfl) :
    wpAny (model PG w) A (callWith pos (.ref u) first (backTo pos (starEach (e :: rest) env)) []) Q E s := by
  rw [he] at h ⊢
  have hp : (backTo pos ((false, eval e env) :: starEach rest env)).any (·.1) = false := by show (false || (backTo pos (starEach rest env)).any (·.1)) = false; rw [hplain]; rfl
  have h2 : wpAny (model PG w) A (evalArgs (.ref u) true (backTo pos ((false, eval e env) :: starEach rest env)) []) (fun x s₁ => s₁.heap.get? u = some (bObj id T) ∧ wpAny (model PG w) A (call (.ref u) (first ++ x.pos) x.kw) Q E s₁) E s := evalArgs_plain h
  unfold callWith
  refine wpAny_bind (wpAny_holding (wpAny_mono h2 (fun x s₁ h₁ => wpAny_bind (wpAny_standAt ?_)) fun _ _ x => x))
  obtain ⟨ho, hcall⟩ := h₁
  simp only [hp, List.any_nil, Bool.or_false]
  refine wpAny_bind (m := keeperOf (.ref u)) ?_
  unfold keeperOf
  refine wpAny_bind (wpAny_load ho ?_)
  simp only [show (Value.type "builtin_function_or_method" != Value.type "method") = true by decide, show (Value.type "builtin_function_or_method" == Value.type "builtin_function_or_method" || Value.type "builtin_function_or_method" == Value.type "method-wrapper") = true by decide, if_true]
  refine wpAny_pure ?_
  exact wpAny_bind (wpAny_mono hcall (fun r s₂ hr => wpAny_bind (wpAny_holding (wpAny_point (wpAny_pure hr)))) fun _ _ x => x)
end
end Mine

end
section
open PySem PySem.W PyProof.Rows PySem.Spec PySem.Calls
namespace Mine
noncomputable def AtIntsN (h : Heap) (a : Addr) (ns : List Int) : Prop := ∃ vs, h.PlainList a vs.toArray ∧ IntsAre vs ns
noncomputable def entAt (ns : List Int) (j : Int) (k : Nat) : List Int :=
  if Int.fmod (Int.fdiv (ns.getD k 0) 3 + j + k) 3 = 0 then [] else [Int.fmod (Int.fdiv (ns.getD k 0) 7 + (j + 2) * k) 9]
noncomputable def entries (ns : List Int) (j : Int) : List Int := (List.range 8).flatMap (entAt ns j)
theorem ent_yes {ns : List Int} {j : Int} {i : Nat} {ys : List Value} {t : Tok} (hI : IntsAre ys ((List.range i).flatMap (entAt ns j))) (hc : ¬ Int.fmod (Int.fdiv (ns.getD i 0) 3 + j + i) 3 = 0) :
    IntsAre (ys ++ [.int (Int.fmod (Int.fdiv (ns.getD i 0) 7 + (j + 2) * i) 9) t]) ((List.range (i + 1)).flatMap (entAt ns j)) := by
  rw [List.range_succ, List.flatMap_append, List.flatMap_singleton, entAt, if_neg hc]
  exact hI.append (.cons _ _ .nil)
theorem ent_no {ns : List Int} {j : Int} {i : Nat} {ys : List Value} (hI : IntsAre ys ((List.range i).flatMap (entAt ns j))) (hc : Int.fmod (Int.fdiv (ns.getD i 0) 3 + j + i) 3 = 0) :
    IntsAre ys ((List.range (i + 1)).flatMap (entAt ns j)) := by
  rw [List.range_succ, List.flatMap_append, List.flatMap_singleton, entAt, if_pos hc, List.append_nil]
  exact hI
section
variable {w : World} {p : Program} {loose : List Str} {mean : ExcName → Option Value} {mg mb : Str → Option Value}
set_option maxHeartbeats 1000000 in
theorem entries_tells {n : Nat} (ns : List Int) (hl : ns.length = 8) (b : Addr) (j : Int) (tj : Tok) (h0 : 0 ≤ j) (h2 : j ≤ 2) :
    Tells w p loose mean mg mb (n + 1) 188 [.ref b, .int j tj] (fun h => AtIntsN h b ns) (fun h h' v => ∃ r, v = .ref r ∧ h.get? r = none ∧ AtIntsN h' r (entries ns j)) := by
  rintro A base ⟨H, g, d, tk, o⟩ R S hpre hR
  have X := S.X
  have T := S.T
  refine' enterC [("numbers", .ref b), ("j", .int j tj)] S (fun _ _ e => e) (Nat.le_refl _) ?k6 ?k7 ?kb ?kl ?kn ?c1 ?c2 ?c3 ?_
  case k6 => k_is
  case k7 => k_is
  case kb => exact rfl
  case kl => exact rfl
  case kn => decide
  case c1 => exact rfl
  case c2 => exact rfl
  case c3 => exact rfl
  intro L dp un fr gd h₁ tk₁ cells Q I _ _ F N Y hQ _
  clear S
  obtain ⟨o1, o2, rfl, hc1, hc2⟩ := CellsAre.two Y
  clear Y
  refine wpAny_execs_cons ?_
  refine wpAny_Return_some ?_
  refine comp_openR (by exact rfl) rfl rfl ?_
  (repeat (first | k_data | (walk1; try dsimp only)))
  rename Fr _ _ _ _ => F1
  rename News _ _ _ _ => N1
  rename IsRange _ _ _ _ _ _ _ _ => hr
  have hh := (I _ _ F1).hh
  refine it_range (n := 8) F1 N1 hr (by decide) (by decide) fun it h2 F2 N2 st2 fr2 hit hsz off => ?_
  refine comp_loopX (fs := []) (Walks.range hh it 0 1 8) (fun _ h => nomatch h) (fun _ _ h => nomatch h) hit hsz (by decide) rfl rfl rfl (fun D C i ys h g₁ => g₁ = g ∧ IntsAre ys ((List.range i).flatMap (entAt ns j))) (fun _ _ => ⟨rfl, .nil⟩) (fun _ _ _ _ _ _ _ x _ => x) ?_ ?_
  · rintro D C i v ys h3 g3 tk3 mc Qe Qs hD hC hDC hi ⟨tv, rfl⟩ ⟨rfl, hI⟩ hmx hnc hCs hold hst hpl hQe hQs
    obtain ⟨F3, N3, _⟩ := comp_frames F2 N2 off hC hCs hnc hold
    refine ifs_one ?_
    rw [show (0 + (i : Int) * 1) = i from by omega] at hmx
    replace F3 := Fr.norm F3 [("k", .int i tv)] (by intro q hq; obtain rfl := List.mem_singleton.mp hq; exact hmx)
    have X3 := X.keeps F3.keep
    obtain ⟨vs, hb, hvs⟩ := hpre
    obtain ⟨tn, hg⟩ := ints_at hvs (i := i) (by exact (Nat.lt_of_lt_of_le hi (Nat.le_of_eq (Eq.symm hl))))
    have hb3 : h3.IsList b vs.toArray := F3.lst hb.isList
    clear F1 F2
    (repeat (first | k_data | (walk1; try dsimp only)))
    · rename _ ≠ _ => hc
      exact hQe _ _ _ _ ⟨fun _ _ _ _ e => e, (fun _ _ _ m => nomatch m), _, hnc⟩ ⟨rfl, ent_yes hI (by simpa using hc)⟩
    · rename _ = _ => hc
      exact hQs _ _ _ ⟨fun _ _ _ _ e => e, (fun _ _ _ m => nomatch m), _, hnc⟩ ⟨rfl, ent_no hI (by simpa using hc)⟩
  · rintro D C h3 g3 tk3 ys mc hD hC hDC hCs hnc hold hpl hlen ⟨rfl, hI⟩
    refine post_none hnc fun h4 hs4 => ?_
    have n0 : ∀ b, h2.get? b = none → H.get? b = none := fun b e => by
      exact get_gone (F2.keep _) e
    refine hQ _ _ (hR _ _ _ (fun b o e => hs4 _ _ (fun z => ?_) (hold.nil _ _ (fun z => ?_) (F2.keep _ _ e))) ⟨D, rfl, n0 _ hD, ys, hpl.at fun o e => hs4 _ _ hDC e, hI⟩)
    · (first | exact (ne_get e (n0 _ hC) (z)).elim | exact (ne_get (n0 _ hC) e (z)).elim | (rw [z, n0 _ hC] at e; cases e))
    · (first | exact (ne_get e (off.1) (z)).elim | exact (ne_get (off.1) e (z)).elim | (rw [z, off.1] at e; cases e))
end
end Mine

end
section
open PySem PyProof.Rows
namespace Mine
noncomputable def marks : List Str := ["a", "b", "a-", ".", "..", "a.b", " ", "\n", "\\", "é"]
noncomputable def fresh : Nat → List Str → Str → Str
  | 0, _, t => t
  | n + 1, ts, t => if t ∈ ts then fresh n ts (t ++ "a") else t
noncomputable def upAt (ns : List Int) (i : Nat) : Int := Int.fmod (ns.getD (1 + (i : Int) - 1).toNat 0) (1 + i)
noncomputable def quoAt (ns : List Int) (i : Nat) : Int := Int.fdiv (ns.getD (1 + (i : Int) - 1).toNat 0) (1 + i)
noncomputable def rawAt (ns : List Int) (i : Nat) (ts : List Str) : Str :=
  ts.getD (upAt ns i).toNat Str.empty ++ Txt.mul "/" (Int.fmod (quoAt ns i) 3 + if upAt ns i = 0 then 0 else 1) ++ marks.getD (Int.fmod (Int.fdiv (quoAt ns i) 3) 10).toNat Str.empty
noncomputable def places (ns : List Int) : Nat → List Int × List Str
  | 0 => ([0], [Str.empty])
  | i + 1 => ((places ns i).1 ++ [upAt ns i], (places ns i).2 ++ [fresh 64 (places ns i).2 (rawAt ns i (places ns i).2)])
theorem places_len (ns : List Int) (i : Nat) : (places ns i).1.length = i + 1 ∧ (places ns i).2.length = i + 1 := by
  induction i with
  | zero => exact ⟨rfl, rfl⟩
  | succ i ih => exact ⟨by rw [places, List.length_append, ih.1]; rfl, by rw [places, List.length_append, ih.2]; rfl⟩
theorem getD_len {ts : List Str} {M : Nat} (h : ∀ s ∈ ts, s.length ≤ M) (i : Nat) : (ts.getD i Str.empty).length ≤ M := by
  rw [List.getD_eq_getElem?_getD]
  cases e : ts[i]? with
  | none => exact Nat.zero_le _
  | some x => exact h x (List.mem_of_getElem? e)
theorem slashes_len {n : Int} (h : n ≤ 3) : (Txt.mul "/" n).length ≤ 3 := len_mul_leN (L := 1) (N := 3) (by decide) (by exact h)
theorem mark_len (i : Nat) : (marks.getD i Str.empty).length ≤ 3 := getD_len (by decide) i
theorem fresh_len {M : Nat} (n : Nat) (ts : List Str) (hM : ∀ s ∈ ts, s.length ≤ M) : ∀ t : Str, t.length ≤ M + 6 → (fresh n ts t).length ≤ M + 6 := by
  induction n with
  | zero => exact fun t h => h
  | succ n ih =>
    intro t h
    unfold fresh
    split
    · refine ih _ ?_
      have := hM _ ‹_›
      rw [Str.length_append]
      exact Nat.le_trans (Nat.add_le_add_right this 1) (by exact (Nat.succ_le_succ (Nat.le_add_right _ _)))
    · exact h
theorem raw_len (ns : List Int) (i : Nat) {ts : List Str} {M : Nat} (hM : ∀ s ∈ ts, s.length ≤ M) : (rawAt ns i ts).length ≤ M + 6 := by
  have h1 := getD_len hM (upAt ns i).toNat
  have h2 : (Txt.mul "/" (Int.fmod (quoAt ns i) 3 + if upAt ns i = 0 then 0 else 1)).length ≤ 3 := slashes_len (by
    have := Int.fmod_lt_of_pos (quoAt ns i) (b := 3) (by decide)
    split <;> omega)
  have h3 := mark_len (Int.fmod (Int.fdiv (quoAt ns i) 3) 10).toNat
  rw [rawAt, Str.length_append, Str.length_append]
  omega
theorem places_short (ns : List Int) (i : Nat) : ∀ s ∈ (places ns i).2, s.length ≤ 6 * i := by
  induction i with
  | zero => intro s hs; rw [List.mem_singleton.mp hs]; exact Nat.le_refl _
  | succ i ih =>
    intro s hs
    rcases List.mem_append.mp hs with hs | hs
    · exact Nat.le_trans (ih s hs) (by exact (Nat.le_add_right _ _))
    · rw [List.mem_singleton.mp hs]
      exact Nat.le_trans (fresh_len 64 _ ih _ (raw_len ns i ih)) (by exact (Nat.le_refl _))
/-- enough fuel: the text is new -/
theorem fresh_new {M : Nat} (n : Nat) (ts : List Str) (hM : ∀ s ∈ ts, s.length ≤ M) : ∀ t : Str, M < t.length + n → fresh n ts t ∉ ts := by
  induction n with
  | zero => intro t h hm; have := hM _ hm; exact absurd h (Nat.not_lt.mpr this)
  | succ n ih =>
    intro t h
    unfold fresh
    split
    · refine ih _ ?_
      rw [Str.length_append, show ("a" : Str).length = 1 by decide]
      omega
    · assumption
end Mine

end
section
open PySem PySem.W PyProof.Rows PySem.Spec PySem.Calls
namespace Mine
noncomputable def GotInt (h : Heap) (g : Array GenState) (d : Drawn) (o : OsState) (n : Int) (v : Value) (s' : Shared) : Prop := ∃ tk t, v = .int n t ∧ s' = ⟨h, g, d, tk, o⟩
inductive PJ (ns : List Int) (b : Addr) (i : Nat) (h : Heap) (m : Str → Option Value) (news : List (Addr × Obj)) : Prop
  | mk (mk ab tx : Addr) (va vt : List Value) (ka kt : Nat) (vm : List Value) (km : Nat) (e1 : m "numbers" = some (.ref b)) (e2 : m "marks" = some (.ref mk)) (e3 : m "above" = some (.ref ab)) (e4 : m "texts" = some (.ref tx))
    (en : news = [(tx, W.listOf (List.toArray vt) kt), (ab, W.listOf (List.toArray va) ka), (mk, W.listOf (List.toArray vm) km)]) (n1 : ab ≠ tx) (n2 : ab ≠ mk) (n3 : tx ≠ mk)
    (hva : IntsAre va (places ns i).1) (hvt : StrsAre vt (places ns i).2) (hvm : StrsAre vm marks)
theorem mset_ne {x y : Str} {u v : Value} {m : Str → Option Value} (hn : y ≠ x) (e : m y = some v) : (fun z => if z = x then some u else m z) y = some v := (if_neg hn).trans e
inductive WJ (ts : List Str) (raw : Str) (M : Nat) (U : Int) (ps : List (Str × Value)) (nl : List (Addr × Obj)) (k : Nat) (m : Str → Option Value) (news : List (Addr × Obj)) : Prop
  | mk (t : Str) (u v : Tok) (e1 : m "text" = some (.str t u)) (e2 : m "up" = some (.int U v)) (hp : ∀ q ∈ ps, m q.1 = some q.2) (en : news = nl) (hf : fresh k ts t = fresh 64 ts raw) (hM : M < t.length + k) (ht : t.length ≤ M + 6)
theorem strs_get {vs : List Value} {xs : List Str} (h : StrsAre vs xs) {q : Int} (h0 : 0 ≤ q) (h1 : q < xs.length) : ∃ t, vs[q.toNat]? = some (.str (xs.getD q.toNat Str.empty) t) := strs_at h (by exact (Mine.toNat_lt_len h0 h1))
section
variable {w : World} {p : Program} {loose : List Str} {mean : ExcName → Option Value} {mg mb : Str → Option Value}
set_option maxHeartbeats 2000000 in
theorem places_tells {n : Nat} (ns : List Int) (hl : ns.length = 8) (b : Addr) :
    Tells w p loose mean mg mb (n + 1) 176 [.ref b] (fun h => AtIntsN h b ns) (fun h h' v => ∃ r ab tx, v = .ref r ∧ h.get? ab = none ∧ h.get? tx = none ∧ h'.get? r = some { cls := .type "tuple", data := .seq #[.ref ab, .ref tx] } ∧ h.get? r = none ∧ AtIntsN h' ab (places ns 8).1 ∧ AtStrs h' tx (places ns 8).2) := by
  rintro A base ⟨H, g, d, tk, o⟩ R S hpre hR
  have X := S.X
  have T := S.T
  refine' enter [("numbers", .ref b)] S (fun _ _ e => e) (Nat.le_refl _) ?k6 ?k7 ?kb ?kl ?c1 ?c2 ?c3 ?c4 ?_
  ((case k6 => k_is); (case k7 => k_is); (case kb => exact rfl); (case kl => exact rfl); (case c1 => exact rfl); (case c2 => exact rfl); (case c3 => exact rfl); (case c4 => exact rfl))
  intro L dp un fr gd h₁ tk₁ Q I _ _ F hQ _
  have N : News H L h₁ [] := News.nil
  clear S
  (repeat' (first | k_data | ((fail_if_success (with_reducible show wpAny _ _ (exec (Stmt.While _ _ _ _) _) _ _ _)); (fail_if_success (with_reducible show wpAny _ _ (exec (Stmt.For _ _ _ _ _) _) _ _ _)); (fail_if_success (with_reducible show wpAny _ _ (exec (Stmt.Try _ _ _ _ _) _) _ _ _)); (fail_if_success (with_reducible show wpAny _ _ (eval (Expr.ListComp _ _ _ _) _) _ _ _)); (fail_if_success (with_reducible show wpAny _ _ (eval (Expr.IfExp _ _ _ _) _) _ _ _)); walk1; try dsimp only) | (with_reducible refine ite_no ?_) | (with_reducible refine ite_yes ?_)))
  refine wpAny_For ?_ (fun _ => rfl)
  (repeat' (first | k_data | ((fail_if_success (with_reducible show wpAny _ _ (exec (Stmt.While _ _ _ _) _) _ _ _)); (fail_if_success (with_reducible show wpAny _ _ (exec (Stmt.For _ _ _ _ _) _) _ _ _)); (fail_if_success (with_reducible show wpAny _ _ (exec (Stmt.Try _ _ _ _ _) _) _ _ _)); (fail_if_success (with_reducible show wpAny _ _ (eval (Expr.ListComp _ _ _ _) _) _ _ _)); (fail_if_success (with_reducible show wpAny _ _ (eval (Expr.IfExp _ _ _ _) _) _ _ _)); walk1; try dsimp only) | (with_reducible refine ite_no ?_) | (with_reducible refine ite_yes ?_)))
  rename Fr _ _ _ _ => F1
  rename News _ _ _ _ => N1
  rename IsRange _ _ _ _ _ _ _ _ => hr
  have hh := (I _ _ F1).hh
  refine forRange (a := 1) (n := 8) (fun H' => H' = H) (PJ ns b) hr (by decide) (by decide) hh rfl rfl rfl rfl F1 (fun q hq => N1 q (.tail _ hq)) ⟨_, _, _, _, _, _, _, _, _, rfl, rfl, rfl, rfl, rfl, ?_, ?_, ?_, .cons _ _ .nil, .cons _ _ .nil, ?_⟩ ?_ ?_
  · k_ne
  · k_ne
  · k_ne
  · repeat' constructor
  · rintro i It H' oI tv m₁ _ h₂ tk₂ Qt hi rfl F2 N2 cI hn ⟨mk, ab, tx, va, vt, ka, kt, vm, km, e1, e2, e3, e4, rfl, n1, n2, n3, hva, hvt, hvm⟩ hT _ _
    replace F2 : Fr H' L h₂ _ := Fr.norm F2 [("k", .int (1 + i) tv), ("numbers", .ref b), ("marks", .ref mk), ("above", .ref ab), ("texts", .ref tx)] (by refine all_cons ?_ (all_cons ?_ (all_cons ?_ (all_cons ?_ (all_cons ?_ all_nil)))); exact if_pos rfl; exact mset_ne (y := "numbers") (by decide) e1; exact mset_ne (y := "marks") (by decide) e2; exact mset_ne (y := "above") (by decide) e3; exact mset_ne (y := "texts") (by decide) e4)
    replace N2 : News H' L h₂ _ := N2
    clear F1 N1
    obtain ⟨vs, hb, hvs⟩ := hpre
    obtain ⟨tn, hg⟩ := ints_at hvs (i := i) (by exact (Nat.lt_of_lt_of_le hi (Nat.le_of_eq (Eq.symm hl))))
    have hb2 : Heap.IsList h₂ b vs.toArray := F2.lst hb.isList
    (repeat' (first | k_data | ((fail_if_success (with_reducible show wpAny _ _ (exec (Stmt.While _ _ _ _) _) _ _ _)); (fail_if_success (with_reducible show wpAny _ _ (exec (Stmt.For _ _ _ _ _) _) _ _ _)); (fail_if_success (with_reducible show wpAny _ _ (exec (Stmt.Try _ _ _ _ _) _) _ _ _)); (fail_if_success (with_reducible show wpAny _ _ (eval (Expr.ListComp _ _ _ _) _) _ _ _)); (fail_if_success (with_reducible show wpAny _ _ (eval (Expr.IfExp _ _ _ _) _) _ _ _)); walk1; try dsimp only) | (with_reducible refine ite_no ?_) | (with_reducible refine ite_yes ?_)))
    obtain ⟨la, lt⟩ := places_len ns i
    have u0 : 0 ≤ Int.fmod (ns.getD (1 + (i : Int) - 1).toNat 0) (1 + i) := Int.fmod_nonneg_of_pos _ (by exact (Int.ofNat_lt.mpr (Nat.lt_of_succ_le (Nat.le_add_right _ _))))
    have u1 : Int.fmod (ns.getD (1 + (i : Int) - 1).toNat 0) (1 + i) < 1 + i := Int.fmod_lt_of_pos _ (by exact (Int.ofNat_lt.mpr (Nat.lt_of_succ_le (Nat.le_add_right _ _))))
    obtain ⟨tt, hg2⟩ := strs_get hvt u0 (by rw [lt]; exact (Int.lt_of_lt_of_le u1 (Int.ofNat_le.mpr (Nat.le_of_eq (Nat.add_comm _ _)))))
    rename News _ _ _ _ => N3
    refine item_listL (News.lst N3 (.tail _ (.tail _ (.head _)))) u0 (by omega) hg2 ?_
    (repeat' (first | k_data | ((fail_if_success (with_reducible show wpAny _ _ (exec (Stmt.While _ _ _ _) _) _ _ _)); (fail_if_success (with_reducible show wpAny _ _ (exec (Stmt.For _ _ _ _ _) _) _ _ _)); (fail_if_success (with_reducible show wpAny _ _ (exec (Stmt.Try _ _ _ _ _) _) _ _ _)); (fail_if_success (with_reducible show wpAny _ _ (eval (Expr.ListComp _ _ _ _) _) _ _ _)); (fail_if_success (with_reducible show wpAny _ _ (eval (Expr.IfExp _ _ _ _) _) _ _ _)); walk1; try dsimp only) | (with_reducible refine ite_no ?_) | (with_reducible refine ite_yes ?_)))
    rename Fr _ _ _ _ => F3
    generalize hU : Int.fmod (ns.getD (1 + (i : Int) - 1).toNat 0) (1 + i) = U at *
    generalize hV : Int.fdiv (ns.getD (1 + (i : Int) - 1).toNat 0) (1 + i) = V at *
    rename Heap => h9
    refine wpAny_mono (Q := GotInt h9 g d o (if U = 0 then 0 else 1)) ?_ ?_ (fun _ _ x => x)
    · walk1
      (repeat' (first | k_data | ((fail_if_success (with_reducible show wpAny _ _ (exec (Stmt.While _ _ _ _) _) _ _ _)); (fail_if_success (with_reducible show wpAny _ _ (exec (Stmt.For _ _ _ _ _) _) _ _ _)); (fail_if_success (with_reducible show wpAny _ _ (exec (Stmt.Try _ _ _ _ _) _) _ _ _)); (fail_if_success (with_reducible show wpAny _ _ (eval (Expr.ListComp _ _ _ _) _) _ _ _)); (fail_if_success (with_reducible show wpAny _ _ (eval (Expr.IfExp _ _ _ _) _) _ _ _)); walk1; try dsimp only) | (with_reducible refine ite_no ?_) | (with_reducible refine ite_yes ?_)))
      · exact ⟨_, _, by rw [if_neg ‹U ≠ 0›], rfl⟩
      · exact ⟨_, _, by rw [if_pos ‹U = 0›], rfl⟩
    · rintro _ _ ⟨tk5, t5, rfl, rfl⟩
      (repeat' (first | k_data | ((fail_if_success (with_reducible show wpAny _ _ (exec (Stmt.While _ _ _ _) _) _ _ _)); (fail_if_success (with_reducible show wpAny _ _ (exec (Stmt.For _ _ _ _ _) _) _ _ _)); (fail_if_success (with_reducible show wpAny _ _ (exec (Stmt.Try _ _ _ _ _) _) _ _ _)); (fail_if_success (with_reducible show wpAny _ _ (eval (Expr.ListComp _ _ _ _) _) _ _ _)); (fail_if_success (with_reducible show wpAny _ _ (eval (Expr.IfExp _ _ _ _) _) _ _ _)); walk1; try dsimp only) | (with_reducible refine ite_no ?_) | (with_reducible refine ite_yes ?_)))
      have hsl : (Txt.mul "/" (Int.fmod V 3 + if U = 0 then 0 else 1)).length ≤ 3 := slashes_len (by
        have := Int.fmod_lt_of_pos V (b := 3) (by decide)
        split <;> omega)
      have hsu := getD_len (places_short ns i) U.toNat
      refine PyProof.Rows.add_str (fun t6 tk6 => ?_) (by rw [sizeLine_eq]; omega)
      (repeat' (first | k_data | ((fail_if_success (with_reducible show wpAny _ _ (exec (Stmt.While _ _ _ _) _) _ _ _)); (fail_if_success (with_reducible show wpAny _ _ (exec (Stmt.For _ _ _ _ _) _) _ _ _)); (fail_if_success (with_reducible show wpAny _ _ (exec (Stmt.Try _ _ _ _ _) _) _ _ _)); (fail_if_success (with_reducible show wpAny _ _ (eval (Expr.ListComp _ _ _ _) _) _ _ _)); (fail_if_success (with_reducible show wpAny _ _ (eval (Expr.IfExp _ _ _ _) _) _ _ _)); walk1; try dsimp only) | (with_reducible refine ite_no ?_) | (with_reducible refine ite_yes ?_)))
      have h0 : 0 ≤ Int.fmod (Int.fdiv V 3) 10 := Int.fmod_nonneg_of_pos _ (by decide)
      have h10 : Int.fmod (Int.fdiv V 3) 10 < 10 := Int.fmod_lt_of_pos _ (by decide)
      obtain ⟨tm, hg3⟩ := strs_get hvm h0 h10
      rename News _ _ _ _ => N4
      refine item_listL (News.lst N4 (.tail _ (.tail _ (.tail _ (.tail _ (.head _)))))) h0 (by exact (Mine.int63 h10 (by decide))) hg3 ?_
      (repeat' (first | k_data | ((fail_if_success (with_reducible show wpAny _ _ (exec (Stmt.While _ _ _ _) _) _ _ _)); (fail_if_success (with_reducible show wpAny _ _ (exec (Stmt.For _ _ _ _ _) _) _ _ _)); (fail_if_success (with_reducible show wpAny _ _ (exec (Stmt.Try _ _ _ _ _) _) _ _ _)); (fail_if_success (with_reducible show wpAny _ _ (eval (Expr.ListComp _ _ _ _) _) _ _ _)); (fail_if_success (with_reducible show wpAny _ _ (eval (Expr.IfExp _ _ _ _) _) _ _ _)); walk1; try dsimp only) | (with_reducible refine ite_no ?_) | (with_reducible refine ite_yes ?_)))
      refine PyProof.Rows.add_str (fun t7 tk7 => ?_) (by have := mark_len (Int.fmod (Int.fdiv V 3) 10).toNat; rw [sizeLine_eq, Str.length_append]; omega)
      (repeat' (first | k_data | ((fail_if_success (with_reducible show wpAny _ _ (exec (Stmt.While _ _ _ _) _) _ _ _)); (fail_if_success (with_reducible show wpAny _ _ (exec (Stmt.For _ _ _ _ _) _) _ _ _)); (fail_if_success (with_reducible show wpAny _ _ (exec (Stmt.Try _ _ _ _ _) _) _ _ _)); (fail_if_success (with_reducible show wpAny _ _ (eval (Expr.ListComp _ _ _ _) _) _ _ _)); (fail_if_success (with_reducible show wpAny _ _ (eval (Expr.IfExp _ _ _ _) _) _ _ _)); walk1; try dsimp only) | (with_reducible refine ite_no ?_) | (with_reducible refine ite_yes ?_)))
      rename Fr _ _ _ _ => F5
      rename News _ _ _ _ => N5
      have hraw : (places ns i).2.getD U.toNat Str.empty ++ Txt.mul "/" (Int.fmod V 3 + if U = 0 then 0 else 1) ++ marks.getD (Int.fmod (Int.fdiv V 3) 10).toNat Str.empty = rawAt ns i (places ns i).2 := by rw [← hU, ← hV]; rfl
      rw [hraw] at F5
      have hrl := raw_len ns i (places_short ns i)
      refine whileR (WJ (places ns i).2 (rawAt ns i (places ns i).2) (6 * i) U [("numbers", .ref b), ("marks", .ref mk), ("above", .ref ab), ("texts", .ref tx)] _) F5 (fun q hq => N5 q (.tail _ hq)) (n₀ := 64) ⟨_, _, _, rfl, rfl, ?_, rfl, rfl, by omega, hrl⟩ ?_
      · intro q hq
        revert q hq; refine all_cons ?_ (all_cons ?_ (all_cons ?_ (all_cons ?_ all_nil))) <;> rfl
      rintro k m₁ _ h₃ tk₃ Qu hT' _ _ F6 N6 ⟨t, u, v, f1, f0, f2, rfl, hfr, hM, htl⟩
      clear F5 N5
      replace F6 := Fr.norm F6 (("text", .str t u) :: ("up", .int U v) :: _) (fun q hq => by rcases List.mem_cons.mp hq with rfl | hq; exact f1; rcases List.mem_cons.mp hq with rfl | hq; exact f0; exact f2 q hq)
      have f0' : mput (("text", .str t u) :: ("up", .int U v) :: [("numbers", .ref b), ("marks", .ref mk), ("above", .ref ab), ("texts", .ref tx)]) m₁ "up" = some (.int U v) := rfl
      have f2' : ∀ q ∈ ([("numbers", .ref b), ("marks", .ref mk), ("above", .ref ab), ("texts", .ref tx)] : List (Str × Value)), mput (("text", .str t u) :: ("up", .int U v) :: [("numbers", .ref b), ("marks", .ref mk), ("above", .ref ab), ("texts", .ref tx)]) m₁ q.1 = some q.2 := by
        intro q hq
        revert q hq; refine all_cons ?_ (all_cons ?_ (all_cons ?_ (all_cons ?_ all_nil))) <;> rfl
      have hn' : ∀ k7 k8 (x y : Array Value), ∀ q ∈ [(tx, W.listOf x k8), (ab, W.listOf y k7), (mk, W.listOf vm.toArray km)], q.1 ≠ It := by
        intro k7 k8 x y q hq
        revert q hq; refine all_cons ?_ (all_cons ?_ (all_cons ?_ all_nil))
        · exact hn (tx, W.listOf vt.toArray kt) (.head _)
        · exact hn (ab, W.listOf va.toArray ka) (.tail _ (.head _))
        · exact hn _ (.tail _ (.tail _ (.head _)))
      (repeat' (first | k_data | ((fail_if_success (with_reducible show wpAny _ _ (exec (Stmt.While _ _ _ _) _) _ _ _)); (fail_if_success (with_reducible show wpAny _ _ (exec (Stmt.For _ _ _ _ _) _) _ _ _)); (fail_if_success (with_reducible show wpAny _ _ (exec (Stmt.Try _ _ _ _ _) _) _ _ _)); (fail_if_success (with_reducible show wpAny _ _ (eval (Expr.ListComp _ _ _ _) _) _ _ _)); (fail_if_success (with_reducible show wpAny _ _ (eval (Expr.IfExp _ _ _ _) _) _ _ _)); walk1; try dsimp only) | (with_reducible refine ite_no ?_) | (with_reducible refine ite_yes ?_)))
      · have ht : t ∈ (places ns i).2 := by
          have : ((places ns i).2.any fun x => x == t) = true := by assumption
          simpa using this
        have hlt := places_short ns i t ht
        cases k with
        | zero => omega
        | succ k =>
          rename Fr _ _ _ _ => F7
          rename News _ _ _ _ => N7
          refine hT' _ _ _ _ k F7 N7 ⟨_, _, v, rfl, mset_ne (by decide) f0', fun q hq => by revert q hq; refine all_cons ?_ (all_cons ?_ (all_cons ?_ (all_cons ?_ all_nil))) <;> rfl, rfl, ?_, ?_, ?_⟩ (Nat.lt_succ_self _)
          · rw [← hfr]
            show _ = if t ∈ _ then _ else _
            rw [if_pos ht]
          · rw [Str.length_append, show ("a" : Str).length = 1 by decide]; omega
          · rw [Str.length_append, show ("a" : Str).length = 1 by decide]; exact (Nat.add_le_add hlt (by decide))
      · have ht : t ∉ (places ns i).2 := by
          have : ((places ns i).2.any fun x => x == t) = false := by assumption
          intro hm
          rw [List.any_eq_false] at this
          exact this t hm (by simp)
        have he : fresh 64 (places ns i).2 (rawAt ns i (places ns i).2) = t := by
          rw [← hfr]
          cases k with
          | zero => rfl
          | succ k => show (if t ∈ _ then _ else _) = t; rw [if_neg ht]
        refine app_one (pre := [(It, oI), (tx, _)]) (post := [(mk, _)]) F6 N6 (by refine all_cons ?_ (all_cons ?_ all_nil); exact (hn _ (.tail _ (.head _))).symm; exact n1.symm) (by intro q hq; rw [List.mem_singleton.mp hq]; exact n2.symm) (by rw [hva.length, la]; omega) fun h7 k7 F7 N7 => ?_
        (repeat' (first | k_data | ((fail_if_success (with_reducible show wpAny _ _ (exec (Stmt.While _ _ _ _) _) _ _ _)); (fail_if_success (with_reducible show wpAny _ _ (exec (Stmt.For _ _ _ _ _) _) _ _ _)); (fail_if_success (with_reducible show wpAny _ _ (exec (Stmt.Try _ _ _ _ _) _) _ _ _)); (fail_if_success (with_reducible show wpAny _ _ (eval (Expr.ListComp _ _ _ _) _) _ _ _)); (fail_if_success (with_reducible show wpAny _ _ (eval (Expr.IfExp _ _ _ _) _) _ _ _)); walk1; try dsimp only) | (with_reducible refine ite_no ?_) | (with_reducible refine ite_yes ?_)))
        refine app_one (pre := [(It, oI)]) (post := [(ab, _), (mk, _)]) F7 N7 (by intro q hq; rw [List.mem_singleton.mp hq]; exact (hn _ (.head _)).symm) (by refine all_cons ?_ (all_cons ?_ all_nil); exact n1; exact n3.symm) (by rw [strs_len hvt, lt]; omega) fun h8 k8 F8 N8 => ?_
        (repeat' (first | k_data | ((fail_if_success (with_reducible show wpAny _ _ (exec (Stmt.While _ _ _ _) _) _ _ _)); (fail_if_success (with_reducible show wpAny _ _ (exec (Stmt.For _ _ _ _ _) _) _ _ _)); (fail_if_success (with_reducible show wpAny _ _ (exec (Stmt.Try _ _ _ _ _) _) _ _ _)); (fail_if_success (with_reducible show wpAny _ _ (eval (Expr.ListComp _ _ _ _) _) _ _ _)); (fail_if_success (with_reducible show wpAny _ _ (eval (Expr.IfExp _ _ _ _) _) _ _ _)); walk1; try dsimp only) | (with_reducible refine ite_no ?_) | (with_reducible refine ite_yes ?_)))
        refine hT _ _ H' _ _ rfl F8 N8 (hn' _ _ _ _) ⟨mk, ab, tx, va ++ [.int U v], vt ++ [.str t u], _, _, vm, km, f2' ("numbers", .ref b) (.head _), f2' ("marks", .ref mk) (.tail _ (.head _)), f2' ("above", .ref ab) (.tail _ (.tail _ (.head _))), f2' ("texts", .ref tx) (.tail _ (.tail _ (.tail _ (.head _)))), rfl, n1, n2, n3, ?_, ?_, hvm⟩
        · rw [places, ← (show _ = U from hU)]
          exact hva.append (.cons _ _ .nil)
        · rw [places, he]
          exact strs_append hvt (.cons _ _ .nil)
  · rintro h7 tk7 H' m' _ rfl F7 N7 ⟨mk, ab, tx, va, vt, ka, kt, vm, km, e1, e2, e3, e4, rfl, n1, n2, n3, hva, hvt, hvm⟩
    clear F1 N1
    replace F7 : Fr H' L h7 _ := Fr.norm F7 [("above", .ref ab), ("texts", .ref tx)] (by refine all_cons ?_ (all_cons ?_ all_nil); exact e3; exact e4)
    replace N7 : News H' L h7 _ := N7
    (repeat' (first | k_data | ((fail_if_success (with_reducible show wpAny _ _ (exec (Stmt.While _ _ _ _) _) _ _ _)); (fail_if_success (with_reducible show wpAny _ _ (exec (Stmt.For _ _ _ _ _) _) _ _ _)); (fail_if_success (with_reducible show wpAny _ _ (exec (Stmt.Try _ _ _ _ _) _) _ _ _)); (fail_if_success (with_reducible show wpAny _ _ (eval (Expr.ListComp _ _ _ _) _) _ _ _)); (fail_if_success (with_reducible show wpAny _ _ (eval (Expr.IfExp _ _ _ _) _) _ _ _)); walk1; try dsimp only) | (with_reducible refine ite_no ?_) | (with_reducible refine ite_yes ?_)))
    rename Fr _ _ _ _ => F8
    rename News _ _ _ _ => N8
    exact hQ _ _ (hR _ _ _ F8.keep ⟨_, ab, tx, rfl, (N8 _ (.tail _ (.tail _ (.head _)))).2.2, (N8 _ (.tail _ (.head _))).2.2, (newHd N8).2, (newHd N8).1, ⟨va, ⟨_, (N8 _ (.tail _ (.tail _ (.head _)))).1⟩, hva⟩, ⟨vt, ⟨_, (N8 _ (.tail _ (.head _))).1⟩, hvt⟩⟩)
end
end Mine

end
section
open PySem PySem.W PyProof.Rows PySem.Spec PySem.Calls
namespace Mine
/-- the table of lambdas of a code object: empty, or with the one lambda's code -/
noncomputable def LamTab (pos : Pos) (qual : Str) (h : Heap) (ps : Array Value) : Prop := ps = #[] ∨ ∃ c', ps = #[rawInt pos.line, rawInt pos.col, .ref c'] ∧ h.CodeRec (.ref c') qual
theorem among_hit {pos : Pos} {c : Value} : codeAmong pos [rawInt pos.line, rawInt pos.col, c] = some c := by simp [codeAmong, rawInt]
section
variable {M : Model} {A : Around} {E : Value → Shared → Prop} {s : Shared} {h₀ : Heap} {L a c P : Addr} {m mg mb : Str → Option Value} {cn : Str} {cs : Scope} {ccd : Value} {cl : List (Str × Addr)} {pre post : List (Addr × Obj)}
  {p : Program} {loose : List Str} {mean : ExcName → Option Value} {name qual : Str} {params : Arguments} {body : Expr} {scope : Scope} {ps : Array Value} {pos : Pos} {firstLine : Nat} {clos : List (Str × Addr)}
/-- a lambda is made, its code for the first time or again -/
theorem make_lam {Q : Value → Shared → Prop} (F : Fr h₀ L s.heap m) (N : News h₀ L s.heap (pre ++ (P, tabObj ps) :: post)) (h1 : ∀ q ∈ pre, q.1 ≠ P) (h2 : ∀ q ∈ post, q.1 ≠ P) (T : Top p loose mean mg mb h₀) (C : CodeHd h₀ c P) (hcd : ccd = .ref c)
    (hps : LamTab pos qual h₀ ps) (hcl : closureFor scope (envX cn cs L a ccd cl) = pure clos)
    (h : ∀ f c' ctv h' tk ex, Fr h₀ L h' m → News h₀ L h' ((f, kla_obj name qual params body scope clos ((mg "__name__").getD .none) c' ctv) :: (ex ++ (pre ++ (P, tabObj #[rawInt pos.line, rawInt pos.col, .ref c']) :: post))) →
      (∀ h'' m'', Fr h₀ L h'' m'' → News h₀ L h'' ex → h''.CodeRec (.ref c') qual) → (∀ q ∈ pre ++ (P, tabObj ps) :: post, q.1 < f) → (∀ q ∈ ex, q.1 < f ∧ ∀ x ∈ pre ++ (P, tabObj ps) :: post, x.1 < q.1) → Q (.ref f) { s with heap := h', toks := tk }) :
    wpAny M A (makeFunction name qual params (.expr body) scope (envX cn cs L a ccd cl) [] [] [] pos firstLine) Q E s := by
  have U : UpdF P (tabObj ps) (pre ++ (P, tabObj ps) :: post) (fun o' => pre ++ (P, o') :: post) := by
    clear N h
    induction pre with
    | nil => exact .head h2
    | cons x r ih => exact .tail (h1 _ (.head _)) (ih fun q hq => h1 q (.tail _ hq))
  rcases hps with rfl | ⟨c', rfl, hc⟩
  · refine kla_nest F N T C hcd U trivial rfl hcl fun f c' oc vs t ctv h' tk F' N' hd hv l1 l2 => ?_
    refine h f c' ctv h' tk [(c', oc)] F' N' (fun h'' m'' _ N'' => codeRec_news N'' (.head _) hd hv) (fun q hq => Nat.lt_trans (l1 q hq) l2) fun q hq => ?_
    obtain rfl := List.mem_singleton.mp hq
    exact ⟨l2, l1⟩
  · refine kla_hit F N T C hcd (List.mem_append_right _ (.head _)) trivial among_hit hcl fun f ctv h' tk F' N' l1 => ?_
    exact h f c' ctv h' tk [] F' N' (fun h'' m'' F'' _ => by
      obtain ⟨x, oc, vs, t, e1, e2, r⟩ := hc
      exact ⟨x, oc, vs, t, e1, F''.keep _ _ e2, r⟩) l1 (fun q hq => nomatch hq)
end
section
variable {w : World} {p : Program} {loose : List Str} {mean : ExcName → Option Value} {mg mb : Str → Option Value} {n : Nat} {A : Around} {base H : Heap}
/-- a lambda is entered; nothing leaves it by an exception -/
theorem enterLam {name qual : Str} {params : Arguments} {body : Expr} {scope : Scope} {cl : List (Str × Addr)} {pm ctv : Value} {c' f : Addr} {args : Args} (binds : List (Str × Value)) {g : Array GenState} {d : Drawn} {tk : Nat} {o : OsState} {R : Result → Shared → Prop}
    {H₁ : Heap} (S : Std w p loose mean mg mb (n + 1) A base H) (hst : H.StaysIn H₁) (hsz : H.objs.size ≤ H₁.objs.size)
    (ho : H₁.get? f = some (kla_obj name qual params body scope cl pm c' ctv)) (hcd : H₁.CodeRec (.ref c') qual)
    (hbind : bindArgs (kla_fn name qual params body scope cl pm (.ref c') ctv) args = pure binds) (hloc : (binds.all fun x => decide (scope.names.lookup x.1 = some .local)) = true)
    (hco : scope.isCoroutine = false) (hgen : scope.isGenerator = false) (hk : scope.kind = .function) (hcell : (scope.names.all fun x => x.2 != .cell) = true)
    (h : ∀ (L : Addr) (dp un : Nat) (fr : Option (List Env)) (gd : Option (List Code)) (h₁ : Heap) (tk₁ : Nat) (Q : Value → Shared → Prop), Inside w p loose mean mg mb n ⟨none, dp, fr, gd, un⟩ base H L → H₁.StaysIn h₁ → H₁.objs.size ≤ L → Fr H L h₁ (fun y => binds.reverse.lookup y) →
      (∀ v s', R (.ok (.ret v)) s' → Q v s') →
      wpAny (model PG w) ⟨none, dp, fr, gd, un⟩ (eval body (envX qual scope L f (.ref c') cl)) Q No ⟨h₁, g, d, tk₁, o⟩) : codeAny (model PG w) A (.call (.ref f) args) R ⟨H₁, g, d, tk, o⟩ := by
  obtain ⟨hdA, dpA, frA, gdA, unA⟩ := A
  obtain rfl : hdA = none := S.hh
  refine kla_callFunE (by have := S.hd; omega) ho rfl hco hgen rfl hcd ?_
  rw [hbind]
  refine wpAny_pure (wpAny_newFunctionEnv (fun y hy => by simpa using List.all_eq_true.mp hcell y hy) (fun y hy => by simpa using List.all_eq_true.mp hloc y hy) (fun h₁ hns hsb => ⟨((S.T.nolimit).keeps hst).fresh _ hsb, ?_⟩) hk)
  show codeAny _ _ (.expr body (envX qual scope H₁.objs.size f (.ref c') cl)) _ _
  have hk₁ : ∀ b o, H₁.get? b = some o → h₁.get? b = some o := fun b o e => hsb.extBut b o (Nat.ne_of_lt (Heap.lt_size e)) (Heap.get?_push_of_some _ e)
  exact kla_codeExpr (wpAny_mono (h H₁.objs.size _ _ _ _ h₁ _ (fun v s' => R (.ok (.ret v)) s') (fun h' m' F' => S.push F' rfl hk) hk₁ (Nat.le_refl _) ⟨hns, fun b o e => hk₁ b o (hst b o e), hsz⟩ (fun v s' x => x)) (fun _ _ x => x) fun _ _ x => x.elim)
end
end Mine

end
section
open PySem PySem.W PyProof.Rows PySem.Spec PySem.Calls
namespace Mine
/-- keys of pairs of numbers, made in order -/
inductive PairKeys (k1 k2 : Int → Int) (tup : List (Addr × Obj)) : List Value → List Int → Prop
  | nil : PairKeys k1 k2 tup [] []
  | snoc {ks : List Value} {ps : List Int} (t : Addr) (t1 t2 : Tok) (e : Nat) (p : Int) : PairKeys k1 k2 tup ks ps → (t, seqObj "tuple" #[.int (k1 p) t1, .int (k2 p) t2] e) ∈ tup → PairKeys k1 k2 tup (ks ++ [.ref t]) (ps ++ [p])
section
variable {k1 k2 : Int → Int} {tup : List (Addr × Obj)}
theorem PairKeys.more {tup' : List (Addr × Obj)} (h : ∀ q ∈ tup, q ∈ tup') {ks : List Value} {ps : List Int} (x : PairKeys k1 k2 tup ks ps) : PairKeys k1 k2 tup' ks ps := by
  induction x with
  | nil => exact .nil
  | snoc t t1 t2 e p _ hm ih => exact .snoc t t1 t2 e p ih (h _ hm)
theorem PairKeys.length {ks : List Value} {ps : List Int} (h : PairKeys k1 k2 tup ks ps) : ks.length = ps.length := by
  induction h with
  | nil => rfl
  | snoc t t1 t2 e p r hm ih => rw [List.length_append, List.length_append, ih]; rfl
theorem PairKeys.at {ks : List Value} {ps : List Int} (h : PairKeys k1 k2 tup ks ps) : ∀ {i : Nat}, i < ps.length → ∃ t t1 t2 e, ks.getD i .none = .ref t ∧ (t, seqObj "tuple" #[.int (k1 (ps.getD i 0)) t1, .int (k2 (ps.getD i 0)) t2] e) ∈ tup := by
  induction h with
  | nil => intro i hi; simp at hi
  | @snoc ks ps t t1 t2 e p r hm ih =>
    intro i hi
    rw [List.length_append, List.length_cons, List.length_nil] at hi
    rcases Nat.lt_or_ge i ps.length with h | h
    · obtain ⟨t', a, b, c, e1, e2⟩ := ih h
      refine ⟨t', a, b, c, ?_, ?_⟩
      · rw [← e1, List.getD_eq_getElem?_getD, List.getD_eq_getElem?_getD, List.getElem?_append_left (by rw [r.length]; exact h)]
      · rw [List.getD_eq_getElem?_getD, List.getElem?_append_left h, ← List.getD_eq_getElem?_getD]; exact e2
    · obtain rfl : i = ps.length := by exact (Nat.le_antisymm (Nat.le_of_lt_succ hi) h)
      refine ⟨t, t1, t2, e, ?_, ?_⟩
      · rw [List.getD_eq_getElem?_getD, List.getElem?_append_right (by rw [r.length]; exact Nat.le_refl _), r.length, Nat.sub_self]; rfl
      · rw [List.getD_eq_getElem?_getD, List.getElem?_append_right (Nat.le_refl _), Nat.sub_self]; exact hm
theorem PairKeys.tups {h : Heap} {H : Heap} {L : Addr} (N : News H L h tup) {ks : List Value} {ps : List Int} (x : PairKeys k1 k2 tup ks ps) : ∃ fs, KatTups h ks fs ∧ fs.length = ps.length ∧ ∀ v ∈ fs, ∃ k t, v = .int k t := by
  have app : ∀ {vs fs : List Value} {v f : Value}, KatTups h vs fs → (∃ a o xs n, v = .ref a ∧ h.get? a = some o ∧ o.cls = .type "tuple" ∧ o.data = .seq xs n ∧ xs[0]? = some f) → KatTups h (vs ++ [v]) (fs ++ [f]) := by
    intro vs
    induction vs with
    | nil => intro fs v f t h; cases fs with
      | nil => exact ⟨h, trivial⟩
      | cons => exact t.elim
    | cons v vs ih => intro fs v' f t h; cases fs with
      | nil => exact t.elim
      | cons f' fs => exact ⟨t.1, ih t.2 h⟩
  induction x with
  | nil => exact ⟨[], trivial, rfl, fun _ h => nomatch h⟩
  | snoc t t1 t2 e p r hm ih =>
    obtain ⟨fs, h1, h2, h3⟩ := ih
    refine ⟨fs ++ [.int (k1 p) t1], app h1 ⟨t, _, _, _, rfl, (N _ hm).1, rfl, rfl, rfl⟩, by rw [List.length_append, List.length_append, h2]; rfl, fun v hv => ?_⟩
    rcases List.mem_append.mp hv with hv | hv
    · exact h3 v hv
    · exact ⟨_, _, List.mem_singleton.mp hv⟩
end
section
variable {w : World} {A : Around} {E : Value → Shared → Prop} {g : Array GenState} {d : Drawn} {o : OsState} {H : Heap} {L : Addr} {m : Str → Option Value} {news : List (Addr × Obj)} {k1 k2 rank : Int → Int} {ps : List Int} {f : Value}
theorem ints_of_map {α : Type} {fv : α → Value} {fi : α → Int} {xs : List α} : (∀ x ∈ xs, ∃ t, fv x = .int (fi x) t) → IntsAre (xs.map fv) (xs.map fi) := by
  induction xs with
  | nil => exact fun _ => .nil
  | cons x xs ih =>
    intro h
    obtain ⟨t, e⟩ := h x (.head _)
    rw [List.map_cons, List.map_cons, e]
    exact .cons _ _ (ih fun y hy => h y (.tail _ hy))
/-- what a call of the key says -/
noncomputable def KeySays (w : World) (A : Around) (g : Array GenState) (d : Drawn) (o : OsState) (H : Heap) (L : Addr) (m : Str → Option Value) (news : List (Addr × Obj)) (k1 k2 : Int → Int) (ps : List Int) (f : Value) : Prop :=
  ∀ (p : Int) (tp : Tok) (h : Heap) (tk : Nat) (Q : Value → Shared → Prop), p ∈ ps → Fr H L h m → News H L h news →
    (∀ t h' tk' t1 t2, h.StaysIn h' → h.get? t = none → h'.get? t = some (seqObj "tuple" #[.int (k1 p) t1, .int (k2 p) t2] 0) → Q (.ref t) ⟨h', g, d, tk', o⟩) →
    wpAny (model PG w) A (call f [.int p tp]) Q (fun _ _ => False) ⟨h, g, d, tk, o⟩
theorem key_ask {κ : SortKind} {ks : List Value} {pk : List Int} {tup : List (Addr × Obj)} {s : Shared} (hκ : κ = tuples' true) (N : News H L s.heap tup) (x : PairKeys k1 k2 tup ks pk)
    (hrank : ∀ p ∈ pk, ∀ q ∈ pk, rank p < rank q ↔ k1 p < k1 q ∨ k1 p = k1 q ∧ k2 p < k2 q) : Asks pk.length (fun i => rank (pk.getD i 0)) (kas_ask PG w A κ ks) s := by
  intro i j C hi hj hC
  subst hκ
  obtain ⟨ti, a1, a2, e1, b1, c1⟩ := x.at hi
  obtain ⟨tj, a3, a4, e2, b2, c2⟩ := x.at hj
  unfold kas_ask
  rw [b1, b2]
  have hm : ∀ {i : Nat}, i < pk.length → pk.getD i 0 ∈ pk := fun {i} h => by rw [List.getD_eq_getElem?_getD, List.getElem?_eq_getElem h]; exact List.getElem_mem h
  have hr := hrank _ (hm hi) _ (hm hj)
  refine kat_lt (N _ c1).1 rfl (N _ c2).1 rfl ?_
  refine kat_cons (wpAny_eqBool_int ?_)
  refine kat_go (fun h => kat_yes ?_) (fun h => kat_no ?_)
  · have he := eq_of_beq h
    refine kat_cons (wpAny_eqBool_int ?_)
    refine kat_go (fun h2 => kat_yes (kat_nil ?_)) (fun h2 => kat_no ?_)
    · have he2 := eq_of_beq h2
      have : decide (rank (pk.getD i 0) < rank (pk.getD j 0)) = false := decide_eq_false (by rw [hr]; omega)
      rw [this] at hC
      exact hC
    · refine kat_one _ _ (wpAny_lt_int ?_)
      have : decide (rank (pk.getD i 0) < rank (pk.getD j 0)) = decide (k2 (pk.getD i 0) < k2 (pk.getD j 0)) := by
        rw [Bool.eq_iff_iff, decide_eq_true_iff, decide_eq_true_iff, hr]
        constructor
        · rintro (z | z) <;> omega
        · exact fun z => .inr ⟨he, z⟩
      rw [this] at hC
      exact hC
  · have hne := ne_of_beq_false h
    refine oneLt_int ?_
    have : decide (rank (pk.getD i 0) < rank (pk.getD j 0)) = decide (k1 (pk.getD i 0) < k1 (pk.getD j 0)) := by
      rw [Bool.eq_iff_iff, decide_eq_true_iff, decide_eq_true_iff, hr]
      constructor
      · rintro (z | z)
        · exact z
        · exact absurd z.1 hne
      · exact .inl
    rw [this] at hC
    exact hC

theorem keys_go {kS D : Addr} {e1 : Nat} {Fin : List Value → Nat → Shared → Prop} (hf : KeySays w A g d o H L m ((D, seqObj "list" #[] e1) :: news) k1 k2 ps f) (hk1 : kS ≠ D) (hk2 : ∀ q ∈ news, q.1 ≠ kS) : ∀ (r : List Value) (pr : List Int), IntsAre r pr → (∀ p ∈ pr, p ∈ ps) →
    ∀ (ks : List Value) (pk : List Int) (tup : List (Addr × Obj)) (e : Nat) (h : Heap) (tk : Nat), PairKeys k1 k2 tup ks pk → Fr H L h m → News H L h ((kS, seqObj "list" ks.toArray e) :: (D, seqObj "list" #[] e1) :: (tup ++ news)) → (∀ q ∈ tup, q.1 ≠ kS ∧ q.1 ≠ D) →
      (∀ ks' tup' e' h' tk', PairKeys k1 k2 tup' ks' (pk ++ pr) → Fr H L h' m → News H L h' ((kS, seqObj "list" ks'.toArray e') :: (D, seqObj "list" #[] e1) :: (tup' ++ news)) → (∀ q ∈ tup', q.1 ≠ kS ∧ q.1 ≠ D) → Fin ks' e' ⟨h', g, d, tk', o⟩) →
      KatKeys PG w A H L m kS f Fin r ks e ⟨h, g, d, tk, o⟩ := by
  intro r pr hI
  induction hI with
  | nil =>
    intro hp ks pk tup e h tk hK F N hd fin
    exact KatKeys.nil (fin ks tup e h tk (by rw [List.append_nil]; exact hK) F N hd)
  | cons p tp hI ih =>
    intro hp ks pk tup e h tk hK F N hd fin
    refine KatKeys.cons (hf p tp h tk _ (hp p (.head _)) F (fun q hq => N q (by
      rcases List.mem_cons.mp hq with rfl | hq
      · exact .tail _ (.head _)
      · exact .tail _ (.tail _ (List.mem_append_right _ hq)))) fun t h' tk' t1 t2 st hn ht => ?_)
    have F' := Fr.stay F st
    have N' := News.join F N st hn ht
    have ntk : t ≠ kS := fun z => by have := (N _ (.head _)).1; rw [z] at hn; (first | exact (ne_get this (hn) rfl).elim | exact (ne_get (hn) this rfl).elim | (rw [hn] at this; cases this))
    have ntD : t ≠ D := fun z => by have := (N _ (.tail _ (.head _))).1; rw [z] at hn; (first | exact (ne_get this (hn) rfl).elim | exact (ne_get (hn) this rfl).elim | (rw [hn] at this; cases this))
    have N2 : News H L h' ((kS, seqObj "list" ks.toArray e) :: (D, seqObj "list" #[] e1) :: (((t, seqObj "tuple" #[.int (k1 p) t1, .int (k2 p) t2] 0) :: tup) ++ news)) := fun q hq => N' q (by
      rcases List.mem_cons.mp hq with rfl | hq
      · exact .tail _ (.head _)
      rcases List.mem_cons.mp hq with rfl | hq
      · exact .tail _ (.tail _ (.head _))
      rcases List.mem_cons.mp hq with rfl | hq
      · exact .head _
      · exact .tail _ (.tail _ (.tail _ hq)))
    refine KatBack.intro F' N2 (.head fun q hq => ?_) fun h2 c2 F2 N3 => ?_
    · rcases List.mem_cons.mp hq with rfl | hq
      · exact hk1.symm
      rcases List.mem_cons.mp hq with rfl | hq
      · exact ntk
      rcases List.mem_append.mp hq with hq | hq
      · exact (hd q hq).1
      · exact hk2 q hq
    · refine ih (fun q hq => hp q (.tail _ hq)) _ (pk ++ [p]) ((t, seqObj "tuple" #[.int (k1 p) t1, .int (k2 p) t2] 0) :: tup) c2 h2 _ (.snoc t t1 t2 0 p (hK.more fun q hq => .tail _ hq) (.head _)) F2 N3 (fun q hq => ?_) ?_
      · rcases List.mem_cons.mp hq with rfl | hq
        · exact ⟨ntk, ntD⟩
        · exact hd q hq
      · intro ks' tup' e' h' tk' x1 x2 x3 x4
        rw [List.append_assoc] at x1
        exact fin ks' tup' e' h' tk' x1 x2 x3 x4
/-- sorted(numbers, key=f), the keys pairs of numbers, two numbers or more -/
theorem sort_big {l : Addr} {vs : List Value} {h : Heap} {tk : Nat} {Q : Value → Shared → Prop} {fa : Addr} (F : Fr H L h m) (N : News H L h news) (hl : h.IsList l vs.toArray) (hi : IntsAre vs ps) (h2 : 2 ≤ ps.length) (h64 : ps.length < 64)
    (hf : ∀ D e1, (∀ q ∈ news, q.1 < D) → KeySays w A.in1.in1 g d o H L m ((D, seqObj "list" #[] e1) :: news) k1 k2 ps (.ref fa))
    (hrank : ∀ p ∈ ps, ∀ q ∈ ps, rank p < rank q ↔ k1 p < k1 q ∨ k1 p = k1 q ∧ k2 p < k2 q) (hinj : ∀ p ∈ ps, ∀ q ∈ ps, rank p = rank q → p = q) (hnd : ps.Nodup)
    (k : ∀ D h' tk' us ss c, IntsAre us ss → ss.Perm ps → ss.Pairwise (fun p q => rank p < rank q) → Fr H L h' m → News H L h' ((D, W.listOf us.toArray c) :: news) → Q (.ref D) ⟨h', g, d, tk', o⟩) :
    wpAny (model PG w) A (call (.builtin "sorted") [.ref l] [(Str.ofString "key", .ref fa)]) Q E ⟨h, g, d, tk, o⟩ := by
  have vl := hi.length
  refine kat_sortedK (b := false) (f := .ref fa) F N hl (by exact (Nat.le_trans h2 (Nat.le_of_eq (Eq.symm vl)))) (by exact (Nat.lt_of_le_of_lt (Nat.le_of_eq vl) h64)) (ksk_s1 _ _) (fun x => by unfold argsOk; kernel_rfl) (fun x => ksk_t1 _ _) fun D kS e1 h' F' N' l0 l1 => ?_
  refine keys_go (A := A.in1.in1) (hf D e1 l1) (Nat.ne_of_gt l0) (fun q hq => Nat.ne_of_lt (Nat.lt_trans (l1 q hq) l0)) vs ps hi (fun _ h => h) [] [] [] 0 h' _ .nil F' N' (fun _ h => nomatch h) fun ks tup e h'' tk'' x F2 N2 hd => ?_
  rw [List.nil_append] at x
  have Nt : News H L h'' tup := fun q hq => N2 q (.tail _ (.tail _ (List.mem_append_left _ hq)))
  obtain ⟨fs, t1, t2, t3⟩ := x.tups Nt
  refine kat_kind (T := .type "int") t1 (by omega) (fun v hv => ?_) (by decide) ?_
  · obtain ⟨k, t, rfl⟩ := t3 v hv
    exact Looks.of_pure rfl
  have A1 : Asks ps.length (fun i => rank (ps.getD i 0)) (kas_ask PG w A.in1.in1 (tuples' (Value.type "int" != Value.type "tuple")) (katRev false ks)) ⟨h'', g, d, tk'', o⟩ := key_ask (by rfl) Nt x hrank
  have gd : ∀ {i : Nat} (h : i < ps.length), ps.getD i 0 = ps[i] := fun {i} h => by rw [List.getD_eq_getElem?_getD, List.getElem?_eq_getElem h]; rfl
  rw [vl]
  refine ks_sort (rank := fun i => rank (ps.getD i 0)) (fun i j hi hj e => ?_) A1 h2 fun p P As => ?_
  · have := hinj _ (by rw [gd hi]; exact List.getElem_mem hi) _ (by rw [gd hj]; exact List.getElem_mem hj) e
    rw [gd hi, gd hj] at this
    have a1 := hnd.idxOf_getElem i hi
    have a2 := hnd.idxOf_getElem j hj
    rw [this] at a1
    exact a1.symm.trans a2
  · refine KatFin.intro F2 N2 (.head fun q hq => ?_) fun h3 c3 F3 N3 => KasFin.intro (news := (D, seqObj "list" #[] e1) :: ((kS, seqObj "list" #[] c3) :: (tup ++ news))) F3 (fun q hq => N3 q ?_) (.head fun q hq => ?_) fun h4 c4 F4 N4 => ?_
    · rcases List.mem_cons.mp hq with rfl | hq
      · exact Nat.ne_of_lt l0
      rcases List.mem_append.mp hq with hq | hq
      · exact (hd q hq).1
      · exact Nat.ne_of_lt (Nat.lt_trans (l1 q hq) l0)
    · rcases List.mem_cons.mp hq with rfl | hq
      · exact .tail _ (.head _)
      rcases List.mem_cons.mp hq with rfl | hq
      · exact .head _
      · exact .tail _ (.tail _ hq)
    · rcases List.mem_cons.mp hq with rfl | hq
      · exact Nat.ne_of_gt l0
      rcases List.mem_append.mp hq with hq | hq
      · exact (hd q hq).2
      · exact Nat.ne_of_lt (l1 q hq)
    · have hsz := P.size
      have hout : IntsAre (p.toList.map fun i => vs.getD i Value.none) (p.toList.map fun i => ps.getD i 0) := by
        refine ints_of_map fun i hi' => ?_
        have : i < ps.length := List.mem_range.mp (P.perm.mem_iff.mp hi')
        obtain ⟨t, e⟩ := ints_at hi this
        exact ⟨t, by rw [List.getD_eq_getElem?_getD, e]; rfl⟩
      refine k D h4 _ _ _ c4 hout ?_ ?_ F4 fun q hq => N4 q ?_
      · have := P.perm.map (fun i => ps.getD i 0)
        refine this.trans (List.Perm.of_eq ?_)
        refine List.ext_getElem (by simp) fun i h1 h2 => ?_
        simp only [List.getElem_map, List.getElem_range]
        exact gd h2
      · rw [List.pairwise_map, List.pairwise_iff_getElem]
        intro i j hi' hj' hij
        have := As.lt hij (by rw [← hsz]; simpa using hj')
        simp only [Array.getD_eq_getD_getElem?] at this
        simpa [Array.getElem?_eq_getElem, show i < p.size by simpa using hi', show j < p.size by simpa using hj'] using this
      · rcases List.mem_cons.mp hq with rfl | hq
        · exact .head _
        · exact .tail _ (.tail _ (List.mem_append_right _ hq))
end
end Mine

end
section
open PySem PySem.W PyProof.Rows PySem.Spec PySem.Calls
namespace Mine
section
variable {w : World} {A : Around} {E : Value → Shared → Prop} {g : Array GenState} {d : Drawn} {o : OsState} {H : Heap} {L : Addr} {m : Str → Option Value} {news : List (Addr × Obj)} {k1 k2 rank : Int → Int} {ps : List Int} {f : Value}
/-- the end of a sort of one item or none -/
theorem end_small {D kS : Addr} {e e1 : Nat} {ks vs : List Value} {s : Shared} {P : PySem.Fin → Shared → Prop} (hl : ks.length = vs.length) (h1 : vs.length < 2)
    (h : KatFin H L m kS D ks e e1 vs (fun s' => P (.done (.ret .none)) s') s) : wpAny (model PG w) A (ksk_end D false vs.toArray e1 (.ref kS) ks.toArray) P E s := by
  unfold ksk_end
  have hz : vs.toArray.size < 2 := by rw [List.size_toArray]; exact h1
  dsimp only
  rw [if_pos hz, if_pos hz]
  refine wpAny_bind (wpAny_pure ?_)
  show wpAny _ _ (pure ((), SortSt.mk' general' (ks.toArray.zip vs.toArray) #[] 7 none) >>= _) _ _ _
  refine wpAny_bind (wpAny_pure ?_)
  refine kat_tail (b := false) (out := vs) ?_ (by exact (Nat.lt_of_lt_of_le hz (by decide))) (by omega) (by rfl) h
  apply Array.toList_inj.mp
  show ((ks.toArray.zip vs.toArray).map (·.2)).toList = vs
  simp only [Array.toList_map, Array.toList_zip]
  match ks, vs, hl, h1 with
  | [], [], _, _ => rfl
  | [a], [b], _, _ => rfl
  | [], _ :: _, hl, _ => simp at hl
  | _ :: _, [], hl, _ => simp at hl
  | _ :: _ :: _, [_], hl, _ => simp at hl
  | _, _ :: _ :: _, _, h1 => exact absurd h1 (by simp only [List.length_cons]; exact (Nat.not_lt_of_le (Nat.le_add_left _ _)))
theorem sort_small {l : Addr} {vs : List Value} {h : Heap} {tk : Nat} {Q : Value → Shared → Prop} {fa : Addr} (F : Fr H L h m) (N : News H L h news) (hl : h.IsList l vs.toArray) (hi : IntsAre vs ps) (h1 : ps.length < 2)
    (hf : ∀ D e1, (∀ q ∈ news, q.1 < D) → KeySays w A.in1.in1 g d o H L m ((D, seqObj "list" #[] e1) :: news) k1 k2 ps (.ref fa))
    (k : ∀ D h' tk' us ss c, IntsAre us ss → ss.Perm ps → ss.Pairwise (fun p q => rank p < rank q) → Fr H L h' m → News H L h' ((D, W.listOf us.toArray c) :: news) → Q (.ref D) ⟨h', g, d, tk', o⟩) :
    wpAny (model PG w) A (call (.builtin "sorted") [.ref l] [(Str.ofString "key", .ref fa)]) Q E ⟨h, g, d, tk, o⟩ := by
  have vl := hi.length
  refine call_function_entry_kw kind_sorted plain_sorted entry_sorted (ksk_s1 _ _) ?_
  unfold Builtin.«sorted»
  refine wpAny_bind (m := checkCount "sorted" 1 1 _) (wpAny_pure ?_)
  refine wpAny_bind (collect_list hl ?_ (by rw [sizeLine_eq]; omega))
  refine wpAny_bind (wpAny_newList ?_ (by rw [sizeLine_eq]; omega))
  dsimp only
  generalize hG : (h.push (seqObj "list" #[] 0)).update h.objs.size (Obj.mapSeq (· ++ vs.toArray)) = G
  have hGs : G.objs.size = h.objs.size + 1 := by rw [← hG, Heap.size_update, size_push']
  have hGk : ∀ b ob, h.get? b = some ob → G.get? b = some ob := fun b ob e => by
    rw [← hG, Heap.get?_update_ne _ _ _ _ (Nat.ne_of_lt (Heap.lt_size e)), Heap.get?_push_ne _ _ _ (Nat.ne_of_lt (Heap.lt_size e))]
    exact e
  have hFL : L < h.objs.size := F.ns.lt
  obtain ⟨D, hD⟩ : ∃ D, D = G.objs.size := ⟨_, rfl⟩
  rw [← hD]
  have hoD : (G.push (seqObj "list" vs.toArray 0)).get? D = some (seqObj "list" vs.toArray 0) := hD ▸ Heap.get?_push_size _ rfl
  have hk1 : ∀ b ob, h.get? b = some ob → (G.push (seqObj "list" vs.toArray 0)).get? b = some ob := fun b ob e => Heap.get?_push_of_some _ (hGk _ _ e)
  have lD : ∀ b ob, h.get? b = some ob → b < D := fun b ob e => by rw [hD, hGs]; exact Nat.lt_succ_of_lt (Heap.lt_size e)
  have hDL : D ≠ L := Nat.ne_of_gt (by rw [hD, hGs]; exact Nat.lt_succ_of_lt hFL)
  have hDH : H.get? D = none := Heap.get?_none_of_le (by rw [hD, hGs]; exact Nat.le_trans F.above (Nat.le_of_lt (Nat.lt_succ_of_lt hFL)))
  show wpAny _ _ _ _ _ ⟨G.push (seqObj "list" vs.toArray 0), g, d, tk, o⟩
  generalize G.push (seqObj "list" vs.toArray 0) = G1 at hoD hk1 ⊢
  have F1 : Fr H L G1 m := Fr.stay F hk1
  have N1 : News H L G1 ((D, seqObj "list" vs.toArray 0) :: news) := fun q hq => by
    rcases List.mem_cons.mp hq with rfl | hq
    · exact ⟨hoD, hDL, hDH⟩
    · exact (News.stay N hk1) q hq
  refine wpAny_bind (wpAny_holding (wpAny_call_entry_kw slot_list_sort ⟨_, hoD, rfl⟩ entry_list_sort ?_ (by unfold argsOk; kernel_rfl)))
  show wpAny (model PG w) A.in1.in1 (ksk_tree D (.ref fa) false) _ _ _
  unfold ksk_tree
  refine wpAny_bind (listItems_at hoD rfl ?_)
  refine wpAny_bind (listUpdate_at hoD rfl ?_ (by rw [List.size_toArray, sizeLine_eq]; omega) (Nat.zero_le _))
  have s2 := Heap.SameBut.update G1 D (Obj.mapSeq fun _ => (#[] : Array Value))
  obtain ⟨e1, ho1⟩ : ∃ e1, (G1.update D (Obj.mapSeq fun _ => (#[] : Array Value))).get? D = some (seqObj "list" #[] e1) := ⟨_, get?_update_seq hoD fun _ => #[]⟩
  generalize G1.update D (Obj.mapSeq fun _ => (#[] : Array Value)) = G2 at s2 ho1 ⊢
  have F2 := F1.change s2 hDL hDH
  have N2 : News H L G2 ((D, seqObj "list" #[] e1) :: news) := fun q hq => by
    rcases List.mem_cons.mp hq with rfl | hq
    · exact ⟨ho1, hDL, hDH⟩
    · exact ⟨(s2.2 _ (Nat.ne_of_lt (lD _ _ (N q hq).1))).trans (N1 q (.tail _ hq)).1, (N q hq).2⟩
  refine wpAny_bind (seqEpoch_at ho1 rfl ?_)
  refine wpAny_bind (wpAny_newTuple ?_ (by show vs.length ≤ _; rw [sizeLine_eq]; omega))
  refine wpAny_bind (wpAny_newList ?_ (Nat.zero_le _))
  dsimp only
  refine wpAny_holding ?_
  generalize hG3 : G2.push { cls := .type "tuple", data := .seq vs.toArray } = G3
  have F3 : Fr H L G3 m := hG3 ▸ F2.push _
  have N3 : News H L G3 ((D, seqObj "list" #[] e1) :: news) := hG3 ▸ News.stay N2 fun b ob e => Heap.get?_push_of_some _ e
  obtain ⟨kS, hkS⟩ : ∃ kS, kS = G3.objs.size := ⟨_, rfl⟩
  rw [← hkS]
  have lDk : D < kS := by rw [hkS]; exact Heap.lt_size (N3 _ (.head _)).1
  have lnk : ∀ q ∈ news, q.1 < kS := fun q hq => by rw [hkS]; exact Heap.lt_size (N3 q (.tail _ hq)).1
  have lLk : L < kS := by rw [hkS]; exact F3.ns.lt
  show wpAny _ _ _ _ _ ⟨G3.push (seqObj "list" #[] 0), g, d, tk, o⟩
  have hok : (G3.push (seqObj "list" #[] 0)).get? kS = some (seqObj "list" #[] 0) := hkS ▸ Heap.get?_push_size _ rfl
  have F4 : Fr H L (G3.push (seqObj "list" #[] 0)) m := F3.push _
  have N4 : News H L (G3.push (seqObj "list" #[] 0)) ((kS, seqObj "list" #[] 0) :: (D, seqObj "list" #[] e1) :: news) := fun q hq => by
    rcases List.mem_cons.mp hq with rfl | hq
    · exact ⟨hok, Nat.ne_of_gt lLk, Heap.get?_none_of_le (Nat.le_trans F.above (Nat.le_of_lt lLk))⟩
    · exact (News.stay N3 fun b ob e => Heap.get?_push_of_some _ e) q hq
  generalize G3.push (seqObj "list" #[] 0) = G4 at F4 N4 ⊢
  clear F1 N1 F2 N2 F3 N3 hok hG3
  have fin : ∀ (h5 : Heap) (tk5 : Nat) (ks : List Value) (e5 : Nat) (P : PySem.Fin → Shared → Prop) (E' : Value → Shared → Prop), Fr H L h5 m → News H L h5 ((kS, seqObj "list" ks.toArray e5) :: (D, seqObj "list" #[] e1) :: news) → ks.length = vs.length →
      (∀ h6 c, Fr H L h6 m → News H L h6 ((D, W.listOf vs.toArray c) :: news) → P (.done (.ret .none)) ⟨h6, g, d, tk5, o⟩) → wpAny (model PG w) A.in1.in1 (Builtin.List.listItems (.ref kS) >>= fun keys => ksk_end D false vs.toArray e1 (.ref kS) keys) P E' ⟨h5, g, d, tk5, o⟩ := fun h5 tk5 ks e5 P E' F5 N5 hkl hP => by
    refine wpAny_bind (listItems_at (N5 _ (.head _)).1 rfl ?_)
    refine end_small hkl (by omega) (KatFin.intro F5 N5 (.head fun q hq => ?_) fun h6 c6 F6 N6 => KasFin.intro (news := (D, seqObj "list" #[] e1) :: ((kS, seqObj "list" #[] c6) :: news)) F6 (fun q hq => N6 q ?_) (.head fun q hq => ?_) fun h7 c7 F7 N7 => hP h7 c7 F7 fun q hq => N7 q ?_)
    · rcases List.mem_cons.mp hq with rfl | hq
      · exact Nat.ne_of_lt lDk
      · exact Nat.ne_of_lt (lnk q hq)
    · rcases List.mem_cons.mp hq with rfl | hq
      · exact .tail _ (.head _)
      rcases List.mem_cons.mp hq with rfl | hq
      · exact .head _
      · exact .tail _ (.tail _ hq)
    · rcases List.mem_cons.mp hq with rfl | hq
      · exact Nat.ne_of_gt lDk
      · exact Nat.ne_of_lt (lD _ _ (N q hq).1)
    · rcases List.mem_cons.mp hq with rfl | hq
      · exact .head _
      · exact .tail _ (.tail _ hq)
  have last : ∀ (h6 : Heap) (tk6 c : Nat), Fr H L h6 m → News H L h6 ((D, W.listOf vs.toArray c) :: news) → Q (.ref D) ⟨h6, g, d, tk6, o⟩ := fun h6 tk6 c F6 N6 => k D h6 tk6 vs ps c hi (List.Perm.refl _) (by
    match ps, h1 with
    | [], _ => exact .nil
    | [a], _ => simp
    | _ :: _ :: _, h1 => exact absurd h1 (by simp only [List.length_cons]; exact (Nat.not_lt_of_le (Nat.le_add_left _ _)))) F6 N6
  unfold ksk_rest
  refine wpAny_bind (wpAny_rule ?_)
  rw [List.forIn_toArray]
  cases hi with
  | nil =>
    rw [List.forIn_nil]
    refine wpAny_bind (wpAny_pure ?_)
    exact fin G4 _ [] 0 _ _ F4 N4 rfl fun h6 c F6 N6 => ⟨_, rfl, wpAny_pure ⟨_, rfl, last h6 _ c F6 N6⟩⟩
  | cons p tp hi' =>
    cases hi' with
    | cons => exact absurd h1 (by simp only [List.length_cons]; exact (Nat.not_lt_of_le (Nat.le_add_left _ _)))
    | nil =>
      rw [List.forIn_cons]
      refine wpAny_bind (wpAny_bind (wpAny_bind (wpAny_attempt (wpAny_mono (hf D e1 (fun q hq => lD _ _ (N q hq).1) p tp G4 _ (fun v s' => ∃ t h' tk' t1 t2, v = .ref t ∧ s' = ⟨h', g, d, tk', o⟩ ∧ G4.StaysIn h') (.head _) F4 (fun q hq => N4 q (.tail _ hq)) fun t h' tk' t1 t2 st hn ht => ⟨t, h', tk', t1, t2, rfl, rfl, st⟩) (fun v s' hv => ?_) fun _ _ x => x.elim))))
      obtain ⟨t, h', tk', t1, t2, rfl, rfl, st⟩ := hv
      have F5 := Fr.stay F4 st
      have N5 := News.stay N4 st
      dsimp only
      have nk := N5 _ (.head _)
      refine wpAny_bind (listUpdate_at nk.1 rfl ?_ (Nat.zero_le _) (by show 1 ≤ _; rw [sizeLine_eq]; decide))
      have s6 := Heap.SameBut.update h' kS (Obj.mapSeq (·.push (.ref t)))
      obtain ⟨c6, ho6⟩ : ∃ c6, (h'.update kS (Obj.mapSeq (·.push (.ref t)))).get? kS = some (seqObj "list" [Value.ref t].toArray c6) := ⟨_, get?_update_seq nk.1 (·.push (.ref t))⟩
      generalize h'.update kS (Obj.mapSeq (·.push (.ref t))) = G6 at s6 ho6 ⊢
      have F6 := F5.change s6 nk.2.1 nk.2.2
      have N6 : News H L G6 ((kS, seqObj "list" [Value.ref t].toArray c6) :: (D, seqObj "list" #[] e1) :: news) := fun q hq => by
        rcases List.mem_cons.mp hq with rfl | hq
        · exact ⟨ho6, nk.2⟩
        · refine ⟨(s6.2 _ ?_).trans (N5 q (.tail _ hq)).1, (N5 q (.tail _ hq)).2⟩
          rcases List.mem_cons.mp hq with rfl | hq
          · exact Nat.ne_of_lt lDk
          · exact Nat.ne_of_lt (lnk q hq)
      refine wpAny_pure ?_
      show wpAny _ _ (forIn [] PUnit.unit _) _ _ _
      rw [List.forIn_nil]
      refine wpAny_pure ?_
      exact fin G6 _ [.ref t] c6 _ _ F6 N6 rfl fun h7 c F7 N7 => ⟨_, rfl, wpAny_pure ⟨_, rfl, last h7 _ c F7 N7⟩⟩
/-- sorted(numbers, key=f), the keys pairs of numbers -/
theorem sort_keyed {l : Addr} {vs : List Value} {h : Heap} {tk : Nat} {Q : Value → Shared → Prop} {fa : Addr} (F : Fr H L h m) (N : News H L h news) (hl : h.IsList l vs.toArray) (hi : IntsAre vs ps) (h64 : ps.length < 64)
    (hf : ∀ D e1, (∀ q ∈ news, q.1 < D) → KeySays w A.in1.in1 g d o H L m ((D, seqObj "list" #[] e1) :: news) k1 k2 ps (.ref fa))
    (hrank : ∀ p ∈ ps, ∀ q ∈ ps, rank p < rank q ↔ k1 p < k1 q ∨ k1 p = k1 q ∧ k2 p < k2 q) (hinj : ∀ p ∈ ps, ∀ q ∈ ps, rank p = rank q → p = q) (hnd : ps.Nodup)
    (k : ∀ D h' tk' us ss c, IntsAre us ss → ss.Perm ps → ss.Pairwise (fun p q => rank p < rank q) → Fr H L h' m → News H L h' ((D, W.listOf us.toArray c) :: news) → Q (.ref D) ⟨h', g, d, tk', o⟩) :
    wpAny (model PG w) A (call (.builtin "sorted") [.ref l] [(Str.ofString "key", .ref fa)]) Q E ⟨h, g, d, tk, o⟩ := by
  rcases Nat.lt_or_ge ps.length 2 with h2 | h2
  · exact sort_small (rank := rank) F N hl hi h2 hf k
  · exact sort_big F N hl hi h2 h64 hf hrank hinj hnd k
end
end Mine

end
section
open PySem PySem.W PyProof.Rows PySem.Spec PySem.Calls
namespace Mine
section
variable {w : World} {p : Program} {loose : List Str} {mean : ExcName → Option Value} {mg mb : Str → Option Value}
noncomputable abbrev None' : Heap → Prop := fun _ => True
set_option maxHeartbeats 1000000 in
theorem kind_tells {n : Nat} (a x : Str) (ta tx : Tok) :
    Tells w p loose mean mg mb (n + 1) 140 [.str a ta, .str x tx] None' (fun _ _ v => ∃ t, v = .str Str.empty t) := by
  rintro A base ⟨H, g, d, tk, o⟩ R S hpre hR
  have X := S.X
  have T := S.T
  refine' enter [("name", .str a ta), ("x", .str x tx)] S (fun _ _ e => e) (Nat.le_refl _) ?k6 ?k7 ?kb ?kl ?c1 ?c2 ?c3 ?c4 ?_
  ((case k6 => k_is); (case k7 => k_is); (case kb => exact rfl); (case kl => exact rfl); (case c1 => exact rfl); (case c2 => exact rfl); (case c3 => exact rfl); (case c4 => exact rfl))
  intro L dp un fr gd h₁ tk₁ Q I _ _ F hQ _
  have N : News H L h₁ [] := News.nil
  clear S
  (repeat' (first | k_data | (walk1; try dsimp only) | (with_reducible refine ite_no ?_) | (with_reducible refine ite_yes ?_)))
  rename Fr _ _ _ _ => F2
  exact hQ _ _ (hR _ _ _ F2.keep ⟨_, rfl⟩)
set_option maxHeartbeats 1000000 in
theorem fspath_tells {n : Nat} (a x : Str) (ta tx : Tok) :
    Tells w p loose mean mg mb (n + 2) 147 [.str a ta, .str x tx] None' (fun _ _ v => v = .str x tx) := by
  rintro A base ⟨H, g, d, tk, o⟩ R S hpre hR
  have X := S.X
  have T := S.T
  refine' enter [("name", .str a ta), ("x", .str x tx)] S (fun _ _ e => e) (Nat.le_refl _) ?k6 ?k7 ?kb ?kl ?c1 ?c2 ?c3 ?c4 ?_
  ((case k6 => k_is); (case k7 => k_is); (case kb => exact rfl); (case kl => exact rfl); (case c1 => exact rfl); (case c2 => exact rfl); (case c3 => exact rfl); (case c4 => exact rfl))
  intro L dp un fr gd h₁ tk₁ Q I _ _ F hQ _
  have N : News H L h₁ [] := News.nil
  clear S
  (repeat' (first | k_data | (walk1; try dsimp only) | (with_reducible refine ite_no ?_) | (with_reducible refine ite_yes ?_)))
  refine Tells.at (kind_tells _ _ _ _) I F trivial fun v h2 tk2 F2 st2 hv => ?_
  obtain ⟨t, rfl⟩ := hv
  have N2 := News.stay N st2
  (repeat' (first | k_data | (walk1; try dsimp only) | (with_reducible refine ite_no ?_) | (with_reducible refine ite_yes ?_)))
  rename Fr _ _ _ _ => F3
  exact hQ _ _ (hR _ _ _ F3.keep rfl)
noncomputable def headRaw (x : Str) : Str := Txt.slice x none (some (Txt.rfind x "/" + 1))
noncomputable def splitHead (x : Str) : Str := if (headRaw x).length ≠ 0 ∧ headRaw x ≠ Txt.mul "/" (headRaw x).length then Txt.rstripChars (headRaw x) "/" else headRaw x
noncomputable def splitTail (x : Str) : Str := Txt.slice x (some (Txt.rfind x "/" + 1)) none
theorem splitHead_yes {x : Str} (h1 : ((headRaw x).length : Int) ≠ 0) (h2 : (headRaw x != Txt.mul "/" (headRaw x).length) = true) : splitHead x = Txt.rstripChars (headRaw x) "/" := by
  rw [splitHead, if_pos ⟨fun e => h1 (by rw [e]; rfl), fun e => by rw [← e] at h2; simp at h2⟩]
theorem splitHead_no {x : Str} (h2 : (headRaw x != Txt.mul "/" (headRaw x).length) = false) : splitHead x = headRaw x := by
  rw [splitHead, if_neg fun ⟨_, q⟩ => q (by simpa using h2)]
theorem splitHead_nil {x : Str} (h1 : ((headRaw x).length : Int) = 0) : splitHead x = headRaw x := by
  rw [splitHead, if_neg fun ⟨q, _⟩ => q (by exact_mod_cast h1)]
theorem split_post {H h : Heap} {L r : Addr} {x a : Str} {t u : Tok} {news : List (Addr × Obj)} (N : News H L h ((r, { cls := .type "tuple", data := .seq #[.str a t, .str (Txt.slice x (some (Txt.rfind x "/" + 1)) none) u] }) :: news)) (e : splitHead x = a) :
    ∃ r' t u, Value.ref r = .ref r' ∧ H.get? r' = none ∧ h.get? r' = some { cls := .type "tuple", data := .seq #[.str (splitHead x) t, .str (splitTail x) u] } := by
  subst e
  exact ⟨r, t, u, rfl, (newHd N).1, (newHd N).2⟩
set_option maxHeartbeats 1000000 in
theorem split_tells {n : Nat} (x : Str) (tx : Tok) (hx : x.length ≤ 1048576) :
    Tells w p loose mean mg mb (n + 3) 154 [.str x tx] None' (fun h h' v => ∃ r t u, v = .ref r ∧ h.get? r = none ∧ h'.get? r = some { cls := .type "tuple", data := .seq #[.str (splitHead x) t, .str (splitTail x) u] }) := by
  rintro A base ⟨H, g, d, tk, o⟩ R S hpre hR
  have X := S.X
  have T := S.T
  refine' enter [("p", .str x tx)] S (fun _ _ e => e) (Nat.le_refl _) ?k6 ?k7 ?kb ?kl ?c1 ?c2 ?c3 ?c4 ?_
  ((case k6 => k_is); (case k7 => k_is); (case kb => exact rfl); (case kl => exact rfl); (case c1 => exact rfl); (case c2 => exact rfl); (case c3 => exact rfl); (case c4 => exact rfl))
  intro L dp un fr gd h₁ tk₁ Q I _ _ F hQ _
  have N : News H L h₁ [] := News.nil
  clear S
  (repeat' (first | k_data | (walk1; try dsimp only) | (with_reducible refine ite_no ?_) | (with_reducible refine ite_yes ?_)))
  refine Tells.at (fspath_tells _ _ _ _) I F trivial fun v h2 tk2 F2 st2 hv => ?_
  subst hv
  have N2 := News.stay N st2
  (repeat' (first | k_data | (walk1; try dsimp only) | (with_reducible refine ite_no ?_) | (with_reducible refine ite_yes ?_)))
  · rename News _ _ _ _ => N3
    rename Fr _ _ _ _ => F3
    exact hQ _ _ (hR _ _ _ F3.keep (split_post N3 (splitHead_yes (by assumption) (by assumption))))
  · rename News _ _ _ _ => N3
    rename Fr _ _ _ _ => F3
    exact hQ _ _ (hR _ _ _ F3.keep (split_post N3 (splitHead_no (by assumption))))
  · rename News _ _ _ _ => N3
    rename Fr _ _ _ _ => F3
    exact hQ _ _ (hR _ _ _ F3.keep (split_post N3 (splitHead_nil (by assumption))))
end
end Mine

end
section
open PySem PySem.W PyProof.Rows PySem.Spec PySem.Calls
namespace Mine

/-- the strings that _ancestry yields from a path on -/
inductive AncIs : Str → List Str → Prop
  | nil {x : Str} : (Txt.rstripChars x "/").length = 0 → x.length ≤ 1000 → AncIs x []
  | cons {x : Str} {as : List Str} : (Txt.rstripChars x "/").length ≠ 0 → x.length ≤ 1000 → AncIs (splitHead x) as → AncIs x (x :: as)

section
variable {w : World} {p : Program} {loose : List Str} {mean : ExcName → Option Value} {mg mb : Str → Option Value} {A : Around} {base H h : Heap} {n : Nat}

/-- a generator's def is called: its frame and its object are new -/
theorem callG {name qual : Str} {params : Arguments} {body : List Stmt} {scope : Scope} {dV kV doc pm cdv ct oc : Value} {an od : Option Addr} {osl : Array (Option Value)} {f : Addr} {args : Args} (binds : List (Str × Value)) {g : Array GenState} {d : Drawn} {tk : Nat} {o : OsState} {R : Result → Shared → Prop}
    (S : Std w p loose mean mg mb (n + 1) A base h)
    (ho : (hd.heap_1 w.params).lookup f = some ⟨oc, od, .func (fnOf name qual params body scope dV kV doc pm an cdv ct), osl⟩) (hcd : codeIn (hd.heap_1 w.params) cdv qual = true)
    (hbind : bindArgs (fnOf name qual params body scope dV kV doc pm an cdv ct) args = pure binds) (hloc : (binds.all fun x => decide (scope.names.lookup x.1 = some .local)) = true)
    (hco : scope.isCoroutine = false) (hgen : scope.isGenerator = true) (hk : scope.kind = .function) (hcell : (scope.names.all fun x => x.2 != .cell) = true)
    (h' : ∀ (L ga : Addr) (h₁ : Heap) (tk₁ : Nat), h.StaysIn h₁ → h.objs.size ≤ L → h.get? ga = none → ga ≠ L → h₁.Ns L (fun y => binds.reverse.lookup y) → h₁.IsGen ga g.size →
      R (.ok (.ret (.ref ga))) ⟨h₁, g.push (.fresh (.func body (envOf qual scope L f cdv))), d, tk₁, o⟩) : codeAny (model PG w) A (.call (.ref f) args) R ⟨h, g, d, tk, o⟩ := by
  refine codeAny_call_generator (fd := fnOf name qual params body scope dV kV doc pm an cdv ct) (by have := S.hd; exact (Nat.lt_of_lt_of_le (Nat.lt_succ_of_le (Nat.le_add_right _ _)) (Nat.succ_le_of_lt this))) (S.X _ _ ho) rfl hco hgen rfl (codeRec_of S.X hcd) ((BindsTo.of_eq hbind) _ _ _ _ ?_)
  refine wpAny_newFunctionEnv (fun x hx => by simpa using List.all_eq_true.mp hcell x hx) (locs hloc) (fun h₀ hns hsb => ?_) hk
  have old : h.StaysIn h₀ := fun b o e => hsb.extBut b o (Nat.ne_of_lt (Heap.lt_size e)) (Heap.get?_push_of_some _ e)
  refine ⟨S.T.nolimit.keeps old, ?_⟩
  have hnew : h₀.get? h₀.objs.size = none := by
    cases e : h₀.get? h₀.objs.size with
    | none => rfl
    | some o' => exact absurd (Heap.lt_size e) (Nat.lt_irrefl _)
  refine h' h.objs.size h₀.objs.size _ _ (fun b o e => Heap.get?_push_of_some _ (old b o e)) (Nat.le_refl _) ?_ ?_ (hns.at' fun o e => Heap.get?_push_of_some _ e) ⟨_, _, _, Heap.get?_push_size _ rfl, rfl, rfl, rfl⟩
  · cases e : h.get? h₀.objs.size with
    | none => rfl
    | some o' => (first | exact (ne_get hnew (old _ _ e) rfl).elim | exact (ne_get (old _ _ e) hnew rfl).elim | (rw [old _ _ e] at hnew; cases hnew))
  · exact fun e => absurd hns.lt (by rw [← e]; exact Nat.lt_irrefl _)
end

/-- all but L's object stands -/
noncomputable def Kept (L : Addr) (s₀ s₁ : Shared) : Prop := (∀ b o, b ≠ L → s₀.heap.get? b = some o → s₁.heap.get? b = some o) ∧ s₁.gens = s₀.gens ∧ s₁.drawn = s₀.drawn ∧ s₁.os = s₀.os ∧ ∃ o, s₁.heap.get? L = some o
noncomputable abbrev GEnd (L : Addr) : GenEnd := fun n s₀ r s₁ => r = .ok (.ret .none) ∧ n = 0 ∧ Kept L s₀ s₁
noncomputable abbrev GYield (base : Heap) (L : Addr) (as : List Str) : Protocol := fun n s₀ v s₁ kap => (∃ t, v = .str (as.getD (as.length - 1 - n) Str.empty) t) ∧ Kept L s₀ s₁ ∧ ∀ s₂, base.StaysIn s₂.heap → s₂.heap.get? L = s₁.heap.get? L → kap (.send .none) s₂
/-- the around of a generator's body, whoever wakes it -/
noncomputable abbrev weak (D U : Nat) : Around := ⟨none, D, none, none, U⟩

theorem kept_of {base h h' : Heap} {L : Addr} {m : Str → Option Value} {news : List (Addr × Obj)} {g : Array GenState} {d : Drawn} {tk tk' : Nat} {o : OsState} (hb0 : base.StaysIn h) (F : Fr base L h' m) (N : News base L h' news) (hs : ∀ q ∈ ledgerOf base L h, q ∈ news) : Kept L ⟨h, g, d, tk, o⟩ ⟨h', g, d, tk', o⟩ := by
  refine ⟨fun b ob hb e => ?_, rfl, rfl, rfl, ?_⟩
  · cases q : base.get? b with
    | some o' =>
      have := hb0 _ _ q
      rw [e] at this
      cases this
      exact F.keep _ _ q
    | none => exact (N _ (hs _ (mem_ledgerOf.mpr ⟨e, hb, q⟩))).1
  · obtain ⟨oL, _, _, hL, _⟩ := F.ns
    exact ⟨oL, hL⟩
theorem Kept.trans {L : Addr} {a b c : Shared} (x : Kept L a b) (y : Kept L b c) : Kept L a c :=
  ⟨fun k o hk e => y.1 k o hk (x.1 k o hk e), y.2.1.trans x.2.1, y.2.2.1.trans x.2.2.1, y.2.2.2.1.trans x.2.2.2.1, y.2.2.2.2⟩
/-- the body's state: the path's name -/
noncomputable def AtPath (base : Heap) (L : Addr) (x : Str) (s : Shared) : Prop := base.StaysIn s.heap ∧ ∃ m t, Fr base L s.heap m ∧ m "path" = some (.str x t)
section
variable {w : World} {base : Heap} {L : Addr} {D U : Nat} {all : List Str} {test e : Expr} {st : Stmt} {ypos pos : Pos} {env : Env} {fs : List Frame}
theorem gen_loop (hfs : splitAtGen fs = none) (hfg : fs.any Frame.guarded = false) (hco : env.scope.isCoroutine = false) (hi : interactive env = false)
    (htest : ∀ x s, x.length ≤ 1000 → AtPath base L x s → wpAny (model PG w) ((weak D U).over (.whileLoop test [.Expr (.Yield (some e) ypos) pos, st] [] env) fs) (isTrue test env (eval test env)) (fun b s' => b = decide ((Txt.rstripChars x "/").length ≠ 0) ∧ AtPath base L x s' ∧ Kept L s s') No s)
    (hye : ∀ x s, AtPath base L x s → wpAny (model PG w) ((weak D U).over (.whileLoop test [.Expr (.Yield (some e) ypos) pos, st] [] env) fs) (eval e env) (fun v s' => (∃ t, v = .str x t) ∧ AtPath base L x s' ∧ Kept L s s') No s)
    (hst : ∀ x s, x.length ≤ 1000 → AtPath base L x s → wpAny (model PG w) ((weak D U).over (.whileLoop test [.Expr (.Yield (some e) ypos) pos, st] [] env) fs) (exec st env) (fun f s' => f = .next ∧ AtPath base L (splitHead x) s' ∧ Kept L s s') No s)
    (hend : ∀ s₀ s, Kept L s₀ s → Seg (model PG w) (weak D U) (GEnd L) (GYield base L all) 0 s₀ (.whileLoop test [.Expr (.Yield (some e) ypos) pos, st] [] env) (.pure (.done .next)) fs s) (n : Nat) :
    ∀ (as : List Str) (x : Str) (s₀ s : Shared), AncIs x as → as.length = n → AtPath base L x s → Kept L s₀ s → (∃ pre, all = pre ++ as) →
      Seg (model PG w) (weak D U) (GEnd L) (GYield base L all) n s₀ (.whileLoop test [.Expr (.Yield (some e) ypos) pos, st] [] env) ((model PG w).den (.whileLoop test [.Expr (.Yield (some e) ypos) pos, st] [] env)) fs s := by
  induction n with
  | zero =>
    intro as x s₀ s ha hn hs hk _
    cases ha with
    | cons _ _ _ => cases hn
    | nil h0 hx =>
      refine seg_whileLoop (wpAny_mono (htest x s hx hs) (fun b s' hb => ?_) fun _ _ z => z.elim)
      obtain ⟨rfl, h1, h2⟩ := hb
      rw [if_neg (by simp [h0])]
      exact seg_execs_nil (hend _ _ (hk.trans h2))
  | succ n ih =>
    intro as x s₀ s ha hn hs hk hall
    cases ha with
    | nil _ _ => cases hn
    | cons h0 hx ha =>
      rename_i as
      refine seg_whileLoop (wpAny_mono (htest x s hx hs) (fun b s' hb => ?_) fun _ _ z => z.elim)
      obtain ⟨rfl, h1, h2⟩ := hb
      rw [if_pos (by simp [h0])]
      refine seg_execs_cons (seg_Expr_Yield hfs rfl hfg (wpAny_mono (hye x s' h1) (fun v s₁ hv kap hkap => ?_) fun _ _ z => z.elim) hco hi)
      obtain ⟨⟨t, rfl⟩, h3, h4⟩ := hv
      obtain ⟨pre, hpre⟩ := hall
      rw [List.length_cons] at hn
      refine ⟨⟨t, ?_⟩, (hk.trans h2).trans h4, fun s₂ hb2 hL2 => hkap _ _ ?_⟩
      · rw [hpre, List.length_append, List.length_cons, show pre.length + (as.length + 1) - 1 - n = pre.length by omega, List.getD_eq_getElem?_getD, List.getElem?_append_right (Nat.le_refl _), Nat.sub_self]
        rfl
      · show Seg _ _ _ _ n s₂ _ _ fs s₂
        have h5 : AtPath base L x s₂ := by
          obtain ⟨_, m, t, F, hm⟩ := h3
          obtain ⟨oL, es, ep, hL, r⟩ := F.ns
          exact ⟨hb2, m, t, ⟨⟨oL, es, ep, hL2.trans hL, r⟩, hb2, F.above⟩, hm⟩
        refine seg_execs_cons (seg_wrap (wpAny_mono (hst x s₂ hx h5) (fun f s₃ hf => ?_) fun _ _ z => z.elim))
        obtain ⟨rfl, h6, h7⟩ := hf
        exact seg_execs_nil (seg_again rfl (ih as _ s₂ s₃ ha (by omega) h6 h7 ⟨pre ++ [x], by rw [hpre, List.append_assoc]; rfl⟩))
end
/-- a generator that yields on: n strings are left -/
noncomputable def Live (w : World) (base : Heap) (D U : Nat) (all : List Str) (L : Addr) (n : Nat) (gs : GenState) (oL : Obj) : Prop :=
  ∀ s, base.StaysIn s.heap → s.heap.get? L = some oL → gs.Goes (model PG w) (weak D U) (GEnd L) (GYield base L all) n (.send .none) s
section
variable {w : World} {p : Program} {loose : List Str} {mean : ExcName → Option Value} {mg mb : Str → Option Value} {A : Around} {base h : Heap} {n : Nat}
set_option maxHeartbeats 2000000 in
theorem ancestry_call {x : Str} {tx : Tok} {g : Array GenState} {d : Drawn} {tk : Nat} {o : OsState} {R : Result → Shared → Prop} {D U : Nat} {all : List Str}
    (S : Std w p loose mean mg mb (n + 1) A base h) (hD : D + 20 < recursionLimit) (hU : U + 200 < cLine) (hx : x.length ≤ 1000) (ha : AncIs (Txt.rstripChars x "/") all)
    (h' : ∀ (L ga : Addr) (h₁ : Heap) (tk₁ : Nat) (oL : Obj) (gs : GenState), h.StaysIn h₁ → h.objs.size ≤ L → h.get? ga = none → ga ≠ L → h₁.get? L = some oL → h₁.IsGen ga g.size → gs.bare = true → Live w base D U all L all.length gs oL →
      R (.ok (.ret (.ref ga))) ⟨h₁, g.push gs, d, tk₁, o⟩) : codeAny (model PG w) A (.call (.ref 161) ⟨[.str x tx], []⟩) R ⟨h, g, d, tk, o⟩ := by
  have X := S.XB
  have T := S.TB
  refine' callG [("path", .str x tx)] S ?k6 ?k7 ?kb ?kl ?c1 ?c2 ?c3 ?c4 ?_
  case k6 => k_is
  case k7 => k_is
  case kb => exact rfl
  case kl => exact rfl
  case c1 => exact rfl
  case c2 => exact rfl
  case c3 => exact rfl
  case c4 => exact rfl
  intro L ga h₁ tk₁ st hL hga hne hns hg
  obtain ⟨oL, es, ep, hoL, hr⟩ := id hns
  refine h' L ga h₁ tk₁ oL _ st hL hga hne hoL hg rfl ?_
  intro s hb hs
  refine ⟨rfl, seg_func (seg_execs_cons (seg_wrap ?_))⟩
  obtain ⟨hp, g0, d0, tk0, o0⟩ := s
  have F : Fr base L hp (fun y => ([("path", Value.str x tx)] : List (Str × Value)).reverse.lookup y) := ⟨⟨oL, es, ep, hs, hr⟩, hb, Nat.le_trans S.sz hL⟩
  have N : News base L hp (ledgerOf base L hp) := news_ledgerOf
  (repeat' (first | k_data | ((fail_if_success (with_reducible show wpAny _ _ (exec (Stmt.While _ _ _ _) _) _ _ _)); walk1; try dsimp only) | (with_reducible refine ite_no ?_) | (with_reducible refine ite_yes ?_)))
  rename Fr _ _ _ _ => F1
  rename News _ _ _ _ => N1
  refine seg_execs_cons (seg_While fun p' => ?_)
  refine gen_loop (L := L) rfl rfl rfl rfl ?htest ?hye ?hst ?hend all.length all _ _ _ ha rfl ⟨F1.keep, _, _, F1, rfl⟩ (kept_of hb F1 N1 fun _ h => h) ⟨[], rfl⟩
  case hend =>
    intro s₀ s hk
    exact seg_leaf (.ok .next) (seg_end (.ok (.ret .none)) ⟨rfl, rfl, hk⟩)
  case htest =>
    rintro y ⟨h2, g2, d2, tk2, o2⟩ hy ⟨hb2, m, t, F2, hm⟩
    replace F2 := Fr.norm F2 [("path", .str y t)] (by intro q hq; obtain rfl := List.mem_singleton.mp hq; exact hm)
    have N2 : News base L h2 (ledgerOf base L h2) := news_ledgerOf
    clear F1 N1
    (repeat' (first | k_data | ((fail_if_success (with_reducible show wpAny _ _ (exec (Stmt.While _ _ _ _) _) _ _ _)); walk1; try dsimp only) | (with_reducible refine ite_no ?_) | (with_reducible refine ite_yes ?_)))
    · by_cases q : (Txt.rstripChars y "/").length = 0
      · rw [q]; rfl
      · rw [decide_eq_true q]; simpa using q
    · exact ⟨hb2, m, t, by rwa [mput_eq (by intro q hq; obtain rfl := List.mem_singleton.mp hq; exact hm)] at F2, hm⟩
    · exact kept_of hb2 F2 N2 fun _ h => h
  case hye =>
    rintro y ⟨h2, g2, d2, tk2, o2⟩ ⟨hb2, m, t, F2, hm⟩
    replace F2 := Fr.norm F2 [("path", .str y t)] (by intro q hq; obtain rfl := List.mem_singleton.mp hq; exact hm)
    have N2 : News base L h2 (ledgerOf base L h2) := news_ledgerOf
    clear F1 N1
    (repeat' (first | k_data | ((fail_if_success (with_reducible show wpAny _ _ (exec (Stmt.While _ _ _ _) _) _ _ _)); walk1; try dsimp only) | (with_reducible refine ite_no ?_) | (with_reducible refine ite_yes ?_)))
    · exact ⟨hb2, m, t, by rwa [mput_eq (by intro q hq; obtain rfl := List.mem_singleton.mp hq; exact hm)] at F2, hm⟩
    · exact kept_of hb2 F2 N2 fun _ h => h
  case hst =>
    rintro y ⟨h2, g2, d2, tk2, o2⟩ hy ⟨hb2, m, t, F2, hm⟩
    replace F2 := Fr.norm F2 [("path", .str y t)] (by intro q hq; obtain rfl := List.mem_singleton.mp hq; exact hm)
    have N2 : News base L h2 (ledgerOf base L h2) := news_ledgerOf
    clear F1 N1
    (repeat' (first | k_data | ((fail_if_success (with_reducible show wpAny _ _ (exec (Stmt.While _ _ _ _) _) _ _ _)); walk1; try dsimp only) | (with_reducible refine ite_no ?_) | (with_reducible refine ite_yes ?_)))
    refine Tells.at (n := 3) (base := base) (split_tells (n := 0) y t (by exact (Nat.le_trans hy (by decide)))) (fun h' m' F' => ⟨S.XB, S.TB, F'.keep, Nat.le_trans F'.above (Nat.le_of_lt F'.ns.lt), (by intro out e; cases e), rfl, ?_, ?_⟩) F2 trivial fun v h3 tk3 F3 st3 hv => ?_
    · show D + 1 + 6 < _
      omega
    · first
        | (show U + 0 + 60 < _; omega)
        | (show U + 1 + 60 < _; omega)
        | (show U + 2 + 60 < _; omega)
        | (show U + 3 + 60 < _; omega)
        | (show U + 4 + 60 < _; omega)
        | (show U + 6 + 60 < _; omega)
        | (show U + 8 + 60 < _; omega)
    obtain ⟨r, t1, t2, rfl, hr0, hr⟩ := hv
    have N3 := News.join F2 N2 st3 hr0 hr
    (repeat' (first | k_data | ((fail_if_success (with_reducible show wpAny _ _ (exec (Stmt.While _ _ _ _) _) _ _ _)); walk1; try dsimp only) | (with_reducible refine ite_no ?_) | (with_reducible refine ite_yes ?_)))
    · rename Fr _ _ _ _ => F4
      exact ⟨F4.keep, _, _, F4, rfl⟩
    · rename Fr _ _ _ _ => F4
      rename News _ _ _ _ => N4
      exact kept_of hb2 F4 N4 fun _ h => .tail _ h
end
end Mine

end
section
open PySem PySem.W PyProof.Rows PySem.Spec PySem.Calls
namespace Mine
noncomputable abbrev islObj (dx : Addr) (it : Value) (c : Int) (tc : Tok) (n : Int) (tn ts tp : Tok) : Obj := { cls := .ref 82, dict := some dx, slots := #[some (.int c tc), some it, some (.int n tn), some (.int 1 ts), some (.int (-1) tp)] }
theorem wp_peek1 {α : Type} {K : Frag} {M : Model} {A : Around} {E : Value → Shared → Prop} {Q : α → Shared → Prop} {s : Shared} {o : Obj} {r : Addr → α} (X : K.In s.heap)
    (q : ∀ D h', s.heap.StaysIn h' → s.heap.objs.size ≤ D → h'.get? D = some o → s.heap.objs.size ≤ h'.objs.size → Q (r D) { s with heap := h' }) (hf : o.isFreed = false) (t : Sem α) :
    ∀ (g : Addr → Option α), peek1 K ⟨M.prog, M.w.params⟩ t = some (o, g) → (∀ D, g D = some (r D)) → wpAny M A t Q E s := by
  induction t with
  | rule _ k ih => intro g e hg Γ p hΓ; exact ih () g e hg Γ p hΓ
  | point _ k ih => intro g e hg Γ p hΓ; exact ih () g e hg Γ p hΓ
  | ask k ih => intro g e hg Γ p hΓ; exact ih _ g e hg Γ p hΓ
  | load a _ k ih =>
    intro g e hg Γ p hΓ
    simp only [peek1] at e
    split at e
    · rename_i ob ho; exact ⟨ob, X _ _ ho, ih ob g e hg Γ p hΓ⟩
    · cases e
  | alloc ob k _ =>
    intro g e hg
    have e : some (ob, fun D => peek K ⟨M.prog, M.w.params⟩ (k D)) = some (o, g) := e
    obtain ⟨e1, e2⟩ := Prod.mk.inj (Option.some.inj e)
    subst e1
    subst e2
    have X' : K.In (s.heap.push ob) := X.keeps fun b x hb => Heap.get?_push_of_some _ hb
    show wpAny M A (alloc ob >>= k) Q E s
    refine wpAny_bind (wpAny_alloc ?_)
    refine (Looks.of_peek (M := M) (h := s.heap.push ob) X' (hg s.heap.objs.size)).here (s := { s with heap := s.heap.push ob }) (q _ _ (fun b x hb => Heap.get?_push_of_some _ hb) (Nat.le_refl _) (Heap.get?_push_size _ hf) (by rw [Heap.size_push]; exact Nat.le_succ _))
  | _ => intro g e; cases e
section
variable {w : World} {p : Program} {loose : List Str} {mean : ExcName → Option Value} {mg mb : Str → Option Value} {A : Around} {base H H₁ h : Heap} {n : Nat}
/-- a def with a rest parameter is entered; nothing leaves it by an exception -/
theorem enterV {name qual : Str} {params : Arguments} {body : List Stmt} {scope : Scope} {dV kV doc pm cdv ct oc : Value} {an od : Option Addr} {osl : Array (Option Value)} {f : Addr} {args : Args} (binds : Addr → List (Str × Value)) (vs : List Value) {g₁ : Addr → Option (List (Str × Value))} {g : Array GenState} {d : Drawn} {tk : Nat} {o : OsState} {R : Result → Shared → Prop}
    (S : Std w p loose mean mg mb (n + 1) A base H) (hst : H.StaysIn H₁) (hsz : H.objs.size ≤ H₁.objs.size)
    (ho : (hd.heap_1 w.params).lookup f = some ⟨oc, od, .func (fnOf name qual params body scope dV kV doc pm an cdv ct), osl⟩) (hcd : codeIn (hd.heap_1 w.params) cdv qual = true)
    (hp : peek1 (hd.heap_1 w.params) ⟨PG, w.params⟩ (bindArgs (fnOf name qual params body scope dV kV doc pm an cdv ct) args) = some (({ cls := .type "tuple", data := .seq vs.toArray } : Obj), g₁)) (hg : ∀ D, g₁ D = some (binds D))
    (hloc : ∀ D, ((binds D).all fun x => decide (scope.names.lookup x.1 = some .local)) = true)
    (hco : scope.isCoroutine = false) (hgen : scope.isGenerator = false) (hk : scope.kind = .function) (hcell : (scope.names.all fun x => x.2 != .cell) = true)
    (h : ∀ (L D : Addr) (dp un : Nat) (fr : Option (List Env)) (gd : Option (List Code)) (h₁ : Heap) (tk₁ : Nat) (Q : Flow → Shared → Prop), Inside w p loose mean mg mb n ⟨none, dp, fr, gd, un⟩ base H L → H₁.StaysIn h₁ → H₁.objs.size ≤ L → Fr H L h₁ (fun y => (binds D).reverse.lookup y) →
      H₁.objs.size ≤ D → D ≠ L → h₁.get? D = some ({ cls := .type "tuple", data := .seq vs.toArray } : Obj) →
      (∀ v s', R (.ok (.ret v)) s' → Q (.ret v) s') → (∀ s', R (.ok (.ret .none)) s' → Q .next s') →
      wpAny (model PG w) ⟨none, dp, fr, gd, un⟩ (execs body (envOf qual scope L f cdv)) Q (fun _ _ => False) ⟨h₁, g, d, tk₁, o⟩) : codeAny (model PG w) A (.call (.ref f) args) R ⟨H₁, g, d, tk, o⟩ := by
  obtain ⟨hdA, dpA, frA, gdA, unA⟩ := A
  obtain rfl : hdA = none := S.hh
  refine codeAny_call_function (fd := fnOf name qual params body scope dV kV doc pm an cdv ct) (body := body) (by have := S.hd; exact (Nat.lt_of_lt_of_le (Nat.lt_succ_of_le (Nat.le_add_right _ _)) (Nat.succ_le_of_lt this))) (hst _ _ (S.X _ _ ho)) rfl hco hgen rfl (codeRec_of (S.X.keeps hst) hcd) ?_
  have X1 : (hd.heap_1 w.params).In H₁ := S.X.keeps hst
  refine wp_peek1 (s := ⟨H₁, g, d, tk, o⟩) X1 (fun D h₂ st₂ hD hD' hs₂ => ?_) rfl _ g₁ hp hg
  refine wpAny_newFunctionEnv (fun x hx => by simpa using List.all_eq_true.mp hcell x hx) (locs (hloc D)) (fun h₁ hns hsb => ⟨((S.T.nolimit.keeps hst).keeps st₂).fresh _ hsb, codeAny_func ?_⟩) hk
  have hk₁ : h₂.StaysIn h₁ := fun b o e => hsb.extBut b o (Nat.ne_of_lt (Heap.lt_size e)) (Heap.get?_push_of_some _ e)
  exact wpAny_mono (h h₂.objs.size D _ _ _ _ h₁ _ (fun fl s' => R (.ok (.ret (match fl with | .ret v => v | _ => .none))) s') (fun h' m' F' => S.push F' rfl hk) (fun b o e => hk₁ b o (st₂ b o e)) hs₂ ⟨hns, fun b o e => hk₁ b o (st₂ b o (hst b o e)), Nat.le_trans hsz hs₂⟩ hD (Nat.ne_of_lt (Heap.lt_size hD')) (hk₁ _ _ hD') (fun v s' x => x) fun s' x => x) (fun _ _ x => x) fun _ _ x => x.elim

theorem iter_gen {E : Value → Shared → Prop} {s : Shared} {ga : Addr} {gn : Nat} {Q : Value → Shared → Prop} (hg : s.heap.IsGen ga gn) (h : Q (.ref ga) s) : wpAny (model PG w) A (call (.builtin "iter") [.ref ga]) Q E s := by
  refine call_function_entry (by decide +kernel) (by decide +kernel) kdk_entry_iter (kdk_args_iter _) ?_
  unfold Builtin.«iter»
  refine wpAny_bind (m := someArgs "iter" 1 2 _) (wpAny_of_eq (a := [Value.ref ga]) (by first | rfl | kernel_rfl!) ?_)
  show wpAny _ _ (pyIter (.ref ga) >>= _) _ _ _
  exact wpAny_bind (wpAny_pyIter_gen hg (wpAny_pure ⟨_, rfl, h⟩))
set_option maxHeartbeats 1000000 in
theorem is_int_tells (a : Int) (t : Tok) : Tells w p loose mean mg mb (n + 1) 42 [.int a t] (fun _ => True) (fun _ _ v => v = .bool true) := by
  rintro A base ⟨H, g, d, tk, o⟩ R S hpre hR
  have X := S.X
  have T := S.T
  refine' enter [("x", .int a t)] S (fun _ _ e => e) (Nat.le_refl _) ?k6 ?k7 ?kb ?kl ?c1 ?c2 ?c3 ?c4 ?_
  ((case k6 => k_is); (case k7 => k_is); (case kb => exact rfl); (case kl => exact rfl); (case c1 => exact rfl); (case c2 => exact rfl); (case c3 => exact rfl); (case c4 => exact rfl))
  intro L dp un fr gd h₁ tk₁ Q I _ _ F hQ _
  have N : News H L h₁ [] := News.nil
  clear S
  (repeat' (first | k_data | ((fail_if_success (with_reducible show wpAny _ _ (exec (Stmt.While _ _ _ _) _) _ _ _)); (fail_if_success (with_reducible show wpAny _ _ (exec (Stmt.Try _ _ _ _ _) _) _ _ _)); walk1; try dsimp only) | (with_reducible refine ite_no ?_) | (with_reducible refine ite_yes ?_)))
  rename Fr _ _ _ _ => F1
  exact hQ _ _ (hR _ _ _ F1.keep rfl)
set_option maxHeartbeats 1000000 in
theorem whole_tells (what : Str) (t u v : Tok) : Tells w p loose mean mg mb (n + 2) 49 [.int 1 t, .int 999999 u, .str what v] (fun _ => True) (fun _ _ v => v = .none) := by
  rintro A base ⟨H, g, d, tk, o⟩ R S hpre hR
  have X := S.X
  have T := S.T
  refine' enter [("x", .int 1 t), ("top", .int 999999 u), ("what", .str what v)] S (fun _ _ e => e) (Nat.le_refl _) ?k6 ?k7 ?kb ?kl ?c1 ?c2 ?c3 ?c4 ?_
  ((case k6 => k_is); (case k7 => k_is); (case kb => exact rfl); (case kl => exact rfl); (case c1 => exact rfl); (case c2 => exact rfl); (case c3 => exact rfl); (case c4 => exact rfl))
  intro L dp un fr gd h₁ tk₁ Q I _ _ F hQ hQ2
  have N : News H L h₁ [] := News.nil
  clear S
  (repeat' (first | k_data | ((fail_if_success (with_reducible show wpAny _ _ (exec (Stmt.While _ _ _ _) _) _ _ _)); (fail_if_success (with_reducible show wpAny _ _ (exec (Stmt.Try _ _ _ _ _) _) _ _ _)); walk1; try dsimp only) | (with_reducible refine ite_no ?_) | (with_reducible refine ite_yes ?_)))
  refine Tells.at (is_int_tells _ _) I F trivial fun v h2 tk2 F2 st2 hv => ?_
  subst hv
  have N2 := News.stay N st2
  (repeat' (first | k_data | ((fail_if_success (with_reducible show wpAny _ _ (exec (Stmt.While _ _ _ _) _) _ _ _)); (fail_if_success (with_reducible show wpAny _ _ (exec (Stmt.Try _ _ _ _ _) _) _ _ _)); walk1; try dsimp only) | (with_reducible refine ite_no ?_) | (with_reducible refine ite_yes ?_)))
  rename Fr _ _ _ _ => F3
  exact hQ2 _ (hR _ _ _ F3.keep rfl)
set_option maxHeartbeats 2000000 in
theorem islice_init {x dx ga : Addr} {og : Obj} {g : Array GenState} {d : Drawn} {tk : Nat} {o : OsState} {R : Result → Shared → Prop} {gn : Nat} {t1 : Tok}
    (S : Std w p loose mean mg mb (n + 3) A base H) (st : H.StaysIn H₁) (sz : H.objs.size ≤ H₁.objs.size) (N₁ : ∀ q ∈ [(x, instObj 82 dx), (dx, emptyDict), (ga, og)], H₁.get? q.1 = some q.2 ∧ H.get? q.1 = none)
    (hg : ∀ h' : Heap, h'.get? ga = some og → h'.IsGen ga gn) (h1 : @LT.lt Nat _ ga dx) (h2 : @LT.lt Nat _ dx x)
    (hR : ∀ h' tk' tc tn ts tp, H.StaysIn h' → h'.get? x = some (islObj dx (.ref ga) 0 tc 1 tn ts tp) → h'.get? dx = some emptyDict → h'.get? ga = some og → R (.ok (.ret .none)) ⟨h', g, d, tk', o⟩) :
    codeAny (model PG w) A (.call (.ref 64) ⟨[.ref x, .ref ga, .int 1 t1, .none], []⟩) R ⟨H₁, g, d, tk, o⟩ := by
  have X := S.X
  have T := S.T
  refine' enterV (fun D => [("self", .ref x), ("iterable", .ref ga), ("args", .ref D)]) [.int 1 t1, .none] S st sz ?k6 ?k7 ?kP ?kG ?kB ?c2 ?c3 ?c4 ?c5 ?_
  case k6 => k_is
  case k7 => k_is
  case kP => exact rfl
  case kG => exact fun _ => rfl
  case kB => exact fun _ => rfl
  case c2 => exact rfl
  case c3 => exact rfl
  case c4 => exact rfl
  case c5 => exact rfl
  intro L D dp un fr gd h₁ tk₁ Q I K1 hLs F hD hDL hD' hQ hQ2
  have N : News H L h₁ [(D, ({ cls := .type "tuple", data := .seq #[.int 1 t1, .none] } : Obj)), (x, instObj 82 dx), (dx, emptyDict), (ga, og)] := by
    have up : ∀ q ∈ [(x, instObj 82 dx), (dx, emptyDict), (ga, og)], h₁.get? q.1 = some q.2 ∧ q.1 ≠ L ∧ H.get? q.1 = none := fun q hq => ⟨K1 _ _ (N₁ q hq).1, Nat.ne_of_lt (Nat.lt_of_lt_of_le (Heap.lt_size (N₁ q hq).1) hLs), (N₁ q hq).2⟩
    intro q hq
    rcases List.mem_cons.mp hq with rfl | hq
    · refine ⟨hD', hDL, ?_⟩
      cases e : H.get? D with
      | none => rfl
      | some o' => exact absurd (Nat.lt_of_lt_of_le (Heap.lt_size (st _ _ e)) hD) (Nat.lt_irrefl _)
    · exact up q hq
  have lt : ∀ q ∈ [(x, instObj 82 dx), (dx, emptyDict), (ga, og)], q.1 < D := fun q hq => Nat.lt_of_lt_of_le (Heap.lt_size (N₁ q hq).1) hD
  have hDx : @LT.lt Nat _ x D := lt _ (.head _)
  clear S lt
  (repeat' (first | k_data | ((fail_if_success (with_reducible show wpAny _ _ (exec (Stmt.While _ _ _ _) _) _ _ _)); (fail_if_success (with_reducible show wpAny _ _ (exec (Stmt.Try _ _ _ _ _) _) _ _ _)); walk1; try dsimp only) | (with_reducible refine ite_no ?_) | (with_reducible refine ite_yes ?_)))
  rename News _ _ _ _ => N2
  rename Fr _ _ _ _ => F2
  refine Tells.at (n := n + 2) (whole_tells _ _ _ _) I F2 trivial fun v h3 tk3 F3 st3 hv => ?_
  subst hv
  have N3 := News.stay N2 st3
  (repeat' (first | k_data | ((fail_if_success (with_reducible show wpAny _ _ (exec (Stmt.While _ _ _ _) _) _ _ _)); (fail_if_success (with_reducible show wpAny _ _ (exec (Stmt.Try _ _ _ _ _) _) _ _ _)); walk1; try dsimp only) | (with_reducible refine ite_no ?_) | (with_reducible refine ite_yes ?_)))
  rename News _ _ _ _ => N4
  refine iter_gen (hg _ (N4 _ (.tail _ (.tail _ (.tail _ (.head _))))).1) ?_
  (repeat' (first | k_data | ((fail_if_success (with_reducible show wpAny _ _ (exec (Stmt.While _ _ _ _) _) _ _ _)); (fail_if_success (with_reducible show wpAny _ _ (exec (Stmt.Try _ _ _ _ _) _) _ _ _)); walk1; try dsimp only) | (with_reducible refine ite_no ?_) | (with_reducible refine ite_yes ?_)))
  rename Fr _ _ _ _ => F5
  rename News _ _ _ _ => N5
  exact hQ2 _ (hR _ _ _ _ _ _ F5.keep (N5 _ (.tail _ (.head _))).1 (N5 _ (.tail _ (.tail _ (.head _)))).1 (N5 _ (.tail _ (.tail _ (.tail _ (.head _))))).1)
end
end Mine

end
section
open PySem PySem.W PyProof.Rows PySem.Spec PySem.Calls
namespace Mine
theorem Fr.hide {H h : Heap} {L : Addr} {m : Str → Option Value} {news : List (Addr × Obj)} (F : Fr H L h m) (N : News H L h news) : Fr H L (hideAll h (news.map (·.1))) m := by
  obtain ⟨oL, es, ep, hL, r⟩ := F.ns
  refine ⟨⟨oL, es, ep, hideAll_get _ hL fun hm => ?_, r⟩, fun b o e => hideAll_get _ (F.keep b o e) fun hm => ?_, F.above⟩
  · obtain ⟨q, hq, e⟩ := List.mem_map.mp hm
    exact (N q hq).2.1 e
  · obtain ⟨q, hq, e'⟩ := List.mem_map.mp hm
    (first | exact (ne_get e ((N q hq).2.2) (e').symm).elim | exact (ne_get ((N q hq).2.2) e (e').symm).elim | (rw [← e', (N q hq).2.2] at e; cases e))
theorem Std.under {w : World} {p : Program} {loose : List Str} {mean : ExcName → Option Value} {mg mb : Str → Option Value} {n : Nat} {A : Around} {base h : Heap} {id : String} {args : Args} (S : Std w p loose mean mg mb (n + 1) A base h) (hw : (Code.builtin id args).weight ≤ 1) (hu : (Code.builtin id args).cUnits ≤ 20) :
    Std w p loose mean mg mb n (A.under (.builtin id args)) base h where
  XB := S.XB
  TB := S.TB
  st := S.st
  sz := S.sz
  B := fun out e => by
    have e' : A.frames = some out := by
      cases q : A.frames with
      | none =>
        have : (A.under (.builtin id args)).frames = pushEnvs [] A.frames := rfl
        rw [this, q] at e; exact e
      | some l =>
        have : (A.under (.builtin id args)).frames = pushEnvs [] A.frames := rfl
        rw [this, q] at e; exact e
    obtain ⟨b, d⟩ := S.B out e'
    exact ⟨⟨e, b.stays, b.frames⟩, d⟩
  hh := S.hh
  hd := by
    have := S.hd
    show A.depth + (Code.builtin id args).weight + 2 * n < _
    omega
  hu := by
    have := S.hu
    show A.units + (Code.builtin id args).cUnits + 20 * n < _
    omega
/-- a slice of the ancestry that is still to be read: n strings are left of all -/
structure Isl (w : World) (base : Heap) (D U : Nat) (all : List Str) (x dx ga Lg gn : Nat) (og oL : Obj) (c n : Int) (left : Nat) (h : Heap) (gens : Array GenState) : Prop where
  obj : ∃ tc tn ts tp, h.get? x = some (islObj dx (.ref ga) c tc n tn ts tp)
  dict : h.get? dx = some emptyDict
  gen : h.get? ga = some og
  isGen : ∀ h' : Heap, h'.get? ga = some og → h'.IsGen ga gn
  frame : h.get? Lg = some oL
  live : ∃ gs, gens[gn]? = some gs ∧ gs.bare = true ∧ Live w base D U all Lg left gs oL
section
variable {w : World} {p : Program} {loose : List Str} {mean : ExcName → Option Value} {mg mb : Str → Option Value}
set_option maxHeartbeats 1000000 in
theorem parents_tells {n : Nat} (x : Str) (tx : Tok) :
    True := by
  trivial
theorem parents_call {n : Nat} {A : Around} {base H : Heap} {g : Array GenState} {d : Drawn} {tk : Nat} {o : OsState} {R : Result → Shared → Prop} {D U : Nat} {all : List Str} {x : Str} {tx : Tok} (S : Std w p loose mean mg mb (n + 5) A base H)
    (hD : D + 20 < recursionLimit) (hU : U + 200 < cLine) (hx : x.length ≤ 1000) (ha : AncIs (Txt.rstripChars x "/") all)
    (hR : ∀ r dx ga Lg og oL h' tk' g', H.StaysIn h' → H.get? r = none → H.get? dx = none → H.get? Lg = none → @LT.lt Nat _ Lg dx → @LT.lt Nat _ dx r → ga ≠ Lg → ga ≠ r →  (AllBare g → AllBare g') → Isl w base D U all r dx ga Lg g.size og oL 0 1 all.length h' g' → R (.ok (.ret (.ref r))) ⟨h', g', d, tk', o⟩) :
    codeAny (model PG w) A (.call (.ref 133) ⟨[.str x tx], []⟩) R ⟨H, g, d, tk, o⟩ := by
  have X := S.X
  have T := S.T
  refine' enter [("path", .str x tx)] S (fun _ _ e => e) (Nat.le_refl _) ?k6 ?k7 ?kb ?kl ?c1 ?c2 ?c3 ?c4 ?_
  ((case k6 => k_is); (case k7 => k_is); (case kb => exact rfl); (case kl => exact rfl); (case c1 => exact rfl); (case c2 => exact rfl); (case c3 => exact rfl); (case c4 => exact rfl))
  intro L dp un fr gd h₁ tk₁ Q I _ _ F hQ _
  have N : News H L h₁ [] := News.nil
  clear S
  (repeat' (first | k_data | ((fail_if_success (with_reducible show wpAny _ _ (exec (Stmt.While _ _ _ _) _) _ _ _)); (fail_if_success (with_reducible show wpAny _ _ (exec (Stmt.For _ _ _ _ _) _) _ _ _)); (fail_if_success (with_reducible show wpAny _ _ (exec (Stmt.Try _ _ _ _ _) _) _ _ _)); (fail_if_success (with_reducible show wpAny _ _ (eval (Expr.ListComp _ _ _ _) _) _ _ _)); walk1; try dsimp only) | (with_reducible refine ite_no ?_) | (with_reducible refine ite_yes ?_)))
  refine wpAny_call (ancestry_call (D := D) (U := U) (all := all) (n := n + 3) (I _ _ F) hD hU hx ha fun Lg ga h₂ tk₂ oL gs st2 hLg hga hne hoL hg hbare hlive => ?_)
  have F2 := Fr.stay F st2
  obtain ⟨og, nm, qn, hog, hgc, hgd, hgs⟩ := id hg
  have hLgn : h₁.get? Lg = none := by
    cases e : h₁.get? Lg with
    | none => rfl
    | some o' => exact absurd (Heap.lt_size e) (Nat.not_lt.mpr hLg)
  have N3 : News H L h₂ [(ga, og), (Lg, oL)] := fun q hq => by
    rcases List.mem_cons.mp hq with rfl | hq
    · exact News.join F N st2 hga hog _ (.head _)
    · exact News.join F N st2 hLgn hoL _ hq
  have hLg0 : Lg ≠ L := fun e => by
    obtain ⟨o1, _, _, h1, _⟩ := F.ns
    exact absurd (Heap.lt_size h1) (Nat.not_lt.mpr (e ▸ hLg))
  dsimp only
  (repeat' (first | k_data | ((fail_if_success (with_reducible show wpAny _ _ (exec (Stmt.While _ _ _ _) _) _ _ _)); (fail_if_success (with_reducible show wpAny _ _ (exec (Stmt.For _ _ _ _ _) _) _ _ _)); (fail_if_success (with_reducible show wpAny _ _ (exec (Stmt.Try _ _ _ _ _) _) _ _ _)); (fail_if_success (with_reducible show wpAny _ _ (eval (Expr.ListComp _ _ _ _) _) _ _ _)); walk1; try dsimp only) | (with_reducible refine ite_no ?_) | (with_reducible refine ite_yes ?_)))
  have X2 := X.keeps F2.keep
  refine wpAny_call (make_K (C := 82) (fI := 64) F2 N3 X2 ?m1 ?m2 ?m3 fun r dx h3 F3 N3 h4 h5 => ?_)
  case m1 => k_is
  case m2 => k_is
  case m3 => k_is
  have N4 : News H L h3 [(r, instObj 82 dx), (dx, emptyDict), (ga, og)] := News.sub N3 (fun q hq => by revert q hq; refine all_cons ?_ (all_cons ?_ (all_cons ?_ all_nil)) <;> repeat (first | exact List.Mem.head _ | refine List.Mem.tail _ ?_))
  have S3 : Std w p loose mean mg mb (n + 4) ⟨none, dp, fr, gd, un⟩ base (hideAll h3 ([(r, instObj 82 dx), (dx, emptyDict), (ga, og)].map (·.1))) := I _ _ (Fr.hide F3 N4)
  refine islice_init (base := base) (p := p) (loose := loose) (mean := mean) (mg := mg) (mb := mb) (H := hideAll h3 ([(r, instObj 82 dx), (dx, emptyDict), (ga, og)].map (·.1))) (gn := g.size) (n := n) ?S (fun b o e => of_hideAll _ e) (Nat.le_of_eq (hideAll_size _ _)) (fun q hq => ⟨(N4 q hq).1, hideAll_none _ (List.mem_map_of_mem hq)⟩) (fun h' e => ⟨og, nm, qn, e, hgc, hgd, hgs⟩) (h4 _ (.head _)) h5 fun h' tk' tc tn ts tp st4 e1 e2 e3 => ?_
  case S => exact Std.under S3 (Nat.le_of_ble_eq_true rfl) (Nat.le_of_ble_eq_true rfl)
  refine ⟨rfl, ?_⟩
  dsimp only
  have f3 := F3.keep
  refine hQ _ _ (hR r dx ga Lg og oL _ _ _ (fun b ob e => st4 _ _ ((Fr.hide F3 N4).keep _ _ e)) (N4 _ (.head _)).2.2 (N4 _ (.tail _ (.head _))).2.2 (N3 _ (.tail _ (.tail _ (.tail _ (.head _))))).2.2 (h4 _ (.tail _ (.head _))) h5 hne (fun e => absurd (Nat.lt_trans (h4 _ (.head _)) h5) (e ▸ Nat.lt_irrefl _)) ?_ ⟨⟨tc, tn, ts, tp, e1⟩, e2, e3, (fun h' e => ⟨og, nm, qn, e, hgc, hgd, hgs⟩), ?_, gs, by simp, hbare, hlive⟩)
  · exact fun hb => hb.push hbare
  · refine st4 _ _ (hideAll_get _ (N3 _ (.tail _ (.tail _ (.tail _ (.head _))))).1 fun hm => ?_)
    have l1 : @LT.lt Nat _ Lg dx := h4 _ (.tail _ (.head _))
    simp only [List.map_cons, List.map_nil, List.mem_cons, List.not_mem_nil, or_false] at hm
    rcases hm with e | e | e
    · exact absurd (Nat.lt_trans l1 h5) (e ▸ Nat.lt_irrefl _)
    · exact absurd l1 (e ▸ Nat.lt_irrefl _)
    · exact hne e.symm
end
end Mine

end
section
open PySem PySem.W PyProof.Rows PySem.Spec PySem.Calls
open Sem (wp)
namespace Mine
/-- a generator is woken whose body knows little of what is around it -/
theorem resumeW {M : Model} {A W : Around} {R : GenEnd} {Y : Protocol} {n : Nat} {E : Value → Shared → Prop} {s : Shared} {g : Nat} {gs : GenState}
    {r : Resume} {l : List Value} {α : Type} {k : GenResult → Sem α} {Q : α → Shared → Prop} (hW : ∀ (Γ : PySem.Ctx) (p : Pos) (c : Code), Γ.In A → (Γ.wake c p).Woken W) (hg : s.gens[g]? = some gs)
    (hgo : gs.Goes M W R Y n r (s.setGen g .running))
    (hR : ∀ x s₁, R n (s.setGen g .running) x s₁ → wpAny M A (k (End.ret x).result) Q E (s₁.setGen g .finished))
    (hY : ∀ v s₁ gs', gs'.bare = true → Y (n - 1) (s.setGen g .running) v s₁ (fun r' s'' => match n with | 0 => False | m + 1 => gs'.Goes M W R Y m r' s'') →
      wpAny M A (k (.yielded v)) Q E (s₁.setGen g gs')) :
    wpAny M A (.resume g r l k) Q E s := by
  intro Γ p hΓ
  rw [Sem.wp_resume]
  have fin : ∀ e₁ s₁, SegEnd R Y n (Seg.next M W R Y n) (s.setGen g .running) e₁ s₁ →
      wp M Γ (k e₁.result) (fun a _ s' => Q a s') (fun e _ s' => E e s') p (s₁.setGen g e₁.genState) ∧ e₁.quiet = true := by
    intro e₁ s₁ he
    cases e₁ with
    | ret x => exact ⟨hR x s₁ he Γ p hΓ, rfl⟩
    | susp v g₀ l₀ k₀ c₀ p₀ fs₀ =>
      refine ⟨hY v s₁ _ (End.bare_of_quiet he.1) ?_ Γ p hΓ, he.1⟩
      cases n with
      | zero => exact he.2
      | succ m => exact he.2
  cases gs with
  | fresh c =>
    obtain ⟨rfl, hs⟩ := hgo
    obtain ⟨e₁, s₁, hr, he⟩ := seg_iff.mp hs (Γ.wake c p) p rfl (hW Γ p c hΓ)
    exact ⟨_, _, by unfold Wakes; rw [hg]; exact ⟨e₁, s₁, hr, (fin e₁ s₁ he).2, rfl, rfl⟩, (fin e₁ s₁ he).1⟩
  | suspended k₀ l₀ c₀ p₀ fs₀ cl =>
    obtain ⟨e₁, s₁, hr, he⟩ := seg_iff.mp hgo (Γ.wake c₀ p) p₀ rfl (hW Γ p c₀ hΓ)
    exact ⟨_, _, by unfold Wakes; rw [hg]; exact ⟨e₁, s₁, hr, (fin e₁ s₁ he).2, rfl, rfl⟩, (fin e₁ s₁ he).1⟩
  | running => exact hgo.elim
  | finished => exact hgo.elim
theorem weak_woken {A : Around} {D U : Nat} (hh : A.handled = none) (hD : A.depth ≤ D) (hU : A.units ≤ U) (Γ : PySem.Ctx) (p : Pos) (c : Code) (h : Γ.In A) : (Γ.wake c p).Woken (weak D U) := by
  obtain ⟨⟨h1, h2, _, _, h5⟩, h6⟩ := h.wake c p
  exact ⟨⟨h1.trans hh, Nat.le_trans h2 hD, (fun l e => nomatch e), (fun l e => nomatch e), Nat.le_trans h5 hU⟩, h6⟩
section
variable {w : World} {A : Around} {base H h : Heap} {L Lg ga gn D U k : Nat} {all : List Str} {m : Str → Option Value} {news : List (Addr × Obj)} {oL : Obj} {gs : GenState} {g : Array GenState} {d : Drawn} {tk : Nat} {o : OsState} {Q E : Value → Shared → Prop}
theorem after_gen {s₀ s₁ : Shared} (F : Fr H L s₀.heap m) (N : News H L s₀.heap ((Lg, oL) :: news)) (hn : ∀ q ∈ news, q.1 ≠ Lg) (K : Kept Lg s₀ s₁) : ∃ oL', Fr H L s₁.heap m ∧ News H L s₁.heap ((Lg, oL') :: news) := by
  obtain ⟨k1, _, _, _, oL', e⟩ := K
  have z := N _ (.head _)
  refine ⟨oL', ⟨F.ns.at' fun ob e => k1 _ _ z.2.1.symm e, fun b ob e => k1 b ob (fun q => by rw [q] at e; exact absurd (z.2.2.symm.trans e) (by simp)) (F.keep b ob e), F.above⟩, fun q hq => ?_⟩
  rcases List.mem_cons.mp hq with rfl | hq
  · exact ⟨e, z.2⟩
  · exact ⟨k1 _ _ (hn q hq) (N q (.tail _ hq)).1, (N q (.tail _ hq)).2⟩
theorem next_gen (hh : A.handled = none) (hD : A.depth + 10 ≤ D) (hDr : D < recursionLimit) (hU : A.units + 60 ≤ U) (hlim : h.NoLimit) (F : Fr H L h m) (N : News H L h ((Lg, oL) :: news)) (hn : ∀ q ∈ news, q.1 ≠ Lg) (hbH : base.StaysIn H) (hg : h.IsGen ga gn) (hgs : g[gn]? = some gs)
    (hlive : Live w base D U all Lg k gs oL)
    (item : ∀ h' oL' gs' t tk' k', k = k' + 1 → Fr H L h' m → News H L h' ((Lg, oL') :: news) → gs'.bare = true → Live w base D U all Lg k' gs' oL' → Q (.str (all.getD (all.length - 1 - k') Str.empty) t) ⟨h', (g.setIfInBounds gn .running).setIfInBounds gn gs', d, tk', o⟩)
    (done : ∀ h₀ h' oL' e tk', k = 0 → Fr H L h₀ m → News H L h₀ ((Lg, oL') :: news) → Heap.NewExcOf h₀ h' e "StopIteration" → E (.ref e) ⟨h', (g.setIfInBounds gn .running).setIfInBounds gn .finished, d, tk', o⟩) :
    wpAny (model PG w) A (call (.builtin "next") [.ref ga]) Q E ⟨h, g, d, tk, o⟩ := by
  have hb : base.StaysIn h := fun b ob e => F.keep b ob (hbH b ob e)
  refine call_function_entry (by decide +kernel) (by decide +kernel) kdk_entry_next (kdk_args_next _) ?_
  unfold Builtin.«next»
  refine wpAny_bind (m := someArgs "next" 1 2 _) (wpAny_of_eq (a := [Value.ref ga]) (by first | rfl | kernel_rfl!) ?_)
  dsimp only
  refine wpAny_bind (wpAny_specialOf (name := Str.ofString "__next__") (s := ⟨h, g, d, tk, o⟩) hg.typeIs slot_gen_next.lookup ?_)
  refine wpAny_ite_split (fun hab => absurd hab (by decide)) (fun _ => ?_)
  refine wpAny_bind (wpAny_callSpecial?_slot (name := Str.ofString "__next__") (s := ⟨h, g, d, tk, o⟩) hg.typeIs slot_gen_next
    (wpAny_call_entry slot_gen_next hg.typeIs entry_gen_next ?_ (args_gen_next _)))
  show wpAny _ _ (Builtin.Generator.genWake (.ref ga) (.send .none)) _ _ _
  unfold Builtin.Generator.genWake
  refine wpAny_bind (wpAny_holding (wpAny_genNumber (s := ⟨h, g, d, tk, o⟩) hg (wpAny_bind (wpAny_genState (s := ⟨h, g, d, tk, o⟩) hgs ?_))))
  have hgo := hlive (Shared.setGen ⟨h, g, d, tk, o⟩ gn .running) hb (N _ (.head _)).1
  cases gs with
  | running => exact hgo.elim
  | finished => exact hgo.elim
  | _ =>
    refine wpAny_bind (wpAny_roomToWake hlim (show A.depth < _ by omega) ?_)
    show wpAny _ _ (.resume gn (.send .none) [] _) _ _ _
    refine resumeW (weak_woken hh (show A.depth ≤ D by exact (Nat.le_trans (Nat.le_add_right _ _) hD)) ?_) hgs hgo (fun x s₁ hx => ?_) (fun v s₁ gs' hbare hv => ?_)
    · show A.units + 1 + 1 ≤ U
      exact (Nat.succ_le_of_lt (Nat.lt_of_le_of_lt (Nat.succ_le_succ (Nat.le_add_right _ _)) (Nat.lt_of_succ_le hU)))
    · obtain ⟨rfl, h0, hk⟩ := hx
      obtain ⟨h1, g1, d1, tk1, o1⟩ := s₁
      obtain ⟨oL', F', N'⟩ := after_gen (s₀ := Shared.setGen ⟨h, g, d, tk, o⟩ gn .running) F N hn hk
      obtain rfl : g1 = g.setIfInBounds gn .running := hk.2.1
      obtain rfl : d1 = d := hk.2.2.1
      obtain rfl : o1 = o := hk.2.2.2.1
      show wpAny _ _ (newExc (.type "StopIteration") [] >>= _) _ _ _
      refine wpAny_bind ?_
      simp only [newExc, newTuple]
      refine wpAny_bind (wpAny_newObj_type ?_ (by size_fits))
      refine wpAny_bind (m := firstArgMember _ _) (wpAny_of_eq (a := Value.none) (by first | rfl | (simp only [firstArgMember]; rfl)) ?_)
      refine wpAny_newObj_type ?_ (by size_fits)
      simp only [raiseNew]
      refine wpAny_bind (wpAny_bind (wpAny_handled ?_))
      first | rw [show A.in1.in1.handled = none from hh] | rw [hh]
      refine wpAny_throw ?_
      refine done h1 _ oL' _ _ h0 F' N' ⟨fun b ob hb => Heap.get?_push_of_some _ (Heap.get?_push_of_some _ hb), ?_, _, _, Heap.get?_push_size _ rfl, rfl, rfl, rfl⟩
      cases e : h1.get? (h1.push { cls := .type "tuple", data := .seq ([] : List Value).toArray }).objs.size with
      | none => exact e
      | some ob => exact absurd (Heap.lt_size e) (by rw [Heap.size_push]; exact Nat.not_lt.mpr (Nat.le_succ _))
    · obtain ⟨⟨t, rfl⟩, hk, hres⟩ := hv
      obtain ⟨h1, g1, d1, tk1, o1⟩ := s₁
      obtain ⟨oL', F', N'⟩ := after_gen (s₀ := Shared.setGen ⟨h, g, d, tk, o⟩ gn .running) F N hn hk
      obtain rfl : g1 = g.setIfInBounds gn .running := hk.2.1
      obtain rfl : d1 = d := hk.2.2.1
      obtain rfl : o1 = o := hk.2.2.2.1
      cases k with
      | zero => exact (hres ⟨h1, g, d1, tk, o1⟩ (fun b ob e => F'.keep _ _ (hbH b ob e)) rfl).elim
      | succ k =>
        refine wpAny_pure ⟨_, rfl, wpAny_pure ⟨_, rfl, ?_⟩⟩
        refine item h1 oL' gs' t tk1 k rfl F' N' hbare fun s2 hb2 hL2 => ?_
        exact hres s2 hb2 (hL2.trans (N' _ (.head _)).1.symm)
end
end Mine

end
section
open PySem PySem.W PyProof.Rows PySem.Spec PySem.Calls
namespace Mine
/-- an exception's object that bears a traceback -/
noncomputable def ExcObj (cls : String) (T : Addr) (oe : Obj) : Prop := oe.cls = .type cls ∧ ∃ vs, oe.data = .fields vs ∧ vs[1]? = some (.ref T)
noncomputable def TraceObj (fl : Value) (oT : Obj) : Prop := ∃ ts, oT.data = .fields ts ∧ ts[3]? = some fl
section
variable {w : World} {p : Program} {loose : List Str} {mean : ExcName → Option Value} {mg mb : Str → Option Value} {n : Nat} {A A₀ : Around} {base H₀ H h : Heap} {outer : List Env} {L e T : Addr} {m : Str → Option Value} {env : Env} {news : List (Addr × Obj)} {E : Value → Shared → Prop} {cls : String} {oe oT : Obj} {fl : Value}

theorem first_note {s' : Shared} {a : Addr} {name : Str} {scope : Scope} {cd : Value} {Q : Unit → Shared → Prop}
    (R : Room w p loose mean mg mb n A₀ base outer H₀ H) (F : Fr H L h m) (N : News H L h news) (hx : Heap.NewExcOf h s'.heap e cls)
    (k : ∀ h' H' T oe oT, Room w p loose mean mg mb n A₀ base outer H₀ H' → KtsTurn (outer.filterMap (·.frame)) H H' → Fr H' L h' m → News H' L h' ((e, oe) :: (T, oT) :: news) → ExcObj cls T oe → TraceObj (rawInt L) oT → T ≠ e → (∀ q ∈ news, q.1 ≠ T ∧ q.1 ≠ e) → Q () { s' with heap := h' })
    (hk : scope.kind = .function := by rfl) : wpAny (model PG w) (A₀.deeper (envOf name scope L a cd)) (noteFrame (.ref e) (envOf name scope L a cd)) Q E s' := by
  have K := R.B
  have K' := K.push (name := name) (a := a) (cd := cd) F hk
  generalize hl : (envOf name scope L a cd :: outer) = l at K'
  have hin : ∀ env ∈ l, ∀ b, env.frame = some b → b ∈ l.filterMap (·.frame) := fun env he b hb => List.mem_filterMap.mpr ⟨env, he, hb⟩
  have hfr := Around.frames_deeper (env := envOf name scope L a cd) K.stack
  rw [hl] at hfr
  obtain ⟨ob, vs, he, hcls, hdt, h1⟩ := hx.there
  have hsz : 1 < vs.size := (Array.getElem?_eq_some_iff.mp h1).1
  obtain ⟨a0, h0⟩ : ∃ a0, vs[0]? = some a0 := ⟨_, Array.getElem?_eq_getElem (Nat.lt_trans Nat.zero_lt_one hsz)⟩
  have hen : (hideAll h (l.filterMap (·.frame))).get? e = none := by
    cases q : (hideAll h (l.filterMap (·.frame))).get? e with
    | none => rfl
    | some o => have := of_hideAll _ q; (first | exact (ne_get this (hx.new) rfl).elim | exact (ne_get (hx.new) this rfl).elim | (rw [hx.new] at this; cases this))
  have hBG : ∀ b o, h.get? b = some o → b ∉ (envOf name scope L a cd :: outer).filterMap (·.frame) → (hideAll h (l.filterMap (·.frame))).get? b = some o := fun b o q nm => hideAll_get _ q (hl ▸ nm)
  have hup : h.UpToSlots s'.heap := Heap.UpToSlots.of_keeps hx.keeps
  have hlN : ∀ q ∈ news, (hideAll h (l.filterMap (·.frame))).get? q.1 = some q.2 := fun q hq => hideAll_get _ (N q hq).1 fun hm => by
    subst hl
    rcases kts_mem hm with z | z
    · exact (N q hq).2.1 z
    · obtain ⟨_, o, ho, _⟩ := K.frames.mem z
      (first | exact (ne_get ho ((N q hq).2.2) rfl).elim | exact (ne_get ((N q hq).2.2) ho rfl).elim | (rw [(N q hq).2.2] at ho; cases ho))
  have hz : (envOf name scope L a cd).frame = some L := rfl
  unfold noteFrame
  simp only [hz]
  refine wpAny_bind (wpAny_field (x := Value.none) he hdt h1 ?_)
  rw [if_neg (show ¬ ((Value.none != Value.none) = true) by decide)]
  subst hl
  refine wpAny_entryW (base := hideAll h ((envOf name scope L a cd :: outer).filterMap (·.frame))) (a0 := a0) hfr ((funFrames_hide K'.frames hin).of_keeps fun b o hb _ => ⟨o, hx.keeps b o hb, rfl⟩) rfl he (fun b o hb => hx.keeps b o (of_hideAll _ hb)) hen hdt hsz h0 fun h₄ hN => ?_
  obtain ⟨k1, k2, ⟨oe, vs', T, oT, ts, g1, ⟨g2, _⟩, g3, g4, g5, g6, g7, g8, g9⟩, k4⟩ := hN
  have hsm := hup.trans k4
  obtain ⟨H', T', F', K₄⟩ := kts_ground K F hBG k1 hsm
  have dictAt : ∀ b ∈ outer.filterMap (·.frame), ∀ o, H.get? b = some o → ∀ vs o', h₄.get? b = some o' → o'.data ≠ .fields vs := fun b hb o ho vs o' ho' hd => by
    obtain ⟨od, es, k, hod, hdd⟩ := R.D b hb
    obtain ⟨sl, hs⟩ := hsm b od (F.keep _ _ hod) (fun vs q => by (first | exact (ne_get q (hdd) rfl).elim | exact (ne_get (hdd) q rfl).elim | (rw [hdd] at q; cases q)))
    rw [hs] at ho'
    cases ho'
    (first | exact (ne_get hd (hdd) rfl).elim | exact (ne_get (hdd) hd rfl).elim | (rw [hdd] at hd; cases hd))
  have new : ∀ b o vs, h₄.get? b = some o → o.data = .fields vs → (hideAll h ((envOf name scope L a cd :: outer).filterMap (·.frame))).get? b = none → b ≠ L ∧ H'.get? b = none := fun b o vs hb hd hn => by
    constructor
    · rintro rfl
      obtain ⟨oL, es, ep, hL, hLd, _⟩ := F'.ns
      rw [hb] at hL
      cases hL
      (first | exact (ne_get hd (hLd) rfl).elim | exact (ne_get (hLd) hd rfl).elim | (rw [hLd] at hd; cases hd))
    · refine T'.none_ _ ?_
      cases q : H.get? b with
      | none => rfl
      | some ob =>
        by_cases hm : b ∈ outer.filterMap (·.frame)
        · exact absurd hd (dictAt b hm ob q vs o hb)
        · have hbL : b ≠ L := fun e => by (first | exact (ne_get q (kts_self F) (e)).elim | exact (ne_get (kts_self F) q (e)).elim | (rw [e, kts_self F] at q; cases q))
          have := hBG b ob (F.keep _ _ q) (fun hm' => by
            rcases kts_mem hm' with z | z
            · exact hbL z
            · exact hm z)
          (first | exact (ne_get this (hn) rfl).elim | exact (ne_get (hn) this rfl).elim | (rw [hn] at this; cases this))
  have N' : News H' L h₄ news := fun q hq => ⟨k1 _ _ (hlN q hq), (N q hq).2.1, T'.none_ _ (N q hq).2.2⟩
  obtain ⟨e1, e2⟩ := new e oe vs' g1 g3 hen
  obtain ⟨t1, t2⟩ := new T oT ts g7 g8 g5
  refine k h₄ H' T oe oT (R.turn T') T' F' (fun q hq => ?_) ⟨g2.trans hcls, vs', g3, g4⟩ ⟨ts, g8, g9⟩ g6 fun q hq => ⟨fun z => ?_, fun z => ?_⟩
  · rcases List.mem_cons.mp hq with rfl | hq
    · exact ⟨g1, e1, e2⟩
    · rcases List.mem_cons.mp hq with rfl | hq
      · exact ⟨g7, t1, t2⟩
      · exact N' q hq
  · have := hlN q hq
    (first | exact (ne_get this (g5) (z)).elim | exact (ne_get (g5) this (z)).elim | (rw [z, g5] at this; cases this))
  · have := hlN q hq
    (first | exact (ne_get this (hen) (z)).elim | exact (ne_get (hen) this (z)).elim | (rw [z, hen] at this; cases this))

theorem set_flight {s : Shared} {fr : Option Addr} {Q : Unit → Shared → Prop} (F : Fr H L s.heap m) (N : News H L s.heap ((e, oe) :: (T, oT) :: news)) (he : ExcObj cls T oe) (hT : TraceObj fl oT) (hne : T ≠ e) (hn : ∀ q ∈ news, q.1 ≠ T ∧ q.1 ≠ e)
    (k : ∀ h' oT', Fr H L h' m → News H L h' ((e, oe) :: (T, oT') :: news) → TraceObj (fr.elim .none fun f => rawInt f) oT' → Q () { s with heap := h' }) : wpAny (model PG w) A (setFlight (.ref e) fr) Q E s := by
  obtain ⟨hc, vs, hd, h1⟩ := he
  obtain ⟨ts, hdT, h3⟩ := hT
  have g1 := N _ (.head _)
  have g2 := N _ (.tail _ (.head _))
  have hsz : 3 < ts.size := (Array.getElem?_eq_some_iff.mp h3).1
  unfold setFlight
  refine wpAny_bind (wpAny_field g1.1 hd h1 ?_)
  rw [if_pos (show (Value.ref T != Value.none) = true from by simp)]
  refine wpAny_setField g2.1 hdT hsz ?_
  refine k _ _ (F.change (Heap.SameBut.update ..) g2.2.1 g2.2.2) (News.setAt (own := [(e, oe)]) N (fun q hq => by rw [List.mem_singleton.mp hq]; exact hne.symm) (fun q hq => (hn q hq).1) (Heap.SameBut.update ..) (Heap.get?_update_self _ g2.1 (Obj.isFreed_of_fields (Obj.data_mapFields hdT _)))) ⟨_, Obj.data_mapFields hdT _, by simp [hsz]⟩

theorem note_again {s : Shared} {Q : Unit → Shared → Prop} (N : News H L s.heap ((e, oe) :: (T, oT) :: news)) (he : ExcObj cls T oe) (hT : TraceObj (rawInt L) oT) (hf : env.frame = some L) (h : Q () s) : wpAny (model PG w) A (noteFrame (.ref e) env) Q E s := by
  obtain ⟨hc, vs, hd, h1⟩ := he
  obtain ⟨ts, hdT, h3⟩ := hT
  unfold noteFrame
  simp only [hf]
  refine wpAny_bind (wpAny_field (N _ (.head _)).1 hd h1 ?_)
  rw [if_pos (show (Value.ref T != Value.none) = true from by simp)]
  refine wpAny_bind (wpAny_field (N _ (.tail _ (.head _))).1 hdT h3 ?_)
  rw [if_pos (show (rawInt L == rawInt L) = true from by simp)]
  exact wpAny_pure h

/-- a while whose turns may raise, by an invariant of the whole state -/
theorem whileI {test : Expr} {body : List Stmt} {pos : Pos} {s : Shared} {Q : Flow → Shared → Prop} (J : Nat → Shared → Prop) {k₀ : Nat} (hJ : J k₀ s)
    (turn : ∀ k s₁ (Qt : Flow → Shared → Prop), J k s₁ → (∀ k' s₂, J k' s₂ → k' < k → Qt .next s₂) → (∀ v s', Q (.ret v) s' → Qt (.ret v) s') → (∀ s', Q .next s' → Qt .brk s') →
      wpAny (model PG w) A (isTrue test env (eval test env)) (fun b s₂ =>
        if b = true then wpAny (model PG w) A (execs body env) Qt (notedBy (model PG w) A env (cameBackBy (model PG w) A env E)) s₂ else Q .next s₂) (notedBy (model PG w) A env (cameBackBy (model PG w) A env E)) s₁) :
    wpAny (model PG w) A (exec (.While test body [] pos) env) Q E s := by
  refine wpAny_While (codeAny_whileLoop J ?_ k₀ hJ)
  intro k s₁ hk
  refine wpAny_mono (turn k s₁ (fun f s' => (f = .next ∧ ∃ k', k' < k ∧ J k' s') ∨ (f = .brk ∧ Q .next s') ∨ ∃ v, f = .ret v ∧ Q (.ret v) s') hk (fun k' s₂ h' hl => .inl ⟨rfl, k', hl, h'⟩) (fun v s' x => .inr (.inr ⟨v, rfl, x⟩)) (fun s' x => .inr (.inl ⟨rfl, x⟩))) (fun b s₂ hb => ?_) fun _ _ x => x
  cases b with
  | false =>
    simp only [Bool.false_eq_true, if_false] at hb ⊢
    exact wpAny_execs_nil hb
  | true =>
    simp only [if_true] at hb ⊢
    refine wpAny_mono hb (fun f s₃ hf => ?_) fun _ _ x => x
    rcases hf with ⟨rfl, x⟩ | ⟨rfl, x⟩ | ⟨v, rfl, x⟩
    · exact x
    · exact x
    · exact x

/-- a plain def is entered; what it raises goes on -/
theorem enterE {name qual : Str} {params : Arguments} {body : List Stmt} {scope : Scope} {dV kV doc pm cdv ct oc : Value} {an od : Option Addr} {osl : Array (Option Value)} {f : Addr} {args : Args} (binds : List (Str × Value)) {g : Array GenState} {d : Drawn} {tk : Nat} {o : OsState} {R : Result → Shared → Prop}
    {H₁ : Heap} (hout : A.frames = some outer) (S : Std w p loose mean mg mb (n + 1) A base H) (hst : H.StaysIn H₁) (hsz : H.objs.size ≤ H₁.objs.size)
    (ho : (hd.heap_1 w.params).lookup f = some ⟨oc, od, .func (fnOf name qual params body scope dV kV doc pm an cdv ct), osl⟩) (hcd : codeIn (hd.heap_1 w.params) cdv qual = true)
    (hbind : bindArgs (fnOf name qual params body scope dV kV doc pm an cdv ct) args = pure binds) (hloc : (binds.all fun x => decide (scope.names.lookup x.1 = some .local)) = true)
    (hco : scope.isCoroutine = false) (hgen : scope.isGenerator = false) (hk : scope.kind = .function)
    (hcell : (scope.names.all fun x => x.2 != .cell) = true)
    (h : ∀ (L : Addr) (dp un : Nat) (gd : Option (List Code)) (h₁ : Heap) (tk₁ : Nat) (Q : Flow → Shared → Prop), Room w p loose mean mg mb n ⟨none, dp, some outer, gd, un⟩ base outer H H → H₁.StaysIn h₁ → H₁.objs.size ≤ L → Fr H L h₁ (fun y => binds.reverse.lookup y) →
      (∀ v s', R (.ok (.ret v)) s' → Q (.ret v) s') → (∀ s', R (.ok (.ret .none)) s' → Q .next s') →
      wpAny (model PG w) ((⟨none, dp, some outer, gd, un⟩ : Around).deeper (envOf qual scope L f cdv)) (execs body (envOf qual scope L f cdv)) Q
        (fun e s' => wpAny (model PG w) ((⟨none, dp, some outer, gd, un⟩ : Around).deeper (envOf qual scope L f cdv)) (leaving (envOf qual scope L f cdv) e) (fun _ s'' => R (.error e) s'') (fun e' s'' => R (.error e') s'') s') ⟨h₁, g, d, tk₁, o⟩) : codeAny (model PG w) A (.call (.ref f) args) R ⟨H₁, g, d, tk, o⟩ := by
  obtain ⟨hdA, dpA, frA, gdA, unA⟩ := A
  obtain rfl : hdA = none := S.hh
  obtain rfl : frA = some outer := hout
  refine codeAny_call_def (fd := fnOf name qual params body scope dV kV doc pm an cdv ct) (body := body) (binds := binds) (by have := S.hd; exact (Nat.lt_of_lt_of_le (Nat.lt_succ_of_le (Nat.le_add_right _ _)) (Nat.succ_le_of_lt this))) (hst _ _ (S.X _ _ ho)) rfl (S.T.nolimit.keeps hst) (codeRec_of (S.X.keeps hst) hcd) rfl (BindsTo.of_eq hbind)
    (fun x hx => by simpa using List.all_eq_true.mp hcell x hx) (locs hloc) (fun h₁ hns hk₁ => ?_) hco hgen hk
  exact wpAny_mono (h H₁.objs.size dpA unA gdA h₁ _ (fun fl s' => R (.ok (.ret (match fl with | .ret v => v | _ => .none))) s') ⟨S.XB, S.TB, S.sz, (S.B _ rfl).1, (S.B _ rfl).2, .refl, rfl, S.hd, S.hu⟩ hk₁ (Nat.le_refl _) ⟨hns, fun b o e => hk₁ b o (hst b o e), hsz⟩ (fun v s' x => x) fun s' x => x) (fun _ _ x => x) fun _ _ x => x

/-- leaving with an exception that this frame has noted -/
theorem leave_noted {s : Shared} {Q : Unit → Shared → Prop} (F : Fr H L s.heap m) (N : News H L s.heap ((e, oe) :: (T, oT) :: news)) (he : ExcObj cls T oe) (hT : TraceObj (rawInt L) oT) (hne : T ≠ e) (hn : ∀ q ∈ news, q.1 ≠ T ∧ q.1 ≠ e) (hf : env.frame = some L)
    (k : ∀ h' oT', Fr H L h' m → News H L h' ((e, oe) :: (T, oT') :: news) → Q () { s with heap := h' }) : wpAny (model PG w) A (leaving env (.ref e)) Q E s := by
  unfold leaving
  exact wpAny_bind (note_again N he hT hf (set_flight F N he hT hne hn fun h' oT' F' N' _ => k h' oT' F' N'))
/-- an activation of its own has raised: the exception comes back into the frame -/
theorem came_back {s : Shared} {Q : Value → Shared → Prop} (F : Fr H L s.heap m) (N : News H L s.heap ((e, oe) :: (T, oT) :: news)) (he : ExcObj cls T oe) (hT : TraceObj fl oT) (hne : T ≠ e) (hn : ∀ q ∈ news, q.1 ≠ T ∧ q.1 ≠ e) (hf : env.frame = some L)
    (k : ∀ h' oT', Fr H L h' m → News H L h' ((e, oe) :: (T, oT') :: news) → TraceObj (rawInt L) oT' → Q (.ref e) { s with heap := h' }) : cameBackBy (model PG w) A env Q (.ref e) s := by
  have he' := he
  obtain ⟨hc, vs, hd, h1⟩ := he'
  unfold cameBackBy
  refine wpAny_bind (wpAny_field (N _ (.head _)).1 hd h1 ?_)
  rw [if_neg (show ¬ ((Value.ref T == Value.none) = true) from by simp), hf]
  first
    | exact wpAny_bind (wpAny_pure (set_flight F N he hT hne hn fun h' oT' F' N' t => k h' oT' F' N' t))
    | exact set_flight F N he hT hne hn fun h' oT' F' N' t => k h' oT' F' N' t

/-- a bare raise in a suite that handles e -/
theorem raise_bare {s : Shared} {pos : Pos} {Q : Flow → Shared → Prop} (F : Fr H L s.heap m) (N : News H L s.heap ((e, oe) :: (T, oT) :: news)) (he : ExcObj cls T oe) (hT : TraceObj fl oT) (hne : T ≠ e) (hn : ∀ q ∈ news, q.1 ≠ T ∧ q.1 ≠ e) (hf : env.frame = some L)
    (k : ∀ h' oT', Fr H L h' m → News H L h' ((e, oe) :: (T, oT') :: news) → TraceObj (rawInt L) oT' → E (.ref e) { s with heap := h' }) : wpAny (model PG w) (A.mark (some (.ref e))) (exec (.Raise none none pos) env) Q E s := by
  have he' := he
  obtain ⟨hc, vs, hd, h1⟩ := he'
  rw [arm_exec_Raise]
  refine wpAny_bind (wpAny_standAt ?_)
  show wpAny _ _ (raiseStmt env none none) _ _ _
  unfold raiseStmt
  refine wpAny_bind (wpAny_handled ?_)
  show wpAny _ _ (do
    rule "raise.bare"
    if (← field (.ref e) 1) == .none then unsupported "raise.bare:exception-without-traceback"
    setFlight (.ref e) env.frame
    throw (.ref e)) _ _ _
  refine wpAny_bind (wpAny_rule (wpAny_bind (wpAny_field (N _ (.head _)).1 hd h1 ?_)))
  rw [if_neg (show ¬ ((Value.ref T == Value.none) = true) from by simp), hf]
  first
    | exact wpAny_bind (wpAny_pure (wpAny_bind (set_flight F N he hT hne hn fun h' oT' F' N' t => wpAny_throw (k h' oT' F' N' t))))
    | exact wpAny_bind (set_flight F N he hT hne hn fun h' oT' F' N' t => wpAny_throw (k h' oT' F' N' t))
end
end Mine

end
section
open PySem PySem.W PyProof.Rows PySem.Spec PySem.Calls
namespace Mine
/-- the state between the turns of islice.__next__'s loop; k strings are still to be skipped -/
inductive IslJ (w : World) (base H : Heap) (L : Addr) (D U : Nat) (all : List Str) (x dx ga Lg gn : Nat) (g : Array GenState) (d : Drawn) (o : OsState) (c nx : Int) (left k : Nat) (s : Shared) : Prop
  | mk (h : Heap) (g' : Array GenState) (tk : Nat) (oL : Obj) (gs : GenState) (tc tn ts tp : Tok) (cc : Int) (left' : Nat) (m : Str → Option Value) (es : s = ⟨h, g', d, tk, o⟩) (hk : (k : Int) = nx - cc) (h0 : 0 ≤ cc) (h1 : cc ≤ 1001) (hle : left' + (nx - c).toNat = left + k) (F : Fr H L h m) (e1 : m "self" = some (.ref x)) (e2 : m "it" = some (.ref ga)) (e3 : m "stop" = some (.int (-1) tp))
    (N : News H L h [(Lg, oL), (x, islObj dx (.ref ga) cc tc nx tn ts tp), (dx, emptyDict)]) (hb : gs.bare = true) (hl : Live w base D U all Lg left' gs oL) (hg : g'[gn]? = some gs) (hB : AllBare g → AllBare g')
    (hz : ∀ z, (g'.setIfInBounds gn .running).setIfInBounds gn z = (g.setIfInBounds gn .running).setIfInBounds gn z)
theorem set_twice {g : Array GenState} {n : Nat} {a b c z : GenState} : ((((g.setIfInBounds n a).setIfInBounds n b).setIfInBounds n c).setIfInBounds n z) = (g.setIfInBounds n a).setIfInBounds n z := by
  simp [Array.setIfInBounds_setIfInBounds]
theorem bare_set {g : Array GenState} {n : Nat} {a z : GenState} (hz : z.bare = true) (h : AllBare g) : AllBare ((g.setIfInBounds n a).setIfInBounds n z) := by
  rw [Array.setIfInBounds_setIfInBounds]
  intro y hy
  rcases Array.mem_or_eq_of_mem_setIfInBounds hy with hy | rfl
  · exact h y hy
  · exact hz
section
variable {w : World} {p : Program} {loose : List Str} {mean : ExcName → Option Value} {mg mb : Str → Option Value} {A : Around} {base H H₁ : Heap} {n : Nat} {outer : List Env}
set_option maxHeartbeats 2000000 in
theorem islice_next {x dx ga Lg gn D U left : Nat} {og oL : Obj} {all : List Str} {g : Array GenState} {d : Drawn} {tk : Nat} {o : OsState} {R : Result → Shared → Prop} {gs : GenState} {c nx : Int} {tc tn ts tp : Tok}
    (hout : A.frames = some outer) (S : Std w p loose mean mg mb (n + 1) A base H) (st : H.StaysIn H₁) (sz : H.objs.size ≤ H₁.objs.size) (hD : recursionLimit + 10 ≤ D + 2 * n) (hDr : D < recursionLimit) (hU : cLine + 80 ≤ U + 20 * n)
    (N₁ : ∀ q ∈ [(Lg, oL), (x, islObj dx (.ref ga) c tc nx tn ts tp), (dx, emptyDict)], H₁.get? q.1 = some q.2 ∧ H.get? q.1 = none) (l1 : @LT.lt Nat _ Lg dx) (l2 : @LT.lt Nat _ dx x)
    (hga : H.get? ga = some og) (hg : ∀ h' : Heap, h'.get? ga = some og → h'.IsGen ga gn) (hgs : g[gn]? = some gs) (hlive : Live w base D U all Lg left gs oL) (hb : gs.bare = true)
    (hc : 0 ≤ c) (hc2 : c ≤ 1000) (hcn : c = nx ∨ (c + 1 = nx ∧ 1 ≤ left)) 
    (hR : ∀ h' tk' oL' gs' c' t1 t2 t3 t4 t5 left', left = left' + 1 + (nx - c).toNat → c' = nx + 1 → H.StaysIn h' → h'.get? x = some (islObj dx (.ref ga) c' t1 c' t2 t3 t4) → h'.get? dx = some emptyDict → h'.get? Lg = some oL' → gs'.bare = true → Live w base D U all Lg left' gs' oL' →
      R (.ok (.ret (.str (all.getD (all.length - 1 - left') Str.empty) t5))) ⟨h', (g.setIfInBounds gn .running).setIfInBounds gn gs', d, tk', o⟩)
    (hE : ∀ h' tk' e oe g', left = (nx - c).toNat → KeepX (outer.filterMap (·.frame)) H h' → h'.get? e = some oe → oe.cls = .type "StopIteration" → (AllBare g → AllBare g') → R (.error (.ref e)) ⟨h', g', d, tk', o⟩) :
    codeAny (model PG w) A (.call (.ref 78) ⟨[.ref x], []⟩) R ⟨H₁, g, d, tk, o⟩ := by
  have X := S.X
  have T := S.T
  refine' enterE [("self", .ref x)] hout S st sz ?k6 ?k7 ?kb ?kl ?c1 ?c2 ?c3 ?c4 ?_
  ((case k6 => k_is); (case k7 => k_is); (case kb => exact rfl); (case kl => exact rfl); (case c1 => exact rfl); (case c2 => exact rfl); (case c3 => exact rfl); (case c4 => exact rfl))
  intro L dp un gd h₁ tk₁ Q Rm K1 hLs F hQ _
  have N : News H L h₁ [(Lg, oL), (x, islObj dx (.ref ga) c tc nx tn ts tp), (dx, emptyDict)] := fun q hq => ⟨K1 _ _ (N₁ q hq).1, Nat.ne_of_lt (Nat.lt_of_lt_of_le (Heap.lt_size (N₁ q hq).1) hLs), (N₁ q hq).2⟩
  clear S
  (repeat' (first | k_data | ((fail_if_success (with_reducible show wpAny _ _ (exec (Stmt.While _ _ _ _) _) _ _ _)); (fail_if_success (with_reducible show wpAny _ _ (exec (Stmt.Try _ _ _ _ _) _) _ _ _)); walk1; try dsimp only) | (with_reducible refine ite_no ?_) | (with_reducible refine ite_yes ?_)))
  rename Fr _ _ _ _ => F1
  rename News _ _ _ _ => N1
  refine wpAny_Try_except (wpAny_execs_cons ?_)
  have hgl : gn < g.size := (Array.getElem?_eq_some_iff.mp hgs).1
  refine whileI (IslJ w base H L D U all x dx ga Lg gn g d o c nx left) (k₀ := (nx - c).toNat) ⟨_, g, _, oL, gs, tc, tn, ts, tp, c, left, _, rfl, by omega, hc, by exact (Int.le_trans hc2 (by decide)), rfl, F1, rfl, rfl, rfl, N1, hb, hlive, hgs, id, fun _ => rfl⟩ ?_
  rintro k s₁ Qt ⟨h2, g2, tk2, oL2, gs2, tc2, tn2, ts2, tp2, cc, left2, m, rfl, hk, hc0, hc1, hleft, F2, e1, e2, e3, N2, hb2, hlive2, hgs2, hbare2, hset2⟩ hT _ _
  clear F1 N1
  replace F2 := Fr.norm F2 [("self", .ref x), ("it", .ref ga), ("stop", .int (-1) tp2)] (by refine all_cons ?_ (all_cons ?_ (all_cons ?_ all_nil)); exact e1; exact e2; exact e3)
  (repeat' (first | k_data | ((fail_if_success (with_reducible show wpAny _ _ (exec (Stmt.While _ _ _ _) _) _ _ _)); (fail_if_success (with_reducible show wpAny _ _ (exec (Stmt.Try _ _ _ _ _) _) _ _ _)); walk1; try dsimp only) | (with_reducible refine ite_no ?_) | (with_reducible refine ite_yes ?_)))
  all_goals (rename News _ _ _ _ => N3)
  all_goals (rename Fr _ _ _ _ => F3)
  · have hcc : cc < nx := by assumption
    refine next_gen (D := D) (U := U) (base := base) rfl ?d1 hDr ?d2 (Rm.T.nolimit.keeps F3.keep) F3 N3 ?d3 Rm.B.stays (hg _ (F3.keep _ _ hga)) hgs2 hlive2 (fun h4 oL4 gs4 t4 tk4 k4 hk4 F4 N4 hb4 hl4 => ?_) (fun h0 h4 oL4 e tk4 hk4 F4 N4 hx => ?_)
    case d1 =>
      have := Rm.hd
      show dp + 1 + 10 ≤ D
      dsimp only at this
      omega
    case d2 =>
      have := Rm.hu
      rw [Around.deeper_units]
      dsimp only at this ⊢
      omega
    case d3 =>
      intro q hq
      revert q hq; refine all_cons ?_ (all_cons ?_ all_nil)
      · exact Nat.ne_of_gt (Nat.lt_trans l1 l2)
      · exact Nat.ne_of_gt l1
    · (repeat' (first | k_data | ((fail_if_success (with_reducible show wpAny _ _ (exec (Stmt.While _ _ _ _) _) _ _ _)); (fail_if_success (with_reducible show wpAny _ _ (exec (Stmt.Try _ _ _ _ _) _) _ _ _)); walk1; try dsimp only) | (with_reducible refine ite_no ?_) | (with_reducible refine ite_yes ?_)))
      rename Fr _ _ _ _ => F5
      rename News _ _ _ _ => N5
      have hgl2 : gn < g2.size := (Array.getElem?_eq_some_iff.mp hgs2).1
      refine hT (k - 1) _ ⟨_, _, _, oL4, gs4, _, _, _, _, cc + 1, k4, _, rfl, by omega, by omega, by omega, by omega, F5, rfl, rfl, rfl, N5, hb4, hl4, by simp [hgl2], fun hb => bare_set hb4 (hbare2 hb), fun z => set_twice.trans (hset2 z)⟩ (by omega)
    · omega
  · have hcc : ¬ cc < nx := by assumption
    have hk0 : k = 0 := by omega
    subst hk0
    obtain rfl : cc = nx := by omega
    refine next_gen (D := D) (U := U) (base := base) rfl ?d1 hDr ?d2 (Rm.T.nolimit.keeps F3.keep) F3 N3 ?d3 Rm.B.stays (hg _ (F3.keep _ _ hga)) hgs2 hlive2 (fun h4 oL4 gs4 t4 tk4 k4 hk4 F4 N4 hb4 hl4 => ?_) (fun h0 h4 oL4 e tk4 hk4 F4 N4 hx => ?_)
    case d1 =>
      have := Rm.hd
      show dp + 1 + 10 ≤ D
      dsimp only at this
      omega
    case d2 =>
      have := Rm.hu
      rw [Around.deeper_units]
      dsimp only at this ⊢
      omega
    case d3 =>
      intro q hq
      revert q hq; refine all_cons ?_ (all_cons ?_ all_nil)
      · exact Nat.ne_of_gt (Nat.lt_trans l1 l2)
      · exact Nat.ne_of_gt l1
    · (repeat' (first | k_data | ((fail_if_success (with_reducible show wpAny _ _ (exec (Stmt.While _ _ _ _) _) _ _ _)); (fail_if_success (with_reducible show wpAny _ _ (exec (Stmt.Try _ _ _ _ _) _) _ _ _)); walk1; try dsimp only) | (with_reducible refine ite_no ?_) | (with_reducible refine ite_yes ?_)))
      rename Fr _ _ _ _ => F5
      rename News _ _ _ _ => N5
      have z := hR _ tk oL4 gs4 _ _ _ _ _ t4 k4 (by omega) rfl F5.keep (N5 _ (.tail _ (.head _))).1 (N5 _ (.tail _ (.tail _ (.head _)))).1 (N5 _ (.head _)).1 hb4 hl4
      rw [← hset2] at z
      exact hQ _ _ z
    · refine first_note Rm F4 N4 hx fun h5 H5 Tb oe oT R5 T5 F5 N5 he5 ht5 hne5 hn5 => ?_
      refine set_flight F5 N5 he5 ht5 hne5 hn5 fun h6 oT6 F6 N6 ht6 => ?_
      refine wpAny_handleBy_builtin (X := "StopIteration") (T := "BaseException") (b := true) (isSubtype_of_subB (by decide +kernel)) (isSubtype_of_subB (by decide +kernel)) ?hs ?_
      case hs => kts_sub
      refine name_B F6 R5.X (topRead_of R5.T) ?ex PyProof.Rows.Boot.«BaseException» ?hn ⟨rfl, ⟨oe, (N6 _ (.head _)).1, he5.1⟩, ?_⟩ rfl rfl (by decide)
      case ex => k_is
      case hn => decide
      rw [if_pos rfl]
      refine set_flight F6 N6 he5 ht6 hne5 hn5 fun h7 oT7 F7 N7 ht7 => ?_
      have hxT : @Ne Nat x Tb := (hn5 _ (.tail _ (.head _))).1
      have hxe : @Ne Nat x e := (hn5 _ (.tail _ (.head _))).2
      clear X T
      have X := R5.X
      have T := R5.T
      (repeat' (first | k_data | ((fail_if_success (with_reducible show wpAny _ _ (exec (Stmt.While _ _ _ _) _) _ _ _)); (fail_if_success (with_reducible show wpAny _ _ (exec (Stmt.Try _ _ _ _ _) _) _ _ _)); walk1; try dsimp only) | (with_reducible refine ite_no ?_) | (with_reducible refine ite_yes ?_)))
      rename Fr _ _ _ _ => F8
      rename News _ _ _ _ => N8
      have hn8 : ∀ o1 o2 : Obj, ∀ q ∈ [(Lg, oL4), (x, o1), (dx, o2)], q.1 ≠ Tb ∧ q.1 ≠ e := by
        intro o1 o2 q hq
        revert q hq; refine all_cons ?_ (all_cons ?_ (all_cons ?_ all_nil))
        · exact hn5 _ (.head _)
        · exact ⟨hxT, hxe⟩
        · exact hn5 (dx, emptyDict) (.tail _ (.tail _ (.head _)))
      refine raise_bare F8 N8 he5 ht7 hne5 (hn8 _ _) rfl fun h9 oT9 F9 N9 ht9 => ?_
      refine note_again N9 he5 ht9 rfl ?_
      refine came_back F9 N9 he5 ht9 hne5 (hn8 _ _) rfl fun ha oTa Fa Na hta => ?_
      refine leave_noted Fa Na he5 hta hne5 (hn8 _ _) rfl fun hb oTb Fb Nb => ?_
      exact hE _ _ e oe _ (by omega) (R5.kept Fb) (Nb _ (.head _)).1 he5.1 fun hb => bare_set rfl (hbare2 hb)
end
end Mine

end
section
open PySem PySem.W PyProof.Rows PySem.Spec PySem.Calls
namespace Mine
section
variable {w : World} {A : Around} {I S : Addr} {res : Value} {R : Result → Shared → Prop}
theorem extend_own (J : Nat → List Value → Shared → Prop) (turn : ∀ k acc s (Q : Option Value → Shared → Prop), J k acc s → 
      (∀ v s', s'.heap.PlainList S acc.toArray → acc.length ≤ 1000 → (∀ h'', h''.PlainList S (acc ++ [v]).toArray → Heap.SameBut S s'.heap h'' → ∃ k', k' < k ∧ J k' (acc ++ [v]) { s' with heap := h'' }) → Q (some v) s') → (∀ s', R (.ok (.ret res)) s' → Q none s') → wpAny (model PG w) A.in1 (pyNext (.ref I)) Q No s) :
    ∀ (k : Nat) (acc : List Value) (s : Shared), J k acc s → codeAny (model PG w) A (.builtin "list.extend.loop" ⟨[.ref S, .ref I, res], []⟩) R s := by
  intro k
  induction k using Nat.strongRecOn with
  | ind k ih =>
    intro acc s hJ
    refine codeAny_builtin F.entry_extend_loop ?_
    rw [Around.under_plainId F.plain_extend_loop _]
    show wpAny _ A.in1 (pyNext (.ref I) >>= _) _ _ s
    refine wpAny_bind (wpAny_mono (turn k acc s (fun r s' => match r with
      | some v => s'.heap.PlainList S acc.toArray ∧ acc.length ≤ 1000 ∧ ∀ h'', h''.PlainList S (acc ++ [v]).toArray → Heap.SameBut S s'.heap h'' → ∃ k', k' < k ∧ J k' (acc ++ [v]) { s' with heap := h'' }
      | none => R (.ok (.ret res)) s') hJ (fun v s' h1 h2 h3 => ⟨h1, h2, h3⟩) fun s' h => h) (fun r s' hr => ?_) fun _ _ z => z.elim)
    cases r with
    | none => exact wpAny_pure hr
    | some v =>
      obtain ⟨⟨c, hS⟩, hl, hk⟩ := hr
      show wpAny _ A.in1 (updateSeq S (·.push v) >>= _) _ _ _
      have hS2 := Heap.get?_update_self (Obj.mapSeq (·.push v)) hS rfl
      rw [Obj.mapSeq_push_plain] at hS2
      refine wpAny_bind (wpAny_updateSeq hS rfl (wpAny_pure ⟨plainId_quiet F.plain_extend_loop _, ?_⟩) (by rw [sizeLine_eq]; simp only [List.size_toArray]; exact (Nat.le_trans hl (by decide))) (by rw [sizeLine_eq]; simp; exact (Nat.le_trans hl (by decide))))
      obtain ⟨k', hk', hJ'⟩ := hk _ ⟨c + 1, by rw [← List.push_toArray]; exact hS2⟩ (Heap.SameBut.update ..)
      exact ih k' hk' _ _ hJ'
end
section
variable {w : World} {A : Around} {E : Value → Shared → Prop} {I C f f2 : Addr} {ox : Obj} {od : Option Obj} {Q : Value → Shared → Prop} {h : Heap} {g : Array GenState} {d : Drawn} {tk : Nat} {o : OsState}
/-- list() of an object that iterates over itself -/
theorem list_own {H : Heap} {L : Addr} {m : Str → Option Value} (F0 : Fr H L h m) (X : (hd.heap_1 w.params).In H) (In : InstAt h I ox C od)
    (hn : findIn (hd.heap_1 w.params) (.ref C) "__next__" = some (some (.ref f))) (hf : isFn (hd.heap_1 w.params) (.ref f) = true) (hi : findIn (hd.heap_1 w.params) (.ref C) "__iter__" = some (some (.ref f2))) (hf2 : isFn (hd.heap_1 w.params) (.ref f2) = true)
    (hlen : findIn (hd.heap_1 w.params) (.ref C) "__len__" = some none) (hhint : findIn (hd.heap_1 w.params) (.ref C) "__length_hint__" = some none)
    (iter : ∀ h₁ (Q' : Value → Shared → Prop), h.StaysIn h₁ → (∀ h₂ tk₂, h₁.StaysIn h₂ → Q' (.ref I) ⟨h₂, g, d, tk₂, o⟩) → wpAny (model PG w) A.in1.in1 (call (.ref f2) [.ref I]) Q' No ⟨h₁, g, d, tk, o⟩)
    (loop : ∀ S h₁ tk₁ (R : Result → Shared → Prop), h.get? S = none → h.StaysIn h₁ → h₁.PlainList S #[] → (∀ s', Q (.ref S) s' → R (.ok (.ret .none)) s') →
      codeAny (model PG w) A.in1 (.builtin "list.extend.loop" ⟨[.ref S, .ref I, .none], []⟩) R ⟨h₁, g, d, tk₁, o⟩) :
    wpAny (model PG w) A (call (.type "list") [.ref I]) Q E ⟨h, g, d, tk, o⟩ := by
  have fresh : h.get? h.objs.size = none := by
    cases e : h.get? h.objs.size with
    | none => rfl
    | some o' => exact absurd (Heap.lt_size e) (Nat.lt_irrefl _)
  refine callType_codes (Q₁ := fun obj s₁ => obj = .ref h.objs.size ∧ s₁ = ⟨h.push { cls := .type "list", data := .seq #[] }, g, d, tk, o⟩) F.called_list (F.typeCall_list_1 _) F.entry_list_init
    (code_list_new _ ⟨rfl, rfl⟩) fun obj s₁ h₁ => ?_
  obtain ⟨rfl, rfl⟩ := h₁
  have hS : (h.push { cls := .type "list", data := .seq #[] }).get? h.objs.size = some { cls := .type "list", data := .seq #[] } := Heap.get?_push_size _ rfl
  refine ⟨⟨_, hS, rfl⟩, F.args_list_init_2 _ _, ?_⟩
  show wpAny _ A.in1.in1 (do let old ← Builtin.List.listItems (.ref h.objs.size); Builtin.List.listUpdate (.ref h.objs.size) (fun _ => #[]); letGo old.toList.reverse; Builtin.List.listExtendWith (.ref h.objs.size) (.ref I) .none) _ _ _
  refine wpAny_bind ?_
  unfold Builtin.List.listItems
  refine wpAny_bind (wpAny_seqItems hS rfl (wpAny_pure ?_))
  show wpAny _ A.in1.in1 (updateSeq h.objs.size (fun _ => #[]) >>= fun _ => letGo (#[] : Array Value).toList.reverse >>= fun _ => Builtin.List.listExtendWith (.ref h.objs.size) (.ref I) .none) _ _ _
  refine wpAny_bind (wpAny_updateSeq hS rfl ?_)
  have hS₂ := Heap.get?_update_self (Obj.mapSeq (fun _ => (#[] : Array Value))) hS rfl
  generalize hh2 : Heap.update _ _ _ = h2 at hS₂
  have st2 : h.StaysIn h2 := fun b ob e => by
    rw [← hh2]
    exact (Heap.get?_update_other _ _ (fun q => by (first | exact (ne_get e (fresh) (q).symm).elim | exact (ne_get (fresh) e (q).symm).elim | (rw [← q, fresh] at e; cases e)))).trans (Heap.get?_push_of_some _ e)
  refine wpAny_bind (wpAny_letGo ?_)
  unfold Builtin.List.listExtendWith
  have hne : h.objs.size ≠ I := fun q => by have := In.at_; (first | exact (ne_get this (fresh) (q).symm).elim | exact (ne_get (fresh) this (q).symm).elim | (rw [← q, fresh] at this; cases this))
  have In2 : InstAt h2 I ox C od := ⟨st2 _ _ In.at_, In.cls, In.no, by
    have := In.dict
    cases e1 : ox.dict with
    | none => cases e2 : od with
      | none => trivial
      | some _ => rw [e1, e2] at this; exact this
    | some dx => cases e2 : od with
      | none => rw [e1, e2] at this; exact this
      | some o2 => rw [e1, e2] at this; exact st2 _ _ this⟩
  have F2 := Fr.stay F0 st2
  refine wpAny_bind (In2.type.here ?_)
  have h1 : Builtin.List.listSameRef (.ref h.objs.size) (.ref I) = false := by simp [Builtin.List.listSameRef, hne]
  have h2' : (Value.ref C == Value.type "list") = false := by rfl
  have h3 : (Value.ref C == Value.type "tuple") = false := by rfl
  simp only [h1, h2', h3, Bool.or_false, Bool.false_eq_true, if_false]
  refine wpAny_bind (owit_iter F2 X In2 hi hf2 (wpAny_noRaise (iter h2 _ st2 fun h3 tk3 st3 => ?_)))
  have st3' : h.StaysIn h3 := fun b ob e => st3 _ _ (st2 _ _ e)
  have In3 : InstAt h3 I ox C od := ⟨st3 _ _ In2.at_, In.cls, In.no, by
    have := In2.dict
    cases e1 : ox.dict with
    | none => cases e2 : od with
      | none => trivial
      | some _ => rw [e1, e2] at this; exact this
    | some dx => cases e2 : od with
      | none => rw [e1, e2] at this; exact this
      | some o2 => rw [e1, e2] at this; exact st3 _ _ this⟩
  have F3 := Fr.stay F2 st3
  refine owit_it F3 X In3 hn ?_
  refine wpAny_bind (wpAny_holding ?_)
  unfold Builtin.List.listLengthHint
  have X3 := X.keeps F3.keep
  refine wpAny_bind (wpAny_bind (In3.type.here ((looks_findIn X3 hlen).here ?_)))
  show wpAny _ _ (specialOf (Value.ref I) (Str.ofString "__length_hint__") >>= _) _ _ _
  refine wpAny_bind (wpAny_bind (In3.type.here ((looks_findIn X3 hhint).here ?_)))
  refine wpAny_pure ?_
  show wpAny _ _ (rule "list.extend.makes-room" >>= fun _ => Builtin.List.listTouch (.ref h.objs.size) >>= fun _ => again (.builtin "list.extend.loop" ⟨[.ref h.objs.size, .ref I, .none], []⟩)) _ _ _
  refine wpAny_bind (wpAny_rule ?_)
  refine wpAny_bind ?_
  show wpAny _ _ (updateSeq h.objs.size (·.push .none) >>= fun _ => updateSeq h.objs.size (·.pop)) _ _ _
  have hS₃ := st3 _ _ hS₂
  refine wpAny_bind (wpAny_updateSeq hS₃ rfl ?_)
  have hS₄ := Heap.get?_update_self (Obj.mapSeq (·.push Value.none)) hS₃ rfl
  refine wpAny_updateSeq (hz := by seq_fits) hS₄ rfl ?_
  have hS₅ := Heap.get?_update_self (Obj.mapSeq (·.pop)) hS₄ rfl
  have oth : ∀ b ob, b ≠ h.objs.size → h3.get? b = some ob → ((h3.update h.objs.size (Obj.mapSeq (·.push Value.none))).update h.objs.size (Obj.mapSeq (·.pop))).get? b = some ob :=
    fun b ob hb e => (Heap.get?_update_other _ _ (Ne.symm hb)).trans ((Heap.get?_update_other _ _ (Ne.symm hb)).trans e)
  generalize Heap.update _ _ _ = h5 at hS₅ oth ⊢
  refine wpAny_pure ⟨plainId_quiet F.plain_extend_loop _, loop h.objs.size h5 _ _ fresh (fun b ob e => oth b ob (fun q => by (first | exact (ne_get e (fresh) (q)).elim | exact (ne_get (fresh) e (q)).elim | (rw [q, fresh] at e; cases e))) (st3' b ob e)) ⟨_, hS₅⟩ fun s' hq => ⟨rfl, hq⟩⟩
end
end Mine

end
section
open PySem PySem.W PyProof.Rows PySem.Spec PySem.Calls
namespace Mine
section
variable {w : World} {p : Program} {loose : List Str} {mean : ExcName → Option Value} {mg mb : Str → Option Value} {A : Around} {base H h : Heap} {n : Nat} {out : List Env}
theorem Std.in1 (S : Std w p loose mean mg mb (n + 1) A base h) : Std w p loose mean mg mb n A.in1 base h :=
  ⟨S.XB, S.TB, S.st, S.sz, fun out e => ⟨⟨e, (S.B out e).1.stays, (S.B out e).1.frames⟩, (S.B out e).2⟩, S.hh, by have := S.hd; show A.depth + _ < _; exact (Nat.lt_of_lt_of_le (Nat.lt_of_succ_le (Nat.le_succ _)) (Nat.le_of_lt this)), by have := S.hu; show A.units + 1 + _ < _; omega⟩
theorem Std.hide {xs : List Addr} (S : Std w p loose mean mg mb n A base h) (hb : ∀ a ∈ xs, base.get? a = none) (hf : ∀ out, A.frames = some out → ∀ env ∈ out, ∀ a ∈ xs, env.frame ≠ some a) : Std w p loose mean mg mb n A base (hideAll h xs) :=
  ⟨S.XB, S.TB, fun b o e => hideAll_get _ (S.st b o e) (fun hm => by (first | exact (ne_get e (hb _ hm) rfl).elim | exact (ne_get (hb _ hm) e rfl).elim | (rw [hb _ hm] at e; cases e))), by rw [hideAll_size]; exact S.sz, fun out e => by
    obtain ⟨B, D⟩ := S.B out e
    refine ⟨⟨B.stack, fun b o e => hideAll_get _ (S.st b o e) (fun hm => by (first | exact (ne_get e (hb _ hm) rfl).elim | exact (ne_get (hb _ hm) e rfl).elim | (rw [hb _ hm] at e; cases e))), funFrames_hideAll B.frames (hf out e)⟩, fun b hm => ?_⟩
    obtain ⟨o, es, k, ho, hd⟩ := D b hm
    obtain ⟨env, he, hq⟩ := List.mem_filterMap.mp hm
    exact ⟨o, es, k, hideAll_get _ ho (fun hm => hf out e env he b hm hq), hd⟩, S.hh, S.hd, S.hu⟩
theorem frames_moved {base h h' : Heap} : ∀ {l : List Env}, h.FunFrames base l → (∀ b ∈ l.filterMap (·.frame), ∀ o, h.get? b = some o → h'.get? b = some o) → h'.FunFrames base l
  | [], _, _ => trivial
  | env :: l, ⟨hk, ⟨L, o, hf, hn, ho, hd⟩, hr⟩, hne => ⟨hk, ⟨L, o, hf, hn, hne L (List.mem_filterMap.mpr ⟨env, .head _, hf⟩) o ho, hd⟩, frames_moved hr fun b hb => hne b (by
      obtain ⟨e, he, hq⟩ := List.mem_filterMap.mp hb
      exact List.mem_filterMap.mpr ⟨e, .tail _ he, hq⟩)⟩
/-- a heap that keeps all that the frames and the base hold -/
theorem Std.moved {h' : Heap} (S : Std w p loose mean mg mb n A base h) (hs : base.objs.size ≤ h'.objs.size) (hb : base.StaysIn h') (hf : ∀ out, A.frames = some out → ∀ b ∈ out.filterMap (·.frame), ∀ o, h.get? b = some o → h'.get? b = some o) : Std w p loose mean mg mb n A base h' :=
  ⟨S.XB, S.TB, hb, hs, fun out e => by
    obtain ⟨B, D⟩ := S.B out e
    refine ⟨⟨B.stack, hb, ?_⟩, fun b hm => ?_⟩
    · have := hf out e
      exact frames_moved B.frames this
    · obtain ⟨o, es, k, ho, hd⟩ := D b hm
      exact ⟨o, es, k, hf out e b hm o ho, hd⟩, S.hh, S.hd, S.hu⟩

set_option maxHeartbeats 1000000 in
theorem iter_tells (f : Addr) (hf : f = 71 ∨ f = 111) (x : Addr) : Tells w p loose mean mg mb (n + 1) f [.ref x] (fun _ => True) (fun _ _ v => v = .ref x) := by
  rintro A base ⟨H, g, d, tk, o⟩ R S hpre hR
  have X := S.X
  have T := S.T
  rcases hf with rfl | rfl
  all_goals
    refine' enter [("self", .ref x)] S (fun _ _ e => e) (Nat.le_refl _) ?k6 ?k7 ?kb ?kl ?c1 ?c2 ?c3 ?c4 ?_
    ((case k6 => k_is); (case k7 => k_is); (case kb => exact rfl); (case kl => exact rfl); (case c1 => exact rfl); (case c2 => exact rfl); (case c3 => exact rfl); (case c4 => exact rfl))
    intro L dp un fr gd h₁ tk₁ Q I _ _ F hQ _
    have N : News H L h₁ [] := News.nil
    (repeat' (first | k_data | (walk1; try dsimp only) | (with_reducible refine ite_no ?_) | (with_reducible refine ite_yes ?_)))
    rename Fr _ _ _ _ => F1
    exact hQ _ _ (hR _ _ _ F1.keep rfl)

/-- the state of list(islice): a strings are taken -/
inductive LisJ (w : World) (base h₁ : Heap) (D U : Nat) (all : List Str) (x dx ga Lg gn S : Nat) (g : Array GenState) (d : Drawn) (o : OsState) (k : Nat) (acc : List Value) (s : Shared) : Prop
  | mk (h' : Heap) (g' : Array GenState) (tk' : Nat) (oL : Obj) (gs : GenState) (tc tn ts tp : Tok) (es : s = ⟨h', g', d, tk', o⟩) (hk : k + acc.length = all.length) (h1 : 1 ≤ k) (hs : ∀ b ob, b ≠ x → b ≠ Lg → b ≠ S → h₁.get? b = some ob → h'.get? b = some ob)
    (hx : h'.get? x = some (islObj dx (.ref ga) (if acc.length = 0 then 0 else acc.length + 1) tc (acc.length + 1) tn ts tp)) (hd : h'.get? dx = some emptyDict) (hL : h'.get? Lg = some oL) (hb : gs.bare = true)
    (hl : Live w base D U all Lg (k - 1 + (if acc.length = 0 then 1 else 0)) gs oL) (hg : g'[gn]? = some gs) (hB : AllBare g → AllBare g') (hp : h'.PlainList S acc.toArray) (ha : StrsAre acc ((all.drop 1).take acc.length))
set_option maxHeartbeats 2000000 in
theorem list_islice {x dx ga Lg gn D U : Nat} {og oL : Obj} {all : List Str} {g : Array GenState} {d : Drawn} {tk : Nat} {o : OsState} {L : Addr} {m : Str → Option Value} {Q E : Value → Shared → Prop}
    (hout : A.frames = some out) (S : Std w p loose mean mg mb (n + 3) A base h) (F0 : Fr H L h m) (hbH : base.StaysIn H) (hbs : base.objs.size ≤ H.objs.size) (hN : ∀ a ∈ [Lg, x, dx], H.get? a = none ∧ a ≠ L)
    (hf : ∀ env ∈ out, ∀ a ∈ [Lg, x, dx], env.frame ≠ some a) (hI : Isl w base D U all x dx ga Lg gn og oL 0 1 all.length h g) (l1 : @LT.lt Nat _ Lg dx) (l2 : @LT.lt Nat _ dx x) (hg1 : ga ≠ Lg) (hg2 : ga ≠ x) (hlen : 1 ≤ all.length) (hmax : all.length ≤ 1000)
    (hD : recursionLimit + 10 ≤ D + 2 * n) (hDr : D < recursionLimit) (hU : cLine + 80 ≤ U + 20 * n)
    (k : ∀ S ys h' g' tk', (∀ b ob, b ≠ x → b ≠ Lg → b ≠ dx → b ∉ out.filterMap (·.frame) → h.get? b = some ob → h'.get? b = some ob) → (∀ b ob, b ∈ out.filterMap (·.frame) → h.get? b = some ob → ∃ sl, h'.get? b = some { ob with slots := sl }) →
      h.get? S = none → h'.PlainList S ys.toArray → StrsAre ys (all.drop 1) → (AllBare g → AllBare g') → Q (.ref S) ⟨h', g', d, tk', o⟩) :
    wpAny (model PG w) A (call (.type "list") [.ref x]) Q E ⟨h, g, d, tk, o⟩ := by
  have X : (hd.heap_1 w.params).In H := S.XB.keeps hbH
  obtain ⟨⟨tc, tn, ts, tp, hx⟩, hdx, hog, hgen, hLg, gs, hgs, hbare, hlive⟩ := hI
  have inst : ∀ h' it c tc nx tn ts tp, h'.get? x = some (islObj dx it c tc nx tn ts tp) → h'.get? dx = some emptyDict → InstAt h' x (islObj dx it c tc nx tn ts tp) 82 (some emptyDict) := fun h' it c tc nx tn ts tp e1 e2 => ⟨e1, rfl, rfl, e2⟩
  refine list_own (f := 78) (f2 := 71) (C := 82) F0 X (inst _ _ _ _ _ _ _ _ hx hdx) ?i1 ?i2 ?i3 ?i4 ?i5 ?i6 ?iter ?loop
  case i1 => k_is
  case i2 => k_is
  case i3 => k_is
  case i4 => k_is
  case i5 => k_is
  case i6 => k_is
  case iter =>
    intro h₁ Q' st hQ'
    have fr : ∀ b ∈ out.filterMap (·.frame), ∀ ob, h.get? b = some ob → h₁.get? b = some ob := fun b _ ob e => st b ob e
    refine wpAny_call (iter_tells (n := n) 71 (.inl rfl) x _ base _ _ (Std.in1 (n := n + 1) (Std.in1 (n := n + 2) (S.moved ?_ (fun b ob e => st _ _ (S.st b ob e)) fun out' e' => ?_))) trivial fun v h2 tk2 st2 hv => ?_)
    · exact Nat.le_trans hbs (Nat.le_trans F0.above (Nat.le_of_lt (Fr.stay F0 st).ns.lt))
    · (first | exact (ne_get e' (hout) rfl).elim | exact (ne_get (hout) e' rfl).elim | (rw [hout] at e'; cases e')); exact fr
    · subst hv
      exact hQ' _ _ st2
  case loop =>
    intro S' h₁ tk₁ R hS0 st₁ hS1 hR
    refine extend_own (LisJ w base h₁ D U all x dx ga Lg gn S' g d o) ?_ all.length [] _ ⟨h₁, g, tk₁, oL, gs, tc, tn, ts, tp, rfl, rfl, hlen, fun b ob _ _ _ e => e, st₁ _ _ hx, st₁ _ _ hdx, st₁ _ _ hLg, hbare, ?_, hgs, id, hS1, by simpa using StrsAre.nil⟩
    · rintro kk acc s Q' ⟨h', g', tk', oL', gs', tc', tn', ts', tp', rfl, hk, hk1, hkeep, ex, edx, eLg, hb', hl', hgs', hbb, hS', hacc⟩ hnext hstop
      have fS : ∀ b ob, h.get? b = some ob → b ≠ S' := fun b ob e q => by (first | exact (ne_get e (hS0) (q)).elim | exact (ne_get (hS0) e (q)).elim | (rw [q, hS0] at e; cases e))
      have toH' : ∀ b ob, b ≠ x → b ≠ Lg → h.get? b = some ob → h'.get? b = some ob := fun b ob h1 h2 e => hkeep b ob h1 h2 (fS b ob e) (st₁ b ob e)
      have nL : ∀ a ∈ [Lg, x, dx], L ≠ a := fun a ha e => (hN a ha).2 e.symm
      have nH : ∀ b ob, H.get? b = some ob → ∀ a ∈ [Lg, x, dx], b ≠ a := fun b ob e a ha q => by (first | exact (ne_get e ((hN a ha).1) (q)).elim | exact (ne_get ((hN a ha).1) e (q)).elim | (rw [q, (hN a ha).1] at e; cases e))
      have F' : Fr H L h' m := ⟨F0.ns.at' fun ob e => toH' _ ob (nL _ (.tail _ (.head _))) (nL _ (.head _)) e, fun b ob e => toH' b ob (nH b ob e _ (.tail _ (.head _))) (nH b ob e _ (.head _)) (F0.keep b ob e), F0.above⟩
      have nf : ∀ b ∈ out.filterMap (·.frame), ∀ a ∈ [Lg, x, dx], b ≠ a := fun b hb a ha q => by
        obtain ⟨env, he, hq⟩ := List.mem_filterMap.mp hb
        exact hf env he a ha (q ▸ hq)
      have hga' : ga ≠ dx := fun q => by
        obtain ⟨o1, _, _, e1, e2, _⟩ := hgen h hog
        rw [q, hdx] at e1
        cases e1
        exact absurd (show Value.type "dict" = Value.type "generator" from e2) (by decide)
      have S1 : Std w p loose mean mg mb (n + 3) A base h' := S.moved (Nat.le_trans hbs (Nat.le_trans F'.above (Nat.le_of_lt F'.ns.lt))) (fun b ob e => F'.keep b ob (hbH b ob e)) fun out' e' b hb ob e => by
        (first | exact (ne_get e' (hout) rfl).elim | exact (ne_get (hout) e' rfl).elim | (rw [hout] at e'; cases e'))
        exact toH' b ob (nf b hb _ (.tail _ (.head _))) (nf b hb _ (.head _)) e
      have S2 : Std w p loose mean mg mb (n + 1) A.in1.in1 base (hideAll h' [Lg, x, dx]) := Std.hide (Std.in1 (Std.in1 S1)) (fun a ha => by
        cases e : base.get? a with
        | none => rfl
        | some ob => exact absurd rfl (nH a ob (hbH _ _ e) a ha)) (fun out' e' env he a ha => by
        have e' : A.frames = some out' := e'
        (first | exact (ne_get e' (hout) rfl).elim | exact (ne_get (hout) e' rfl).elim | (rw [hout] at e'; cases e'))
        exact hf env he a ha)
      have S0n : S' ∉ [Lg, x, dx] := fun hm => by
        simp only [List.mem_cons, List.not_mem_nil, or_false] at hm
        rcases hm with q | q | q
        · exact fS _ _ hLg q.symm
        · exact fS _ _ hx q.symm
        · exact fS _ _ hdx q.symm
      obtain ⟨c, hc⟩ : ∃ c : Int, c = if acc.length = 0 then 0 else (acc.length : Int) + 1 := ⟨_, rfl⟩
      obtain ⟨lf, hlf⟩ : ∃ lf : Nat, lf = kk - 1 + (if acc.length = 0 then 1 else 0) := ⟨_, rfl⟩
      rw [← hc] at ex
      rw [← hlf] at hl'
      have hcc : 0 ≤ c ∧ c ≤ 1000 ∧ (c = (acc.length : Int) + 1 ∨ (c + 1 = (acc.length : Int) + 1 ∧ 1 ≤ lf)) ∧ lf = kk - 1 + ((acc.length : Int) + 1 - c).toNat := by
        by_cases z : acc.length = 0
        · rw [if_pos z] at hc hlf; omega
        · rw [if_neg z] at hc hlf; omega
      clear hc hlf
      refine owit_next (f := 78) F' X (inst _ _ _ _ _ _ _ _ ex edx) ?j1 ?j2 (wpAny_call ?_)
      case j1 => k_is
      case j2 => k_is
      refine islice_next (n := n) (A := A.in1.in1) (H := hideAll h' [Lg, x, dx]) (outer := out) (og := og) (all := all) (D := D) (U := U) (left := lf) (tc := tc') (tn := tn') (ts := ts') (tp := tp') hout S2 (fun b ob e => of_hideAll _ e) (Nat.le_of_eq (hideAll_size _ _)) hD hDr hU ?_ l1 l2 ?_ hgen hgs' hl' hb' hcc.1 hcc.2.1 hcc.2.2.1 ?_ ?_
      · intro q hq
        revert q hq; refine all_cons ?_ (all_cons ?_ (all_cons ?_ all_nil))
        · exact ⟨eLg, hideAll_none _ (.head _)⟩
        · exact ⟨ex, hideAll_none _ (.tail _ (.head _))⟩
        · exact ⟨edx, hideAll_none _ (.tail _ (.tail _ (.head _)))⟩
      · refine hideAll_get _ (toH' _ _ hg2 hg1 hog) fun hm => ?_
        simp only [List.mem_cons, List.not_mem_nil, or_false] at hm
        rcases hm with q | q | q
        · exact hg1 q
        · exact hg2 q
        · exact hga' q
      · intro h2 tk2 oL2 gs2 c' t1 t2 t3 t4 t5 lf' hlf' hc' st2 e1 e2 e3 hb2 hl2
        obtain ⟨c1, c2, c3, c4⟩ := hcc
        have hk2 : kk = lf' + 2 := by omega
        obtain ⟨cS, eS⟩ := hS'
        have hS2 : h2.PlainList S' acc.toArray := ⟨cS, st2 _ _ (hideAll_get _ eS S0n)⟩
        have hgl : gn < g'.size := (Array.getElem?_eq_some_iff.mp hgs').1
        refine hnext _ _ hS2 (by omega) fun h3 hS3 hsb => ⟨kk - 1, by exact (Nat.sub_lt_self (by decide) hk1), h3, _, tk2, oL2, gs2, t1, t2, t3, t4, rfl, by rw [List.length_append, List.length_cons, List.length_nil]; omega, by omega, fun b ob b1 b2 b3 e => ?_, ?_, ?_, ?_, hb2, ?_, by simp [hgl], fun hb => bare_set hb2 (hbb hb), hS3, ?_⟩
        · rw [hsb.2 _ b3]
          by_cases b4 : b = dx
          · subst b4
            rw [e2, ← e, ← st₁ _ _ hdx]
          · exact st2 _ _ (hideAll_get _ (hkeep b ob b1 b2 b3 e) fun hm => by
              simp only [List.mem_cons, List.not_mem_nil, or_false] at hm
              rcases hm with q | q | q
              · exact b2 q
              · exact b1 q
              · exact b4 q)
        · rw [hsb.2 _ (fS _ _ hx), e1, hc', List.length_append, List.length_cons, List.length_nil, if_neg (Nat.succ_ne_zero _)]
          simp
        · rw [hsb.2 _ (fS _ _ hdx), e2]
        · rw [hsb.2 _ (fS _ _ hLg), e3]
        · rw [List.length_append, List.length_cons, List.length_nil, if_neg (Nat.succ_ne_zero _), show kk - 1 - 1 + 0 = lf' by omega]
          exact hl2
        · rw [List.length_append, List.length_cons, List.length_nil, List.take_add_one]
          refine strs_append hacc ?_
          have hi : acc.length + 1 < all.length := by omega
          rw [List.getElem?_drop, show 1 + acc.length = acc.length + 1 by exact (Nat.add_comm _ _), List.getElem?_eq_getElem hi, show all.length - 1 - lf' = acc.length + 1 by omega, List.getD_eq_getElem?_getD, List.getElem?_eq_getElem hi]
          exact .cons _ _ .nil
      · intro h2 tk2 e oe g2 hlf K he hoe hbare2
        obtain ⟨c1, c2, c3, c4⟩ := hcc
        have hk2 : kk = 1 := by omega
        unfold OwitStop
        refine wpAny_isInstance (T := "StopIteration") (b := true) ⟨oe, he, hoe⟩ isSubtype_stop ?_
        rw [if_pos rfl]
        obtain ⟨cS, eS⟩ := hS'
        have nfS : S' ∉ out.filterMap (·.frame) := fun hm => by
          obtain ⟨o1, _, _, e1, _⟩ := (S.B out hout).2 S' hm
          exact fS _ _ e1 rfl
        refine hstop _ (hR _ (k S' acc h2 g2 tk2 (fun b ob b1 b2 b3 b4 e => K.1 _ _ (hideAll_get _ (toH' b ob b1 b2 e) fun hm => ?_) b4) (fun b ob hb e => K.2 _ _ (hideAll_get _ (toH' b ob (nf b hb _ (.tail _ (.head _))) (nf b hb _ (.head _)) e) fun hm => nf b hb b hm rfl) hb) hS0 ⟨cS, K.1 _ _ (hideAll_get _ eS S0n) nfS⟩ ?_ (fun hb => hbare2 (hbb hb))))
        · simp only [List.mem_cons, List.not_mem_nil, or_false] at hm
          rcases hm with q | q | q
          · exact b2 q
          · exact b1 q
          · exact b3 q
        · rwa [List.take_of_length_le (by rw [List.length_drop]; omega)] at hacc
    · rw [show all.length - 1 + (if ([] : List Value).length = 0 then 1 else 0) = all.length from Nat.sub_add_cancel hlen]
      exact hlive
end
end Mine

end
section
open PySem PySem.W PyProof.Rows PySem.Spec PySem.Calls
namespace Mine
/-- the deeds `last[place] = i` of the first i entries, in order -/
noncomputable def opsTo (up es : List Int) (i : Nat) : List (Int × Int) := (List.range i).flatMap fun j => (chain up (es.getD j 0)).map fun p => (p, (j : Int))
noncomputable def lastIn (ops : List (Int × Int)) (p : Int) : Int := ((ops.reverse.find? fun x => x.1 == p).map (·.2)).getD 0
/-- a table that the deeds leave -/
noncomputable def TabIs (ops : List (Int × Int)) (kvs : List (Int × Value)) : Prop := kvs.map (·.1) = dd (ops.map (·.1)) ∧ ∀ p v, (p, v) ∈ kvs → ∃ t, v = .int (lastIn ops p) t
theorem dd_snoc {α : Type} [DecidableEq α] (xs : List α) (x : α) : dd (xs ++ [x]) = if x ∈ dd xs then dd xs else dd xs ++ [x] := by
  unfold dd; rw [List.foldl_append]; rfl
theorem lastIn_snoc (ops : List (Int × Int)) (p i q : Int) : lastIn (ops ++ [(p, i)]) q = if p = q then i else lastIn ops q := by
  unfold lastIn
  rw [List.reverse_append, List.reverse_singleton, List.singleton_append, List.find?_cons]
  by_cases h : p = q
  · subst h; simp
  · rw [if_neg h]
    have : ((p, i).1 == q) = false := beq_eq_false_iff_ne.mpr h
    rw [this]
theorem TabIs.step {ops : List (Int × Int)} {kvs : List (Int × Value)} (T : TabIs ops kvs) (p i : Int) (t : Tok) : TabIs (ops ++ [(p, i)]) (stored kvs p (.int i t)) := by
  obtain ⟨h1, h2⟩ := T
  have hm : (kvs.any fun kv => decide (kv.1 = p)) = true ↔ p ∈ dd (ops.map (·.1)) := by
    rw [← h1, List.any_eq_true, List.mem_map]
    constructor
    · rintro ⟨x, hx, e⟩; exact ⟨x, hx, by simpa using e⟩
    · rintro ⟨x, hx, e⟩; exact ⟨x, hx, by simpa using e⟩
  unfold stored
  by_cases h : p ∈ dd (ops.map (·.1))
  · rw [if_pos (hm.mpr h)]
    refine ⟨?_, fun q v hq => ?_⟩
    · rw [List.map_append, List.map_singleton, dd_snoc, if_pos h, ← h1, List.map_map]
      refine List.map_congr_left fun x _ => ?_
      simp only [Function.comp]
      split <;> rfl
    · obtain ⟨⟨q', v'⟩, hx, e⟩ := List.mem_map.mp hq
      rw [lastIn_snoc]
      dsimp only at e
      split at e
      · cases e; rename_i z; exact ⟨t, by rw [if_pos z.symm]⟩
      · cases e; rename_i z
        rw [if_neg (fun y => z y.symm)]
        exact h2 _ _ hx
  · rw [if_neg (fun y => h (hm.mp y))]
    refine ⟨?_, fun q v hq => ?_⟩
    · rw [List.map_append, List.map_append, List.map_singleton, List.map_singleton, dd_snoc, if_neg h, h1]
    · rw [lastIn_snoc]
      rcases List.mem_append.mp hq with hq | hq
      · have hne : p ≠ q := fun e => h (by rw [e, ← h1]; exact List.mem_map_of_mem hq)
        rw [if_neg hne]
        exact h2 _ _ hq
      · obtain ⟨rfl, rfl⟩ := Prod.mk.inj (List.mem_singleton.mp hq)
        exact ⟨t, by rw [if_pos rfl]⟩
theorem getD_at {xs : List Int} {k : Nat} (hk : k < xs.length) : xs[k]? = some (xs.getD k 0) := by rw [List.getD_eq_getElem?_getD, List.getElem?_eq_getElem hk]; rfl
theorem opsTo_len (up es : List Int) : ∀ i, (∀ j, j < i → (chain up (es.getD j 0)).length ≤ 1000) → (opsTo up es i).length ≤ i * 1000
  | 0, _ => by simp [opsTo]
  | i + 1, h => by
    have h1 := opsTo_len up es i fun j hj => h j (by exact (Nat.lt_succ_of_lt hj))
    have h2 := h i (Nat.lt_succ_self i)
    unfold opsTo at *
    rw [List.range_succ, List.flatMap_append, List.length_append, Nat.succ_mul]
    simp only [List.flatMap_cons, List.flatMap_nil, List.append_nil, List.length_map]
    exact (Nat.add_le_add h1 h2)
theorem opsTo_succ (up es : List Int) (i : Nat) : opsTo up es (i + 1) = opsTo up es i ++ (chain up (es.getD i 0)).map fun p => (p, (i : Int)) := by
  unfold opsTo
  rw [List.range_succ, List.flatMap_append]
  simp only [List.flatMap_cons, List.flatMap_nil, List.append_nil]
theorem ints_of {vs : List Value} : ∀ {ns : List Int}, vs.length = ns.length → (∀ (j : Nat) u, vs[j]? = some u → ∃ k t, ns[j]? = some k ∧ u = .int k t) → IntsAre vs ns := by
  induction vs with
  | nil =>
    intro ns hl _
    cases ns with
    | nil => exact .nil
    | cons _ _ => exact nomatch hl
  | cons v vs ih =>
    intro ns hl h
    cases ns with
    | nil => exact nomatch hl
    | cons n ns =>
      obtain ⟨k, t, e, rfl⟩ := h 0 v rfl
      obtain rfl : n = k := Option.some.inj e
      exact .cons _ _ (ih (Nat.succ.inj hl) fun j u hu => h (j + 1) u hu)
theorem list_keysI {w : World} {A : Around} {E : Value → Shared → Prop} {s : Shared} {h₀ : Heap} {L dc : Addr} {m : Str → Option Value} {news : List (Addr × Obj)} {Q : Value → Shared → Prop} {oc : Obj} {kvs : List (Int × Value)} (hh : A.handled = none) (F : Fr h₀ L s.heap m) (N : News h₀ L s.heap news)
    (hp : (dc, oc) ∈ news) (hd : oc.IsDictOf (intKind PG w) kvs) (lo : (dc == sysModules) = false) (hn : kvs.length ≤ 16777216)
    (h : ∀ (B : Addr) c h' tk us, IntsAre us (kvs.map (·.1)) → Fr h₀ L h' m → News h₀ L h' ((B, W.listOf us.toArray c) :: news) → (∀ q ∈ news, q.1 < B) → Q (.ref B) { s with heap := h', toks := tk }) :
    wpAny (model PG w) A (call (.type "list") [.ref dc]) Q E s := by
  obtain ⟨ep, hat⟩ := (kda_dict N hp hd).dictAt
  refine kdl_N (kdl_dict (knd := intKind PG w) (kvs := kvs) (ep := ep) lo) hh F N hat (kdl_size hn) fun B c h' tk vs F' N' l1 hl hv => h B c h' tk vs (ints_of (by rw [hl, List.length_map]) fun j u hu => ?_) F' N' l1
  obtain ⟨k, x, hx, hk⟩ := hv j u hu
  obtain ⟨t, rfl⟩ := Value.isInt_shape hk
  exact ⟨k, t, by rw [List.getElem?_map, hx]; rfl, rfl⟩
theorem dd_mem {α : Type} [DecidableEq α] {x : α} {xs : List α} : x ∈ dd xs ↔ x ∈ xs := by
  have : ∀ (xs acc : List α), x ∈ xs.foldl (fun acc x => if x ∈ acc then acc else acc ++ [x]) acc ↔ x ∈ acc ∨ x ∈ xs := by
    intro xs
    induction xs with
    | nil => intro acc; simp
    | cons y ys ih =>
      intro acc
      rw [List.foldl_cons, ih, List.mem_cons]
      split
      · rename_i h
        constructor
        · rintro (z | z) <;> simp [z]
        · rintro (z | rfl | z) <;> simp [*]
      · rw [List.mem_append, List.mem_singleton]
        constructor
        · rintro ((z | z) | z) <;> simp [z]
        · rintro (z | z | z) <;> simp [z]
  have h := this xs []
  simpa [dd] using h
theorem dd_nodup {α : Type} [DecidableEq α] (xs : List α) : (dd xs).Nodup := by
  have : ∀ (xs acc : List α), acc.Nodup → (xs.foldl (fun acc x => if x ∈ acc then acc else acc ++ [x]) acc).Nodup := by
    intro xs
    induction xs with
    | nil => intro acc h; exact h
    | cons y ys ih =>
      intro acc h
      rw [List.foldl_cons]
      split
      · exact ih _ h
      · rename_i hy
        exact ih _ (List.nodup_append.mpr ⟨h, by simp, fun a ha b hb e => hy (by rw [List.mem_singleton.mp hb] at e; exact e ▸ ha)⟩)
  exact this xs [] List.nodup_nil
theorem ops_mem {up es : List Int} {n : Nat} {p : Int} : p ∈ (opsTo up es n).map (·.1) ↔ ∃ j, j < n ∧ p ∈ chain up (es.getD j 0) := by
  unfold opsTo
  rw [List.mem_map]
  constructor
  · rintro ⟨x, hx, rfl⟩
    obtain ⟨j, hj, hm⟩ := List.mem_flatMap.mp hx
    obtain ⟨q, hq, rfl⟩ := List.mem_map.mp hm
    exact ⟨j, List.mem_range.mp hj, hq⟩
  · rintro ⟨j, hj, hm⟩
    exact ⟨(p, j), List.mem_flatMap.mpr ⟨j, List.mem_range.mpr hj, List.mem_map.mpr ⟨p, hm, rfl⟩⟩, rfl⟩
theorem chain_mem {up : List Int} (hup : UpOk up) : ∀ (q : Int), 0 ≤ q → q < up.length → ∀ {p : Int}, p ∈ chain up q → 0 < p ∧ p ≤ q := by
  have : ∀ (n : Nat) (q : Int), q.toNat ≤ n → 0 ≤ q → q < up.length → ∀ {p : Int}, p ∈ chain up q → 0 < p ∧ p ≤ q := by
    intro n
    induction n with
    | zero => intro q h0 h1 h2 p hp; obtain rfl : q = 0 := by omega
              rw [chain_zero] at hp; cases hp
    | succ n ih =>
      intro q h0 h1 h2 p hp
      by_cases hq : q = 0
      · subst hq; rw [chain_zero] at hp; cases hp
      · rw [chain_step hup (by omega) h2] at hp
        obtain ⟨u0, u1⟩ := hup q.toNat (by omega) (by exact (Mine.toNat_lt_len h1 h2))
        rcases List.mem_append.mp hp with hp | hp
        · have := ih (up.getD q.toNat 0) (by omega) u0 (by omega) hp
          omega
        · obtain rfl := List.mem_singleton.mp hp
          omega
  intro q h0 h1 p hp
  exact this q.toNat q (Nat.le_refl _) h0 h1 hp
theorem tab0 (up es : List Int) : TabIs (opsTo up es 0) [] := ⟨rfl, fun _ _ h => nomatch h⟩
/-- the order of a tree's places -/
noncomputable def treeRank (up es : List Int) (q : Int) : Int := lastIn (opsTo up es es.length) q * 1000 - ((chain up q).length : Int)
theorem few_ints : ∀ (n : Nat) (l : List Int), l.Nodup → (∀ x ∈ l, 0 ≤ x ∧ x < n) → l.length ≤ n
  | 0, l, _, h => by
    cases l with
    | nil => simp
    | cons a l => have := h a (.head _); omega
  | n + 1, l, hn, h => by
    have h1 := few_ints n (l.erase (n : Int)) (hn.erase _) fun x hx => by
      obtain ⟨a, b⟩ := hn.mem_erase_iff.mp hx
      have := h x b
      omega
    have := List.le_length_erase (a := (n : Int)) (l := l)
    omega
theorem chain_pre {up : List Int} (hup : UpOk up) : ∀ (n : Nat) (q : Int), q.toNat ≤ n → 0 ≤ q → q < up.length → ∀ {p : Int}, p ∈ chain up q → ∃ s, chain up q = chain up p ++ s
  | 0, q, h0, h1, h2, p, hp => by
    obtain rfl : q = 0 := by omega
    rw [chain_zero] at hp; cases hp
  | n + 1, q, h0, h1, h2, p, hp => by
    by_cases hq : q = 0
    · subst hq; rw [chain_zero] at hp; cases hp
    · have e := chain_step hup (p := q) (by omega) h2
      rw [e] at hp
      obtain ⟨u0, u1⟩ := hup q.toNat (by omega) (by exact (Mine.toNat_lt_len h1 h2))
      rcases List.mem_append.mp hp with hp | hp
      · obtain ⟨s, es⟩ := chain_pre hup n (up.getD q.toNat 0) (by omega) u0 (by omega) hp
        exact ⟨s ++ [q], by rw [e, es, List.append_assoc]⟩
      · obtain rfl := List.mem_singleton.mp hp
        exact ⟨[], by rw [List.append_nil]⟩
theorem chain_last {up : List Int} (hup : UpOk up) {p : Int} (h0 : 0 < p) (h1 : p < up.length) : (chain up p)[(chain up p).length - 1]? = some p := by
  rw [chain_step hup h0 h1, List.length_append, List.length_singleton, Nat.add_sub_cancel, List.getElem?_append_right (Nat.le_refl _), Nat.sub_self]
  rfl
theorem chain_same {up : List Int} (hup : UpOk up) {q : Int} (h1 : 0 ≤ q) (h2 : q < up.length) {x y : Int} (hx : x ∈ chain up q) (hy : y ∈ chain up q) (e : (chain up x).length = (chain up y).length) : x = y := by
  obtain ⟨x0, x1⟩ := chain_mem hup q h1 h2 hx
  obtain ⟨y0, y1⟩ := chain_mem hup q h1 h2 hy
  obtain ⟨s, es⟩ := chain_pre hup _ q (Nat.le_refl _) h1 h2 hx
  obtain ⟨t, et⟩ := chain_pre hup _ q (Nat.le_refl _) h1 h2 hy
  have lx := chain_last hup x0 (by exact (Int.lt_of_le_of_lt x1 h2))
  have ly := chain_last hup y0 (by exact (Int.lt_of_le_of_lt y1 h2))
  have px := (List.getElem?_eq_some_iff.mp lx).1
  have py := (List.getElem?_eq_some_iff.mp ly).1
  have a := congrArg (fun l => l[(chain up x).length - 1]?) es
  have b := congrArg (fun l => l[(chain up x).length - 1]?) et
  rw [List.getElem?_append_left px, lx] at a
  rw [e, List.getElem?_append_left py, ly] at b
  rw [← e] at b
  rw [a] at b
  exact Option.some.inj b
theorem last_spec {up es : List Int} : ∀ {n : Nat} {p : Int}, p ∈ (opsTo up es n).map (·.1) → ∃ j : Nat, j < n ∧ lastIn (opsTo up es n) p = j ∧ p ∈ chain up (es.getD j 0) ∧ ∀ i, j < i → i < n → p ∉ chain up (es.getD i 0)
  | 0, p, h => by simp [opsTo] at h
  | n + 1, p, h => by
    have same : ∀ (c : List Int) (ops : List (Int × Int)), lastIn (ops ++ c.map fun x => (x, (n : Int))) p = if p ∈ c then (n : Int) else lastIn ops p := by
      intro c
      induction c with
      | nil => intro ops; simp
      | cons x c ih =>
        intro ops
        rw [List.map_cons, show ops ++ (x, (n : Int)) :: c.map (fun x => (x, (n : Int))) = (ops ++ [(x, (n : Int))]) ++ c.map (fun x => (x, (n : Int))) by simp, ih, lastIn_snoc]
        by_cases h1 : p ∈ c
        · rw [if_pos h1, if_pos (.tail _ h1)]
        · rw [if_neg h1]
          by_cases h2 : x = p
          · rw [if_pos h2, if_pos (by rw [h2]; exact .head _)]
          · rw [if_neg h2, if_neg (by simp [h1, Ne.symm h2])]
    rw [opsTo_succ, same]
    by_cases hp : p ∈ chain up (es.getD n 0)
    · exact ⟨n, Nat.lt_succ_self n, by rw [if_pos hp], hp, fun i a b => by omega⟩
    · rw [if_neg hp]
      obtain ⟨j, hj, hm⟩ := ops_mem.mp h
      have hjn : j < n := by
        rcases Nat.lt_or_ge j n with z | z
        · exact z
        · obtain rfl : j = n := by exact (Nat.le_antisymm (Nat.le_of_lt_succ hj) z)
          exact absurd hm hp
      obtain ⟨i, h1, h2, h3, h4⟩ := last_spec (ops_mem.mpr ⟨j, hjn, hm⟩)
      refine ⟨i, by exact (Nat.lt_succ_of_lt h1), h2, h3, fun k a b => ?_⟩
      rcases Nat.lt_or_ge k n with z | z
      · exact h4 k a z
      · obtain rfl : k = n := by exact (Nat.le_antisymm (Nat.le_of_lt_succ b) z)
        exact hp
/-- where the lambda of _law_tree stands, and its name -/
noncomputable def lamPos : Pos := ⟨208, 34, 208, 93⟩
noncomputable def lamQual : Str := ("_law_tree" : Str) ++ ".<locals>." ++ "<lambda>"
inductive TrJ (w : World) (up es : List Int) (e : Addr) (ps : Array Value) (L : Addr) (o2 : Obj) (dk : Addr) (i : Nat) (h : Heap) (m : Str → Option Value) (news : List (Addr × Obj)) : Prop
  | mk (ok oc : Obj) (kvs : List (Int × Value)) (e1 : m "entries" = some (.ref e)) (en : news = [(dk, ok), (L + 1 + 1, oc), (L + 1, o2), (195, tabObj ps)]) (hc : oc.data = .cell (some (.ref dk))) (hd : Obj.IsDictOf (intKind PG w) ok kvs) (ht : TabIs (opsTo up es i) kvs)
inductive TrK (w : World) (up es : List Int) (e : Addr) (ps : Array Value) (L : Addr) (o2 : Obj) (dk : Addr) (i : Nat) (It : Addr) (oI : Obj) (r : Addr) (vr : List Value) (kr : Nat) (k : Nat) (h : Heap) (m : Str → Option Value) (news : List (Addr × Obj)) : Prop
  | mk (ok oc : Obj) (kvs : List (Int × Value)) (t : Tok) (e1 : m "entries" = some (.ref e)) (e2 : m "i" = some (.int i t)) (en : news = [(r, W.listOf vr.toArray kr), (It, oI), (dk, ok), (L + 1 + 1, oc), (L + 1, o2), (195, tabObj ps)]) (hc : oc.data = .cell (some (.ref dk))) (hd : Obj.IsDictOf (intKind PG w) ok kvs)
    (ht : TabIs (opsTo up es i ++ ((chain up (es.getD i 0)).take k).map fun p => (p, (i : Int))) kvs)
section
variable {w : World} {p : Program} {loose : List Str} {mean : ExcName → Option Value} {mg mb : Str → Option Value} {n : Nat}
set_option maxHeartbeats 4000000 in
theorem tree_tells (es up : List Int) (e b : Addr) (hes : es.length ≤ 8) (hup : UpOk up) (hul : up.length ≤ 9) (hin : ∀ q ∈ es, 0 ≤ q ∧ q < up.length)
    {A : Around} {out : List Env} {base H : Heap} {g : Array GenState} {d : Drawn} {tk : Nat} {o : OsState} {R : Result → Shared → Prop} (hout : A.frames = some out) (S : Std w p loose mean mg mb (n + 10) A base (hideAll H [195])) (he : AtIntsL (hideAll H [195]) e es) (hb : AtInts (hideAll H [195]) b up)
    {ps : Array Value} (h195 : H.get? 195 = some (tabObj ps)) (hps : LamTab lamPos lamQual (hideAll H [195]) ps)
    (hR : ∀ v h' tk' ps', (∀ b ob, b ≠ 195 → H.get? b = some ob → h'.get? b = some ob) → h'.get? 195 = some (tabObj ps') → LamTab lamPos lamQual (hideAll h' [195]) ps' →
      (∃ r us ss k, v = .ref r ∧ H.get? r = none ∧ h'.get? r = some (W.listOf (List.toArray us) k) ∧ IntsAre us ss ∧ ss.Perm (dd ((opsTo up es es.length).map (·.1))) ∧ ss.Pairwise (fun x y => treeRank up es x < treeRank up es y)) → R (.ok (.ret v)) ⟨h', g, d, tk', o⟩) : codeAny (model PG w) A (.call (.ref 200) ⟨[.ref e, .ref b], []⟩) R ⟨H, g, d, tk, o⟩ := by
  have X := S.X
  have T := S.T
  refine' enterCX [("entries", .ref e), ("above", .ref b)] hout S (fun _ _ e => of_hideAll _ e) (Nat.le_of_eq (hideAll_size _ _)) ?k6 ?k7 ?kb ?kl ?kn ?c1 ?c2 ?c3 ?_
  case k6 => k_is
  case k7 => k_is
  case kb => exact rfl
  case kl => exact rfl
  case kn => decide
  case c1 => exact rfl
  case c2 => exact rfl
  case c3 => exact rfl
  intro L dp un gd h₁ tk₁ cells Q Rm st1 hHL F N Y hQ _
  clear S
  obtain ⟨o1, o2, rfl, hc1, hc2⟩ := CellsAre.two Y
  clear Y
  replace hc1 : o1.data = .cell none := hc1
  replace hc2 : o2.data = .cell (some (.ref b)) := hc2
  have n195 : @LT.lt Nat _ 195 L := Nat.lt_of_lt_of_le (Heap.lt_size h195) hHL
  replace N : News (hideAll H [195]) L h₁ [(L + 1 + 1, o1), (L + 1, o2), (195, tabObj ps)] := fun q hq => by
    rcases List.mem_append.mp (show q ∈ [(L + 1 + 1, o1), (L + 1, o2)] ++ [(195, tabObj ps)] from hq) with hq | hq
    · exact N q hq
    · obtain rfl := List.mem_singleton.mp hq
      exact ⟨st1 _ _ h195, Nat.ne_of_lt n195, hideAll_none _ (.head _)⟩
  (repeat' (first | k_data | ((fail_if_success (with_reducible show wpAny _ _ (exec (Stmt.For _ _ _ _ _) _) _ _ _)); walk1; try dsimp only) | (with_reducible refine ite_no ?_) | (with_reducible refine ite_yes ?_)))
  rename_i dk _ ok0 hlo _ _ hD0 _ hlt _ oc0 _ _ hcl
  obtain ⟨ve, hve, hie⟩ := id he
  refine wpAny_For ?_ (fun _ => rfl)
  (repeat' (first | k_data | ((fail_if_success (with_reducible show wpAny _ _ (exec (Stmt.For _ _ _ _ _) _) _ _ _)); walk1; try dsimp only) | (with_reducible refine ite_no ?_) | (with_reducible refine ite_yes ?_)))
  rename Fr _ _ _ _ => F1
  rename News _ _ _ _ => N1
  rename IsRange _ _ _ _ _ _ _ _ => hr
  obtain ⟨r1, r2⟩ := range_small ⟨es.length, by exact (Nat.lt_succ_of_le hes)⟩
  have r3 : Builtin.Range.small 0 (es.length : Int) 1 = true := r1
  have r4 : Builtin.Range.rangeSize 0 (es.length : Int) 1 = (es.length : Int) := r2
  refine forRange (a := 0) (n := es.length) (fun H' => H' = hideAll H [195]) (TrJ w up es e ps L o2 dk) hr r3 r4 rfl rfl rfl rfl rfl F1 N1 ?_ ?_ ?_
  · exact ⟨_, _, [], rfl, rfl, hcl, hD0, tab0 up es⟩
  · rintro i It H' oI tv m₁ _ h₂ tk₂ Qt hi rfl F2 N2 cI hn ⟨ok, oc, kvs, e1, rfl, hoc, hok, hT⟩ hQt _ _
    replace F2 : Fr (hideAll H [195]) L h₂ _ := Fr.norm F2 [("i", .int i tv), ("entries", .ref e)] (all_cons ((if_pos rfl).trans (by rw [Int.zero_add])) (all_cons (mset_ne (y := "entries") (by decide) e1) all_nil))
    replace N2 : News (hideAll H [195]) L h₂ [(It, oI), (dk, ok), (L + 1 + 1, oc), (L + 1, o2), (195, tabObj ps)] := N2
    clear F1 N1
    (repeat' (first | k_data | ((fail_if_success (with_reducible show wpAny _ _ (exec (Stmt.For _ _ _ _ _) _) _ _ _)); walk1; try dsimp only) | (with_reducible refine ite_no ?_) | (with_reducible refine ite_yes ?_)))
    refine wpAny_For ?_ (fun _ => rfl)
    obtain ⟨te, hge⟩ := ints_at hie hi
    have hve2 : h₂.IsList e ve.toArray := F2.lst hve
    (repeat' (first | k_data | ((fail_if_success (with_reducible show wpAny _ _ (exec (Stmt.For _ _ _ _ _) _) _ _ _)); walk1; try dsimp only) | (with_reducible refine ite_no ?_) | (with_reducible refine ite_yes ?_)))
    rw [Int.toNat_natCast]
    obtain ⟨q0, q1⟩ := hin (es.getD i 0) (by rw [List.getD_eq_getElem?_getD, List.getElem?_eq_getElem hi]; exact List.getElem_mem hi)
    obtain ⟨vb, kb, eb, hib⟩ := id hb
    refine Tells.at (chain_tells (n := n + 8) up hup _ _ b q0 q1 (by exact (Nat.le_trans hul (by decide)))) (Rm.inside rfl rfl) F2 ⟨vb, kb, F2.keep _ _ eb, hib⟩ fun v h3 tk3 F3 st3 hv => ?_
    obtain ⟨r, rfl, hrn, vr, kr, er, hir⟩ := hv
    have N3 : News (hideAll H [195]) L h3 ((r, W.listOf vr.toArray kr) :: [(It, oI), (dk, ok), (L + 1 + 1, oc), (L + 1, o2), (195, tabObj ps)]) := News.join F2 N2 st3 hrn er
    have hrI : ∀ q ∈ [(It, oI), (dk, ok), (L + 1 + 1, oc), (L + 1, o2), (195, tabObj ps)], q.1 ≠ r := fun q hq z => by have := (N2 q hq).1; (first | exact (ne_get this (hrn) (z)).elim | exact (ne_get (hrn) this (z)).elim | (rw [z, hrn] at this; cases this))
    have hrdk : dk ≠ r := hrI _ (.tail _ (.head _))
    have hrIt : It ≠ r := hrI _ (.head _)
    have hItdk : dk ≠ It := hn _ (.head _)
    have hnc : L + 1 + 1 ≠ It := hn _ (.tail _ (.head _))
    clear F2 N2 hve2
    (repeat' (first | k_data | ((fail_if_success (with_reducible show wpAny _ _ (exec (Stmt.For _ _ _ _ _) _) _ _ _)); walk1; try dsimp only) | (with_reducible refine ite_no ?_) | (with_reducible refine ite_yes ?_)))
    refine forList (fun H' => H' = hideAll H [195]) (TrK w up es e ps L o2 dk i It oI r vr kr) (News.lst N3 (.head _)) (fun k H' h' m news _ F' N' J => ?_) rfl rfl rfl rfl rfl F3 N3 ?_ ?_ ?_
    · obtain ⟨ok, oc, kvs, _, e1, e2, rfl, _⟩ := J
      exact News.lst N' (.head _)
    · exact ⟨ok, oc, kvs, _, rfl, rfl, rfl, hoc, hok, by simpa using hT⟩
    · rintro k I2 H' oI2 v m₂ _ h4 tk4 Qu hv rfl F4 N4 cI2 hn4 ⟨ok, oc, kvs, t2, e1, e2, rfl, hoc, hok, hT⟩ hQu _ _
      have hk : k < (chain up (es.getD i 0)).length := by have := (List.getElem?_eq_some_iff.mp hv).1; rw [hir.length] at this; exact this
      obtain ⟨tp, hgp⟩ := ints_at hir hk
      obtain rfl : v = .int ((chain up (es.getD i 0)).getD k 0) tp := Option.some.inj (hv.symm.trans hgp)
      have hgq : (chain up (es.getD i 0))[k]? = some ((chain up (es.getD i 0)).getD k 0)  := getD_at hk
      generalize (chain up (es.getD i 0)).getD k 0 = pl at *
      replace F4 : Fr (hideAll H [195]) L h4 _ := Fr.norm F4 [("place", .int pl tp), ("i", .int i t2), ("entries", .ref e)] (all_cons (if_pos rfl) (all_cons (mset_ne (y := "i") (by decide) e2) (all_cons (mset_ne (y := "entries") (by decide) e1) all_nil)))
      replace N4 : News (hideAll H [195]) L h4 [(I2, oI2), (r, W.listOf vr.toArray kr), (It, oI), (dk, ok), (L + 1 + 1, oc), (L + 1, o2), (195, tabObj ps)] := N4
      clear F3 N3 hv hgp
      (repeat' (first | k_data | ((fail_if_success (with_reducible show wpAny _ _ (exec (Stmt.For _ _ _ _ _) _) _ _ _)); walk1; try dsimp only) | (with_reducible refine ite_no ?_) | (with_reducible refine ite_yes ?_)))
      have e4 := (N4 (dk, ok) (.tail _ (.tail _ (.tail _ (.head _)))))
      have kl : kvs.length ≤ 1000000 := by
        have := congrArg List.length hT.1
        rw [List.length_map] at this
        have l2 := dd_len ((opsTo up es i ++ ((chain up (es.getD i 0)).take k).map fun p => (p, (i : Int))).map (·.1))
        rw [List.length_map, List.length_append, List.length_map, List.length_take] at l2
        have hc : ∀ j, j < es.length → (chain up (es.getD j 0)).length ≤ 1000 := fun j hj => by
          have := chain_length (up := up) (p := es.getD j 0)
          obtain ⟨_, q1⟩ := hin (es.getD j 0) (by rw [List.getD_eq_getElem?_getD, List.getElem?_eq_getElem hj]; exact List.getElem_mem hj)
          omega
        have := opsTo_len up es i fun j hj => hc j (by exact (Nat.lt_of_lt_of_le hj (Nat.le_of_lt hi)))
        have := hc i hi
        omega
      refine wpAny_setItem_pairs (knd := intKind PG w) (intKind_is _ _ _ _) (Heap.dictOf_iff.mpr ⟨ok, e4.1, hok⟩) (fun h5 hd5 hs5 => ?_) (by rw [sizeLine_eq]; exact (Nat.le_trans kl (by decide)))
      obtain ⟨ok5, e5, hok5⟩ := Heap.dictOf_iff.mp hd5
      have F5 := F4.change hs5 e4.2.1 e4.2.2
      have N5 : News (hideAll H [195]) L h5 ([(I2, oI2), (r, W.listOf vr.toArray kr), (It, oI)] ++ (dk, ok5) :: [(L + 1 + 1, oc), (L + 1, o2), (195, tabObj ps)]) := News.setAt (own := [(I2, oI2), (r, W.listOf vr.toArray kr), (It, oI)]) N4 (fun q hq => ?_) (fun q hq => ?_) hs5 e5
      · clear F4 N4
        (repeat' (first | k_data | ((fail_if_success (with_reducible show wpAny _ _ (exec (Stmt.For _ _ _ _ _) _) _ _ _)); walk1; try dsimp only) | (with_reducible refine ite_no ?_) | (with_reducible refine ite_yes ?_)))
        refine hQu _ _ _ _ _ rfl F5 N5 ?_ ⟨ok5, oc, _, t2, rfl, rfl, rfl, hoc, hok5, ?_⟩
        · intro q hq
          change q ∈ [(r, W.listOf vr.toArray kr), (It, oI), (dk, ok5), (L + 1 + 1, oc), (L + 1, o2), (195, tabObj ps)] at hq
          revert q hq; exact all_cons (hn4 (r, W.listOf vr.toArray kr) (.head _)) (all_cons (hn4 (It, oI) (.tail _ (.head _))) (all_cons (hn4 (dk, ok) (.tail _ (.tail _ (.head _)))) (all_cons (hn4 (L + 1 + 1, oc) (.tail _ (.tail _ (.tail _ (.head _))))) (all_cons (hn4 (L + 1, o2) (.tail _ (.tail _ (.tail _ (.tail _ (.head _)))))) (all_cons (hn4 (195, tabObj ps) (.tail _ (.tail _ (.tail _ (.tail _ (.tail _ (.head _))))))) all_nil)))))
        · rw [List.take_add_one, hgq, List.map_append, ← List.append_assoc]
          exact hT.step pl i t2
      · revert q hq; exact all_cons ((hn4 (dk, ok) (.tail _ (.tail _ (.head _)))).symm) (all_cons (hrdk.symm) (all_cons (hItdk.symm) all_nil))
      · revert q hq; exact all_cons (Nat.ne_of_lt hlt.1) (all_cons (Nat.ne_of_lt hlt.2.1) (all_cons (Nat.ne_of_lt hlt.2.2) all_nil))
    · rintro h4 tk4 H' m4 _ rfl F4 N4 ⟨ok, oc, kvs, t2, e1, e2, rfl, hoc, hok, hT⟩
      have N5 : News (hideAll H [195]) L h4 ((It, oI) :: [(dk, ok), (L + 1 + 1, oc), (L + 1, o2), (195, tabObj ps)]) := fun q hq => N4 q (.tail _ hq)
      replace F4 : Fr (hideAll H [195]) L h4 _ := F4
      clear F3 N3
      (repeat' (first | k_data | ((fail_if_success (with_reducible show wpAny _ _ (exec (Stmt.For _ _ _ _ _) _) _ _ _)); walk1; try dsimp only) | (with_reducible refine ite_no ?_) | (with_reducible refine ite_yes ?_)))
      refine hQt _ _ _ _ _ rfl F4 N5 ?_ ⟨ok, oc, kvs, e1, rfl, hoc, hok, ?_⟩
      · intro q hq
        revert q hq; exact all_cons (hItdk) (all_cons (hnc) (all_cons (hn (L + 1, o2) (.tail _ (.tail _ (.head _)))) (all_cons (hn (195, tabObj ps) (.tail _ (.tail _ (.tail _ (.head _))))) all_nil)))
      · rw [List.take_of_length_le (Nat.le_of_eq hir.length.symm)] at hT
        rw [opsTo_succ]
        exact hT
  · rintro h4 tk4 H' m4 _ rfl F4 N4 ⟨ok, oc, kvs, e1, rfl, hoc, hok, hT⟩
    replace F4 : Fr (hideAll H [195]) L h4 _ := F4
    replace N4 : News (hideAll H [195]) L h4 [(dk, ok), (L + 1 + 1, oc), (L + 1, o2), (195, tabObj ps)] := N4
    clear F1 N1
    (repeat' (first | k_data | ((fail_if_success (with_reducible show wpAny _ _ (exec (Stmt.For _ _ _ _ _) _) _ _ _)); walk1; try dsimp only) | (with_reducible refine ite_no ?_) | (with_reducible refine ite_yes ?_)))
    have hkeys : ∀ q ∈ kvs.map (·.1), (0 : Int) ≤ q ∧ q < (up.length : Int) := fun q hq => by
      rw [hT.1, dd_mem] at hq
      obtain ⟨j, hj, hm⟩ := ops_mem.mp hq
      obtain ⟨a1, a2⟩ := hin (es.getD j 0) (by rw [List.getD_eq_getElem?_getD, List.getElem?_eq_getElem hj]; exact List.getElem_mem hj)
      have := chain_mem hup _ a1 a2 hm
      exact ⟨(Int.le_of_lt this.1), (Int.lt_of_le_of_lt this.2 a2)⟩
    have hnd : (kvs.map (·.1)).Nodup := hT.1 ▸ dd_nodup _
    have hfew : (kvs.map (·.1)).length ≤ up.length := few_ints up.length _ hnd hkeys
    refine list_keysI rfl F4 N4 (.head _) hok hlo (by have := hfew; rw [List.length_map] at this; omega) fun B c h5 tk5 us hus F5 N5 l5 => ?_
    clear F4 N4
    (repeat' (first | k_data | ((fail_if_success (with_reducible show wpAny _ _ (exec (Stmt.For _ _ _ _ _) _) _ _ _)); walk1; try dsimp only) | (with_reducible refine ite_no ?_) | (with_reducible refine ite_yes ?_)))
    have C9 : CodeHd (hideAll H [195]) 199 195 := codeHd_of_K X (by kernel_rfl)
    refine' kla_eval ?d0 ?_
    case d0 => exact rfl
    refine make_lam (pre := [(B, W.listOf us.toArray c), (dk, ok), (L + 1 + 1, oc), (L + 1, o2)]) (post := []) F5 N5 ?h1 ?h2 T C9 rfl hps (by exact rfl) fun f c' ctv h6 tk6 ex F6 N6 hcode lf lex => ?_
    case h2 => exact fun _ h => nomatch h
    case h1 =>
      have := l5 (195, tabObj ps) (.tail _ (.tail _ (.tail _ (.head _))))
      intro q hq
      revert q hq; exact all_cons (Nat.ne_of_gt this) (all_cons (Nat.ne_of_gt hlt.2.2) (all_cons (Nat.ne_of_gt (Nat.lt_succ_of_lt (Nat.lt_succ_of_lt n195))) (all_cons (Nat.ne_of_gt (Nat.lt_succ_of_lt n195)) all_nil)))
    generalize hXX : kla_obj _ _ _ _ _ _ _ c' ctv = XX at N6
    clear F5 N5
    (repeat' (first | k_data | ((fail_if_success (with_reducible show wpAny _ _ (exec (Stmt.For _ _ _ _ _) _) _ _ _)); walk1; try dsimp only) | (with_reducible refine ite_no ?_) | (with_reducible refine ite_yes ?_)))
    show wpAny _ _ (call (.builtin "sorted") [.ref B] [(Str.ofString "key", .ref f)]) _ _ _
    have hB6 : (B, W.listOf us.toArray c) ∈ (f, XX) :: (ex ++ ([(B, W.listOf us.toArray c), (dk, ok), (L + 1 + 1, oc), (L + 1, o2)] ++ [(195, tabObj #[rawInt lamPos.line, rawInt lamPos.col, .ref c'])])) := .tail _ (List.mem_append_right _ (.head _))
    have hdk6 : (dk, ok) ∈ (f, XX) :: (ex ++ ([(B, W.listOf us.toArray c), (dk, ok), (L + 1 + 1, oc), (L + 1, o2)] ++ [(195, tabObj #[rawInt lamPos.line, rawInt lamPos.col, .ref c'])])) := .tail _ (List.mem_append_right _ (.tail _ (.head _)))
    have hcL6 : (L + 1 + 1, oc) ∈ (f, XX) :: (ex ++ ([(B, W.listOf us.toArray c), (dk, ok), (L + 1 + 1, oc), (L + 1, o2)] ++ [(195, tabObj #[rawInt lamPos.line, rawInt lamPos.col, .ref c'])])) := .tail _ (List.mem_append_right _ (.tail _ (.tail _ (.head _))))
    have hcA6 : (L + 1, o2) ∈ (f, XX) :: (ex ++ ([(B, W.listOf us.toArray c), (dk, ok), (L + 1 + 1, oc), (L + 1, o2)] ++ [(195, tabObj #[rawInt lamPos.line, rawInt lamPos.col, .ref c'])])) := .tail _ (List.mem_append_right _ (.tail _ (.tail _ (.tail _ (.head _)))))
    have hx0 : ∀ a ∈ [dk, L + 1 + 1, L + 1], (hideAll H [195]).get? a = none := fun a ha => by
      revert a ha; exact all_cons ((N6 _ hdk6).2.2) (all_cons ((N6 _ hcL6).2.2) (all_cons ((N6 _ hcA6).2.2) all_nil))
    have hxL : ∀ a ∈ [dk, L + 1 + 1, L + 1], a ≠ L := fun a ha => by
      revert a ha; exact all_cons ((N6 _ hdk6).2.1) (all_cons ((N6 _ hcL6).2.1) (all_cons ((N6 _ hcA6).2.1) all_nil))
    refine sort_keyed (rank := treeRank up es) (k1 := lastIn (opsTo up es es.length)) (k2 := fun q => -((chain up q).length : Int)) F6 N6 (News.lst N6 hB6) hus (by omega) (fun D e1 lD => ?_) (fun x hx y hy => ?_) (fun x hx y hy z => ?_) hnd fun D h7 tk7 us' ss c2 hi' hp' hs' F7 N7 => ?_
    · intro pq tp h8 tk8 Q8 hpq F8 N8 hQ8
      refine wpAny_call (enterLam (n := n + 6) (H := hideAll h8 [dk, L + 1 + 1, L + 1]) [("place", .int pq tp)] (Std.hide (Std.in1 (Std.in1 (Rm.inside rfl rfl h8 _ F8))) ?hb ?hf) (fun _ _ e => of_hideAll _ e) (Nat.le_of_eq (hideAll_size _ _)) ((N8 _ (.tail _ (.head _))).1.trans (congrArg some hXX.symm)) (hcode _ _ F8 fun q hq => N8 q (.tail _ (.tail _ (List.mem_append_left _ hq)))) (by exact rfl) rfl rfl rfl rfl rfl ?_)
      case hb =>
        intro a ha
        cases z : base.get? a with
        | none => rfl
        | some ob => have := Rm.B.stays _ _ z; (first | exact (ne_get this (hx0 a ha) rfl).elim | exact (ne_get (hx0 a ha) this rfl).elim | (rw [hx0 a ha] at this; cases this))
      case hf =>
        intro out' ho' env' he' a ha hq
        have ho2 : some (_ :: out) = some out' := ho'
        cases ho2
        rcases List.mem_cons.mp he' with rfl | he'
        · exact hxL a ha (Option.some.inj hq).symm
        · obtain ⟨ob, _, _, e1, _⟩ := Rm.D a (List.mem_filterMap.mpr ⟨env', he', hq⟩)
          (first | exact (ne_get e1 (hx0 a ha) rfl).elim | exact (ne_get (hx0 a ha) e1 rfl).elim | (rw [hx0 a ha] at e1; cases e1))
      intro L8 dp8 un8 fr8 gd8 h9 tk9 Q9 I9 st9 hl9 F9 hQ9
      have k0 : (hideAll H [195]).StaysIn (hideAll h8 [dk, L + 1 + 1, L + 1]) := fun b ob e => hideAll_get _ (F8.keep b ob e) fun hm => by (first | exact (ne_get e (hx0 b hm) rfl).elim | exact (ne_get (hx0 b hm) e rfl).elim | (rw [hx0 b hm] at e; cases e))
      have X8 := X.keeps k0
      have T8 := T.keeps k0
      have N9 : News (hideAll h8 [dk, L + 1 + 1, L + 1]) L8 h9 [(dk, ok), (L + 1 + 1, oc), (L + 1, o2)] := fun q hq => by
        have hq' : q ∈ (f, XX) :: (ex ++ ([(B, W.listOf us.toArray c), (dk, ok), (L + 1 + 1, oc), (L + 1, o2)] ++ [(195, tabObj #[rawInt lamPos.line, rawInt lamPos.col, .ref c'])])) ∧ q.1 ∈ [dk, L + 1 + 1, L + 1] := by
          revert q hq; exact all_cons (⟨hdk6, .head _⟩) (all_cons (⟨hcL6, .tail _ (.head _)⟩) (all_cons (⟨hcA6, .tail _ (.tail _ (.head _))⟩) all_nil))
        have := N8 q (.tail _ hq'.1)
        exact ⟨st9 _ _ this.1, Nat.ne_of_lt (Nat.lt_of_lt_of_le (Heap.lt_size this.1) hl9), hideAll_none _ hq'.2⟩
      have e8a := (N8 _ (.tail _ hdk6)).1
      have e8b := (N8 _ (.tail _ hcL6)).1
      have e8c := (N8 _ (.tail _ hcA6)).1
      clear X T F6 N6 F8 N8
      replace F9 : Fr (hideAll h8 [dk, L + 1 + 1, L + 1]) L8 h9 _ := F9
      (repeat' (first | k_data | ((fail_if_success (with_reducible show wpAny _ _ (exec (Stmt.For _ _ _ _ _) _) _ _ _)); walk1; try dsimp only) | (with_reducible refine ite_no ?_) | (with_reducible refine ite_yes ?_)))
      have hd9 : h9.DictOf (intKind PG w) dk kvs := Heap.dictOf_iff.mpr ⟨ok, (N9 _ (.head _)).1, hok⟩
      obtain ⟨⟨pq', v9⟩, hm9, e9⟩ := List.mem_map.mp hpq
      obtain rfl : pq' = pq := e9
      obtain ⟨t9, rfl⟩ := hT.2 _ _ hm9
      obtain ⟨i9, hi9, e9⟩ := List.getElem_of_mem hm9
      have hv9 : valueAt kvs pq' = some (.int (lastIn (opsTo up es es.length) pq') t9) := valueAt_of_get (let ⟨_, _, _, _, _, _, _, _, hn⟩ := hd9; hn) (i := i9) (by rw [List.getElem?_eq_getElem hi9, e9])
      refine tail_any hd9.typeIs PySem.slot_dict_getitem.lookup ?_ (by with_unfolding_all rfl)
      refine wpAny_getItem_of (knd := intKind PG w) (intKind_is _ _ _ _) hd9.mapOf hv9 ?_
      (repeat' (first | k_data | ((fail_if_success (with_reducible show wpAny _ _ (exec (Stmt.For _ _ _ _ _) _) _ _ _)); walk1; try dsimp only) | (with_reducible refine ite_no ?_) | (with_reducible refine ite_yes ?_)))
      obtain ⟨p0, p1⟩ := hkeys pq' hpq
      obtain ⟨vb, kb, eb, hib⟩ := id hb
      refine Tells.at (chain_tells (n := n + 5) up hup pq' _ b p0 p1 (by exact (Nat.le_trans hul (by decide)))) I9 F9 ⟨vb, kb, F9.keep _ _ (k0 _ _ eb), hib⟩ fun v h10 tk10 F10 st10 hv => ?_
      obtain ⟨r, rfl, hrn, vr, kr, er, hir⟩ := hv
      have N10 := News.join F9 N9 st10 hrn er
      clear F9 N9
      (repeat' (first | k_data | ((fail_if_success (with_reducible show wpAny _ _ (exec (Stmt.For _ _ _ _ _) _) _ _ _)); walk1; try dsimp only) | (with_reducible refine ite_no ?_) | (with_reducible refine ite_yes ?_)))
      have hcl10 := chain_length (up := up) (p := pq')
      refine call_len_list (News.lst N10 (.head _)) (by rw [List.size_toArray, hir.length]; omega) ?_
      rw [List.size_toArray, hir.length]
      (repeat' (first | k_data | ((fail_if_success (with_reducible show wpAny _ _ (exec (Stmt.For _ _ _ _ _) _) _ _ _)); walk1; try dsimp only) | (with_reducible refine ite_no ?_) | (with_reducible refine ite_yes ?_)))
      rename Fr _ _ _ _ => F11
      rename News _ _ _ _ => N11
      refine hQ9 _ _ (hQ8 _ _ _ _ _ (fun b ob z => ?_) ?_ (N11 _ (.head _)).1)
      · by_cases hb : b ∈ [dk, L + 1 + 1, L + 1]
        · refine all_cons (P := fun b => h8.get? b = some ob → Heap.get? _ b = some ob) (fun z => ?_) (all_cons (fun z => ?_) (all_cons (fun z => ?_) all_nil)) b hb z
          · exact (N11 _ (.tail _ (.tail _ (.head _)))).1.trans (e8a.symm.trans z)
          · exact (N11 _ (.tail _ (.tail _ (.tail _ (.head _))))).1.trans (e8b.symm.trans z)
          · exact (N11 _ (.tail _ (.tail _ (.tail _ (.tail _ (.head _)))))).1.trans (e8c.symm.trans z)
        · exact F11.keep _ _ (hideAll_get _ z hb)
      · cases z : h8.get? h10.objs.size with
        | none => rfl
        | some ob => exact absurd (Heap.lt_size (st10 _ _ (st9 _ _ z))) (Nat.lt_irrefl _)
    · obtain ⟨x0, x1⟩ := hkeys x hx
      obtain ⟨y0, y1⟩ := hkeys y hy
      have := chain_length (up := up) (p := x)
      have := chain_length (up := up) (p := y)
      unfold treeRank
      omega
    · rw [hT.1, dd_mem] at hx hy
      obtain ⟨i, a1, a2, a3, a4⟩ := last_spec hx
      obtain ⟨j, b1, b2, b3, b4⟩ := last_spec hy
      obtain ⟨q0, q1⟩ := hin (es.getD i 0) (by rw [List.getD_eq_getElem?_getD, List.getElem?_eq_getElem a1]; exact List.getElem_mem a1)
      obtain ⟨r0, r1⟩ := hin (es.getD j 0) (by rw [List.getD_eq_getElem?_getD, List.getElem?_eq_getElem b1]; exact List.getElem_mem b1)
      obtain ⟨x0, x1⟩ := chain_mem hup _ q0 q1 a3
      obtain ⟨y0, y1⟩ := chain_mem hup _ r0 r1 b3
      have lx := chain_length (up := up) (p := x)
      have ly := chain_length (up := up) (p := y)
      unfold treeRank at z
      rw [a2, b2] at z
      have hij : i = j := by omega
      subst hij
      exact chain_same hup q0 q1 a3 b3 (by omega)
    · (repeat' (first | k_data | ((fail_if_success (with_reducible show wpAny _ _ (exec (Stmt.For _ _ _ _ _) _) _ _ _)); walk1; try dsimp only) | (with_reducible refine ite_no ?_) | (with_reducible refine ite_yes ?_)))
      have hm7 : (195, tabObj #[rawInt lamPos.line, rawInt lamPos.col, .ref c']) ∈ (D, W.listOf us'.toArray c2) :: (f, XX) :: (ex ++ ([(B, W.listOf us.toArray c), (dk, ok), (L + 1 + 1, oc), (L + 1, o2)] ++ [(195, tabObj #[rawInt lamPos.line, rawInt lamPos.col, .ref c'])])) := .tail _ (.tail _ (List.mem_append_right _ (.tail _ (.tail _ (.tail _ (.tail _ (.head _)))))))
      have e195 := (N7 _ hm7).1
      have hD := N7 _ (.head _)
      have nD : D ≠ 195 := fun z => by
        have := hD.1
        rw [z, e195] at this
        have hc : Value.none = Value.type "list" := congrArg Obj.cls (Option.some.inj this)
        cases hc
      have H0D : H.get? D = none := by
        cases z : H.get? D with
        | none => rfl
        | some ob => have := hideAll_get [195] z (fun h => nD (List.mem_singleton.mp h)); (first | exact (ne_get this (hD.2.2) rfl).elim | exact (ne_get (hD.2.2) this rfl).elim | (rw [hD.2.2] at this; cases this))
      obtain ⟨oL7, es7, ep7, eL7, r7⟩ := F7.ns
      have F7' : Fr (hideAll H [195]) L (hideAll h7 [195]) m4 := ⟨⟨oL7, es7, ep7, hideAll_get _ eL7 (fun h => Nat.ne_of_gt n195 (List.mem_singleton.mp h)), r7⟩, (fun b ob z => hideAll_get _ (F7.keep _ _ z) fun h => by (first | exact (ne_get z (hideAll_none _ (.head _)) (List.mem_singleton.mp h)).elim | exact (ne_get (hideAll_none _ (.head _)) z (List.mem_singleton.mp h)).elim | (rw [List.mem_singleton.mp h, hideAll_none _ (.head _)] at z; cases z))), F7.above⟩
      refine hQ _ _ (hR _ h7 _ _ (fun b ob b1 z => F7.keep _ _ (hideAll_get _ z fun h => b1 (List.mem_singleton.mp h))) e195 (.inr ⟨c', rfl, hcode _ _ F7' fun q hq => ?_⟩) ⟨D, us', ss, c2, rfl, H0D, hD.1, hi', hT.1 ▸ hp', hs'⟩)
      have hq7 := N7 q (.tail _ (.tail _ (List.mem_append_left _ hq)))
      have := (lex q hq).2 (195, tabObj ps) (.tail _ (.tail _ (.tail _ (.tail _ (.head _)))))
      exact ⟨hideAll_get _ hq7.1 (fun h => Nat.ne_of_gt this (List.mem_singleton.mp h)), hq7.2⟩
end
end Mine

end
section
open PySem PySem.W PyProof.Rows PySem.Spec PySem.Calls
namespace Mine
section
variable {w : World} {A : Around} {g : Array GenState} {d : Drawn} {o : OsState} {R : Result → Shared → Prop} {E : Value → Shared → Prop} {s : Shared}
/-- a set of strings -/
noncomputable def StrSet (w : World) (h : Heap) (S : Addr) (xs : List Str) : Prop := h.SetOf (strKind PG w) S (fun k => decide (k ∈ xs)) xs.length
theorem StrSet.moved {h h' : Heap} {S : Addr} {xs : List Str} (x : StrSet w h S xs) (k : ∀ ob, h.get? S = some ob → h'.get? S = some ob) : StrSet w h' S xs := by
  obtain ⟨ob, es, ep, t, ho, r⟩ := x
  exact ⟨ob, es, ep, t, k _ ho, r⟩
theorem st_loop {I S a : Addr} {vs : List Value} {xs : List Str} {h₀ : Heap} (hh : A.handled = none) (hs : StrsAre vs xs) (hDI : a ≠ I) (hdI : S ≠ I) (had : a ≠ S) (hsz : xs.length ≤ 1000)
    (k : ∀ h' tk', (∀ b ob, b ≠ I → b ≠ S → h₀.get? b = some ob → h'.get? b = some ob) → StrSet w h' S (dd xs) → R (.ok (.ret .none)) ⟨h', g, d, tk', o⟩) :
    ∀ (n j : Nat) (h : Heap) (tk : Nat) (acc : List Str), n + j = xs.length → acc.length ≤ j → (xs.drop j).foldl (fun acc x => if x ∈ acc then acc else acc ++ [x]) acc = dd xs → (h.IsListIter I a j ∧ h.IsList a vs.toArray) → StrSet w h S acc →
      (∀ b ob, b ≠ I → b ≠ S → h₀.get? b = some ob → h.get? b = some ob) →
      codeAny (model PG w) A (.builtin "set.update.loop" ⟨[.ref S, .ref I], []⟩) R ⟨h, g, d, tk, o⟩ := by
  have W := Walks.list (prog := PG) (w := w) (A := A.in1) hh I a hDI vs.toArray
  have hl : vs.length = xs.length := strs_len hs
  intro n
  induction n with
  | zero =>
    intro j h tk acc hj hac hdd st hd keep
    refine codeAny_builtin F.entry_set_update_loop ?_
    rw [Around.under_plainId F.plain_set_update_loop _]
    show wpAny _ A.in1 (pyNext (.ref I) >>= _) _ _ _
    refine wpAny_bind (W.done _ _ _ (by rw [List.size_toArray, hl, ← hj, Nat.zero_add]; exact st) fun h₂ tk₂ hk₂ => ?_)
    refine wpAny_pure ?_
    rw [List.drop_eq_nil_of_le (by exact (Nat.le_trans (Nat.le_of_eq (Eq.symm hj)) (Nat.le_of_eq (Nat.add_comm _ _)))), List.foldl_nil] at hdd
    subst hdd
    exact k _ _ (fun b ob b1 b2 e => hk₂ b ob (by simpa using b1) (keep b ob b1 b2 e)) (hd.moved fun ob e => hk₂ _ _ (by simpa using hdI) e)
  | succ n ih =>
    intro j h tk acc hj hac hdd st hd keep
    refine codeAny_builtin F.entry_set_update_loop ?_
    rw [Around.under_plainId F.plain_set_update_loop _]
    show wpAny _ A.in1 (pyNext (.ref I) >>= _) _ _ _
    refine wpAny_bind (W.item j _ _ _ (by rw [List.size_toArray]; omega) st fun v h₂ tk₂ hv st₂ hk₂ => ?_)
    obtain ⟨t, ht⟩ := strs_at hs (i := j) (by omega)
    obtain rfl : v = .str (xs.getD j Str.empty) t := by
      have hv' : vs[j]? = some v := by simpa using hv
      exact Option.some.inj (hv'.symm.trans ht)
    have hd₂ : StrSet w h₂ S acc := hd.moved fun ob e => hk₂ _ _ (by simpa using hdI) e
    show wpAny _ A.in1 (holding [_] (setAdd S _) >>= _) _ _ _
    refine wpAny_bind (wpAny_holding ?_)
    unfold setAdd
    refine wpAny_holding ?_
    refine wpAny_bind ((strKind PG w).pyHash (k := xs.getD j Str.empty) (strKind_is _ _ _ _) ?_)
    refine wpAny_setAddHashed_of (knd := strKind PG w) (strKind_is _ _ _ _) rfl hd₂ (by unfold scanBound; omega) fun h₃ hs₃ hd₃ => ?_
    have e1 : xs.drop j = xs.getD j Str.empty :: xs.drop (j + 1) := by
      rw [List.drop_eq_getElem_cons (by omega), List.getD_eq_getElem?_getD, List.getElem?_eq_getElem (by omega)]; rfl
    rw [e1, List.foldl_cons] at hdd
    generalize xs.getD j Str.empty = y at hd₃ hdd
    clear ht hv e1
    refine wpAny_pure ⟨plainId_quiet F.plain_set_update_loop _, ih (j + 1) h₃ _ _ (by omega) ?_ hdd (W.frame _ _ _ st₂ fun b hb ob e => hs₃.extBut b ob (fun q => ?_) e) (SetOf_congr hd₃ (fun k' => ?_) ?_) fun b ob b1 b2 e => hs₃.extBut b ob b2 (hk₂ b ob (by simpa using b1) (keep b ob b1 b2 e))⟩
    · split
      · exact (Nat.le_succ_of_le hac)
      · rw [List.length_append]; simp; exact hac
    · simp only [List.mem_cons, List.not_mem_nil, or_false] at hb
      rcases hb with rfl | rfl
      · exact hdI q.symm
      · exact had q
    · by_cases hm : y ∈ acc
      · rw [if_pos hm]
        by_cases e : k' = y
        · subst e; simp [hm]
        · simp [e]
      · rw [if_neg hm, Bool.eq_iff_iff]; simp
    · by_cases hm : y ∈ acc
      · rw [if_pos hm, if_pos (by simpa using hm)]
      · rw [if_neg hm, if_neg (by simpa using hm), List.length_append]; rfl
set_option maxHeartbeats 3200000 in
/-- set() of a list of strings -/
theorem call_set_strs {a : Addr} {vs : List Value} {xs : List Str} {h : Heap} {tk : Nat} {Q : Value → Shared → Prop} (hh : A.handled = none) (hl : h.IsList a vs.toArray) (hs : StrsAre vs xs) (hsz : xs.length ≤ 1000)
    (k : ∀ h' tk', h.StaysIn h' → StrSet w h' h.objs.size (dd xs) → Q (.ref h.objs.size) ⟨h', g, d, tk', o⟩) :
    wpAny (model PG w) A (call (.type "set") [.ref a]) Q E ⟨h, g, d, tk, o⟩ := by
  obtain ⟨c, tl, hmro⟩ := F.called_set.mro
  have hmade := F.called_set.made
  have hsub := F.called_set.sub
  refine wpAny_call (codeAny_of_tree ?_)
  show wpAny _ _ (callAny (.type "set") _) _ _ _
  refine wpAny_pure ⟨Code.quiet_builtin _ (by decide +kernel), codeAny_builtin F.entry_type_call ?_⟩
  rw [Around.under_plain (weight_type_call_type "set" [.ref a] []) rfl]
  have h1 := F.called_set.notType
  have h2 := F.called_set.canCreate
  have hct := F.typeCall_set_1 (.ref a)
  repeat (any_goals (first | assumption | wp_step))
  refine codeAny_mono (code_set_new_1 (.ref a) (E := E) (Q₁ := fun obj s₁ => ∃ led : Bool, obj = .ref h.objs.size ∧ s₁ = ⟨h.push { cls := .type "set", dict := none, data := .set #[] 0 (.fresh 0 0 led) }, g, d, tk, o⟩) fun led => ⟨led, rfl, rfl⟩) fun r s₁ hr => ?_
  match r, hr with
  | .error e, hr => exact hr
  | .ok (.ret obj), hr =>
    obtain ⟨led, rfl, rfl⟩ := hr
    have hS : (h.push { cls := .type "set", dict := none, data := .set #[] 0 (.fresh 0 0 led) }).get? h.objs.size = some { cls := .type "set", dict := none, data := .set #[] 0 (.fresh 0 0 led) } := Heap.get?_push_size _ rfl
    have hk0 : ∀ b ob, h.get? b = some ob → (h.push { cls := .type "set", dict := none, data := .set #[] 0 (.fresh 0 0 led) }).get? b = some ob := fun b ob e => Heap.get?_push_of_some _ e
    have hz0 : (h.push { cls := .type "set", dict := none, data := .set #[] 0 (.fresh 0 0 led) }).objs.size = h.objs.size + 1 := Heap.size_push ..
    generalize h.push { cls := .type "set", dict := none, data := .set #[] 0 (.fresh 0 0 led) } = G at hS hk0 hz0 ⊢
    have hT : Shared.TypeIs ⟨G, g, d, tk, o⟩ (.ref h.objs.size) "set" := ⟨_, hS, rfl⟩
    have hli := F.called_set.init.lookup
    have hbi := F.called_set.init.bind (.ref h.objs.size)
    repeat (any_goals (first | assumption | wp_step))
    refine codeAny_mono (codeAny_call_builtin (R := wants (fun r s₂ => r = .none ∧ ∃ h' tk', s₂ = ⟨h', g, d, tk', o⟩ ∧ h.StaysIn h' ∧ StrSet w h' h.objs.size (dd xs)) E) F.called_set.init.plain F.entry_set_init (check_set_init_1 hT ?_)) fun r₂ s₂ hr₂ => ?_
    · obtain ⟨ol, hol, hcl, nl, hdl⟩ := id hl
      obtain ⟨ocls, odict, odata, oslots⟩ := ol
      simp only at hcl hdl
      subst hcl; subst hdl
      have hol' := hk0 _ _ hol
      have hsls := F.sub_list_set
      have hslf := F.sub_list_frozenset
      have hne : (Value.type "list" == Value.type "dict") = false := by decide
      have hl1 : G.IsList a vs.toArray := ⟨_, hol', rfl, nl, rfl⟩
      unfold Builtin.«set.__init__» noKeywords Builtin.Frozenset.updateFrom
      generalize hPI : pyIter = PI
      wp_walk
      subst hPI
      refine wpAny_pyIter_list hl1 ?_
      refine wpAny_bind (wpAny_runValue ?_)
      have ltI : ∀ b ob, h.get? b = some ob → b ≠ G.objs.size := fun b ob e => by rw [hz0]; exact Nat.ne_of_lt (Nat.lt_succ_of_lt (Heap.lt_size e))
      have kp : ∀ b ob, G.get? b = some ob → (G.push { cls := .type "list_iterator", data := .fields #[.ref a, .int 0 0] }).get? b = some ob := fun b ob e => Heap.get?_push_of_some _ e
      have hh3 : A.in1.in1.handled = none := by simp [hh]
      refine st_loop (I := G.objs.size) (S := h.objs.size) (h₀ := h) hh3 hs (ltI _ _ hol) (by rw [hz0]; exact Nat.ne_of_lt (Nat.lt_succ_self _)) (Nat.ne_of_lt (Heap.lt_size hol)) hsz (fun h' tk' kk hd' => ?_) xs.length 0 _ _ [] (by exact rfl) (Nat.le_refl _) rfl ⟨⟨_, Heap.get?_push_size _ rfl, rfl, rfl⟩, hl1.at fun ob e => kp _ _ e⟩ (SetOf_congr ((setObjOf_fresh (knd := strKind PG w) led).setOf (kp _ _ hS) (by unfold scanBound; exact (by decide))) (fun _ => by simp) rfl) fun b ob b1 b2 e => kp _ _ (hk0 _ _ e)
      refine wpAny_pure ?_
      show wpAny _ _ (ret Value.none) _ _ _
      exact wpAny_pure ⟨rfl, h', tk', rfl, fun b ob e => kk b ob (ltI _ _ e) (Nat.ne_of_lt (Heap.lt_size e)) e, hd'⟩
    · match r₂, hr₂ with
      | .error e, hr₂ => exact hr₂
      | .ok (.ret r), hr₂ =>
        obtain ⟨rfl, h', tk', rfl, hk', hS'⟩ := hr₂
        repeat (any_goals (first | assumption | wp_step))
        exact k _ _ hk' hS'
      | .ok .next, hr₂ => exact hr₂.elim
      | .ok .brk, hr₂ => exact hr₂.elim
      | .ok .cont, hr₂ => exact hr₂.elim
  | .ok .next, hr => exact hr.elim
  | .ok .brk, hr => exact hr.elim
  | .ok .cont, hr => exact hr.elim
end
end Mine

end
section
open PySem PySem.W PyProof.Rows PySem.Spec PySem.Calls
namespace Mine
/-- a set's bound __contains__ -/
noncomputable abbrev bsObj (S : Addr) : Obj := { cls := .type "builtin_function_or_method", data := .fields #[.builtin "set.__contains__", .ref S] }
theorem sb_entry_ga : entryFor table "set.__getattribute__" = some Builtin.«object.__getattribute__» :=
  entryFor_alias (id' := "object.__getattribute__") (by kernel_rfl) (by decide +kernel) (by decide +kernel) (by kernel_rfl)
theorem sb_no_getattr : typeLookup (.type "set") "__getattr__" = pure none := by rw [typeLookup_type, builtinLookup_eq_fast]; kernel_rfl
theorem sb_get : typeLookup (.type "method_descriptor") "__get__" = pure (some (.builtin "method_descriptor.__get__")) := by rw [typeLookup_type, builtinLookup_eq_fast]; kernel_rfl
theorem sb_no_set : typeLookup (.type "method_descriptor") "__set__" = pure none := by rw [typeLookup_type, builtinLookup_eq_fast]; kernel_rfl
theorem sb_no_del : typeLookup (.type "method_descriptor") "__delete__" = pure none := by rw [typeLookup_type, builtinLookup_eq_fast]; kernel_rfl
theorem sb_entry_get : entryFor table "method_descriptor.__get__" = some Builtin.«method_descriptor.__get__» := entryFor_of_tree (by kernel_rfl)
theorem sb_told : Manifest.toldItsClass.contains "set.__contains__" = false := by decide +kernel
theorem sb_sub : isSubtype (.type "set") (.type "set") = pure true := isSubtype_of_subB (by decide +kernel)
theorem sb_plain_get : plainId "method_descriptor.__get__" = true := by decide +kernel
theorem sb_check_get (S : Addr) : checkBuiltinCall "method_descriptor.__get__" ⟨[.builtin "set.__contains__", .ref S, .type "set"], []⟩ = pure () := by kernel_rfl
section
variable {w : World} {A : Around} {E : Value → Shared → Prop} {s : Shared}
theorem special_md {name : Str} {r : Option Value} {Q : Option Value → Shared → Prop} (e : typeLookup (.type "method_descriptor") name = pure r) (h : Q r s) : wpAny (model PG w) A (specialOf (.builtin "set.__contains__") name) Q E s := by
  unfold specialOf
  refine wpAny_bind (wpAny_of_eq F.type_set_contains ?_)
  exact wpAny_of_eq e h
end
section
variable {w : World} {A : Around} {g : Array GenState} {d : Drawn} {o : OsState} {E : Value → Shared → Prop} {h : Heap} {tk : Nat} {S : Addr} {xs : List Str}
set_option maxHeartbeats 2000000 in
theorem getattr_contains {Q : Value → Shared → Prop} (hS : StrSet w h S xs)
    (k : ∀ B h' tk', h.StaysIn h' → h.get? B = none → h'.get? B = some (bsObj S) → Q (.ref B) ⟨h', g, d, tk', o⟩) :
    wpAny (model PG w) A (getAttr (.ref S) "__contains__" true) Q E ⟨h, g, d, tk, o⟩ := by
  have hT : ∀ tk', (⟨h, g, d, tk', o⟩ : Shared).TypeIs (.ref S) "set" := fun tk' => Heap.SetOf.typeIs (s := ⟨h, g, d, tk', o⟩) hS
  have f3 := F.slot_set_getattribute.lookup
  have f4 := F.slot_set_getattribute.bind (.ref S)
  have f5 := sb_no_getattr
  unfold getAttr
  refine wpAny_bind (wpAny_mkText ?_)
  unfold getAttrBy
  refine wpAny_holding ?_
  refine wpAny_bind (wpAny_typeOf (hT _) ?_)
  refine wpAny_bind (wpAny_of_eq f3 ?_)
  dsimp only
  refine not_if rfl ?_
  unfold getAttrByItsOwn
  refine wpAny_bind (wpAny_of_eq (a := none) rfl ?_)
  refine wpAny_bind (wpAny_attempt ?_)
  refine wpAny_holding ?_
  unfold callGetattribute
  refine not_if rfl ?_
  unfold boundAndCalled
  refine wpAny_bind (wpAny_of_eq f4 ?_)
  show wpAny _ _ (call (Value.builtin "set.__getattribute__") [.ref S, .str (Str.ofString "__contains__") tk]) _ _ _
  refine wpAny_call_entry F.slot_set_getattribute (hT _) sb_entry_ga ?_ (F.args_set_getattribute_2 _ _)
  unfold Builtin.«object.__getattribute__»
  refine wpAny_bind (wpAny_of_eq (a := (.ref S, [.str (Str.ofString "__contains__") tk])) rfl ?_)
  dsimp only
  refine wpAny_bind (wpAny_of_eq (a := Str.ofString "__contains__") rfl ?_)
  refine wpAny_bind (wpAny_typeOf (hT _) ?_)
  unfold Builtin.ObjectAttr.find
  refine wpAny_bind (wpAny_bind (wpAny_of_eq F.slot_set_contains.lookup ?_))
  refine wpAny_bind (special_md sb_get ?_)
  refine wpAny_bind (wpAny_bind ?_)
  unfold Builtin.ObjectAttr.takesStores
  refine wpAny_bind (special_md sb_no_set ?_)
  refine not_if rfl ?_
  refine wpAny_bind (special_md sb_no_del ?_)
  refine wpAny_pure ?_
  refine not_if rfl ?_
  refine wpAny_pure ?_
  dsimp only
  unfold Builtin.ObjectAttr.ownThenClass
  refine wpAny_bind ?_
  obtain ⟨ob, es, ep, t, ho, hex, hdat, hrest⟩ := id hS
  show wpAny _ _ (Builtin.ObjectAttr.ownDict S >>= _) _ _ _
  refine wpAny_bind ?_
  unfold Builtin.ObjectAttr.ownDict loadHead
  refine wpAny_bind (wpAny_loadPart ho ?_)
  obtain ⟨cls, dct, dat, sl⟩ := ob
  obtain ⟨hc, hdn, hsl⟩ := hex
  simp only at hc hdn hsl hdat
  subst hc hdn hsl hdat
  show wpAny _ _ (instanceDict S false) _ _ _
  unfold instanceDict
  refine wpAny_bind (wpAny_loadPart ho ?_)
  refine so_if rfl ?_
  refine wpAny_pure ?_
  refine wpAny_pure ?_
  dsimp only
  refine wpAny_bind (wpAny_of_eq (a := ()) rfl ?_)
  show wpAny _ _ (Builtin.ObjectAttr.byTheClass (some (.builtin "set.__contains__")) (some (.builtin "method_descriptor.__get__"))) _ _ _
  unfold Builtin.ObjectAttr.byTheClass
  refine wpAny_bind (wpAny_rule (wpAny_pure ?_))
  dsimp only
  unfold Builtin.ObjectAttr.bindTo
  refine wpAny_bind (wpAny_holding ?_)
  refine wpAny_call (codeAny_call_builtin sb_plain_get sb_entry_get (wpAny_of_eq (sb_check_get S) ?_))
  unfold Builtin.«method_descriptor.__get__»
  refine wpAny_bind (wpAny_of_eq (a := (.builtin "set.__contains__", some (.ref S), some (.type "set"))) rfl ?_)
  dsimp only
  refine not_if sb_told ?_
  wp_step
  wp_step
  wp_step
  refine wpAny_bind (wpAny_of_eq (a := (Str.ofString "__contains__", Value.type "set")) (by first | rfl | kernel_rfl) ?_)
  dsimp only
  refine wpAny_bind (wpAny_isInstance (hT _) sb_sub ?_)
  refine not_if rfl ?_
  refine wpAny_pure ?_
  unfold newFields
  refine wpAny_bind (wpAny_newObj_type ?_ (by size_fits))
  refine wpAny_pure ?_
  refine wpAny_pure ?_
  refine ⟨_, rfl, wpAny_pure ?_⟩
  exact k _ _ _ (fun b ob e => Heap.get?_push_of_some _ e) (Heap.get?_none_of_le (Nat.le_refl _)) (Heap.get?_push_size _ rfl)
noncomputable def sbSig : Manifest.Signature := ⟨.oneArg, "set.__contains__", "__contains__", .self, [⟨"object", .posOnly, true⟩]⟩
theorem sb_sig : Manifest.signature? "set.__contains__" = some sbSig := by kernel_rfl
theorem sb_kind : builtinKind "set.__contains__" = some .method := by kernel_rfl
theorem sb_var : Manifest.varargsMethods.contains "set.__contains__" = false := by decide +kernel
theorem sb_nomod : isSubtype (.type "set") (.type "module") = pure false := isSubtype_of_subB (by decide +kernel)
theorem sb_notype : isSubtype (.type "set") (.type "type") = pure false := isSubtype_of_subB (by decide +kernel)
theorem sb_bind (full : String) : Bind.check { sbSig with full := full } full "__contains__" 1 [] = pure () := by
  first
    | rfl
    | (simp [Bind.check, sbSig, Bind.checkCount, Bind.isPositional]; done)
theorem sb_check (S : Addr) (v : Value) : ∀ (s : Shared) (Q : Unit → Shared → Prop) (E : Value → Shared → Prop) (A : Around), StrSet w s.heap S xs → Q () s → wpAny (model PG w) A (checkBoundCall "set.__contains__" ⟨[.ref S, v], []⟩) Q E s := fun s Q E A hS hQ => by
  have hT : s.TypeIs (.ref S) "set" := Heap.SetOf.typeIs hS
  obtain ⟨ob, es, ep, t, ho, hex, hdat, hrest⟩ := hS
  unfold checkBoundCall
  rw [sb_sig, sb_kind]
  dsimp only
  refine not_if (by decide) ?_
  refine wpAny_bind (wpAny_isInstance hT sb_nomod ?_)
  rw [sb_var]
  refine not_if rfl ?_
  unfold isType
  refine wpAny_bind (wpAny_bind (wpAny_loadPart ho (wpAny_pure ?_)))
  rw [hdat]
  refine not_if rfl ?_
  refine wpAny_bind (wpAny_typeOf hT ?_)
  dsimp only
  generalize hf : (_ ++ _ : String) = full
  have hf2 : (full != "*") = true := by rw [← hf]; decide +kernel
  unfold Bind.checkArgs
  show wpAny _ _ (Bind.printed full true { sbSig with full := full } (some (.ref S)) >>= fun a => Bind.printed "__contains__" false { sbSig with full := full } (some (.ref S)) >>= fun b => (Bind.check { sbSig with full := full } a b 1 []).onRaise _) _ _ _
  refine wpAny_bind (printed_name hf2 ?_)
  refine wpAny_bind (printed_name (by decide) ?_)
  rw [sb_bind full]
  exact wpAny_pure hQ
/-- a set's bound __contains__ is asked for a string -/
theorem call_contains {B : Addr} {x : Str} {t : Tok} {Q : Value → Shared → Prop} (hB : h.get? B = some (bsObj S)) (hS : StrSet w h S xs)
    (k : ∀ tk', Q (.bool (decide (x ∈ xs))) ⟨h, g, d, tk', o⟩) :
    wpAny (model PG w) A (call (.ref B) [.str x t]) Q E ⟨h, g, d, tk, o⟩ := by
  have hT : ∀ tk', (⟨h, g, d, tk', o⟩ : Shared).TypeIs (.ref S) "set" := fun tk' => Heap.SetOf.typeIs (s := ⟨h, g, d, tk', o⟩) hS
  refine wpAny_call (codeAny_of_tree ?_)
  show wpAny _ A.in1 (callAny (.ref B) ⟨[.str x t], []⟩) _ _ _
  simp only [callAny]
  refine wpAny_bind (wpAny_load hB ?_)
  simp only [show (Value.type "builtin_function_or_method" == Value.type "method" || Value.type "builtin_function_or_method" == Value.type "builtin_function_or_method" || Value.type "builtin_function_or_method" == Value.type "method-wrapper") = true by decide, if_true]
  refine so_if (by decide) ?_
  refine wpAny_bind (sb_check S _ _ _ _ _ hS ?_)
  refine wpAny_bind (wpAny_pure (wpAny_pure ⟨Code.quiet_builtin _ (by decide +kernel), codeAny_builtin entry_set_contains ?_⟩))
  unfold Builtin.«frozenset.__contains__» Builtin.Frozenset.oneOther
  simp only [List.isEmpty_nil, bind_assoc]
  unfold Builtin.Frozenset.addrOf Builtin.Frozenset.withSetAsKey setContains
  refine wpAny_bind (wpAny_pure ?_)
  try dsimp only
  refine wpAny_bind (wpAny_pure ?_)
  try dsimp only
  refine wpAny_bind (wpAny_tryCatch ?_)
  refine wpAny_holding ?_
  refine wpAny_bind ((strKind PG w).pyHash (k := x) (strKind_is _ _ _ _) ?_)
  refine wpAny_bind (wpAny_setFind_of (s := ⟨h, g, d, tk + 1, o⟩) (knd := strKind PG w) (strKind_is _ _ _ _) rfl hS fun r hr => ?_)
  refine wpAny_pure ?_
  show wpAny _ _ (ret (Value.bool r.isSome)) _ _ _
  rw [hr]
  exact wpAny_pure (k _)
end
end Mine

end
section
open PySem PySem.W PyProof.Rows PySem.Spec PySem.Calls
namespace Mine
theorem entry_unchain : entryFor table "proto.unchain" = some Builtin.«proto.unchain» := entryFor_of_fast (by kernel_rfl)
/-- an exception's own fields: its trace, what was handled when it arose -/
noncomputable def ExcFull (cls : String) (T c : Value) (ob : Obj) : Prop := ob.cls = .type cls ∧ ∃ t, ob.data = .fields #[t, T, c, .none, .bool false, .none]
section
variable {w : World} {A : Around} {E : Value → Shared → Prop} {s : Shared} {R : Result → Shared → Prop}
theorem unchain_none {e a : Addr} {oh : Obj} {vs : Array Value} (hh : s.heap.get? a = some oh) (hd : oh.data = .fields vs) (h2 : vs[2]? = some .none) (h : R (.ok (.ret .none)) s) :
    codeAny (model PG w) A (.builtin "proto.unchain" ⟨[.ref e, .ref a, .ref a, .bool false], []⟩) R s := by
  refine codeAny_builtin entry_unchain ?_
  show wpAny _ _ (field (.ref a) 2 >>= _) _ _ _
  refine wpAny_bind (wpAny_field hh hd h2 ?_)
  show wpAny _ _ (ret .none >>= _) _ _ _
  exact wpAny_bind (wpAny_pure (wpAny_pure h))
/-- a new exception is thrown while another one is handled -/
theorem raise_under {α : Type} {e a : Addr} {oe oh : Obj} {vs us : Array Value} {Q : α → Shared → Prop} (hA : A.handled = some (.ref a)) (hne : a ≠ e) (hh : s.heap.get? a = some oh) (hd : oh.data = .fields vs) (h2 : vs[2]? = some .none)
    (he : s.heap.get? e = some oe) (hde : oe.data = .fields us) (hsz : 2 < us.size) (h : E (.ref e) { s with heap := s.heap.update e (Obj.mapFields (·.setIfInBounds 2 (.ref a))) }) :
    wpAny (model PG w) A (raiseNew (.ref e) : Sem α) Q E s := by
  unfold raiseNew
  refine wpAny_bind (wpAny_handled ?_)
  rw [hA]
  show wpAny _ _ (if (Value.ref a != Value.ref e) = true then _ else _) _ _ _
  rw [if_pos (by simpa using hne)]
  refine wpAny_bind (wpAny_holding (wpAny_runValue (unchain_none hh hd h2 ?_)))
  refine wpAny_bind ?_
  show wpAny _ _ (setField (.ref e) 2 (.ref a)) _ _ _
  refine wpAny_setField he hde hsz ?_
  exact wpAny_throw h
theorem raiseMade_under {α : Type} {cls msg : String} {a : Addr} {oh : Obj} {vs : Array Value} {Q : α → Shared → Prop} (hp : PlainExc cls) (hA : A.handled = some (.ref a)) (hh : s.heap.get? a = some oh) (hd : oh.data = .fields vs) (h2 : vs[2]? = some .none)
    (h : ∀ h' tk e ob, h'.get? e = some ob → ExcFull cls .none (.ref a) ob → s.heap.get? e = none → s.heap.StaysIn h' → E (.ref e) { s with heap := h', toks := tk }) (hm : (msg : Str).length ≤ sizeLine := by size_fits) :
    wpAny (model PG w) A (raiseErrorMade cls msg : Sem α) Q E s := by
  unfold raiseErrorMade
  refine wpAny_bind (wpAny_mkStr (wpAny_bind ?_) hm)
  unfold newExc newTuple
  refine wpAny_bind (wpAny_newObj_type ?_)
  refine wpAny_bind (m := firstArgMember _ _) (wpAny_of_eq (a := Value.none) (by simp only [firstArgMember, hp.first]; rfl) ?_)
  rw [hp.own]
  refine wpAny_newObj_type ?_
  have keep : ∀ b o, s.heap.get? b = some o → ((s.heap.push { cls := .type "tuple", data := .seq #[.str (Str.ofString msg) s.toks] }).push { cls := .type cls, data := .fields #[.ref s.heap.objs.size, .none, .none, .none, .bool false, .none] }).get? b = some o :=
    fun b o e => Heap.get?_push_of_some _ (Heap.get?_push_of_some _ e)
  have hlt : a < s.heap.objs.size := Heap.lt_size hh
  refine raise_under hA (e := (s.heap.push _).objs.size) (by rw [Heap.size_push]; exact Nat.ne_of_lt (Nat.lt_succ_of_lt hlt)) (keep _ _ hh) hd h2 (Heap.get?_push_size _ rfl) rfl (by simp) ?_
  refine h _ _ _ _ (Heap.get?_update_self _ (Heap.get?_push_size _ rfl) (Obj.isFreed_of_fields (Obj.data_mapFields rfl _))) ⟨rfl, .ref s.heap.objs.size, rfl⟩ (Heap.get?_none_of_le (by simp)) (fun b o e => ?_)
  · rw [Heap.get?_update_other _ _ (Nat.ne_of_gt (Nat.lt_of_lt_of_le (Heap.lt_size e) (by simp)))]
    exact keep _ _ e
theorem raiseWords_under {α : Type} {cls msg : String} {a : Addr} {oh : Obj} {vs : Array Value} {Q : α → Shared → Prop} (hp : PlainExc cls) (hA : A.handled = some (.ref a)) (hh : s.heap.get? a = some oh) (hd : oh.data = .fields vs) (h2 : vs[2]? = some .none)
    (h : ∀ h' tk e ob, h'.get? e = some ob → ExcFull cls .none (.ref a) ob → s.heap.get? e = none → s.heap.StaysIn h' → E (.ref e) { s with heap := h', toks := tk }) :
    wpAny (model PG w) A (raiseErrorWords cls msg : Sem α) Q E s := by
  unfold raiseErrorWords
  refine wpAny_bind (wpAny_mkText (wpAny_bind ?_))
  unfold newExc newTuple
  refine wpAny_bind (wpAny_newObj_type ?_)
  refine wpAny_bind (m := firstArgMember _ _) (wpAny_of_eq (a := Value.none) (by simp only [firstArgMember, hp.first]; rfl) ?_)
  rw [hp.own]
  refine wpAny_newObj_type ?_
  have hlt : a < s.heap.objs.size := Heap.lt_size hh
  refine raise_under hA (e := (s.heap.push _).objs.size) (by rw [Heap.size_push]; exact Nat.ne_of_lt (Nat.lt_succ_of_lt hlt)) (Heap.get?_push_of_some _ (Heap.get?_push_of_some _ hh)) hd h2 (Heap.get?_push_size _ rfl) rfl (by simp) ?_
  refine h _ _ _ _ (Heap.get?_update_self _ (Heap.get?_push_size _ rfl) (Obj.isFreed_of_fields (Obj.data_mapFields rfl _))) ⟨rfl, .ref s.heap.objs.size, rfl⟩ (Heap.get?_none_of_le (by simp)) (fun b o e => ?_)
  · rw [Heap.get?_update_other _ _ (Nat.ne_of_gt (Nat.lt_of_lt_of_le (Heap.lt_size e) (by simp)))]
    exact Heap.get?_push_of_some _ (Heap.get?_push_of_some _ e)
theorem fits_small {k : Int} (h0 : 0 ≤ k) (h : k < 1000000) : Builtin.List.listFitsIndex k = true := fitsIndex_both (by exact (Mine.neg63 h0)) (by exact (Mine.int63 h (by decide)))
theorem getItem_out_under {l a : Addr} {items : Array Value} {k : Nat} {kk : Int} {t : Tok} {oh : Obj} {vs : Array Value} {Q : Value → Shared → Prop} (hA : A.handled = some (.ref a)) (hh : s.heap.get? a = some oh) (hd : oh.data = .fields vs) (h2 : vs[2]? = some .none) (hl : s.heap.IsList l items) (hout : items.size ≤ k) (hfit : Builtin.List.listFitsIndex kk = true) (hk : Int.ofNat k = kk)
    (hE : ∀ h' tk e ob, h'.get? e = some ob → ExcFull "IndexError" .none (.ref a) ob → s.heap.get? e = none → s.heap.StaysIn h' → E (.ref e) { s with heap := h', toks := tk }) :
    wpAny (model PG w) A (getItem (.ref l) (.int kk t)) Q E s := by
  obtain ⟨o, ho, hc, ne, hdd⟩ := id hl
  unfold getItem
  try with_reducible refine wpAny_holding ?_
  first | refine wpAny_bind (wpAny_pure ?_) | skip
  refine wpAny_bind (wpAny_sequenceKey hl.typeIs (by decide) ?_)
  refine wpAny_bind (wpAny_callSpecial?_slot (name := Str.ofString "__getitem__") hl.typeIs slot_list_getitem
    (wpAny_call_entry slot_list_getitem hl.typeIs entry_list_getitem ?_ (args_list_getitem _ _)))
  show wpAny _ _ (Builtin.List.listSubscript? (.int kk t) >>= _) _ _ s
  refine wpAny_bind (wpAny_listSubscript_int hfit ?_)
  clear hfit
  subst hk
  show wpAny _ _ ((seqItemAt l k >>= fun r => pure (r.map (k, ·))) >>= _) _ _ s
  refine wpAny_bind (wpAny_bind (wpAny_seqItemAt ho hdd (wpAny_pure ?_)))
  rw [Array.getElem?_eq_none hout]
  have hA' : ∀ id args, (A.under (.builtin id args)).handled = some (.ref a) := fun _ _ => hA
  first
    | exact wpAny_bind (wpAny_rule (raiseWords_under plainExc_IndexError hA hh hd h2 hE))
    | exact wpAny_bind (wpAny_rule (raiseMade_under plainExc_IndexError hA hh hd h2 hE))
    | exact wpAny_bind (wpAny_rule (wpAny_bind (raiseWords_under plainExc_IndexError hA hh hd h2 hE)))
    | exact wpAny_bind (wpAny_bind (wpAny_rule (raiseWords_under plainExc_IndexError hA hh hd h2 hE)))
    | exact wpAny_rule (raiseWords_under plainExc_IndexError hA hh hd h2 hE)
    | exact wpAny_rule (raiseMade_under plainExc_IndexError hA hh hd h2 hE)
end
section
variable {w : World} {p : Program} {loose : List Str} {mean : ExcName → Option Value} {mg mb : Str → Option Value} {n : Nat} {A A₀ : Around} {base H₀ H h : Heap} {outer : List Env} {L e T : Addr} {m : Str → Option Value} {env : Env} {news : List (Addr × Obj)} {E : Value → Shared → Prop} {cls : String} {oe oT : Obj} {fl : Value}
/-- a new exception is noted in its frame; its fields are known -/
theorem first_note2 {s' : Shared} {a : Addr} {name : Str} {scope : Scope} {cd c : Value} {hd : Option Value} {Q : Unit → Shared → Prop}
    (R : Room w p loose mean mg mb n A₀ base outer H₀ H) (F : Fr H L h m) (N : News H L h news) (keeps : h.StaysIn s'.heap) {ob : Obj} (hnew : h.get? e = none) (he : s'.heap.get? e = some ob) (hob : ExcFull cls .none c ob)
    (k : ∀ h' H' T oe oT, Room w p loose mean mg mb n A₀ base outer H₀ H' → KtsTurn (outer.filterMap (·.frame)) H H' → Fr H' L h' m → News H' L h' ((e, oe) :: (T, oT) :: news) → ExcFull cls (.ref T) c oe → TraceObj (rawInt L) oT → T ≠ e → (∀ q ∈ news, q.1 ≠ T ∧ q.1 ≠ e) → Q () { s' with heap := h' })
    (hk : scope.kind = .function := by rfl) : wpAny (model PG w) ((A₀.deeper (envOf name scope L a cd)).mark hd) (noteFrame (.ref e) (envOf name scope L a cd)) Q E s' := by
  obtain ⟨hocls, t, hod⟩ := hob
  have K := R.B
  have K' := K.push (name := name) (a := a) (cd := cd) F hk
  have hfr : ((A₀.deeper (envOf name scope L a cd)).mark hd).frames = some (envOf name scope L a cd :: outer) := by
    have := Around.frames_deeper (env := envOf name scope L a cd) K.stack
    cases hd <;> exact this
  have hin : ∀ env ∈ (envOf name scope L a cd :: outer), ∀ b, env.frame = some b → b ∈ (envOf name scope L a cd :: outer).filterMap (·.frame) := fun env he b hb => List.mem_filterMap.mpr ⟨env, he, hb⟩
  have hBG : ∀ b o, h.get? b = some o → b ∉ (envOf name scope L a cd :: outer).filterMap (·.frame) → (hideAll h ((envOf name scope L a cd :: outer).filterMap (·.frame))).get? b = some o := fun b o q nm => hideAll_get _ q nm
  have hup : h.UpToSlots s'.heap := Heap.UpToSlots.of_keeps keeps
  have hz : (envOf name scope L a cd).frame = some L := rfl
  have hl : s'.heap.FunFrames (hideAll h ((envOf name scope L a cd :: outer).filterMap (·.frame))) (envOf name scope L a cd :: outer) := (funFrames_hide K'.frames hin).of_keeps fun b o hb _ => ⟨o, keeps b o hb, rfl⟩
  have hene : e ∉ (envOf name scope L a cd :: outer).filterMap (·.frame) := fun hm => by
    obtain ⟨_, o, ho, hnf⟩ := hl.mem hm
    (first | exact (ne_get ho (he) rfl).elim | exact (ne_get (he) ho rfl).elim | (rw [he] at ho; cases ho)); exact hnf _ hod
  unfold noteFrame
  simp only [hz]
  refine wpAny_bind (wpAny_field (x := Value.none) he hod rfl ?_)
  rw [if_neg (show ¬ ((Value.none != Value.none) = true) by decide)]
  refine wpAny_bind (wpAny_frameOf_fun hfr hl rfl fun h₁ hs₁ => ?_)
  refine wpAny_bind (wpAny_entryPlaceOf fun pl hpl => ?_)
  unfold EntryCells.newEntry newFields
  refine wpAny_bind (wpAny_newObj_type ?_ (hpl.sizeOk5 _ _ _ _ _))
  have he₁ : h₁.get? e = some ob := (hs₁.2.1 e hene).trans he
  generalize hO : ({ cls := .type "traceback", dict := none, data := .fields ([Value.none, .ref L, .none, rawInt L, .none] ++ (if pl.isEmpty then List.replicate 6 Value.none else pl)).toArray } : Obj) = O
  have hOt : TraceObj (rawInt L) O := ⟨_, by rw [← hO], rfl⟩
  have hOf : O.isFreed = false := by rw [← hO]; rfl
  refine wpAny_setField (Heap.get?_push_of_some _ he₁) hod (by simp) ?_
  have hTe : h₁.objs.size ≠ e := Nat.ne_of_gt (Heap.lt_size he₁)
  have he₃ := Heap.get?_update_self (Obj.mapFields (·.setIfInBounds 1 (Value.ref h₁.objs.size))) (Heap.get?_push_of_some O he₁) (Obj.isFreed_of_fields (Obj.data_mapFields hod _))
  have hT₃ := (Heap.get?_update_other (h₁.push O) (Obj.mapFields (·.setIfInBounds 1 (Value.ref h₁.objs.size))) (Ne.symm hTe)).trans (Heap.get?_push_size h₁ hOf)
  have keep : ∀ b o, b ≠ e → h₁.get? b = some o → ((h₁.push O).update e (Obj.mapFields (·.setIfInBounds 1 (Value.ref h₁.objs.size)))).get? b = some o := fun b o hbe hb => by
    rw [Heap.get?_update_other _ _ (Ne.symm hbe)]
    exact Heap.get?_push_of_some _ hb
  have hTn : h.get? h₁.objs.size = none := by
    cases q : h.get? h₁.objs.size with
    | none => rfl
    | some ob =>
      by_cases hm : h₁.objs.size ∈ (envOf name scope L a cd :: outer).filterMap (·.frame)
      · obtain ⟨_, o, ho, hnf⟩ := hl.mem hm
        obtain ⟨sl, hs⟩ := hs₁.2.2 _ _ ho
        exact absurd (Heap.lt_size hs) (Nat.lt_irrefl _)
      · exact absurd (Heap.lt_size ((hs₁.2.1 _ hm).trans (keeps _ _ q))) (Nat.lt_irrefl _)
  generalize (h₁.push O).update e (Obj.mapFields (·.setIfInBounds 1 (Value.ref h₁.objs.size))) = h₄ at he₃ hT₃ keep
  have k1 : (hideAll h ((envOf name scope L a cd :: outer).filterMap (·.frame))).StaysIn h₄ := fun b o q => by
    have q' := of_hideAll _ q
    refine keep b o (fun z => by (first | exact (ne_get q' (hnew) (z)).elim | exact (ne_get (hnew) q' (z)).elim | (rw [z, hnew] at q'; cases q'))) ((hs₁.2.1 b fun hm => ?_).trans (keeps _ _ q'))
    (first | exact (ne_get q (hideAll_none _ hm) rfl).elim | exact (ne_get (hideAll_none _ hm) q rfl).elim | (rw [hideAll_none _ hm] at q; cases q))
  have hsm : h.UpToSlots h₄ := fun b o q nf => by
    obtain ⟨sl, e1⟩ := hs₁.2.2 b o (keeps _ _ q)
    exact ⟨sl, keep b _ (fun z => by (first | exact (ne_get q (hnew) (z)).elim | exact (ne_get (hnew) q (z)).elim | (rw [z, hnew] at q; cases q))) e1⟩
  obtain ⟨H', T', F', K₄⟩ := kts_ground K F hBG k1 hsm
  have hfull : ExcFull cls (.ref h₁.objs.size) c (Obj.mapFields (·.setIfInBounds 1 (.ref h₁.objs.size)) ob) := ⟨(Obj.cls_mapFields _ _).trans hocls, t, by rw [Obj.data_mapFields hod]; rfl⟩
  have hnone : ∀ b, h.get? b = none → H'.get? b = none := fun b q => T'.none_ _ (by
    exact get_gone (F.keep _) q)
  have hL : ∀ b, h.get? b = none → b ≠ L := fun b q z => by
    obtain ⟨oL, _, _, eL, _⟩ := F.ns
    (first | exact (ne_get eL (q) (z).symm).elim | exact (ne_get (q) eL (z).symm).elim | (rw [← z, q] at eL; cases eL))
  have hnf : ∀ b o, h.get? b = some o → b ≠ e := fun b o q z => by (first | exact (ne_get q (hnew) (z)).elim | exact (ne_get (hnew) q (z)).elim | (rw [z, hnew] at q; cases q))
  have N' : News H' L h₄ news := fun q hq => ⟨keep _ _ (hnf _ _ (N q hq).1) ((hs₁.2.1 _ fun hm => by
    rcases kts_mem hm with z | z
    · exact (N q hq).2.1 z
    · obtain ⟨_, o, ho, _⟩ := K.frames.mem z
      (first | exact (ne_get ho ((N q hq).2.2) rfl).elim | exact (ne_get ((N q hq).2.2) ho rfl).elim | (rw [(N q hq).2.2] at ho; cases ho))).trans (keeps _ _ (N q hq).1)), (N q hq).2.1, T'.none_ _ (N q hq).2.2⟩
  refine k h₄ H' h₁.objs.size _ O (R.turn T') T' F' (fun q hq => ?_) hfull hOt hTe fun q hq => ⟨fun z => ?_, hnf _ _ (N q hq).1⟩
  · rcases List.mem_cons.mp hq with rfl | hq
    · exact ⟨he₃, hL _ hnew, hnone _ hnew⟩
    · rcases List.mem_cons.mp hq with rfl | hq
      · exact ⟨hT₃, hL _ hTn, hnone _ hTn⟩
      · exact N' q hq
  · have := (N q hq).1
    (first | exact (ne_get this (hTn) (z)).elim | exact (ne_get (hTn) this (z)).elim | (rw [z, hTn] at this; cases this))
theorem ExcFull.exc {c : Value} (x : ExcFull cls (.ref T) c oe) : ExcObj cls T oe := by
  obtain ⟨h1, t, h2⟩ := x
  exact ⟨h1, _, h2, rfl⟩
theorem newExc_full {h h' : Heap} {e : Addr} (x : Heap.NewExc h h' e cls) : ∃ ob, h'.get? e = some ob ∧ ExcFull cls .none .none ob := by
  obtain ⟨ob, t, h1, h2, h3⟩ := x.there
  exact ⟨ob, h1, h2, t, h3⟩
end
end Mine

end
section
open PySem PyProof.Rows
namespace Mine
noncomputable def SLt (a b : Str) : Prop := a.cps.toList < b.cps.toList
theorem Str.ext' {a b : Str} (h : a.cps.toList = b.cps.toList) : a = b := by
  cases a; cases b; simp only at h; rw [Array.toList_inj.mp h]
theorem SLt.irrefl (a : Str) : ¬ SLt a a := List.lt_irrefl _
theorem SLt.trans {a b c : Str} (h : SLt a b) (k : SLt b c) : SLt a c := List.lt_trans h k
theorem SLt.tri {a b : Str} (h : ¬ SLt a b) (k : ¬ SLt b a) : a = b := Str.ext' (List.le_antisymm (List.not_lt.mp k) (List.not_lt.mp h))
noncomputable def SAsc (xs : List Str) : Prop := xs.Pairwise SLt
/-- the strings of xs that are not in ys -/
noncomputable def sub (xs ys : List Str) : List Str := xs.filter fun z => !decide (z ∈ ys)
structure SInv (es as : List Str) (i j : Nat) (ml ul : List Str) : Prop where
  hi : i ≤ es.length
  hj : j ≤ as.length
  m : ml = sub (es.take i) as
  u : ul = sub (as.take j) es
  l : ∀ u ∈ es.take i, ∀ v ∈ as.drop j, SLt u v
  r : ∀ v ∈ as.take j, ∀ u ∈ es.drop i, SLt v u
theorem SInv.swap {es as : List Str} {i j : Nat} {ml ul : List Str} (h : SInv es as i j ml ul) : SInv as es j i ul ml := ⟨h.hj, h.hi, h.u, h.m, h.r, h.l⟩
theorem sub_append (xs ys zs : List Str) : sub (xs ++ ys) zs = sub xs zs ++ sub ys zs := List.filter_append ..
theorem getD_str {xs : List Str} {i : Nat} (h : i < xs.length) : xs.getD i Str.empty = xs[i] := by rw [List.getD_eq_getElem?_getD, List.getElem?_eq_getElem h]; rfl
theorem take_one {xs : List Str} {i : Nat} (h : i < xs.length) : xs.take (i + 1) = xs.take i ++ [xs.getD i Str.empty] := by rw [List.take_add_one, List.getElem?_eq_getElem h, getD_str h]; rfl
theorem drop_one {xs : List Str} {i : Nat} (h : i < xs.length) : xs.drop i = xs.getD i Str.empty :: xs.drop (i + 1) := by rw [List.drop_eq_getElem_cons h, getD_str h]
theorem asc_head {xs : List Str} (h : SAsc xs) {i : Nat} (hi : i < xs.length) : ∀ y ∈ xs.drop (i + 1), SLt (xs.getD i Str.empty) y := by
  have := List.Pairwise.drop (i := i) h
  rw [drop_one hi] at this
  exact (List.pairwise_cons.mp this).1
theorem asc_ne {xs : List Str} (h : SAsc xs) {i : Nat} (hi : i + 1 < xs.length) : xs.getD (i + 1) Str.empty ≠ xs.getD i Str.empty := fun e => by
  have := asc_head h (i := i) (by omega) (xs.getD (i + 1) Str.empty) (by rw [drop_one hi]; exact .head _)
  rw [e] at this
  exact SLt.irrefl _ this
theorem SInv.zero (es as : List Str) : SInv es as 0 0 [] [] := ⟨Nat.zero_le _, Nat.zero_le _, rfl, rfl, (fun _ h => nomatch h), (fun _ h => nomatch h)⟩
theorem SInv.less {es as : List Str} (ha : SAsc as) {i j : Nat} {ml ul : List Str} (h : SInv es as i j ml ul) (hi : i < es.length) (hj : j < as.length) (hlt : SLt (es.getD i Str.empty) (as.getD j Str.empty)) : SInv es as (i + 1) j (ml ++ [es.getD i Str.empty]) ul := by
  have lt : ∀ v ∈ as.drop j, SLt (es.getD i Str.empty) v := fun v hv => by
    rw [drop_one hj] at hv
    rcases List.mem_cons.mp hv with rfl | hv
    · exact hlt
    · exact hlt.trans (asc_head ha hj v hv)
  have hn : es.getD i Str.empty ∉ as := fun hm => by
    rw [← List.take_append_drop j as] at hm
    rcases List.mem_append.mp hm with hm | hm
    · exact SLt.irrefl _ (h.r _ hm _ (by rw [drop_one hi]; exact .head _))
    · exact SLt.irrefl _ (lt _ hm)
  refine ⟨hi, h.hj, ?_, h.u, fun u hu v hv => ?_, fun v hv u hu => h.r v hv u (by rw [drop_one hi]; exact .tail _ hu)⟩
  · rw [take_one hi, sub_append, ← h.m]
    congr 1
    unfold sub
    rw [List.filter_cons_of_pos (by simpa using hn)]
    rfl
  · rw [take_one hi] at hu
    rcases List.mem_append.mp hu with hu | hu
    · exact h.l u hu v hv
    · rw [List.mem_singleton.mp hu]; exact lt v hv
theorem SInv.same {es as : List Str} (he : SAsc es) (ha : SAsc as) {i j : Nat} {ml ul : List Str} (h : SInv es as i j ml ul) (hi : i < es.length) (hj : j < as.length) (e : es.getD i Str.empty = as.getD j Str.empty) : SInv es as (i + 1) (j + 1) ml ul := by
  have m1 : es.getD i Str.empty ∈ as := by rw [e, getD_str hj]; exact List.getElem_mem hj
  have m2 : as.getD j Str.empty ∈ es := by rw [← e, getD_str hi]; exact List.getElem_mem hi
  refine ⟨hi, hj, ?_, ?_, fun u hu v hv => ?_, fun v hv u hu => ?_⟩
  · rw [take_one hi, sub_append, ← h.m]
    unfold sub
    rw [List.filter_cons_of_neg (by simpa using m1), List.filter_nil, List.append_nil]
  · rw [take_one hj, sub_append, ← h.u]
    unfold sub
    rw [List.filter_cons_of_neg (by simpa using m2), List.filter_nil, List.append_nil]
  · rw [take_one hi] at hu
    rcases List.mem_append.mp hu with hu | hu
    · exact h.l u hu v (by rw [drop_one hj]; exact .tail _ hv)
    · rw [List.mem_singleton.mp hu, e]; exact asc_head ha hj v hv
  · rw [take_one hj] at hv
    rcases List.mem_append.mp hv with hv | hv
    · exact h.r v hv u (by rw [drop_one hi]; exact .tail _ hu)
    · rw [List.mem_singleton.mp hv, ← e]; exact asc_head he hi u hu
theorem SInv.done {es as : List Str} {i j : Nat} {ml ul : List Str} (h : SInv es as i j ml ul) (he : i = es.length ∨ j = as.length) : ml ++ es.drop i = sub es as := by
  conv => rhs; rw [← List.take_append_drop i es, sub_append, ← h.m]
  congr 1
  rcases he with rfl | rfl
  · rw [List.drop_length]; rfl
  · refine (List.filter_eq_self.mpr fun x hx => ?_).symm
    have : x ∉ as := fun hm => SLt.irrefl _ (h.r x (by rw [List.take_length]; exact hm) x hx)
    simpa using this
end Mine

end
section
open PySem PySem.W PyProof.Rows PySem.Spec PySem.Calls
namespace Mine
section
variable {w : World} {p : Program} {loose : List Str} {mean : ExcName → Option Value} {mg mb : Str → Option Value} {n : Nat} {A A₀ : Around} {base H₀ H h : Heap} {outer : List Env} {L e T : Addr} {m : Str → Option Value} {env : Env} {news : List (Addr × Obj)} {E : Value → Shared → Prop} {cls : String} {oe oT : Obj} {fl : Value}
theorem strs_drop_ {vs : List Value} {xs : List Str} (h : StrsAre vs xs) : ∀ k : Nat, StrsAre (vs.drop k) (xs.drop k) := by
  induction h with
  | nil => intro k; rw [List.drop_nil, List.drop_nil]; exact .nil
  | cons y t h ih =>
    intro k
    cases k with
    | zero => exact .cons y t h
    | succ k => exact ih k
theorem while_once {test : Expr} {body : List Stmt} {pos : Pos} {s : Shared} {Q : Flow → Shared → Prop}
    (h : wpAny (model PG w) A (isTrue test env (eval test env)) (fun b s₂ => b = false ∧ Q .next s₂) (notedBy (model PG w) A env (cameBackBy (model PG w) A env E)) s) :
    wpAny (model PG w) A (exec (.While test body [] pos) env) Q E s := by
  refine whileI (fun _ s' => s' = s) (k₀ := 0) rfl ?_
  rintro k s₁ Qt rfl _ _ _
  refine wpAny_mono h (fun b s₂ hb => ?_) fun _ _ x => x
  rw [hb.1, if_neg (by decide)]
  exact hb.2
theorem while_raised {s' : Shared} {a : Addr} {name : Str} {scope : Scope} {cd c : Value} {hd : Option Value} {ob : Obj}
    (R : Room w p loose mean mg mb n A₀ base outer H₀ H) (F : Fr H L h m) (N : News H L h news) (keeps : h.StaysIn s'.heap) (hnew : h.get? e = none) (he : s'.heap.get? e = some ob) (hob : ExcFull cls .none c ob)
    (k : ∀ h' H' T oe oT, Room w p loose mean mg mb n A₀ base outer H₀ H' → KtsTurn (outer.filterMap (·.frame)) H H' → Fr H' L h' m → News H' L h' ((e, oe) :: (T, oT) :: news) → ExcFull cls (.ref T) c oe → TraceObj (rawInt L) oT → T ≠ e → (∀ q ∈ news, q.1 ≠ T ∧ q.1 ≠ e) → E (.ref e) { s' with heap := h' })
    (hk : scope.kind = .function := by rfl) : notedBy (model PG w) ((A₀.deeper (envOf name scope L a cd)).mark hd) (envOf name scope L a cd) (cameBackBy (model PG w) ((A₀.deeper (envOf name scope L a cd)).mark hd) (envOf name scope L a cd) E) (.ref e) s' := by
  refine first_note2 R F N keeps hnew he hob (fun h' H' T oe oT R' T' F' N' hoe hoT hne hn => ?_) hk
  exact came_back (s := { s' with heap := h' }) F' N' hoe.exc hoT hne hn rfl fun h2 oT2 F2 N2 ht2 => k h2 H' T oe oT2 R' T' F2 N2 hoe ht2 hne hn
theorem pass_on {α : Type} {what : String} {s : Shared} {Q : α → Shared → Prop} (F : Fr H L s.heap m) (N : News H L s.heap ((e, oe) :: (T, oT) :: news)) (he : ExcObj cls T oe) (hT : TraceObj fl oT) (hne : T ≠ e) (hn : ∀ q ∈ news, q.1 ≠ T ∧ q.1 ≠ e) (hf : env.frame = some L)
    (k : ∀ h' oT', Fr H L h' m → News H L h' ((e, oe) :: (T, oT') :: news) → TraceObj (rawInt L) oT' → E (.ref e) { s with heap := h' }) : wpAny (model PG w) A (PySem.passOn what (.ref e) env : Sem α) Q E s := by
  have he' := he
  obtain ⟨hc, vs, hd, h1⟩ := he'
  unfold PySem.passOn
  refine wpAny_bind (wpAny_field (N _ (.head _)).1 hd h1 ?_)
  rw [if_neg (show ¬ ((Value.ref T == Value.none) = true) from by simp), hf]
  first
    | exact wpAny_bind (wpAny_pure (wpAny_bind (set_flight F N he hT hne hn fun h' oT' F' N' t => wpAny_throw (k h' oT' F' N' t))))
    | exact wpAny_bind (set_flight F N he hT hne hn fun h' oT' F' N' t => wpAny_throw (k h' oT' F' N' t))
theorem sl_item {value slice : Expr} {a : Addr} {l : List Value} {ys : List Str} {k : Nat} {kk : Int} {u : Tok} {s : Shared} {Q : Value → Shared → Prop} (hA : A.handled = none) (hl : s.heap.IsList a l.toArray) (hi : StrsAre l ys) (_hz : ys.length ≤ 1000) (hk : kk = Int.ofNat k) (hkz : k ≤ 1001)
    (h0 : ys.length ≤ k → ∀ h' tk e, Heap.NewExc s.heap h' e "IndexError" → E (.ref e) { s with heap := h', toks := tk }) (h1 : k < ys.length → ∀ t', Q (.str (ys.getD k Str.empty) t') s)
    (hs : subscripted slice false (.ref a) (.int kk u) = operate [.ref a, .int kk u] (getItem (.ref a) (.int kk u)) := by with_unfolding_all rfl) (hg : ∀ r, letTemporaryGo value (.ref a) r = pure () := by intro _; with_unfolding_all rfl) :
    wpAny (model PG w) A (subscriptTail value slice (.ref a) (.int kk u)) Q E s := by
  have hkk : kk = (k : Int) := hk
  by_cases h : k < ys.length
  · refine item_strsA hl hi (by exact (Int.le_trans (Int.natCast_nonneg _) (Int.le_of_eq (Eq.symm hkk)))) (by exact (Int.lt_of_le_of_lt (Int.le_of_eq hkk) (Int.ofNat_lt.mpr h))) (by exact (Int.lt_of_le_of_lt (Int.le_of_eq hkk) (Mine.cast63 hkz (by decide)))) (fun t' => ?_) hs hg
    rw [show kk.toNat = k by omega]
    exact h1 h t'
  · exact subscriptTail_builtin hl.typeIs slot_list_getitem.lookup (wpAny_getItem_list_out hA hl (by rw [List.size_toArray, strs_len hi]; omega) (by exact (Mine.neg63 (Int.le_trans (Int.natCast_nonneg _) (Int.le_of_eq (Eq.symm hkk))))) (by exact (Int.lt_of_le_of_lt (Int.le_of_eq hkk) (Mine.cast63 hkz (by decide)))) (h0 (by exact (Nat.le_of_not_lt h)))) hs hg
theorem sl_item_under {value slice : Expr} {a b : Addr} {l : List Value} {ys : List Str} {k : Nat} {kk : Int} {u : Tok} {s : Shared} {Q : Value → Shared → Prop} {ob : Obj} {Tb : Value} (hA : A.handled = some (.ref b)) (hb : s.heap.get? b = some ob) (hob : ExcFull cls Tb .none ob) (hl : s.heap.IsList a l.toArray) (hi : StrsAre l ys) (_hz : ys.length ≤ 1000) (hk : kk = Int.ofNat k) (hkz : k ≤ 1001)
    (h0 : ys.length ≤ k → ∀ h' tk e oe, h'.get? e = some oe → ExcFull "IndexError" .none (.ref b) oe → s.heap.get? e = none → s.heap.StaysIn h' → E (.ref e) { s with heap := h', toks := tk }) (h1 : k < ys.length → ∀ t', Q (.str (ys.getD k Str.empty) t') s)
    (hs : subscripted slice false (.ref a) (.int kk u) = operate [.ref a, .int kk u] (getItem (.ref a) (.int kk u)) := by with_unfolding_all rfl) (hg : ∀ r, letTemporaryGo value (.ref a) r = pure () := by intro _; with_unfolding_all rfl) :
    wpAny (model PG w) A (subscriptTail value slice (.ref a) (.int kk u)) Q E s := by
  have hkk : kk = (k : Int) := hk
  obtain ⟨_, t, hd⟩ := hob
  by_cases h : k < ys.length
  · refine item_strsA hl hi (by exact (Int.le_trans (Int.natCast_nonneg _) (Int.le_of_eq (Eq.symm hkk)))) (by exact (Int.lt_of_le_of_lt (Int.le_of_eq hkk) (Int.ofNat_lt.mpr h))) (by exact (Int.lt_of_le_of_lt (Int.le_of_eq hkk) (Mine.cast63 hkz (by decide)))) (fun t' => ?_) hs hg
    rw [show kk.toNat = k by omega]
    exact h1 h t'
  · exact subscriptTail_builtin hl.typeIs slot_list_getitem.lookup (getItem_out_under hA hb hd rfl hl (by rw [List.size_toArray, strs_len hi]; exact (Nat.le_of_not_lt h)) (fits_small (by exact (Int.le_trans (Int.natCast_nonneg _) (Int.le_of_eq (Eq.symm hkk)))) (by omega)) hk.symm (h0 (by exact (Nat.le_of_not_lt h)))) hs hg
end
section
variable {w : World} {p : Program} {loose : List Str} {mean : ExcName → Option Value} {mg mb : Str → Option Value}
/-- what the frame and the two new lists hold -/
inductive SM (x y : Addr) (i j : Nat) (mi un : Addr) (m : Str → Option Value) : Prop
  | mk (ti tj : Tok) (e1 : m "expected" = some (.ref x)) (e2 : m "actual" = some (.ref y)) (e3 : m "missing" = some (.ref mi)) (e4 : m "unexpected" = some (.ref un)) (e5 : m "i" = some (.int (Int.ofNat i) ti)) (e6 : m "j" = some (.int (Int.ofNat j) tj))
inductive SC (es as : List Str) (i j : Nat) (mi un : Addr) (core : List (Addr × Obj)) : Prop
  | mk (ml ul : List Str) (vm vu : List Value) (km ku : Nat) (e : core = [(un, W.listOf (List.toArray vu) ku), (mi, W.listOf (List.toArray vm) km)]) (s1 : StrsAre vm ml) (s2 : StrsAre vu ul) (n1 : mi ≠ un) (inv : SInv es as i j ml ul)
inductive SJ (x y : Addr) (es as : List Str) (k : Nat) (h : Heap) (m : Str → Option Value) (news : List (Addr × Obj)) (h' : Heap) : Prop
  | mk (i j : Nat) (mi un : Addr) (e : k = (es.length - i) + (as.length - j)) (M : SM x y i j mi un m) (C : SC es as i j mi un news)
section
variable (w : World) (p : Program) (loose : List Str) (mean : ExcName → Option Value) (mg mb : Str → Option Value) (n : Nat) (A₀ : Around) (base H₀ : Heap) (outer : List Env) (L x y : Addr) (es as : List Str) (g : Array GenState) (d : Drawn) (o : OsState)
/-- an exception on its way to the handler -/
inductive CaughtA (v : Value) (s : Shared) : Prop
  | mk (e : Addr) (h h' : Heap) (tk : Nat) (H : Heap) (m : Str → Option Value) (core : List (Addr × Obj)) (i j : Nat) (mi un : Addr) (ev : v = .ref e) (es_ : s = ⟨h', g, d, tk, o⟩) (R : Room w p loose mean mg mb n A₀ base outer H₀ H) (M : SM x y i j mi un m) (C : SC es as i j mi un core) (hend : i = es.length ∨ j = as.length) (F : Fr H L h m) (N : News H L h core) (hx : Heap.NewExc h h' e "IndexError")
inductive CaughtB (v : Value) (s : Shared) : Prop
  | mk (e : Addr) (h : Heap) (tk : Nat) (H : Heap) (m : Str → Option Value) (core : List (Addr × Obj)) (i j : Nat) (mi un T : Addr) (oe oT : Obj) (ev : v = .ref e) (es_ : s = ⟨h, g, d, tk, o⟩) (R : Room w p loose mean mg mb n A₀ base outer H₀ H) (M : SM x y i j mi un m) (C : SC es as i j mi un core) (hend : i = es.length ∨ j = as.length) (F : Fr H L h m) (N : News H L h ((e, oe) :: (T, oT) :: core)) (hoe : ExcObj "IndexError" T oe) (hoT : TraceObj (rawInt L) oT) (hne : T ≠ e) (hn : ∀ q ∈ core, q.1 ≠ T ∧ q.1 ≠ e)
noncomputable def Caught (v : Value) (s : Shared) : Prop := CaughtA w p loose mean mg mb n A₀ base H₀ outer L x y es as g d o v s ∨ CaughtB w p loose mean mg mb n A₀ base H₀ outer L x y es as g d o v s
end
section
variable {n : Nat} {A₀ : Around} {base H₀ : Heap} {outer : List Env} {L x y : Addr} {es as : List Str} {g : Array GenState} {d : Drawn} {o : OsState} {E : Value → Shared → Prop}
theorem note_caught {v : Value} {s : Shared} {name : Str} {scope : Scope} {a : Addr} {cd : Value} {Q : Unit → Shared → Prop} (hc : Caught w p loose mean mg mb n A₀ base H₀ outer L x y es as g d o v s) (hk : scope.kind = .function)
    (k : ∀ e h tk H m core i j mi un T oe oT, v = .ref e → Room w p loose mean mg mb n A₀ base outer H₀ H → SM x y i j mi un m → SC es as i j mi un core → (i = es.length ∨ j = as.length) → Fr H L h m → News H L h ((e, oe) :: (T, oT) :: core) → ExcObj "IndexError" T oe → TraceObj (rawInt L) oT → T ≠ e → (∀ q ∈ core, q.1 ≠ T ∧ q.1 ≠ e) → Q () ⟨h, g, d, tk, o⟩) :
    wpAny (model PG w) (A₀.deeper (envOf name scope L a cd)) (noteFrame v (envOf name scope L a cd)) Q E s := by
  rcases hc with ⟨e, h, h', tk, H, m, core, i, j, mi, un, rfl, rfl, R, M, C, hend, F, N, hx⟩ | ⟨e, h, tk, H, m, core, i, j, mi, un, T, oe, oT, rfl, rfl, R, M, C, hend, F, N, hoe, hoT, hne, hn⟩
  · exact first_note R F N hx.of (fun h2 H2 T oe oT R2 _ F2 N2 he2 ht2 hne2 hn2 => k e h2 tk H2 m core i j mi un T oe oT rfl R2 M C hend F2 N2 he2 ht2 hne2 hn2) hk
  · exact note_again N hoe hoT rfl (k e h tk H m core i j mi un T oe oT rfl R M C hend F N hoe hoT hne hn)
end
/-- a call behind which all stands but the frames' slots; the generators are as they were -/
noncomputable def TellsK (w : World) (p : Program) (loose : List Str) (mean : ExcName → Option Value) (mg mb : Str → Option Value) (n : Nat) (f : Addr) (args : List Value) (pre : Heap → Prop) (post : Heap → Heap → Value → Prop) : Prop :=
  ∀ (A : Around) (out : List Env) (base : Heap) (s : Shared) (R : Result → Shared → Prop), A.frames = some out → Std w p loose mean mg mb n A base s.heap → pre s.heap →
    (∀ v h' tk, KeepX (out.filterMap (·.frame)) s.heap h' → post s.heap h' v → R (.ok (.ret v)) ⟨h', s.gens, s.drawn, tk, s.os⟩) →
    codeAny (model PG w) A (.call (.ref f) ⟨args, []⟩) R s
theorem TellsK.at {n : Nat} {A : Around} {base H₀ H h : Heap} {outer : List Env} {L : Addr} {m : Str → Option Value} {env : Env} {news : List (Addr × Obj)} {f : Addr} {args : List Value} {pre : Heap → Prop} {post : Heap → Heap → Value → Prop} {g : Array GenState} {d : Drawn} {tk : Nat} {o : OsState} {Q E : Value → Shared → Prop} (C : TellsK w p loose mean mg mb n f args pre post)
    (R : Room w p loose mean mg mb n A base outer H₀ H) (F : Fr H L h m) (N : News H L h news) (hp : pre h)
    (k : ∀ v h' tk' H', Room w p loose mean mg mb n A base outer H₀ H' → KtsTurn (outer.filterMap (·.frame)) H H' → Fr H' L h' m → News H' L h' news → KeepX (L :: outer.filterMap (·.frame)) h h' → post h h' v → Q v ⟨h', g, d, tk', o⟩)
    (hf : env.frame = some L := by rfl) (hk : env.scope.kind = .function := by rfl) :
    wpAny (model PG w) (A.deeper env) (call (.ref f) args) Q E ⟨h, g, d, tk, o⟩ := by
  refine wpAny_call (C _ (env :: outer) _ _ _ (Around.frames_deeper R.B.stack) (R.std.push F hf hk) hp fun v h' tk' K hq => ?_)
  rw [frames_cons hf] at K
  obtain ⟨H', R', T, F', N'⟩ := R.after F N K
  exact k v h' tk' H' R' T F' N' K hq
set_option maxHeartbeats 2000000 in
theorem sdiff_tells {n : Nat} {es as : List Str} {x y : Addr} (l1 : es.length ≤ 100) (l2 : as.length ≤ 100) (a1 : SAsc es) (a2 : SAsc as) :
    TellsK w p loose mean mg mb (n + 4) 28 [.ref x, .ref y] (fun h => AtStrs h x es ∧ AtStrs h y as)
      (fun h h' v => ∃ r mi un vm vu, v = .ref r ∧ h'.get? r = some { cls := .type "tuple", data := .seq #[.ref mi, .ref un] } ∧ h'.PlainList mi (List.toArray vm) ∧ h'.PlainList un (List.toArray vu) ∧ StrsAre vm (sub es as) ∧ StrsAre vu (sub as es) ∧ h.get? r = none ∧ h.get? mi = none ∧ h.get? un = none) := by
  rintro A outer base ⟨H, g, d, tk, o⟩ R hout S ⟨hx, hy⟩ hR
  have X := S.X
  have T := S.T
  obtain ⟨vs, ⟨kx, hx⟩, hvs⟩ := hx
  obtain ⟨us, ⟨ky, hy⟩, hus⟩ := hy
  refine' enterX [("expected", .ref x), ("actual", .ref y)] hout S (fun _ _ e => e) (Nat.le_refl _) ?k6 ?k7 ?kb ?kl ?c1 ?c2 ?c3 ?c4 ?_
  ((case k6 => k_is); (case k7 => k_is); (case kb => exact rfl); (case kl => exact rfl); (case c1 => exact rfl); (case c2 => exact rfl); (case c3 => exact rfl); (case c4 => exact rfl))
  intro L dp uni gd h₁ tk₁ Q Rm K1 hLs F hQ _
  have N : News H L h₁ [] := News.nil
  clear S
  (repeat' (first | k_data | ((fail_if_success (with_reducible show wpAny _ _ (exec (Stmt.While _ _ _ _) _) _ _ _)); (fail_if_success (with_reducible show wpAny _ _ (exec (Stmt.For _ _ _ _ _) _) _ _ _)); (fail_if_success (with_reducible show wpAny _ _ (exec (Stmt.Try _ _ _ _ _) _) _ _ _)); (fail_if_success (with_reducible show wpAny _ _ (subscriptTail _ _ _ _) _ _ _)); walk1; try dsimp only) | (with_reducible refine ite_no ?_) | (with_reducible refine ite_yes ?_)))
  rename Fr _ _ _ _ => F1
  rename News _ _ _ _ => N1
  rename _ < _ => hmu
  refine whileX (SJ x y es as) ⟨H, _, _, Rm, F1, N1, 0, 0, _, _, rfl, ⟨_, _, rfl, rfl, rfl, rfl, rfl, rfl⟩, [], [], [], [], _, _, rfl, .nil, .nil, Nat.ne_of_lt hmu, SInv.zero es as⟩ ?_
  rintro k H' m₁ _ h₂ tk₂ Qt R1 F2 N2 ⟨i, j, mi, un, rfl, ⟨ti, tj, e1, e2, e3, e4, e5, e6⟩, ml, ul, vm, vu, km, ku, rfl, s1, s2, n1, inv⟩ hT _ hB
  replace F2 := Fr.norm F2 [("expected", .ref x), ("actual", .ref y), ("missing", .ref mi), ("unexpected", .ref un), ("i", .int (Int.ofNat i) ti), ("j", .int (Int.ofNat j) tj)] (by refine all_cons ?_ (all_cons ?_ (all_cons ?_ (all_cons ?_ (all_cons ?_ (all_cons ?_ all_nil))))) <;> assumption)
  clear X T F1 N1
  have X := R1.X
  have T := R1.T
  have hz1 := inv.hi
  have hz2 := inv.hj
  (repeat' (first | k_data | ((fail_if_success (with_reducible show wpAny _ _ (exec (Stmt.While _ _ _ _) _) _ _ _)); (fail_if_success (with_reducible show wpAny _ _ (exec (Stmt.For _ _ _ _ _) _) _ _ _)); (fail_if_success (with_reducible show wpAny _ _ (exec (Stmt.Try _ _ _ _ _) _) _ _ _)); (fail_if_success (with_reducible show wpAny _ _ (subscriptTail _ _ _ _) _ _ _)); walk1; try dsimp only) | (with_reducible refine ite_no ?_) | (with_reducible refine ite_yes ?_)))
  refine wpAny_Try_except ?_
  refine wpAny_mono (Q := fun f s' => f = .next ∧ Qt .next s') (E := Caught w p loose mean mg mb (n + 3) ⟨none, dp, some outer, gd, uni⟩ base H outer L x y es as g d o) ?body ?q ?e
  case q =>
    rintro f s' ⟨rfl, hq⟩
    exact wpAny_execs_nil (wpAny_execs_nil hq)
  case e =>
    intro v s' hc
    refine note_caught hc rfl fun e h3 tk3 H3 m3 core i j mi un Tb oe oT ev R3 M3 C3 hend F3 N3 hoe hoT hne hn => ?_
    subst ev
    refine set_flight F3 N3 hoe hoT hne hn fun h4 oT4 F4 N4 ht4 => ?_
    refine wpAny_handleBy_builtin (X := "IndexError") (T := "IndexError") (b := true) PySem.F.isExc_IndexError PySem.F.notTuple_IndexError ?hs ?_
    case hs => kts_sub
    refine name_B F4 R3.X (topRead_of R3.T) ?ex PyProof.Rows.Boot.«IndexError» ?hn ⟨rfl, ⟨oe, (N4 _ (.head _)).1, hoe.1⟩, ?_⟩ rfl rfl (by decide)
    case ex => k_is
    case hn => decide
    rw [if_pos rfl]
    refine set_flight F4 N4 hoe ht4 hne hn fun h5 oT5 F5 N5 ht5 => ?_
    refine wpAny_passesOwnAt .never ?_
    obtain ⟨ti, tj, e1, e2, e3, e4, e5, e6⟩ := M3
    obtain ⟨ml, ul, vm, vu, km, ku, rfl, s1, s2, n1, inv⟩ := C3
    replace F5 := Fr.norm F5 [("expected", .ref x), ("actual", .ref y), ("missing", .ref mi), ("unexpected", .ref un), ("i", .int (Int.ofNat i) ti), ("j", .int (Int.ofNat j) tj)] (by refine all_cons ?_ (all_cons ?_ (all_cons ?_ (all_cons ?_ (all_cons ?_ (all_cons ?_ all_nil))))) <;> assumption)
    have hxB : H3.IsList x vs.toArray := (KeepX.of_turn R3.T0).list ⟨_, hx, rfl, _, rfl⟩
    have hyB : H3.IsList y us.toArray := (KeepX.of_turn R3.T0).list ⟨_, hy, rfl, _, rfl⟩
    clear X T F3 N3 F4 N4
    have X := R3.X
    have T := R3.T
    (repeat' (first | k_data | ((fail_if_success (with_reducible show wpAny _ _ (exec (Stmt.While _ _ _ _) _) _ _ _)); (fail_if_success (with_reducible show wpAny _ _ (exec (Stmt.For _ _ _ _ _) _) _ _ _)); (fail_if_success (with_reducible show wpAny _ _ (exec (Stmt.Try _ _ _ _ _) _) _ _ _)); (fail_if_success (with_reducible show wpAny _ _ (subscriptTail _ _ _ _) _ _ _)); walk1; try dsimp only) | (with_reducible refine ite_no ?_) | (with_reducible refine ite_yes ?_)))
    rename Fr _ _ _ _ => F6
    rename News _ _ _ _ => N6
    have ap6 := apart_new (D := mi) 1 N6 (.tail _ (.tail _ (.tail _ (.head _))))
    have hm : ∀ q ∈ [(un, W.listOf (List.toArray vu) ku), (mi, W.listOf (List.toArray vm) km)], q.1 ≠ Tb ∧ q.1 ≠ e := hn
    refine slice_list (s := ⟨_, g, d, _, o⟩) F6 N6 (F6.lst hxB) (IsPart.int (Int.ofNat i) ti) .none (fun h7 F7 N7 => ?_)
    rw [show (Int.ofNat i) = ((i : Nat) : Int) from rfl, slicePick_from' vs.toArray i] at N7
    clear F6 N6
    (repeat' (first | k_data | ((fail_if_success (with_reducible show wpAny _ _ (exec (Stmt.While _ _ _ _) _) _ _ _)); (fail_if_success (with_reducible show wpAny _ _ (exec (Stmt.For _ _ _ _ _) _) _ _ _)); (fail_if_success (with_reducible show wpAny _ _ (exec (Stmt.Try _ _ _ _ _) _) _ _ _)); (fail_if_success (with_reducible show wpAny _ _ (subscriptTail _ _ _ _) _ _ _)); walk1; try dsimp only) | (with_reducible refine ite_no ?_) | (with_reducible refine ite_yes ?_)))
    rename Fr _ _ _ _ => F8
    rename News _ _ _ _ => N8
    have lm := strs_len s1
    have lu := strs_len s2
    have hml : vm.length ≤ es.length := by rw [lm, inv.m]; exact Nat.le_trans (List.length_filter_le _ _) (by rw [List.length_take]; exact (Nat.min_le_right _ _))
    have hul : vu.length ≤ as.length := by rw [lu, inv.u]; exact Nat.le_trans (List.length_filter_le _ _) (by rw [List.length_take]; exact (Nat.min_le_right _ _))
    have lv := strs_len hvs
    have lw := strs_len hus
    refine extend_in (own := [(_, _), (e, oe), (Tb, oT5), (un, W.listOf (List.toArray vu) ku)]) (rest := []) F8 N8 (fun q hq => ?_) (fun _ h => nomatch h) (N8 _ (.head _)).1 (fun h9 k9 F9 N9 => ?_) (by rw [sizeLine_eq, List.size_toArray, List.length_drop]; simp only [List.length_drop]; omega)
    · revert q hq; refine all_cons ?_ (all_cons ?_ (all_cons ?_ (all_cons ?_ all_nil)))
      · exact ap6
      · exact (hm _ (.tail _ (.head _))).2.symm
      · exact (hm _ (.tail _ (.head _))).1.symm
      · exact n1.symm
    clear F8 N8
    (repeat' (first | k_data | ((fail_if_success (with_reducible show wpAny _ _ (exec (Stmt.While _ _ _ _) _) _ _ _)); (fail_if_success (with_reducible show wpAny _ _ (exec (Stmt.For _ _ _ _ _) _) _ _ _)); (fail_if_success (with_reducible show wpAny _ _ (exec (Stmt.Try _ _ _ _ _) _) _ _ _)); (fail_if_success (with_reducible show wpAny _ _ (subscriptTail _ _ _ _) _ _ _)); walk1; try dsimp only) | (with_reducible refine ite_no ?_) | (with_reducible refine ite_yes ?_)))
    have N9' : News H3 L h9 [(un, W.listOf (List.toArray vu) ku), (mi, W.listOf (List.toArray (vm ++ vs.drop i)) k9)] := fun q hq => by
      revert q hq; refine all_cons ?_ (all_cons ?_ all_nil)
      · exact N9 _ (.tail _ (.tail _ (.tail _ (.head _))))
      · exact N9 _ (.tail _ (.tail _ (.tail _ (.tail _ (.head _)))))
    have ap9 := apart_new (D := un) 1 N9' (.head _)
    refine slice_list (s := ⟨_, g, d, _, o⟩) F9 N9' (F9.lst hyB) (IsPart.int (Int.ofNat j) tj) .none (fun h10 F10 N10 => ?_)
    rw [show (Int.ofNat j) = ((j : Nat) : Int) from rfl, slicePick_from' us.toArray j] at N10
    clear F9 N9 N9'
    (repeat' (first | k_data | ((fail_if_success (with_reducible show wpAny _ _ (exec (Stmt.While _ _ _ _) _) _ _ _)); (fail_if_success (with_reducible show wpAny _ _ (exec (Stmt.For _ _ _ _ _) _) _ _ _)); (fail_if_success (with_reducible show wpAny _ _ (exec (Stmt.Try _ _ _ _ _) _) _ _ _)); (fail_if_success (with_reducible show wpAny _ _ (subscriptTail _ _ _ _) _ _ _)); walk1; try dsimp only) | (with_reducible refine ite_no ?_) | (with_reducible refine ite_yes ?_)))
    rename Fr _ _ _ _ => F11
    rename News _ _ _ _ => N11
    refine extend_in (own := [(_, _)]) (rest := [(mi, W.listOf (List.toArray (vm ++ vs.drop i)) k9)]) F11 N11 (fun q hq => ?_) (fun q hq => ?_) (N11 _ (.head _)).1 (fun h12 k12 F12 N12 => ?_) (by rw [sizeLine_eq, List.size_toArray]; simp only [List.length_drop]; omega)
    · rw [List.mem_singleton.mp hq]; exact ap9
    · rw [List.mem_singleton.mp hq]; exact n1
    clear F11 N11
    (repeat' (first | k_data | ((fail_if_success (with_reducible show wpAny _ _ (exec (Stmt.While _ _ _ _) _) _ _ _)); (fail_if_success (with_reducible show wpAny _ _ (exec (Stmt.For _ _ _ _ _) _) _ _ _)); (fail_if_success (with_reducible show wpAny _ _ (exec (Stmt.Try _ _ _ _ _) _) _ _ _)); (fail_if_success (with_reducible show wpAny _ _ (subscriptTail _ _ _ _) _ _ _)); walk1; try dsimp only) | (with_reducible refine ite_no ?_) | (with_reducible refine ite_yes ?_)))
    refine hB _ ?_
    dsimp only
    have N13 : News H3 L h12 [(un, W.listOf (List.toArray (vu ++ us.drop j)) k12), (mi, W.listOf (List.toArray (vm ++ vs.drop i)) k9)] := fun q hq => N12 q (.tail _ hq)
    clear N12
    (repeat' (first | k_data | ((fail_if_success (with_reducible show wpAny _ _ (exec (Stmt.While _ _ _ _) _) _ _ _)); (fail_if_success (with_reducible show wpAny _ _ (exec (Stmt.For _ _ _ _ _) _) _ _ _)); (fail_if_success (with_reducible show wpAny _ _ (exec (Stmt.Try _ _ _ _ _) _) _ _ _)); (fail_if_success (with_reducible show wpAny _ _ (subscriptTail _ _ _ _) _ _ _)); walk1; try dsimp only) | (with_reducible refine ite_no ?_) | (with_reducible refine ite_yes ?_)))
    rename Fr _ _ _ _ => F14
    rename News _ _ _ _ => N14
    refine hQ _ _ (hR _ _ _ (R3.kept F14) ⟨_, mi, un, _, _, rfl, (N14 _ (.head _)).1, ⟨_, (N14 _ (.tail _ (.tail _ (.head _)))).1⟩, ⟨_, (N14 _ (.tail _ (.head _))).1⟩, ?_, ?_, turn_none R3.T0 (N14 _ (.head _)).2.2, turn_none R3.T0 (N14 _ (.tail _ (.tail _ (.head _)))).2.2, turn_none R3.T0 (N14 _ (.tail _ (.head _))).2.2⟩)
    · rw [← inv.done hend]; exact strs_append s1 (strs_drop_ hvs i)
    · rw [← inv.swap.done hend.symm]; exact strs_append s2 (strs_drop_ hus j)
  have hxB : H'.IsList x vs.toArray := (KeepX.of_turn R1.T0).list ⟨_, hx, rfl, _, rfl⟩
  have hyB : H'.IsList y us.toArray := (KeepX.of_turn R1.T0).list ⟨_, hy, rfl, _, rfl⟩
  have hx2 := F2.lst hxB
  (repeat' (first | k_data | ((fail_if_success (with_reducible show wpAny _ _ (exec (Stmt.While _ _ _ _) _) _ _ _)); (fail_if_success (with_reducible show wpAny _ _ (exec (Stmt.For _ _ _ _ _) _) _ _ _)); (fail_if_success (with_reducible show wpAny _ _ (exec (Stmt.Try _ _ _ _ _) _) _ _ _)); (fail_if_success (with_reducible show wpAny _ _ (subscriptTail _ _ _ _) _ _ _)); walk1; try dsimp only) | (with_reducible refine ite_no ?_) | (with_reducible refine ite_yes ?_)))
  refine sl_item rfl hx2 hvs (by exact (Nat.le_trans l1 (by decide))) rfl (by omega) (fun hout h3 tk3 e hx => ?_) fun hil te => ?_
  · exact .inl ⟨e, h₂, h3, tk3, H', _, _, i, j, mi, un, rfl, rfl, R1, ⟨ti, tj, rfl, rfl, rfl, rfl, rfl, rfl⟩, ⟨ml, ul, vm, vu, km, ku, rfl, s1, s2, n1, inv⟩, .inl (by exact (Nat.le_antisymm hz1 hout)), F2, N2, hx⟩
  (repeat' (first | k_data | ((fail_if_success (with_reducible show wpAny _ _ (exec (Stmt.While _ _ _ _) _) _ _ _)); (fail_if_success (with_reducible show wpAny _ _ (exec (Stmt.For _ _ _ _ _) _) _ _ _)); (fail_if_success (with_reducible show wpAny _ _ (exec (Stmt.Try _ _ _ _ _) _) _ _ _)); (fail_if_success (with_reducible show wpAny _ _ (subscriptTail _ _ _ _) _ _ _)); walk1; try dsimp only) | (with_reducible refine ite_no ?_) | (with_reducible refine ite_yes ?_)))
  rename Fr _ _ _ _ => F3
  rename News _ _ _ _ => N3
  refine sl_item rfl (F3.lst hyB) hus (by exact (Nat.le_trans l2 (by decide))) rfl (by omega) (fun hout h4 tk4 e hx => ?_) fun hjl te2 => ?_
  · exact .inl ⟨e, _, h4, tk4, H', _, _, i, j, mi, un, rfl, rfl, R1, ⟨ti, tj, rfl, rfl, rfl, rfl, rfl, rfl⟩, ⟨ml, ul, vm, vu, km, ku, rfl, s1, s2, n1, inv⟩, .inr (by exact (Nat.le_antisymm hz2 hout)), F3, N3, hx⟩
  try clear hx2
  (repeat' (first | k_data | ((fail_if_success (with_reducible show wpAny _ _ (exec (Stmt.While _ _ _ _) _) _ _ _)); (fail_if_success (with_reducible show wpAny _ _ (exec (Stmt.For _ _ _ _ _) _) _ _ _)); (fail_if_success (with_reducible show wpAny _ _ (exec (Stmt.Try _ _ _ _ _) _) _ _ _)); (fail_if_success (with_reducible show wpAny _ _ (subscriptTail _ _ _ _) _ _ _)); walk1; try dsimp only) | (with_reducible refine ite_no ?_) | (with_reducible refine ite_yes ?_)))
  · refine app_one (pre := [(un, _)]) (post := []) ‹Fr H' L _ _› ‹News H' L _ _› (fun q hq => by rw [List.mem_singleton.mp hq]; exact n1.symm) (fun _ h => nomatch h) (by have := strs_len s1; have : ml.length ≤ es.length := (by rw [inv.m]; exact Nat.le_trans (List.length_filter_le _ _) (by rw [List.length_take]; exact (Nat.min_le_right _ _))); omega) fun h5 k5 F5 N5 => ?_
    (try clear F3 N3)
    have inv2 := inv.less a2 hil hjl ‹_›
    (repeat' (first | k_data | ((fail_if_success (with_reducible show wpAny _ _ (exec (Stmt.While _ _ _ _) _) _ _ _)); (fail_if_success (with_reducible show wpAny _ _ (exec (Stmt.For _ _ _ _ _) _) _ _ _)); (fail_if_success (with_reducible show wpAny _ _ (exec (Stmt.Try _ _ _ _ _) _) _ _ _)); (fail_if_success (with_reducible show wpAny _ _ (subscriptTail _ _ _ _) _ _ _)); walk1; try dsimp only) | (with_reducible refine ite_no ?_) | (with_reducible refine ite_yes ?_)))
    refine while_once ?_
    (repeat' (first | k_data | ((fail_if_success (with_reducible show wpAny _ _ (exec (Stmt.While _ _ _ _) _) _ _ _)); (fail_if_success (with_reducible show wpAny _ _ (exec (Stmt.For _ _ _ _ _) _) _ _ _)); (fail_if_success (with_reducible show wpAny _ _ (exec (Stmt.Try _ _ _ _ _) _) _ _ _)); (fail_if_success (with_reducible show wpAny _ _ (subscriptTail _ _ _ _) _ _ _)); walk1; try dsimp only) | (with_reducible refine ite_no ?_) | (with_reducible refine ite_yes ?_)))
    rename Fr _ _ _ _ => F6
    rename News _ _ _ _ => N6
    refine sl_item (k := i + 1) rfl (F6.lst hxB) hvs (by exact (Nat.le_trans l1 (by decide))) rfl (by omega) (fun hout h7 tk7 e hx => ?_) fun hil2 te3 => ?_
    · obtain ⟨ob, hob, hof⟩ := newExc_full hx
      refine while_raised (hd := none) R1 F6 N6 hx.keeps hx.new hob hof (fun h8 H8 T8 oe oT R8 T8' F8 N8 hoe hoT hne hn => ?_) rfl
      exact .inr ⟨e, _, _, H8, _, _, i + 1, j, mi, un, T8, oe, oT, rfl, rfl, R8, ⟨_, tj, rfl, rfl, rfl, rfl, rfl, rfl⟩, ⟨_, ul, _, vu, _, ku, rfl, strs_append s1 (.cons _ _ .nil), s2, n1, inv2⟩, .inl (by exact (Nat.le_antisymm (Nat.succ_le_of_lt hil) hout)), F8, N8, hoe.exc, hoT, hne, hn⟩
    have hne := asc_ne a1 hil2
    (repeat' (first | k_data | ((fail_if_success (with_reducible show wpAny _ _ (exec (Stmt.While _ _ _ _) _) _ _ _)); (fail_if_success (with_reducible show wpAny _ _ (exec (Stmt.For _ _ _ _ _) _) _ _ _)); (fail_if_success (with_reducible show wpAny _ _ (exec (Stmt.Try _ _ _ _ _) _) _ _ _)); (fail_if_success (with_reducible show wpAny _ _ (subscriptTail _ _ _ _) _ _ _)); walk1; try dsimp only) | (with_reducible refine ite_no ?_) | (with_reducible refine ite_yes ?_)))
    · exact beq_eq_false_iff_ne.mpr hne
    · exact hT _ _ ((es.length - (i + 1)) + (as.length - j)) _ _ _ R1 F6 N6 ⟨i + 1, j, mi, un, rfl, ⟨_, tj, rfl, rfl, rfl, rfl, rfl, rfl⟩, _, ul, _, vu, _, ku, rfl, strs_append s1 (.cons _ _ .nil), s2, n1, inv2⟩ (by omega)
  · refine app_one (pre := []) (post := [(mi, _)]) ‹Fr H' L _ _› ‹News H' L _ _› (fun _ h => nomatch h) (fun q hq => by rw [List.mem_singleton.mp hq]; exact n1) (by have := strs_len s2; have : ul.length ≤ as.length := (by rw [inv.u]; exact Nat.le_trans (List.length_filter_le _ _) (by rw [List.length_take]; exact (Nat.min_le_right _ _))); omega) fun h5 k5 F5 N5 => ?_
    (try clear F3 N3)
    have inv2 := (inv.swap.less a1 hjl hil ‹(as.getD j Str.empty).cps.toList < _›).swap
    (repeat' (first | k_data | ((fail_if_success (with_reducible show wpAny _ _ (exec (Stmt.While _ _ _ _) _) _ _ _)); (fail_if_success (with_reducible show wpAny _ _ (exec (Stmt.For _ _ _ _ _) _) _ _ _)); (fail_if_success (with_reducible show wpAny _ _ (exec (Stmt.Try _ _ _ _ _) _) _ _ _)); (fail_if_success (with_reducible show wpAny _ _ (subscriptTail _ _ _ _) _ _ _)); walk1; try dsimp only) | (with_reducible refine ite_no ?_) | (with_reducible refine ite_yes ?_)))
    refine while_once ?_
    (repeat' (first | k_data | ((fail_if_success (with_reducible show wpAny _ _ (exec (Stmt.While _ _ _ _) _) _ _ _)); (fail_if_success (with_reducible show wpAny _ _ (exec (Stmt.For _ _ _ _ _) _) _ _ _)); (fail_if_success (with_reducible show wpAny _ _ (exec (Stmt.Try _ _ _ _ _) _) _ _ _)); (fail_if_success (with_reducible show wpAny _ _ (subscriptTail _ _ _ _) _ _ _)); walk1; try dsimp only) | (with_reducible refine ite_no ?_) | (with_reducible refine ite_yes ?_)))
    rename Fr _ _ _ _ => F6
    rename News _ _ _ _ => N6
    refine sl_item (k := j + 1) rfl (F6.lst hyB) hus (by exact (Nat.le_trans l2 (by decide))) rfl (by omega) (fun hout h7 tk7 e hx => ?_) fun hjl2 te3 => ?_
    · obtain ⟨ob, hob, hof⟩ := newExc_full hx
      refine while_raised (hd := none) R1 F6 N6 hx.keeps hx.new hob hof (fun h8 H8 T8 oe oT R8 T8' F8 N8 hoe hoT hne hn => ?_) rfl
      exact .inr ⟨e, _, _, H8, _, _, i, j + 1, mi, un, T8, oe, oT, rfl, rfl, R8, ⟨ti, _, rfl, rfl, rfl, rfl, rfl, rfl⟩, ⟨ml, _, vm, _, km, _, rfl, s1, strs_append s2 (.cons _ _ .nil), n1, inv2⟩, .inr (by exact (Nat.le_antisymm (Nat.succ_le_of_lt hjl) hout)), F8, N8, hoe.exc, hoT, hne, hn⟩
    have hne := asc_ne a2 hjl2
    (repeat' (first | k_data | ((fail_if_success (with_reducible show wpAny _ _ (exec (Stmt.While _ _ _ _) _) _ _ _)); (fail_if_success (with_reducible show wpAny _ _ (exec (Stmt.For _ _ _ _ _) _) _ _ _)); (fail_if_success (with_reducible show wpAny _ _ (exec (Stmt.Try _ _ _ _ _) _) _ _ _)); (fail_if_success (with_reducible show wpAny _ _ (subscriptTail _ _ _ _) _ _ _)); walk1; try dsimp only) | (with_reducible refine ite_no ?_) | (with_reducible refine ite_yes ?_)))
    · exact beq_eq_false_iff_ne.mpr hne
    · exact hT _ _ ((es.length - i) + (as.length - (j + 1))) _ _ _ R1 F6 N6 ⟨i, j + 1, mi, un, rfl, ⟨ti, _, rfl, rfl, rfl, rfl, rfl, rfl⟩, ml, _, vm, _, km, _, rfl, s1, strs_append s2 (.cons _ _ .nil), n1, inv2⟩ (by omega)
  · have hsame : es.getD i Str.empty = as.getD j Str.empty := SLt.tri ‹¬ (es.getD i Str.empty).cps.toList < _› ‹¬ (as.getD j Str.empty).cps.toList < _›
    have inv2 := inv.same a1 a2 hil hjl hsame
    refine wpAny_Try_finally ?_
    (repeat' (first | k_data | ((fail_if_success (with_reducible show wpAny _ _ (exec (Stmt.While _ _ _ _) _) _ _ _)); (fail_if_success (with_reducible show wpAny _ _ (exec (Stmt.For _ _ _ _ _) _) _ _ _)); (fail_if_success (with_reducible show wpAny _ _ (exec (Stmt.Try _ _ _ _ _) _) _ _ _)); (fail_if_success (with_reducible show wpAny _ _ (subscriptTail _ _ _ _) _ _ _)); walk1; try dsimp only) | (with_reducible refine ite_no ?_) | (with_reducible refine ite_yes ?_)))
    refine while_once ?_
    (repeat' (first | k_data | ((fail_if_success (with_reducible show wpAny _ _ (exec (Stmt.While _ _ _ _) _) _ _ _)); (fail_if_success (with_reducible show wpAny _ _ (exec (Stmt.For _ _ _ _ _) _) _ _ _)); (fail_if_success (with_reducible show wpAny _ _ (exec (Stmt.Try _ _ _ _ _) _) _ _ _)); (fail_if_success (with_reducible show wpAny _ _ (subscriptTail _ _ _ _) _ _ _)); walk1; try dsimp only) | (with_reducible refine ite_no ?_) | (with_reducible refine ite_yes ?_)))
    rename Fr _ _ _ _ => F6
    rename News _ _ _ _ => N6
    refine sl_item (k := i + 1) rfl (F6.lst hxB) hvs (by exact (Nat.le_trans l1 (by decide))) rfl (by omega) (fun hout h7 tk7 e hx => ?_) fun hil2 te3 => ?_
    · obtain ⟨ob, hob, hof⟩ := newExc_full hx
      refine while_raised (hd := none) R1 F6 N6 hx.keeps hx.new hob hof (fun h8 H8 T8 oe oT R8 T8' F8 N8 hoe hoT hne hn => ?_) rfl
      dsimp only
      refine note_again N8 hoe.exc hoT rfl ?_
      refine ⟨ref_ne_byPass _, note_again N8 hoe.exc hoT rfl ?_⟩
      refine set_flight F8 N8 hoe.exc hoT hne hn fun h9 oT9 F9 N9 ht9 => ?_
      clear F8 N8
      replace F9 := Fr.norm F9 [("expected", .ref x), ("actual", .ref y), ("missing", .ref mi), ("unexpected", .ref un), ("i", .int (Int.ofNat (i + 1)) _), ("j", .int (Int.ofNat j) tj), ("a", .str (as.getD j Str.empty) te2)] (by refine all_cons ?_ (all_cons ?_ (all_cons ?_ (all_cons ?_ (all_cons ?_ (all_cons ?_ (all_cons ?_ all_nil)))))) <;> rfl)
      have hyB9 : H8.IsList y us.toArray := (KeepX.of_turn T8').list hyB
      clear X T F6 N6
      have X := R8.X
      have T := R8.T
      (repeat' (first | k_data | ((fail_if_success (with_reducible show wpAny _ _ (exec (Stmt.While _ _ _ _) _) _ _ _)); (fail_if_success (with_reducible show wpAny _ _ (exec (Stmt.For _ _ _ _ _) _) _ _ _)); (fail_if_success (with_reducible show wpAny _ _ (exec (Stmt.Try _ _ _ _ _) _) _ _ _)); (fail_if_success (with_reducible show wpAny _ _ (subscriptTail _ _ _ _) _ _ _)); walk1; try dsimp only) | (with_reducible refine ite_no ?_) | (with_reducible refine ite_yes ?_)))
      refine while_once ?_
      (repeat' (first | k_data | ((fail_if_success (with_reducible show wpAny _ _ (exec (Stmt.While _ _ _ _) _) _ _ _)); (fail_if_success (with_reducible show wpAny _ _ (exec (Stmt.For _ _ _ _ _) _) _ _ _)); (fail_if_success (with_reducible show wpAny _ _ (exec (Stmt.Try _ _ _ _ _) _) _ _ _)); (fail_if_success (with_reducible show wpAny _ _ (subscriptTail _ _ _ _) _ _ _)); walk1; try dsimp only) | (with_reducible refine ite_no ?_) | (with_reducible refine ite_yes ?_)))
      rename Fr _ _ _ _ => F10
      rename News _ _ _ _ => N10
      refine sl_item_under (k := j + 1) rfl (N10 _ (.head _)).1 hoe (F10.lst hyB9) hus (by exact (Nat.le_trans l2 (by decide))) rfl (by omega) (fun hout h11 tk11 e2 oe2 he2 hoe2 hnew2 st11 => ?_) fun hjl2 te4 => ?_
      · refine while_raised (hd := some (.ref e)) R8 F10 N10 st11 hnew2 he2 hoe2 (fun h12 H12 T12 oe3 oT12 R12 _ F12 N12 hoe3 hoT12 hne12 hn12 => ?_) rfl
        refine note_again N12 hoe3.exc hoT12 rfl ?_
        refine came_back F12 N12 hoe3.exc hoT12 hne12 hn12 rfl fun h13 oT13 F13 N13 hoT13 => ?_
        refine .inr ⟨e2, _, _, H12, _, [(un, W.listOf (List.toArray vu) ku), (mi, W.listOf (List.toArray vm) km)], i + 1, j + 1, mi, un, T12, oe3, oT13, rfl, rfl, R12, ⟨_, _, rfl, rfl, rfl, rfl, rfl, rfl⟩, ⟨ml, ul, vm, vu, km, ku, rfl, s1, s2, n1, inv2⟩, .inl (by exact (Nat.le_antisymm (Nat.succ_le_of_lt hil) (by assumption))), F13, fun q hq => N13 q ?_, hoe3.exc, hoT13, hne12, fun q hq => hn12 q (.tail _ (.tail _ hq))⟩
        rcases List.mem_cons.mp hq with rfl | hq
        · exact .head _
        rcases List.mem_cons.mp hq with rfl | hq
        · exact .tail _ (.head _)
        · exact .tail _ (.tail _ (.tail _ (.tail _ hq)))
      have hne2 := asc_ne a2 hjl2
      (repeat' (first | k_data | ((fail_if_success (with_reducible show wpAny _ _ (exec (Stmt.While _ _ _ _) _) _ _ _)); (fail_if_success (with_reducible show wpAny _ _ (exec (Stmt.For _ _ _ _ _) _) _ _ _)); (fail_if_success (with_reducible show wpAny _ _ (exec (Stmt.Try _ _ _ _ _) _) _ _ _)); (fail_if_success (with_reducible show wpAny _ _ (subscriptTail _ _ _ _) _ _ _)); walk1; try dsimp only) | (with_reducible refine ite_no ?_) | (with_reducible refine ite_yes ?_)))
      · exact beq_eq_false_iff_ne.mpr hne2
      refine pass_on F10 N10 hoe.exc ht9 hne hn rfl fun h13 oT13 F13 N13 hoT13 => ?_
      exact .inr ⟨e, _, _, H8, _, _, i + 1, j + 1, mi, un, T8, oe, oT13, rfl, rfl, R8, ⟨_, _, rfl, rfl, rfl, rfl, rfl, rfl⟩, ⟨ml, ul, vm, vu, km, ku, rfl, s1, s2, n1, inv2⟩, .inl (by exact (Nat.le_antisymm (Nat.succ_le_of_lt hil) hout)), F13, N13, hoe.exc, hoT13, hne, hn⟩
    have hne := asc_ne a1 hil2
    (repeat' (first | k_data | ((fail_if_success (with_reducible show wpAny _ _ (exec (Stmt.While _ _ _ _) _) _ _ _)); (fail_if_success (with_reducible show wpAny _ _ (exec (Stmt.For _ _ _ _ _) _) _ _ _)); (fail_if_success (with_reducible show wpAny _ _ (exec (Stmt.Try _ _ _ _ _) _) _ _ _)); (fail_if_success (with_reducible show wpAny _ _ (subscriptTail _ _ _ _) _ _ _)); walk1; try dsimp only) | (with_reducible refine ite_no ?_) | (with_reducible refine ite_yes ?_)))
    · exact beq_eq_false_iff_ne.mpr hne
    refine while_once ?_
    (repeat' (first | k_data | ((fail_if_success (with_reducible show wpAny _ _ (exec (Stmt.While _ _ _ _) _) _ _ _)); (fail_if_success (with_reducible show wpAny _ _ (exec (Stmt.For _ _ _ _ _) _) _ _ _)); (fail_if_success (with_reducible show wpAny _ _ (exec (Stmt.Try _ _ _ _ _) _) _ _ _)); (fail_if_success (with_reducible show wpAny _ _ (subscriptTail _ _ _ _) _ _ _)); walk1; try dsimp only) | (with_reducible refine ite_no ?_) | (with_reducible refine ite_yes ?_)))
    rename Fr _ _ _ _ => F7
    rename News _ _ _ _ => N7
    refine sl_item (k := j + 1) rfl (F7.lst hyB) hus (by exact (Nat.le_trans l2 (by decide))) rfl (by omega) (fun hout h7 tk7 e hx => ?_) fun hjl2 te4 => ?_
    · obtain ⟨ob, hob, hof⟩ := newExc_full hx
      refine while_raised (hd := none) R1 F7 N7 hx.keeps hx.new hob hof (fun h8 H8 T8 oe oT R8 T8' F8 N8 hoe hoT hne hn => ?_) rfl
      refine note_again N8 hoe.exc hoT rfl ?_
      refine came_back F8 N8 hoe.exc hoT hne hn rfl fun h9 oT9 F9 N9 ht9 => ?_
      exact .inr ⟨e, _, _, H8, _, _, i + 1, j + 1, mi, un, T8, oe, oT9, rfl, rfl, R8, ⟨_, _, rfl, rfl, rfl, rfl, rfl, rfl⟩, ⟨ml, ul, vm, vu, km, ku, rfl, s1, s2, n1, inv2⟩, .inr (by exact (Nat.le_antisymm (Nat.succ_le_of_lt hjl) hout)), F9, N9, hoe.exc, ht9, hne, hn⟩
    have hne2 := asc_ne a2 hjl2
    (repeat' (first | k_data | ((fail_if_success (with_reducible show wpAny _ _ (exec (Stmt.While _ _ _ _) _) _ _ _)); (fail_if_success (with_reducible show wpAny _ _ (exec (Stmt.For _ _ _ _ _) _) _ _ _)); (fail_if_success (with_reducible show wpAny _ _ (exec (Stmt.Try _ _ _ _ _) _) _ _ _)); (fail_if_success (with_reducible show wpAny _ _ (subscriptTail _ _ _ _) _ _ _)); walk1; try dsimp only) | (with_reducible refine ite_no ?_) | (with_reducible refine ite_yes ?_)))
    · exact beq_eq_false_iff_ne.mpr hne2

    exact hT _ _ ((es.length - (i + 1)) + (as.length - (j + 1))) _ _ _ R1 F7 N7 ⟨i + 1, j + 1, mi, un, rfl, ⟨_, _, rfl, rfl, rfl, rfl, rfl, rfl⟩, ml, ul, vm, vu, km, ku, rfl, s1, s2, n1, inv2⟩ (by omega)
end
end Mine

end
section
open PySem PySem.W PyProof.Rows PySem.Spec PySem.Calls
namespace Mine
noncomputable abbrev ffObj (dx : Addr) (it func : Value) : Obj := { cls := .ref 122, dict := some dx, slots := #[some func, some it] }
noncomputable abbrev liObj (a : Addr) (i : Nat) : Obj := { cls := .type "list_iterator", data := .fields #[.ref a, .int i 0] }
section
variable {w : World} {A : Around} {E : Value → Shared → Prop} {s : Shared} {H : Heap} {L : Addr} {m : Str → Option Value} {news pre post : List (Addr × Obj)} {Q : Value → Shared → Prop}
theorem iter_list {a : Addr} {vs : List Value} (F : Fr H L s.heap m) (N : News H L s.heap news) (hl : s.heap.IsList a vs.toArray)
    (k : ∀ It h', Fr H L h' m → News H L h' ((It, liObj a 0) :: news) → (∀ q ∈ news, q.1 < It) → s.heap.get? It = none → Q (.ref It) { s with heap := h' }) :
    wpAny (model PG w) A (call (.builtin "iter") [.ref a]) Q E s := by
  refine call_function_entry (by decide +kernel) (by decide +kernel) kdk_entry_iter (kdk_args_iter _) ?_
  unfold Builtin.«iter»
  refine wpAny_bind (m := someArgs "iter" 1 2 _) (wpAny_of_eq (a := [Value.ref a]) (by first | rfl | kernel_rfl!) ?_)
  show wpAny _ _ (pyIter (.ref a) >>= _) _ _ _
  exact wpAny_bind (wpAny_pyIter_list hl (wpAny_pure ⟨_, rfl, k _ _ (F.push _) (News.push F N _ rfl) (fun q hq => Heap.lt_size (N q hq).1) (Heap.get?_none_of_le (Nat.le_refl _))⟩))
/-- next() of a list's iterator -/
theorem next_list {It a : Addr} {i : Nat} {vs : List Value} (hh : A.handled = none) (F : Fr H L s.heap m) (N : News H L s.heap (pre ++ (It, liObj a i) :: post)) (h1 : ∀ q ∈ pre, q.1 ≠ It) (h2 : ∀ q ∈ post, q.1 ≠ It) (hl : s.heap.IsList a vs.toArray)
    (item : ∀ v h', vs[i]? = some v → Fr H L h' m → News H L h' (pre ++ (It, liObj a (i + 1)) :: post) → Q v { s with heap := h' })
    (done : vs[i]? = none → ∀ h₀ h' oI e, Fr H L h₀ m → News H L h₀ (pre ++ (It, oI) :: post) → Heap.NewExcOf h₀ h' e "StopIteration" → E (.ref e) { s with heap := h' }) :
    wpAny (model PG w) A (call (.builtin "next") [.ref It]) Q E s := by
  have hm := N _ (List.mem_append_right pre (.head _))
  have hT : s.TypeIs (.ref It) "list_iterator" := ⟨_, hm.1, rfl⟩
  obtain ⟨ol, hol, _, nl, hdl⟩ := hl
  refine call_function_entry (by decide +kernel) (by decide +kernel) kdk_entry_next (kdk_args_next _) ?_
  unfold Builtin.«next»
  refine wpAny_bind (m := someArgs "next" 1 2 _) (wpAny_of_eq (a := [Value.ref It]) (by first | rfl | kernel_rfl!) ?_)
  dsimp only
  refine wpAny_bind (wpAny_specialOf (name := Str.ofString "__next__") hT slot_listiter_next.lookup ?_)
  refine wpAny_ite_split (fun hab => absurd hab (by decide)) (fun _ => ?_)
  refine wpAny_bind (wpAny_callSpecial?_slot (name := Str.ofString "__next__") hT slot_listiter_next
    (wpAny_call_entry slot_listiter_next hT entry_listiter_next ?_ (args_listiter_next _)))
  show wpAny _ _ (field (.ref It) 0 >>= _) _ _ s
  refine wpAny_bind (wpAny_field hm.1 rfl (x := .ref a) rfl ?_)
  show wpAny _ _ (if (Value.ref a == Value.none) = true then _ else _) _ _ s
  rw [if_neg (show ¬ ((Value.ref a == Value.none) = true) from Bool.false_ne_true)]
  show wpAny _ _ (field (.ref It) 1 >>= _) _ _ s
  refine wpAny_bind (wpAny_field hm.1 rfl (x := .int i 0) rfl ?_)
  show wpAny _ _ (seqItems? (.ref a) >>= _) _ _ s
  refine wpAny_bind (wpAny_seqItems hol hdl ?_)
  cases hv : vs[i]? with
  | some v =>
    simp only [Int.toNat_natCast, show vs.toArray[i]? = some v by simpa using hv]
    refine wpAny_bind (wpAny_setField hm.1 rfl (by simp) (wpAny_pure ⟨v, rfl, wpAny_pure ⟨_, rfl, item v _ hv (F.change (Heap.SameBut.update ..) hm.2.1 hm.2.2) (News.setAt N h1 h2 (Heap.SameBut.update ..) ?_)⟩⟩))
    rw [Heap.get?_update_self _ hm.1 (Obj.isFreed_of_fields (Obj.data_mapFields rfl _))]
    simp [Obj.mapFields, rawInt]
  | none =>
    simp only [Int.toNat_natCast, show vs.toArray[i]? = none by simpa using hv]
    refine wpAny_bind (wpAny_rule (wpAny_bind (wpAny_setField hm.1 rfl (by simp) ?_)))
    have F2 := F.change (Heap.SameBut.update (h := s.heap) (a := It) (f := Obj.mapFields (·.setIfInBounds 0 Value.none))) hm.2.1 hm.2.2
    have N2 := News.setAt N h1 h2 (Heap.SameBut.update (h := s.heap) (a := It) (f := Obj.mapFields (·.setIfInBounds 0 Value.none))) (Heap.get?_update_self _ hm.1 (Obj.isFreed_of_fields (Obj.data_mapFields rfl _)))
    show wpAny _ _ (newExc (.type "StopIteration") [] >>= _) _ _ _
    refine wpAny_bind ?_
    simp only [newExc, newTuple]
    refine wpAny_bind (wpAny_newObj_type ?_ (by size_fits))
    refine wpAny_bind (m := firstArgMember _ _) (wpAny_of_eq (a := Value.none) (by first | rfl | (simp only [firstArgMember]; rfl)) ?_)
    refine wpAny_newObj_type ?_ (by size_fits)
    simp only [raiseNew]
    refine wpAny_bind (wpAny_handled ?_)
    first | rw [show A.in1.handled = none from hh] | rw [show A.in1.in1.handled = none from hh] | rw [hh]
    refine wpAny_bind (wpAny_pure (wpAny_throw ?_))
    exact done hv _ _ _ _ F2 N2 ⟨fun b o e => Heap.get?_push_of_some _ (Heap.get?_push_of_some _ e), Heap.get?_none_of_le (by simp), _, _, Heap.get?_push_size _ rfl, rfl, rfl, rfl⟩
end
section
variable {w : World} {p : Program} {loose : List Str} {mean : ExcName → Option Value} {mg mb : Str → Option Value} {A : Around} {base H H₁ : Heap} {n : Nat}
set_option maxHeartbeats 2000000 in
theorem ff_init {x dx a B : Addr} {g : Array GenState} {d : Drawn} {tk : Nat} {o : OsState} {R : Result → Shared → Prop} {va : List Value}
    (S : Std w p loose mean mg mb (n + 3) A base H) (st : H.StaysIn H₁) (sz : H.objs.size ≤ H₁.objs.size) (N₁ : ∀ q ∈ [(x, instObj 122 dx), (dx, emptyDict)], H₁.get? q.1 = some q.2 ∧ H.get? q.1 = none)
    (ha : H.IsList a va.toArray) (h2 : @LT.lt Nat _ dx x)
    (hR : ∀ h' tk' It, H.StaysIn h' → H₁.get? It = none → h'.get? x = some (ffObj dx (.ref It) (.ref B)) → h'.get? dx = some emptyDict → h'.get? It = some (liObj a 0) → R (.ok (.ret .none)) ⟨h', g, d, tk', o⟩) :
    codeAny (model PG w) A (.call (.ref 104) ⟨[.ref x, .ref B, .ref a], []⟩) R ⟨H₁, g, d, tk, o⟩ := by
  have X := S.X
  have T := S.T
  refine' enter [("self", .ref x), ("function", .ref B), ("iterable", .ref a)] S st sz ?k6 ?k7 ?kb ?kl ?c1 ?c2 ?c3 ?c4 ?_
  ((case k6 => k_is); (case k7 => k_is); (case kb => exact rfl); (case kl => exact rfl); (case c1 => exact rfl); (case c2 => exact rfl); (case c3 => exact rfl); (case c4 => exact rfl))
  intro L dp un fr gd h₁ tk₁ Q I K1 hLs F hQ hQ2
  have N : News H L h₁ [(x, instObj 122 dx), (dx, emptyDict)] := fun q hq => ⟨K1 _ _ (N₁ q hq).1, Nat.ne_of_lt (Nat.lt_of_lt_of_le (Heap.lt_size (N₁ q hq).1) hLs), (N₁ q hq).2⟩
  clear S
  (repeat' (first | k_data | ((fail_if_success (with_reducible show wpAny _ _ (exec (Stmt.While _ _ _ _) _) _ _ _)); walk1; try dsimp only) | (with_reducible refine ite_no ?_) | (with_reducible refine ite_yes ?_)))
  refine iter_list F N (F.lst ha) fun It h3 F3 N3 lt3 new3 => ?_
  have hItx : It ≠ x := Nat.ne_of_gt (lt3 _ (.head _))
  have hItn : H₁.get? It = none := by
    exact get_gone (K1 _) new3
  clear F N
  (repeat' (first | k_data | ((fail_if_success (with_reducible show wpAny _ _ (exec (Stmt.While _ _ _ _) _) _ _ _)); walk1; try dsimp only) | (with_reducible refine ite_no ?_) | (with_reducible refine ite_yes ?_)))
  rename Fr _ _ _ _ => F4
  rename News _ _ _ _ => N4
  exact hQ2 _ (hR _ _ It F4.keep hItn (N4 _ (.tail _ (.head _))).1 (N4 _ (.tail _ (.tail _ (.head _)))).1 (N4 _ (.head _)).1)
set_option maxHeartbeats 2000000 in
theorem diff_call {g : Array GenState} {d : Drawn} {tk : Nat} {o : OsState} {R : Result → Shared → Prop} {a b : Addr} {xs ys : List Str} {va : List Value} (S : Std w p loose mean mg mb (n + 7) A base H) (ha : H.IsList a va.toArray) (hb : AtStrsL H b ys) (hy : ys.length ≤ 1000)
    (hR : ∀ h' tk' x dx It B St, H.StaysIn h' → H.get? x = none → H.get? dx = none → H.get? It = none → h'.get? x = some (ffObj dx (.ref It) (.ref B)) → h'.get? dx = some emptyDict → h'.get? It = some (liObj a 0) → h'.get? B = some (bsObj St) → StrSet w h' St (dd ys) → It ≠ x → It ≠ dx → It ≠ B → It ≠ St → R (.ok (.ret (.ref x))) ⟨h', g, d, tk', o⟩) :
    codeAny (model PG w) A (.call (.ref 169) ⟨[.ref a, .ref b], []⟩) R ⟨H, g, d, tk, o⟩ := by
  have X := S.X
  have T := S.T
  refine' enter [("minuend", .ref a), ("subtrahend", .ref b)] S (fun _ _ e => e) (Nat.le_refl _) ?k6 ?k7 ?kb ?kl ?c1 ?c2 ?c3 ?c4 ?_
  ((case k6 => k_is); (case k7 => k_is); (case kb => exact rfl); (case kl => exact rfl); (case c1 => exact rfl); (case c2 => exact rfl); (case c3 => exact rfl); (case c4 => exact rfl))
  intro L dp un fr gd h₁ tk₁ Q I _ _ F hQ _
  have N : News H L h₁ [] := News.nil
  obtain ⟨vb, hvb, hib⟩ := id hb
  clear S
  (repeat' (first | k_data | ((fail_if_success (with_reducible show wpAny _ _ (exec (Stmt.While _ _ _ _) _) _ _ _)); walk1; try dsimp only) | (with_reducible refine ite_no ?_) | (with_reducible refine ite_yes ?_)))
  refine call_set_strs (I _ _ F).hh (F.lst hvb) hib hy fun h2 tk2 st2 hS2 => ?_
  have hSn : h₁.get? h₁.objs.size = none := Heap.get?_none_of_le (Nat.le_refl _)
  generalize h₁.objs.size = St at hS2 hSn
  have F2 := Fr.stay F st2
  obtain ⟨oS, _, _, _, eS, _⟩ := id hS2
  have N2 : News H L h2 [(St, oS)] := News.join F N st2 hSn eS
  (repeat' (first | k_data | ((fail_if_success (with_reducible show wpAny _ _ (exec (Stmt.While _ _ _ _) _) _ _ _)); walk1; try dsimp only) | (with_reducible refine ite_no ?_) | (with_reducible refine ite_yes ?_)))
  refine getattr_contains hS2 fun B h3 tk3 st3 hBn hB => ?_
  have hSz : St ≠ B := fun e => by (first | exact (ne_get eS (hBn) (e)).elim | exact (ne_get (hBn) eS (e)).elim | (rw [e, hBn] at eS; cases eS))
  have hS3 : StrSet w h3 St (dd ys) := hS2.moved fun ob e => st3 _ _ e
  have F3 := Fr.stay F2 st3
  have N3 : News H L h3 [(B, bsObj St), (St, oS)] := News.join F2 N2 st3 hBn hB
  clear F2 N2 F N
  (repeat' (first | k_data | ((fail_if_success (with_reducible show wpAny _ _ (exec (Stmt.While _ _ _ _) _) _ _ _)); walk1; try dsimp only) | (with_reducible refine ite_no ?_) | (with_reducible refine ite_yes ?_)))
  have X3 := X.keeps F3.keep
  refine wpAny_call (make_K (C := 122) (fI := 104) F3 N3 X3 ?m1 ?m2 ?m3 fun r dx h4 F4 N4 h5 h6 => ?_)
  case m1 => k_is
  case m2 => k_is
  case m3 => k_is
  have N5 : News H L h4 [(r, instObj 122 dx), (dx, emptyDict)] := News.sub N4 (fun q hq => by simp only [List.mem_cons, List.not_mem_nil, or_false] at hq ⊢; rcases hq with rfl | rfl <;> simp)
  have S4 : Std w p loose mean mg mb (n + 6) ⟨none, dp, fr, gd, un⟩ base (hideAll h4 ([(r, instObj 122 dx), (dx, emptyDict)].map (·.1))) := I _ _ (Fr.hide F4 N5)
  have hal := (Fr.hide F4 N5).lst ha
  refine ff_init (base := base) (p := p) (loose := loose) (mean := mean) (mg := mg) (mb := mb) (H := hideAll h4 ([(r, instObj 122 dx), (dx, emptyDict)].map (·.1))) (n := n + 2) ?S (fun b o e => of_hideAll _ e) (Nat.le_of_eq (hideAll_size _ _)) (fun q hq => ⟨(N5 q hq).1, hideAll_none _ (List.mem_map_of_mem hq)⟩) hal h6 fun h' tk' It st4 hItn e1 e2 e3 => ?_
  case S => exact Std.under S4 (Nat.le_of_ble_eq_true rfl) (Nat.le_of_ble_eq_true rfl)
  refine ⟨rfl, ?_⟩
  dsimp only
  have nIt : ∀ q ob, h4.get? q = some ob → It ≠ q := fun q ob e z => by (first | exact (ne_get e (hItn) (z).symm).elim | exact (ne_get (hItn) e (z).symm).elim | (rw [← z, hItn] at e; cases e))
  have hB4 := (N4 _ (.tail _ (.tail _ (.head _)))).1
  have hS4 := (N4 _ (.tail _ (.tail _ (.tail _ (.head _))))).1
  have up : ∀ b ob, h4.get? b = some ob → b ≠ r → b ≠ dx → h'.get? b = some ob := fun b ob e b1 b2 => st4 _ _ (hideAll_get _ e fun hm => by
    simp only [List.map_cons, List.map_nil, List.mem_cons, List.not_mem_nil, or_false] at hm
    rcases hm with z | z
    · exact b1 z
    · exact b2 z)
  have nH : ∀ b, h4.get? b = none → H.get? b = none := fun b e => by
    exact get_gone (F4.keep _) e
  have d1 : @LT.lt Nat _ B dx := h5 _ (.head _)
  have d2 : @LT.lt Nat _ St dx := h5 _ (.tail _ (.head _))
  refine hQ _ _ (hR _ _ r dx It B St (fun b ob e => st4 _ _ ((Fr.hide F4 N5).keep _ _ e)) (N4 _ (.head _)).2.2 (N4 _ (.tail _ (.head _))).2.2 (nH _ hItn) e1 e2 e3 ?_ ?_ (nIt _ _ (N4 _ (.head _)).1) (nIt _ _ (N4 _ (.tail _ (.head _))).1) (nIt _ _ hB4) (nIt _ _ hS4))
  · exact up _ _ hB4 (Nat.ne_of_lt (Nat.lt_trans d1 h6)) (Nat.ne_of_lt d1)
  · obtain ⟨oS', es, ep, t, eS', rr⟩ := hS3
    have : oS' = oS := by
      have := (N3 _ (.tail _ (.head _))).1
      exact Option.some.inj (eS'.symm.trans this)
    subst this
    exact ⟨oS', es, ep, t, up _ _ hS4 (Nat.ne_of_lt (Nat.lt_trans d2 h6)) (Nat.ne_of_lt d2), rr⟩
end
end Mine

end
section
open PySem PySem.W PyProof.Rows PySem.Spec PySem.Calls
namespace Mine
section
variable {w : World} {A : Around} {E : Value → Shared → Prop} {s : Shared}
theorem callWith_bs {pos : Pos} {u S : Addr} {first : List Value} {env : Env} {e : Expr} {rest : List Expr} {Q : Value → Shared → Prop}
    (h : wpAny (model PG w) A (spliced (backTo pos (starEach (e :: rest) env))) (fun vs s₁ => s₁.heap.get? u = some (bsObj S) ∧ wpAny (model PG w) A (call (.ref u) (first ++ vs)) Q E s₁) E s)
    (he : starEach (e :: rest) env = (false, eval e env) :: starEach rest env := by rfl) (hplain : (backTo pos (starEach rest env)).any (·.1) = false := by rfl) :
    wpAny (model PG w) A (callWith pos (.ref u) first (backTo pos (starEach (e :: rest) env)) []) Q E s := by
  rw [he] at h ⊢
  have hp : (backTo pos ((false, eval e env) :: starEach rest env)).any (·.1) = false := by show (false || (backTo pos (starEach rest env)).any (·.1)) = false; rw [hplain]; rfl
  have h2 : wpAny (model PG w) A (evalArgs (.ref u) true (backTo pos ((false, eval e env) :: starEach rest env)) []) (fun x s₁ => s₁.heap.get? u = some (bsObj S) ∧ wpAny (model PG w) A (call (.ref u) (first ++ x.pos) x.kw) Q E s₁) E s := evalArgs_plain h
  unfold callWith
  refine wpAny_bind (wpAny_holding (wpAny_mono h2 (fun x s₁ h₁ => wpAny_bind (wpAny_standAt ?_)) fun _ _ x => x))
  obtain ⟨ho, hcall⟩ := h₁
  simp only [hp, List.any_nil, Bool.or_false]
  refine wpAny_bind (m := keeperOf (.ref u)) ?_
  unfold keeperOf
  refine wpAny_bind (wpAny_load ho ?_)
  simp only [show (Value.type "builtin_function_or_method" != Value.type "method") = true by decide, show (Value.type "builtin_function_or_method" == Value.type "builtin_function_or_method" || Value.type "builtin_function_or_method" == Value.type "method-wrapper") = true by decide, if_true]
  refine wpAny_pure ?_
  exact wpAny_bind (wpAny_mono hcall (fun r s₂ hr => wpAny_bind (wpAny_holding (wpAny_point (wpAny_pure hr)))) fun _ _ x => x)
end
theorem sub_drop {xs ys : List Str} {i : Nat} (hi : i < xs.length) : sub (xs.drop i) ys = if xs.getD i Str.empty ∈ ys then sub (xs.drop (i + 1)) ys else xs.getD i Str.empty :: sub (xs.drop (i + 1)) ys := by
  rw [drop_one hi]
  unfold sub
  by_cases h : xs.getD i Str.empty ∈ ys
  · rw [if_pos h, List.filter_cons_of_neg (by simpa using h)]
  · rw [if_neg h, List.filter_cons_of_pos (by simpa using h)]
section
variable {w : World} {p : Program} {loose : List Str} {mean : ExcName → Option Value} {mg mb : Str → Option Value} {A : Around} {base H H₁ : Heap} {n : Nat} {outer : List Env}
inductive FfJ (H : Heap) (L x dx B It a : Addr) (xs ys : List Str) (j : Nat) (g : Array GenState) (d : Drawn) (o : OsState) (k : Nat) (s : Shared) : Prop
  | mk (h : Heap) (tk : Nat) (m : Str → Option Value) (i : Nat) (es : s = ⟨h, g, d, tk, o⟩) (hj : j ≤ i) (hk : k + i = xs.length) (hs : sub (xs.drop j) ys = sub (xs.drop i) ys) (F : Fr H L h m) (e1 : m "self" = some (.ref x)) (e2 : m "func" = some (.ref B)) (N : News H L h [(It, liObj a i), (x, ffObj dx (.ref It) (.ref B)), (dx, emptyDict)])
set_option maxHeartbeats 2000000 in
theorem ff_next {x dx a It B St : Addr} {g : Array GenState} {d : Drawn} {tk : Nat} {o : OsState} {R : Result → Shared → Prop} {xs ys : List Str} {va : List Value} {j : Nat}
    (hout : A.frames = some outer) (S : Std w p loose mean mg mb (n + 1) A base H) (st : H.StaysIn H₁) (sz : H.objs.size ≤ H₁.objs.size)
    (N₁ : ∀ q ∈ [(It, liObj a j), (x, ffObj dx (.ref It) (.ref B)), (dx, emptyDict)], H₁.get? q.1 = some q.2 ∧ H.get? q.1 = none) (n1 : It ≠ x) (n2 : It ≠ dx) (hB : H.get? B = some (bsObj St)) (hS : StrSet w H St (dd ys)) (ha : H.IsList a va.toArray) (hva : StrsAre va xs) (hj : j ≤ xs.length) (hlen : xs.length ≤ 1000)
    (hR : ∀ h' tk' j' y t, sub (xs.drop j) ys = y :: sub (xs.drop j') ys → j < j' → j' ≤ xs.length → H.StaysIn h' → h'.get? It = some (liObj a j') → h'.get? x = some (ffObj dx (.ref It) (.ref B)) → h'.get? dx = some emptyDict → R (.ok (.ret (.str y t))) ⟨h', g, d, tk', o⟩)
    (hE : ∀ h' tk' e oe, sub (xs.drop j) ys = [] → KeepX (outer.filterMap (·.frame)) H h' → h'.get? e = some oe → oe.cls = .type "StopIteration" → R (.error (.ref e)) ⟨h', g, d, tk', o⟩) :
    codeAny (model PG w) A (.call (.ref 118) ⟨[.ref x], []⟩) R ⟨H₁, g, d, tk, o⟩ := by
  have X := S.X
  have T := S.T
  refine' enterE [("self", .ref x)] hout S st sz ?k6 ?k7 ?kb ?kl ?c1 ?c2 ?c3 ?c4 ?_
  ((case k6 => k_is); (case k7 => k_is); (case kb => exact rfl); (case kl => exact rfl); (case c1 => exact rfl); (case c2 => exact rfl); (case c3 => exact rfl); (case c4 => exact rfl))
  intro L dp un gd h₁ tk₁ Q Rm K1 hLs F hQ _
  have N : News H L h₁ [(It, liObj a j), (x, ffObj dx (.ref It) (.ref B)), (dx, emptyDict)] := fun q hq => ⟨K1 _ _ (N₁ q hq).1, Nat.ne_of_lt (Nat.lt_of_lt_of_le (Heap.lt_size (N₁ q hq).1) hLs), (N₁ q hq).2⟩
  clear S
  (repeat' (first | k_data | ((fail_if_success (with_reducible show wpAny _ _ (exec (Stmt.While _ _ _ _) _) _ _ _)); walk1; try dsimp only) | (with_reducible refine ite_no ?_) | (with_reducible refine ite_yes ?_)))
  rename Fr _ _ _ _ => F1
  rename News _ _ _ _ => N1
  refine whileI (FfJ H L x dx B It a xs ys j g d o) (k₀ := xs.length - j) ⟨_, _, _, j, rfl, Nat.le_refl _, by omega, rfl, F1, rfl, rfl, N1⟩ ?_
  rintro k s₁ Qt ⟨h2, tk2, m, i, rfl, hji, hk, hsub, F2, e1, e2, N2⟩ hT hret _
  clear F1 N1
  replace F2 := Fr.norm F2 [("self", .ref x), ("func", .ref B)] (by intro q hq; simp only [List.mem_cons, List.not_mem_nil, or_false] at hq; rcases hq with rfl | rfl; exact e1; exact e2)
  (repeat' (first | k_data | ((fail_if_success (with_reducible show wpAny _ _ (exec (Stmt.While _ _ _ _) _) _ _ _)); walk1; try dsimp only) | (with_reducible refine ite_no ?_) | (with_reducible refine ite_yes ?_)))
  refine next_list (pre := []) rfl F2 N2 (fun _ h => nomatch h) (fun q hq => ?_) (F2.lst ha) (fun v h3 hv F3 N3 => ?_) (fun hv h0 h3 oI e F3 N3 hx => ?_)
  · simp only [List.mem_cons, List.not_mem_nil, or_false] at hq
    rcases hq with rfl | rfl
    · exact n1.symm
    · exact n2.symm
  · have hi : i < xs.length := by have := (List.getElem?_eq_some_iff.mp hv).1; rw [strs_len hva] at this; exact this
    obtain ⟨tv, ht⟩ := strs_at hva hi
    obtain rfl : v = .str (xs.getD i Str.empty) tv := Option.some.inj (hv.symm.trans ht)
    rw [sub_drop hi] at hsub
    (repeat' (first | k_data | ((fail_if_success (with_reducible show wpAny _ _ (exec (Stmt.While _ _ _ _) _) _ _ _)); walk1; try dsimp only) | (with_reducible refine ite_no ?_) | (with_reducible refine ite_yes ?_)))
    refine callWith_bs (S := St) ?_
    (repeat' (first | k_data | ((fail_if_success (with_reducible show wpAny _ _ (exec (Stmt.While _ _ _ _) _) _ _ _)); walk1; try dsimp only) | (with_reducible refine ite_no ?_) | (with_reducible refine ite_yes ?_)))
    rename Fr _ _ _ _ => F4
    rename News _ _ _ _ => N4
    have hS4 := hS.moved fun ob e => F4.keep _ _ e
    refine call_contains (F4.keep _ _ hB) hS4 fun tk5 => ?_
    by_cases hy : xs.getD i Str.empty ∈ ys
    · rw [decide_eq_true (dd_mem.mpr hy)]
      rw [if_pos hy] at hsub
      (repeat' (first | k_data | ((fail_if_success (with_reducible show wpAny _ _ (exec (Stmt.While _ _ _ _) _) _ _ _)); walk1; try dsimp only) | (with_reducible refine ite_no ?_) | (with_reducible refine ite_yes ?_)))
      exact hT (k - 1) _ ⟨_, _, _, i + 1, rfl, by exact (Nat.le_succ_of_le hji), by omega, hsub, F4, rfl, rfl, N4⟩ (by omega)
    · rw [decide_eq_false (fun z => hy (dd_mem.mp z))]
      rw [if_neg hy] at hsub
      (repeat' (first | k_data | ((fail_if_success (with_reducible show wpAny _ _ (exec (Stmt.While _ _ _ _) _) _ _ _)); walk1; try dsimp only) | (with_reducible refine ite_no ?_) | (with_reducible refine ite_yes ?_)))
      refine hret _ _ (hQ _ _ (hR _ _ (i + 1) _ tv hsub (by exact (Nat.lt_succ_of_le hji)) hi F4.keep (N4 _ (.head _)).1 (N4 _ (.tail _ (.head _))).1 (N4 _ (.tail _ (.tail _ (.head _)))).1))
  · have hi : xs.length ≤ i := by
      have := List.getElem?_eq_none_iff.mp hv
      rw [strs_len hva] at this; exact this
    refine first_note Rm F3 N3 hx fun h5 H5 Tb oe oT R5 T5 F5 N5 he5 ht5 hne5 hn5 => ?_
    refine came_back F5 N5 he5 ht5 hne5 hn5 rfl fun h6 oT6 F6 N6 ht6 => ?_
    refine leave_noted F6 N6 he5 ht6 hne5 hn5 rfl fun h7 oT7 F7 N7 => ?_
    exact hE _ _ e oe (by rw [hsub, List.drop_eq_nil_of_le hi]; rfl) (R5.kept F7) (N7 _ (.head _)).1 he5.1
end
end Mine

end
section
open PySem PySem.W PyProof.Rows PySem.Spec PySem.Calls
namespace Mine
section
variable {w : World} {p : Program} {loose : List Str} {mean : ExcName → Option Value} {mg mb : Str → Option Value} {A : Around} {base H h : Heap} {n : Nat} {out : List Env}
/-- a filterfalse over a list, not yet asked -/
structure FF (w : World) (x dx a It B St : Addr) (xs ys : List Str) (va : List Value) (h : Heap) : Prop where
  obj : h.get? x = some (ffObj dx (.ref It) (.ref B))
  dict : h.get? dx = some emptyDict
  it : h.get? It = some (liObj a 0)
  bound : h.get? B = some (bsObj St)
  set : StrSet w h St (dd ys)
  list : h.IsList a va.toArray
  are : StrsAre va xs
  n1 : It ≠ x
  n2 : It ≠ dx
  fB : B ∉ [It, x, dx]
  fS : St ∉ [It, x, dx]
  fa : a ∉ [It, x, dx]
inductive FsJ (h₁ : Heap) (It S' a : Addr) (xs ys : List Str) (g : Array GenState) (d : Drawn) (o : OsState) (k : Nat) (acc : List Value) (s : Shared) : Prop
  | mk (h' : Heap) (tk' j : Nat) (got : List Str) (es : s = ⟨h', g, d, tk', o⟩) (hk : k + j = xs.length) (hs : ∀ b ob, b ≠ It → b ≠ S' → h₁.get? b = some ob → h'.get? b = some ob) (hI : h'.get? It = some (liObj a j)) (hp : h'.PlainList S' acc.toArray) (ha : StrsAre acc got) (hg : got ++ sub (xs.drop j) ys = sub xs ys)
set_option maxHeartbeats 2000000 in
theorem ff_loop {x dx a It B St S' : Addr} {xs ys : List Str} {va : List Value} {g : Array GenState} {d : Drawn} {tk : Nat} {o : OsState} {L : Addr} {m : Str → Option Value} {res : Value} {R : Result → Shared → Prop}
    (hout : A.frames = some out) (S : Std w p loose mean mg mb (n + 2) A base h) (F0 : Fr H L h m) (hbH : base.StaysIn H) (hbs : base.objs.size ≤ H.objs.size) (hN : ∀ q ∈ [It, x, dx], H.get? q = none ∧ q ≠ L)
    (hf : ∀ env ∈ out, ∀ q ∈ [It, x, dx], env.frame ≠ some q) (I : FF w x dx a It B St xs ys va h) (hlen : xs.length ≤ 1000)
    (hS : h.PlainList S' #[]) (hSn : H.get? S' = none) (hSL : S' ≠ L) (hSf : ∀ env ∈ out, env.frame ≠ some S') (hS3 : S' ∉ [It, x, dx]) (hSB : B ≠ S') (hSS : St ≠ S') (hSa : a ≠ S')
    (k : ∀ zs h' tk', (∀ b ob, b ≠ It → b ≠ S' → b ≠ x → b ≠ dx → b ∉ out.filterMap (·.frame) → h.get? b = some ob → h'.get? b = some ob) → (∀ b ob, b ∈ out.filterMap (·.frame) → h.get? b = some ob → ∃ sl, h'.get? b = some { ob with slots := sl }) →
      h'.PlainList S' zs.toArray → StrsAre zs (sub xs ys) → R (.ok (.ret res)) ⟨h', g, d, tk', o⟩) :
    codeAny (model PG w) A (.builtin "list.extend.loop" ⟨[.ref S', .ref x, res], []⟩) R ⟨h, g, d, tk, o⟩ := by
  have X : (hd.heap_1 w.params).In H := S.XB.keeps hbH
  obtain ⟨i1, i2, i3, i4, i5, i6, i7, n1, n2, fB, fS, fa⟩ := I
  refine extend_own (FsJ h It S' a xs ys g d o) ?_ xs.length [] _ ⟨h, tk, 0, [], rfl, rfl, fun b ob _ _ e => e, i3, by simpa using hS, .nil, rfl⟩
  rintro kk acc s Q' ⟨h', tk', j, got, rfl, hk, hkeep, eIt, hS', hacc, hgot⟩ hnext hstop
  have hxI : x ≠ It := n1.symm
  have hdI : dx ≠ It := n2.symm
  have hxS : x ≠ S' := fun q => hS3 (by rw [← q]; exact .tail _ (.head _))
  have hdS : dx ≠ S' := fun q => hS3 (by rw [← q]; exact .tail _ (.tail _ (.head _)))
  have hBI : B ≠ It := fun q => fB (by rw [q]; exact .head _)
  have hSI : St ≠ It := fun q => fS (by rw [q]; exact .head _)
  have haI : a ≠ It := fun q => fa (by rw [q]; exact .head _)
  have ex := hkeep _ _ hxI hxS i1
  have edx := hkeep _ _ hdI hdS i2
  have nH : ∀ b ob, H.get? b = some ob → b ≠ It ∧ b ≠ S' := fun b ob e => ⟨(fun q => by (first | exact (ne_get e ((hN _ (.head _)).1) (q)).elim | exact (ne_get ((hN _ (.head _)).1) e (q)).elim | (rw [q, (hN _ (.head _)).1] at e; cases e))), (fun q => by (first | exact (ne_get e (hSn) (q)).elim | exact (ne_get (hSn) e (q)).elim | (rw [q, hSn] at e; cases e)))⟩
  have F' : Fr H L h' m := ⟨F0.ns.at' fun ob e => hkeep _ ob (hN _ (.head _)).2.symm hSL.symm e, fun b ob e => hkeep b ob (nH b ob e).1 (nH b ob e).2 (F0.keep b ob e), F0.above⟩
  have nf : ∀ b ∈ out.filterMap (·.frame), (∀ q ∈ [It, x, dx], b ≠ q) ∧ b ≠ S' := fun b hb => by
    obtain ⟨env, he, hq⟩ := List.mem_filterMap.mp hb
    exact ⟨fun q hq' z => hf env he q hq' (z ▸ hq), fun z => hSf env he (z ▸ hq)⟩
  have S1 : Std w p loose mean mg mb (n + 2) A base h' := S.moved (Nat.le_trans hbs (Nat.le_trans F'.above (Nat.le_of_lt F'.ns.lt))) (fun b ob e => F'.keep b ob (hbH b ob e)) fun out' e' b hb ob e => by
    (first | exact (ne_get e' (hout) rfl).elim | exact (ne_get (hout) e' rfl).elim | (rw [hout] at e'; cases e'))
    exact hkeep b ob ((nf b hb).1 _ (.head _)) (nf b hb).2 e
  have S2 : Std w p loose mean mg mb (n + 1) A.in1 base (hideAll h' [It, x, dx]) := Std.hide (Std.in1 S1) (fun q hq => by
    cases e : base.get? q with
    | none => rfl
    | some ob => have := (hN q hq).1; (first | exact (ne_get this (hbH _ _ e) rfl).elim | exact (ne_get (hbH _ _ e) this rfl).elim | (rw [hbH _ _ e] at this; cases this))) (fun out' e' env he q hq => by
    have e' : A.frames = some out' := e'
    (first | exact (ne_get e' (hout) rfl).elim | exact (ne_get (hout) e' rfl).elim | (rw [hout] at e'; cases e'))
    exact hf env he q hq)
  refine owit_next (f := 118) F' X (⟨ex, rfl, rfl, edx⟩ : InstAt h' x (ffObj dx (.ref It) (.ref B)) 122 (some emptyDict)) ?j1 ?j2 (wpAny_call ?_)
  case j1 => k_is
  case j2 => k_is
  have hSt' : StrSet w (hideAll h' [It, x, dx]) St (dd ys) := i5.moved fun ob e => hideAll_get _ (hkeep _ _ hSI hSS e) fS
  refine ff_next (n := n) (A := A.in1) (H := hideAll h' [It, x, dx]) (outer := out) (xs := xs) (ys := ys) (va := va) (j := j) hout S2 (fun b ob e => of_hideAll _ e) (Nat.le_of_eq (hideAll_size _ _)) ?_ n1 n2 (hideAll_get _ (hkeep _ _ hBI hSB i4) fB) hSt' (i6.at fun ob e => hideAll_get _ (hkeep _ _ haI hSa e) fa) i7 (by exact (Nat.le_trans (Nat.le_add_left _ _) (Nat.le_of_eq hk))) hlen ?_ ?_
  · intro q hq
    simp only [List.mem_cons, List.not_mem_nil, or_false] at hq
    rcases hq with rfl | rfl | rfl
    · exact ⟨eIt, hideAll_none _ (.head _)⟩
    · exact ⟨ex, hideAll_none _ (.tail _ (.head _))⟩
    · exact ⟨edx, hideAll_none _ (.tail _ (.tail _ (.head _)))⟩
  · intro h2 tk2 j' y t hsub hlt hle st2 e1 e2 e3
    obtain ⟨cS, eS⟩ := hS'
    have hlacc : acc.length ≤ 1000 := by
      have a1 := strs_len hacc
      have a2 := congrArg List.length hgot
      rw [List.length_append] at a2
      have a3 : (sub xs ys).length ≤ xs.length := List.length_filter_le _ _
      omega
    refine hnext _ _ ⟨cS, st2 _ _ (hideAll_get _ eS hS3)⟩ hlacc fun h3 hS3' hsb => ⟨xs.length - j', by omega, h3, tk2, j', got ++ [y], rfl, by omega, fun b ob b1 b2 e => ?_, ?_, hS3', strs_append hacc (.cons _ _ .nil), ?_⟩
    · rw [hsb.2 _ b2]
      by_cases b3 : b = x
      · subst b3; rw [e2, ← e, i1]
      · by_cases b4 : b = dx
        · subst b4; rw [e3, ← e, i2]
        · exact st2 _ _ (hideAll_get _ (hkeep b ob b1 b2 e) fun hm => by
            simp only [List.mem_cons, List.not_mem_nil, or_false] at hm
            rcases hm with q | q | q
            · exact b1 q
            · exact b3 q
            · exact b4 q)
    · rw [hsb.2 _ (fun q => hS3 (by rw [← q]; exact .head _)), e1]
    · rw [List.append_assoc, List.singleton_append, ← hsub, hgot]
  · intro h2 tk2 e oe hsub K he hoe
    unfold OwitStop
    refine wpAny_isInstance (T := "StopIteration") (b := true) ⟨oe, he, hoe⟩ isSubtype_stop ?_
    rw [if_pos rfl]
    obtain ⟨cS, eS⟩ := hS'
    rw [hsub, List.append_nil] at hgot
    subst hgot
    have up : ∀ b ob, b ≠ It → b ≠ S' → b ≠ x → b ≠ dx → h.get? b = some ob → (hideAll h' [It, x, dx]).get? b = some ob := fun b ob b1 b2 b3 b4 e => hideAll_get _ (hkeep b ob b1 b2 e) fun hm => by
      simp only [List.mem_cons, List.not_mem_nil, or_false] at hm
      rcases hm with q | q | q
      · exact b1 q
      · exact b3 q
      · exact b4 q
    refine hstop _ (k acc h2 tk2 (fun b ob b1 b2 b3 b4 b5 e => K.1 _ _ (up b ob b1 b2 b3 b4 e) b5) (fun b ob hb e => K.2 _ _ (up b ob ((nf b hb).1 _ (.head _)) (nf b hb).2 ((nf b hb).1 _ (.tail _ (.head _))) ((nf b hb).1 _ (.tail _ (.tail _ (.head _)))) e) hb) ⟨cS, K.1 _ _ (hideAll_get _ eS hS3) fun hm => (nf S' hm).2 rfl⟩ hacc)
theorem FF.stay {x dx a It B St : Addr} {xs ys : List Str} {va : List Value} {h' : Heap} (I : FF w x dx a It B St xs ys va h) (k : h.StaysIn h') : FF w x dx a It B St xs ys va h' :=
  ⟨k _ _ I.obj, k _ _ I.dict, k _ _ I.it, k _ _ I.bound, I.set.moved fun ob e => k _ _ e, I.list.at fun ob e => k _ _ e, I.are, I.n1, I.n2, I.fB, I.fS, I.fa⟩
/-- list.extend by an object that iterates over itself, up to its loop -/
theorem extendWith_own {I C f f2 S' : Addr} {ox o' : Obj} {od : Option Obj} {h2 : Heap} {g : Array GenState} {d : Drawn} {tk : Nat} {o : OsState} {L : Addr} {m : Str → Option Value} {res : Value} {P : PySem.Fin → Shared → Prop} {E : Value → Shared → Prop}
    (F2 : Fr H L h2 m) (X : (hd.heap_1 w.params).In H) (In2 : InstAt h2 I ox C od)
    (hn : findIn (hd.heap_1 w.params) (.ref C) "__next__" = some (some (.ref f))) (hi : findIn (hd.heap_1 w.params) (.ref C) "__iter__" = some (some (.ref f2))) (hf2 : isFn (hd.heap_1 w.params) (.ref f2) = true)
    (hlen : findIn (hd.heap_1 w.params) (.ref C) "__len__" = some none) (hhint : findIn (hd.heap_1 w.params) (.ref C) "__length_hint__" = some none)
    (hS₂ : h2.get? S' = some o') {e0 : Nat} (ho' : o' = { cls := .type "list", data := .seq #[] e0 }) (hne : S' ≠ I)
    (iter : ∀ (Q' : Value → Shared → Prop), (∀ h₃ tk₃, h2.StaysIn h₃ → Q' (.ref I) ⟨h₃, g, d, tk₃, o⟩) → wpAny (model PG w) A (call (.ref f2) [.ref I]) Q' No ⟨h2, g, d, tk, o⟩)
    (done : ∀ h5 tk5, (∀ b ob, b ≠ S' → h2.get? b = some ob → h5.get? b = some ob) → h5.PlainList S' #[] → P (.again (.builtin "list.extend.loop" ⟨[.ref S', .ref I, res], []⟩)) ⟨h5, g, d, tk5, o⟩) :
    wpAny (model PG w) A (Builtin.List.listExtendWith (.ref S') (.ref I) res) P E ⟨h2, g, d, tk, o⟩ := by
  subst ho'
  unfold Builtin.List.listExtendWith
  refine wpAny_bind (In2.type.here ?_)
  have h1 : Builtin.List.listSameRef (.ref S') (.ref I) = false := by simp [Builtin.List.listSameRef, hne]
  have h2' : (Value.ref C == Value.type "list") = false := by rfl
  have h3 : (Value.ref C == Value.type "tuple") = false := by rfl
  simp only [h1, h2', h3, Bool.or_false, Bool.false_eq_true, if_false]
  refine wpAny_bind (owit_iter F2 X In2 hi hf2 (wpAny_noRaise (iter _ fun h3 tk3 st3 => ?_)))
  have In3 : InstAt h3 I ox C od := ⟨st3 _ _ In2.at_, In2.cls, In2.no, by
    have := In2.dict
    cases e1 : ox.dict with
    | none => cases e2 : od with
      | none => trivial
      | some _ => rw [e1, e2] at this; exact this
    | some dx => cases e2 : od with
      | none => rw [e1, e2] at this; exact this
      | some o2 => rw [e1, e2] at this; exact st3 _ _ this⟩
  have F3 := Fr.stay F2 st3
  refine owit_it F3 X In3 hn ?_
  refine wpAny_bind (wpAny_holding ?_)
  unfold Builtin.List.listLengthHint
  have X3 := X.keeps F3.keep
  refine wpAny_bind (wpAny_bind (In3.type.here ((looks_findIn X3 hlen).here ?_)))
  show wpAny _ _ (specialOf (Value.ref I) (Str.ofString "__length_hint__") >>= _) _ _ _
  refine wpAny_bind (wpAny_bind (In3.type.here ((looks_findIn X3 hhint).here ?_)))
  refine wpAny_pure ?_
  show wpAny _ _ (rule "list.extend.makes-room" >>= fun _ => Builtin.List.listTouch (.ref S') >>= fun _ => again (.builtin "list.extend.loop" ⟨[.ref S', .ref I, res], []⟩)) _ _ _
  refine wpAny_bind (wpAny_rule ?_)
  refine wpAny_bind ?_
  show wpAny _ _ (updateSeq S' (·.push .none) >>= fun _ => updateSeq S' (·.pop)) _ _ _
  have hS₃ := st3 _ _ hS₂
  refine wpAny_bind (wpAny_updateSeq hS₃ rfl ?_)
  have hS₄ := Heap.get?_update_self (Obj.mapSeq (·.push Value.none)) hS₃ rfl
  refine wpAny_updateSeq (hz := by seq_fits) hS₄ rfl ?_
  have hS₅ := Heap.get?_update_self (Obj.mapSeq (·.pop)) hS₄ rfl
  have oth : ∀ b ob, b ≠ S' → h3.get? b = some ob → ((h3.update S' (Obj.mapSeq (·.push Value.none))).update S' (Obj.mapSeq (·.pop))).get? b = some ob :=
    fun b ob hb e => (Heap.get?_update_other _ _ (Ne.symm hb)).trans ((Heap.get?_update_other _ _ (Ne.symm hb)).trans e)
  generalize Heap.update _ _ _ = h5 at hS₅ oth ⊢
  exact wpAny_pure (done h5 _ (fun b ob hb e => oth b ob hb (st3 b ob e)) ⟨_, hS₅⟩)
/-- what a call leaves that has read a filterfalse to its end -/
noncomputable def FfKeep (out : List Env) (x dx It : Addr) (h h' : Heap) : Prop := KeepX (out.filterMap (·.frame)) (hideAll h [It, x, dx]) h'
section
variable {x dx a It B St : Addr} {xs ys : List Str} {va : List Value} {g : Array GenState} {d : Drawn} {tk : Nat} {o : OsState} {L : Addr} {m : Str → Option Value} {E : Value → Shared → Prop}
set_option maxHeartbeats 2000000 in
theorem collect_ff {Q : List Value → Shared → Prop}
    (hout : A.frames = some out) (S : Std w p loose mean mg mb (n + 2) A base h) (F0 : Fr H L h m) (hbH : base.StaysIn H) (hbs : base.objs.size ≤ H.objs.size) (hN : ∀ q ∈ [It, x, dx], H.get? q = none ∧ q ≠ L)
    (hf : ∀ env ∈ out, ∀ q ∈ [It, x, dx], env.frame ≠ some q) (I : FF w x dx a It B St xs ys va h) (hlen : xs.length ≤ 1000)
    (k : ∀ zs h' tk', FfKeep out x dx It h h' → StrsAre zs (sub xs ys) → Q zs ⟨h', g, d, tk', o⟩) :
    wpAny (model PG w) A (collect (.ref x)) Q E ⟨h, g, d, tk, o⟩ := by
  have X : (hd.heap_1 w.params).In H := S.XB.keeps hbH
  have fresh : h.get? h.objs.size = none := Heap.get?_none_of_le (Nat.le_refl _)
  unfold collect
  refine wpAny_bind (wpAny_runValue (codeAny_builtin entry_proto_collect' ?_))
  show wpAny _ _ (do again (.builtin "list.__iadd__" ⟨[← newList [], .ref x], []⟩)) _ _ _
  refine wpAny_bind (wpAny_newList (wpAny_pure ⟨Code.quiet_builtin _ (by decide +kernel), codeAny_builtin entry_list_iadd' ?_⟩))
  show wpAny _ _ (Builtin.List.listExtendWith (.ref h.objs.size) (.ref x) (.ref h.objs.size)) _ _ ⟨h.push (seqObj "list" #[] 0), g, d, tk, o⟩
  have st1 : h.StaysIn (h.push (seqObj "list" #[] 0)) := fun b ob e => Heap.get?_push_of_some _ e
  have hS1 : (h.push (seqObj "list" #[] 0)).get? h.objs.size = some (seqObj "list" #[] 0) := Heap.get?_push_size _ rfl
  generalize hh1 : h.push (seqObj "list" #[] 0) = h1 at st1 hS1
  clear hh1
  have I1 := I.stay st1
  have F1 := Fr.stay F0 st1
  have nS : ∀ b ob, h.get? b = some ob → b ≠ h.objs.size := fun b ob e => Nat.ne_of_lt (Heap.lt_size e)
  have nH : ∀ b ob, H.get? b = some ob → b ≠ h.objs.size := fun b ob e => nS b ob (F0.keep _ _ e)
  obtain ⟨oL, _, _, eL, _⟩ := F0.ns
  obtain ⟨oSt, _, _, _, eSt, _⟩ := id I.set
  obtain ⟨oa, ea, _⟩ := id I.list
  have hSf : ∀ env ∈ out, env.frame ≠ some h.objs.size := fun env he hq => by
    obtain ⟨o1, _, _, e1, _⟩ := (S.B out hout).2 _ (List.mem_filterMap.mpr ⟨env, he, hq⟩)
    exact nS _ _ e1 rfl
  generalize h.objs.size = S' at *
  have S1 : Std w p loose mean mg mb (n + 2) A base h1 := S.moved (Nat.le_trans hbs (Nat.le_trans F1.above (Nat.le_of_lt F1.ns.lt))) (fun b ob e => F1.keep b ob (hbH b ob e)) fun out' e' b hb ob e => st1 _ _ e
  refine extendWith_own (f := 118) (f2 := 111) (C := 122) (ox := ffObj dx (.ref It) (.ref B)) (od := some emptyDict) F1 X ⟨I1.obj, rfl, rfl, I1.dict⟩ ?i1 ?i3 ?i4 ?i5 ?i6 hS1 rfl (nS _ _ I.obj).symm (fun Q' hQ' => ?_) (fun h5 tk5 k5 hS5 => ?_)
  case i1 => k_is
  case i3 => k_is
  case i4 => k_is
  case i5 => k_is
  case i6 => k_is
  · exact wpAny_call (iter_tells (n := n) 111 (.inr rfl) x _ base _ _ (Std.under S1 (Nat.le_of_ble_eq_true rfl) (Nat.le_of_ble_eq_true rfl)) trivial fun v h2 tk2 st2 hv => hv ▸ hQ' _ _ st2)
  · have st5 : h.StaysIn h5 := fun b ob e => k5 _ _ (nS _ _ e) (st1 _ _ e)
    have F5 := Fr.stay F0 st5
    have S5 : Std w p loose mean mg mb (n + 2) A base h5 := S.moved (Nat.le_trans hbs (Nat.le_trans F5.above (Nat.le_of_lt F5.ns.lt))) (fun b ob e => F5.keep b ob (hbH b ob e)) fun out' e' b hb ob e => st5 _ _ e
    refine ⟨plainId_quiet F.plain_extend_loop _, ff_loop (n := n) hout S5 F5 hbH hbs hN hf (I.stay st5) hlen hS5 ?_ ?_ hSf ?_ ?_ ?_ ?_ fun zs h6 tk6 kp fr ⟨c6, e6⟩ hz => ?_⟩
    · cases z : H.get? S' with
      | none => rfl
      | some ob => exact absurd rfl (nH _ _ z)
    · exact (nS _ _ eL).symm
    · intro hm
      simp only [List.mem_cons, List.not_mem_nil, or_false] at hm
      rcases hm with q | q | q
      · exact nS _ _ I.it q.symm
      · exact nS _ _ I.obj q.symm
      · exact nS _ _ I.dict q.symm
    · exact nS _ _ I.bound
    · exact nS _ _ eSt
    · exact nS _ _ ea
    · refine wpAny_bind (wpAny_load e6 ?_)
      refine wpAny_pure ?_
      refine k _ _ _ ⟨fun b ob e nf => ?_, fun b ob e hb => ?_⟩ hz
      · have e' := of_hideAll _ e
        have hn : b ∉ [It, x, dx] := fun hm => by (first | exact (ne_get e (hideAll_none _ hm) rfl).elim | exact (ne_get (hideAll_none _ hm) e rfl).elim | (rw [hideAll_none _ hm] at e; cases e))
        simp only [List.mem_cons, List.not_mem_nil, or_false, not_or] at hn
        exact kp b ob hn.1 (nS _ _ e') hn.2.1 hn.2.2 nf (st5 _ _ e')
      · exact fr b ob hb (st5 _ _ (of_hideAll _ e))
set_option maxHeartbeats 2000000 in
/-- list() of a filterfalse -/
theorem list_ff {Q : Value → Shared → Prop}
    (hout : A.frames = some out) (S : Std w p loose mean mg mb (n + 3) A base h) (F0 : Fr H L h m) (hbH : base.StaysIn H) (hbs : base.objs.size ≤ H.objs.size) (hN : ∀ q ∈ [It, x, dx], H.get? q = none ∧ q ≠ L)
    (hf : ∀ env ∈ out, ∀ q ∈ [It, x, dx], env.frame ≠ some q) (I : FF w x dx a It B St xs ys va h) (hlen : xs.length ≤ 1000)
    (k : ∀ D zs h' tk', FfKeep out x dx It h h' → (hideAll h [It, x, dx]).get? D = none → h'.PlainList D zs.toArray → StrsAre zs (sub xs ys) → Q (.ref D) ⟨h', g, d, tk', o⟩) :
    wpAny (model PG w) A (call (.type "list") [.ref x]) Q E ⟨h, g, d, tk, o⟩ := by
  have X : (hd.heap_1 w.params).In H := S.XB.keeps hbH
  obtain ⟨oL, _, _, eL, _⟩ := F0.ns
  obtain ⟨oSt, _, _, _, eSt, _⟩ := id I.set
  obtain ⟨oa, ea, _⟩ := id I.list
  have mv : ∀ h₁ : Heap, h.StaysIn h₁ → Std w p loose mean mg mb (n + 3) A base h₁ := fun h₁ st => by
    have F1 := Fr.stay F0 st
    exact S.moved (Nat.le_trans hbs (Nat.le_trans F1.above (Nat.le_of_lt F1.ns.lt))) (fun b ob e => F1.keep b ob (hbH b ob e)) fun out' e' b hb ob e => st _ _ e
  refine list_own (f := 118) (f2 := 111) (C := 122) (ox := ffObj dx (.ref It) (.ref B)) (od := some emptyDict) F0 X ⟨I.obj, rfl, rfl, I.dict⟩ ?i1 ?i2 ?i3 ?i4 ?i5 ?i6 (fun h₁ Q' st hQ' => ?_) (fun D h5 tk5 R hD st5 hD5 hR => ?_)
  case i1 => k_is
  case i2 => k_is
  case i3 => k_is
  case i4 => k_is
  case i5 => k_is
  case i6 => k_is
  · exact wpAny_call (iter_tells (n := n) 111 (.inr rfl) x _ base _ _ (Std.in1 (Std.in1 (mv _ st))) trivial fun v h2 tk2 st2 hv => hv ▸ hQ' _ _ st2)
  · have nS : ∀ b ob, h.get? b = some ob → b ≠ D := fun b ob e q => by (first | exact (ne_get e (hD) (q)).elim | exact (ne_get (hD) e (q)).elim | (rw [q, hD] at e; cases e))
    have F5 := Fr.stay F0 st5
    refine ff_loop (n := n) hout (Std.in1 (mv _ st5)) F5 hbH hbs hN hf (I.stay st5) hlen hD5 ?_ ?_ ?_ ?_ ?_ ?_ ?_ fun zs h6 tk6 kp fr hz6 hz => ?_
    · cases z : H.get? D with
      | none => rfl
      | some ob => exact absurd rfl (nS _ _ (F0.keep _ _ z))
    · exact (nS _ _ eL).symm
    · intro env he hq
      obtain ⟨o1, _, _, e1, _⟩ := (S.B out hout).2 _ (List.mem_filterMap.mpr ⟨env, he, hq⟩)
      exact nS _ _ e1 rfl
    · intro hm
      simp only [List.mem_cons, List.not_mem_nil, or_false] at hm
      rcases hm with q | q | q
      · exact nS _ _ I.it q.symm
      · exact nS _ _ I.obj q.symm
      · exact nS _ _ I.dict q.symm
    · exact nS _ _ I.bound
    · exact nS _ _ eSt
    · exact nS _ _ ea
    · refine hR _ (k D zs _ _ ⟨fun b ob e nf => ?_, fun b ob e hb => ?_⟩ (by
        cases z : (hideAll h [It, x, dx]).get? D with
        | none => rfl
        | some ob => exact absurd rfl (nS _ _ (of_hideAll _ z))) hz6 hz)
      · have e' := of_hideAll _ e
        have hn : b ∉ [It, x, dx] := fun hm => by (first | exact (ne_get e (hideAll_none _ hm) rfl).elim | exact (ne_get (hideAll_none _ hm) e rfl).elim | (rw [hideAll_none _ hm] at e; cases e))
        simp only [List.mem_cons, List.not_mem_nil, or_false, not_or] at hn
        exact kp b ob hn.1 (nS _ _ e') hn.2.1 hn.2.2 nf (st5 _ _ e')
      · exact fr b ob hb (st5 _ _ (of_hideAll _ e))
set_option maxHeartbeats 2000000 in
/-- sorted() of a filterfalse -/
theorem sorted_ff {Q : Value → Shared → Prop}
    (hout : A.frames = some out) (S : Std w p loose mean mg mb (n + 4) A base h) (F0 : Fr H L h m) (hbH : base.StaysIn H) (hbs : base.objs.size ≤ H.objs.size) (hN : ∀ q ∈ [It, x, dx], H.get? q = none ∧ q ≠ L)
    (hf : ∀ env ∈ out, ∀ q ∈ [It, x, dx], env.frame ≠ some q) (I : FF w x dx a It B St xs ys va h) (hlen : xs.length < 64)
    (k : ∀ D zs ss h' tk', FfKeep out x dx It h h' → (hideAll h [It, x, dx]).get? D = none → h'.PlainList D (List.toArray zs) → StrsAre zs ss → ss.Perm (sub xs ys) → sortedS ss = true → Q (.ref D) ⟨h', g, d, tk', o⟩) :
    wpAny (model PG w) A (call (.builtin "sorted") [.ref x]) Q E ⟨h, g, d, tk, o⟩ := by
  refine Calls.call_function_entry kind_sorted plain_sorted entry_sorted (args_sorted1 _) ?_
  unfold Builtin.«sorted»
  refine wpAny_bind (m := checkCount "sorted" 1 1 _) (wpAny_pure ?_)
  refine wpAny_bind (collect_ff (n := n + 1) hout (Std.in1 S) F0 hbH hbs hN hf I (by exact (Nat.le_trans (Nat.le_of_lt hlen) (by decide))) fun zs h1 tk1 K1 hz => ?_)
  have h64 : zs.length < 64 := by
    rw [strs_len hz]
    exact Nat.lt_of_le_of_lt (List.length_filter_le _ _) hlen
  refine wpAny_bind (wpAny_newList ?_ (by rw [sizeLine_eq]; exact (Nat.le_trans (Nat.le_of_lt h64) (by decide))))
  have hoL : (h1.push (seqObj "list" zs.toArray 0)).get? h1.objs.size = some (seqObj "list" zs.toArray 0) := Heap.get?_push_size _ rfl
  have up1 : h1.StaysIn (h1.push (seqObj "list" zs.toArray 0)) := fun b ob e => Heap.get?_push_of_some _ e
  have lt1 : ∀ b ob, h1.get? b = some ob → b ≠ h1.objs.size := fun b ob e => Nat.ne_of_lt (Heap.lt_size e)
  show wpAny _ _ _ _ _ ⟨h1.push (seqObj "list" zs.toArray 0), g, d, tk1, o⟩
  have hDn : h1.get? h1.objs.size = none := Heap.get?_none_of_le (Nat.le_refl _)
  generalize h1.push (seqObj "list" zs.toArray 0) = h2 at hoL up1
  generalize h1.objs.size = D at *
  refine wpAny_bind (wpAny_holding (wpAny_call_entry slot_list_sort ⟨_, hoL, rfl⟩ entry_list_sort (list_sort_treeK strKind_oneLt hoL hz.keysOf (fun v₁ v₂ rest e => keyKind_strs (by rw [← e]; exact hz)) h64 fun st' a1 a2 => ⟨_, rfl, ?_⟩) (args_list_sort _)))
  refine wpAny_pure ⟨_, rfl, ?_⟩
  obtain ⟨ss, b1, b2, b3⟩ := sorted_out_str hz a1 a2
  obtain ⟨e9, h9⟩ := sortedHeap_at (vs := zs) (out := (arrOf st').map (·.2)) hoL
  have old : ∀ b ob, h1.get? b = some ob → (sortedHeap h2 D zs ((arrOf st').map (·.2))).get? b = some ob := fun b ob e => by
    rw [sortedHeap_old (lt1 _ _ e) (Heap.lt_size (up1 _ _ e))]; exact up1 _ _ e
  refine k D ((arrOf st').map (·.2)).toList ss _ _ (K1.trans (KeepX.of_stays old)) ?_ ⟨e9, by rw [Array.toArray_toList]; exact h9⟩ b1 b2 b3
  cases z : (hideAll h [It, x, dx]).get? D with
  | none => rfl
  | some ob =>
    obtain ⟨sl, e⟩ := K1.up z
    exact absurd rfl (lt1 _ _ e)
end
end
end Mine

end
section
open PySem PySem.W PyProof.Rows PySem.Spec PySem.Calls
namespace Mine
noncomputable def goneAll (ps disk : List Int) : List Int := ps.foldl (fun d q => d.filter fun x => x != q) disk
theorem goneAll_len {N : Nat} : ∀ {ps disk : List Int}, disk.length ≤ N → (goneAll ps disk).length ≤ N
  | [], _, h => h
  | q :: _, disk, h => goneAll_len (disk := disk.filter fun x => x != q) (Nat.le_trans (List.length_filter_le _ _) h : (List.filter _ _).length ≤ N)
theorem goneAll_sub {x : Int} : ∀ {ps disk : List Int}, x ∈ goneAll ps disk → x ∈ disk
  | [], _, h => h
  | _ :: _, _, h => (List.mem_filter.mp (goneAll_sub h)).1
inductive GJ (gp disk : List Int) (tx md : Addr) (cP cA : Addr) (oA : Obj) (i : Nat) (H : Heap) (L : Addr) (m : Str → Option Value) (news : List (Addr × Obj)) : Prop
  | mk (a : Addr) (vs : List Value) (oP : Obj) (x : Option Value) (rest : List (Addr × Obj)) (e1 : m "disk" = some (.ref a)) (e2 : m "made" = some (.ref md)) (e3 : m "texts" = some (.ref tx)) (hi : IntsAre vs (goneAll (gp.take i) disk)) (hx : oP.data = .cell x) (en : news = (cP, oP) :: (cA, oA) :: rest) (hr : ∀ q ∈ rest, q.1 ≠ cP)
    (hl : ∀ h' m', Fr H L h' m' → News H L h' rest → h'.IsList a vs.toArray)
inductive MJ (disk mp : List Int) (tx : Addr) (cP cA : Addr) (oA : Obj) (i : Nat) (H : Heap) (L : Addr) (m : Str → Option Value) (news : List (Addr × Obj)) : Prop
  | mk (a : Addr) (vs : List Value) (oP : Obj) (x : Option Value) (rest : List (Addr × Obj)) (e1 : m "disk" = some (.ref a)) (e3 : m "texts" = some (.ref tx)) (hi : IntsAre vs (disk ++ mp.take i)) (hx : oP.data = .cell x) (en : news = (cP, oP) :: (cA, oA) :: rest) (hr : ∀ q ∈ rest, q.1 ≠ cP)
    (hl : ∀ h' m', Fr H L h' m' → News H L h' rest → h'.IsList a vs.toArray)
section
variable {w : World} {p : Program} {loose : List Str} {mean : ExcName → Option Value} {mg mb : Str → Option Value} {n : Nat}
set_option maxHeartbeats 4000000 in
theorem disk_tells (disk gp mp above : List Int) (ts : List Str) (dk go md ab tx : Addr) (hlen : disk.length ≤ 20) (hml : mp.length ≤ 20) (htl : ts.length ≤ 1000) (hal : above.length = ts.length) (hnd : ts.Nodup) (hts : ∀ x ∈ ts, x.length ≤ 100)
    (hdr : ∀ q ∈ disk, 0 ≤ q ∧ q < ts.length) (hgr : ∀ q ∈ gp, 0 ≤ q ∧ q < ts.length) (hmr : ∀ q ∈ mp, 0 ≤ q ∧ q < ts.length)
    (hG : ∀ k (hk : k < gp.length), gp[k] ∈ goneAll (gp.take k) disk ∧ ∀ one ∈ goneAll (gp.take k) disk, above.getD one.toNat 0 ≠ gp[k])
    (hM : ∀ k (hk : k < mp.length), mp[k] ≠ 0 ∧ mp[k] ∉ goneAll gp disk ++ mp.take k ∧ above.getD (mp[k]).toNat 0 ∈ 0 :: (goneAll gp disk ++ mp.take k)) :
    Tells w p loose mean mg mb (n + 3) 205 [.ref dk, .ref go, .ref md, .ref ab, .ref tx] (fun h => AtIntsL h dk disk ∧ AtStrsL h go (gp.map fun q => ts.getD q.toNat Str.empty) ∧ AtStrsL h md (mp.map fun q => ts.getD q.toNat Str.empty) ∧ AtIntsL h ab above ∧ AtStrs h tx ts)
      (fun h h' v => ∃ r us ss, v = .ref r ∧ h.get? r = none ∧ (∃ k, h'.get? r = some (W.listOf (List.toArray us) k)) ∧ IntsAre us ss ∧ ss.Perm (goneAll gp disk ++ mp) ∧ ss.Pairwise (· ≤ ·)) := by
  rintro A base ⟨H, g, d, tk, o⟩ R S ⟨hdk, hgo, hmd, hab, htx⟩ hR
  have X := S.X
  have T := S.T
  refine' enterC [("disk", .ref dk), ("gone", .ref go), ("made", .ref md), ("above", .ref ab), ("texts", .ref tx)] S (fun _ _ e => e) (Nat.le_refl _) ?k6 ?k7 ?kb ?kl ?kn ?c1 ?c2 ?c3 ?_
  case k6 => k_is
  case k7 => k_is
  case kb => exact rfl
  case kl => exact rfl
  case kn => decide
  case c1 => exact rfl
  case c2 => exact rfl
  case c3 => exact rfl
  intro L dp un fr gd h₁ tk₁ cells Q I _ _ F N Y hQ _
  clear S
  obtain ⟨o1, o2, rfl, hc1, hc2⟩ := CellsAre.two Y
  clear Y
  replace hc1 : o1.data = .cell none := hc1
  replace hc2 : o2.data = .cell (some (.ref ab)) := hc2
  (repeat' (first | k_data | ((fail_if_success (with_reducible show wpAny _ _ (exec (Stmt.For _ _ _ _ _) _) _ _ _)); (fail_if_success (with_reducible show wpAny _ _ (eval (Expr.ListComp _ _ _ _) _) _ _ _)); (fail_if_success (with_reducible show wpAny _ _ (exec (Stmt.Assign _ (Expr.ListComp _ _ _ _) _) _) _ _ _)); walk1; try dsimp only) | (with_reducible refine ite_no ?_) | (with_reducible refine ite_yes ?_)))
  have hh := (I _ _ F).hh
  have gl : ∀ {h' m'}, Fr H L h' m' → ∀ {a its}, H.IsList a its → h'.IsList a its := fun F' _ _ e => F'.lst e
  obtain ⟨vg, hvg, hig⟩ := id hgo
  refine wpAny_For ?_ (fun _ => rfl)
  (repeat' (first | k_data | ((fail_if_success (with_reducible show wpAny _ _ (exec (Stmt.For _ _ _ _ _) _) _ _ _)); (fail_if_success (with_reducible show wpAny _ _ (eval (Expr.ListComp _ _ _ _) _) _ _ _)); (fail_if_success (with_reducible show wpAny _ _ (exec (Stmt.Assign _ (Expr.ListComp _ _ _ _) _) _) _ _ _)); walk1; try dsimp only) | (with_reducible refine ite_no ?_) | (with_reducible refine ite_yes ?_)))
  refine forList (fun H' => H' = H) (fun i H' m news => GJ gp disk tx md (L + 1 + 1) (L + 1) o2 i H' L m news) (F.lst hvg) (fun i H' h' m news e F' _ _ => (e ▸ F').lst hvg) hh rfl rfl rfl rfl F N ?_ ?_ ?_
  · obtain ⟨vd, hvd, hid⟩ := id hdk
    exact ⟨dk, vd, o1, _, [], rfl, rfl, rfl, hid, hc1, rfl, (fun _ h => nomatch h), fun h' m' F' _ => F'.lst hvd⟩
  · rintro i It H' oI v m₁ _ h₂ tk₂ Qt hv rfl F2 N2 cI hn ⟨a, vs, oP, x, rest, e1, e2, e3, hvs, hcP, rfl, hrc, hst⟩ hT _ _
    replace F2 : Fr H' L h₂ _ := Fr.norm F2 [("text", v), ("disk", .ref a), ("made", .ref md), ("texts", .ref tx)] (by refine all_cons ?_ (all_cons ?_ (all_cons ?_ (all_cons ?_ all_nil))); exact if_pos rfl; exact mset_ne (y := "disk") (by decide) e1; exact mset_ne (y := "made") (by decide) e2; exact mset_ne (y := "texts") (by decide) e3)
    have hi : i < gp.length := by have := (List.getElem?_eq_some_iff.mp hv).1; rw [strs_len hig, List.length_map] at this; exact this
    obtain ⟨tt, hvt⟩ := strs_at hig (i := i) (by rw [List.length_map]; exact hi)
    obtain rfl : v = .str (ts.getD (gp[i]).toNat Str.empty) tt := by
      rw [hvt, getD_map_at hi] at hv; exact (Option.some.inj hv).symm
    obtain ⟨q0, q1⟩ := hgr _ (List.getElem_mem hi)
    obtain ⟨g1, g2⟩ := hG i hi
    obtain ⟨xm, xi⟩ := idx_of_nodup hnd (k := (gp[i]).toNat) (by exact (Mine.toNat_lt_len q0 q1))
    have hiq : ((ts.idxOf (ts.getD (gp[i]).toNat Str.empty) : Nat) : Int) = gp[i] := by rw [xi]; exact (Int.toNat_of_nonneg q0)
    have hgq : gp[i]? = some gp[i] := List.getElem?_eq_getElem hi
    generalize ts.getD (gp[i]).toNat Str.empty = x at *
    generalize gp[i] = q at *
    clear F N hvg hvt
    obtain ⟨vt, ⟨kt, hvt⟩, hit⟩ := id htx
    have hvt2 : h₂.IsList tx vt.toArray := F2.lst ⟨_, hvt, rfl, _, rfl⟩
    have het2 := F2.keep _ _ hvt
    (repeat' (first | k_data | ((fail_if_success (with_reducible show wpAny _ _ (exec (Stmt.For _ _ _ _ _) _) _ _ _)); (fail_if_success (with_reducible show wpAny _ _ (eval (Expr.ListComp _ _ _ _) _) _ _ _)); (fail_if_success (with_reducible show wpAny _ _ (exec (Stmt.Assign _ (Expr.ListComp _ _ _ _) _) _) _ _ _)); walk1; try dsimp only) | (with_reducible refine ite_no ?_) | (with_reducible refine ite_yes ?_)))
    rotate_left
    · rename ((ts.any _) = false) => hf
      rw [List.any_eq_false] at hf
      exact absurd (by simp) (hf x xm)
    refine getMethod_builtin ⟨_, het2, rfl⟩ PySem.F.plainAttrs_list PySem.F.slot_list_index PySem.F.type_list_index (fun a e => by cases e; exact ⟨_, het2, rfl⟩) ?_
    (repeat' (first | k_data | ((fail_if_success (with_reducible show wpAny _ _ (exec (Stmt.For _ _ _ _ _) _) _ _ _)); (fail_if_success (with_reducible show wpAny _ _ (eval (Expr.ListComp _ _ _ _) _) _ _ _)); (fail_if_success (with_reducible show wpAny _ _ (exec (Stmt.Assign _ (Expr.ListComp _ _ _ _) _) _) _ _ _)); walk1; try dsimp only) | (with_reducible refine ite_no ?_) | (with_reducible refine ite_yes ?_)))
    refine index_strs hvt2 hit xm (by exact (Nat.le_trans htl (by decide))) ?_
    rw [hiq]
    (repeat' (first | k_data | ((fail_if_success (with_reducible show wpAny _ _ (exec (Stmt.For _ _ _ _ _) _) _ _ _)); (fail_if_success (with_reducible show wpAny _ _ (eval (Expr.ListComp _ _ _ _) _) _ _ _)); (fail_if_success (with_reducible show wpAny _ _ (exec (Stmt.Assign _ (Expr.ListComp _ _ _ _) _) _) _ _ _)); walk1; try dsimp only) | (with_reducible refine ite_no ?_) | (with_reducible refine ite_yes ?_)))
    refine stCN (own := [(It, oI)]) F2 N2 rfl hcP (by intro q hq; rw [List.mem_singleton.mp hq]; exact (hn (L + 1 + 1, oP) (.head _)).symm) (by intro q hq; rcases List.mem_cons.mp hq with rfl | hq; exact Nat.ne_of_lt (Nat.lt_succ_self _); exact hrc q hq) fun h3 oP' F3 N3 hcP' => ?_
    have hva3 : h3.IsList a vs.toArray := hst _ _ F3 fun q hq => N3 q (.tail _ (.tail _ (.tail _ hq)))
    clear F2 N2 hvt2
    (repeat' (first | k_data | ((fail_if_success (with_reducible show wpAny _ _ (exec (Stmt.For _ _ _ _ _) _) _ _ _)); (fail_if_success (with_reducible show wpAny _ _ (eval (Expr.ListComp _ _ _ _) _) _ _ _)); (fail_if_success (with_reducible show wpAny _ _ (exec (Stmt.Assign _ (Expr.ListComp _ _ _ _) _) _) _ _ _)); walk1; try dsimp only) | (with_reducible refine ite_no ?_) | (with_reducible refine ite_yes ?_)))
    rotate_left
    · rename (((goneAll _ _).any _) = false) => hf
      rw [List.any_eq_false] at hf
      exact absurd (by simp) (hf q g1)
    refine comp_openR (by exact rfl) rfl rfl ?_
    (repeat' (first | k_data | ((fail_if_success (with_reducible show wpAny _ _ (exec (Stmt.For _ _ _ _ _) _) _ _ _)); (fail_if_success (with_reducible show wpAny _ _ (eval (Expr.ListComp _ _ _ _) _) _ _ _)); (fail_if_success (with_reducible show wpAny _ _ (exec (Stmt.Assign _ (Expr.ListComp _ _ _ _) _) _) _ _ _)); walk1; try dsimp only) | (with_reducible refine ite_no ?_) | (with_reducible refine ite_yes ?_)))
    have vsl : (goneAll (gp.take i) disk).length ≤ 20 := goneAll_len hlen
    refine comp_filterI (fun _ => false) F3 N3 hh hva3 hvs (by exact (Nat.le_trans vsl (by decide))) rfl rfl rfl rfl ?_ ?_
    · intro C one tv h5 tk5 mc Qb ho hmx F5 N5 _ hQb
      replace F5 := Fr.norm F5 [("one", .int one tv)] (by intro q hq; obtain rfl := List.mem_singleton.mp hq; exact hmx)
      replace N5 : News H' C h5 ((It, oI) :: (L + 1 + 1, oP') :: (L + 1, o2) :: rest) := N5
      obtain ⟨o0, o1⟩ := hdr _ (goneAll_sub ho)
      have hne := g2 _ ho
      obtain ⟨va, hva, hia⟩ := id hab
      obtain ⟨ta, hga⟩ := ints_at hia (i := one.toNat) (by omega)
      have hva5 : h5.IsList ab va.toArray := F5.lst hva
      clear F3 N3 hva3
      (repeat' (first | k_data | ((fail_if_success (with_reducible show wpAny _ _ (exec (Stmt.For _ _ _ _ _) _) _ _ _)); (fail_if_success (with_reducible show wpAny _ _ (eval (Expr.ListComp _ _ _ _) _) _ _ _)); (fail_if_success (with_reducible show wpAny _ _ (exec (Stmt.Assign _ (Expr.ListComp _ _ _ _) _) _) _ _ _)); walk1; try dsimp only) | (with_reducible refine ite_no ?_) | (with_reducible refine ite_yes ?_)))
      rw [beq_eq_false_iff_ne.mpr hne]
      exact hQb _
    · intro D C h5 tk5 ys mc hD hC hDC hnc st5 hpl hys
      rw [List.filter_eq_nil_iff.mpr (by simp)] at hys
      obtain rfl : ys = [] := List.eq_nil_of_length_eq_zero hys.length
      refine post_none hnc fun h6 k6 => ?_
      have keep : ∀ b ob, h3.get? b = some ob → h6.get? b = some ob := fun b ob e => k6 _ _ (fun q => by (first | exact (ne_get e (hC) (q)).elim | exact (ne_get (hC) e (q)).elim | (rw [q, hC] at e; cases e))) (st5 _ _ e)
      have F6 := Fr.stay F3 keep
      have N6 := News.stay N3 keep
      obtain ⟨kD, eD⟩ := hpl
      have eD6 := k6 _ _ hDC eD
      clear F3 N3 hva3
      (repeat' (first | k_data | ((fail_if_success (with_reducible show wpAny _ _ (exec (Stmt.For _ _ _ _ _) _) _ _ _)); (fail_if_success (with_reducible show wpAny _ _ (eval (Expr.ListComp _ _ _ _) _) _ _ _)); (fail_if_success (with_reducible show wpAny _ _ (exec (Stmt.Assign _ (Expr.ListComp _ _ _ _) _) _) _ _ _)); walk1; try dsimp only) | (with_reducible refine ite_no ?_) | (with_reducible refine ite_yes ?_)))
      refine wpAny_truthy_list (s := ⟨h6, g, d, _, o⟩) (items := #[]) ⟨_, eD6, rfl, _, rfl⟩ (by decide) ?_
      (repeat' (first | k_data | ((fail_if_success (with_reducible show wpAny _ _ (exec (Stmt.For _ _ _ _ _) _) _ _ _)); (fail_if_success (with_reducible show wpAny _ _ (eval (Expr.ListComp _ _ _ _) _) _ _ _)); (fail_if_success (with_reducible show wpAny _ _ (exec (Stmt.Assign _ (Expr.ListComp _ _ _ _) _) _) _ _ _)); walk1; try dsimp only) | (with_reducible refine ite_no ?_) | (with_reducible refine ite_yes ?_)))
      refine comp_assignR (by with_unfolding_all rfl) (by exact rfl) rfl rfl ?_
      (repeat' (first | k_data | ((fail_if_success (with_reducible show wpAny _ _ (exec (Stmt.For _ _ _ _ _) _) _ _ _)); (fail_if_success (with_reducible show wpAny _ _ (eval (Expr.ListComp _ _ _ _) _) _ _ _)); (fail_if_success (with_reducible show wpAny _ _ (exec (Stmt.Assign _ (Expr.ListComp _ _ _ _) _) _) _ _ _)); walk1; try dsimp only) | (with_reducible refine ite_no ?_) | (with_reducible refine ite_yes ?_)))
      have hva6 : h6.IsList a vs.toArray := hst _ _ F6 fun q hq => N6 q (.tail _ (.tail _ (.tail _ hq)))
      refine comp_filterI (fun y => y != q) F6 N6 hh hva6 hvs (by exact (Nat.le_trans vsl (by decide))) rfl rfl rfl rfl ?_ ?_
      · intro C one tv h7 tk7 mc Qb ho hmx F7 N7 _ hQb
        replace F7 := Fr.norm F7 [("one", .int one tv)] (by intro q hq; obtain rfl := List.mem_singleton.mp hq; exact hmx)
        replace N7 : News H' C h7 ((It, oI) :: (L + 1 + 1, oP') :: (L + 1, o2) :: rest) := N7
        clear F6 N6 hva6
        (repeat' (first | k_data | ((fail_if_success (with_reducible show wpAny _ _ (exec (Stmt.For _ _ _ _ _) _) _ _ _)); (fail_if_success (with_reducible show wpAny _ _ (eval (Expr.ListComp _ _ _ _) _) _ _ _)); (fail_if_success (with_reducible show wpAny _ _ (exec (Stmt.Assign _ (Expr.ListComp _ _ _ _) _) _) _ _ _)); walk1; try dsimp only) | (with_reducible refine ite_no ?_) | (with_reducible refine ite_yes ?_)))
        exact hQb _
      · intro D7 C7 h7 tk7 ys mc hD hC hDC hnc st7 hpl hys
        have F7 := Fr.stay F6 st7
        have N7 := News.stay N6 st7
        obtain ⟨oL6, _, _, eL6, _⟩ := F6.ns
        have hLC : L ≠ C7 := fun z => by (first | exact (ne_get eL6 (hC) (z)).elim | exact (ne_get (hC) eL6 (z)).elim | (rw [z, hC] at eL6; cases eL6))
        have hLD : D7 ≠ L := fun z => by (first | exact (ne_get eL6 (hD) (z).symm).elim | exact (ne_get (hD) eL6 (z).symm).elim | (rw [← z, hD] at eL6; cases eL6))
        refine post_assign hnc F7.ns hLC rfl rfl fun h8 tk8 hn8 k8 => ?_
        have hN : ∀ q ob, h6.get? q = some ob → q ≠ L → h8.get? q = some ob := fun q ob e b1 => k8 _ _ (fun z => by (first | exact (ne_get e (hC) (z)).elim | exact (ne_get (hC) e (z)).elim | (rw [z, hC] at e; cases e))) b1 (st7 _ _ e)
        have F8 : Fr H' L h8 _ := ⟨hn8, fun b ob e => hN _ _ (F6.keep _ _ e) (fun z => absurd (Nat.lt_of_lt_of_le (Heap.lt_size e) F6.above) (z ▸ Nat.lt_irrefl _)), F6.above⟩
        obtain ⟨kD7, eD7⟩ := hpl
        have hHn : ∀ b, h6.get? b = none → H'.get? b = none := fun b e => by
          exact get_gone (F6.keep _) e
        have N8 : News H' L h8 ((It, oI) :: (L + 1 + 1, oP') :: (L + 1, o2) :: [(D7, W.listOf ys.toArray kD7)]) := fun q hq => by
          rcases List.mem_cons.mp hq with rfl | hq
          · exact ⟨hN _ _ (N6 _ (.head _)).1 (N6 _ (.head _)).2.1, (N6 _ (.head _)).2⟩
          rcases List.mem_cons.mp hq with rfl | hq
          · exact ⟨hN _ _ (N6 _ (.tail _ (.head _))).1 (N6 _ (.tail _ (.head _))).2.1, (N6 _ (.tail _ (.head _))).2⟩
          rcases List.mem_cons.mp hq with rfl | hq
          · exact ⟨hN _ _ (N6 _ (.tail _ (.tail _ (.head _)))).1 (N6 _ (.tail _ (.tail _ (.head _)))).2.1, (N6 _ (.tail _ (.tail _ (.head _)))).2⟩
          obtain rfl := List.mem_singleton.mp hq
          exact ⟨k8 _ _ hDC hLD eD7, hLD, hHn _ hD⟩
        have nD : ∀ b ob, h6.get? b = some ob → b ≠ D7 := fun b ob e z => by (first | exact (ne_get e (hD) (z)).elim | exact (ne_get (hD) e (z)).elim | (rw [z, hD] at e; cases e))
        (repeat' (first | k_data | ((fail_if_success (with_reducible show wpAny _ _ (exec (Stmt.For _ _ _ _ _) _) _ _ _)); (fail_if_success (with_reducible show wpAny _ _ (eval (Expr.ListComp _ _ _ _) _) _ _ _)); (fail_if_success (with_reducible show wpAny _ _ (exec (Stmt.Assign _ (Expr.ListComp _ _ _ _) _) _) _ _ _)); walk1; try dsimp only) | (with_reducible refine ite_no ?_) | (with_reducible refine ite_yes ?_)))
        refine hT _ _ H' _ _ rfl F8 N8 ?_ ⟨D7, ys, oP', _, [(D7, _)], if_pos rfl, mset_ne (y := "made") (by decide) rfl, mset_ne (y := "texts") (by decide) rfl, ?_, hcP', rfl, ?_, fun h' m' _ N' => News.lst N' (.head _)⟩
        · intro q hq
          rcases List.mem_cons.mp hq with rfl | hq
          · exact hn (L + 1 + 1, oP) (.head _)
          rcases List.mem_cons.mp hq with rfl | hq
          · exact hn (L + 1, o2) (.tail _ (.head _))
          obtain rfl := List.mem_singleton.mp hq
          exact (nD _ _ (N6 _ (.head _)).1).symm
        · rw [List.take_add_one, hgq, goneAll, List.foldl_append]
          exact hys
        · intro q hq
          obtain rfl := List.mem_singleton.mp hq
          exact (nD _ _ (N6 _ (.tail _ (.head _))).1).symm
  · rintro h2 tk2 H' m2 _ rfl F2 N2 ⟨a, vs, oP, x, rest, e1, e2, e3, hvs, hcP, rfl, hrc, hst⟩
    replace F2 : Fr H' L h2 _ := Fr.norm F2 [("disk", .ref a), ("made", .ref md), ("texts", .ref tx)] (by refine all_cons ?_ (all_cons ?_ (all_cons ?_ all_nil)); exact e1; exact e2; exact e3)
    have hgn : gp.take vg.length = gp := List.take_of_length_le (by rw [strs_len hig, List.length_map]; exact Nat.le_refl _)
    rw [hgn] at hvs
    clear F N hvg
    obtain ⟨vm, hvm, him⟩ := id hmd
    (repeat' (first | k_data | ((fail_if_success (with_reducible show wpAny _ _ (exec (Stmt.For _ _ _ _ _) _) _ _ _)); (fail_if_success (with_reducible show wpAny _ _ (eval (Expr.ListComp _ _ _ _) _) _ _ _)); (fail_if_success (with_reducible show wpAny _ _ (exec (Stmt.Assign _ (Expr.ListComp _ _ _ _) _) _) _ _ _)); walk1; try dsimp only) | (with_reducible refine ite_no ?_) | (with_reducible refine ite_yes ?_)))
    refine wpAny_For ?_ (fun _ => rfl)
    (repeat' (first | k_data | ((fail_if_success (with_reducible show wpAny _ _ (exec (Stmt.For _ _ _ _ _) _) _ _ _)); (fail_if_success (with_reducible show wpAny _ _ (eval (Expr.ListComp _ _ _ _) _) _ _ _)); (fail_if_success (with_reducible show wpAny _ _ (exec (Stmt.Assign _ (Expr.ListComp _ _ _ _) _) _) _ _ _)); walk1; try dsimp only) | (with_reducible refine ite_no ?_) | (with_reducible refine ite_yes ?_)))
    refine forList (fun H2 => H2 = H') (fun i H2 m news => MJ (goneAll gp disk) mp tx (L + 1 + 1) (L + 1) o2 i H2 L m news) (F2.lst hvm) (fun i H2 h' m news e F' _ _ => (e ▸ F').lst hvm) hh rfl rfl rfl rfl F2 N2 ?_ ?_ ?_
    · exact ⟨a, vs, oP, _, rest, rfl, rfl, by rw [List.take_zero, List.append_nil]; exact hvs, hcP, rfl, hrc, hst⟩
    · rintro i It H2 oI v m₁ _ h₂ tk₂ Qt hv rfl F2 N2 cI hn ⟨a, vs, oP, x, rest, e1, e3, hvs, hcP, rfl, hrc, hst⟩ hT _ _
      replace F2 : Fr H2 L h₂ _ := Fr.norm F2 [("text", v), ("disk", .ref a), ("texts", .ref tx)] (by refine all_cons ?_ (all_cons ?_ (all_cons ?_ all_nil)); exact if_pos rfl; exact mset_ne (y := "disk") (by decide) e1; exact mset_ne (y := "texts") (by decide) e3)
      have hi : i < mp.length := by have := (List.getElem?_eq_some_iff.mp hv).1; rw [strs_len him, List.length_map] at this; exact this
      obtain ⟨tt, hvt⟩ := strs_at him (i := i) (by rw [List.length_map]; exact hi)
      obtain rfl : v = .str (ts.getD (mp[i]).toNat Str.empty) tt := by
        rw [hvt, getD_map_at hi] at hv; exact (Option.some.inj hv).symm
      obtain ⟨q0, q1⟩ := hmr _ (List.getElem_mem hi)
      obtain ⟨g0, g1, g2⟩ := hM i hi
      obtain ⟨xm, xi⟩ := idx_of_nodup hnd (k := (mp[i]).toNat) (by exact (Mine.toNat_lt_len q0 q1))
      have hiq : ((ts.idxOf (ts.getD (mp[i]).toNat Str.empty) : Nat) : Int) = mp[i] := by rw [xi]; exact (Int.toNat_of_nonneg q0)
      have hgq : mp[i]? = some mp[i] := List.getElem?_eq_getElem hi
      generalize ts.getD (mp[i]).toNat Str.empty = x at *
      generalize mp[i] = q at *
      clear hvm hvt
      obtain ⟨vt, ⟨kt, hvt⟩, hit⟩ := id htx
      have hvt2 : h₂.IsList tx vt.toArray := F2.lst ⟨_, hvt, rfl, _, rfl⟩
      have het2 := F2.keep _ _ hvt
      (repeat' (first | k_data | ((fail_if_success (with_reducible show wpAny _ _ (exec (Stmt.For _ _ _ _ _) _) _ _ _)); (fail_if_success (with_reducible show wpAny _ _ (eval (Expr.ListComp _ _ _ _) _) _ _ _)); (fail_if_success (with_reducible show wpAny _ _ (exec (Stmt.Assign _ (Expr.ListComp _ _ _ _) _) _) _ _ _)); walk1; try dsimp only) | (with_reducible refine ite_no ?_) | (with_reducible refine ite_yes ?_)))
      rotate_left
      · rename ((ts.any _) = false) => hf
        rw [List.any_eq_false] at hf
        exact absurd (by simp) (hf x xm)
      refine getMethod_builtin ⟨_, het2, rfl⟩ PySem.F.plainAttrs_list PySem.F.slot_list_index PySem.F.type_list_index (fun a e => by cases e; exact ⟨_, het2, rfl⟩) ?_
      (repeat' (first | k_data | ((fail_if_success (with_reducible show wpAny _ _ (exec (Stmt.For _ _ _ _ _) _) _ _ _)); (fail_if_success (with_reducible show wpAny _ _ (eval (Expr.ListComp _ _ _ _) _) _ _ _)); (fail_if_success (with_reducible show wpAny _ _ (exec (Stmt.Assign _ (Expr.ListComp _ _ _ _) _) _) _ _ _)); walk1; try dsimp only) | (with_reducible refine ite_no ?_) | (with_reducible refine ite_yes ?_)))
      refine index_strs hvt2 hit xm (by exact (Nat.le_trans htl (by decide))) ?_
      rw [hiq]
      (repeat' (first | k_data | ((fail_if_success (with_reducible show wpAny _ _ (exec (Stmt.For _ _ _ _ _) _) _ _ _)); (fail_if_success (with_reducible show wpAny _ _ (eval (Expr.ListComp _ _ _ _) _) _ _ _)); (fail_if_success (with_reducible show wpAny _ _ (exec (Stmt.Assign _ (Expr.ListComp _ _ _ _) _) _) _ _ _)); walk1; try dsimp only) | (with_reducible refine ite_no ?_) | (with_reducible refine ite_yes ?_)))
      refine stCN (own := [(It, oI)]) F2 N2 rfl hcP (by intro q hq; rw [List.mem_singleton.mp hq]; exact (hn (L + 1 + 1, oP) (.head _)).symm) (by intro q hq; rcases List.mem_cons.mp hq with rfl | hq; exact Nat.ne_of_lt (Nat.lt_succ_self _); exact hrc q hq) fun h3 oP' F3 N3 hcP' => ?_
      have hva3 : h3.IsList a vs.toArray := hst _ _ F3 fun q hq => N3 q (.tail _ (.tail _ (.tail _ hq)))
      obtain ⟨va, hva, hia⟩ := id hab
      obtain ⟨ta, hga⟩ := ints_at hia (i := q.toNat) (by omega)
      have hvab3 : h3.IsList ab va.toArray := F3.lst hva
      clear F2 N2 hvt2
      (repeat' (first | k_data | ((fail_if_success (with_reducible show wpAny _ _ (exec (Stmt.For _ _ _ _ _) _) _ _ _)); (fail_if_success (with_reducible show wpAny _ _ (eval (Expr.ListComp _ _ _ _) _) _ _ _)); (fail_if_success (with_reducible show wpAny _ _ (exec (Stmt.Assign _ (Expr.ListComp _ _ _ _) _) _) _ _ _)); walk1; try dsimp only) | (with_reducible refine ite_no ?_) | (with_reducible refine ite_yes ?_)))
      · exact absurd ‹q = 0› g0
      · rename ((List.any _ _) = true) => hf
        rw [List.any_eq_true] at hf
        obtain ⟨y, hy, e⟩ := hf
        exact absurd (by rw [← (by simpa using e : y = q)]; exact hy) g1
      rename Fr _ _ _ _ => F4
      rename News _ _ _ _ => N4
      have hva4 := hst _ _ F4 (fun q hq => N4 q (.tail _ (.tail _ (.tail _ (.tail _ hq)))))
      refine add_lists F4 N4 (News.lst N4 (.head _)) hva4 (fun h5 F5 N5 => ?_) (by rw [sizeLine_eq]; simp only [List.length_cons, List.length_nil]; have := hvs.length; have := goneAll_len (ps := gp) hlen; rw [List.length_append, List.length_take] at *; omega)
      refine notin_ints (ns := 0 :: (goneAll gp disk ++ mp.take i)) (News.lst N5 (.head _)) (.cons _ _ hvs) ?_
      rw [decide_eq_true g2]
      clear F4 N4 hva4
      (repeat' (first | k_data | ((fail_if_success (with_reducible show wpAny _ _ (exec (Stmt.For _ _ _ _ _) _) _ _ _)); (fail_if_success (with_reducible show wpAny _ _ (eval (Expr.ListComp _ _ _ _) _) _ _ _)); (fail_if_success (with_reducible show wpAny _ _ (exec (Stmt.Assign _ (Expr.ListComp _ _ _ _) _) _) _ _ _)); walk1; try dsimp only) | (with_reducible refine ite_no ?_) | (with_reducible refine ite_yes ?_)))
      rename Fr _ _ _ _ => F6
      rename News _ _ _ _ => N6
      have hva6 := hst _ _ F6 (fun q hq => N6 q (.tail _ (.tail _ (.tail _ (.tail _ (.tail _ (.tail _ hq)))))))
      have eIt := Heap.lt_size (N6 (It, oI) (.tail _ (.tail _ (.tail _ (.head _))))).1
      have ecP := Heap.lt_size (N6 (L + 1 + 1, oP') (.tail _ (.tail _ (.tail _ (.tail _ (.head _)))))).1
      refine add_lists F6 N6 hva6 (News.lst N6 (.head _)) (fun h7 F7 N7 => ?_) (by rw [sizeLine_eq]; simp only [List.length_cons, List.length_nil]; have := hvs.length; have := goneAll_len (ps := gp) hlen; rw [List.length_append, List.length_take] at *; omega)
      clear F6 N6 hva6
      (repeat' (first | k_data | ((fail_if_success (with_reducible show wpAny _ _ (exec (Stmt.For _ _ _ _ _) _) _ _ _)); (fail_if_success (with_reducible show wpAny _ _ (eval (Expr.ListComp _ _ _ _) _) _ _ _)); (fail_if_success (with_reducible show wpAny _ _ (exec (Stmt.Assign _ (Expr.ListComp _ _ _ _) _) _) _ _ _)); walk1; try dsimp only) | (with_reducible refine ite_no ?_) | (with_reducible refine ite_yes ?_)))
      rename Fr _ _ _ _ => F8
      rename News _ _ _ _ => N8
      refine hT _ _ H2 _ ((L + 1 + 1, oP') :: (L + 1, o2) :: [(_, W.listOf (vs ++ [Value.int q tk₂]).toArray 0)]) rfl F8 (fun y hy => ?_) (fun y hy => ?_) ⟨_, vs ++ [Value.int q tk₂], oP', _, [(_, W.listOf (vs ++ [Value.int q tk₂]).toArray 0)], if_pos rfl, mset_ne (y := "texts") (by decide) rfl, ?_, hcP', rfl, ?_, fun h' m' _ N' => News.lst N' (.head _)⟩
      · refine N8 y ?_
        rcases List.mem_cons.mp hy with rfl | hy
        · exact .tail _ (.tail _ (.tail _ (.tail _ (.head _))))
        rcases List.mem_cons.mp hy with rfl | hy
        · exact .tail _ (.tail _ (.tail _ (.tail _ (.tail _ (.head _)))))
        rcases List.mem_cons.mp hy with rfl | hy
        · exact .tail _ (.tail _ (.tail _ (.tail _ (.tail _ (.tail _ (.head _))))))
        obtain rfl := List.mem_singleton.mp hy
        exact .head _
      · rcases List.mem_cons.mp hy with rfl | hy
        · exact hn (L + 1 + 1, oP) (.head _)
        rcases List.mem_cons.mp hy with rfl | hy
        · exact hn (L + 1, o2) (.tail _ (.head _))
        obtain rfl := List.mem_singleton.mp hy
        exact Nat.ne_of_gt eIt
      · rw [List.take_add_one, hgq, ← List.append_assoc]
        exact hvs.append (.cons _ _ .nil)
      · intro y hy
        obtain rfl := List.mem_singleton.mp hy
        exact Nat.ne_of_gt ecP
    · rintro h9 tk9 H3 m9 _ rfl F9 N9 ⟨a, vs, oP, x, rest, e1, e3, hvs, hcP, rfl, hrc, hst⟩
      replace F9 : Fr H3 L h9 _ := Fr.norm F9 [("disk", .ref a)] (by intro x hx; obtain rfl := List.mem_singleton.mp hx; exact e1)
      rw [List.take_of_length_le (by rw [strs_len him, List.length_map]; exact Nat.le_refl _)] at hvs
      have hva9 : h9.IsList a vs.toArray := hst _ _ F9 fun q hq => N9 q (.tail _ (.tail _ hq))
      clear F2 N2 hvm
      (repeat' (first | k_data | ((fail_if_success (with_reducible show wpAny _ _ (exec (Stmt.For _ _ _ _ _) _) _ _ _)); (fail_if_success (with_reducible show wpAny _ _ (eval (Expr.ListComp _ _ _ _) _) _ _ _)); (fail_if_success (with_reducible show wpAny _ _ (exec (Stmt.Assign _ (Expr.ListComp _ _ _ _) _) _) _ _ _)); walk1; try dsimp only) | (with_reducible refine ite_no ?_) | (with_reducible refine ite_yes ?_)))
      refine sorted_N F9 N9 hva9 hvs (by rw [hvs.length, List.length_append]; have := goneAll_len (ps := gp) hlen; omega) fun h' us ss e F' N' hI' hp' hs' => ?_
      (repeat' (first | k_data | ((fail_if_success (with_reducible show wpAny _ _ (exec (Stmt.For _ _ _ _ _) _) _ _ _)); (fail_if_success (with_reducible show wpAny _ _ (eval (Expr.ListComp _ _ _ _) _) _ _ _)); (fail_if_success (with_reducible show wpAny _ _ (exec (Stmt.Assign _ (Expr.ListComp _ _ _ _) _) _) _ _ _)); walk1; try dsimp only) | (with_reducible refine ite_no ?_) | (with_reducible refine ite_yes ?_)))
      refine hQ _ _ (hR _ _ _ F'.keep ⟨_, us, ss, rfl, (N' _ (.head _)).2.2, ⟨_, (N' _ (.head _)).1⟩, hI', hp', hs'⟩)
end
end Mine

end
section
open PySem PySem.W PyProof.Rows PySem.Spec PySem.Calls
namespace Mine
/-- strings whose signs are signs -/
noncomputable def StrsOk (xs : List Str) : Prop := ∀ x ∈ xs, PyData.strOk x = true
noncomputable def strsD (xs : List Str) : PyData := .list (xs.map .str)
theorem strs_reads {h : Heap} {vs : List Value} {xs : List Str} (a : StrsAre vs xs) : ReadsAll h vs (xs.map .str) [] := by
  induction a with
  | nil => exact .nil
  | cons x t _ ih => exact .cons (.str x t) ih
theorem reads_strs {h : Heap} {a : Addr} {vs : List Value} {xs : List Str} (hl : h.IsList a vs.toArray) (hs : StrsAre vs xs) : Reads h (.ref a) (strsD xs) [a] := by
  obtain ⟨o, ho, hc, n, hd⟩ := hl
  exact .list ho hc hd (by simpa using strs_reads hs)
theorem strs_canLay : ∀ xs : List Str, StrsOk xs → PyData.canLayAll0 (xs.map PyData.str) = true
  | [], _ => rfl
  | x :: r, h => by simp [PyData.canLayAll0, PyData.canLay0, strs_canLay r fun y hy => h y (.tail _ hy), h x (.head _)]
theorem strs_depth : ∀ xs : List Str, PyData.depthAll (xs.map PyData.str) = 0
  | [] => rfl
  | _ :: r => by simp [PyData.depthAll, PyData.depth, strs_depth r]
theorem strs_eqv (xs : List Str) : ∀ ys : List Str, PyData.eqvAll (xs.map PyData.str) (ys.map PyData.str) = decide (xs = ys) := by
  induction xs with
  | nil => intro ys; cases ys <;> simp [PyData.eqvAll]
  | cons a r ih =>
    intro ys
    cases ys with
    | nil => simp [PyData.eqvAll]
    | cons b t =>
      simp only [List.map_cons, PyData.eqvAll, PyData.eqv, ih t]
      by_cases h : a = b <;> by_cases h' : r = t <;> simp [h, h']
theorem strsD_eqv (xs ys : List Str) : PyData.eqv (strsD xs) (strsD ys) = decide (xs = ys) := by
  unfold strsD
  simp only [PyData.eqv]
  exact strs_eqv xs ys
theorem strsD_lay {xs : List Str} (h : StrsOk xs) : (strsD xs).canLay0 = true ∧ (strsD xs).depth ≤ 1 := by
  unfold strsD
  simp [PyData.canLay0, strs_canLay xs h, PyData.depth, strs_depth]
theorem lls_eqv : ∀ xs ys : List (List Str), PyData.eqvAll (xs.map strsD) (ys.map strsD) = decide (xs = ys)
  | [], [] => by simp [PyData.eqvAll]
  | [], _ :: _ => by simp [PyData.eqvAll]
  | _ :: _, [] => by simp [PyData.eqvAll]
  | a :: r, b :: t => by
    simp only [List.map_cons, PyData.eqvAll, strsD_eqv, lls_eqv r t]
    by_cases h : a = b <;> by_cases h' : r = t <;> simp [h, h']
theorem lls_lay : ∀ xs : List (List Str), (∀ x ∈ xs, StrsOk x) → PyData.canLayAll0 (xs.map strsD) = true ∧ PyData.depthAll (xs.map strsD) ≤ 1
  | [], _ => ⟨rfl, by simp [PyData.depthAll]⟩
  | x :: r, h => by
    have h1 := strsD_lay (h x (.head _))
    have h2 := lls_lay r fun y hy => h y (.tail _ hy)
    refine ⟨by simp [PyData.canLayAll0, h1.1, h2.1], ?_⟩
    simp only [List.map_cons, PyData.depthAll]
    omega
section
variable {w : World} {A : Around} {E : Value → Shared → Prop} {s : Shared} {Q : Value → Shared → Prop}
theorem ne_strs {a b : Addr} {vs us : List Value} {xs ys : List Str} (ha : s.heap.IsList a vs.toArray) (hb : s.heap.IsList b us.toArray) (hx : StrsAre vs xs) (hy : StrsAre us ys) (ox : StrsOk xs) (oy : StrsOk ys) (hu : A.units + 64 < cLine)
    (h : Q (.bool (!decide (xs = ys))) s) : wpAny (model PG w) A (compareOp .NotEq (.ref a) (.ref b)) Q E s := by
  refine ne_dataH (reads_strs ha hx) (reads_strs hb hy) ?_ ?_ hu (by rw [strsD_eqv]; exact h)
  · have := strsD_lay ox
    exact Bool.and_eq_true_iff.mpr ⟨this.1, decide_eq_true (by exact (Nat.le_trans this.2 (by decide)))⟩
  · have := strsD_lay oy
    exact Bool.and_eq_true_iff.mpr ⟨this.1, decide_eq_true (by exact (Nat.le_trans this.2 (by decide)))⟩
theorem ne_pair {r r' a b a' b' : Addr} {k k' : Nat} {va vb ua ub : List Value} {xs ys xs' ys' : List Str} (hr : s.heap.get? r = some { cls := .type "tuple", data := .seq #[.ref a, .ref b] k }) (hr' : s.heap.get? r' = some { cls := .type "tuple", data := .seq #[.ref a', .ref b'] k' })
    (ha : s.heap.IsList a va.toArray) (hb : s.heap.IsList b vb.toArray) (ha' : s.heap.IsList a' ua.toArray) (hb' : s.heap.IsList b' ub.toArray) (hx : StrsAre va xs) (hy : StrsAre vb ys) (hx' : StrsAre ua xs') (hy' : StrsAre ub ys') (ox : StrsOk xs) (oy : StrsOk ys) (ox' : StrsOk xs') (oy' : StrsOk ys') (hu : A.units + 64 < cLine)
    (h : Q (.bool (!decide (xs = xs' ∧ ys = ys'))) s) : wpAny (model PG w) A (compareOp .NotEq (.ref r) (.ref r')) Q E s := by
  have sh : ∀ xs ys : List Str, StrsOk xs → StrsOk ys → SeqAt.shaped (.tuple [strsD xs, strsD ys]) = true := fun xs ys ox oy => by
    have h1 := strsD_lay ox
    have h2 := strsD_lay oy
    refine Bool.and_eq_true_iff.mpr ⟨by simp only [PyData.canLay0, PyData.canLayAll0, h1.1, h2.1, Bool.true_and], decide_eq_true ?_⟩
    simp only [PyData.depth, PyData.depthAll]
    omega
  refine ne_dataH (da := .tuple [strsD xs, strsD ys]) (db := .tuple [strsD xs', strsD ys']) (reads_tuple_at hr rfl rfl (.cons (reads_strs ha hx) (.cons (reads_strs hb hy) .nil))) (reads_tuple_at hr' rfl rfl (.cons (reads_strs ha' hx') (.cons (reads_strs hb' hy') .nil))) (sh _ _ ox oy) (sh _ _ ox' oy') hu ?_
  simp only [PyData.eqv, PyData.eqvAll, strsD_eqv, Bool.and_true]
  rw [Bool.decide_and] at h
  exact h
theorem ne_lls {a b : Addr} {vs us : List Value} {xs ys : List (List Str)} {as bs : List Addr} (ha : s.heap.IsList a vs.toArray) (hb : s.heap.IsList b us.toArray) (hx : ReadsAll s.heap vs (xs.map strsD) as) (hy : ReadsAll s.heap us (ys.map strsD) bs) (ox : ∀ x ∈ xs, StrsOk x) (oy : ∀ x ∈ ys, StrsOk x) (hu : A.units + 64 < cLine)
    (h : Q (.bool (!decide (xs = ys))) s) : wpAny (model PG w) A (compareOp .NotEq (.ref a) (.ref b)) Q E s := by
  obtain ⟨oa, ea, ca, na, da⟩ := ha
  obtain ⟨ob, eb, cb, nb, db⟩ := hb
  have sh : ∀ xs : List (List Str), (∀ x ∈ xs, StrsOk x) → SeqAt.shaped (.list (xs.map strsD)) = true := fun xs ox => by
    have h1 := lls_lay xs ox
    refine Bool.and_eq_true_iff.mpr ⟨by simp only [PyData.canLay0, h1.1], decide_eq_true ?_⟩
    simp only [PyData.depth]
    exact (Nat.le_trans (Nat.succ_le_succ h1.2) (by decide))
  refine ne_dataH (da := .list (xs.map strsD)) (db := .list (ys.map strsD)) (.list ea ca da (by simpa using hx)) (.list eb cb db (by simpa using hy)) (sh _ ox) (sh _ oy) hu ?_
  simp only [PyData.eqv, lls_eqv]
  exact h
end
section
variable {w : World} {p : Program} {loose : List Str} {mean : ExcName → Option Value} {mg mb : Str → Option Value} {n : Nat} {A : Around} {base H₀ H h h' : Heap} {outer : List Env} {L : Addr} {m : Str → Option Value} {news hid : List (Addr × Obj)} {env : Env}
/-- behind a call that has changed some of the ledger's objects -/
theorem Room.past (R : Room w p loose mean mg mb n A base outer H₀ H) (F : Fr H L h m) (N : News H L h (hid ++ news)) (hap : ∀ q ∈ news, q.1 ∉ hid.map (·.1)) (K : KeepX (L :: outer.filterMap (·.frame)) (hideAll h (hid.map (·.1))) h') :
    ∃ H', Room w p loose mean mg mb n A base outer H₀ H' ∧ KtsTurn (outer.filterMap (·.frame)) H H' ∧ Fr H' L h' m ∧ News H' L h' news ∧ ∀ b, (hideAll h (hid.map (·.1))).get? b = none → H'.get? b = none ∧ b ≠ L := by
  have Nh : News H L h hid := fun q hq => N q (List.mem_append_left _ hq)
  have F0 := Fr.hide F Nh
  have N0 : News H L (hideAll h (hid.map (·.1))) news := fun q hq => ⟨hideAll_get _ (N q (List.mem_append_right _ hq)).1 (hap q hq), (N q (List.mem_append_right _ hq)).2⟩
  obtain ⟨H', R', T', F', N'⟩ := R.after F0 N0 K
  refine ⟨H', R', T', F', N', fun b e => ⟨T'.none_ _ ?_, fun z => ?_⟩⟩
  · exact get_gone (F0.keep _) e
  · obtain ⟨oL, _, _, eL, _⟩ := F0.ns
    (first | exact (ne_get eL (e) (z).symm).elim | exact (ne_get (e) eL (z).symm).elim | (rw [← z, e] at eL; cases eL))
theorem unord_at {e a : Addr} {ke ka : Nat} {vs us : List Value} {exp act : List Str} {g : Array GenState} {d : Drawn} {tk : Nat} {o : OsState} {Q E : Value → Shared → Prop}
    (R : Room w p loose mean mg mb (n + 1) A base outer H₀ H) (F : Fr H L h m) (N : News H L h ([(e, W.listOf (List.toArray vs) ke), (a, W.listOf (List.toArray us) ka)] ++ news)) (hs : StrsAre vs exp) (ht : StrsAre us act) (hne : e ≠ a) (hap : ∀ q ∈ news, q.1 ≠ e ∧ q.1 ≠ a) (l1 : exp.length ≤ 1000) (l2 : act.length ≤ 1000)
    (k : ∀ r mi h' tk' H' ms zs km kz, Room w p loose mean mg mb (n + 1) A base outer H₀ H' → KtsTurn (outer.filterMap (·.frame)) H H' → Fr H' L h' m → News H' L h' ((r, ({ cls := .type "tuple", data := .seq #[.ref mi, .ref a] } : Obj)) :: (mi, W.listOf (List.toArray ms) km) :: (a, W.listOf (List.toArray zs) kz) :: news) → StrsAre ms (unordR exp.reverse act).1 → StrsAre zs (unordR exp.reverse act).2 →
      Q (.ref r) ⟨h', g, d, tk', o⟩)
    (hf : env.frame = some L := by rfl) (hk : env.scope.kind = .function := by rfl) :
    wpAny (model PG w) (A.deeper env) (call (.ref 35) [.ref e, .ref a]) Q E ⟨h, g, d, tk, o⟩ := by
  have hap' : ∀ q ∈ news, q.1 ∉ [e, a] := fun q hq hm => by
    rcases List.mem_cons.mp hm with z | hm
    · exact (hap q hq).1 z
    · exact (hap q hq).2 (List.mem_singleton.mp hm)
  have ne := N _ (List.mem_append_left _ (.head _))
  have na := N _ (List.mem_append_left _ (.tail _ (.head _)))
  have F0 := Fr.hide F (fun q hq => N q (List.mem_append_left _ hq) : News H L h [(e, W.listOf (List.toArray vs) ke), (a, W.listOf (List.toArray us) ka)])
  refine wpAny_call (unord_tells (n := n) (Around.frames_deeper R.B.stack) (R.std.push F0 hf hk) (fun _ _ x => of_hideAll _ x) (Nat.le_of_eq (hideAll_size _ _)) (hideAll_none _ (.head _)) (hideAll_none _ (.tail _ (.head _))) ⟨vs, ⟨ke, ne.1⟩, hs⟩ ⟨us, ⟨ka, na.1⟩, ht⟩ hne l1 l2 fun r mi h' tk' ms zs K hmi _ _ hr _ _ hrt ⟨km, em⟩ hms ⟨kz, ez⟩ hzs => ?_)
  rw [frames_cons hf] at K
  obtain ⟨H', R', T', F', N', hn⟩ := R.past F N hap' K
  refine k r mi h' tk' H' ms zs km kz R' T' F' (fun q hq => ?_) hms hzs
  rcases List.mem_cons.mp hq with rfl | hq
  · exact ⟨hrt, (hn _ hr).2, (hn _ hr).1⟩
  rcases List.mem_cons.mp hq with rfl | hq
  · exact ⟨em, (hn _ hmi).2, (hn _ hmi).1⟩
  rcases List.mem_cons.mp hq with rfl | hq
  · exact ⟨ez, na.2.1, T'.none_ _ na.2.2⟩
  · exact N' q hq
theorem sdiff_at {a b : Addr} {ka kb : Nat} {vs us : List Value} {es as : List Str} {g : Array GenState} {d : Drawn} {tk : Nat} {o : OsState} {Q E : Value → Shared → Prop}
    (R : Room w p loose mean mg mb (n + 4) A base outer H₀ H) (F : Fr H L h m) (N : News H L h news) (ha : (a, W.listOf (List.toArray vs) ka) ∈ news) (hb : (b, W.listOf (List.toArray us) kb) ∈ news) (hs : StrsAre vs es) (ht : StrsAre us as) (l1 : es.length ≤ 100) (l2 : as.length ≤ 100) (a1 : SAsc es) (a2 : SAsc as)
    (k : ∀ r mi un h' tk' H' vm vu km ku, Room w p loose mean mg mb (n + 4) A base outer H₀ H' → KtsTurn (outer.filterMap (·.frame)) H H' → Fr H' L h' m → News H' L h' ((r, ({ cls := .type "tuple", data := .seq #[.ref mi, .ref un] } : Obj)) :: (mi, W.listOf (List.toArray vm) km) :: (un, W.listOf (List.toArray vu) ku) :: news) → StrsAre vm (sub es as) → StrsAre vu (sub as es) →
      Q (.ref r) ⟨h', g, d, tk', o⟩)
    (hf : env.frame = some L := by rfl) (hk : env.scope.kind = .function := by rfl) :
    wpAny (model PG w) (A.deeper env) (call (.ref 28) [.ref a, .ref b]) Q E ⟨h, g, d, tk, o⟩ := by
  refine TellsK.at (sdiff_tells (n := n) l1 l2 a1 a2) R F N ⟨⟨vs, ⟨ka, (N _ ha).1⟩, hs⟩, ⟨us, ⟨kb, (N _ hb).1⟩, ht⟩⟩ (fun v h' tk' H' R' T' F' N' K hq => ?_) hf hk
  obtain ⟨r, mi, un, vm, vu, rfl, er, ⟨km, em⟩, ⟨ku, eu⟩, hm, hu, n1, n2, n3⟩ := hq
  have hn : ∀ b, h.get? b = none → b ≠ L ∧ H'.get? b = none := fun b e => ⟨(fun z => by
    obtain ⟨oL, _, _, eL, _⟩ := F.ns
    (first | exact (ne_get eL (e) (z).symm).elim | exact (ne_get (e) eL (z).symm).elim | (rw [← z, e] at eL; cases eL))), T'.none_ _ (by
    exact get_gone (F.keep _) e)⟩
  refine k r mi un h' tk' H' vm vu km ku R' T' F' (fun q hq => ?_) hm hu
  rcases List.mem_cons.mp hq with rfl | hq
  · exact ⟨er, hn _ n1⟩
  rcases List.mem_cons.mp hq with rfl | hq
  · exact ⟨em, hn _ n2⟩
  rcases List.mem_cons.mp hq with rfl | hq
  · exact ⟨eu, hn _ n3⟩
  · exact N' q hq
theorem diff_at {a b : Addr} {va : List Value} {xs ys : List Str} {g : Array GenState} {d : Drawn} {tk : Nat} {o : OsState} {Q E : Value → Shared → Prop}
    (R : Room w p loose mean mg mb (n + 7) A base outer H₀ H) (F : Fr H L h m) (N : News H L h news) (ha : h.IsList a va.toArray) (hs : StrsAre va xs) (hb : AtStrsL h b ys) (hy : ys.length ≤ 1000)
    (k : ∀ x dx It B St h' tk', Fr H L h' m → News H L h' ([(It, liObj a 0), (x, ffObj dx (.ref It) (.ref B)), (dx, emptyDict)] ++ news) → FF w x dx a It B St xs ys va h' → (∀ q ∈ news, q.1 ∉ [It, x, dx]) → Q (.ref x) ⟨h', g, d, tk', o⟩)
    (hf : env.frame = some L := by rfl) (hk : env.scope.kind = .function := by rfl) :
    wpAny (model PG w) (A.deeper env) (call (.ref 169) [.ref a, .ref b]) Q E ⟨h, g, d, tk, o⟩ := by
  refine wpAny_call (diff_call (n := n) (xs := xs) (R.inside hf hk h m F) ha hb hy fun h' tk' x dx It B St st n1 n2 n3 e1 e2 e3 e4 hS q1 q2 q3 q4 => ?_)
  have F' := Fr.stay F st
  have N' := News.stay N st
  have fr : ∀ b, h.get? b = none → b ≠ L ∧ H.get? b = none := fun b e => ⟨(fun z => by
    obtain ⟨oL, _, _, eL, _⟩ := F.ns
    (first | exact (ne_get eL (e) (z).symm).elim | exact (ne_get (e) eL (z).symm).elim | (rw [← z, e] at eL; cases eL))), by
    cases q : H.get? b with
    | none => rfl
    | some ob => (first | exact (ne_get e (F.keep _ _ q) rfl).elim | exact (ne_get (F.keep _ _ q) e rfl).elim | (rw [F.keep _ _ q] at e; cases e))⟩
  have ap : ∀ b ob, h.get? b = some ob → b ∉ [It, x, dx] := fun b ob e hm => by
    simp only [List.mem_cons, List.not_mem_nil, or_false] at hm
    rcases hm with z | z | z
    · (first | exact (ne_get e (n3) (z)).elim | exact (ne_get (n3) e (z)).elim | (rw [z, n3] at e; cases e))
    · (first | exact (ne_get e (n1) (z)).elim | exact (ne_get (n1) e (z)).elim | (rw [z, n1] at e; cases e))
    · (first | exact (ne_get e (n2) (z)).elim | exact (ne_get (n2) e (z)).elim | (rw [z, n2] at e; cases e))
  have kind : ∀ {p q : Addr} {o1 o2 : Obj}, h'.get? p = some o1 → h'.get? q = some o2 → o1.cls ≠ o2.cls → p ≠ q := fun a1 a2 hn z => by
    rw [z, a2] at a1
    exact hn (congrArg Obj.cls (Option.some.inj a1)).symm
  obtain ⟨oS, es, ep, t, eS, hex, hr⟩ := id hS
  refine k x dx It B St h' tk' F' (fun q hq => ?_) ⟨e1, e2, e3, e4, hS, ha.at fun ob e => st _ _ e, hs, q1, q2, ?_, ?_, ?_⟩ fun q hq => ap _ _ (N q hq).1
  · rcases List.mem_append.mp hq with hq | hq
    · simp only [List.mem_cons, List.not_mem_nil, or_false] at hq
      rcases hq with rfl | rfl | rfl
      · exact ⟨e3, fr _ n3⟩
      · exact ⟨e1, fr _ n1⟩
      · exact ⟨e2, fr _ n2⟩
    · exact N' q hq
  · simp only [List.mem_cons, List.not_mem_nil, or_false, not_or]
    exact ⟨q3.symm, kind e4 e1 (by show Value.type "builtin_function_or_method" ≠ Value.ref 122; decide), kind e4 e2 (by show Value.type "builtin_function_or_method" ≠ Value.type "dict"; decide)⟩
  · simp only [List.mem_cons, List.not_mem_nil, or_false, not_or]
    exact ⟨q4.symm, kind eS e1 (by rw [hex.1]; show Value.type "set" ≠ Value.ref 122; decide), kind eS e2 (by rw [hex.1]; show Value.type "set" ≠ Value.type "dict"; decide)⟩
  · obtain ⟨oa, ea, _⟩ := ha
    exact ap _ _ ea
theorem ff_frames {x dx It : Addr} (R : Room w p loose mean mg mb n A base outer H₀ H) (hN : ∀ q ∈ [It, x, dx], H.get? q = none ∧ q ≠ L) (hf : env.frame = some L) : ∀ env' ∈ env :: outer, ∀ q ∈ [It, x, dx], env'.frame ≠ some q := fun env' he q hq hz => by
  rcases List.mem_cons.mp he with rfl | he
  · rw [hf] at hz; exact (hN q hq).2 (Option.some.inj hz).symm
  · obtain ⟨ob, _, _, e1, _⟩ := R.D q (List.mem_filterMap.mpr ⟨env', he, hz⟩)
    (first | exact (ne_get e1 ((hN q hq).1) rfl).elim | exact (ne_get ((hN q hq).1) e1 rfl).elim | (rw [(hN q hq).1] at e1; cases e1))
theorem list_ff_at {x dx a It B St : Addr} {xs ys : List Str} {va : List Value} {g : Array GenState} {d : Drawn} {tk : Nat} {o : OsState} {Q E : Value → Shared → Prop}
    (R : Room w p loose mean mg mb (n + 3) A base outer H₀ H) (F : Fr H L h m) (N : News H L h ([(It, liObj a 0), (x, ffObj dx (.ref It) (.ref B)), (dx, emptyDict)] ++ news)) (I : FF w x dx a It B St xs ys va h) (hap : ∀ q ∈ news, q.1 ∉ [It, x, dx]) (hlen : xs.length ≤ 1000)
    (k : ∀ D zs kz h' tk' H', Room w p loose mean mg mb (n + 3) A base outer H₀ H' → KtsTurn (outer.filterMap (·.frame)) H H' → Fr H' L h' m → News H' L h' ((D, W.listOf (List.toArray zs) kz) :: news) → StrsAre zs (sub xs ys) → Q (.ref D) ⟨h', g, d, tk', o⟩)
    (hf : env.frame = some L := by rfl) (hk : env.scope.kind = .function := by rfl) :
    wpAny (model PG w) (A.deeper env) (call (.type "list") [.ref x]) Q E ⟨h, g, d, tk, o⟩ := by
  have hN : ∀ q ∈ [It, x, dx], H.get? q = none ∧ q ≠ L := fun q hq => by
    simp only [List.mem_cons, List.not_mem_nil, or_false] at hq
    rcases hq with rfl | rfl | rfl
    · have := N _ (.head _); exact ⟨this.2.2, this.2.1⟩
    · have := N _ (.tail _ (.head _)); exact ⟨this.2.2, this.2.1⟩
    · have := N _ (.tail _ (.tail _ (.head _))); exact ⟨this.2.2, this.2.1⟩
  refine list_ff (n := n) (Around.frames_deeper R.B.stack) (R.inside hf hk h m F) F R.B.stays R.sz hN (ff_frames R hN hf) I hlen fun D zs h' tk' K hD ⟨kz, ez⟩ hz => ?_
  unfold FfKeep at K
  rw [frames_cons hf] at K
  obtain ⟨H', R', T', F', N', hn⟩ := R.past F N hap K
  refine k D zs kz h' tk' H' R' T' F' (fun q hq => ?_) hz
  rcases List.mem_cons.mp hq with rfl | hq
  · exact ⟨ez, (hn _ hD).2, (hn _ hD).1⟩
  · exact N' q hq
theorem sorted_ff_at {x dx a It B St : Addr} {xs ys : List Str} {va : List Value} {g : Array GenState} {d : Drawn} {tk : Nat} {o : OsState} {Q E : Value → Shared → Prop}
    (R : Room w p loose mean mg mb (n + 4) A base outer H₀ H) (F : Fr H L h m) (N : News H L h ([(It, liObj a 0), (x, ffObj dx (.ref It) (.ref B)), (dx, emptyDict)] ++ news)) (I : FF w x dx a It B St xs ys va h) (hap : ∀ q ∈ news, q.1 ∉ [It, x, dx]) (hlen : xs.length < 64)
    (k : ∀ D zs ss kz h' tk' H', Room w p loose mean mg mb (n + 4) A base outer H₀ H' → KtsTurn (outer.filterMap (·.frame)) H H' → Fr H' L h' m → News H' L h' ((D, W.listOf (List.toArray zs) kz) :: news) → StrsAre zs ss → ss.Perm (sub xs ys) → sortedS ss = true → Q (.ref D) ⟨h', g, d, tk', o⟩)
    (hf : env.frame = some L := by rfl) (hk : env.scope.kind = .function := by rfl) :
    wpAny (model PG w) (A.deeper env) (call (.builtin "sorted") [.ref x]) Q E ⟨h, g, d, tk, o⟩ := by
  have hN : ∀ q ∈ [It, x, dx], H.get? q = none ∧ q ≠ L := fun q hq => by
    simp only [List.mem_cons, List.not_mem_nil, or_false] at hq
    rcases hq with rfl | rfl | rfl
    · have := N _ (.head _); exact ⟨this.2.2, this.2.1⟩
    · have := N _ (.tail _ (.head _)); exact ⟨this.2.2, this.2.1⟩
    · have := N _ (.tail _ (.tail _ (.head _))); exact ⟨this.2.2, this.2.1⟩
  refine sorted_ff (n := n) (Around.frames_deeper R.B.stack) (R.inside hf hk h m F) F R.B.stays R.sz hN (ff_frames R hN hf) I hlen fun D zs ss h' tk' K hD ⟨kz, ez⟩ hz hp hs => ?_
  unfold FfKeep at K
  rw [frames_cons hf] at K
  obtain ⟨H', R', T', F', N', hn⟩ := R.past F N hap K
  refine k D zs ss kz h' tk' H' R' T' F' (fun q hq => ?_) hz hp hs
  rcases List.mem_cons.mp hq with rfl | hq
  · exact ⟨ez, (hn _ hD).2, (hn _ hD).1⟩
  · exact N' q hq
theorem sorted_at {a : Addr} {vs : List Value} {xs : List Str} {A' : Around} {s : Shared} {Q E : Value → Shared → Prop} (F : Fr H L s.heap m) (N : News H L s.heap news) (hl : s.heap.IsList a vs.toArray) (hs : StrsAre vs xs) (h64 : vs.length < 64)
    (k : ∀ D h' us ss e, Fr H L h' m → News H L h' ((D, W.listOf (List.toArray us) e) :: news) → StrsAre us ss → ss.Perm xs → sortedS ss = true → (∀ q ∈ news, q.1 ≠ D) → Q (.ref D) { s with heap := h' }) :
    wpAny (model PG w) A' (call (.builtin "sorted") [.ref a]) Q E s :=
  sorted_N_str F N hl hs h64 fun h' us ss e F' N' h1 h2 h3 => k _ h' us ss e F' N' h1 h2 h3 fun q hq => Nat.ne_of_lt (Nat.lt_succ_of_lt (Heap.lt_size (N q hq).1))
end
end Mine

end
section
open PySem PyProof.Rows PySem.Spec
namespace Mine
theorem unordR_spec : ∀ (re act : List Str), re.Nodup → act.Nodup → unordR re act = (sub re act, sub act re)
  | [], act, _, _ => by
    have : sub act [] = act := List.filter_eq_self.mpr fun x _ => by simp
    rw [unordR, this]; rfl
  | x :: r, act, h1, h2 => by
    obtain ⟨hx, hr⟩ := List.nodup_cons.mp h1
    by_cases h : x ∈ act
    · rw [unordR, if_pos (by simpa using h), unordR_spec r _ hr (h2.erase x)]
      refine Prod.ext ?_ ?_
      · show sub r (act.erase x) = sub (x :: r) act
        unfold sub
        rw [List.filter_cons_of_neg (by simpa using h)]
        refine List.filter_congr fun z hz => ?_
        have hzx : z ≠ x := fun e => hx (e ▸ hz)
        rw [Bool.eq_iff_iff]; simp [h2.mem_erase_iff, hzx]
      · show sub (act.erase x) r = sub act (x :: r)
        unfold sub
        rw [h2.erase_eq_filter, List.filter_filter]
        refine List.filter_congr fun z hz => ?_
        rw [Bool.eq_iff_iff]; simp [and_comm]
    · rw [unordR, if_neg (by simpa using h), unordR_spec r act hr h2]
      refine Prod.ext ?_ ?_
      · show x :: sub r act = sub (x :: r) act
        unfold sub
        rw [List.filter_cons_of_pos (by simpa using h)]
      · show sub act r = sub act (x :: r)
        unfold sub
        refine List.filter_congr fun z hz => ?_
        have hzx : z ≠ x := fun e => h (e ▸ hz)
        simp [hzx]
theorem sub_reverse (xs ys : List Str) : sub xs.reverse ys = (sub xs ys).reverse := by unfold sub; rw [List.filter_reverse]
theorem sub_of_reverse (xs ys : List Str) : sub xs ys.reverse = sub xs ys := by unfold sub; simp
theorem unordR_two {xs ys : List Str} (hx : xs.Nodup) (hy : ys.Nodup) : unordR xs.reverse ys = ((sub xs ys).reverse, sub ys xs) := by
  rw [unordR_spec _ _ ((List.reverse_perm xs).nodup_iff.mpr hx) hy, sub_reverse, sub_of_reverse]
theorem sub_len (xs ys : List Str) : (sub xs ys).length ≤ xs.length := List.length_filter_le _ _
theorem StrsOk.sub {xs : List Str} (h : StrsOk xs) (ys : List Str) : StrsOk (sub xs ys) := fun x hx => h x (List.mem_filter.mp hx).1
theorem StrsOk.rev {xs : List Str} (h : StrsOk xs) : StrsOk xs.reverse := fun x hx => h x (List.mem_reverse.mp hx)
theorem StrsOk.perm {xs ys : List Str} (h : StrsOk xs) (p : ys.Perm xs) : StrsOk ys := fun x hx => h x (p.mem_iff.mp hx)
theorem mem_sub {x : Str} {xs ys : List Str} : x ∈ sub xs ys ↔ x ∈ xs ∧ x ∉ ys := by unfold Mine.sub; rw [List.mem_filter]; simp
theorem sub_nodup {xs : List Str} (h : xs.Nodup) (ys : List Str) : (Mine.sub xs ys).Nodup := h.filter _
/-- sorted, each once: rising -/
theorem risingS_mem : ∀ {p : Str} {l : List Str}, risingS p l = true → ∀ y ∈ l, ¬ SLt y p
  | _, [], _, _, h => nomatch h
  | p, x :: r, h, y, hy => by
    have h' : (!ltCps x.cps.toList p.cps.toList && risingS x r) = true := h
    obtain ⟨h1, h2⟩ := Bool.and_eq_true_iff.mp h'
    have h1' : ¬ SLt x p := by
      rw [ltCps_eq] at h1
      show ¬ x.cps.toList < p.cps.toList
      simpa using h1
    rcases List.mem_cons.mp hy with rfl | hy
    · exact h1'
    · intro z
      have h3 := risingS_mem h2 y hy
      rcases Classical.em (SLt p x) with q | q
      · exact h3 (z.trans q)
      · exact h3 (SLt.tri q h1' ▸ z)
theorem risingS_tail {p x : Str} {r : List Str} (h : risingS p (x :: r) = true) : risingS x r = true := by
  have h' : (!ltCps x.cps.toList p.cps.toList && risingS x r) = true := h
  exact (Bool.and_eq_true_iff.mp h').2
theorem sortedS_pairwise : ∀ {l : List Str}, sortedS l = true → l.Pairwise (fun a b => ¬ SLt b a)
  | [], _ => .nil
  | x :: [], _ => List.pairwise_singleton _ _
  | x :: y :: r, h => by
    refine List.pairwise_cons.mpr ⟨fun z hz => risingS_mem (p := x) h z hz, sortedS_pairwise (l := y :: r) (risingS_tail (p := x) h)⟩
theorem sortedS_asc {l : List Str} (h : sortedS l = true) (hn : l.Nodup) : SAsc l := by
  have := List.Pairwise.and (sortedS_pairwise h) hn
  exact this.imp fun ⟨h1, h2⟩ => Classical.byContradiction fun z => h2 (SLt.tri z h1)
theorem asc_perm {l l' : List Str} (h : SAsc l) (h' : SAsc l') (hp : l.Perm l') : l = l' :=
  List.Perm.eq_of_pairwise (le := SLt) (fun a b _ _ x y => absurd (x.trans y) (SLt.irrefl a)) h h' hp
theorem SAsc.sub {l : List Str} (h : SAsc l) (ys : List Str) : SAsc (Mine.sub l ys) := List.Pairwise.filter _ h
theorem sub_perm {xs xs' ys ys' : List Str} (h : xs.Perm xs') (k : ys.Perm ys') : (Mine.sub xs ys).Perm (Mine.sub xs' ys') := by
  have : Mine.sub xs ys = Mine.sub xs ys' := List.filter_congr fun z _ => by simp [k.mem_iff]
  rw [this]
  exact h.filter _
theorem stay_perm {bs as : List Str} (hb : bs.Nodup) (ha : as.Nodup) : (Mine.sub as (Mine.sub as bs).reverse).Perm (Mine.sub bs (Mine.sub bs as)) := by
  refine (List.perm_ext_iff_of_nodup (sub_nodup ha _) (sub_nodup hb _)).mpr fun x => ?_
  rw [mem_sub, mem_sub, List.mem_reverse, mem_sub, mem_sub]
  constructor
  · rintro ⟨h1, h2⟩
    have h3 : x ∈ bs := Classical.byContradiction fun z => h2 ⟨h1, z⟩
    exact ⟨h3, fun z => z.2 h1⟩
  · rintro ⟨h1, h2⟩
    have h3 : x ∈ as := Classical.byContradiction fun z => h2 ⟨h1, z⟩
    exact ⟨h3, fun z => z.2 h1⟩
theorem stay_rest (bs as : List Str) : Mine.sub as (Mine.sub bs (Mine.sub bs as)) = Mine.sub as bs := by
  show List.filter _ _ = List.filter _ _
  refine List.filter_congr fun x hx => ?_
  rw [Bool.eq_iff_iff]
  simp [mem_sub, hx]
theorem any_int (l : List Int) (k : Int) : (l.any fun x => x == k) = decide (k ∈ l) := by
  rw [Bool.eq_iff_iff]; simp
end Mine

end
section
open PySem PySem.W PyProof.Rows PySem.Spec PySem.Calls
namespace Mine
section
variable {w : World} {p : Program} {loose : List Str} {mean : ExcName → Option Value} {mg mb : Str → Option Value} {n : Nat}
set_option maxHeartbeats 4000000 in
theorem step_tells (bs as ts : List Str) (bp wp up : List Int) (bl al sd wd ab tx : Addr) (lb : bs.length ≤ 20) (la : as.length ≤ 20) (nb : bs.Nodup) (na : as.Nodup) (ob : StrsOk bs) (oa : StrsOk as) (lbp : bp.length ≤ 20) (lwp : wp.length ≤ 20)
    (gp mp : List Int) (hgp : sub bs as = gp.map fun q => ts.getD q.toNat Str.empty) (hmp : (sub as bs).reverse = mp.map fun q => ts.getD q.toNat Str.empty) (htl : ts.length ≤ 1000) (hal : up.length = ts.length) (hnd : ts.Nodup) (hts : ∀ x ∈ ts, x.length ≤ 100)
    (hdr : ∀ q ∈ bp, 0 ≤ q ∧ q < ts.length) (hgr : ∀ q ∈ gp, 0 ≤ q ∧ q < ts.length) (hmr : ∀ q ∈ mp, 0 ≤ q ∧ q < ts.length)
    (hG : ∀ k (hk : k < gp.length), gp[k] ∈ goneAll (gp.take k) bp ∧ ∀ one ∈ goneAll (gp.take k) bp, up.getD one.toNat 0 ≠ gp[k])
    (hM : ∀ k (hk : k < mp.length), mp[k] ≠ 0 ∧ mp[k] ∉ goneAll gp bp ++ mp.take k ∧ up.getD (mp[k]).toNat 0 ∈ 0 :: (goneAll gp bp ++ mp.take k))
    (hfin : (goneAll gp bp ++ mp).Perm wp) (hcount : (sub bs as).length + (sub as bs).length = ((bp ++ wp).filter fun y => !decide (y ∈ bp) || !decide (y ∈ wp)).length) :
    TellsK w p loose mean mg mb (n + 30) 210 [.ref bl, .ref al, .ref sd, .ref wd, .ref ab, .ref tx] (fun h => AtStrsL h bl bs ∧ AtStrsL h al as ∧ AtIntsL h sd bp ∧ AtIntsL h wd wp ∧ AtIntsL h ab up ∧ AtStrs h tx ts) (fun _ _ v => v = .bool true) := by
  rintro A out base ⟨H, g, d, tk, o⟩ R hout S ⟨hb, ha, hsd, hwd, hab, htx⟩ hR
  have X := S.X
  have T := S.T
  refine' enterCX [("before", .ref bl), ("after", .ref al), ("stood", .ref sd), ("wished", .ref wd), ("above", .ref ab), ("texts", .ref tx)] hout S (fun _ _ e => e) (Nat.le_refl _) ?k6 ?k7 ?kb ?kl ?kn ?c1 ?c2 ?c3 ?_
  case k6 => k_is
  case k7 => k_is
  case kb => exact rfl
  case kl => exact rfl
  case kn => decide
  case c1 => exact rfl
  case c2 => exact rfl
  case c3 => exact rfl
  intro L dp un gd h₁ tk₁ cells Q Rm _ _ F N Y hQ _
  clear S
  obtain ⟨o1, o2, rfl, hc1, hc2⟩ := CellsAre.two Y
  clear Y
  replace hc1 : o1.data = .cell (some (.ref wd)) := hc1
  replace hc2 : o2.data = .cell (some (.ref sd)) := hc2
  obtain ⟨vb, hvb, hib⟩ := id hb
  obtain ⟨va, hva, hia⟩ := id ha
  have lvb := strs_len hib
  have lva := strs_len hia
  (repeat' (first | k_data | ((fail_if_success (with_reducible show wpAny _ _ (exec (Stmt.For _ _ _ _ _) _) _ _ _)); (fail_if_success (with_reducible show wpAny _ _ (eval (Expr.ListComp _ _ _ _) _) _ _ _)); (fail_if_success (with_reducible show wpAny _ _ (exec (Stmt.Assign _ (Expr.ListComp _ _ _ _) _) _) _ _ _)); (fail_if_success (with_reducible show wpAny _ _ (subscriptTail _ (PySem.Expr.Slice none none (some _) _) _ _) _ _ _)); (fail_if_success (with_reducible show wpAny _ _ (call (.builtin "sorted") _) _ _ _)); (fail_if_success (with_reducible show wpAny _ _ (call (.type "list") _) _ _ _)); (fail_if_success (with_reducible show wpAny _ _ (compareOp _ (.ref _) (.ref _)) _ _ _)); walk1; try dsimp only) | (with_reducible refine ite_no ?_) | (with_reducible refine ite_yes ?_)))
  refine list_copyK F N (F.lst hva) (fun D1 c1 h2 F2 N2 lt2 => ?_) (by rw [sizeLine_eq, List.size_toArray]; omega)
  clear F N
  (repeat' (first | k_data | ((fail_if_success (with_reducible show wpAny _ _ (exec (Stmt.For _ _ _ _ _) _) _ _ _)); (fail_if_success (with_reducible show wpAny _ _ (eval (Expr.ListComp _ _ _ _) _) _ _ _)); (fail_if_success (with_reducible show wpAny _ _ (exec (Stmt.Assign _ (Expr.ListComp _ _ _ _) _) _) _ _ _)); (fail_if_success (with_reducible show wpAny _ _ (subscriptTail _ (PySem.Expr.Slice none none (some _) _) _ _) _ _ _)); (fail_if_success (with_reducible show wpAny _ _ (call (.builtin "sorted") _) _ _ _)); (fail_if_success (with_reducible show wpAny _ _ (call (.type "list") _) _ _ _)); (fail_if_success (with_reducible show wpAny _ _ (compareOp _ (.ref _) (.ref _)) _ _ _)); walk1; try dsimp only) | (with_reducible refine ite_no ?_) | (with_reducible refine ite_yes ?_)))
  refine list_copyK F2 N2 (F2.lst hvb) (fun D2 c2 h3 F3 N3 lt3 => ?_) (by rw [sizeLine_eq, List.size_toArray]; omega)
  clear F2 N2
  (repeat' (first | k_data | ((fail_if_success (with_reducible show wpAny _ _ (exec (Stmt.For _ _ _ _ _) _) _ _ _)); (fail_if_success (with_reducible show wpAny _ _ (eval (Expr.ListComp _ _ _ _) _) _ _ _)); (fail_if_success (with_reducible show wpAny _ _ (exec (Stmt.Assign _ (Expr.ListComp _ _ _ _) _) _) _ _ _)); (fail_if_success (with_reducible show wpAny _ _ (subscriptTail _ (PySem.Expr.Slice none none (some _) _) _ _) _ _ _)); (fail_if_success (with_reducible show wpAny _ _ (call (.builtin "sorted") _) _ _ _)); (fail_if_success (with_reducible show wpAny _ _ (call (.type "list") _) _ _ _)); (fail_if_success (with_reducible show wpAny _ _ (compareOp _ (.ref _) (.ref _)) _ _ _)); walk1; try dsimp only) | (with_reducible refine ite_no ?_) | (with_reducible refine ite_yes ?_)))
  refine unord_at (n := n + 28) (ke := c1) (ka := c2) (vs := va) (us := vb) (news := [(L + 1 + 1, o1), (L + 1, o2)]) Rm F3 (News.sub N3 (all_cons (.tail _ (.head _)) (all_cons (.head _) fun q hq => .tail _ (.tail _ hq)))) hia hib (Nat.ne_of_lt (lt3 _ (.head _))) (fun q hq => ?_) (by omega) (by omega) fun r1 mi1 h4 tk4 H4 ms gs km kg R4 T4 F4 N4 hms hgs => ?_
  · exact ⟨Nat.ne_of_lt (lt2 _ hq), Nat.ne_of_lt (lt3 _ (.tail _ hq))⟩
  clear F3 N3 lt2 lt3
  rw [unordR_two na nb] at hms hgs
  dsimp only at hms hgs
  have lsub1 : (sub as bs).length ≤ as.length := sub_len _ _
  have lsub2 : (sub bs as).length ≤ bs.length := sub_len _ _
  clear X T
  have X := R4.X
  have T := R4.T
  (repeat' (first | k_data | ((fail_if_success (with_reducible show wpAny _ _ (exec (Stmt.For _ _ _ _ _) _) _ _ _)); (fail_if_success (with_reducible show wpAny _ _ (eval (Expr.ListComp _ _ _ _) _) _ _ _)); (fail_if_success (with_reducible show wpAny _ _ (exec (Stmt.Assign _ (Expr.ListComp _ _ _ _) _) _) _ _ _)); (fail_if_success (with_reducible show wpAny _ _ (subscriptTail _ (PySem.Expr.Slice none none (some _) _) _ _) _ _ _)); (fail_if_success (with_reducible show wpAny _ _ (call (.builtin "sorted") _) _ _ _)); (fail_if_success (with_reducible show wpAny _ _ (call (.type "list") _) _ _ _)); (fail_if_success (with_reducible show wpAny _ _ (compareOp _ (.ref _) (.ref _)) _ _ _)); walk1; try dsimp only) | (with_reducible refine ite_no ?_) | (with_reducible refine ite_yes ?_)))
  rename Fr _ _ _ _ => F5
  rename News _ _ _ _ => N5
  have hva4 := (KeepX.of_turn T4).list hva
  have hvb4 := (KeepX.of_turn T4).list hvb
  refine list_copyK F5 N5 (F5.lst hvb4) (fun D3 c3 h6 F6 N6 lt6 => ?_) (by rw [sizeLine_eq, List.size_toArray]; omega)
  clear F5 N5
  (repeat' (first | k_data | ((fail_if_success (with_reducible show wpAny _ _ (exec (Stmt.For _ _ _ _ _) _) _ _ _)); (fail_if_success (with_reducible show wpAny _ _ (eval (Expr.ListComp _ _ _ _) _) _ _ _)); (fail_if_success (with_reducible show wpAny _ _ (exec (Stmt.Assign _ (Expr.ListComp _ _ _ _) _) _) _ _ _)); (fail_if_success (with_reducible show wpAny _ _ (subscriptTail _ (PySem.Expr.Slice none none (some _) _) _ _) _ _ _)); (fail_if_success (with_reducible show wpAny _ _ (call (.builtin "sorted") _) _ _ _)); (fail_if_success (with_reducible show wpAny _ _ (call (.type "list") _) _ _ _)); (fail_if_success (with_reducible show wpAny _ _ (compareOp _ (.ref _) (.ref _)) _ _ _)); walk1; try dsimp only) | (with_reducible refine ite_no ?_) | (with_reducible refine ite_yes ?_)))
  refine list_copyK F6 N6 (F6.lst hva4) (fun D4 c4 h7 F7 N7 lt7 => ?_) (by rw [sizeLine_eq, List.size_toArray]; omega)
  clear F6 N6
  (repeat' (first | k_data | ((fail_if_success (with_reducible show wpAny _ _ (exec (Stmt.For _ _ _ _ _) _) _ _ _)); (fail_if_success (with_reducible show wpAny _ _ (eval (Expr.ListComp _ _ _ _) _) _ _ _)); (fail_if_success (with_reducible show wpAny _ _ (exec (Stmt.Assign _ (Expr.ListComp _ _ _ _) _) _) _ _ _)); (fail_if_success (with_reducible show wpAny _ _ (subscriptTail _ (PySem.Expr.Slice none none (some _) _) _ _) _ _ _)); (fail_if_success (with_reducible show wpAny _ _ (call (.builtin "sorted") _) _ _ _)); (fail_if_success (with_reducible show wpAny _ _ (call (.type "list") _) _ _ _)); (fail_if_success (with_reducible show wpAny _ _ (compareOp _ (.ref _) (.ref _)) _ _ _)); walk1; try dsimp only) | (with_reducible refine ite_no ?_) | (with_reducible refine ite_yes ?_)))
  refine unord_at (n := n + 28) (ke := c3) (ka := c4) (vs := vb) (us := va) (news := [(mi1, W.listOf (List.toArray ms) km), (D2, W.listOf (List.toArray gs) kg), (L + 1 + 1, o1), (L + 1, o2)]) R4 F7 (News.sub N7 (all_cons (.tail _ (.head _)) (all_cons (.head _) fun q hq => .tail _ (.tail _ (.tail _ hq))))) hib hia (Nat.ne_of_lt (lt7 _ (.head _))) (fun q hq => ?_) (by omega) (by omega) fun r2 mi2 h8 tk8 H8 ms2 gs2 km2 kg2 R8 T8 F8 N8 hms2 hgs2 => ?_
  · exact ⟨Nat.ne_of_lt (lt6 _ (.tail _ hq)), Nat.ne_of_lt (lt7 _ (.tail _ (.tail _ hq)))⟩
  clear F7 N7 lt6 lt7
  clear X T
  have X := R8.X
  have T := R8.T
  (repeat' (first | k_data | ((fail_if_success (with_reducible show wpAny _ _ (exec (Stmt.For _ _ _ _ _) _) _ _ _)); (fail_if_success (with_reducible show wpAny _ _ (eval (Expr.ListComp _ _ _ _) _) _ _ _)); (fail_if_success (with_reducible show wpAny _ _ (exec (Stmt.Assign _ (Expr.ListComp _ _ _ _) _) _) _ _ _)); (fail_if_success (with_reducible show wpAny _ _ (subscriptTail _ (PySem.Expr.Slice none none (some _) _) _ _) _ _ _)); (fail_if_success (with_reducible show wpAny _ _ (call (.builtin "sorted") _) _ _ _)); (fail_if_success (with_reducible show wpAny _ _ (call (.type "list") _) _ _ _)); (fail_if_success (with_reducible show wpAny _ _ (compareOp _ (.ref _) (.ref _)) _ _ _)); walk1; try dsimp only) | (with_reducible refine ite_no ?_) | (with_reducible refine ite_yes ?_)))
  have lgs := strs_len hgs
  have lms := strs_len hms
  rw [List.length_reverse] at lms
  rw [unordR_two nb na] at hms2 hgs2
  dsimp only at hms2 hgs2
  refine' krv_lit (s := ⟨h8, g, d, _, o⟩) (zs := gs.reverse) F8 N8 (News.lst N8 (.tail _ (.tail _ (.tail _ (.tail _ (.head _)))))) (IsPart.int _ _) rfl (fun G9 h9 F9 N9 _ => ?_) ?s1 ?t1 ?z1
  case s1 => with_unfolding_all rfl
  case t1 => kmk_pure
  case z1 => rw [sizeLine_eq, List.size_toArray]; omega
  clear F8 N8
  (repeat' (first | k_data | ((fail_if_success (with_reducible show wpAny _ _ (exec (Stmt.For _ _ _ _ _) _) _ _ _)); (fail_if_success (with_reducible show wpAny _ _ (eval (Expr.ListComp _ _ _ _) _) _ _ _)); (fail_if_success (with_reducible show wpAny _ _ (exec (Stmt.Assign _ (Expr.ListComp _ _ _ _) _) _) _ _ _)); (fail_if_success (with_reducible show wpAny _ _ (subscriptTail _ (PySem.Expr.Slice none none (some _) _) _ _) _ _ _)); (fail_if_success (with_reducible show wpAny _ _ (call (.builtin "sorted") _) _ _ _)); (fail_if_success (with_reducible show wpAny _ _ (call (.type "list") _) _ _ _)); (fail_if_success (with_reducible show wpAny _ _ (compareOp _ (.ref _) (.ref _)) _ _ _)); walk1; try dsimp only) | (with_reducible refine ite_no ?_) | (with_reducible refine ite_yes ?_)))
  refine' krv_lit (s := ⟨h9, g, d, _, o⟩) (zs := ms.reverse) F9 N9 (News.lst N9 (.tail _ (.tail _ (.tail _ (.tail _ (.head _)))))) (IsPart.int _ _) rfl (fun M9 h10 F10 N10 _ => ?_) ?s2 ?t2 ?z2
  case s2 => with_unfolding_all rfl
  case t2 => kmk_pure
  case z2 => rw [sizeLine_eq, List.size_toArray]; omega
  clear F9 N9
  (repeat' (first | k_data | ((fail_if_success (with_reducible show wpAny _ _ (exec (Stmt.For _ _ _ _ _) _) _ _ _)); (fail_if_success (with_reducible show wpAny _ _ (eval (Expr.ListComp _ _ _ _) _) _ _ _)); (fail_if_success (with_reducible show wpAny _ _ (exec (Stmt.Assign _ (Expr.ListComp _ _ _ _) _) _) _ _ _)); (fail_if_success (with_reducible show wpAny _ _ (subscriptTail _ (PySem.Expr.Slice none none (some _) _) _ _) _ _ _)); (fail_if_success (with_reducible show wpAny _ _ (call (.builtin "sorted") _) _ _ _)); (fail_if_success (with_reducible show wpAny _ _ (call (.type "list") _) _ _ _)); (fail_if_success (with_reducible show wpAny _ _ (compareOp _ (.ref _) (.ref _)) _ _ _)); walk1; try dsimp only) | (with_reducible refine ite_no ?_) | (with_reducible refine ite_yes ?_)))
  rename Fr _ _ _ _ => F11
  rename News _ _ _ _ => N11
  refine ne_pair (N11 _ (.tail _ (.tail _ (.tail _ (.head _))))).1 (N11 _ (.head _)).1 (News.lst N11 (.tail _ (.tail _ (.tail _ (.tail _ (.head _)))))) (News.lst N11 (.tail _ (.tail _ (.tail _ (.tail _ (.tail _ (.head _))))))) (News.lst N11 (.tail _ (.tail _ (.head _)))) (News.lst N11 (.tail _ (.head _))) hms2 hgs2 (strs_reverse hgs) (strs_reverse hms) (ob.sub _).rev (oa.sub _) (ob.sub _).rev (oa.sub _).rev.rev ?u ?_
  case u => have := R8.hu; rw [Around.deeper_units]; dsimp only at this ⊢; omega
  rw [List.reverse_reverse, decide_eq_true (⟨rfl, rfl⟩ : (sub bs as).reverse = (sub bs as).reverse ∧ sub as bs = sub as bs)]
  have N12 : News H8 L _ [(mi1, W.listOf (List.toArray ms) km), (D2, W.listOf (List.toArray gs) kg), (L + 1 + 1, o1), (L + 1, o2)] := News.sub N11 (fun q hq => by
    revert q hq; refine all_cons ?_ (all_cons ?_ (all_cons ?_ (all_cons ?_ all_nil))) <;> repeat (first | exact List.Mem.head _ | refine List.Mem.tail _ ?_))
  clear N11
  have hva8 := (KeepX.of_turn T8).list hva4
  have hvb8 := (KeepX.of_turn T8).list hvb4
  (repeat' (first | k_data | ((fail_if_success (with_reducible show wpAny _ _ (exec (Stmt.For _ _ _ _ _) _) _ _ _)); (fail_if_success (with_reducible show wpAny _ _ (eval (Expr.ListComp _ _ _ _) _) _ _ _)); (fail_if_success (with_reducible show wpAny _ _ (exec (Stmt.Assign _ (Expr.ListComp _ _ _ _) _) _) _ _ _)); (fail_if_success (with_reducible show wpAny _ _ (subscriptTail _ (PySem.Expr.Slice none none (some _) _) _ _) _ _ _)); (fail_if_success (with_reducible show wpAny _ _ (call (.builtin "sorted") _) _ _ _)); (fail_if_success (with_reducible show wpAny _ _ (call (.type "list") _) _ _ _)); (fail_if_success (with_reducible show wpAny _ _ (compareOp _ (.ref _) (.ref _)) _ _ _)); walk1; try dsimp only) | (with_reducible refine ite_no ?_) | (with_reducible refine ite_yes ?_)))
  refine sorted_at F11 N12 (F11.lst hvb8) hib (by omega) fun B13 h13 v13 s13 k13 F13 N13 i13 p13 b13 ap13 => ?_
  clear F11 N12
  (repeat' (first | k_data | ((fail_if_success (with_reducible show wpAny _ _ (exec (Stmt.For _ _ _ _ _) _) _ _ _)); (fail_if_success (with_reducible show wpAny _ _ (eval (Expr.ListComp _ _ _ _) _) _ _ _)); (fail_if_success (with_reducible show wpAny _ _ (exec (Stmt.Assign _ (Expr.ListComp _ _ _ _) _) _) _ _ _)); (fail_if_success (with_reducible show wpAny _ _ (subscriptTail _ (PySem.Expr.Slice none none (some _) _) _ _) _ _ _)); (fail_if_success (with_reducible show wpAny _ _ (call (.builtin "sorted") _) _ _ _)); (fail_if_success (with_reducible show wpAny _ _ (call (.type "list") _) _ _ _)); (fail_if_success (with_reducible show wpAny _ _ (compareOp _ (.ref _) (.ref _)) _ _ _)); walk1; try dsimp only) | (with_reducible refine ite_no ?_) | (with_reducible refine ite_yes ?_)))
  refine sorted_at F13 N13 (F13.lst hva8) hia (by omega) fun A14 h14 v14 s14 k14 F14 N14 i14 p14 b14 ap14 => ?_
  clear F13 N13
  have asc13 := sortedS_asc b13 (p13.nodup_iff.mpr nb)
  have asc14 := sortedS_asc b14 (p14.nodup_iff.mpr na)
  (repeat' (first | k_data | ((fail_if_success (with_reducible show wpAny _ _ (exec (Stmt.For _ _ _ _ _) _) _ _ _)); (fail_if_success (with_reducible show wpAny _ _ (eval (Expr.ListComp _ _ _ _) _) _ _ _)); (fail_if_success (with_reducible show wpAny _ _ (exec (Stmt.Assign _ (Expr.ListComp _ _ _ _) _) _) _ _ _)); (fail_if_success (with_reducible show wpAny _ _ (subscriptTail _ (PySem.Expr.Slice none none (some _) _) _ _) _ _ _)); (fail_if_success (with_reducible show wpAny _ _ (call (.builtin "sorted") _) _ _ _)); (fail_if_success (with_reducible show wpAny _ _ (call (.type "list") _) _ _ _)); (fail_if_success (with_reducible show wpAny _ _ (compareOp _ (.ref _) (.ref _)) _ _ _)); walk1; try dsimp only) | (with_reducible refine ite_no ?_) | (with_reducible refine ite_yes ?_)))
  refine sdiff_at (n := n + 25) R8 F14 N14 (.tail _ (.head _)) (.head _) i13 i14 (by have := p13.length_eq; omega) (by have := p14.length_eq; omega) asc13 asc14 fun r15 m15 u15 h15 tk15 H15 vm15 vu15 km15 ku15 R15 T15 F15 N15' hm15 hu15 => ?_
  clear F14 N14 X T
  have X := R15.X
  have T := R15.T
  (repeat' (first | k_data | ((fail_if_success (with_reducible show wpAny _ _ (exec (Stmt.For _ _ _ _ _) _) _ _ _)); (fail_if_success (with_reducible show wpAny _ _ (eval (Expr.ListComp _ _ _ _) _) _ _ _)); (fail_if_success (with_reducible show wpAny _ _ (exec (Stmt.Assign _ (Expr.ListComp _ _ _ _) _) _) _ _ _)); (fail_if_success (with_reducible show wpAny _ _ (subscriptTail _ (PySem.Expr.Slice none none (some _) _) _ _) _ _ _)); (fail_if_success (with_reducible show wpAny _ _ (call (.builtin "sorted") _) _ _ _)); (fail_if_success (with_reducible show wpAny _ _ (call (.type "list") _) _ _ _)); (fail_if_success (with_reducible show wpAny _ _ (compareOp _ (.ref _) (.ref _)) _ _ _)); walk1; try dsimp only) | (with_reducible refine ite_no ?_) | (with_reducible refine ite_yes ?_)))
  refine sorted_at F15 N15' (News.lst N15' (.tail _ (.tail _ (.tail _ (.tail _ (.tail _ (.tail _ (.head _)))))))) hgs (by omega) fun G16 h16 v16 s16 k16 F16 N16 i16 p16 b16 ap16 => ?_
  clear F15 N15'
  (repeat' (first | k_data | ((fail_if_success (with_reducible show wpAny _ _ (exec (Stmt.For _ _ _ _ _) _) _ _ _)); (fail_if_success (with_reducible show wpAny _ _ (eval (Expr.ListComp _ _ _ _) _) _ _ _)); (fail_if_success (with_reducible show wpAny _ _ (exec (Stmt.Assign _ (Expr.ListComp _ _ _ _) _) _) _ _ _)); (fail_if_success (with_reducible show wpAny _ _ (subscriptTail _ (PySem.Expr.Slice none none (some _) _) _ _) _ _ _)); (fail_if_success (with_reducible show wpAny _ _ (call (.builtin "sorted") _) _ _ _)); (fail_if_success (with_reducible show wpAny _ _ (call (.type "list") _) _ _ _)); (fail_if_success (with_reducible show wpAny _ _ (compareOp _ (.ref _) (.ref _)) _ _ _)); walk1; try dsimp only) | (with_reducible refine ite_no ?_) | (with_reducible refine ite_yes ?_)))
  refine sorted_at F16 N16 (News.lst N16 (.tail _ (.tail _ (.tail _ (.tail _ (.tail _ (.tail _ (.head _)))))))) hms (by omega) fun M17 h17 v17 s17 k17 F17 N17 i17 p17 b17 ap17 => ?_
  clear F16 N16
  (repeat' (first | k_data | ((fail_if_success (with_reducible show wpAny _ _ (exec (Stmt.For _ _ _ _ _) _) _ _ _)); (fail_if_success (with_reducible show wpAny _ _ (eval (Expr.ListComp _ _ _ _) _) _ _ _)); (fail_if_success (with_reducible show wpAny _ _ (exec (Stmt.Assign _ (Expr.ListComp _ _ _ _) _) _) _ _ _)); (fail_if_success (with_reducible show wpAny _ _ (subscriptTail _ (PySem.Expr.Slice none none (some _) _) _ _) _ _ _)); (fail_if_success (with_reducible show wpAny _ _ (call (.builtin "sorted") _) _ _ _)); (fail_if_success (with_reducible show wpAny _ _ (call (.type "list") _) _ _ _)); (fail_if_success (with_reducible show wpAny _ _ (compareOp _ (.ref _) (.ref _)) _ _ _)); walk1; try dsimp only) | (with_reducible refine ite_no ?_) | (with_reducible refine ite_yes ?_)))
  rename Fr _ _ _ _ => F18
  rename News _ _ _ _ => N18
  have pg : (sub s13 s14).Perm s16 := (sub_perm p13 p14).trans p16.symm
  have pm : (sub s14 s13).Perm s17 := (sub_perm p14 p13).trans ((List.reverse_perm _).symm.trans p17.symm)
  have eg : sub s13 s14 = s16 := asc_perm (asc13.sub _) (sortedS_asc b16 (pg.nodup_iff.mp (asc13.sub s14 |>.imp fun h => by rintro rfl; exact SLt.irrefl _ h))) pg
  have em : sub s14 s13 = s17 := asc_perm (asc14.sub _) (sortedS_asc b17 (pm.nodup_iff.mp (asc14.sub s13 |>.imp fun h => by rintro rfl; exact SLt.irrefl _ h))) pm
  refine ne_pair (N18 _ (.tail _ (.tail _ (.tail _ (.head _))))).1 (N18 _ (.head _)).1 (News.lst N18 (.tail _ (.tail _ (.tail _ (.tail _ (.head _)))))) (News.lst N18 (.tail _ (.tail _ (.tail _ (.tail _ (.tail _ (.head _))))))) (News.lst N18 (.tail _ (.tail _ (.head _)))) (News.lst N18 (.tail _ (.head _))) hm15 hu15 i16 i17 ((ob.perm p13).sub _) ((oa.perm p14).sub _) ((ob.sub _).perm p16) ((oa.sub _).rev.perm p17) ?u2 ?_
  case u2 => have := R15.hu; rw [Around.deeper_units]; dsimp only at this ⊢; omega
  rw [decide_eq_true (⟨eg, em⟩ : sub s13 s14 = s16 ∧ sub s14 s13 = s17)]
  have N19 : News H15 L _ [(mi1, W.listOf (List.toArray ms) km), (D2, W.listOf (List.toArray gs) kg), (L + 1 + 1, o1), (L + 1, o2)] := News.sub N18 (fun q hq => by
    revert q hq; refine all_cons ?_ (all_cons ?_ (all_cons ?_ (all_cons ?_ all_nil))) <;> repeat (first | exact List.Mem.head _ | refine List.Mem.tail _ ?_))
  clear N18 eg em pg pm i16 i17 p16 p17 b16 b17 i13 i14 hm15 hu15
  have hva15 := (KeepX.of_turn T15).list hva8
  have hvb15 := (KeepX.of_turn T15).list hvb8
  (repeat' (first | k_data | ((fail_if_success (with_reducible show wpAny _ _ (exec (Stmt.For _ _ _ _ _) _) _ _ _)); (fail_if_success (with_reducible show wpAny _ _ (eval (Expr.ListComp _ _ _ _) _) _ _ _)); (fail_if_success (with_reducible show wpAny _ _ (exec (Stmt.Assign _ (Expr.ListComp _ _ _ _) _) _) _ _ _)); (fail_if_success (with_reducible show wpAny _ _ (subscriptTail _ (PySem.Expr.Slice none none (some _) _) _ _) _ _ _)); (fail_if_success (with_reducible show wpAny _ _ (call (.builtin "sorted") _) _ _ _)); (fail_if_success (with_reducible show wpAny _ _ (call (.type "list") _) _ _ _)); (fail_if_success (with_reducible show wpAny _ _ (compareOp _ (.ref _) (.ref _)) _ _ _)); walk1; try dsimp only) | (with_reducible refine ite_no ?_) | (with_reducible refine ite_yes ?_)))
  rename Fr _ _ _ _ => F20
  rename News _ _ _ _ => N20
  refine diff_at (n := n + 22) (va := vb) (xs := bs) (ys := sub bs as) R15 F20 N20 (F20.lst hvb15) hib ⟨gs, News.lst N20 (.tail _ (.head _)), hgs⟩ (by omega) fun x21 dx21 It21 B21 St21 h21 tk21 F21 N21 I21 ap21 => ?_
  clear F20 N20
  (repeat' (first | k_data | ((fail_if_success (with_reducible show wpAny _ _ (exec (Stmt.For _ _ _ _ _) _) _ _ _)); (fail_if_success (with_reducible show wpAny _ _ (eval (Expr.ListComp _ _ _ _) _) _ _ _)); (fail_if_success (with_reducible show wpAny _ _ (exec (Stmt.Assign _ (Expr.ListComp _ _ _ _) _) _) _ _ _)); (fail_if_success (with_reducible show wpAny _ _ (subscriptTail _ (PySem.Expr.Slice none none (some _) _) _ _) _ _ _)); (fail_if_success (with_reducible show wpAny _ _ (call (.builtin "sorted") _) _ _ _)); (fail_if_success (with_reducible show wpAny _ _ (call (.type "list") _) _ _ _)); (fail_if_success (with_reducible show wpAny _ _ (compareOp _ (.ref _) (.ref _)) _ _ _)); walk1; try dsimp only) | (with_reducible refine ite_no ?_) | (with_reducible refine ite_yes ?_)))
  refine list_ff_at (n := n + 26) R15 F21 N21 I21 ap21 (by omega) fun D22 z22 k22 h22 tk22 H22 R22 T22 F22 N22 i22 => ?_
  clear F21 N21 I21 ap21 X T
  have X := R22.X
  have T := R22.T
  have hva22 := (KeepX.of_turn T22).list hva15
  have hvb22 := (KeepX.of_turn T22).list hvb15
  (repeat' (first | k_data | ((fail_if_success (with_reducible show wpAny _ _ (exec (Stmt.For _ _ _ _ _) _) _ _ _)); (fail_if_success (with_reducible show wpAny _ _ (eval (Expr.ListComp _ _ _ _) _) _ _ _)); (fail_if_success (with_reducible show wpAny _ _ (exec (Stmt.Assign _ (Expr.ListComp _ _ _ _) _) _) _ _ _)); (fail_if_success (with_reducible show wpAny _ _ (subscriptTail _ (PySem.Expr.Slice none none (some _) _) _ _) _ _ _)); (fail_if_success (with_reducible show wpAny _ _ (call (.builtin "sorted") _) _ _ _)); (fail_if_success (with_reducible show wpAny _ _ (call (.type "list") _) _ _ _)); (fail_if_success (with_reducible show wpAny _ _ (compareOp _ (.ref _) (.ref _)) _ _ _)); walk1; try dsimp only) | (with_reducible refine ite_no ?_) | (with_reducible refine ite_yes ?_)))
  rename Fr _ _ _ _ => F23
  rename News _ _ _ _ => N23
  refine diff_at (n := n + 22) (va := va) (xs := as) (ys := (sub as bs).reverse) R22 F23 N23 (F23.lst hva22) hia ⟨ms, News.lst N23 (.tail _ (.head _)), hms⟩ (by rw [List.length_reverse]; omega) fun x24 dx24 It24 B24 St24 h24 tk24 F24 N24 I24 ap24 => ?_
  clear F23 N23
  (repeat' (first | k_data | ((fail_if_success (with_reducible show wpAny _ _ (exec (Stmt.For _ _ _ _ _) _) _ _ _)); (fail_if_success (with_reducible show wpAny _ _ (eval (Expr.ListComp _ _ _ _) _) _ _ _)); (fail_if_success (with_reducible show wpAny _ _ (exec (Stmt.Assign _ (Expr.ListComp _ _ _ _) _) _) _ _ _)); (fail_if_success (with_reducible show wpAny _ _ (subscriptTail _ (PySem.Expr.Slice none none (some _) _) _ _) _ _ _)); (fail_if_success (with_reducible show wpAny _ _ (call (.builtin "sorted") _) _ _ _)); (fail_if_success (with_reducible show wpAny _ _ (call (.type "list") _) _ _ _)); (fail_if_success (with_reducible show wpAny _ _ (compareOp _ (.ref _) (.ref _)) _ _ _)); walk1; try dsimp only) | (with_reducible refine ite_no ?_) | (with_reducible refine ite_yes ?_)))
  refine sorted_ff_at (n := n + 25) R22 F24 N24 I24 ap24 (by omega) fun D25 z25 s25 k25 h25 tk25 H25 R25 T25 F25 N25 i25 p25 b25 => ?_
  clear F24 N24 I24 ap24 X T
  have X := R25.X
  have T := R25.T
  have hva25 := (KeepX.of_turn T25).list hva22
  (repeat' (first | k_data | ((fail_if_success (with_reducible show wpAny _ _ (exec (Stmt.For _ _ _ _ _) _) _ _ _)); (fail_if_success (with_reducible show wpAny _ _ (eval (Expr.ListComp _ _ _ _) _) _ _ _)); (fail_if_success (with_reducible show wpAny _ _ (exec (Stmt.Assign _ (Expr.ListComp _ _ _ _) _) _) _ _ _)); (fail_if_success (with_reducible show wpAny _ _ (subscriptTail _ (PySem.Expr.Slice none none (some _) _) _ _) _ _ _)); (fail_if_success (with_reducible show wpAny _ _ (call (.builtin "sorted") _) _ _ _)); (fail_if_success (with_reducible show wpAny _ _ (call (.type "list") _) _ _ _)); (fail_if_success (with_reducible show wpAny _ _ (compareOp _ (.ref _) (.ref _)) _ _ _)); walk1; try dsimp only) | (with_reducible refine ite_no ?_) | (with_reducible refine ite_yes ?_)))
  refine sorted_at F25 N25 (News.lst N25 (.tail _ (.head _))) i22 (by rw [strs_len i22]; have := sub_len bs (sub bs as); omega) fun D26 h26 z26 s26 k26 F26 N26 i26 p26 b26 ap26 => ?_
  clear F25 N25
  (repeat' (first | k_data | ((fail_if_success (with_reducible show wpAny _ _ (exec (Stmt.For _ _ _ _ _) _) _ _ _)); (fail_if_success (with_reducible show wpAny _ _ (eval (Expr.ListComp _ _ _ _) _) _ _ _)); (fail_if_success (with_reducible show wpAny _ _ (exec (Stmt.Assign _ (Expr.ListComp _ _ _ _) _) _) _ _ _)); (fail_if_success (with_reducible show wpAny _ _ (subscriptTail _ (PySem.Expr.Slice none none (some _) _) _ _) _ _ _)); (fail_if_success (with_reducible show wpAny _ _ (call (.builtin "sorted") _) _ _ _)); (fail_if_success (with_reducible show wpAny _ _ (call (.type "list") _) _ _ _)); (fail_if_success (with_reducible show wpAny _ _ (compareOp _ (.ref _) (.ref _)) _ _ _)); walk1; try dsimp only) | (with_reducible refine ite_no ?_) | (with_reducible refine ite_yes ?_)))
  have hp : s25.Perm s26 := p25.trans ((stay_perm nb na).trans p26.symm)
  have e26 : s25 = s26 := asc_perm (sortedS_asc b25 (p25.nodup_iff.mpr (sub_nodup na _))) (sortedS_asc b26 (p26.nodup_iff.mpr (sub_nodup nb _))) hp
  refine ne_strs (News.lst N26 (.tail _ (.head _))) (News.lst N26 (.head _)) i25 i26 ((oa.sub _).perm p25) ((ob.sub _).perm p26) ?u3 ?_
  case u3 => have := R25.hu; rw [Around.deeper_units]; dsimp only at this ⊢; omega
  rw [decide_eq_true e26]
  have N27 : News H25 L _ [(D22, W.listOf (List.toArray z22) k22), (mi1, W.listOf (List.toArray ms) km), (D2, W.listOf (List.toArray gs) kg), (L + 1 + 1, o1), (L + 1, o2)] := News.sub N26 (fun q hq => by
    revert q hq; refine all_cons ?_ (all_cons ?_ (all_cons ?_ (all_cons ?_ (all_cons ?_ all_nil)))) <;> repeat (first | exact List.Mem.head _ | refine List.Mem.tail _ ?_))
  clear N26 e26 hp i25 i26 p25 p26 b25 b26
  (repeat' (first | k_data | ((fail_if_success (with_reducible show wpAny _ _ (exec (Stmt.For _ _ _ _ _) _) _ _ _)); (fail_if_success (with_reducible show wpAny _ _ (eval (Expr.ListComp _ _ _ _) _) _ _ _)); (fail_if_success (with_reducible show wpAny _ _ (exec (Stmt.Assign _ (Expr.ListComp _ _ _ _) _) _) _ _ _)); (fail_if_success (with_reducible show wpAny _ _ (subscriptTail _ (PySem.Expr.Slice none none (some _) _) _ _) _ _ _)); (fail_if_success (with_reducible show wpAny _ _ (call (.builtin "sorted") _) _ _ _)); (fail_if_success (with_reducible show wpAny _ _ (call (.type "list") _) _ _ _)); (fail_if_success (with_reducible show wpAny _ _ (compareOp _ (.ref _) (.ref _)) _ _ _)); walk1; try dsimp only) | (with_reducible refine ite_no ?_) | (with_reducible refine ite_yes ?_)))
  rename Fr _ _ _ _ => F28
  rename News _ _ _ _ => N28
  refine diff_at (n := n + 22) (va := va) (xs := as) (ys := sub bs (sub bs as)) R25 F28 N28 (F28.lst hva25) hia ⟨z22, News.lst N28 (.head _), i22⟩ (by have := sub_len bs (sub bs as); omega) fun x29 dx29 It29 B29 St29 h29 tk29 F29 N29 I29 ap29 => ?_
  clear F28 N28
  (repeat' (first | k_data | ((fail_if_success (with_reducible show wpAny _ _ (exec (Stmt.For _ _ _ _ _) _) _ _ _)); (fail_if_success (with_reducible show wpAny _ _ (eval (Expr.ListComp _ _ _ _) _) _ _ _)); (fail_if_success (with_reducible show wpAny _ _ (exec (Stmt.Assign _ (Expr.ListComp _ _ _ _) _) _) _ _ _)); (fail_if_success (with_reducible show wpAny _ _ (subscriptTail _ (PySem.Expr.Slice none none (some _) _) _ _) _ _ _)); (fail_if_success (with_reducible show wpAny _ _ (call (.builtin "sorted") _) _ _ _)); (fail_if_success (with_reducible show wpAny _ _ (call (.type "list") _) _ _ _)); (fail_if_success (with_reducible show wpAny _ _ (compareOp _ (.ref _) (.ref _)) _ _ _)); walk1; try dsimp only) | (with_reducible refine ite_no ?_) | (with_reducible refine ite_yes ?_)))
  refine list_ff_at (n := n + 26) R25 F29 N29 I29 ap29 (by omega) fun D30 z30 k30 h30 tk30 H30 R30 T30 F30 N30 i30 => ?_
  rw [stay_rest] at i30
  clear F29 N29 I29 ap29 X T
  have X := R30.X
  have T := R30.T
  (repeat' (first | k_data | ((fail_if_success (with_reducible show wpAny _ _ (exec (Stmt.For _ _ _ _ _) _) _ _ _)); (fail_if_success (with_reducible show wpAny _ _ (eval (Expr.ListComp _ _ _ _) _) _ _ _)); (fail_if_success (with_reducible show wpAny _ _ (exec (Stmt.Assign _ (Expr.ListComp _ _ _ _) _) _) _ _ _)); (fail_if_success (with_reducible show wpAny _ _ (subscriptTail _ (PySem.Expr.Slice none none (some _) _) _ _) _ _ _)); (fail_if_success (with_reducible show wpAny _ _ (call (.builtin "sorted") _) _ _ _)); (fail_if_success (with_reducible show wpAny _ _ (call (.type "list") _) _ _ _)); (fail_if_success (with_reducible show wpAny _ _ (compareOp _ (.ref _) (.ref _)) _ _ _)); walk1; try dsimp only) | (with_reducible refine ite_no ?_) | (with_reducible refine ite_yes ?_)))
  refine' krv_lit (s := ⟨h30, _, d, _, o⟩) (zs := ms.reverse) F30 N30 (News.lst N30 (.tail _ (.tail _ (.head _)))) (IsPart.int _ _) rfl (fun M31 h31 F31 N31 _ => ?_) ?s3 ?t3 ?z3
  case s3 => with_unfolding_all rfl
  case t3 => kmk_pure
  case z3 => rw [sizeLine_eq, List.size_toArray]; omega
  clear F30 N30
  (repeat' (first | k_data | ((fail_if_success (with_reducible show wpAny _ _ (exec (Stmt.For _ _ _ _ _) _) _ _ _)); (fail_if_success (with_reducible show wpAny _ _ (eval (Expr.ListComp _ _ _ _) _) _ _ _)); (fail_if_success (with_reducible show wpAny _ _ (exec (Stmt.Assign _ (Expr.ListComp _ _ _ _) _) _) _ _ _)); (fail_if_success (with_reducible show wpAny _ _ (subscriptTail _ (PySem.Expr.Slice none none (some _) _) _ _) _ _ _)); (fail_if_success (with_reducible show wpAny _ _ (call (.builtin "sorted") _) _ _ _)); (fail_if_success (with_reducible show wpAny _ _ (call (.type "list") _) _ _ _)); (fail_if_success (with_reducible show wpAny _ _ (compareOp _ (.ref _) (.ref _)) _ _ _)); walk1; try dsimp only) | (with_reducible refine ite_no ?_) | (with_reducible refine ite_yes ?_)))
  refine ne_strs (News.lst N31 (.tail _ (.head _))) (News.lst N31 (.head _)) i30 (strs_reverse hms) (oa.sub _) (oa.sub _).rev.rev ?u4 ?_
  case u4 => have := R30.hu; rw [Around.deeper_units]; dsimp only at this ⊢; omega
  rw [List.reverse_reverse, decide_eq_true (rfl : sub as bs = sub as bs)]
  have N32 : News H30 L _ [(mi1, W.listOf (List.toArray ms) km), (D2, W.listOf (List.toArray gs) kg), (L + 1 + 1, o1), (L + 1, o2)] := News.sub N31 (fun q hq => by
    revert q hq; refine all_cons ?_ (all_cons ?_ (all_cons ?_ (all_cons ?_ all_nil))) <;> repeat (first | exact List.Mem.head _ | refine List.Mem.tail _ ?_))
  clear N31 i30
  (repeat' (first | k_data | ((fail_if_success (with_reducible show wpAny _ _ (exec (Stmt.For _ _ _ _ _) _) _ _ _)); (fail_if_success (with_reducible show wpAny _ _ (eval (Expr.ListComp _ _ _ _) _) _ _ _)); (fail_if_success (with_reducible show wpAny _ _ (exec (Stmt.Assign _ (Expr.ListComp _ _ _ _) _) _) _ _ _)); (fail_if_success (with_reducible show wpAny _ _ (subscriptTail _ (PySem.Expr.Slice none none (some _) _) _ _) _ _ _)); (fail_if_success (with_reducible show wpAny _ _ (call (.builtin "sorted") _) _ _ _)); (fail_if_success (with_reducible show wpAny _ _ (call (.type "list") _) _ _ _)); (fail_if_success (with_reducible show wpAny _ _ (compareOp _ (.ref _) (.ref _)) _ _ _)); walk1; try dsimp only) | (with_reducible refine ite_no ?_) | (with_reducible refine ite_yes ?_)))
  have K30 := KeepX.of_turn R30.T0
  obtain ⟨vsd, hvsd, hisd⟩ := id hsd
  obtain ⟨vwd, hvwd, hiwd⟩ := id hwd
  have hsd30 := K30.list hvsd
  have hwd30 := K30.list hvwd
  have lsd := hisd.length
  have lwd := hiwd.length
  refine comp_assignR (by with_unfolding_all rfl) (by exact rfl) rfl rfl ?_
  (repeat' (first | k_data | ((fail_if_success (with_reducible show wpAny _ _ (exec (Stmt.For _ _ _ _ _) _) _ _ _)); (fail_if_success (with_reducible show wpAny _ _ (eval (Expr.ListComp _ _ _ _) _) _ _ _)); (fail_if_success (with_reducible show wpAny _ _ (exec (Stmt.Assign _ (Expr.ListComp _ _ _ _) _) _) _ _ _)); (fail_if_success (with_reducible show wpAny _ _ (subscriptTail _ (PySem.Expr.Slice none none (some _) _) _ _) _ _ _)); (fail_if_success (with_reducible show wpAny _ _ (call (.builtin "sorted") _) _ _ _)); (fail_if_success (with_reducible show wpAny _ _ (call (.type "list") _) _ _ _)); (fail_if_success (with_reducible show wpAny _ _ (compareOp _ (.ref _) (.ref _)) _ _ _)); walk1; try dsimp only) | (with_reducible refine ite_no ?_) | (with_reducible refine ite_yes ?_)))
  rename Fr _ _ _ _ => F33
  rename News _ _ _ _ => N33
  rename IntsAre _ _ => i33
  refine comp_filterI (fun y => !decide (y ∈ bp) || !decide (y ∈ wp)) F33 N33 rfl (News.lst N33 (.head _)) i33 (by rw [List.length_append]; omega) rfl rfl rfl rfl ?_ ?_
  · intro C one tv h34 tk34 mc Qb ho hmx F34 N34 _ hQb
    replace F34 := Fr.norm F34 [("place", .int one tv)] (by intro q hq; obtain rfl := List.mem_singleton.mp hq; exact hmx)
    have hsd34 := F34.lst hsd30
    have hwd34 := F34.lst hwd30
    clear F33 N33
    (repeat' (first | k_data | ((fail_if_success (with_reducible show wpAny _ _ (exec (Stmt.For _ _ _ _ _) _) _ _ _)); (fail_if_success (with_reducible show wpAny _ _ (eval (Expr.ListComp _ _ _ _) _) _ _ _)); (fail_if_success (with_reducible show wpAny _ _ (exec (Stmt.Assign _ (Expr.ListComp _ _ _ _) _) _) _ _ _)); (fail_if_success (with_reducible show wpAny _ _ (subscriptTail _ (PySem.Expr.Slice none none (some _) _) _ _) _ _ _)); (fail_if_success (with_reducible show wpAny _ _ (call (.builtin "sorted") _) _ _ _)); (fail_if_success (with_reducible show wpAny _ _ (call (.type "list") _) _ _ _)); (fail_if_success (with_reducible show wpAny _ _ (compareOp _ (.ref _) (.ref _)) _ _ _)); walk1; try dsimp only) | (with_reducible refine ite_no ?_) | (with_reducible refine ite_yes ?_)))
    · have z := hQb tk34
      rename ((wp.any _) = true) => hw1
      rename ((bp.any _) = true) => hb1
      rw [← any_int, ← any_int, hw1, hb1] at z
      exact z
    · have z := hQb tk34
      rename ((wp.any _) = false) => hw1
      rename ((bp.any _) = true) => hb1
      rw [← any_int, ← any_int, hw1, hb1] at z
      exact z
    · have z := hQb tk34
      rename ((bp.any _) = false) => hb1
      rw [← any_int bp, hb1] at z
      exact z
  · intro D35 C35 h35 tk35 ys mc hD hC hDC hnc st35 hpl hys
    have F35 := Fr.stay F33 st35
    have N35 := News.stay N33 st35
    obtain ⟨oL33, _, _, eL33, _⟩ := F33.ns
    have hLC : L ≠ C35 := fun z => by (first | exact (ne_get eL33 (hC) (z)).elim | exact (ne_get (hC) eL33 (z)).elim | (rw [z, hC] at eL33; cases eL33))
    have hLD : D35 ≠ L := fun z => by (first | exact (ne_get eL33 (hD) (z).symm).elim | exact (ne_get (hD) eL33 (z).symm).elim | (rw [← z, hD] at eL33; cases eL33))
    refine post_assign hnc F35.ns hLC rfl rfl fun h36 tk36 hn36 k36 => ?_
    have hN : ∀ q ob, Heap.get? _ q = some ob → q ≠ L → h36.get? q = some ob := fun q ob e b1 => k36 _ _ (fun z => by (first | exact (ne_get e (hC) (z)).elim | exact (ne_get (hC) e (z)).elim | (rw [z, hC] at e; cases e))) b1 (st35 _ _ e)
    have F36 : Fr H30 L h36 _ := ⟨hn36, fun b ob e => hN _ _ (F33.keep _ _ e) (fun z => absurd (Nat.lt_of_lt_of_le (Heap.lt_size e) F33.above) (z ▸ Nat.lt_irrefl _)), F33.above⟩
    obtain ⟨kD35, eD35⟩ := hpl
    have hHn : ∀ b, Heap.get? _ b = none → H30.get? b = none := fun b e => by
      exact get_gone (F33.keep _) e
    have N36 : News H30 L h36 [(D35, W.listOf ys.toArray kD35), (mi1, W.listOf (List.toArray ms) km), (D2, W.listOf (List.toArray gs) kg), (L + 1 + 1, o1), (L + 1, o2)] := fun q hq => by
      rcases List.mem_cons.mp hq with rfl | hq
      · exact ⟨k36 _ _ hDC hLD eD35, hLD, hHn _ hD⟩
      · have := N33 q (.tail _ hq)
        exact ⟨hN _ _ this.1 this.2.1, this.2⟩
    clear F33 N33 F35 N35
    (repeat' (first | k_data | ((fail_if_success (with_reducible show wpAny _ _ (exec (Stmt.For _ _ _ _ _) _) _ _ _)); (fail_if_success (with_reducible show wpAny _ _ (eval (Expr.ListComp _ _ _ _) _) _ _ _)); (fail_if_success (with_reducible show wpAny _ _ (exec (Stmt.Assign _ (Expr.ListComp _ _ _ _) _) _) _ _ _)); (fail_if_success (with_reducible show wpAny _ _ (subscriptTail _ (PySem.Expr.Slice none none (some _) _) _ _) _ _ _)); (fail_if_success (with_reducible show wpAny _ _ (call (.builtin "sorted") _) _ _ _)); (fail_if_success (with_reducible show wpAny _ _ (call (.type "list") _) _ _ _)); (fail_if_success (with_reducible show wpAny _ _ (compareOp _ (.ref _) (.ref _)) _ _ _)); walk1; try dsimp only) | (with_reducible refine ite_no ?_) | (with_reducible refine ite_yes ?_)))
    rename Fr _ _ _ _ => F37
    rename News _ _ _ _ => N37
    refine call_len_list (News.lst N37 (.head _)) (by rw [List.size_toArray, List.length_append]; have e1 : gs.toArray.toList.length = gs.length := rfl; have e2 : ms.toArray.toList.length = ms.length := rfl; omega) ?_
    (repeat' (first | k_data | ((fail_if_success (with_reducible show wpAny _ _ (exec (Stmt.For _ _ _ _ _) _) _ _ _)); (fail_if_success (with_reducible show wpAny _ _ (eval (Expr.ListComp _ _ _ _) _) _ _ _)); (fail_if_success (with_reducible show wpAny _ _ (exec (Stmt.Assign _ (Expr.ListComp _ _ _ _) _) _) _ _ _)); (fail_if_success (with_reducible show wpAny _ _ (subscriptTail _ (PySem.Expr.Slice none none (some _) _) _ _) _ _ _)); (fail_if_success (with_reducible show wpAny _ _ (call (.builtin "sorted") _) _ _ _)); (fail_if_success (with_reducible show wpAny _ _ (call (.type "list") _) _ _ _)); (fail_if_success (with_reducible show wpAny _ _ (compareOp _ (.ref _) (.ref _)) _ _ _)); walk1; try dsimp only) | (with_reducible refine ite_no ?_) | (with_reducible refine ite_yes ?_)))
    have lys := hys.length
    rotate_left
    · rename _ ≠ _ => hne
      refine absurd ?_ hne
      rw [List.size_toArray, List.length_append, lgs, lms, hcount]
    rename Fr _ _ _ _ => F38
    rename News _ _ _ _ => N38
    obtain ⟨vt0, ⟨kt0, et0⟩, it0⟩ := id htx
    obtain ⟨vab, hvab, iab⟩ := id hab
    have htx30 : H30.get? tx = some (W.listOf vt0.toArray kt0) := K30.1 _ _ et0 fun hm => by
      obtain ⟨ob, _, _, e1, e2⟩ := Rm.D tx hm
      rw [et0] at e1
      cases e1
      cases e2
    refine Tells.at (disk_tells (n := n + 26) bp gp mp up ts sd D2 mi1 ab tx lbp (by have := congrArg List.length hmp; rw [List.length_reverse, List.length_map] at this; omega) htl hal hnd hts hdr hgr hmr hG hM) (R30.inside rfl rfl) F38 ⟨⟨vsd, F38.lst hsd30, hisd⟩, ⟨gs, News.lst N38 (.tail _ (.tail _ (.tail _ (.head _)))), hgp ▸ hgs⟩, ⟨ms, News.lst N38 (.tail _ (.tail _ (.head _))), hmp ▸ hms⟩, ⟨vab, F38.lst (K30.list hvab), iab⟩, ⟨vt0, ⟨kt0, F38.keep _ _ htx30⟩, it0⟩⟩ fun v h39 tk39 F39 st39 hq39 => ?_
    obtain ⟨r39, u39, s39, rfl, hn39, ⟨k39, e39⟩, i39, p39, b39⟩ := hq39
    have N39a : News H30 L _ [(L + 1 + 1, o1), (L + 1, o2)] := News.sub N38 (fun q hq => by
      revert q hq; refine all_cons ?_ (all_cons ?_ all_nil) <;> repeat (first | exact List.Mem.head _ | refine List.Mem.tail _ ?_))
    have N39 : News H30 L h39 [(r39, W.listOf (List.toArray u39) k39), (L + 1 + 1, o1), (L + 1, o2)] := News.join F38 N39a st39 hn39 e39
    clear F38 N38 N39a
    (try clear F37 N37)
    (try clear F36 N36)
    (try clear hN k36 hn36 hHn)
    (repeat' (first | k_data | ((fail_if_success (with_reducible show wpAny _ _ (exec (Stmt.For _ _ _ _ _) _) _ _ _)); (fail_if_success (with_reducible show wpAny _ _ (eval (Expr.ListComp _ _ _ _) _) _ _ _)); (fail_if_success (with_reducible show wpAny _ _ (exec (Stmt.Assign _ (Expr.ListComp _ _ _ _) _) _) _ _ _)); (fail_if_success (with_reducible show wpAny _ _ (subscriptTail _ (PySem.Expr.Slice none none (some _) _) _ _) _ _ _)); (fail_if_success (with_reducible show wpAny _ _ (call (.builtin "sorted") _) _ _ _)); (fail_if_success (with_reducible show wpAny _ _ (call (.type "list") _) _ _ _)); (fail_if_success (with_reducible show wpAny _ _ (compareOp _ (.ref _) (.ref _)) _ _ _)); walk1; try dsimp only) | (with_reducible refine ite_no ?_) | (with_reducible refine ite_yes ?_)))
    refine sorted_N F39 N39 (F39.lst hwd30) hiwd (by omega) fun h40 u40 s40 e40 F40 N40 i40 p40 b40 => ?_
    clear F39 N39
    (repeat' (first | k_data | ((fail_if_success (with_reducible show wpAny _ _ (exec (Stmt.For _ _ _ _ _) _) _ _ _)); (fail_if_success (with_reducible show wpAny _ _ (eval (Expr.ListComp _ _ _ _) _) _ _ _)); (fail_if_success (with_reducible show wpAny _ _ (exec (Stmt.Assign _ (Expr.ListComp _ _ _ _) _) _) _ _ _)); (fail_if_success (with_reducible show wpAny _ _ (subscriptTail _ (PySem.Expr.Slice none none (some _) _) _ _) _ _ _)); (fail_if_success (with_reducible show wpAny _ _ (call (.builtin "sorted") _) _ _ _)); (fail_if_success (with_reducible show wpAny _ _ (call (.type "list") _) _ _ _)); (fail_if_success (with_reducible show wpAny _ _ (compareOp _ (.ref _) (.ref _)) _ _ _)); walk1; try dsimp only) | (with_reducible refine ite_no ?_) | (with_reducible refine ite_yes ?_)))
    refine ke_eq_ints (News.lst N40 (.tail _ (.head _))) (News.lst N40 (.head _)) i39 i40 ?u5 ?_
    case u5 => have := R30.hu; rw [Around.deeper_units]; dsimp only at this ⊢; omega
    have e40 : s39 = s40 := List.Perm.eq_of_pairwise (le := (· ≤ ·)) (fun a b _ _ x y => Int.le_antisymm x y) b39 b40 ((p39.trans hfin).trans p40.symm)
    rw [decide_eq_true e40]
    (repeat' (first | k_data | ((fail_if_success (with_reducible show wpAny _ _ (exec (Stmt.For _ _ _ _ _) _) _ _ _)); (fail_if_success (with_reducible show wpAny _ _ (eval (Expr.ListComp _ _ _ _) _) _ _ _)); (fail_if_success (with_reducible show wpAny _ _ (exec (Stmt.Assign _ (Expr.ListComp _ _ _ _) _) _) _ _ _)); (fail_if_success (with_reducible show wpAny _ _ (subscriptTail _ (PySem.Expr.Slice none none (some _) _) _ _) _ _ _)); (fail_if_success (with_reducible show wpAny _ _ (call (.builtin "sorted") _) _ _ _)); (fail_if_success (with_reducible show wpAny _ _ (call (.type "list") _) _ _ _)); (fail_if_success (with_reducible show wpAny _ _ (compareOp _ (.ref _) (.ref _)) _ _ _)); walk1; try dsimp only) | (with_reducible refine ite_no ?_) | (with_reducible refine ite_yes ?_)))
    rename Fr _ _ _ _ => F41
    exact hQ _ _ (hR _ _ _ (R30.kept F41) rfl)
end
end Mine

end
section
open PySem PyProof.Rows PySem.Spec PySem.Builtin PySem.Builtin.Str
namespace Mine
noncomputable abbrev SS (l : List Nat) : Str := ⟨l.toArray⟩
theorem SS_eq (x : Str) : x = SS x.cps.toList := by cases x; simp
theorem slash_goes (c : Nat) : ("/" : Str).cps.contains c = (c == 47) := by
  have : ("/" : Str) = SS [47] := by decide
  rw [this, Bool.eq_iff_iff]
  simp
theorem takeWhile_rep {a : List Nat} {n : Nat} (ha : a = [] ∨ a.getLast? ≠ some 47) : (((a ++ List.replicate n 47).reverse).takeWhile fun c => c == 47) = List.replicate n 47 := by
  rw [List.reverse_append, List.reverse_replicate, List.takeWhile_append_of_pos (by intro x hx; rw [List.eq_of_mem_replicate hx]; rfl)]
  have : a.reverse.takeWhile (fun c => c == 47) = [] := by
    cases h : a.reverse with
    | nil => rfl
    | cons x r =>
      have : a.getLast? = some x := by rw [← List.head?_reverse, h]; rfl
      rcases ha with rfl | ha
      · simp at h
      · have hx : x ≠ 47 := fun e => ha (by rw [this, e])
        rw [List.takeWhile_cons_of_neg (by simpa using hx)]
  rw [this, List.append_nil]
theorem rstrip_SS {a : List Nat} {n : Nat} (ha : a = [] ∨ a.getLast? ≠ some 47) : Txt.rstripChars (SS (a ++ List.replicate n 47)) "/" = SS a := by
  have goes : (("/" : Str).cps.contains) = fun c => c == 47 := funext slash_goes
  unfold Txt.rstripChars Txt.stripBy
  rw [goes]
  have hi : stripHi (fun c => c == 47) true (SS (a ++ List.replicate n 47)) (stripLo (fun c => c == 47) false (SS (a ++ List.replicate n 47))) = a.length := by
    unfold stripHi stripLo
    simp only [if_true, Bool.false_eq_true, if_false, List.drop_zero]
    rw [takeWhile_rep ha]
    show (a ++ List.replicate n 47).toArray.size - _ = _
    simp
  unfold stripSame stripped
  rw [hi]
  split
  · rename_i h
    have h2 := (Bool.and_eq_true_iff.mp h).2
    have : a.length = (a ++ List.replicate n 47).length := by simpa [Str.length] using h2
    have hn : n = 0 := by rw [List.length_append, List.length_replicate] at this; omega
    subst hn
    simp
  · rw [strSub_mk]
    simp [stripLo]
theorem upto_indices {b len : Nat} (hb : b ≤ len) : strSliceIndices none (some (b : Int)) 1 len = List.range b := by
  have h : strSliceIndices none (some (b : Int)) 1 len = strSliceIndices (some ((0 : Nat) : Int)) (some (b : Int)) 1 len := by
    simp only [strSliceIndices, show ((1 : Int) > 0) = True from by simp, if_true]
    rw [if_neg (by exact (by decide) : ¬ ((0 : Nat) : Int) < 0), show max (0 : Int) (min ((0 : Nat) : Int) (len : Int)) = 0 by exact rfl]
  rw [h, StrLaws.strSliceIndices_plain (Nat.zero_le _) hb]
  simp
theorem range_pick (l : List Nat) : ∀ b : Nat, b ≤ l.length → (List.range b).filterMap (fun i => l[i]?) = l.take b
  | 0, _ => rfl
  | b + 1, h => by
    rw [List.range_succ, List.filterMap_append, range_pick l b (by exact (Nat.le_of_succ_le h)), List.take_add_one, List.getElem?_eq_getElem (by exact (Nat.lt_of_succ_le h))]
    simp [List.getElem?_eq_getElem (show b < l.length by exact (Nat.lt_of_succ_le h))]
theorem slice_SS {l : List Nat} {b : Nat} (hb : b ≤ l.length) : Txt.slice (SS l) none (some (b : Int)) = SS (l.take b) := by
  unfold Txt.slice
  rw [show (SS l).length = l.length by simp [Str.length], upto_indices hb]
  split
  · rename_i h
    have : b = l.length := by simpa using h
    rw [this, List.take_length]
  · congr 2
    rw [← range_pick l b hb]
    simp
theorem at_slash {l : List Nat} {i : Nat} : StrLaws.At (SS l) "/" (SS l).length i ↔ l[i]? = some 47 := by
  have e : ("/" : Str) = SS [47] := by decide
  rw [e]
  unfold StrLaws.At subAt
  have h1 : (SS [47]).length = 1 := rfl
  have h2 : (SS l).length = l.length := by simp [Str.length]
  rw [h1, h2]
  constructor
  · rintro ⟨a, b⟩
    have b' : l.toArray.extract i (i + 1) = #[47] := by simpa using b
    have := congrArg Array.toList b'
    rw [Array.toList_extract] at this
    simp only [List.extract_eq_take_drop] at this
    have := congrArg (fun z : List Nat => z[0]?) this
    simpa [List.getElem?_take, List.getElem?_drop] using this
  · intro h
    have hi := (List.getElem?_eq_some_iff.mp h).1
    refine ⟨by exact (Nat.succ_le_of_lt hi), ?_⟩
    have : l.toArray.extract i (i + 1) = #[47] := by
      apply Array.toList_inj.mp
      rw [Array.toList_extract]
      simp only [List.extract_eq_take_drop]
      rw [List.drop_eq_getElem_cons (by exact hi)]
      have := (List.getElem?_eq_some_iff.mp h).2
      simp [this]
    simpa using this
/-- what stands ahead of the last slash, the slash too -/
theorem head_none {l : List Nat} (h : 47 ∉ l) : Txt.slice (SS l) none (some (Txt.rfind (SS l) "/" + 1)) = SS [] := by
  rcases rfind_whole (SS l) "/" with ⟨e, _⟩ | ⟨i, _, hi, _⟩
  · rw [e]
    exact slice_SS (l := l) (b := 0) (Nat.zero_le _)
  · exact absurd (List.mem_of_getElem? (at_slash.mp hi)) h
theorem head_some {a b : List Nat} (h : 47 ∉ b) : Txt.slice (SS (a ++ 47 :: b)) none (some (Txt.rfind (SS (a ++ 47 :: b)) "/" + 1)) = SS (a ++ [47]) := by
  rcases rfind_whole (SS (a ++ 47 :: b)) "/" with ⟨_, hn⟩ | ⟨i, e, hi, hn⟩
  · exact absurd (at_slash.mpr (by rw [List.getElem?_append_right (Nat.le_refl _), Nat.sub_self]; rfl)) (hn a.length)
  · have hi' := at_slash.mp hi
    have e1 : i = a.length := by
      rcases Nat.lt_trichotomy i a.length with z | z | z
      · exact absurd (at_slash.mpr (by rw [List.getElem?_append_right (Nat.le_refl _), Nat.sub_self]; rfl)) (hn a.length z)
      · exact z
      · rw [List.getElem?_append_right (by exact (Nat.le_of_lt z))] at hi'
        obtain ⟨k, hk⟩ : ∃ k, i - a.length = k + 1 := ⟨i - a.length - 1, by omega⟩
        rw [hk] at hi'
        exact absurd (List.mem_of_getElem? (by simpa using hi')) h
    rw [e, e1]
    have := slice_SS (l := a ++ 47 :: b) (b := a.length + 1) (by simp)
    rw [show ((a.length : Nat) : Int) + 1 = ((a.length + 1 : Nat) : Int) by exact rfl, this]
    congr 2
    simp [List.take_append, List.take_of_length_le]
theorem mul_SS (n : Nat) : Txt.mul "/" (n : Int) = SS (List.replicate n 47) := by
  have e : ("/" : Str) = SS [47] := by decide
  rw [e]
  have fold : ∀ (n : Nat) (acc : Array Nat), (List.replicate n #[47]).foldl (· ++ ·) acc = acc ++ (List.replicate n 47).toArray := by
    intro n
    induction n with
    | zero => intro acc; simp
    | succ n ih =>
      intro acc
      rw [List.replicate_succ, List.foldl_cons, ih, List.replicate_succ]
      apply Array.toList_inj.mp
      simp
  unfold Txt.mul
  split
  · have : n = 0 := by omega
    subst this; rfl
  · split
    · rename_i h
      have : n = 1 := by
        have : ((SS [47]).length == 0) = false := rfl
        rw [this] at h
        simp at h
        omega
      subst this; rfl
    · rw [Int.toNat_natCast, fold]
      simp
theorem SS_append (a b : List Nat) : SS a ++ SS b = SS (a ++ b) := by
  show Str.append _ _ = _
  unfold Str.append
  simp
theorem SS_inj {a b : List Nat} : SS a = SS b ↔ a = b := by
  constructor
  · intro h; have := congrArg (fun s : Str => s.cps.toList) h; simpa using this
  · rintro rfl; rfl
end Mine

end
section
open PySem PyProof.Rows PySem.Spec
namespace Mine
noncomputable def Elt (l : List Nat) : Prop := l ≠ [] ∧ 47 ∉ l
/-- a told tree: each text is the one above, slashes, an element -/
structure PlOk (up : List Int) (ts : List Str) : Prop where
  len : ts.length = up.length
  zero : ts.getD 0 Str.empty = SS []
  step : ∀ k : Nat, 0 < k → k < up.length → (0 ≤ up.getD k 0 ∧ up.getD k 0 < k) ∧ ∃ s el, Elt el ∧ (up.getD k 0 ≠ 0 → 0 < s) ∧ ts.getD k Str.empty = ts.getD (up.getD k 0).toNat Str.empty ++ SS (List.replicate s 47) ++ SS el
  short : ∀ x ∈ ts, x.length ≤ 100
theorem PlOk.up {up : List Int} {ts : List Str} (P : PlOk up ts) : UpOk up := fun k h0 h1 => (P.step k h0 h1).1
noncomputable abbrev TX (ts : List Str) (q : Int) : Str := ts.getD q.toNat Str.empty
theorem elt_last {l el : List Nat} (h : Elt el) : (l ++ el) ≠ [] ∧ (l ++ el).getLast? ≠ some 47 := by
  obtain ⟨h1, h2⟩ := h
  refine ⟨fun e => h1 (List.append_eq_nil_iff.mp e).2, fun e => ?_⟩
  rw [List.getLast?_append] at e
  cases z : el.getLast? with
  | none => exact h1 (List.getLast?_eq_none_iff.mp z)
  | some x =>
    rw [z] at e
    have : x = 47 := by simpa using e
    subst this
    exact h2 (List.mem_of_getLast? z)
theorem SS_len (l : List Nat) : (SS l).length = l.length := by simp [Str.length]
theorem anc_step {ts : List Str} {up : List Int} {p el : List Nat} {s : Nat} {q : Int} {as : List Str} (he : Elt el) (hs : q ≠ 0 → 0 < s) (h0 : q = 0 → p = [] ∧ as = []) (h1 : q ≠ 0 → p ≠ [] ∧ p.getLast? ≠ some 47) (ha : AncIs (SS p) as) (hl : (p ++ List.replicate s 47 ++ el).length ≤ 1000) :
    AncIs (SS (p ++ List.replicate s 47 ++ el)) (SS (p ++ List.replicate s 47 ++ el) :: as) := by
  obtain ⟨l1, l2⟩ := elt_last (l := p ++ List.replicate s 47) he
  have r0 : Txt.rstripChars (SS (p ++ List.replicate s 47 ++ el)) "/" = SS (p ++ List.replicate s 47 ++ el) := by
    have := rstrip_SS (a := p ++ List.replicate s 47 ++ el) (n := 0) (.inr l2)
    simpa using this
  refine .cons (by rw [r0, SS_len]; exact fun e => l1 (List.eq_nil_of_length_eq_zero e)) (by rw [SS_len]; exact hl) ?_
  rcases Nat.eq_zero_or_pos s with rfl | hs0
  · have hq : q = 0 := Classical.byContradiction fun z => absurd (hs z) (Nat.lt_irrefl _)
    obtain ⟨rfl, rfl⟩ := h0 hq
    have e : headRaw (SS ([] ++ List.replicate 0 47 ++ el)) = SS [] := by
      have := head_none he.2
      simpa [headRaw] using this
    have : splitHead (SS ([] ++ List.replicate 0 47 ++ el)) = SS [] := by
      unfold splitHead
      rw [e, if_neg fun z => z.1 rfl]
    rw [this]
    exact ha
  · obtain ⟨s', rfl⟩ : ∃ s', s = s' + 1 := ⟨s - 1, by omega⟩
    have e : headRaw (SS (p ++ List.replicate (s' + 1) 47 ++ el)) = SS (p ++ List.replicate (s' + 1) 47) := by
      have := head_some (a := p ++ List.replicate s' 47) he.2
      unfold headRaw
      rw [show p ++ List.replicate (s' + 1) 47 ++ el = (p ++ List.replicate s' 47) ++ 47 :: el by rw [List.replicate_succ']; simp, this]
      rw [List.replicate_succ']; simp
    have hlen : p.length + (s' + 1) ≤ 1000 := by
      rw [List.length_append, List.length_append, List.length_replicate] at hl; exact (Nat.le_trans (Nat.le_add_right _ _) hl)
    by_cases hq : q = 0
    · obtain ⟨rfl, rfl⟩ := h0 hq
      have e2 : splitHead (SS ([] ++ List.replicate (s' + 1) 47 ++ el)) = SS ([] ++ List.replicate (s' + 1) 47) := by
        unfold splitHead
        rw [e, if_neg]
        rintro ⟨_, z⟩
        refine z ?_
        rw [SS_len]
        have := mul_SS ([] ++ List.replicate (s' + 1) 47 : List Nat).length
        rw [this]; simp
      rw [e2]
      exact .nil (by rw [rstrip_SS (.inl rfl)]; rfl) (by rw [SS_len]; simp; exact (Nat.le_trans (Nat.le_add_left _ _) (Nat.le_of_succ_le_succ hlen)))
    · obtain ⟨p1, p2⟩ := h1 hq
      have e2 : splitHead (SS (p ++ List.replicate (s' + 1) 47 ++ el)) = SS p := by
        unfold splitHead
        rw [e, if_pos, rstrip_SS (.inr p2)]
        refine ⟨by rw [SS_len]; simp, fun z => ?_⟩
        rw [SS_len, mul_SS, SS_inj] at z
        have hm : p.getLast p1 ∈ p ++ List.replicate (s' + 1) 47 := List.mem_append_left _ (List.getLast_mem p1)
        rw [z] at hm
        have := List.eq_of_mem_replicate hm
        exact p2 (by rw [List.getLast?_eq_some_getLast p1, this])
      rw [e2]
      exact ha
theorem text_list {up : List Int} {ts : List Str} (P : PlOk up ts) {q : Int} (h0 : 0 < q) (h1 : q < up.length) : ∃ l, TX ts q = SS l ∧ l ≠ [] ∧ l.getLast? ≠ some 47 := by
  obtain ⟨_, s, el, he, _, e⟩ := P.step q.toNat (by omega) (by exact (Mine.toNat_lt_len (Int.le_of_lt h0) h1))
  obtain ⟨a, b⟩ := elt_last (l := (ts.getD (up.getD q.toNat 0).toNat Str.empty).cps.toList ++ List.replicate s 47) he
  refine ⟨_, ?_, a, b⟩
  unfold TX
  rw [e, SS_eq (ts.getD (up.getD q.toNat 0).toNat Str.empty), SS_append, SS_append]
theorem text_anc {up : List Int} {ts : List Str} (P : PlOk up ts) : ∀ (n : Nat) (q : Int), q.toNat ≤ n → 0 ≤ q → q < up.length → AncIs (TX ts q) ((chain up q).reverse.map (TX ts))
  | 0, q, hn, h0, h1 => by
    obtain rfl : q = 0 := by omega
    rw [chain_zero]
    show AncIs (ts.getD 0 Str.empty) []
    rw [P.zero]
    exact .nil (by have := rstrip_SS (a := []) (n := 0) (.inl rfl); rw [show SS [] = SS ([] ++ List.replicate 0 47) from rfl, this]; rfl) (by decide)
  | n + 1, q, hn, h0, h1 => by
    by_cases hq : q = 0
    · exact text_anc P n q (by omega) h0 h1
    · obtain ⟨⟨u0, u1⟩, s, el, he, hs, e⟩ := P.step q.toNat (by omega) (by exact (Mine.toNat_lt_len h0 h1))
      have ih := text_anc P n (up.getD q.toNat 0) (by omega) u0 (by omega)
      rw [chain_step P.up (by omega) h1, List.reverse_append, List.reverse_singleton, List.singleton_append, List.map_cons]
      have hs' : (TX ts q).length ≤ 100 := by
        refine P.short _ ?_
        unfold TX
        rw [List.getD_eq_getElem?_getD, List.getElem?_eq_getElem (by have := P.len; omega)]
        exact List.getElem_mem _
      have e' : TX ts q = SS ((TX ts (up.getD q.toNat 0)).cps.toList ++ List.replicate s 47 ++ el) := by
        show ts.getD q.toNat Str.empty = _
        rw [e, SS_eq (ts.getD (up.getD q.toNat 0).toNat Str.empty), SS_append, SS_append]
      rw [e'] at hs' ⊢
      rw [SS_len] at hs'
      refine anc_step (ts := ts) (up := up) (q := up.getD q.toNat 0) he hs (fun z => ?_) (fun z => ?_) (by rw [← SS_eq]; exact ih) (by omega)
      · refine ⟨?_, by rw [z]; rfl⟩
        have : TX ts (up.getD q.toNat 0) = SS [] := by unfold TX; rw [z]; exact P.zero
        rw [this]
      · obtain ⟨l, a, b, c⟩ := text_list P (q := up.getD q.toNat 0) (by omega) (by omega)
        rw [a]
        exact ⟨by simpa using b, by simpa using c⟩
end Mine

end
section
open PySem PySem.W PyProof.Rows PySem.Spec PySem.Calls
namespace Mine
/-- the law's statements and its scope -/
noncomputable def lawDef : List Stmt × Scope := (PySem.Challenge.pw_il0138_01.main.body.getLast?).elim ([], default) fun s => match s with | .FunctionDef _ _ b _ _ _ sc _ _ _ => (b, sc) | _ => ([], default)
noncomputable abbrev lawEnv (L : Addr) : Env := envOfC (Str.ofString "law") lawDef.2 L 215 (.ref 214)
noncomputable def goneP (bp wp : List Int) : List Int := bp.filter fun q => !decide (q ∈ wp)
noncomputable def madeP (bp wp : List Int) : List Int := (wp.filter fun q => !decide (q ∈ bp)).reverse
/-- what the plain law tells of one step from bp to wp -/
structure StepOk (up : List Int) (ts : List Str) (bp wp : List Int) : Prop where
  lb : bp.length ≤ 20
  lw : wp.length ≤ 20
  nb : (bp.map (TX ts)).Nodup
  na : (wp.map (TX ts)).Nodup
  ob : StrsOk (bp.map (TX ts))
  oa : StrsOk (wp.map (TX ts))
  gone : sub (bp.map (TX ts)) (wp.map (TX ts)) = (goneP bp wp).map (TX ts)
  made : (sub (wp.map (TX ts)) (bp.map (TX ts))).reverse = (madeP bp wp).map (TX ts)
  dr : ∀ q ∈ bp, 0 ≤ q ∧ q < ts.length
  gr : ∀ q ∈ goneP bp wp, 0 ≤ q ∧ q < ts.length
  mr : ∀ q ∈ madeP bp wp, 0 ≤ q ∧ q < ts.length
  G : ∀ k (hk : k < (goneP bp wp).length), (goneP bp wp)[k] ∈ goneAll ((goneP bp wp).take k) bp ∧ ∀ one ∈ goneAll ((goneP bp wp).take k) bp, up.getD one.toNat 0 ≠ (goneP bp wp)[k]
  M : ∀ k (hk : k < (madeP bp wp).length), (madeP bp wp)[k] ≠ 0 ∧ (madeP bp wp)[k] ∉ goneAll (goneP bp wp) bp ++ (madeP bp wp).take k ∧ up.getD ((madeP bp wp)[k]).toNat 0 ∈ 0 :: (goneAll (goneP bp wp) bp ++ (madeP bp wp).take k)
  fin : (goneAll (goneP bp wp) bp ++ madeP bp wp).Perm wp
  count : (sub (bp.map (TX ts)) (wp.map (TX ts))).length + (sub (wp.map (TX ts)) (bp.map (TX ts))).length = ((bp ++ wp).filter fun y => !decide (y ∈ bp) || !decide (y ∈ wp)).length
section
variable {w : World} {p : Program} {loose : List Str} {mean : ExcName → Option Value} {mg mb : Str → Option Value} {n : Nat}
noncomputable def LoNews (rw r0 r1 r2 tr t0 t1 t2 ab tx L : Addr) (vs0 vs1 vs2 us0 us1 us2 va vt : List Value) (kr kr0 kr1 kr2 kt kt0 kt1 kt2 ka kx : Nat) (o1 o2 : Obj) (ps : Array Value) : List (Addr × Obj) :=
  [(rw, W.listOf (List.toArray [.ref r0, .ref r1, .ref r2]) kr), (tr, W.listOf (List.toArray [.ref t0, .ref t1, .ref t2]) kt), (r0, W.listOf (List.toArray vs0) kr0), (r1, W.listOf (List.toArray vs1) kr1), (r2, W.listOf (List.toArray vs2) kr2), (t0, W.listOf (List.toArray us0) kt0), (t1, W.listOf (List.toArray us1) kt1), (t2, W.listOf (List.toArray us2) kt2), (ab, W.listOf (List.toArray va) ka), (tx, W.listOf (List.toArray vt) kx), (L + 1 + 1 + 1, o1), (L + 1 + 1, o2), (195, tabObj ps)]
set_option maxHeartbeats 4000000 in
theorem law_loop (up : List Int) (ts : List Str) (p0 p1 p2 : List Int) {dp un : Nat} {gd : Option (List Code)} {out : List Env} {base H₀ H h : Heap} {L : Addr} {m : Str → Option Value} {g : Array GenState} {d : Drawn} {tk : Nat} {o : OsState} {Q : Flow → Shared → Prop}
    {rw r0 r1 r2 tr t0 t1 t2 ab tx : Addr} {vs0 vs1 vs2 us0 us1 us2 va vt : List Value} {kr kr0 kr1 kr2 kt kt0 kt1 kt2 ka kx : Nat} {o1 o2 : Obj} {ps : Array Value}
    (htl : ts.length ≤ 1000) (hal : up.length = ts.length) (hnd : ts.Nodup) (hts : ∀ x ∈ ts, x.length ≤ 100) (S0 : StepOk up ts p2 p0) (S1 : StepOk up ts p0 p1) (S2 : StepOk up ts p1 p2)
    (R : Room w p loose mean mg mb (n + 40) ⟨none, dp, some out, gd, un⟩ base out H₀ H) (F : Fr H L h m) (mr : m "rows" = some (.ref rw)) (mt : m "trees" = some (.ref tr))
    (N : News H L h (LoNews rw r0 r1 r2 tr t0 t1 t2 ab tx L vs0 vs1 vs2 us0 us1 us2 va vt kr kr0 kr1 kr2 kt kt0 kt1 kt2 ka kx o1 o2 ps)) (hc1 : o1.data = .cell (some (.ref tx))) (hc2 : o2.data = .cell (some (.ref ab)))
    (i0 : StrsAre vs0 (p0.map (TX ts))) (i1 : StrsAre vs1 (p1.map (TX ts))) (i2 : StrsAre vs2 (p2.map (TX ts))) (j0 : IntsAre us0 p0) (j1 : IntsAre us1 p1) (j2 : IntsAre us2 p2) (ia : IntsAre va up) (ix : StrsAre vt ts)
    (hQ : ∀ h' tk' H' m', Room w p loose mean mg mb (n + 40) ⟨none, dp, some out, gd, un⟩ base out H₀ H' → Fr H' L h' m' → h'.get? 195 = some (tabObj ps) → Q (.ret (.bool true)) ⟨h', g, d, tk', o⟩) :
    wpAny (model PG w) ((⟨none, dp, some out, gd, un⟩ : Around).deeper (lawEnv L)) (execs (lawDef.1.drop 6) (lawEnv L)) Q No ⟨h, g, d, tk, o⟩ := by
  have X := R.X
  have T := R.T
  unfold lawEnv
  conv =>
    arg 3
    arg 1
    whnf
  conv =>
    arg 3
    arg 2
    arg 2
    whnf
  conv =>
    arg 2
    arg 2
    arg 2
    whnf
  (repeat' (first | k_data | ((fail_if_success (with_reducible show wpAny _ _ (exec (Stmt.For _ _ _ _ _) _) _ _ _)); (fail_if_success (with_reducible show wpAny _ _ (eval (Expr.ListComp _ _ _ _) _) _ _ _)); (fail_if_success (with_reducible show wpAny _ _ (exec (Stmt.Assign _ (Expr.ListComp _ _ _ _) _) _) _ _ _)); (fail_if_success (with_reducible show wpAny _ _ (compareOp _ (.ref _) (.ref _)) _ _ _)); walk1; try dsimp only) | (with_reducible refine ite_no ?_) | (with_reducible refine ite_yes ?_)))
  refine wpAny_For ?_ (fun _ => rfl)
  (repeat' (first | k_data | ((fail_if_success (with_reducible show wpAny _ _ (exec (Stmt.For _ _ _ _ _) _) _ _ _)); (fail_if_success (with_reducible show wpAny _ _ (eval (Expr.ListComp _ _ _ _) _) _ _ _)); (fail_if_success (with_reducible show wpAny _ _ (exec (Stmt.Assign _ (Expr.ListComp _ _ _ _) _) _) _ _ _)); (fail_if_success (with_reducible show wpAny _ _ (compareOp _ (.ref _) (.ref _)) _ _ _)); walk1; try dsimp only) | (with_reducible refine ite_no ?_) | (with_reducible refine ite_yes ?_)))
  rename Fr _ _ _ _ => F1
  rename News _ _ _ _ => N1
  rename IsRange _ _ _ _ _ _ _ _ => hr
  refine forRange (a := 0) (n := 3) (fun H' => Room w p loose mean mg mb (n + 40) ⟨none, dp, some out, gd, un⟩ base out H₀ H') (fun _ _ m₁ news₁ => m₁ "rows" = some (.ref rw) ∧ m₁ "trees" = some (.ref tr) ∧ news₁ = LoNews rw r0 r1 r2 tr t0 t1 t2 ab tx L vs0 vs1 vs2 us0 us1 us2 va vt kr kr0 kr1 kr2 kt kt0 kt1 kt2 ka kx o1 o2 ps) hr (by decide) (by decide) rfl rfl rfl rfl R F1 N1 ⟨mr, mt, rfl⟩ ?_ ?_
  · rintro i It H' oI tv m₁ _ h₂ tk₂ Qt hi R2 F2 N2 cI hn ⟨e1, e2, rfl⟩ hT hRet _
    clear F1 N1 X T
    have X := R2.X
    have T := R2.T
    unfold LoNews at N2
    obtain rfl | rfl | rfl : i = 0 ∨ i = 1 ∨ i = 2 := by omega
    · replace F2 : Fr H' L h₂ _ := Fr.norm F2 [("j", .int 0 tv), ("rows", .ref rw), ("trees", .ref tr)] (by refine all_cons ?_ (all_cons ?_ (all_cons ?_ all_nil)); exact if_pos rfl; exact mset_ne (y := "rows") (by decide) e1; exact mset_ne (y := "trees") (by decide) e2)
      (repeat' (first | k_data | ((fail_if_success (with_reducible show wpAny _ _ (exec (Stmt.For _ _ _ _ _) _) _ _ _)); (fail_if_success (with_reducible show wpAny _ _ (eval (Expr.ListComp _ _ _ _) _) _ _ _)); (fail_if_success (with_reducible show wpAny _ _ (exec (Stmt.Assign _ (Expr.ListComp _ _ _ _) _) _) _ _ _)); (fail_if_success (with_reducible show wpAny _ _ (compareOp _ (.ref _) (.ref _)) _ _ _)); walk1; try dsimp only) | (with_reducible refine ite_no ?_) | (with_reducible refine ite_yes ?_)))
      refine TellsK.at (step_tells (n := n + 10) (p2.map (TX ts)) (p0.map (TX ts)) ts p2 p0 up r2 r0 t2 t0 ab tx (by rw [List.length_map]; exact S0.lb) (by rw [List.length_map]; exact S0.lw) S0.nb S0.na S0.ob S0.oa S0.lb S0.lw (goneP p2 p0) (madeP p2 p0) S0.gone S0.made htl hal hnd hts S0.dr S0.gr S0.mr S0.G S0.M S0.fin S0.count) R2 F2 N2 ⟨⟨vs2, News.lst N2 (.tail _ (.tail _ (.tail _ (.tail _ (.tail _ (.head _)))))), i2⟩, ⟨vs0, News.lst N2 (.tail _ (.tail _ (.tail _ (.head _)))), i0⟩, ⟨us2, News.lst N2 (.tail _ (.tail _ (.tail _ (.tail _ (.tail _ (.tail _ (.tail _ (.tail _ (.head _))))))))), j2⟩, ⟨us0, News.lst N2 (.tail _ (.tail _ (.tail _ (.tail _ (.tail _ (.tail _ (.head _))))))), j0⟩, ⟨va, News.lst N2 (.tail _ (.tail _ (.tail _ (.tail _ (.tail _ (.tail _ (.tail _ (.tail _ (.tail _ (.head _)))))))))), ia⟩, ⟨vt, ⟨kx, (N2 _ (.tail _ (.tail _ (.tail _ (.tail _ (.tail _ (.tail _ (.tail _ (.tail _ (.tail _ (.tail _ (.head _)))))))))))).1⟩, ix⟩⟩ fun v h3 tk3 H3 R3 T3 F3 N3 K3 hv => ?_
      obtain rfl := hv
      clear F2 N2 X T
      have X := R3.X
      have T := R3.T
      (repeat' (first | k_data | ((fail_if_success (with_reducible show wpAny _ _ (exec (Stmt.For _ _ _ _ _) _) _ _ _)); (fail_if_success (with_reducible show wpAny _ _ (eval (Expr.ListComp _ _ _ _) _) _ _ _)); (fail_if_success (with_reducible show wpAny _ _ (exec (Stmt.Assign _ (Expr.ListComp _ _ _ _) _) _) _ _ _)); (fail_if_success (with_reducible show wpAny _ _ (compareOp _ (.ref _) (.ref _)) _ _ _)); walk1; try dsimp only) | (with_reducible refine ite_no ?_) | (with_reducible refine ite_yes ?_)))
      exact hT _ _ _ _ _ R3 F3 N3 hn ⟨rfl, rfl, rfl⟩
    · replace F2 : Fr H' L h₂ _ := Fr.norm F2 [("j", .int 1 tv), ("rows", .ref rw), ("trees", .ref tr)] (by refine all_cons ?_ (all_cons ?_ (all_cons ?_ all_nil)); exact if_pos rfl; exact mset_ne (y := "rows") (by decide) e1; exact mset_ne (y := "trees") (by decide) e2)
      (repeat' (first | k_data | ((fail_if_success (with_reducible show wpAny _ _ (exec (Stmt.For _ _ _ _ _) _) _ _ _)); (fail_if_success (with_reducible show wpAny _ _ (eval (Expr.ListComp _ _ _ _) _) _ _ _)); (fail_if_success (with_reducible show wpAny _ _ (exec (Stmt.Assign _ (Expr.ListComp _ _ _ _) _) _) _ _ _)); (fail_if_success (with_reducible show wpAny _ _ (compareOp _ (.ref _) (.ref _)) _ _ _)); walk1; try dsimp only) | (with_reducible refine ite_no ?_) | (with_reducible refine ite_yes ?_)))
      refine TellsK.at (step_tells (n := n + 10) (p0.map (TX ts)) (p1.map (TX ts)) ts p0 p1 up r0 r1 t0 t1 ab tx (by rw [List.length_map]; exact S1.lb) (by rw [List.length_map]; exact S1.lw) S1.nb S1.na S1.ob S1.oa S1.lb S1.lw (goneP p0 p1) (madeP p0 p1) S1.gone S1.made htl hal hnd hts S1.dr S1.gr S1.mr S1.G S1.M S1.fin S1.count) R2 F2 N2 ⟨⟨vs0, News.lst N2 (.tail _ (.tail _ (.tail _ (.head _)))), i0⟩, ⟨vs1, News.lst N2 (.tail _ (.tail _ (.tail _ (.tail _ (.head _))))), i1⟩, ⟨us0, News.lst N2 (.tail _ (.tail _ (.tail _ (.tail _ (.tail _ (.tail _ (.head _))))))), j0⟩, ⟨us1, News.lst N2 (.tail _ (.tail _ (.tail _ (.tail _ (.tail _ (.tail _ (.tail _ (.head _)))))))), j1⟩, ⟨va, News.lst N2 (.tail _ (.tail _ (.tail _ (.tail _ (.tail _ (.tail _ (.tail _ (.tail _ (.tail _ (.head _)))))))))), ia⟩, ⟨vt, ⟨kx, (N2 _ (.tail _ (.tail _ (.tail _ (.tail _ (.tail _ (.tail _ (.tail _ (.tail _ (.tail _ (.tail _ (.head _)))))))))))).1⟩, ix⟩⟩ fun v h3 tk3 H3 R3 T3 F3 N3 K3 hv => ?_
      obtain rfl := hv
      clear F2 N2 X T
      have X := R3.X
      have T := R3.T
      (repeat' (first | k_data | ((fail_if_success (with_reducible show wpAny _ _ (exec (Stmt.For _ _ _ _ _) _) _ _ _)); (fail_if_success (with_reducible show wpAny _ _ (eval (Expr.ListComp _ _ _ _) _) _ _ _)); (fail_if_success (with_reducible show wpAny _ _ (exec (Stmt.Assign _ (Expr.ListComp _ _ _ _) _) _) _ _ _)); (fail_if_success (with_reducible show wpAny _ _ (compareOp _ (.ref _) (.ref _)) _ _ _)); walk1; try dsimp only) | (with_reducible refine ite_no ?_) | (with_reducible refine ite_yes ?_)))
      exact hT _ _ _ _ _ R3 F3 N3 hn ⟨rfl, rfl, rfl⟩
    · replace F2 : Fr H' L h₂ _ := Fr.norm F2 [("j", .int 2 tv), ("rows", .ref rw), ("trees", .ref tr)] (by refine all_cons ?_ (all_cons ?_ (all_cons ?_ all_nil)); exact if_pos rfl; exact mset_ne (y := "rows") (by decide) e1; exact mset_ne (y := "trees") (by decide) e2)
      (repeat' (first | k_data | ((fail_if_success (with_reducible show wpAny _ _ (exec (Stmt.For _ _ _ _ _) _) _ _ _)); (fail_if_success (with_reducible show wpAny _ _ (eval (Expr.ListComp _ _ _ _) _) _ _ _)); (fail_if_success (with_reducible show wpAny _ _ (exec (Stmt.Assign _ (Expr.ListComp _ _ _ _) _) _) _ _ _)); (fail_if_success (with_reducible show wpAny _ _ (compareOp _ (.ref _) (.ref _)) _ _ _)); walk1; try dsimp only) | (with_reducible refine ite_no ?_) | (with_reducible refine ite_yes ?_)))
      refine TellsK.at (step_tells (n := n + 10) (p1.map (TX ts)) (p2.map (TX ts)) ts p1 p2 up r1 r2 t1 t2 ab tx (by rw [List.length_map]; exact S2.lb) (by rw [List.length_map]; exact S2.lw) S2.nb S2.na S2.ob S2.oa S2.lb S2.lw (goneP p1 p2) (madeP p1 p2) S2.gone S2.made htl hal hnd hts S2.dr S2.gr S2.mr S2.G S2.M S2.fin S2.count) R2 F2 N2 ⟨⟨vs1, News.lst N2 (.tail _ (.tail _ (.tail _ (.tail _ (.head _))))), i1⟩, ⟨vs2, News.lst N2 (.tail _ (.tail _ (.tail _ (.tail _ (.tail _ (.head _)))))), i2⟩, ⟨us1, News.lst N2 (.tail _ (.tail _ (.tail _ (.tail _ (.tail _ (.tail _ (.tail _ (.head _)))))))), j1⟩, ⟨us2, News.lst N2 (.tail _ (.tail _ (.tail _ (.tail _ (.tail _ (.tail _ (.tail _ (.tail _ (.head _))))))))), j2⟩, ⟨va, News.lst N2 (.tail _ (.tail _ (.tail _ (.tail _ (.tail _ (.tail _ (.tail _ (.tail _ (.tail _ (.head _)))))))))), ia⟩, ⟨vt, ⟨kx, (N2 _ (.tail _ (.tail _ (.tail _ (.tail _ (.tail _ (.tail _ (.tail _ (.tail _ (.tail _ (.tail _ (.head _)))))))))))).1⟩, ix⟩⟩ fun v h3 tk3 H3 R3 T3 F3 N3 K3 hv => ?_
      obtain rfl := hv
      clear F2 N2 X T
      have X := R3.X
      have T := R3.T
      (repeat' (first | k_data | ((fail_if_success (with_reducible show wpAny _ _ (exec (Stmt.For _ _ _ _ _) _) _ _ _)); (fail_if_success (with_reducible show wpAny _ _ (eval (Expr.ListComp _ _ _ _) _) _ _ _)); (fail_if_success (with_reducible show wpAny _ _ (exec (Stmt.Assign _ (Expr.ListComp _ _ _ _) _) _) _ _ _)); (fail_if_success (with_reducible show wpAny _ _ (compareOp _ (.ref _) (.ref _)) _ _ _)); walk1; try dsimp only) | (with_reducible refine ite_no ?_) | (with_reducible refine ite_yes ?_)))
      exact hT _ _ _ _ _ R3 F3 N3 hn ⟨rfl, rfl, rfl⟩
  · intro h' tk' H' m' news' R' F' N' J'
    have X := R'.X
    have T := R'.T
    (repeat' (first | k_data | ((fail_if_success (with_reducible show wpAny _ _ (exec (Stmt.For _ _ _ _ _) _) _ _ _)); (fail_if_success (with_reducible show wpAny _ _ (eval (Expr.ListComp _ _ _ _) _) _ _ _)); (fail_if_success (with_reducible show wpAny _ _ (exec (Stmt.Assign _ (Expr.ListComp _ _ _ _) _) _) _ _ _)); (fail_if_success (with_reducible show wpAny _ _ (compareOp _ (.ref _) (.ref _)) _ _ _)); walk1; try dsimp only) | (with_reducible refine ite_no ?_) | (with_reducible refine ite_yes ?_)))
    obtain ⟨_, _, rfl⟩ := J'
    exact hQ _ _ _ _ R' F' (N' (195, tabObj ps) (by unfold LoNews; repeat (first | exact List.Mem.head _ | refine List.Mem.tail _ ?_))).1
end
end Mine

end
section
open PySem PySem.W PyProof.Rows PySem.Spec PySem.Calls
namespace Mine
/-- lists of strings at the values of a list -/
noncomputable def WayInv (fs : List Addr) (H : Heap) (I : Addr) (f : Nat → List Str) (g : Array GenState) (D C : Addr) (i : Nat) (ys : List Value) (h : Heap) (g₁ : Array GenState) : Prop :=
  ys.length = i ∧ (AllBare g → AllBare g₁) ∧ ∀ j v, ys[j]? = some v → ∃ a, v = .ref a ∧ a ≠ D ∧ a ≠ C ∧ a ≠ I ∧ a ∉ fs ∧ H.get? a = none ∧ AtStrs h a (f j)
/-- the row of a list of names, each name's folders given -/
noncomputable def rowOf (k : Nat) (anc : Nat → List Str) : List Str := (dd ((List.range k).flatMap fun j => ((anc (k - 1 - j)).drop 1).reverse)).reverse
noncomputable def nameAt (es : List Int) (ts : List Str) (i : Nat) : Str := ts.getD (es.getD i 0).toNat Str.empty ++ (["/x", "//x/", "/x//"] : List Str).getD (Int.fmod i 3).toNat Str.empty
section
variable {w : World} {p : Program} {loose : List Str} {mean : ExcName → Option Value} {mg mb : Str → Option Value} {n : Nat}
set_option maxHeartbeats 4000000 in
theorem row_tells (es : List Int) (ts : List Str) (e t : Addr) (hes : es.length ≤ 8) (htl : ts.length ≤ 1000) (hts : ∀ x ∈ ts, x.length ≤ 100) (hin : ∀ q ∈ es, 0 ≤ q ∧ q < ts.length) (anc : Nat → List Str) (hanc : ∀ i, i < es.length → AncIs (Txt.rstripChars (nameAt es ts i) "/") (anc i) ∧ 1 ≤ (anc i).length ∧ (anc i).length ≤ 1000) :
    TellsX w p loose mean mg mb (n + 30) 193 [.ref e, .ref t] (fun h => AtIntsL h e es ∧ AtStrsL h t ts) (fun h h' v => ∃ r vs, v = .ref r ∧ h.get? r = none ∧ h'.get? r = some (W.listOf vs.toArray 0) ∧ StrsAre vs (rowOf es.length anc)) := by
  rintro A out base ⟨H, g, d, tk, o⟩ R hout S ⟨he, ht⟩ hR
  have X := S.X
  have T := S.T
  refine' enterCX [("entries", .ref e), ("texts", .ref t)] hout S (fun _ _ e => e) (Nat.le_refl _) ?k6 ?k7 ?kb ?kl ?kn ?c1 ?c2 ?c3 ?_
  case k6 => k_is
  case k7 => k_is
  case kb => exact rfl
  case kl => exact rfl
  case kn => decide
  case c1 => exact rfl
  case c2 => exact rfl
  case c3 => exact rfl
  intro L dp un gd h₁ tk₁ cells Q Rm _ _ F N Y hQ _
  clear S
  obtain ⟨o1, o2, rfl, hc1, hc2⟩ := CellsAre.two Y
  clear Y
  replace hc1 : o1.data = .cell (some (.ref t)) := hc1
  replace hc2 : o2.data = .cell (some (.ref e)) := hc2
  (repeat' (first | k_data |  ((fail_if_success (with_reducible show wpAny _ _ (eval (Expr.ListComp _ _ _ _) _) _ _ _)); (fail_if_success (with_reducible show wpAny _ _ (exec (Stmt.Assign _ (Expr.ListComp _ _ _ _) _) _) _ _ _)); (fail_if_success (with_reducible show wpAny _ _ (subscriptTail _ (PySem.Expr.Slice none none (some _) _) _ _) _ _ _)); walk1; try dsimp only) | (with_reducible refine ite_no ?_) | (with_reducible refine ite_yes ?_)))
  refine comp_assignR (by with_unfolding_all rfl) (by exact rfl) rfl rfl ?_
  (repeat' (first | k_data |  ((fail_if_success (with_reducible show wpAny _ _ (eval (Expr.ListComp _ _ _ _) _) _ _ _)); (fail_if_success (with_reducible show wpAny _ _ (exec (Stmt.Assign _ (Expr.ListComp _ _ _ _) _) _) _ _ _)); (fail_if_success (with_reducible show wpAny _ _ (subscriptTail _ (PySem.Expr.Slice none none (some _) _) _ _) _ _ _)); walk1; try dsimp only) | (with_reducible refine ite_no ?_) | (with_reducible refine ite_yes ?_)))
  obtain ⟨ve, hve, hie⟩ := id he
  refine call_len_list (F.lst hve) (by rw [List.size_toArray, hie.length]; exact (Mine.cast63 hes (by decide))) ?_
  (repeat' (first | k_data |  ((fail_if_success (with_reducible show wpAny _ _ (eval (Expr.ListComp _ _ _ _) _) _ _ _)); (fail_if_success (with_reducible show wpAny _ _ (exec (Stmt.Assign _ (Expr.ListComp _ _ _ _) _) _) _ _ _)); (fail_if_success (with_reducible show wpAny _ _ (subscriptTail _ (PySem.Expr.Slice none none (some _) _) _ _) _ _ _)); walk1; try dsimp only) | (with_reducible refine ite_no ?_) | (with_reducible refine ite_yes ?_)))
  rename Fr _ _ _ _ => F1
  rename News _ _ _ _ => N1
  rename IsRange _ _ _ _ _ _ _ _ => hr
  obtain ⟨r1, r2⟩ := range_small ⟨es.length, by exact (Nat.lt_succ_of_le hes)⟩
  refine it_range (n := es.length) F1 N1 hr r1 r2 fun it h2 F2 N2 st2 fr2 hit hszi off => ?_
  refine comp_loopX (fs := []) (Walks.range rfl it 0 1 es.length) (fun _ h => nomatch h) (fun _ _ h => nomatch h) hit hszi (by exact (Nat.le_trans hes (by decide))) rfl rfl rfl (fun D C i ys h g₁ => g₁ = g ∧ StrsAre ys ((List.range i).map (nameAt es ts))) (fun _ _ => ⟨rfl, .nil⟩) (fun _ _ _ _ _ _ _ x _ => x) ?_ ?_
  · rintro D C i v ys h3 g3 tk3 mc Qe Qs hD hC hDC hi ⟨tv, rfl⟩ ⟨rfl, hI⟩ hmx hnc hCs hold _ hpl hQe hQs
    obtain ⟨F3, N3, _⟩ := comp_frames F2 N2 off hC hCs hnc hold
    replace N3 : News H C h3 ((L + 1 + 1, o1) :: (L + 1, o2) :: ledgerOf H C h3) := fun q hq => (List.mem_append.mp (show q ∈ [_, _] ++ _ from hq)).elim (N3 q) (news_ledgerOf q)
    have F3' := F3
    refine ifs_nil ?_
    refine ite_yes ?_
    rw [show (0 + (i : Int) * 1) = i from by omega] at hmx
    replace F3 := Fr.norm F3 [("i", .int i tv)] (by intro q hq; obtain rfl := List.mem_singleton.mp hq; exact hmx)
    clear F1 F2
    have X3 := X.keeps F3.keep
    obtain ⟨ve, hve, hie⟩ := id he
    obtain ⟨vt, hvt, hit⟩ := id ht
    have hve3 : h3.IsList e ve.toArray := F3.lst hve
    have hvt3 : h3.IsList t vt.toArray := F3.lst hvt
    obtain ⟨te, hge⟩ := ints_at hie hi
    (repeat' (first | k_data |  ((fail_if_success (with_reducible show wpAny _ _ (eval (Expr.ListComp _ _ _ _) _) _ _ _)); (fail_if_success (with_reducible show wpAny _ _ (exec (Stmt.Assign _ (Expr.ListComp _ _ _ _) _) _) _ _ _)); (fail_if_success (with_reducible show wpAny _ _ (subscriptTail _ (PySem.Expr.Slice none none (some _) _) _ _) _ _ _)); walk1; try dsimp only) | (with_reducible refine ite_no ?_) | (with_reducible refine ite_yes ?_)))
    rw [Int.toNat_natCast]
    obtain ⟨q0, q1⟩ := hin (es.getD i 0) (by rw [List.getD_eq_getElem?_getD, List.getElem?_eq_getElem hi]; exact List.getElem_mem hi)
    have q2 : ts.length ≤ 1000 := htl
    obtain ⟨tq, hgt⟩ := strs_at hit (i := (es.getD i 0).toNat) (by exact (Mine.toNat_lt_len q0 q1))
    refine item_listL hvt3 q0 (by exact (Mine.int63 q1 (Nat.le_trans q2 (by decide)))) hgt ?_
    (repeat' (first | k_data |  ((fail_if_success (with_reducible show wpAny _ _ (eval (Expr.ListComp _ _ _ _) _) _ _ _)); (fail_if_success (with_reducible show wpAny _ _ (exec (Stmt.Assign _ (Expr.ListComp _ _ _ _) _) _) _ _ _)); (fail_if_success (with_reducible show wpAny _ _ (subscriptTail _ (PySem.Expr.Slice none none (some _) _) _ _) _ _ _)); walk1; try dsimp only) | (with_reducible refine ite_no ?_) | (with_reducible refine ite_yes ?_)))
    rename News _ _ _ _ => N4
    rename Fr _ _ _ _ => F4
    have m0 : 0 ≤ Int.fmod (i : Int) 3 := Int.fmod_nonneg_of_pos _ (by decide)
    have m3 : Int.fmod (i : Int) 3 < 3 := Int.fmod_lt_of_pos _ (by decide)
    obtain ⟨tm, hgm⟩ := strs_get (xs := ["/x", "//x/", "/x//"]) (.cons _ _ (.cons _ _ (.cons _ _ .nil))) m0 m3
    refine item_listL ⟨_, (N4 _ (.head _)).1, rfl, _, rfl⟩ m0 (by exact (Mine.int63 m3 (by decide))) hgm ?_
    have hl := getD_len hts (es.getD i 0).toNat
    have hl2 := getD_len (ts := ["/x", "//x/", "/x//"]) (M := 4) (by decide) (Int.fmod (i : Int) 3).toNat
    refine PyProof.Rows.add_str (fun t9 tk9 => ?_) (by rw [sizeLine_eq]; omega)
    refine hQe _ _ _ _ (keepC_of F3' F4 N4 fun q hq => .tail _ (.tail _ (.tail _ hq))) ⟨rfl, ?_⟩
    rw [List.range_succ, List.map_append]
    exact strs_append hI (.cons _ _ .nil)
  · rintro D C h3 g3 tk3 ys mc hD hC hDC hCs hnc hold hpl hlen ⟨rfl, hI⟩
    have F2n := F2.ns
    have hLC : L ≠ C := fun q => by obtain ⟨oL, _, _, hL, _⟩ := F2n; (first | exact (ne_get hL (hC) (q)).elim | exact (ne_get (hC) hL (q)).elim | (rw [q, hC] at hL; cases hL))
    have hLD : L ≠ D := fun q => by obtain ⟨oL, _, _, hL, _⟩ := F2n; (first | exact (ne_get hL (hD) (q)).elim | exact (ne_get (hD) hL (q)).elim | (rw [q, hD] at hL; cases hL))
    obtain ⟨m0, hm0⟩ : ∃ m0, h3.Ns L m0 := ⟨_, F2n.at' fun ob e => hold.nil _ _ off.2.1 e⟩
    refine post_assign (m := m0) hnc ?b1 ?b2 ?b3 ?b4 fun h4 tk4 hn4 hk4 => ?_
    case b1 => exact hm0
    case b2 => exact hLC
    case b3 => rfl
    case b4 => rfl
    have F4 : Fr H L h4 _ := ⟨hn4, fun b ob e => hk4 b ob (fun q => by have := F2.keep _ _ e; (first | exact (ne_get this (hC) (q)).elim | exact (ne_get (hC) this (q)).elim | (rw [q, hC] at this; cases this))) (fun q => absurd (Nat.lt_of_lt_of_le (Heap.lt_size e) F2.above) (q ▸ Nat.lt_irrefl _)) (hold.nil b ob (fun q => by (first | exact (ne_get e (off.1) (q)).elim | exact (ne_get (off.1) e (q)).elim | (rw [q, off.1] at e; cases e))) (F2.keep b ob e)), F2.above⟩
    obtain ⟨kD, hD3⟩ := hpl
    have N4 : News H L h4 [(D, W.listOf ys.toArray kD), (L + 1 + 1, o1), (L + 1, o2)] := fun q hq => by
      rcases List.mem_cons.mp hq with rfl | hq
      · refine ⟨hk4 _ _ hDC (Ne.symm hLD) hD3, Ne.symm hLD, ?_⟩
        exact get_gone (F2.keep _) hD
      · exact ⟨hk4 _ _ (fun z => by have := (N2 q hq).1; (first | exact (ne_get this (hC) (z)).elim | exact (ne_get (hC) this (z)).elim | (rw [z, hC] at this; cases this))) (N2 q hq).2.1 (hold.nil _ _ (off.2.2 q hq) (N2 q hq).1), (N2 q hq).2⟩
    clear F1 F2 N1 N2 hold off hnc hk4 hn4 F2n hr
    (repeat' (first | k_data |  ((fail_if_success (with_reducible show wpAny _ _ (eval (Expr.ListComp _ _ _ _) _) _ _ _)); (fail_if_success (with_reducible show wpAny _ _ (exec (Stmt.Assign _ (Expr.ListComp _ _ _ _) _) _) _ _ _)); (fail_if_success (with_reducible show wpAny _ _ (subscriptTail _ (PySem.Expr.Slice none none (some _) _) _ _) _ _ _)); walk1; try dsimp only) | (with_reducible refine ite_no ?_) | (with_reducible refine ite_yes ?_)))
    refine comp_assignR (by with_unfolding_all rfl) (by exact rfl) rfl rfl ?_
    (repeat' (first | k_data |  ((fail_if_success (with_reducible show wpAny _ _ (eval (Expr.ListComp _ _ _ _) _) _ _ _)); (fail_if_success (with_reducible show wpAny _ _ (exec (Stmt.Assign _ (Expr.ListComp _ _ _ _) _) _) _ _ _)); (fail_if_success (with_reducible show wpAny _ _ (subscriptTail _ (PySem.Expr.Slice none none (some _) _) _ _) _ _ _)); walk1; try dsimp only) | (with_reducible refine ite_no ?_) | (with_reducible refine ite_yes ?_)))
    refine' krv_lit (s := ⟨h4, g3, d, _, o⟩) (zs := ys.reverse) F4 N4 (News.lst N4 (.head _)) (IsPart.int _ _) rfl (fun Rv h5 F5 N5 l5 => ?_) ?s ?t ?z
    case s => with_unfolding_all rfl
    case t => kmk_pure
    case z => rw [sizeLine_eq, List.size_toArray]; omega
    refine it_list F5 N5 (News.lst N5 (.head _)) fun I2 h6 F6 N6 st6 fr6 hne6 hit6 hsz6 off6 => ?_
    have hfsx : ∀ b ∈ L :: out.filterMap (·.frame), ∃ ob, h6.get? b = some ob := fun b hb => by
      rcases List.mem_cons.mp hb with rfl | hb
      · obtain ⟨oL, _, _, hL, _⟩ := F6.ns; exact ⟨oL, hL⟩
      · obtain ⟨ob, _, _, e1, _⟩ := Rm.D b hb; exact ⟨ob, F6.keep _ _ e1⟩
    have hRvn : H.get? Rv = none ∧ Rv ≠ L := ⟨(N6 _ (.head _)).2.2, (N6 _ (.head _)).2.1⟩
    have hlen' : ys.length = es.length := by rw [strs_len hI, List.length_map, List.length_range]
    refine comp_loopX (fs := L :: out.filterMap (·.frame)) (Walks.list rfl I2 Rv hne6 ys.reverse.toArray) hfsx ?a0 hit6 hsz6 ?a1 ?a2 ?a3 ?a4 (WayInv (L :: out.filterMap (·.frame)) H I2 (fun j => ((anc (es.length - 1 - j)).drop 1).reverse) g3) ?a5 ?a6 ?_ ?_
    case a0 =>
      intro b hb hm
      simp only [List.mem_cons, List.not_mem_nil, or_false] at hb
      have nfs : ∀ b ob, H.get? b = none → b ≠ L → h6.get? b = some ob → b ∉ L :: out.filterMap (·.frame) := fun b ob e1 e2 _ hm => by
        rcases List.mem_cons.mp hm with q | hm
        · exact e2 q
        · obtain ⟨o2, _, _, e3, _⟩ := Rm.D b hm; (first | exact (ne_get e3 (e1) rfl).elim | exact (ne_get (e1) e3 rfl).elim | (rw [e1] at e3; cases e3))
      rcases hb with rfl | rfl
      · obtain ⟨ob, e1, _⟩ := hit6.1
        exact nfs _ ob off6.1 (Ne.symm off6.2.1) e1 hm
      · exact nfs _ _ hRvn.1 hRvn.2 (N6 _ (.head _)).1 hm
    case a1 => rw [List.size_toArray, List.length_reverse]; omega
    case a2 => rfl
    case a3 => rfl
    case a4 => rfl
    case a5 => exact fun _ _ => ⟨rfl, id, fun j v e => by simp at e⟩
    case a6 => exact fun D2 C2 i zs ha hb ga ⟨x1, x2, x3⟩ hk => ⟨x1, x2, fun j v e => by
      obtain ⟨a, e1, e2, e3, e4, e5, eH, vs, ⟨kk, e6⟩, e7⟩ := x3 j v e
      exact ⟨a, e1, e2, e3, e4, e5, eH, vs, ⟨kk, hk _ _ e2 e3 e4 e6⟩, e7⟩⟩
    · rintro D2 C2 i v zs h7 g7 tk7 mc2 Qe Qs hD7 hC7 hDC7 hi hv hInv hmx hnc7 hCs7 hold7 hst7 hpl7 hQe hQs
      obtain ⟨H7, R7, T7, F7, N7, Fc, Nc⟩ := comp_room Rm F6 N6 off6 hC7 hCs7 hnc7 hold7
      have hi' : i < ys.length := by rw [List.size_toArray, List.length_reverse] at hi; exact hi
      obtain ⟨tx, hx⟩ := strs_at hI (i := ys.length - 1 - i) (by rw [← strs_len hI]; omega)
      have hv' : v = .str (((List.range es.length).map (nameAt es ts)).getD (ys.length - 1 - i) Str.empty) tx := by
        have e1 : ys.reverse[i]? = some v := by simpa using hv
        rw [List.getElem?_reverse hi', hx] at e1
        exact (Option.some.inj e1).symm
      subst hv'
      generalize hxx : ((List.range es.length).map (nameAt es ts)).getD (ys.length - 1 - i) Str.empty = x at hmx
      have hxk : x = nameAt es ts (es.length - 1 - i) := by
        rw [← hxx, hlen', List.getD_eq_getElem?_getD, List.getElem?_map, List.getElem?_range (by omega)]
        rfl
      obtain ⟨ha1, ha2, ha3⟩ := hanc (es.length - 1 - i) (by omega)
      rw [← hxk] at ha1
      have hxl : x.length ≤ 1000 := by
        rw [hxk, nameAt, Str.length_append]
        have := getD_len hts (es.getD (es.length - 1 - i) 0).toNat
        have := getD_len (ts := ["/x", "//x/", "/x//"]) (M := 4) (by decide) (Int.fmod ((es.length - 1 - i : Nat) : Int) 3).toNat
        omega
      refine ifs_nil ?_
      refine ite_yes ?_
      replace Fc := Fr.norm Fc [("name", .str x tx)] (by intro q hq; obtain rfl := List.mem_singleton.mp hq; exact hmx)
      have XH := X
      clear X T
      have X := R7.X
      have T := R7.T
      have X7 := X.keeps Fc.keep
      clear F4 N4 F5 N5
      (repeat' (first | k_data |  ((fail_if_success (with_reducible show wpAny _ _ (eval (Expr.ListComp _ _ _ _) _) _ _ _)); (fail_if_success (with_reducible show wpAny _ _ (exec (Stmt.Assign _ (Expr.ListComp _ _ _ _) _) _) _ _ _)); (fail_if_success (with_reducible show wpAny _ _ (subscriptTail _ (PySem.Expr.Slice none none (some _) _) _ _) _ _ _)); walk1; try dsimp only) | (with_reducible refine ite_no ?_) | (with_reducible refine ite_yes ?_)))
      rename Fr _ C2 _ _ => Fc
      refine wpAny_call (parents_call (n := n + 24) (D := 960) (U := 9600) (all := anc (es.length - 1 - i)) (R7.inside rfl rfl _ _ F7) (by decide) (by decide) hxl ha1 fun r dx ga Lg og oLg h8 tk8 g8 st8 q1 q2 q3 q4 q5 q6 q7 hb8 hIsl => ?_)
      have Fc8 := Fr.stay Fc st8
      have Nc8 := News.stay Nc st8
      have F8 := Fr.stay F7 st8
      dsimp only
      (repeat' (first | k_data |  ((fail_if_success (with_reducible show wpAny _ _ (eval (Expr.ListComp _ _ _ _) _) _ _ _)); (fail_if_success (with_reducible show wpAny _ _ (exec (Stmt.Assign _ (Expr.ListComp _ _ _ _) _) _) _ _ _)); (fail_if_success (with_reducible show wpAny _ _ (subscriptTail _ (PySem.Expr.Slice none none (some _) _) _ _) _ _ _)); walk1; try dsimp only) | (with_reducible refine ite_no ?_) | (with_reducible refine ite_yes ?_)))
      have fresh7 : ∀ a ∈ [Lg, r, dx], h7.get? a = none := by
        intro a ha
        revert a ha; refine all_cons ?_ (all_cons ?_ (all_cons ?_ all_nil))
        · exact q3
        · exact q1
        · exact q2
      have old7 : ∀ b ob, h7.get? b = some ob → ∀ a ∈ [Lg, r, dx], b ≠ a := fun b ob e a ha q => by (first | exact (ne_get e (fresh7 a ha) (q)).elim | exact (ne_get (fresh7 a ha) e (q)).elim | (rw [q, fresh7 a ha] at e; cases e))
      obtain ⟨oC, _, _, hC2, _⟩ := id hnc7
      obtain ⟨oL7, _, _, hL7, _⟩ := id F7.ns
      refine list_islice (n := n + 26) (out := _ :: out) (all := anc (es.length - 1 - i)) (D := 960) (U := 9600) (Around.frames_deeper R7.B.stack) (R7.inside rfl rfl _ _ F8) Fc8 R7.B.stays R7.sz ?e1 ?e2 hIsl q4 q5 q6 q7 ha2 ha3 ?e3 (by decide) ?e4 fun S9 zs9 h9 g9 tk9 k1 k2 k3 k4 k5 k6 => ?_
      case e1 =>
        intro a ha
        refine ⟨?_, fun q => old7 _ _ hC2 a ha q.symm⟩
        cases e : H7.get? a with
        | none => rfl
        | some ob => exact absurd rfl (old7 a ob (F7.keep _ _ e) a ha)
      case e2 =>
        intro env' he' a ha hq
        rcases List.mem_cons.mp he' with rfl | he'
        · exact old7 _ _ hL7 a ha (Option.some.inj hq)
        · obtain ⟨ob, _, _, e1, _⟩ := R7.D a (List.mem_filterMap.mpr ⟨env', he', hq⟩)
          exact absurd rfl (old7 a ob (F7.keep _ _ e1) a ha)
      case e3 => rw [show recursionLimit = 1000 from rfl]; omega
      case e4 => rw [show cLine = 9900 from rfl]; omega
      have nC2 : C2 ∉ L :: out.filterMap (·.frame) := fun hm => by obtain ⟨ob, e⟩ := hfsx _ hm; (first | exact (ne_get e (hC7) rfl).elim | exact (ne_get (hC7) e rfl).elim | (rw [hC7] at e; cases e))
      have nD2 : D2 ∉ L :: out.filterMap (·.frame) := fun hm => by obtain ⟨ob, e⟩ := hfsx _ hm; (first | exact (ne_get e (hD7) rfl).elim | exact (ne_get (hD7) e rfl).elim | (rw [hD7] at e; cases e))
      have st79 : KeepX (L :: out.filterMap (·.frame)) h7 h9 := ⟨fun b ob e hb => k1 b ob (old7 b ob e _ (.tail _ (.head _))) (old7 b ob e _ (.head _)) (old7 b ob e _ (.tail _ (.tail _ (.head _)))) hb (st8 _ _ e), fun b ob e hb => k2 b ob hb (st8 _ _ e)⟩
      have hold9 : HeldX (L :: out.filterMap (·.frame)) I2 h6 h9 := ⟨fun b ob hbI hb e => st79.1 _ _ (hold7.1 b ob hbI hb e) hb, fun b ob hb e => by
        obtain ⟨sl, e1⟩ := hold7.2 b ob hb e
        obtain ⟨sl', e2⟩ := st79.2 _ _ e1 hb
        exact ⟨sl', e2⟩⟩
      have hnc9 : h9.Ns C2 mc2 := hnc7.at' fun ob e => st79.1 _ _ e nC2
      obtain ⟨H9, R9, T9, F9, N9, Fc9, Nc9⟩ := comp_room Rm F6 N6 off6 hC7 hCs7 hnc9 hold9
      have NL : News H9 C2 h9 ([(Rv, W.listOf ys.reverse.toArray 0), (D, W.listOf ys.toArray kD), (L + 1 + 1, o1), (L + 1, o2)] ++ ledgerOf H9 C2 h9) := fun q hq => (List.mem_append.mp hq).elim (Nc9 q) (news_ledgerOf q)
      have Fc9' := Fc9
      clear X T X7
      have X := R9.X
      have T := R9.T
      have hLn9 : H9.get? L = none := kts_self F9
      obtain ⟨oL9, _, _, hL9, _⟩ := id F9.ns
      clear F7 N7 Fc Nc F8 Fc8 Nc8 F9 N9 Nc9
      (repeat' (first | k_data |  ((fail_if_success (with_reducible show wpAny _ _ (eval (Expr.ListComp _ _ _ _) _) _ _ _)); (fail_if_success (with_reducible show wpAny _ _ (exec (Stmt.Assign _ (Expr.ListComp _ _ _ _) _) _) _ _ _)); (fail_if_success (with_reducible show wpAny _ _ (subscriptTail _ (PySem.Expr.Slice none none (some _) _) _ _) _ _ _)); walk1; try dsimp only) | (with_reducible refine ite_no ?_) | (with_reducible refine ite_yes ?_)))
      obtain ⟨kS, hS9⟩ := id k4
      have hz9 : zs9.length ≤ 1000 := by rw [strs_len k5, List.length_drop]; omega
      refine kba_turn (value' := PySem.Expr.Name (PySem.Str.ofString "_") ⟨0, 0, 0, 0⟩) (fun _ => rfl) ?_
      refine' krv_lit (s := ⟨h9, g9, d, _, o⟩) (zs := zs9.reverse) Fc9' NL k4.isList (IsPart.int _ _) rfl (fun Dn h10 F10 N10 l10 => ?_) ?s ?t ?z
      case s => with_unfolding_all rfl
      case t => kmk_pure
      case z => rw [sizeLine_eq, List.size_toArray]; omega
      have kc : KeepC [] C2 h9 h10 := keepC_of Fc9' F10 N10 fun q hq => .tail _ (List.mem_append_right _ hq)
      have k7 : KeepC (L :: out.filterMap (·.frame)) C2 h7 h10 := ⟨fun b ob hb hf e => kc.1 b ob hb (fun m => nomatch m) (st79.1 _ _ e hf), fun b ob hb hf e => by
        obtain ⟨sl, e1⟩ := st79.2 _ _ e hf
        exact ⟨sl, kc.1 b _ hb (fun m => nomatch m) e1⟩, kc.2.2⟩
      obtain ⟨x1, x2, x3⟩ := hInv
      have ltD : ∀ b ob, H9.get? b = none → b ≠ C2 → h9.get? b = some ob → b < Dn := fun b ob e1 e2 e3 => l10 _ (List.mem_append_right _ (mem_ledgerOf.mpr ⟨e3, e2, e1⟩))
      refine hQe _ _ _ _ k7 ⟨by rw [List.length_append, x1]; rfl, fun hb => k6 (hb8 (x2 hb)), fun j v e => ?_⟩
      rcases Nat.lt_or_ge j i with hj | hj
      · rw [List.getElem?_append_left (by omega)] at e
        obtain ⟨a, e1, e2, e3, e4, e5, eH, vs, ⟨kk, e6⟩, e7⟩ := x3 j v e
        exact ⟨a, e1, e2, e3, e4, e5, eH, vs, ⟨kk, k7.1 _ _ e3 e5 e6⟩, e7⟩
      · have hjl := (List.getElem?_eq_some_iff.mp e).1
        rw [List.length_append, x1, List.length_cons, List.length_nil] at hjl
        obtain rfl : j = i := by exact (Nat.le_antisymm (Nat.le_of_lt_succ hjl) hj)
        rw [List.getElem?_append_right (by exact (Nat.le_of_eq x1)), show j - zs.length = 0 by omega] at e
        obtain rfl : v = .ref Dn := (Option.some.inj e).symm
        have hHn : ∀ b, h6.get? b = none → H9.get? b = none := fun b e => T9.none_ _ (by
          exact get_gone (F6.keep _) e)
        obtain ⟨kd, eD⟩ := hpl7
        obtain ⟨oI, eI, _⟩ := hst7.1
        have nI : I2 ∉ L :: out.filterMap (·.frame) := fun hm => by
          rcases List.mem_cons.mp hm with q | hm
          · exact off6.2.1 q.symm
          · obtain ⟨ob, _, _, e1, _⟩ := Rm.D _ hm; (first | exact (ne_get e1 (off6.1) rfl).elim | exact (ne_get (off6.1) e1 rfl).elim | (rw [off6.1] at e1; cases e1))
        have lD := ltD D2 _ (hHn _ hD7) hDC7 (st79.1 _ _ eD nD2)
        have lI := ltD I2 _ (T9.none_ _ off6.1) (fun q => by obtain ⟨ob, e6, _⟩ := hit6.1; (first | exact (ne_get e6 (hC7) (q)).elim | exact (ne_get (hC7) e6 (q)).elim | (rw [q, hC7] at e6; cases e6))) (st79.1 _ _ eI nI)
        have lL := ltD L _ hLn9 (fun q => by obtain ⟨ob, e6⟩ := hfsx L (.head _); (first | exact (ne_get e6 (hC7) (q)).elim | exact (ne_get (hC7) e6 (q)).elim | (rw [q, hC7] at e6; cases e6))) hL9
        refine ⟨Dn, rfl, Nat.ne_of_gt lD, (N10 _ (.head _)).2.1, Nat.ne_of_gt lI, fun hm => ?_, ?_, zs9.reverse, ⟨_, (N10 _ (.head _)).1⟩, ?_⟩
        · rcases List.mem_cons.mp hm with q | hm
          · exact absurd lL (q ▸ Nat.lt_irrefl _)
          · obtain ⟨ob, _, _, e1, _⟩ := R9.D _ hm
            (first | exact (ne_get e1 ((N10 _ (.head _)).2.2) rfl).elim | exact (ne_get ((N10 _ (.head _)).2.2) e1 rfl).elim | (rw [(N10 _ (.head _)).2.2] at e1; cases e1))
        · cases q : H.get? Dn with
          | none => rfl
          | some ob =>
            obtain ⟨sl, e⟩ := T9.up q
            (first | exact (ne_get e ((N10 _ (.head _)).2.2) rfl).elim | exact (ne_get ((N10 _ (.head _)).2.2) e rfl).elim | (rw [(N10 _ (.head _)).2.2] at e; cases e))
        · exact strs_reverse k5
    · rintro D2 C2 h7 g7 tk7 zs mc2 hD7 hC7 hDC7 hCs7 hnc7 hold7 hpl7 hlen7 ⟨x1, x2, x3⟩
      obtain ⟨H7, R7, T7, F7, N7, Fc, Nc⟩ := comp_room Rm F6 N6 off6 hC7 hCs7 hnc7 hold7
      obtain ⟨m7, hm7⟩ : ∃ m7, h7.Ns L m7 := ⟨_, F7.ns⟩
      have nL7 : L ≠ C2 := fun q => by obtain ⟨ob, e⟩ := hfsx L (.head _); (first | exact (ne_get e (hC7) (q)).elim | exact (ne_get (hC7) e (q)).elim | (rw [q, hC7] at e; cases e))
      refine post_assign (m := m7) hnc7 ?b1 ?b2 ?b3 ?b4 fun h8 tk8 hn8 hk8 => ?_
      case b1 => exact hm7
      case b2 => exact nL7
      case b3 => rfl
      case b4 => rfl
      have hC6 : H7.get? C2 = none := T7.none_ _ (by
        exact get_gone (F6.keep _) hC7)
      have F8 : Fr H7 L h8 _ := ⟨hn8, fun b ob e => hk8 b ob (fun q => by (first | exact (ne_get e (hC6) (q)).elim | exact (ne_get (hC6) e (q)).elim | (rw [q, hC6] at e; cases e))) (fun q => absurd (Nat.lt_of_lt_of_le (Heap.lt_size e) F7.above) (q ▸ Nat.lt_irrefl _)) (F7.keep b ob e), F7.above⟩
      obtain ⟨kD2, hD2⟩ := hpl7
      have nL2 : D2 ≠ L := fun q => by obtain ⟨ob, e⟩ := hfsx L (.head _); (first | exact (ne_get e (hD7) (q).symm).elim | exact (ne_get (hD7) e (q).symm).elim | (rw [← q, hD7] at e; cases e))
      have hD8 : h8.get? D2 = some (W.listOf zs.toArray kD2) := hk8 _ _ hDC7 nL2 hD2
      have N8 : News H7 L h8 ((L + 1 + 1, o1) :: (L + 1, o2) :: ledgerOf H7 L h8) := fun q hq => by
        rcases List.mem_cons.mp hq with rfl | hq
        · exact ⟨hk8 _ _ (fun z => by have := (N6 (L + 1 + 1, o1) (.tail _ (.tail _ (.head _)))).1; rw [show L + 1 + 1 = C2 from z, hC7] at this; cases this) (N6 _ (.tail _ (.tail _ (.head _)))).2.1 (N7 _ (.tail _ (.tail _ (.head _)))).1, (N7 _ (.tail _ (.tail _ (.head _)))).2⟩
        · rcases List.mem_cons.mp hq with rfl | hq
          · exact ⟨hk8 _ _ (fun z => by have := (N6 (L + 1, o2) (.tail _ (.tail _ (.tail _ (.head _))))).1; rw [show L + 1 = C2 from z, hC7] at this; cases this) (N6 _ (.tail _ (.tail _ (.tail _ (.head _))))).2.1 (N7 _ (.tail _ (.tail _ (.tail _ (.head _))))).1, (N7 _ (.tail _ (.tail _ (.tail _ (.head _))))).2⟩
          · exact news_ledgerOf q hq
      have lists8 : ∀ (j : Nat) v, zs[j]? = some v → ∃ a vs k, v = .ref a ∧ (a, W.listOf vs.toArray k) ∈ ledgerOf H7 L h8 ∧ StrsAre vs (((anc (es.length - 1 - j)).drop 1).reverse) := fun j v e => by
        obtain ⟨a, e1, e2, e3, e4, e5, eH, vs, ⟨kk, e6⟩, e7⟩ := x3 j v e
        have aL : a ≠ L := fun q => e5 (q ▸ .head _)
        exact ⟨a, vs, kk, e1, mem_ledgerOf.mpr ⟨hk8 _ _ e3 aL e6, aL, T7.none_ _ eH⟩, e7⟩
      have hD8m : (D2, W.listOf zs.toArray kD2) ∈ ledgerOf H7 L h8 := mem_ledgerOf.mpr ⟨hD8, nL2, T7.none_ _ (by
        exact get_gone (F6.keep _) hD7)⟩
      have zl : zs.length = es.length := by rw [x1, List.size_toArray, List.length_reverse]; exact hlen'
      clear F4 N4 F5 N5 F6 N6 F7 N7 Fc Nc hn8 hk8 hnc7 hold7 x3 hm7 off6
      clear X T
      have X := R7.X
      have T := R7.T
      (repeat' (first | k_data |  ((fail_if_success (with_reducible show wpAny _ _ (eval (Expr.ListComp _ _ _ _) _) _ _ _)); (fail_if_success (with_reducible show wpAny _ _ (exec (Stmt.Assign _ (Expr.ListComp _ _ _ _) _) _) _ _ _)); (fail_if_success (with_reducible show wpAny _ _ (subscriptTail _ (PySem.Expr.Slice none none (some _) _) _ _) _ _ _)); walk1; try dsimp only) | (with_reducible refine ite_no ?_) | (with_reducible refine ite_yes ?_)))
      refine callWith_bo (id := "dict.fromkeys") (T := "dict") ?_
      (repeat' (first | k_data |  ((fail_if_success (with_reducible show wpAny _ _ (eval (Expr.ListComp _ _ _ _) _) _ _ _)); (fail_if_success (with_reducible show wpAny _ _ (exec (Stmt.Assign _ (Expr.ListComp _ _ _ _) _) _) _ _ _)); (fail_if_success (with_reducible show wpAny _ _ (subscriptTail _ (PySem.Expr.Slice none none (some _) _) _ _) _ _ _)); walk1; try dsimp only) | (with_reducible refine ite_no ?_) | (with_reducible refine ite_yes ?_)))
      refine comp_openR (by exact rfl) rfl rfl ?_
      (repeat' (first | k_data |  ((fail_if_success (with_reducible show wpAny _ _ (eval (Expr.ListComp _ _ _ _) _) _ _ _)); (fail_if_success (with_reducible show wpAny _ _ (exec (Stmt.Assign _ (Expr.ListComp _ _ _ _) _) _) _ _ _)); (fail_if_success (with_reducible show wpAny _ _ (subscriptTail _ (PySem.Expr.Slice none none (some _) _) _ _) _ _ _)); walk1; try dsimp only) | (with_reducible refine ite_no ?_) | (with_reducible refine ite_yes ?_)))
      refine it_list F8 N8 (News.lst N8 (.tail _ (.tail _ hD8m))) fun I3 h9 F9 N9 st9 fr9 hne9 hit9 hsz9 off9 => ?_
      obtain ⟨rws, hrl, hrw⟩ := pick_all (n := 0) (P := fun j v r => ∃ a k, v = .ref a ∧ (a, W.listOf r.toArray k) ∈ ledgerOf H7 L h8 ∧ StrsAre r (((anc (es.length - 1 - j)).drop 1).reverse)) (zs := zs) fun j v e => by
        obtain ⟨a, vs, k, e1, e2, e3⟩ := lists8 j v e
        exact ⟨vs, a, k, e1, e2, by rw [Nat.zero_add]; exact e3⟩
      have hfl : StrsAre rws.flatten ((List.range es.length).flatMap fun j => ((anc (es.length - 1 - j)).drop 1).reverse) := by
        have hlr : rws.length = es.length := hrl.trans zl
        have := strs_flat (rws := rws) (f := fun j => ((anc (es.length - 1 - j)).drop 1).reverse) fun j r e => by
          obtain ⟨v, _, a, k, _, _, x⟩ := hrw j r e
          rw [Nat.zero_add] at x; exact x
        rw [hlr] at this
        exact this
      have hft : rws.flatten.length ≤ 8000 := by
        rw [strs_len hfl]
        have := flat_len (n := es.length) (M := 1000) (f := fun j => ((anc (es.length - 1 - j)).drop 1).reverse) fun j hj => by
          have := (hanc (es.length - 1 - j) (by omega)).2.2
          rw [List.length_reverse, List.length_drop]; omega
        omega
      refine comp_flat (rows := rws) rfl rfl rfl rfl rfl rfl rfl hit9.1 hit9.2 hne9 hrl.symm (fun j r e => ?_) (by omega) fun D3 C3 h10 tk10 mc3 hD3n hC3n hDC3 hCs3 hnc3 keep10 hpl10 => ?_
      · obtain ⟨v, e1, a, k, e2, e3, _⟩ := hrw j r e
        exact ⟨a, e2 ▸ e1, News.lst N9 (.tail _ (.tail _ e3)), fun q => off9.2.2 _ (.tail _ (.tail _ e3)) q⟩
      obtain ⟨kd3, eD3⟩ := hpl10
      have F9n := F9.ns
      obtain ⟨m9, hm9⟩ : ∃ m9, h9.Ns L m9 := ⟨_, F9n⟩
      obtain ⟨oL9, _, _, eL9, _⟩ := id hm9
      have hLC3 : L ≠ C3 := fun q => by (first | exact (ne_get eL9 (hC3n) (q)).elim | exact (ne_get (hC3n) eL9 (q)).elim | (rw [q, hC3n] at eL9; cases eL9))
      have hLD3 : D3 ≠ L := fun q => by (first | exact (ne_get eL9 (hD3n) (q).symm).elim | exact (ne_get (hD3n) eL9 (q).symm).elim | (rw [← q, hD3n] at eL9; cases eL9))
      refine post_none hnc3 fun h11 k11 => ?_
      have n7 : ∀ b, h9.get? b = none → H7.get? b = none := fun b e => by
        exact get_gone (F9.keep _) e
      have F11 : Fr H7 L h11 m9 := ⟨(hm9.at' fun ob e => keep10 _ _ off9.2.1 e).at' fun ob e => k11 _ _ hLC3 e, fun b ob e => k11 _ _ (fun q => by (first | exact (ne_get e (n7 _ hC3n) (q)).elim | exact (ne_get (n7 _ hC3n) e (q)).elim | (rw [q, n7 _ hC3n] at e; cases e))) (keep10 _ _ (fun q => by (first | exact (ne_get e (off9.1) (q)).elim | exact (ne_get (off9.1) e (q)).elim | (rw [q, off9.1] at e; cases e))) (F9.keep _ _ e)), F9.above⟩
      have N11 : News H7 L h11 [(D3, W.listOf rws.flatten.toArray kd3)] := fun q hq => by
        obtain rfl := List.mem_singleton.mp hq
        exact ⟨k11 _ _ hDC3 eD3, hLD3, n7 _ hD3n⟩
      clear F8 N8 F9 N9 F9n hm9 lists8 hrw k11 keep10 off9 hnc3
      (repeat' (first | k_data |  ((fail_if_success (with_reducible show wpAny _ _ (eval (Expr.ListComp _ _ _ _) _) _ _ _)); (fail_if_success (with_reducible show wpAny _ _ (exec (Stmt.Assign _ (Expr.ListComp _ _ _ _) _) _) _ _ _)); (fail_if_success (with_reducible show wpAny _ _ (subscriptTail _ (PySem.Expr.Slice none none (some _) _) _ _) _ _ _)); walk1; try dsimp only) | (with_reducible refine ite_no ?_) | (with_reducible refine ite_yes ?_)))
      case refine_1 => exact F11.keep _ _ (X _ _ (by k_is))
      have hu : h11.get? 162 = some (bObj "dict.fromkeys" "dict") := F11.keep _ _ (X _ _ (by k_is))
      refine fromkeys_own rfl hu (News.lst N11 (.head _)) hfl (by rw [← strs_len hfl]; omega) fun h12 tk12 st12 hd12 => ?_
      have fr12 : h11.get? h11.objs.size = none := by
        cases e : h11.get? h11.objs.size with
        | none => rfl
        | some o' => exact absurd (Heap.lt_size e) (Nat.lt_irrefl _)
      have lo := F11.notModules (modules_low T.nolimit)
      generalize h11.objs.size = Dd at hd12 fr12 lo ⊢
      obtain ⟨ob12, hob12, hd12'⟩ := Heap.dictOf_iff.mp hd12
      have F12 := Fr.stay F11 st12
      have N12 := News.join F11 N11 st12 fr12 hob12
      clear F11 N11
      (repeat' (first | k_data |  ((fail_if_success (with_reducible show wpAny _ _ (eval (Expr.ListComp _ _ _ _) _) _ _ _)); (fail_if_success (with_reducible show wpAny _ _ (exec (Stmt.Assign _ (Expr.ListComp _ _ _ _) _) _) _ _ _)); (fail_if_success (with_reducible show wpAny _ _ (subscriptTail _ (PySem.Expr.Slice none none (some _) _) _ _) _ _ _)); walk1; try dsimp only) | (with_reducible refine ite_no ?_) | (with_reducible refine ite_yes ?_)))
      refine kdl_list_keysS rfl F12 N12 (.head _) hd12' lo (by rw [ddk, List.length_map]; have := dd_len ((List.range es.length).flatMap fun j => ((anc (es.length - 1 - j)).drop 1).reverse); rw [← strs_len hfl] at this; omega) fun B c h13 tk13 => keysS_of fun us hus F13 N13 l13 => ?_
      rw [ddk_keys] at hus
      clear F12 N12
      (repeat' (first | k_data |  ((fail_if_success (with_reducible show wpAny _ _ (eval (Expr.ListComp _ _ _ _) _) _ _ _)); (fail_if_success (with_reducible show wpAny _ _ (exec (Stmt.Assign _ (Expr.ListComp _ _ _ _) _) _) _ _ _)); (fail_if_success (with_reducible show wpAny _ _ (subscriptTail _ (PySem.Expr.Slice none none (some _) _) _ _) _ _ _)); walk1; try dsimp only) | (with_reducible refine ite_no ?_) | (with_reducible refine ite_yes ?_)))
      refine kba_turn (value' := PySem.Expr.Name (PySem.Str.ofString "_") ⟨0, 0, 0, 0⟩) (fun _ => rfl) ?_
      refine' krv_lit (s := ⟨h13, g7, d, _, o⟩) (zs := us.reverse) F13 N13 (News.lst N13 (.head _)) (IsPart.int _ _) rfl (fun Rr h14 F14 N14 l14 => ?_) ?s ?t ?z
      case s => with_unfolding_all rfl
      case t => kmk_pure
      case z => rw [sizeLine_eq, List.size_toArray, strs_len hus]; have := dd_len ((List.range es.length).flatMap fun j => ((anc (es.length - 1 - j)).drop 1).reverse); rw [← strs_len hfl] at this; omega
      (repeat' (first | k_data |  ((fail_if_success (with_reducible show wpAny _ _ (eval (Expr.ListComp _ _ _ _) _) _ _ _)); (fail_if_success (with_reducible show wpAny _ _ (exec (Stmt.Assign _ (Expr.ListComp _ _ _ _) _) _) _ _ _)); (fail_if_success (with_reducible show wpAny _ _ (subscriptTail _ (PySem.Expr.Slice none none (some _) _) _ _) _ _ _)); walk1; try dsimp only) | (with_reducible refine ite_no ?_) | (with_reducible refine ite_yes ?_)))
      refine hQ _ _ (hR _ _ _ _ (R7.kept F14) x2 ⟨Rr, _, rfl, ?_, (N14 _ (.head _)).1, strs_reverse hus⟩)
      cases q : H.get? Rr with
      | none => rfl
      | some ob =>
        obtain ⟨sl, e⟩ := T7.up q
        (first | exact (ne_get e ((N14 _ (.head _)).2.2) rfl).elim | exact (ne_get ((N14 _ (.head _)).2.2) e rfl).elim | (rw [(N14 _ (.head _)).2.2] at e; cases e))
end
end Mine

end
section
open PySem PyProof.Rows PySem.Spec
namespace Mine
theorem suffix_is (i : Nat) : ∃ s t, 0 < s ∧ s ≤ 2 ∧ t ≤ 2 ∧ (["/x", "//x/", "/x//"] : List Str).getD (Int.fmod i 3).toNat Str.empty = SS (List.replicate s 47 ++ [120] ++ List.replicate t 47) := by
  have h0 : 0 ≤ Int.fmod (i : Int) 3 := Int.fmod_nonneg_of_pos _ (by decide)
  have h1 : Int.fmod (i : Int) 3 < 3 := Int.fmod_lt_of_pos _ (by decide)
  generalize Int.fmod (i : Int) 3 = r at *
  have : r = 0 ∨ r = 1 ∨ r = 2 := by omega
  rcases this with rfl | rfl | rfl
  · exact ⟨1, 0, by decide, by decide, by decide, by decide⟩
  · exact ⟨2, 1, by decide, by decide, by decide, by decide⟩
  · exact ⟨1, 2, by decide, by decide, by decide, by decide⟩
/-- the ancestry of a list's i-th name, itself first -/
noncomputable def ancOf (es up : List Int) (ts : List Str) (i : Nat) : List Str := Txt.rstripChars (nameAt es ts i) "/" :: (chain up (es.getD i 0)).reverse.map (TX ts)
theorem anc_name {es up : List Int} {ts : List Str} (P : PlOk up ts) (hul : up.length ≤ 100) (hin : ∀ q ∈ es, 0 ≤ q ∧ q < up.length) {i : Nat} (hi : i < es.length) :
    AncIs (Txt.rstripChars (nameAt es ts i) "/") (ancOf es up ts i) ∧ 1 ≤ (ancOf es up ts i).length ∧ (ancOf es up ts i).length ≤ 1000 := by
  obtain ⟨q0, q1⟩ := hin (es.getD i 0) (by rw [List.getD_eq_getElem?_getD, List.getElem?_eq_getElem hi]; exact List.getElem_mem hi)
  refine ⟨?_, by simp [ancOf], ?_⟩
  · obtain ⟨s, t, s0, s2, t2, es'⟩ := suffix_is i
    have hs' : (TX ts (es.getD i 0)).length ≤ 100 := by
      refine P.short _ ?_
      unfold TX
      rw [List.getD_eq_getElem?_getD, List.getElem?_eq_getElem (by have := P.len; omega)]
      exact List.getElem_mem _
    have hn : nameAt es ts i = SS ((TX ts (es.getD i 0)).cps.toList ++ List.replicate s 47 ++ [120] ++ List.replicate t 47) := by
      unfold nameAt
      rw [es', SS_eq (ts.getD (es.getD i 0).toNat Str.empty), SS_append]
      simp [TX]
    have hx : Elt [120] := ⟨by simp, by decide⟩
    have hr : Txt.rstripChars (nameAt es ts i) "/" = SS ((TX ts (es.getD i 0)).cps.toList ++ List.replicate s 47 ++ [120]) := by
      rw [hn]
      exact rstrip_SS (.inr (elt_last hx).2)
    unfold ancOf
    rw [hr]
    refine anc_step (ts := ts) (up := up) (q := es.getD i 0) hx (fun _ => s0) (fun z => ?_) (fun z => ?_) (by rw [← SS_eq]; exact text_anc P _ _ (Nat.le_refl _) q0 q1) ?_
    · rw [z]
      refine ⟨?_, rfl⟩
      have : TX ts 0 = SS [] := P.zero
      rw [this]
    · obtain ⟨l, a, b, c⟩ := text_list P (q := es.getD i 0) (by omega) q1
      rw [a]
      exact ⟨by simpa using b, by simpa using c⟩
    · have : (TX ts (es.getD i 0)).cps.toList.length = (TX ts (es.getD i 0)).length := by simp [Str.length]
      rw [List.length_append, List.length_append, List.length_replicate, this, List.length_singleton]
      omega
  · unfold ancOf
    rw [List.length_cons, List.length_map, List.length_reverse]
    have := chain_length (up := up) (p := es.getD i 0)
    omega
theorem dd_map {α β : Type} [DecidableEq α] [DecidableEq β] (f : α → β) : ∀ (xs : List α), (∀ x ∈ xs, ∀ y ∈ xs, f x = f y → x = y) → dd (xs.map f) = (dd xs).map f := by
  intro xs
  suffices h : ∀ (ys xs : List α), (∀ x ∈ ys ++ xs, ∀ y ∈ ys ++ xs, f x = f y → x = y) → (xs.map f).foldl (fun acc x => if x ∈ acc then acc else acc ++ [x]) (ys.map f) = (xs.foldl (fun acc x => if x ∈ acc then acc else acc ++ [x]) ys).map f by
    intro hx
    exact h [] xs (by simpa using hx)
  intro ys xs
  induction xs generalizing ys with
  | nil => intro _; rfl
  | cons x r ih =>
    intro hx
    rw [List.map_cons, List.foldl_cons, List.foldl_cons]
    have hm : f x ∈ ys.map f ↔ x ∈ ys := by
      constructor
      · intro h
        obtain ⟨y, hy, e⟩ := List.mem_map.mp h
        have := hx y (List.mem_append_left _ hy) x (List.mem_append_right _ (.head _)) e
        exact this ▸ hy
      · exact fun h => List.mem_map_of_mem h
    by_cases h : x ∈ ys
    · rw [if_pos h, if_pos (hm.mpr h)]
      refine ih ys fun a ha b hb => hx a ?_ b ?_
      · rcases List.mem_append.mp ha with z | z
        · exact List.mem_append_left _ z
        · exact List.mem_append_right _ (.tail _ z)
      · rcases List.mem_append.mp hb with z | z
        · exact List.mem_append_left _ z
        · exact List.mem_append_right _ (.tail _ z)
    · rw [if_neg h, if_neg (fun z => h (hm.mp z)), show ys.map f ++ [f x] = (ys ++ [x]).map f by simp]
      refine ih (ys ++ [x]) fun a ha b hb => hx a ?_ b ?_
      · simpa using ha
      · simpa using hb
/-- the row's places, the last name first -/
noncomputable def rowP (up es : List Int) : List Int := (dd ((List.range es.length).flatMap fun j => chain up (es.getD (es.length - 1 - j) 0))).reverse
theorem flat_mem {up es : List Int} {x : Int} : x ∈ ((List.range es.length).flatMap fun j => chain up (es.getD (es.length - 1 - j) 0)) ↔ ∃ j, j < es.length ∧ x ∈ chain up (es.getD j 0) := by
  rw [List.mem_flatMap]
  constructor
  · rintro ⟨j, hj, h⟩
    have := List.mem_range.mp hj
    exact ⟨es.length - 1 - j, by omega, h⟩
  · rintro ⟨j, hj, h⟩
    exact ⟨es.length - 1 - j, List.mem_range.mpr (by omega), by rw [show es.length - 1 - (es.length - 1 - j) = j by omega]; exact h⟩
theorem tx_inj {ts : List Str} (hnd : ts.Nodup) {x y : Int} (x0 : 0 < x) (x1 : x < ts.length) (y0 : 0 < y) (y1 : y < ts.length) (h : TX ts x = TX ts y) : x = y := by
  have a := (idx_of_nodup hnd (k := x.toNat) (by exact (Mine.toNat_lt_len (Int.le_of_lt x0) x1))).2
  have b := (idx_of_nodup hnd (k := y.toNat) (by exact (Mine.toNat_lt_len (Int.le_of_lt y0) y1))).2
  unfold TX at h
  rw [h, b] at a
  omega
theorem row_is {es up : List Int} {ts : List Str} (P : PlOk up ts) (hnd : ts.Nodup) (hin : ∀ q ∈ es, 0 ≤ q ∧ q < up.length) : rowOf es.length (ancOf es up ts) = (rowP up es).map (TX ts) := by
  unfold rowOf rowP
  rw [List.map_reverse]
  congr 1
  have e : ((List.range es.length).flatMap fun j => ((ancOf es up ts (es.length - 1 - j)).drop 1).reverse) = ((List.range es.length).flatMap fun j => chain up (es.getD (es.length - 1 - j) 0)).map (TX ts) := by
    rw [List.map_flatMap]
    congr 1
    funext j
    unfold ancOf
    rw [List.drop_one, List.tail_cons, ← List.map_reverse, List.reverse_reverse]
  rw [e, dd_map]
  have rng : ∀ x ∈ ((List.range es.length).flatMap fun j => chain up (es.getD (es.length - 1 - j) 0)), 0 < x ∧ x < up.length := fun x hx => by
    obtain ⟨j, hj, hm⟩ := flat_mem.mp hx
    obtain ⟨a, b⟩ := hin (es.getD j 0) (by rw [List.getD_eq_getElem?_getD, List.getElem?_eq_getElem hj]; exact List.getElem_mem hj)
    have := chain_mem P.up _ a b hm
    omega
  intro x hx y hy h
  obtain ⟨x0, x1⟩ := rng x hx
  obtain ⟨y0, y1⟩ := rng y hy
  have hl := P.len
  exact tx_inj hnd x0 (by omega) y0 (by omega) h
end Mine

end
section
open PySem PyProof.Rows PySem.Spec
namespace Mine
theorem chain_asc {up : List Int} (hup : UpOk up) : ∀ (n : Nat) (q : Int), q.toNat ≤ n → 0 ≤ q → q < up.length → (chain up q).Pairwise fun a b => a < b ∧ (chain up a).length < (chain up b).length
  | 0, q, hn, h0, h1 => by
    obtain rfl : q = 0 := by omega
    rw [chain_zero]; exact .nil
  | n + 1, q, hn, h0, h1 => by
    by_cases hq : q = 0
    · subst hq; rw [chain_zero]; exact .nil
    · obtain ⟨u0, u1⟩ := hup q.toNat (by omega) (by exact (Mine.toNat_lt_len h0 h1))
      have e := chain_step hup (p := q) (by omega) h1
      rw [e]
      refine List.pairwise_append.mpr ⟨chain_asc hup n _ (by omega) u0 (by omega), List.pairwise_singleton _ _, fun a ha b hb => ?_⟩
      obtain rfl := List.mem_singleton.mp hb
      have hm := chain_mem hup _ u0 (by omega) ha
      obtain ⟨s, hs⟩ := chain_pre hup _ (up.getD b.toNat 0) (Nat.le_refl _) u0 (by omega) ha
      refine ⟨by omega, ?_⟩
      rw [e, hs]
      simp only [List.length_append, List.length_cons, List.length_nil]
      exact (Nat.lt_succ_of_le (Nat.le_add_right _ _))
theorem chain_nodup {up : List Int} (hup : UpOk up) {q : Int} (h0 : 0 ≤ q) (h1 : q < up.length) : (chain up q).Nodup :=
  (chain_asc hup _ q (Nat.le_refl _) h0 h1).imp fun h e => by rw [e] at h; omega
theorem dd_append {α : Type} [DecidableEq α] (A : List α) : ∀ (C : List α), C.Nodup → dd (A ++ C) = dd A ++ C.filter fun c => !decide (c ∈ A) := by
  intro C hC
  have key : ∀ (C acc : List α), C.Nodup → C.foldl (fun acc x => if x ∈ acc then acc else acc ++ [x]) acc = acc ++ C.filter fun c => !decide (c ∈ acc) := by
    intro C
    induction C with
    | nil => intro acc _; simp
    | cons x r ih =>
      intro acc h
      obtain ⟨hx, hr⟩ := List.nodup_cons.mp h
      rw [List.foldl_cons]
      by_cases hm : x ∈ acc
      · rw [if_pos hm, ih acc hr, List.filter_cons_of_neg (by simpa using hm)]
      · rw [if_neg hm, ih _ hr, List.filter_cons_of_pos (by simpa using hm), List.append_assoc]
        congr 1
        rw [List.singleton_append]
        congr 1
        refine List.filter_congr fun z hz => ?_
        have : z ≠ x := fun e => hx (e ▸ hz)
        simp [this]
  unfold dd
  rw [List.foldl_append, key C _ hC]
  congr 1
  refine List.filter_congr fun z _ => ?_
  have := dd_mem (x := z) (xs := A)
  unfold dd at this
  rw [Bool.eq_iff_iff]; simp [this]
section
variable {up es : List Int}
theorem es_in (hin : ∀ q ∈ es, 0 ≤ q ∧ q < up.length) {i : Nat} (hi : i < es.length) : 0 ≤ es.getD i 0 ∧ es.getD i 0 < up.length := hin _ (by rw [List.getD_eq_getElem?_getD, List.getElem?_eq_getElem hi]; exact List.getElem_mem hi)
theorem last_is {q : Int} {i : Nat} (hi : i < es.length) (hq : q ∈ chain up (es.getD i 0)) (hn : ∀ k, i < k → k < es.length → q ∉ chain up (es.getD k 0)) : lastIn (opsTo up es es.length) q = i := by
  obtain ⟨j, hj, e, hm, hl⟩ := last_spec (up := up) (es := es) (n := es.length) (p := q) (ops_mem.mpr ⟨i, hi, hq⟩)
  rw [e]
  rcases Nat.lt_trichotomy i j with z | z | z
  · exact absurd hm (hn j z hj)
  · rw [z]
  · exact absurd hq (hl i z hi)
theorem last_ge {q : Int} {i : Nat} (hi : i < es.length) (hq : q ∈ chain up (es.getD i 0)) : (i : Int) ≤ lastIn (opsTo up es es.length) q := by
  obtain ⟨j, hj, e, hm, hl⟩ := last_spec (up := up) (es := es) (n := es.length) (p := q) (ops_mem.mpr ⟨i, hi, hq⟩)
  rw [e]
  rcases Nat.lt_or_ge j i with z | z
  · exact absurd hq (hl i z hi)
  · exact (Int.ofNat_le.mpr z)
theorem rows_fall (hup : UpOk up) (hul : up.length ≤ 100) (hin : ∀ q ∈ es, 0 ≤ q ∧ q < up.length) : ∀ m : Nat, m ≤ es.length → (dd ((List.range m).flatMap fun j => chain up (es.getD (es.length - 1 - j) 0))).Pairwise fun x y => treeRank up es y < treeRank up es x
  | 0, _ => .nil
  | m + 1, hm => by
    have hi : es.length - 1 - m < es.length := by omega
    obtain ⟨q0, q1⟩ := es_in hin hi
    rw [List.range_succ, List.flatMap_append, List.flatMap_singleton, dd_append _ _ (chain_nodup hup q0 q1)]
    have mem : ∀ x, x ∈ ((List.range m).flatMap fun j => chain up (es.getD (es.length - 1 - j) 0)) ↔ ∃ k, es.length - 1 - m < k ∧ k < es.length ∧ x ∈ chain up (es.getD k 0) := fun x => by
      rw [List.mem_flatMap]
      constructor
      · rintro ⟨j, hj, h⟩
        have := List.mem_range.mp hj
        exact ⟨_, by omega, by omega, h⟩
      · rintro ⟨k, h1, h2, h⟩
        exact ⟨es.length - 1 - k, List.mem_range.mpr (by omega), by rw [show es.length - 1 - (es.length - 1 - k) = k by omega]; exact h⟩
    have new : ∀ c ∈ (chain up (es.getD (es.length - 1 - m) 0)).filter (fun c => !decide (c ∈ (List.range m).flatMap fun j => chain up (es.getD (es.length - 1 - j) 0))), c ∈ chain up (es.getD (es.length - 1 - m) 0) ∧ lastIn (opsTo up es es.length) c = (es.length - 1 - m : Nat) := fun c hc => by
      obtain ⟨h1, h2⟩ := List.mem_filter.mp hc
      have h2 : c ∉ ((List.range m).flatMap fun j => chain up (es.getD (es.length - 1 - j) 0)) := by simpa using h2
      exact ⟨h1, last_is hi h1 fun k a b z => h2 ((mem c).mpr ⟨k, a, b, z⟩)⟩
    refine List.pairwise_append.mpr ⟨rows_fall hup hul hin m (by exact (Nat.le_of_succ_le hm)), ?_, fun x hx c hc => ?_⟩
    · have h1 : List.Pairwise (fun a b : Int => a < b ∧ (chain up a).length < (chain up b).length) ((chain up (es.getD (es.length - 1 - m) 0)).filter (fun c => !decide (c ∈ (List.range m).flatMap fun j => chain up (es.getD (es.length - 1 - j) 0)))) := List.Pairwise.filter _ (chain_asc hup _ _ (Nat.le_refl _) q0 q1)
      refine List.Pairwise.imp_of_mem (fun ha hb h => ?_) h1
      have a1 := (new _ ha).2
      have b1 := (new _ hb).2
      unfold treeRank
      rw [a1, b1]
      omega
    · obtain ⟨c1, c2⟩ := new c hc
      obtain ⟨k, k1, k2, k3⟩ := (mem x).mp (dd_mem.mp hx)
      have := last_ge (up := up) (es := es) k2 k3
      obtain ⟨r0, r1⟩ := es_in hin k2
      have hx' := chain_mem hup _ r0 r1 k3
      have lx := chain_length (up := up) (p := x)
      unfold treeRank
      rw [c2]
      omega
theorem rowP_rises (hup : UpOk up) (hul : up.length ≤ 100) (hin : ∀ q ∈ es, 0 ≤ q ∧ q < up.length) : (rowP up es).Pairwise fun x y => treeRank up es x < treeRank up es y := by
  unfold rowP
  exact List.pairwise_reverse.mpr (rows_fall hup hul hin es.length (Nat.le_refl _))
theorem rowP_nodup : (rowP up es).Nodup := (List.reverse_perm _).nodup_iff.mpr (dd_nodup _)
theorem rowP_mem {x : Int} : x ∈ rowP up es ↔ ∃ j, j < es.length ∧ x ∈ chain up (es.getD j 0) := by
  unfold rowP
  rw [List.mem_reverse, dd_mem]
  exact flat_mem
theorem tree_is {ss : List Int} (hup : UpOk up) (hul : up.length ≤ 100) (hin : ∀ q ∈ es, 0 ≤ q ∧ q < up.length) (hp : ss.Perm (dd ((opsTo up es es.length).map (·.1)))) (hs : ss.Pairwise fun x y => treeRank up es x < treeRank up es y) : ss = rowP up es := by
  refine List.Perm.eq_of_pairwise (le := fun x y => treeRank up es x < treeRank up es y) (fun a b _ _ x y => absurd (Int.lt_trans x y) (Int.lt_irrefl _)) hs (rowP_rises hup hul hin) ?_
  refine (List.perm_ext_iff_of_nodup (hp.nodup_iff.mpr (dd_nodup _)) rowP_nodup).mpr fun x => ?_
  rw [hp.mem_iff, dd_mem, ops_mem, rowP_mem]
end
end Mine

end
section
open PySem PyProof.Rows PySem.Spec
namespace Mine
theorem goneAll_mem {x : Int} : ∀ {ps disk : List Int}, x ∈ goneAll ps disk ↔ x ∈ disk ∧ x ∉ ps
  | [], disk => by simp [goneAll]
  | q :: ps, disk => by
    have := goneAll_mem (x := x) (ps := ps) (disk := disk.filter fun x => x != q)
    unfold goneAll at this ⊢
    rw [List.foldl_cons, this, List.mem_filter]
    simp only [bne_iff_ne, ne_eq, List.mem_cons, not_or]
    exact ⟨fun ⟨⟨a, b⟩, c⟩ => ⟨a, b, c⟩, fun ⟨a, b, c⟩ => ⟨⟨a, b⟩, c⟩⟩
theorem goneAll_nodup : ∀ {ps disk : List Int}, disk.Nodup → (goneAll ps disk).Nodup
  | [], _, h => h
  | q :: _, disk, h => goneAll_nodup (disk := disk.filter fun x => x != q) (h.filter _)
theorem before {r : Int → Int} {l : List Int} (h : l.Pairwise fun a b => r a < r b) {k : Nat} (hk : k < l.length) {x : Int} (hx : x ∈ l) (hr : r x < r l[k]) : x ∈ l.take k := by
  obtain ⟨i, hi, rfl⟩ := List.mem_iff_getElem.mp hx
  rcases Nat.lt_trichotomy i k with z | z | z
  · exact List.mem_take_iff_getElem.mpr ⟨i, by omega, rfl⟩
  · subst z; omega
  · have := List.pairwise_iff_getElem.mp h k i hk hi z
    omega
section
variable {up : List Int}
theorem chain_self (hup : UpOk up) {q : Int} (h0 : 0 < q) (h1 : q < up.length) : q ∈ chain up q := by
  rw [chain_step hup h0 h1]; simp
/-- a row goes up: the place above is in it, later -/
theorem row_up (hup : UpOk up) {es : List Int} (hin : ∀ q ∈ es, 0 ≤ q ∧ q < up.length) {x : Int} (hx : x ∈ rowP up es) : (0 < x ∧ x < up.length) ∧ (up.getD x.toNat 0 ≠ 0 → up.getD x.toNat 0 ∈ rowP up es ∧ treeRank up es x < treeRank up es (up.getD x.toNat 0)) := by
  obtain ⟨j0, hj0, hm0⟩ := rowP_mem.mp hx
  obtain ⟨j, hj, e, hm, _⟩ := last_spec (up := up) (es := es) (n := es.length) (p := x) (ops_mem.mpr ⟨j0, hj0, hm0⟩)
  obtain ⟨r0, r1⟩ := es_in hin hj
  obtain ⟨x0, x1⟩ := chain_mem hup _ r0 r1 hm
  have xl : x < up.length := by exact (Int.lt_of_le_of_lt x1 r1)
  refine ⟨⟨x0, xl⟩, fun hy => ?_⟩
  obtain ⟨u0, u1⟩ := hup x.toNat (by omega) (by exact (Mine.toNat_lt_len (Int.le_of_lt x0) xl))
  obtain ⟨s, hs⟩ := chain_pre hup _ _ (Nat.le_refl _) r0 r1 hm
  have ec := chain_step hup x0 xl
  have hy' : up.getD x.toNat 0 ∈ chain up (es.getD j 0) := by
    rw [hs, ec]
    exact List.mem_append_left _ (List.mem_append_left _ (chain_self hup (by omega) (by omega)))
  refine ⟨rowP_mem.mpr ⟨j, hj, hy'⟩, ?_⟩
  have g := last_ge (up := up) (es := es) hj hy'
  have lc := congrArg List.length ec
  rw [List.length_append, List.length_singleton] at lc
  unfold treeRank
  rw [e]
  omega
/-- one step, from a row to a row -/
theorem step_ok {ts : List Str} (P : PlOk up ts) (hul : up.length ≤ 9) (hnd : ts.Nodup) (hok : StrsOk ts) {es fs : List Int} (he : ∀ q ∈ es, 0 ≤ q ∧ q < up.length) (hf : ∀ q ∈ fs, 0 ≤ q ∧ q < up.length) : StepOk up ts (rowP up es) (rowP up fs) := by
  have hup := P.up
  have hlen := P.len
  have rng : ∀ (l : List Int) (_ : ∀ q ∈ l, 0 ≤ q ∧ q < up.length), ∀ q ∈ rowP up l, 0 < q ∧ q < up.length := fun l hl q hq => (row_up hup hl hq).1
  have few : ∀ (l : List Int) (_ : ∀ q ∈ l, 0 ≤ q ∧ q < up.length), (rowP up l).length ≤ 20 := fun l hl => by
    have := few_ints up.length (rowP up l) rowP_nodup fun x hx => by have := rng l hl x hx; exact ⟨(Int.le_of_lt this.1), this.2⟩
    omega
  have inj : ∀ x y : Int, (0 < x ∧ x < up.length) → (0 < y ∧ y < up.length) → TX ts x = TX ts y → x = y := fun x y hx hy h => tx_inj hnd hx.1 (by exact (Int.lt_of_lt_of_le hx.2 (Int.ofNat_le.mpr (Nat.le_of_eq (Eq.symm hlen))))) hy.1 (by exact (Int.lt_of_lt_of_le hy.2 (Int.ofNat_le.mpr (Nat.le_of_eq (Eq.symm hlen))))) h
  have nod : ∀ (l : List Int) (_ : ∀ q ∈ l, 0 ≤ q ∧ q < up.length), ((rowP up l).map (TX ts)).Nodup := fun l hl => by
    refine List.pairwise_map.mpr (List.Pairwise.imp_of_mem (fun ha hb h e => h ?_) rowP_nodup)
    exact inj _ _ (rng l hl _ ha) (rng l hl _ hb) e
  have ok : ∀ (l : List Int) (_ : ∀ q ∈ l, 0 ≤ q ∧ q < up.length), StrsOk ((rowP up l).map (TX ts)) := fun l hl x hx => by
    obtain ⟨q, hq, rfl⟩ := List.mem_map.mp hx
    obtain ⟨q0, q1⟩ := rng l hl q hq
    refine hok _ ?_
    unfold TX
    rw [List.getD_eq_getElem?_getD, List.getElem?_eq_getElem (by omega)]
    exact List.getElem_mem _
  have subm : ∀ (l k : List Int) (_ : ∀ q ∈ l, 0 ≤ q ∧ q < up.length) (_ : ∀ q ∈ k, 0 ≤ q ∧ q < up.length), sub ((rowP up l).map (TX ts)) ((rowP up k).map (TX ts)) = ((rowP up l).filter fun q => !decide (q ∈ rowP up k)).map (TX ts) := fun l k hl hk => by
    unfold sub
    rw [List.filter_map]
    congr 1
    refine List.filter_congr fun q hq => ?_
    have : TX ts q ∈ (rowP up k).map (TX ts) ↔ q ∈ rowP up k := by
      constructor
      · intro h
        obtain ⟨q', h', e⟩ := List.mem_map.mp h
        exact inj _ _ (rng k hk _ h') (rng l hl _ hq) e ▸ h'
      · exact fun h => List.mem_map.mpr ⟨q, h, rfl⟩
    show (!decide (TX ts q ∈ (rowP up k).map (TX ts))) = !decide (q ∈ rowP up k)
    rw [decide_eq_decide.mpr this]
  have gm : ∀ x, x ∈ goneP (rowP up es) (rowP up fs) ↔ x ∈ rowP up es ∧ x ∉ rowP up fs := fun x => by unfold goneP; rw [List.mem_filter]; simp
  have mm : ∀ x, x ∈ madeP (rowP up es) (rowP up fs) ↔ x ∈ rowP up fs ∧ x ∉ rowP up es := fun x => by unfold madeP; rw [List.mem_reverse, List.mem_filter]; simp
  have stay : ∀ x, x ∈ goneAll (goneP (rowP up es) (rowP up fs)) (rowP up es) ↔ x ∈ rowP up es ∧ x ∈ rowP up fs := fun x => by
    rw [goneAll_mem, gm]
    exact ⟨fun ⟨a, b⟩ => ⟨a, Classical.byContradiction fun c => b ⟨a, c⟩⟩, fun ⟨a, b⟩ => ⟨a, fun c => c.2 b⟩⟩
  have gr : (goneP (rowP up es) (rowP up fs)).Pairwise fun x y => treeRank up es x < treeRank up es y := List.Pairwise.filter _ (rowP_rises hup (by omega) he)
  have mr : (madeP (rowP up es) (rowP up fs)).Pairwise fun x y => -treeRank up fs x < -treeRank up fs y := by
    refine List.pairwise_reverse.mpr (List.Pairwise.imp (fun h => ?_) (List.Pairwise.filter _ (rowP_rises hup (by omega) hf)))
    omega
  have gn : (goneP (rowP up es) (rowP up fs)).Nodup := rowP_nodup.filter _
  have mn : (madeP (rowP up es) (rowP up fs)).Nodup := (List.reverse_perm _).nodup_iff.mpr (rowP_nodup.filter _)
  refine ⟨few _ he, few _ hf, nod _ he, nod _ hf, ok _ he, ok _ hf, subm _ _ he hf, ?_, fun q hq => ?_, fun q hq => ?_, fun q hq => ?_, fun k hk => ?_, fun k hk => ?_, ?_, ?_⟩
  · rw [subm _ _ hf he, ← List.map_reverse]; rfl
  · have := rng _ he q hq; omega
  · have := rng _ he q ((gm q).mp hq).1; omega
  · have := rng _ hf q ((mm q).mp hq).1; omega
  · have hg := (gm _).mp (List.getElem_mem hk)
    refine ⟨goneAll_mem.mpr ⟨hg.1, fun hm => ?_⟩, fun one ho hu => ?_⟩
    · obtain ⟨i, hi, e⟩ := List.mem_take_iff_getElem.mp hm
      have := List.pairwise_iff_getElem.mp gn i k (by omega) hk (by omega)
      exact this e
    · obtain ⟨o1, o2⟩ := goneAll_mem.mp ho
      have hp := rng _ he _ hg.1
      have o3 : one ∉ rowP up fs := fun h => hg.2 (hu ▸ ((row_up hup hf h).2 (by omega)).1)
      have o4 := (row_up hup he o1).2 (by omega)
      exact o2 (before gr hk ((gm _).mpr ⟨o1, o3⟩) (by rw [← hu]; exact o4.2))
  · have hg := (mm _).mp (List.getElem_mem hk)
    have hp := rng _ hf _ hg.1
    refine ⟨by exact (Int.ne_of_gt hp.1), fun hm => ?_, ?_⟩
    · rcases List.mem_append.mp hm with hm | hm
      · exact hg.2 ((stay _).mp hm).1
      · obtain ⟨i, hi, e⟩ := List.mem_take_iff_getElem.mp hm
        have := List.pairwise_iff_getElem.mp mn i k (by omega) hk (by omega)
        exact this e
    · by_cases h0 : up.getD ((madeP (rowP up es) (rowP up fs))[k]).toNat 0 = 0
      · rw [h0]; exact .head _
      · obtain ⟨u1, u2⟩ := (row_up hup hf hg.1).2 h0
        refine .tail _ (List.mem_append.mpr ?_)
        by_cases hb : up.getD ((madeP (rowP up es) (rowP up fs))[k]).toNat 0 ∈ rowP up es
        · exact .inl ((stay _).mpr ⟨hb, u1⟩)
        · exact .inr (before mr hk ((mm _).mpr ⟨u1, hb⟩) (by omega))
  · refine (List.perm_ext_iff_of_nodup (List.nodup_append.mpr ⟨goneAll_nodup rowP_nodup, mn, fun a ha b hb e => ?_⟩) rowP_nodup).mpr fun x => ?_
    · rw [e] at ha
      exact ((mm _).mp hb).2 ((stay _).mp ha).1
    · rw [List.mem_append, stay, mm]
      refine ⟨fun h => h.elim (·.2) (·.1), fun h => ?_⟩
      by_cases hb : x ∈ rowP up es
      · exact .inl ⟨hb, h⟩
      · exact .inr ⟨h, hb⟩
  · rw [subm _ _ he hf, subm _ _ hf he, List.length_map, List.length_map, List.filter_append, List.length_append]
    congr 2
    · refine List.filter_congr fun q hq => ?_
      simp [hq]
    · refine List.filter_congr fun q hq => ?_
      simp [hq]
end
end Mine

end
section
open PySem PySem.W PyProof.Rows PySem.Spec PySem.Calls
namespace Mine
theorem three_of {α : Type} {ys : List α} {a b c : α} (hl : ys.length = 3) (h0 : ys[0]? = some a) (h1 : ys[1]? = some b) (h2 : ys[2]? = some c) : ys = [a, b, c] := by
  refine List.ext_getElem? fun i => ?_
  rcases i with _ | _ | _ | i
  · exact h0
  · exact h1
  · exact h2
  · rw [List.getElem?_eq_none (by exact (Nat.le_trans (Nat.le_of_eq hl) (Nat.le_add_left _ _)))]; rfl
section
variable {w : World} {A : Around} {env : Env} {h : Heap} {g : Array GenState} {d : Drawn} {tk : Nat} {o : OsState}
/-- strings, one for each thing of a list -/
theorem comp_mapS {elt : Expr} {x : Str} {px : Pos} {iter : Expr} {scope : Scope} {pos : Pos} {cl : List (Str × Addr)} {RR : Value → Addr → Result → Shared → Prop} {a : Addr} {vs : List Value} {xs : List Str}
    {H : Heap} {L : Addr} {m : Str → Option Value} {news : List (Addr × Obj)} (F : Fr H L h m) (N : News H L h news) (hh : A.handled = none) (hl : h.IsList a vs.toArray) (vl : vs.length = xs.length) (hlen : xs.length ≤ 1000)
    (hcell : (scope.names.all fun y => y.2 != .cell) = true) (hkind : scope.kind = .function) (hx : scope.names.lookup x = some .local)
    (turn : ∀ C i v h₁ tk₁ mc (Qe : Value → Shared → Prop), i < xs.length → vs[i]? = some v → mc x = some v → Fr H C h₁ mc → News H C h₁ news → Fr H L h₁ m → (∀ t tk', Qe (.str (xs.getD i Str.empty) t) ⟨h₁, g, d, tk', o⟩) →
      wpAny (model PG w) A (eval elt (compEnvC scope cl C env)) Qe No ⟨h₁, g, d, tk₁, o⟩)
    (done : ∀ D C h₁ tk₁ ys mc, h.get? D = none → h.get? C = none → D ≠ C → h₁.Ns C mc → h.StaysIn h₁ → h₁.PlainList D ys.toArray → StrsAre ys xs → RR (.ref D) C (.ok .next) ⟨h₁, g, d, tk₁, o⟩) :
    wpAny (model PG w) A (pyIter (.ref a)) (CompRestR w A env elt ⟨.Name x px, iter, [], 0⟩ [] scope pos cl RR) No ⟨h, g, d, tk, o⟩ := by
  refine it_list F N hl fun I h2 F2 N2 st2 fr2 hne hit hsz off => ?_
  refine comp_loopX (fs := []) (Walks.list hh I a hne vs.toArray) (fun _ h => nomatch h) (fun _ _ h => nomatch h) hit hsz (by rw [List.size_toArray, vl]; exact hlen) hcell hkind hx (fun D C i ys h g₁ => g₁ = g ∧ StrsAre ys (xs.take i)) (fun _ _ => ⟨rfl, .nil⟩) (fun _ _ _ _ _ _ _ x _ => x) ?_ ?_
  · rintro D C i v ys h3 g3 tk3 mc Qe Qs hD hC hDC hi' hv ⟨rfl, hI⟩ hmx hnc hCs hold hst hpl hQe hQs
    obtain ⟨F3, N3, FL3⟩ := comp_frames F2 N2 off hC hCs hnc hold
    have hi2 : i < xs.length := by rw [List.size_toArray, vl] at hi'; exact hi'
    have e1 : xs.take (i + 1) = xs.take i ++ [xs.getD i Str.empty] := by
      rw [List.take_add_one, List.getElem?_eq_getElem hi2, List.getD_eq_getElem?_getD, List.getElem?_eq_getElem hi2]; rfl
    refine ifs_nil ?_
    refine ite_yes ?_
    refine turn C i v h3 _ mc _ hi2 (by simpa using hv) hmx F3 N3 FL3 fun t tk' => ?_
    refine hQe _ _ _ _ ⟨fun _ _ _ _ e => e, (fun _ _ _ m => nomatch m), _, hnc⟩ ⟨rfl, ?_⟩
    rw [e1]
    exact strs_append hI (.cons _ _ .nil)
  · rintro D C h3 g3 tk3 ys mc hD hC hDC hCs hnc hold hpl hlen' ⟨rfl, hI⟩
    have n0 : ∀ b, h2.get? b = none → h.get? b = none := fun b e => by
      exact get_gone (st2 _) e
    rw [List.size_toArray, vl, List.take_length] at hI
    exact done D C h3 tk3 ys mc (n0 _ hD) (n0 _ hC) hDC hnc (fun b ob e => hold.nil b ob (fun q => by (first | exact (ne_get e (fr2) (q)).elim | exact (ne_get (fr2) e (q)).elim | (rw [q, fr2] at e; cases e))) (st2 _ _ e)) hpl hI
end
end Mine

end
section
open PySem PySem.W PyProof.Rows PySem.Spec PySem.Calls
namespace Mine
/-- lists of strings, the generators as they were -/
noncomputable def TxInv (H : Heap) (I : Addr) (f : Nat → List Str) (g : Array GenState) (D C : Addr) (i : Nat) (ys : List Value) (h : Heap) (g₁ : Array GenState) : Prop :=
  ys.length = i ∧ g₁ = g ∧ ∀ j v, ys[j]? = some v → ∃ a, v = .ref a ∧ a ≠ D ∧ a ≠ C ∧ a ≠ I ∧ H.get? a = none ∧ AtStrs h a (f j)
section
variable {w : World} {p : Program} {loose : List Str} {mean : ExcName → Option Value} {mg mb : Str → Option Value} {n : Nat}
set_option maxHeartbeats 4000000 in
theorem law_same (up : List Int) (ts : List Str) (p0 p1 p2 : List Int) {dp un : Nat} {gd : Option (List Code)} {out : List Env} {base H₀ H h : Heap} {L : Addr} {m : Str → Option Value} {g : Array GenState} {d : Drawn} {tk : Nat} {o : OsState} {Q : Flow → Shared → Prop}
    {rw r0 r1 r2 tr t0 t1 t2 ab tx : Addr} {vs0 vs1 vs2 us0 us1 us2 va vt : List Value} {kr kr0 kr1 kr2 kt kt0 kt1 kt2 ka kx : Nat} {o1 o2 : Obj} {ps : Array Value}
    (htl : ts.length ≤ 1000) (hal : up.length = ts.length) (hnd : ts.Nodup) (hts : ∀ x ∈ ts, x.length ≤ 100) (S0 : StepOk up ts p2 p0) (S1 : StepOk up ts p0 p1) (S2 : StepOk up ts p1 p2)
    (R : Room w p loose mean mg mb (n + 40) ⟨none, dp, some out, gd, un⟩ base out H₀ H) (F : Fr H L h m) (mr : m "rows" = some (.ref rw)) (mt : m "trees" = some (.ref tr))
    (N : News H L h (LoNews rw r0 r1 r2 tr t0 t1 t2 ab tx L vs0 vs1 vs2 us0 us1 us2 va vt kr kr0 kr1 kr2 kt kt0 kt1 kt2 ka kx o1 o2 ps)) (hc1 : o1.data = .cell (some (.ref tx))) (hc2 : o2.data = .cell (some (.ref ab)))
    (i0 : StrsAre vs0 (p0.map (TX ts))) (i1 : StrsAre vs1 (p1.map (TX ts))) (i2 : StrsAre vs2 (p2.map (TX ts))) (j0 : IntsAre us0 p0) (j1 : IntsAre us1 p1) (j2 : IntsAre us2 p2) (ia : IntsAre va up) (ix : StrsAre vt ts)
    (hQ : ∀ h' tk' H' m', Room w p loose mean mg mb (n + 40) ⟨none, dp, some out, gd, un⟩ base out H₀ H' → Fr H' L h' m' → h'.get? 195 = some (tabObj ps) → Q (.ret (.bool true)) ⟨h', g, d, tk', o⟩) :
    wpAny (model PG w) ((⟨none, dp, some out, gd, un⟩ : Around).deeper (lawEnv L)) (execs (lawDef.1.drop 5) (lawEnv L)) Q No ⟨h, g, d, tk, o⟩ := by
  have X := R.X
  have T := R.T
  unfold lawEnv
  conv =>
    arg 3
    arg 1
    whnf
  conv =>
    arg 3
    arg 2
    arg 2
    whnf
  conv =>
    arg 2
    arg 2
    arg 2
    whnf
  unfold LoNews at N
  replace F := Fr.norm F [("rows", .ref rw), ("trees", .ref tr)] (by refine all_cons ?_ (all_cons ?_ all_nil); exact mr; exact mt)
  have hso : ∀ x ∈ ([p0.map (TX ts), p1.map (TX ts), p2.map (TX ts)] : List (List Str)), StrsOk x := fun x hx => by
    revert x hx; refine all_cons ?_ (all_cons ?_ (all_cons ?_ all_nil))
    · exact S0.oa
    · exact S1.oa
    · exact S2.oa
  (repeat' (first | k_data | ((fail_if_success (with_reducible show wpAny _ _ (exec (Stmt.For _ _ _ _ _) _) _ _ _)); (fail_if_success (with_reducible show wpAny _ _ (eval (Expr.ListComp _ _ _ _) _) _ _ _)); (fail_if_success (with_reducible show wpAny _ _ (exec (Stmt.Assign _ (Expr.ListComp _ _ _ _) _) _) _ _ _)); (fail_if_success (with_reducible show wpAny _ _ (compareOp _ (.ref _) (.ref _)) _ _ _)); walk1; try dsimp only) | (with_reducible refine ite_no ?_) | (with_reducible refine ite_yes ?_)))
  refine comp_openR (by exact rfl) rfl rfl ?_
  (repeat' (first | k_data | ((fail_if_success (with_reducible show wpAny _ _ (exec (Stmt.For _ _ _ _ _) _) _ _ _)); (fail_if_success (with_reducible show wpAny _ _ (eval (Expr.ListComp _ _ _ _) _) _ _ _)); (fail_if_success (with_reducible show wpAny _ _ (exec (Stmt.Assign _ (Expr.ListComp _ _ _ _) _) _) _ _ _)); (fail_if_success (with_reducible show wpAny _ _ (compareOp _ (.ref _) (.ref _)) _ _ _)); walk1; try dsimp only) | (with_reducible refine ite_no ?_) | (with_reducible refine ite_yes ?_)))
  rename Fr _ _ _ _ => F1
  rename News _ _ _ _ => N1
  refine it_list F1 N1 (News.lst N1 (.tail _ (.head _))) fun I h2 F2 N2 st2 fr2 hne hit hsz off => ?_
  refine comp_loopX (fs := []) (Walks.list rfl I tr hne (List.toArray [.ref t0, .ref t1, .ref t2])) (fun _ h => nomatch h) (fun _ _ h => nomatch h) hit hsz (by show (3 : Nat) ≤ 1000; decide) rfl rfl rfl (TxInv H I (fun j : Nat => (([p0, p1, p2] : List (List Int)).getD j []).map (TX ts)) g) (fun _ _ => ⟨rfl, rfl, fun j v e => by simp at e⟩) (fun D C i ys ha hb ga ⟨x1, x2, x3⟩ hk => ⟨x1, x2, fun j v e => by
    obtain ⟨a, e1, e2, e3, e4, e5, vs, ⟨kk, e7⟩, e8⟩ := x3 j v e
    exact ⟨a, e1, e2, e3, e4, e5, vs, ⟨kk, hk _ _ e2 e3 e4 e7⟩, e8⟩⟩) ?_ ?_
  · rintro D C i v ys h3 g3 tk3 mc Qe Qs hD hC hDC hi hv ⟨x1, rfl, x3⟩ hmx hnc hCs hold hst hpl hQe hQs
    obtain ⟨F3, N3, FL3⟩ := comp_frames F2 N2 off hC hCs hnc hold
    refine ifs_nil ?_
    refine ite_yes ?_
    have hv' : ([.ref t0, .ref t1, .ref t2] : List Value)[i]? = some v := by simpa using hv
    obtain ⟨tq, us, kq, qs, rfl, hq, hqi, hj2, hdr, hql⟩ : ∃ tq us kq qs, v = .ref tq ∧ (tq, W.listOf (List.toArray us) kq) ∈ LoNews rw r0 r1 r2 tr t0 t1 t2 ab tx L vs0 vs1 vs2 us0 us1 us2 va vt kr kr0 kr1 kr2 kt kt0 kt1 kt2 ka kx o1 o2 ps ∧ IntsAre us qs ∧ ([p0, p1, p2] : List (List Int)).getD i [] = qs ∧ (∀ q ∈ qs, 0 ≤ q ∧ q < ts.length) ∧ qs.length ≤ 20 := by
      have hi3 : i < 3 := hi
      obtain rfl | rfl | rfl : i = 0 ∨ i = 1 ∨ i = 2 := by omega
      · exact ⟨t0, us0, kt0, p0, (Option.some.inj hv').symm, by unfold LoNews; repeat (first | exact List.Mem.head _ | refine List.Mem.tail _ ?_), j0, rfl, S1.dr, S1.lb⟩
      · exact ⟨t1, us1, kt1, p1, (Option.some.inj hv').symm, by unfold LoNews; repeat (first | exact List.Mem.head _ | refine List.Mem.tail _ ?_), j1, rfl, S2.dr, S2.lb⟩
      · exact ⟨t2, us2, kt2, p2, (Option.some.inj hv').symm, by unfold LoNews; repeat (first | exact List.Mem.head _ | refine List.Mem.tail _ ?_), j2, rfl, S0.dr, S0.lb⟩
    have X3 := X.keeps F3.keep
    replace F3 := Fr.norm F3 [("tree", .ref tq)] (by intro q hq; obtain rfl := List.mem_singleton.mp hq; exact hmx)
    clear F1 N1 F2 N2
    refine comp_openR (by exact rfl) rfl rfl ?_
    (repeat' (first | k_data | ((fail_if_success (with_reducible show wpAny _ _ (exec (Stmt.For _ _ _ _ _) _) _ _ _)); (fail_if_success (with_reducible show wpAny _ _ (eval (Expr.ListComp _ _ _ _) _) _ _ _)); (fail_if_success (with_reducible show wpAny _ _ (exec (Stmt.Assign _ (Expr.ListComp _ _ _ _) _) _) _ _ _)); (fail_if_success (with_reducible show wpAny _ _ (compareOp _ (.ref _) (.ref _)) _ _ _)); walk1; try dsimp only) | (with_reducible refine ite_no ?_) | (with_reducible refine ite_yes ?_)))
    have hql2 := hqi.length
    refine comp_mapS (xs := qs.map (TX ts)) F3 N3 rfl (News.lst N3 hq) (by rw [List.length_map]; exact hql2) (by rw [List.length_map]; exact (Nat.le_trans hql (by decide))) rfl rfl rfl ?_ ?_
    · intro C2 k v h4 tk4 mc2 Qe2 hk hv2 hmx2 F4 N4 FL4 hQe2
      rw [List.length_map] at hk
      obtain ⟨tv, ht⟩ := ints_at hqi hk
      obtain rfl : v = .int (qs.getD k 0) tv := Option.some.inj (hv2.symm.trans ht)
      have hg : qs.getD k 0 = qs[k] := by rw [List.getD_eq_getElem?_getD, List.getElem?_eq_getElem hk]; rfl
      obtain ⟨q0, q1⟩ := hdr (qs.getD k 0) (by rw [hg]; exact List.getElem_mem hk)
      have X4 := X.keeps F4.keep
      replace F4 := Fr.norm F4 [("place", .int (qs.getD k 0) tv)] (by intro q hq; obtain rfl := List.mem_singleton.mp hq; exact hmx2)
      clear F3 N3 hQe hQs
      (repeat' (first | k_data | ((fail_if_success (with_reducible show wpAny _ _ (exec (Stmt.For _ _ _ _ _) _) _ _ _)); (fail_if_success (with_reducible show wpAny _ _ (eval (Expr.ListComp _ _ _ _) _) _ _ _)); (fail_if_success (with_reducible show wpAny _ _ (exec (Stmt.Assign _ (Expr.ListComp _ _ _ _) _) _) _ _ _)); (fail_if_success (with_reducible show wpAny _ _ (compareOp _ (.ref _) (.ref _)) _ _ _)); walk1; try dsimp only) | (with_reducible refine ite_no ?_) | (with_reducible refine ite_yes ?_)))
      rename Tok => tz
      have z := hQe2 tz
      rw [getD_map_at (f := TX ts) hk, ← hg] at z
      exact z _
    · intro D2 C2 h4 tk4 ys4 mc2 hD2 hC2 hDC2 hnc2 st4 hpl2 hys2
      refine post_none hnc2 fun h5 k5 => ?_
      have k35 : ∀ b ob, h3.get? b = some ob → h5.get? b = some ob := fun b ob e => k5 _ _ (fun z => by (first | exact (ne_get e (hC2) (z)).elim | exact (ne_get (hC2) e (z)).elim | (rw [z, hC2] at e; cases e))) (st4 _ _ e)
      obtain ⟨oC, _, _, eC, _⟩ := id hnc
      obtain ⟨kD, eD⟩ := hpl
      obtain ⟨kD2, eD2⟩ := hpl2
      have eI := hst.1
      have old : ∀ b ob, h3.get? b = some ob → D2 ≠ b := fun b ob e z => by (first | exact (ne_get e (hD2) (z).symm).elim | exact (ne_get (hD2) e (z).symm).elim | (rw [← z, hD2] at e; cases e))
      refine hQe _ _ _ _ ⟨fun b ob _ _ e => k35 b ob e, (fun _ _ _ m => nomatch m), _, hnc.at' fun ob e => k35 _ _ e⟩ ⟨by rw [List.length_append, x1]; rfl, rfl, fun j v e => ?_⟩
      rcases Nat.lt_or_ge j i with hj | hj
      · rw [List.getElem?_append_left (by exact (Nat.lt_of_lt_of_le hj (Nat.le_of_eq (Eq.symm x1))))] at e
        obtain ⟨a, e1, e2, e3, e4, e5, vs, ⟨kk, e7⟩, e8⟩ := x3 j v e
        exact ⟨a, e1, e2, e3, e4, e5, vs, ⟨kk, k35 _ _ e7⟩, e8⟩
      · have hjl := (List.getElem?_eq_some_iff.mp e).1
        rw [List.length_append, x1, List.length_cons, List.length_nil] at hjl
        obtain rfl : j = i := by exact (Nat.le_antisymm (Nat.le_of_lt_succ hjl) hj)
        rw [List.getElem?_append_right (by exact (Nat.le_of_eq x1)), show j - ys.length = 0 by omega] at e
        obtain rfl : v = .ref D2 := (Option.some.inj e).symm
        obtain ⟨oI, eI, _⟩ := eI
        refine ⟨D2, rfl, old _ _ eD, old _ _ eC, old _ _ eI, ?_, ys4, ⟨kD2, k5 _ _ hDC2 eD2⟩, by dsimp only; rw [hj2]; exact hys2⟩
        exact get_gone (F3.keep _) hD2
  · rintro D C h3 g3 tk3 ys mc hD hC hDC hCs hnc hold hpl hlen ⟨x1, rfl, x3⟩
    obtain ⟨F3, N3, FL3⟩ := comp_frames F2 N2 off hC hCs hnc hold
    obtain ⟨oL, _, _, eL, _⟩ := id F2.ns
    have hLC : L ≠ C := fun z => by (first | exact (ne_get eL (hC) (z)).elim | exact (ne_get (hC) eL (z)).elim | (rw [z, hC] at eL; cases eL))
    have hLD : D ≠ L := fun z => by (first | exact (ne_get eL (hD) (z).symm).elim | exact (ne_get (hD) eL (z).symm).elim | (rw [← z, hD] at eL; cases eL))
    have hH : ∀ b, h2.get? b = none → H.get? b = none := fun b e => by
      exact get_gone (F2.keep _) e
    refine post_none hnc fun h5 k5 => ?_
    obtain ⟨kD, eD⟩ := hpl
    have F5 : Fr H L h5 _ := ⟨FL3.ns.at' fun ob e => k5 _ _ hLC e, fun b ob e => k5 _ _ (fun z => by have := hH _ hC; (first | exact (ne_get this (e) (z).symm).elim | exact (ne_get (e) this (z).symm).elim | (rw [← z, e] at this; cases this))) (FL3.keep _ _ e), FL3.above⟩
    have N5 : News H L h5 (LoNews rw r0 r1 r2 tr t0 t1 t2 ab tx L vs0 vs1 vs2 us0 us1 us2 va vt kr kr0 kr1 kr2 kt kt0 kt1 kt2 ka kx o1 o2 ps) := fun q hq => ⟨k5 _ _ (N3 q hq).2.1 (N3 q hq).1, (N1 q hq).2⟩
    have hys : ∀ j : Nat, j < 3 → ∃ a vs kk, ys[j]? = some (.ref a) ∧ h5.get? a = some (W.listOf (List.toArray vs) kk) ∧ StrsAre vs ((([p0, p1, p2] : List (List Int)).getD j []).map (TX ts)) := fun j hj => by
      obtain ⟨v, ev⟩ : ∃ v, ys[j]? = some v := ⟨_, List.getElem?_eq_getElem (by rw [x1]; exact hj)⟩
      obtain ⟨a, e1, e2, e3, e4, e5, vs, ⟨kk, e7⟩, e8⟩ := x3 j v ev
      exact ⟨a, vs, kk, e1 ▸ ev, k5 _ _ e3 e7, e8⟩
    obtain ⟨a0, w0, q0, y0, e0, m0⟩ := hys 0 (by decide)
    obtain ⟨a1, w1, q1, y1, e1, m1⟩ := hys 1 (by decide)
    obtain ⟨a2, w2, q2, y2, e2, m2⟩ := hys 2 (by decide)
    obtain rfl : ys = [.ref a0, .ref a1, .ref a2] := three_of x1 y0 y1 y2
    refine ne_lls (xs := [p0.map (TX ts), p1.map (TX ts), p2.map (TX ts)]) (ys := [p0.map (TX ts), p1.map (TX ts), p2.map (TX ts)]) (vs := [.ref r0, .ref r1, .ref r2]) (us := [.ref a0, .ref a1, .ref a2]) ⟨_, (N5 _ (.head _)).1, rfl, _, rfl⟩ ⟨_, k5 _ _ hDC eD, rfl, _, rfl⟩ (.cons (reads_strs (News.lst N5 (.tail _ (.tail _ (.head _)))) i0) (.cons (reads_strs (News.lst N5 (.tail _ (.tail _ (.tail _ (.head _))))) i1) (.cons (reads_strs (News.lst N5 (.tail _ (.tail _ (.tail _ (.tail _ (.head _)))))) i2) .nil))) (.cons (reads_strs ⟨_, e0, rfl, _, rfl⟩ m0) (.cons (reads_strs ⟨_, e1, rfl, _, rfl⟩ m1) (.cons (reads_strs ⟨_, e2, rfl, _, rfl⟩ m2) .nil))) hso hso ?u ?_
    case u => have := R.hu; rw [Around.deeper_units]; dsimp only at this ⊢; omega
    rw [decide_eq_true rfl]
    (repeat' (first | k_data | ((fail_if_success (with_reducible show wpAny _ _ (execs (List.cons (Stmt.For _ _ _ _ _) _) _) _ _ _)); walk1; try dsimp only) | (with_reducible refine ite_no ?_) | (with_reducible refine ite_yes ?_)))
    exact law_loop up ts p0 p1 p2 htl hal hnd hts S0 S1 S2 R F5 rfl rfl N5 hc1 hc2 i0 i1 i2 j0 j1 j2 ia ix hQ
end
end Mine

end
section
open PySem PySem.W PyProof.Rows PySem.Spec PySem.Calls
namespace Mine
/-- all stands but C's object and the objects fs -/
noncomputable def KeepY (fs : List Addr) (C : Addr) (h h' : Heap) : Prop := (∀ b o, b ≠ C → b ∉ fs → h.get? b = some o → h'.get? b = some o) ∧ ∃ m, h'.Ns C m
noncomputable def HeldY (fs : List Addr) (I : Addr) (h h' : Heap) : Prop := ∀ b o, b ≠ I → b ∉ fs → h.get? b = some o → h'.get? b = some o
section
variable {w : World} {A : Around} {env : Env} {h : Heap} {g : Array GenState} {d : Drawn} {tk : Nat} {o : OsState}
/-- one generator over an iterator that writes itself alone; a turn may change the objects fs -/
theorem comp_loopY {fs : List Addr} {elt iter : Expr} {ifs : List Expr} {x : Str} {px : Pos} {scope : Scope} {pos : Pos} {cl : List (Str × Addr)} {RR : Value → Addr → Result → Shared → Prop} {I : Addr} {fp : List Addr} {n : Nat} {P : Nat → Value → Prop} {St : Nat → Heap → Prop}
    (W : Walks (model PG w).prog w A I fp [I] n P St) (hfs : ∀ b ∈ fs, ∃ o, h.get? b = some o) (hfpfs : ∀ b ∈ fp, b ∉ fs) (hst : St 0 h) (hfp : ∀ b ∈ fp, b < h.objs.size) (hsz : n ≤ 1000)
    (hcell : (scope.names.all fun y => y.2 != .cell) = true) (hkind : scope.kind = .function) (hx : scope.names.lookup x = some .local)
    (Inv : Addr → Addr → Nat → List Value → Heap → Array GenState → Prop)
    (start : ∀ D C, Inv D C 0 [] h g ) (stab : ∀ D C i ys h₁ h₂ g₁, Inv D C i ys h₁ g₁ → (∀ b o, b ≠ D → b ≠ C → b ≠ I → h₁.get? b = some o → h₂.get? b = some o) → Inv D C i ys h₂ g₁)
    (turn : ∀ D C i v ys h₁ g₁ tk₁ mc (Qe : Value → Shared → Prop) (Qs : Shared → Prop), h.get? D = none → h.get? C = none → D ≠ C → i < n → P i v → Inv D C i ys h₁ g₁ → mc x = some v → h₁.Ns C mc → h.objs.size ≤ C → HeldY fs I h h₁ → St (i + 1) h₁ → h₁.PlainList D ys.toArray →
      (∀ y h₂ g₂ tk₂, KeepY fs C h₁ h₂ → Inv D C (i + 1) (ys ++ [y]) h₂ g₂ → Qe y ⟨h₂, g₂, d, tk₂, o⟩) → (∀ h₂ g₂ tk₂, KeepY fs C h₁ h₂ → Inv D C (i + 1) ys h₂ g₂ → Qs ⟨h₂, g₂, d, tk₂, o⟩) →
      wpAny (model PG w) A (forIn ifs true fun c r => if r = true then do let ok ← isTrue c (compEnvC scope cl C env) (eval c (compEnvC scope cl C env)); pure (ForInStep.yield ok) else pure (ForInStep.yield r))
        (fun ok s₃ => if ok = true then wpAny (model PG w) A (eval elt (compEnvC scope cl C env)) Qe No s₃ else Qs s₃) No ⟨h₁, g₁, d, tk₁, o⟩)
    (done : ∀ D C h₁ g₁ tk₁ ys mc, h.get? D = none → h.get? C = none → D ≠ C → h.objs.size ≤ C → h₁.Ns C mc → HeldY fs I h h₁ → h₁.PlainList D ys.toArray → ys.length ≤ n → Inv D C n ys h₁ g₁ → RR (.ref D) C (.ok .next) ⟨h₁, g₁, d, tk₁, o⟩) :
    CompRestR w A env elt ⟨.Name x px, iter, ifs, 0⟩ [] scope pos cl RR (.ref I) ⟨h, g, d, tk, o⟩ := by
  unfold CompRestR
  refine wpAny_newObj_type (wpAny_newFunctionEnv (fun y hy => by simpa using List.all_eq_true.mp hcell y hy) (by intro y hy; simp at hy) (fun h₁ hns₁ hsb₁ => ?_) hkind)
  dsimp only at hns₁ hsb₁ ⊢
  generalize hH2 : h.push { cls := .type "list", dict := none, data := .seq ([] : List Value).toArray } = H2 at hns₁ hsb₁ ⊢
  have hC : H2.objs.size = h.objs.size + 1 := by rw [← hH2, Heap.size_push]
  have hDC : h.objs.size ≠ H2.objs.size := by rw [hC]; exact Nat.ne_of_lt (Nat.lt_succ_self _)
  have hDf : h.objs.size ∉ fp := fun hm => Nat.lt_irrefl _ (hfp _ hm)
  have hCf : H2.objs.size ∉ fp := fun hm => by have := hfp _ hm; rw [hC] at this; exact Nat.lt_irrefl _ (Nat.lt_of_succ_lt this)
  have hIf : I ∈ fp := W.sub I (.head _)
  have fresh : ∀ a, h.objs.size ≤ a → h.get? a = none := fun a ha => by
    cases e : h.get? a with
    | none => rfl
    | some o' => exact absurd (Heap.lt_size e) (Nat.not_lt.mpr ha)
  have hD0 := fresh _ (Nat.le_refl _)
  have hC0 : h.get? H2.objs.size = none := fresh _ (by rw [hC]; exact Nat.le_succ _)
  have old : ∀ b o, h.get? b = some o → h₁.get? b = some o := fun b o e => by
    have hb := Heap.lt_size e
    exact hsb₁.extBut b o (by rw [hC]; exact Nat.ne_of_lt (Nat.lt_succ_of_lt hb)) (Heap.get?_push_of_some _ (hH2 ▸ Heap.get?_push_of_some _ e))
  have hacc : h₁.PlainList h.objs.size #[] := ⟨_, hsb₁.extBut _ _ hDC (Heap.get?_push_of_some _ (hH2 ▸ Heap.get?_push_size _ rfl))⟩
  have hst₁ : St 0 h₁ := W.frame _ _ _ hst fun b _ o e => old b o e
  have loop : ∀ s₃ : Shared, s₃ = ⟨h₁, g, d, tk + ([] : List (Str × Value)).length, o⟩ →
      codeAny (model PG w) A (.compLoop (.ListComp elt [⟨.Name x px, iter, ifs, 0⟩] scope pos) 0 (.ref I) (.ref h.objs.size) (compEnvC scope cl H2.objs.size env)) (RR (.ref h.objs.size) H2.objs.size) s₃ := by
    rintro s₃ rfl
    have hCge : h.objs.size ≤ H2.objs.size := by rw [hC]; exact Nat.le_succ _
    obtain ⟨D, hDe⟩ : ∃ D, D = h.objs.size := ⟨_, rfl⟩
    rw [← hDe] at hDC hDf hD0 hacc ⊢
    generalize H2.objs.size = C at hns₁ hDC hCf hC0 hCge ⊢
    refine codeAny_compLoop_tests (fun k s' => ∃ h' g' tk' m' ys i, s' = ⟨h', g', d, tk', o⟩ ∧ St i h' ∧ h'.PlainList D ys.toArray ∧ h'.Ns C m' ∧ Inv D C i ys h' g' ∧ ys.length ≤ i ∧ i ≤ n ∧ k = n - i ∧
      HeldY fs I h h') ?_ n ⟨h₁, g, _, _, [], 0, rfl, hst₁, hacc, hns₁, stab D C _ _ _ _ _ (start D C) (fun b o _ _ _ e => old b o e), Nat.le_refl _, Nat.zero_le _, rfl, fun b o _ _ e => old b o e⟩
    rintro k s' ⟨h', g', tk', m', ys, i, rfl, hst', hpl, hn', hI, hys, hin, rfl, hold⟩
    have hDI : D ≠ I := fun e => hDf (e ▸ hIf)
    have hCI : C ≠ I := fun e => hCf (e ▸ hIf)
    by_cases hlt : i < n
    · refine W.item i _ _ _ hlt hst' fun v h₂ tk₂ hPv hst₂ hk₂ => ?_
      refine wpAny_assign_Name (wpAny_storeName_local (lookup_relabel_local hx) (hn'.at' fun o e => hk₂ _ o (by simpa using hCI) e) (fun h₃ hn₃ hs₃ => ?_) (by simp [compEnvC, relabel, hkind]))
      have up : ∀ b o, b ≠ C → b ≠ I → h'.get? b = some o → h₃.get? b = some o := fun b o hbC hbI e => hs₃.extBut b o hbC (hk₂ b o (by simpa using hbI) e)
      have nC : ∀ b o, h.get? b = some o → b ≠ C := fun b o e q => by (first | exact (ne_get e (hC0) (q)).elim | exact (ne_get (hC0) e (q)).elim | (rw [q, hC0] at e; cases e))
      have nD : D ∉ fs := fun hm => by obtain ⟨o, e⟩ := hfs _ hm; (first | exact (ne_get e (hD0) rfl).elim | exact (ne_get (hD0) e rfl).elim | (rw [hD0] at e; cases e))
      have nC' : C ∉ fs := fun hm => by obtain ⟨o, e⟩ := hfs _ hm; (first | exact (ne_get e (hC0) rfl).elim | exact (ne_get (hC0) e rfl).elim | (rw [hC0] at e; cases e))
      have hold₃ : HeldY fs I h h₃ := fun b o hbI hbf e => up b o (nC b o e) hbI (hold b o hbI hbf e)
      have hold₄ : ∀ h₄, KeepY fs C h₃ h₄ → HeldY fs I h h₄ := fun h₄ kx => fun b o hbI hbf e => kx.1 _ _ (nC b o e) hbf (hold₃ b o hbI hbf e)
      have hpl₃ : h₃.PlainList D ys.toArray := hpl.at fun o e => up D o hDC hDI e
      have hst₃ : St (i + 1) h₃ := W.frame _ _ _ hst₂ fun b hb o e => hs₃.extBut b o (fun q => hCf ((show b = C from q) ▸ hb)) e
      refine wpAny_mono (turn D C i v ys h₃ g' _ _
        (fun y s₄ => ∃ h₄ g₄ tk₄, s₄ = ⟨h₄, g₄, d, tk₄, o⟩ ∧ KeepY fs C h₃ h₄ ∧ Inv D C (i + 1) (ys ++ [y]) h₄ g₄) (fun s₄ => ∃ h₄ g₄ tk₄, s₄ = ⟨h₄, g₄, d, tk₄, o⟩ ∧ KeepY fs C h₃ h₄ ∧ Inv D C (i + 1) ys h₄ g₄)
        hD0 hC0 hDC hlt hPv (stab _ _ _ _ _ _ _ hI fun b o _ hbC hbI e => up b o hbC hbI e) (by simp) hn₃ hCge hold₃ hst₃ hpl₃ (fun y h₄ g₄ tk₄ st hi => ⟨_, _, _, rfl, st, hi⟩) fun h₄ g₄ tk₄ st hi => ⟨_, _, _, rfl, st, hi⟩) (fun ok s₄ h4 => ?_) fun _ _ z => z.elim
      cases ok with
      | false =>
        simp only [Bool.false_eq_true, if_false] at h4 ⊢
        obtain ⟨h₄, g₄, tk₄, rfl, st, hi⟩ := h4
        exact ⟨n - (i + 1), by omega, h₄, g₄, tk₄, _, ys, i + 1, rfl, W.frame _ _ _ hst₃ fun b hb o e => st.1 b o (fun q => hCf (q ▸ hb)) (hfpfs b hb) e, hpl₃.at fun o e => st.1 _ o hDC nD e, st.2.choose_spec, hi, by omega, hlt, rfl, hold₄ _ st⟩
      | true =>
        simp only [if_true] at h4 ⊢
        refine wpAny_mono h4 (fun y s₅ h5 => ?_) fun _ _ z => z.elim
        obtain ⟨h₄, g₄, tk₄, rfl, st, hi⟩ := h5
        refine wpAny_list_append_plain (hpl₃.at fun o e => st.1 _ o hDC nD e) (fun h₅ hpl₅ hs₅ => ?_) (by rw [sizeLine_eq]; simp only [List.size_toArray]; omega)
        exact ⟨n - (i + 1), by omega, h₅, g₄, tk₄, _, ys ++ [y], i + 1, rfl, W.frame _ _ _ hst₃ fun b hb o e => hs₅.extBut b o (fun q => hDf (q ▸ hb)) (st.1 b o (fun q => hCf (q ▸ hb)) (hfpfs b hb) e), by simpa using hpl₅, st.2.choose_spec.at' fun o e => hs₅.extBut _ o hDC.symm e,
          stab _ _ _ _ _ _ _ hi fun b o hbD _ _ e => hs₅.extBut b o hbD e, by simp only [List.length_append, List.length_cons, List.length_nil]; omega, hlt, rfl, fun b o hb hbf e => hs₅.extBut b o (fun q => by (first | exact (ne_get e (hD0) (q)).elim | exact (ne_get (hD0) e (q)).elim | (rw [q, hD0] at e; cases e))) (hold₄ _ st b o hb hbf e)⟩
    · obtain rfl : i = n := by omega
      refine W.done _ _ _ hst' fun h₂ tk₂ hk₂ => ?_
      have up : ∀ b o, b ≠ I → h'.get? b = some o → h₂.get? b = some o := fun b o hbI e => hk₂ b o (by simpa using hbI) e
      exact done D C h₂ g' _ ys m' hD0 hC0 hDC hCge (hn'.at' fun o e => hk₂ _ o (by simpa using hCI) e) (fun b o hb hbf e => up b o hb (hold b o hb hbf e)) (hpl.at fun o e => up D o hDI e) hys (stab _ _ _ _ _ _ _ hI fun b o _ _ hbI e => up b o hbI e)
  exact codeAny_compStart_list (loop _ rfl) (W.self 0 _ _ _ hst₁ (loop _ rfl))
end
end Mine

end
section
open PySem PySem.W PyProof.Rows PySem.Spec PySem.Calls
namespace Mine
/-- the table of lambdas, its code off three objects -/
noncomputable def TabAt (D C I : Addr) (h : Heap) (ps : Array Value) : Prop :=
  ps = #[] ∨ ∃ c' oc vs t, ps = #[rawInt lamPos.line, rawInt lamPos.col, .ref c'] ∧ c' ≠ D ∧ c' ≠ C ∧ c' ≠ I ∧ c' ≠ 195 ∧ h.get? c' = some oc ∧ oc.data = .fields vs ∧ vs[1]? = some (.str lamQual t)
theorem TabAt.lam {D C I : Addr} {h : Heap} {ps : Array Value} (x : TabAt D C I h ps) : LamTab lamPos lamQual (hideAll h [195]) ps := by
  rcases x with rfl | ⟨c', oc, vs, t, rfl, _, _, _, e, g, r⟩
  · exact .inl rfl
  · exact .inr ⟨c', rfl, c', oc, vs, t, rfl, hideAll_get _ g (fun hm => e (List.mem_singleton.mp hm)), r⟩
theorem TabAt.of {D C I : Addr} {h : Heap} {ps : Array Value} {oD oC oI : Obj} (x : LamTab lamPos lamQual (hideAll h [195]) ps) (hD : h.get? D = some oD) (hC : h.get? C = some oC) (hI : h.get? I = some oI) (dD : ∀ vs, oD.data ≠ .fields vs) (dC : ∀ vs, oC.data ≠ .fields vs) (dI : ∀ vs t, oI.data = .fields vs → vs[1]? ≠ some (.str lamQual t)) : TabAt D C I h ps := by
  rcases x with rfl | ⟨c', rfl, c, oc, vs, t, e, g, r1, r2⟩
  · exact .inl rfl
  · cases e
    have g' := of_hideAll _ g
    refine .inr ⟨c', oc, vs, t, rfl, ?_, ?_, ?_, ?_, g', r1, r2⟩
    · rintro rfl; (first | exact (ne_get g' (hD) rfl).elim | exact (ne_get (hD) g' rfl).elim | (rw [hD] at g'; cases g')); exact dD _ r1
    · rintro rfl; (first | exact (ne_get g' (hC) rfl).elim | exact (ne_get (hC) g' rfl).elim | (rw [hC] at g'; cases g')); exact dC _ r1
    · rintro rfl; (first | exact (ne_get g' (hI) rfl).elim | exact (ne_get (hI) g' rfl).elim | (rw [hI] at g'; cases g')); exact dI _ _ r1 r2
    · rintro rfl; (first | exact (ne_get g (hideAll_none _ (.head _)) rfl).elim | exact (ne_get (hideAll_none _ (.head _)) g rfl).elim | (rw [hideAll_none _ (.head _)] at g; cases g))
/-- lists of numbers, and the table of lambdas -/
noncomputable def TrInv (H : Heap) (I : Addr) (f : Nat → List Int) (g : Array GenState) (D C : Addr) (i : Nat) (ys : List Value) (h : Heap) (g₁ : Array GenState) : Prop :=
  ys.length = i ∧ g₁ = g ∧ (∀ j v, ys[j]? = some v → ∃ a, v = .ref a ∧ a ≠ D ∧ a ≠ C ∧ a ≠ I ∧ a ≠ 195 ∧ H.get? a = none ∧ ∃ vs k, h.get? a = some (W.listOf (List.toArray vs) k) ∧ IntsAre vs (f j)) ∧
    (195 ≠ D → 195 ≠ C → 195 ≠ I → ∃ ps, h.get? 195 = some (tabObj ps) ∧ TabAt D C I h ps)
section
variable {w : World} {p : Program} {loose : List Str} {mean : ExcName → Option Value} {mg mb : Str → Option Value} {n : Nat}
noncomputable def LtNews (rw r0 r1 r2 dw a0 a1 a2 ab tx L : Addr) (vs0 vs1 vs2 us0 us1 us2 va vt : List Value) (kr kr0 kr1 kr2 kd ka0 ka1 ka2 ka kx : Nat) (o1 o2 : Obj) : List (Addr × Obj) :=
  [(rw, W.listOf (List.toArray [.ref r0, .ref r1, .ref r2]) kr), (dw, W.listOf (List.toArray [.ref a0, .ref a1, .ref a2]) kd), (r0, W.listOf (List.toArray vs0) kr0), (r1, W.listOf (List.toArray vs1) kr1), (r2, W.listOf (List.toArray vs2) kr2), (a0, W.listOf (List.toArray us0) ka0), (a1, W.listOf (List.toArray us1) ka1), (a2, W.listOf (List.toArray us2) ka2), (ab, W.listOf (List.toArray va) ka), (tx, W.listOf (List.toArray vt) kx), (L + 1 + 1 + 1, o1), (L + 1 + 1, o2)]
set_option maxHeartbeats 4000000 in
theorem law_trees (up : List Int) (ts : List Str) (e0 e1 e2 : List Int) {dp un : Nat} {gd : Option (List Code)} {out : List Env} {base H₀ H h : Heap} {L : Addr} {m : Str → Option Value} {g : Array GenState} {d : Drawn} {tk : Nat} {o : OsState} {Q : Flow → Shared → Prop}
    {rw r0 r1 r2 dw a0 a1 a2 ab tx : Addr} {vs0 vs1 vs2 us0 us1 us2 va vt : List Value} {kr kr0 kr1 kr2 kd ka0 ka1 ka2 ka kx : Nat} {o1 o2 : Obj}
    (hup : UpOk up) (hul : up.length ≤ 9) (htl : ts.length ≤ 1000) (hal : up.length = ts.length) (hnd : ts.Nodup) (hts : ∀ x ∈ ts, x.length ≤ 100) (le0 : e0.length ≤ 8) (le1 : e1.length ≤ 8) (le2 : e2.length ≤ 8)
    (in0 : ∀ q ∈ e0, 0 ≤ q ∧ q < up.length) (in1 : ∀ q ∈ e1, 0 ≤ q ∧ q < up.length) (in2 : ∀ q ∈ e2, 0 ≤ q ∧ q < up.length)
    (S0 : StepOk up ts (rowP up e2) (rowP up e0)) (S1 : StepOk up ts (rowP up e0) (rowP up e1)) (S2 : StepOk up ts (rowP up e1) (rowP up e2))
    (R : Room w p loose mean mg mb (n + 40) ⟨none, dp, some out, gd, un⟩ base out H₀ H) (F : Fr H L h m) (mr : m "rows" = some (.ref rw)) (md : m "drawn" = some (.ref dw))
    (N : News H L h ((195, tabObj #[]) :: LtNews rw r0 r1 r2 dw a0 a1 a2 ab tx L vs0 vs1 vs2 us0 us1 us2 va vt kr kr0 kr1 kr2 kd ka0 ka1 ka2 ka kx o1 o2)) (hc1 : o1.data = .cell (some (.ref tx))) (hc2 : o2.data = .cell (some (.ref ab)))
    (i0 : StrsAre vs0 ((rowP up e0).map (TX ts))) (i1 : StrsAre vs1 ((rowP up e1).map (TX ts))) (i2 : StrsAre vs2 ((rowP up e2).map (TX ts))) (j0 : IntsAre us0 e0) (j1 : IntsAre us1 e1) (j2 : IntsAre us2 e2) (ia : IntsAre va up) (ix : StrsAre vt ts)
    (hQ : ∀ h' tk' H' m' ps', Room w p loose mean mg mb (n + 40) ⟨none, dp, some out, gd, un⟩ base out H₀ H' → Fr H' L h' m' → h'.get? 195 = some (tabObj ps') → Q (.ret (.bool true)) ⟨h', g, d, tk', o⟩) :
    wpAny (model PG w) ((⟨none, dp, some out, gd, un⟩ : Around).deeper (lawEnv L)) (execs (lawDef.1.drop 4) (lawEnv L)) Q No ⟨h, g, d, tk, o⟩ := by
  have X := R.X
  have T := R.T
  unfold lawEnv
  conv =>
    arg 3
    arg 1
    whnf
  conv =>
    arg 3
    arg 2
    arg 2
    whnf
  conv =>
    arg 2
    arg 2
    arg 2
    whnf
  replace F := Fr.norm F [("rows", .ref rw), ("drawn", .ref dw)] (by refine all_cons ?_ (all_cons ?_ all_nil); exact mr; exact md)
  (repeat' (first | k_data | ((fail_if_success (with_reducible show wpAny _ _ (exec (Stmt.For _ _ _ _ _) _) _ _ _)); (fail_if_success (with_reducible show wpAny _ _ (eval (Expr.ListComp _ _ _ _) _) _ _ _)); (fail_if_success (with_reducible show wpAny _ _ (exec (Stmt.Assign _ (Expr.ListComp _ _ _ _) _) _) _ _ _)); (fail_if_success (with_reducible show wpAny _ _ (compareOp _ (.ref _) (.ref _)) _ _ _)); walk1; try dsimp only) | (with_reducible refine ite_no ?_) | (with_reducible refine ite_yes ?_)))
  refine comp_assignR (by with_unfolding_all rfl) (by exact rfl) rfl rfl ?_
  (repeat' (first | k_data | ((fail_if_success (with_reducible show wpAny _ _ (exec (Stmt.For _ _ _ _ _) _) _ _ _)); (fail_if_success (with_reducible show wpAny _ _ (eval (Expr.ListComp _ _ _ _) _) _ _ _)); (fail_if_success (with_reducible show wpAny _ _ (exec (Stmt.Assign _ (Expr.ListComp _ _ _ _) _) _) _ _ _)); (fail_if_success (with_reducible show wpAny _ _ (compareOp _ (.ref _) (.ref _)) _ _ _)); walk1; try dsimp only) | (with_reducible refine ite_no ?_) | (with_reducible refine ite_yes ?_)))
  rename Fr _ _ _ _ => F1
  rename News _ _ _ _ => N1
  have nR : ∀ q ∈ LtNews rw r0 r1 r2 dw a0 a1 a2 ab tx L vs0 vs1 vs2 us0 us1 us2 va vt kr kr0 kr1 kr2 kd ka0 ka1 ka2 ka kx o1 o2, q.1 ≠ 195 := fun q hq z => by
    have q1 := (N1 q (.tail _ hq)).1
    rw [z, (N1 _ (.head _)).1] at q1
    unfold LtNews at hq
    simp only [List.mem_cons, List.not_mem_nil, or_false] at hq
    have q2 := congrArg (fun o : Obj => o.data) (Option.some.inj q1)
    rcases hq with rfl | rfl | rfl | rfl | rfl | rfl | rfl | rfl | rfl | rfl | rfl | rfl
    all_goals first | cases q2 | (simp only [hc1] at q2; cases q2) | (simp only [hc2] at q2; cases q2)
  refine it_list F1 N1 (News.lst N1 (.tail _ (.tail _ (.head _)))) fun I h2 F2 N2 st2 fr2 hne hit hsz off => ?_
  have i5 : (195 : Addr) ≠ I := off.2.2 _ (.head _)
  have n5 : H.get? 195 = none := (N1 _ (.head _)).2.2
  have nL5 : (195 : Addr) ≠ L := (N1 _ (.head _)).2.1
  have h25 : h2.get? 195 = some (tabObj #[]) := (N2 _ (.head _)).1
  refine comp_loopY (fs := [195]) (Walks.list rfl I dw hne (List.toArray [.ref a0, .ref a1, .ref a2])) (fun b hb => ⟨_, (List.mem_singleton.mp hb) ▸ h25⟩) (fun b hb hm => ?fp) hit hsz (by show (3 : Nat) ≤ 1000; decide) rfl rfl rfl (TrInv H I (fun j : Nat => rowP up (([e0, e1, e2] : List (List Int)).getD j [])) g) (fun _ _ => ⟨rfl, rfl, (fun j v e => by simp at e), fun _ _ _ => ⟨_, h25, .inl rfl⟩⟩) (fun D C i ys ha hb ga ⟨x1, x2, x3, x4⟩ hk => ⟨x1, x2, fun j v e => by
    obtain ⟨a, e1, e2, e3, e4, e5, e6, vs, kk, e7, e8⟩ := x3 j v e
    exact ⟨a, e1, e2, e3, e4, e5, e6, vs, kk, hk _ _ e2 e3 e4 e7, e8⟩, fun z1 z2 z3 => by
    obtain ⟨ps, y1, y2⟩ := x4 z1 z2 z3
    refine ⟨ps, hk _ _ z1 z2 z3 y1, ?_⟩
    rcases y2 with y2 | ⟨c', oc, vs, t, y3, y4, y5, y6, y7, y8, y9⟩
    · exact .inl y2
    · exact .inr ⟨c', oc, vs, t, y3, y4, y5, y6, y7, hk _ _ y4 y5 y6 y8, y9⟩⟩) ?_ ?_
  case fp =>
    simp only [List.mem_cons, List.not_mem_nil, or_false] at hb
    rw [List.mem_singleton.mp hm] at hb
    rcases hb with hb | hb
    · exact i5 hb
    · exact nR (dw, _) (.tail _ (.head _)) hb.symm
  · rintro D C i v ys h3 g3 tk3 mc Qe Qs hD hC hDC hi hv ⟨x1, rfl, x3, x4⟩ hmx hnc hCs hold hst hpl hQe hQs
    have d5 : (195 : Addr) ≠ D := fun z => by (first | exact (ne_get hD (h25) (z).symm).elim | exact (ne_get (h25) hD (z).symm).elim | (rw [← z, h25] at hD; cases hD))
    have c5 : (195 : Addr) ≠ C := fun z => by (first | exact (ne_get hC (h25) (z).symm).elim | exact (ne_get (h25) hC (z).symm).elim | (rw [← z, h25] at hC; cases hC))
    obtain ⟨ps, hps, tab⟩ := x4 d5 c5 i5
    have kH : ∀ b ob, H.get? b = some ob → h3.get? b = some ob := fun b ob e => hold b ob (fun z => by (first | exact (ne_get e (off.1) (z)).elim | exact (ne_get (off.1) e (z)).elim | (rw [z, off.1] at e; cases e))) (fun hm => by (first | exact (ne_get e (n5) (List.mem_singleton.mp hm)).elim | exact (ne_get (n5) e (List.mem_singleton.mp hm)).elim | (rw [List.mem_singleton.mp hm, n5] at e; cases e))) (F2.keep _ _ e)
    have FL3 : Fr H L h3 _ := ⟨F2.ns.at' fun ob e => hold _ _ off.2.1 (fun hm => nL5 (List.mem_singleton.mp hm).symm) e, kH, F2.above⟩
    have F3 : Fr H C h3 mc := ⟨hnc, kH, Nat.le_trans (Nat.le_trans F2.above (Nat.le_of_lt F2.ns.lt)) hCs⟩
    have keepR : ∀ q ∈ LtNews rw r0 r1 r2 dw a0 a1 a2 ab tx L vs0 vs1 vs2 us0 us1 us2 va vt kr kr0 kr1 kr2 kd ka0 ka1 ka2 ka kx o1 o2, h3.get? q.1 = some q.2 := fun q hq => hold _ _ (off.2.2 q (.tail _ hq)) (fun hm => nR q hq (List.mem_singleton.mp hm)) (N2 q (.tail _ hq)).1
    have N3 : News H C h3 ((195, tabObj ps) :: LtNews rw r0 r1 r2 dw a0 a1 a2 ab tx L vs0 vs1 vs2 us0 us1 us2 va vt kr kr0 kr1 kr2 kd ka0 ka1 ka2 ka kx o1 o2) := fun q hq => by
      rcases List.mem_cons.mp hq with rfl | hq
      · exact ⟨hps, c5, n5⟩
      · exact ⟨keepR q hq, (fun z => by have := (N2 q (.tail _ hq)).1; (first | exact (ne_get this (hC) (z)).elim | exact (ne_get (hC) this (z)).elim | (rw [z, hC] at this; cases this))), (N2 q (.tail _ hq)).2.2⟩
    refine ifs_nil ?_
    refine ite_yes ?_
    have hv' : ([.ref a0, .ref a1, .ref a2] : List Value)[i]? = some v := by simpa using hv
    obtain ⟨tq, us, kq, qs, rfl, hq, hqi, hj2, hql, hin⟩ : ∃ tq us kq qs, v = .ref tq ∧ (tq, W.listOf (List.toArray us) kq) ∈ LtNews rw r0 r1 r2 dw a0 a1 a2 ab tx L vs0 vs1 vs2 us0 us1 us2 va vt kr kr0 kr1 kr2 kd ka0 ka1 ka2 ka kx o1 o2 ∧ IntsAre us qs ∧ ([e0, e1, e2] : List (List Int)).getD i [] = qs ∧ qs.length ≤ 8 ∧ (∀ q ∈ qs, 0 ≤ q ∧ q < up.length) := by
      have hi3 : i < 3 := hi
      obtain rfl | rfl | rfl : i = 0 ∨ i = 1 ∨ i = 2 := by omega
      · exact ⟨a0, us0, ka0, e0, (Option.some.inj hv').symm, by unfold LtNews; repeat (first | exact List.Mem.head _ | refine List.Mem.tail _ ?_), j0, rfl, le0, in0⟩
      · exact ⟨a1, us1, ka1, e1, (Option.some.inj hv').symm, by unfold LtNews; repeat (first | exact List.Mem.head _ | refine List.Mem.tail _ ?_), j1, rfl, le1, in1⟩
      · exact ⟨a2, us2, ka2, e2, (Option.some.inj hv').symm, by unfold LtNews; repeat (first | exact List.Mem.head _ | refine List.Mem.tail _ ?_), j2, rfl, le2, in2⟩
    have X3 := X.keeps F3.keep
    replace F3 := Fr.norm F3 [("entries", .ref tq)] (by intro q hq; obtain rfl := List.mem_singleton.mp hq; exact hmx)
    clear F1 N1
    (repeat' (first | k_data | ((fail_if_success (with_reducible show wpAny _ _ (exec (Stmt.For _ _ _ _ _) _) _ _ _)); (fail_if_success (with_reducible show wpAny _ _ (eval (Expr.ListComp _ _ _ _) _) _ _ _)); (fail_if_success (with_reducible show wpAny _ _ (exec (Stmt.Assign _ (Expr.ListComp _ _ _ _) _) _) _ _ _)); (fail_if_success (with_reducible show wpAny _ _ (compareOp _ (.ref _) (.ref _)) _ _ _)); walk1; try dsimp only) | (with_reducible refine ite_no ?_) | (with_reducible refine ite_yes ?_)))
    have F0 := Fr.hide FL3 (news := [(195, tabObj ps)]) (fun q hq => by obtain rfl := List.mem_singleton.mp hq; exact ⟨hps, nL5, n5⟩)
    have hidR : ∀ q ∈ LtNews rw r0 r1 r2 dw a0 a1 a2 ab tx L vs0 vs1 vs2 us0 us1 us2 va vt kr kr0 kr1 kr2 kd ka0 ka1 ka2 ka kx o1 o2, (hideAll h3 [195]).get? q.1 = some q.2 := fun q hq => hideAll_get _ (keepR q hq) fun hm => nR q hq (List.mem_singleton.mp hm)
    refine wpAny_call (tree_tells (n := n + 30) qs up tq ab hql hup hul hin (Around.frames_deeper R.B.stack) (R.std.push F0 rfl rfl) ⟨us, ⟨_, hidR _ hq, rfl, _, rfl⟩, hqi⟩ ⟨va, ka, hidR (ab, W.listOf (List.toArray va) ka) (by unfold LtNews; repeat (first | exact List.Mem.head _ | refine List.Mem.tail _ ?_)), ia⟩ hps tab.lam fun v h4 tk4 ps4 keep4 e195 lam4 hv4 => ?_)
    obtain ⟨r, us4, ss4, k4, rfl, hr0, hr4, his4, hp4, hs4⟩ := hv4
    have ess := tree_is hup (by exact (Nat.le_trans hul (by decide))) hin hp4 hs4
    obtain ⟨oC, es, ep, eC, dC, rest⟩ := id hnc
    obtain ⟨kD, eD⟩ := hpl
    obtain ⟨oI, eI, cI, dI⟩ := hst.1
    have old : ∀ b ob, h3.get? b = some ob → r ≠ b := fun b ob e z => by (first | exact (ne_get e (hr0) (z).symm).elim | exact (ne_get (hr0) e (z).symm).elim | (rw [← z, hr0] at e; cases e))
    refine hQe _ _ _ _ ⟨fun b ob hb hm e => keep4 _ _ (fun z => hm (List.mem_singleton.mpr z)) e, mc, hnc.at' fun ob e => keep4 _ _ c5.symm e⟩ ⟨by rw [List.length_append, x1]; rfl, rfl, fun j v e => ?_, fun _ _ _ => ⟨ps4, e195, TabAt.of lam4 (keep4 _ _ d5.symm eD) (keep4 _ _ c5.symm eC) (keep4 _ _ i5.symm eI) (fun _ z => nomatch z) (fun _ z => by (first | exact (ne_get z (dC) rfl).elim | exact (ne_get (dC) z rfl).elim | (rw [dC] at z; cases z))) (fun vs t z zz => by (first | exact (ne_get z (dI) rfl).elim | exact (ne_get (dI) z rfl).elim | (rw [dI] at z; cases z)); simp at zz)⟩⟩
    rcases Nat.lt_or_ge j i with hj | hj
    · rw [List.getElem?_append_left (by exact (Nat.lt_of_lt_of_le hj (Nat.le_of_eq (Eq.symm x1))))] at e
      obtain ⟨a, e1, e2, e3, e4, e5, e6, vs, kk, e7, e8⟩ := x3 j v e
      exact ⟨a, e1, e2, e3, e4, e5, e6, vs, kk, keep4 _ _ e5 e7, e8⟩
    · have hjl := (List.getElem?_eq_some_iff.mp e).1
      rw [List.length_append, x1, List.length_cons, List.length_nil] at hjl
      obtain rfl : j = i := by exact (Nat.le_antisymm (Nat.le_of_lt_succ hjl) hj)
      rw [List.getElem?_append_right (by exact (Nat.le_of_eq x1)), show j - ys.length = 0 by omega] at e
      obtain rfl : v = .ref r := (Option.some.inj e).symm
      refine ⟨r, rfl, old _ _ eD, old _ _ eC, old _ _ eI, old _ _ hps, ?_, us4, k4, hr4, by dsimp only; rw [hj2, ← ess]; exact his4⟩
      exact get_gone (kH _) hr0
  · rintro D C h3 g3 tk3 ys mc hD hC hDC hCs hnc hold hpl hlen ⟨x1, rfl, x3, x4⟩
    have d5 : (195 : Addr) ≠ D := fun z => by (first | exact (ne_get hD (h25) (z).symm).elim | exact (ne_get (h25) hD (z).symm).elim | (rw [← z, h25] at hD; cases hD))
    have c5 : (195 : Addr) ≠ C := fun z => by (first | exact (ne_get hC (h25) (z).symm).elim | exact (ne_get (h25) hC (z).symm).elim | (rw [← z, h25] at hC; cases hC))
    obtain ⟨ps, hps, tab⟩ := x4 d5 c5 i5
    clear x4 tab
    have kH : ∀ b ob, H.get? b = some ob → h3.get? b = some ob := fun b ob e => hold b ob (fun z => by (first | exact (ne_get e (off.1) (z)).elim | exact (ne_get (off.1) e (z)).elim | (rw [z, off.1] at e; cases e))) (fun hm => by (first | exact (ne_get e (n5) (List.mem_singleton.mp hm)).elim | exact (ne_get (n5) e (List.mem_singleton.mp hm)).elim | (rw [List.mem_singleton.mp hm, n5] at e; cases e))) (F2.keep _ _ e)
    have FL3 : Fr H L h3 _ := ⟨F2.ns.at' fun ob e => hold _ _ off.2.1 (fun hm => nL5 (List.mem_singleton.mp hm).symm) e, kH, F2.above⟩
    have keepR : ∀ q ∈ LtNews rw r0 r1 r2 dw a0 a1 a2 ab tx L vs0 vs1 vs2 us0 us1 us2 va vt kr kr0 kr1 kr2 kd ka0 ka1 ka2 ka kx o1 o2, h3.get? q.1 = some q.2 := fun q hq => hold _ _ (off.2.2 q (.tail _ hq)) (fun hm => nR q hq (List.mem_singleton.mp hm)) (N2 q (.tail _ hq)).1
    obtain ⟨oL, _, _, eL, _⟩ := id F2.ns
    have hLC : L ≠ C := fun z => by (first | exact (ne_get eL (hC) (z)).elim | exact (ne_get (hC) eL (z)).elim | (rw [z, hC] at eL; cases eL))
    have hLD : D ≠ L := fun z => by (first | exact (ne_get eL (hD) (z).symm).elim | exact (ne_get (hD) eL (z).symm).elim | (rw [← z, hD] at eL; cases eL))
    refine post_assign hnc FL3.ns hLC rfl rfl fun h16 tk16 hn16 k16 => ?_
    have hH : ∀ b, h2.get? b = none → H.get? b = none := fun b e => by
      exact get_gone (F2.keep _) e
    have up' : ∀ b ob, h3.get? b = some ob → b ≠ C → b ≠ L → h16.get? b = some ob := fun b ob e b1 b2 => k16 b ob b1 b2 e
    have F16 : Fr H L h16 _ := ⟨hn16, fun b ob e => up' b ob (kH _ _ e) (fun z => by have := hH _ hC; (first | exact (ne_get this (e) (z).symm).elim | exact (ne_get (e) this (z).symm).elim | (rw [← z, e] at this; cases this))) (fun z => absurd (Nat.lt_of_lt_of_le (Heap.lt_size e) FL3.above) (z ▸ Nat.lt_irrefl _)), FL3.above⟩
    obtain ⟨kD, eD⟩ := hpl
    have hDrawn : ∀ j : Nat, j < 3 → ∃ a vs kk, ys[j]? = some (.ref a) ∧ a ≠ L ∧ H.get? a = none ∧ h16.get? a = some (W.listOf (List.toArray vs) kk) ∧ IntsAre vs (rowP up (([e0, e1, e2] : List (List Int)).getD j [])) := fun j hj => by
      obtain ⟨v, ev⟩ : ∃ v, ys[j]? = some v := ⟨_, List.getElem?_eq_getElem (by rw [x1]; exact hj)⟩
      obtain ⟨a, e1, e2, e3, e4, e5, e6, vs, kk, e7, e8⟩ := x3 j v ev
      have aL : a ≠ L := fun z => by
        obtain ⟨oL3, _, _, eL3, dL3, _⟩ := FL3.ns
        rw [← z, e7] at eL3
        cases eL3
        cases dL3
      exact ⟨a, vs, kk, e1 ▸ ev, aL, e6, up' _ _ e7 e3 aL, e8⟩
    obtain ⟨t0, w0, q0, y0, n0, f0, g0, m0⟩ := hDrawn 0 (by decide)
    obtain ⟨t1, w1, q1, y1, n1, f1, g1, m1⟩ := hDrawn 1 (by decide)
    obtain ⟨t2, w2, q2, y2, n2, f2, g2, m2⟩ := hDrawn 2 (by decide)
    obtain rfl : ys = [.ref t0, .ref t1, .ref t2] := three_of x1 y0 y1 y2
    have NR : ∀ q ∈ LtNews rw r0 r1 r2 dw a0 a1 a2 ab tx L vs0 vs1 vs2 us0 us1 us2 va vt kr kr0 kr1 kr2 kd ka0 ka1 ka2 ka kx o1 o2, h16.get? q.1 = some q.2 ∧ q.1 ≠ L ∧ H.get? q.1 = none := fun q hq => ⟨up' _ _ (keepR q hq) (fun z => by have := (N2 q (.tail _ hq)).1; (first | exact (ne_get this (hC) (z)).elim | exact (ne_get (hC) this (z)).elim | (rw [z, hC] at this; cases this))) (N2 q (.tail _ hq)).2.1, (N2 q (.tail _ hq)).2⟩
    have N16 : News H L h16 (LoNews rw r0 r1 r2 D t0 t1 t2 ab tx L vs0 vs1 vs2 w0 w1 w2 va vt kr kr0 kr1 kr2 kD q0 q1 q2 ka kx o1 o2 ps) := fun q hq => by
      unfold LoNews at hq
      revert q hq; refine all_cons ?_ (all_cons ?_ (all_cons ?_ (all_cons ?_ (all_cons ?_ (all_cons ?_ (all_cons ?_ (all_cons ?_ (all_cons ?_ (all_cons ?_ (all_cons ?_ (all_cons ?_ (all_cons ?_ all_nil))))))))))))
      · exact NR _ (by unfold LtNews; repeat (first | exact List.Mem.head _ | refine List.Mem.tail _ ?_))
      · exact ⟨up' _ _ eD hDC hLD, hLD, hH _ hD⟩
      · exact NR _ (by unfold LtNews; repeat (first | exact List.Mem.head _ | refine List.Mem.tail _ ?_))
      · exact NR _ (by unfold LtNews; repeat (first | exact List.Mem.head _ | refine List.Mem.tail _ ?_))
      · exact NR _ (by unfold LtNews; repeat (first | exact List.Mem.head _ | refine List.Mem.tail _ ?_))
      · exact ⟨g0, n0, f0⟩
      · exact ⟨g1, n1, f1⟩
      · exact ⟨g2, n2, f2⟩
      · exact NR _ (by unfold LtNews; repeat (first | exact List.Mem.head _ | refine List.Mem.tail _ ?_))
      · exact NR _ (by unfold LtNews; repeat (first | exact List.Mem.head _ | refine List.Mem.tail _ ?_))
      · exact NR _ (by unfold LtNews; repeat (first | exact List.Mem.head _ | refine List.Mem.tail _ ?_))
      · exact NR _ (by unfold LtNews; repeat (first | exact List.Mem.head _ | refine List.Mem.tail _ ?_))
      · exact ⟨up' _ _ hps c5 nL5, nL5, n5⟩
    exact law_same up ts (rowP up e0) (rowP up e1) (rowP up e2) htl hal hnd hts S0 S1 S2 R F16 ((if_neg (by decide)).trans rfl) (if_pos rfl) N16 hc1 hc2 i0 i1 i2 m0 m1 m2 ia ix fun h' tk' H' m' R' F' e' => hQ h' tk' H' m' ps R' F' e'
end
end Mine

end
section
open PySem PySem.W PyProof.Rows PySem.Spec PySem.Calls
namespace Mine
section
variable {w : World} {p : Program} {loose : List Str} {mean : ExcName → Option Value} {mg mb : Str → Option Value} {n : Nat}
noncomputable def LrNews (dw a0 a1 a2 ab tx L : Addr) (us0 us1 us2 va vt : List Value) (kd ka0 ka1 ka2 ka kx : Nat) (o1 o2 : Obj) : List (Addr × Obj) :=
  [(dw, W.listOf (List.toArray [.ref a0, .ref a1, .ref a2]) kd), (a0, W.listOf (List.toArray us0) ka0), (a1, W.listOf (List.toArray us1) ka1), (a2, W.listOf (List.toArray us2) ka2), (ab, W.listOf (List.toArray va) ka), (tx, W.listOf (List.toArray vt) kx), (L + 1 + 1 + 1, o1), (L + 1 + 1, o2), (195, tabObj #[])]
set_option maxHeartbeats 4000000 in
theorem law_rows (up : List Int) (ts : List Str) (e0 e1 e2 : List Int) {dp un : Nat} {gd : Option (List Code)} {out : List Env} {base H₀ H h : Heap} {L : Addr} {m : Str → Option Value} {g : Array GenState} {d : Drawn} {tk : Nat} {o : OsState} {Q : Flow → Shared → Prop}
    {dw a0 a1 a2 ab tx : Addr} {us0 us1 us2 va vt : List Value} {kd ka0 ka1 ka2 ka kx : Nat} {o1 o2 : Obj}
    (P : PlOk up ts) (hul : up.length ≤ 9) (hnd : ts.Nodup) (le0 : e0.length ≤ 8) (le1 : e1.length ≤ 8) (le2 : e2.length ≤ 8)
    (in0 : ∀ q ∈ e0, 0 ≤ q ∧ q < up.length) (in1 : ∀ q ∈ e1, 0 ≤ q ∧ q < up.length) (in2 : ∀ q ∈ e2, 0 ≤ q ∧ q < up.length)
    (S0 : StepOk up ts (rowP up e2) (rowP up e0)) (S1 : StepOk up ts (rowP up e0) (rowP up e1)) (S2 : StepOk up ts (rowP up e1) (rowP up e2))
    (R : Room w p loose mean mg mb (n + 40) ⟨none, dp, some out, gd, un⟩ base out H₀ H) (F : Fr H L h m) (md : m "drawn" = some (.ref dw))
    (N : News H L h (LrNews dw a0 a1 a2 ab tx L us0 us1 us2 va vt kd ka0 ka1 ka2 ka kx o1 o2)) (hc1 : o1.data = .cell (some (.ref tx))) (hc2 : o2.data = .cell (some (.ref ab)))
    (j0 : IntsAre us0 e0) (j1 : IntsAre us1 e1) (j2 : IntsAre us2 e2) (ia : IntsAre va up) (ix : StrsAre vt ts)
    (hQ : ∀ h' g' tk' H' m' ps', Room w p loose mean mg mb (n + 40) ⟨none, dp, some out, gd, un⟩ base out H₀ H' → Fr H' L h' m' → h'.get? 195 = some (tabObj ps') → (AllBare g → AllBare g') → Q (.ret (.bool true)) ⟨h', g', d, tk', o⟩) :
    wpAny (model PG w) ((⟨none, dp, some out, gd, un⟩ : Around).deeper (lawEnv L)) (execs (lawDef.1.drop 3) (lawEnv L)) Q No ⟨h, g, d, tk, o⟩ := by
  have X := R.X
  have T := R.T
  unfold lawEnv
  conv =>
    arg 3
    arg 1
    whnf
  conv =>
    arg 3
    arg 2
    arg 2
    whnf
  conv =>
    arg 2
    arg 2
    arg 2
    whnf
  replace F := Fr.norm F [("drawn", .ref dw)] (by intro x hx; obtain rfl := List.mem_singleton.mp hx; exact md)
  (repeat' (first | k_data | ((fail_if_success (with_reducible show wpAny _ _ (exec (Stmt.For _ _ _ _ _) _) _ _ _)); (fail_if_success (with_reducible show wpAny _ _ (eval (Expr.ListComp _ _ _ _) _) _ _ _)); (fail_if_success (with_reducible show wpAny _ _ (exec (Stmt.Assign _ (Expr.ListComp _ _ _ _) _) _) _ _ _)); (fail_if_success (with_reducible show wpAny _ _ (compareOp _ (.ref _) (.ref _)) _ _ _)); walk1; try dsimp only) | (with_reducible refine ite_no ?_) | (with_reducible refine ite_yes ?_)))
  refine comp_assignR (by with_unfolding_all rfl) (by exact rfl) rfl rfl ?_
  (repeat' (first | k_data | ((fail_if_success (with_reducible show wpAny _ _ (exec (Stmt.For _ _ _ _ _) _) _ _ _)); (fail_if_success (with_reducible show wpAny _ _ (eval (Expr.ListComp _ _ _ _) _) _ _ _)); (fail_if_success (with_reducible show wpAny _ _ (exec (Stmt.Assign _ (Expr.ListComp _ _ _ _) _) _) _ _ _)); (fail_if_success (with_reducible show wpAny _ _ (compareOp _ (.ref _) (.ref _)) _ _ _)); walk1; try dsimp only) | (with_reducible refine ite_no ?_) | (with_reducible refine ite_yes ?_)))
  rename Fr _ _ _ _ => F1
  rename News _ _ _ _ => N1
  refine it_list F1 N1 (News.lst N1 (.head _)) fun I h2 F2 N2 st2 fr2 hne hit hsz off => ?_
  have hfsx : ∀ b ∈ L :: out.filterMap (·.frame), ∃ ob, h2.get? b = some ob := fun b hb => by
    rcases List.mem_cons.mp hb with rfl | hb
    · obtain ⟨oL, _, _, hL, _⟩ := F2.ns; exact ⟨oL, hL⟩
    · obtain ⟨ob, _, _, e1, _⟩ := R.D b hb; exact ⟨ob, F2.keep _ _ e1⟩
  have nfs : ∀ b ob, H.get? b = none → b ≠ L → h2.get? b = some ob → b ∉ L :: out.filterMap (·.frame) := fun b ob e1 e2 _ hm => by
    rcases List.mem_cons.mp hm with q | hm
    · exact e2 q
    · obtain ⟨o2, _, _, e3, _⟩ := R.D b hm; (first | exact (ne_get e3 (e1) rfl).elim | exact (ne_get (e1) e3 rfl).elim | (rw [e1] at e3; cases e3))
  refine comp_loopX (fs := L :: out.filterMap (·.frame)) (Walks.list rfl I dw hne (List.toArray [.ref a0, .ref a1, .ref a2])) hfsx (fun b hb hm => ?fp) hit hsz (by show (3 : Nat) ≤ 1000; decide) rfl rfl rfl (WayInv (L :: out.filterMap (·.frame)) H I (fun j : Nat => (rowP up (([e0, e1, e2] : List (List Int)).getD j [])).map (TX ts)) g) (fun _ _ => ⟨rfl, id, fun j v e => by simp at e⟩) (fun D C i ys ha hb ga ⟨x1, x2, x3⟩ hk => ⟨x1, x2, fun j v e => by
    obtain ⟨a, e1, e2, e3, e4, e5, e6, vs, ⟨kk, e7⟩, e8⟩ := x3 j v e
    exact ⟨a, e1, e2, e3, e4, e5, e6, vs, ⟨kk, hk _ _ e2 e3 e4 e7⟩, e8⟩⟩) ?_ ?_
  case fp =>
    revert b hb; refine all_cons ?_ (all_cons ?_ all_nil)
    · intro hm; obtain ⟨ob, e1, _⟩ := hit.1
      exact nfs _ ob off.1 (Ne.symm off.2.1) e1 hm
    · intro hm; exact nfs _ _ (N2 _ (.head _)).2.2 (N2 _ (.head _)).2.1 (N2 _ (.head _)).1 hm
  · rintro D C i v ys h3 g3 tk3 mc Qe Qs hD hC hDC hi hv ⟨x1, x2, x3⟩ hmx hnc hCs hold hst hpl hQe hQs
    obtain ⟨H7, R7, T7, F7, N7, Fc, Nc⟩ := comp_room R F2 N2 off hC hCs hnc hold
    refine ifs_nil ?_
    refine ite_yes ?_
    have hv' : ([.ref a0, .ref a1, .ref a2] : List Value)[i]? = some v := by simpa using hv
    obtain ⟨tq, us, kq, qs, rfl, hq, hqi, hj2, hql, hin⟩ : ∃ tq us kq qs, v = .ref tq ∧ (tq, W.listOf (List.toArray us) kq) ∈ LrNews dw a0 a1 a2 ab tx L us0 us1 us2 va vt kd ka0 ka1 ka2 ka kx o1 o2 ∧ IntsAre us qs ∧ ([e0, e1, e2] : List (List Int)).getD i [] = qs ∧ qs.length ≤ 8 ∧ (∀ q ∈ qs, 0 ≤ q ∧ q < up.length) := by
      have hi3 : i < 3 := hi
      obtain rfl | rfl | rfl : i = 0 ∨ i = 1 ∨ i = 2 := by omega
      · exact ⟨a0, us0, ka0, e0, (Option.some.inj hv').symm, by unfold LrNews; repeat (first | exact List.Mem.head _ | refine List.Mem.tail _ ?_), j0, rfl, le0, in0⟩
      · exact ⟨a1, us1, ka1, e1, (Option.some.inj hv').symm, by unfold LrNews; repeat (first | exact List.Mem.head _ | refine List.Mem.tail _ ?_), j1, rfl, le1, in1⟩
      · exact ⟨a2, us2, ka2, e2, (Option.some.inj hv').symm, by unfold LrNews; repeat (first | exact List.Mem.head _ | refine List.Mem.tail _ ?_), j2, rfl, le2, in2⟩
    have plen := P.len
    have XH := X
    clear X T
    have X := R7.X
    have T := R7.T
    have X3 := X.keeps Fc.keep
    replace Fc := Fr.norm Fc [("entries", .ref tq)] (by intro q hq; obtain rfl := List.mem_singleton.mp hq; exact hmx)
    clear F1 N1
    (repeat' (first | k_data | ((fail_if_success (with_reducible show wpAny _ _ (exec (Stmt.For _ _ _ _ _) _) _ _ _)); (fail_if_success (with_reducible show wpAny _ _ (eval (Expr.ListComp _ _ _ _) _) _ _ _)); (fail_if_success (with_reducible show wpAny _ _ (exec (Stmt.Assign _ (Expr.ListComp _ _ _ _) _) _) _ _ _)); (fail_if_success (with_reducible show wpAny _ _ (compareOp _ (.ref _) (.ref _)) _ _ _)); walk1; try dsimp only) | (with_reducible refine ite_no ?_) | (with_reducible refine ite_yes ?_)))
    refine TellsX.at (row_tells (n := n + 10) qs ts tq tx hql (by omega) P.short (fun q hq => by rw [plen]; exact hin q hq) (ancOf qs up ts) (fun k hk => anc_name P (by exact (Nat.le_trans hul (by decide))) hin hk)) R7 F7 N7 ⟨⟨us, News.lst N7 hq, hqi⟩, ⟨vt, News.lst N7 (.tail _ (.tail _ (.tail _ (.tail _ (.tail _ (.head _)))))), ix⟩⟩ fun v h4 tk4 g4 H8 R8 T8 F8 N8 K8 hg8 hv8 => ?_
    obtain ⟨r, vs, rfl, hr0, hr4, hvs⟩ := hv8
    rw [row_is P hnd hin] at hvs
    have nC : C ∉ L :: out.filterMap (·.frame) := fun hm => by obtain ⟨ob, e⟩ := hfsx _ hm; (first | exact (ne_get e (hC) rfl).elim | exact (ne_get (hC) e rfl).elim | (rw [hC] at e; cases e))
    have nD : D ∉ L :: out.filterMap (·.frame) := fun hm => by obtain ⟨ob, e⟩ := hfsx _ hm; (first | exact (ne_get e (hD) rfl).elim | exact (ne_get (hD) e rfl).elim | (rw [hD] at e; cases e))
    obtain ⟨oC, _, _, eC, _⟩ := id hnc
    obtain ⟨kD, eD⟩ := hpl
    obtain ⟨oI, eI, _⟩ := hst.1
    have old : ∀ b ob, h3.get? b = some ob → r ≠ b := fun b ob e z => by (first | exact (ne_get e (hr0) (z).symm).elim | exact (ne_get (hr0) e (z).symm).elim | (rw [← z, hr0] at e; cases e))
    have rfs : r ∉ L :: out.filterMap (·.frame) := fun hm => by
      obtain ⟨ob, e⟩ := hfsx _ hm
      obtain ⟨sl, e'⟩ := hold.2 _ _ hm e
      (first | exact (ne_get e' (hr0) rfl).elim | exact (ne_get (hr0) e' rfl).elim | (rw [hr0] at e'; cases e'))
    refine hQe _ _ _ _ ⟨fun b ob _ hbf e => K8.1 b ob e hbf, fun b ob _ hb e => K8.2 b ob e hb, mc, hnc.at' fun ob e => K8.1 _ _ e nC⟩ ⟨by rw [List.length_append, x1]; rfl, fun z => hg8 (x2 z), fun j v e => ?_⟩
    rcases Nat.lt_or_ge j i with hj | hj
    · rw [List.getElem?_append_left (by exact (Nat.lt_of_lt_of_le hj (Nat.le_of_eq (Eq.symm x1))))] at e
      obtain ⟨a, e1, e2, e3, e4, e5, e6, vs, ⟨kk, e7⟩, e8⟩ := x3 j v e
      exact ⟨a, e1, e2, e3, e4, e5, e6, vs, ⟨kk, K8.1 _ _ e7 e5⟩, e8⟩
    · have hjl := (List.getElem?_eq_some_iff.mp e).1
      rw [List.length_append, x1, List.length_cons, List.length_nil] at hjl
      obtain rfl : j = i := by exact (Nat.le_antisymm (Nat.le_of_lt_succ hjl) hj)
      rw [List.getElem?_append_right (by exact (Nat.le_of_eq x1)), show j - ys.length = 0 by omega] at e
      obtain rfl : v = .ref r := (Option.some.inj e).symm
      refine ⟨r, rfl, old _ _ eD, old _ _ eC, old _ _ eI, rfs, ?_, vs, ⟨0, hr4⟩, by dsimp only; rw [hj2]; exact hvs⟩
      cases z : H.get? r with
      | none => rfl
      | some ob =>
        obtain ⟨sl, e⟩ := T7.up z
        (first | exact (ne_get hr0 (F7.keep _ _ e) rfl).elim | exact (ne_get (F7.keep _ _ e) hr0 rfl).elim | (rw [F7.keep _ _ e] at hr0; cases hr0))
  · rintro D C h3 g3 tk3 ys mc hD hC hDC hCs hnc hold hpl hlen ⟨x1, x2, x3⟩
    obtain ⟨H7, R7, T7, F7, N7, Fc, Nc⟩ := comp_room R F2 N2 off hC hCs hnc hold
    obtain ⟨oL, _, _, eL, _⟩ := id F2.ns
    have hLC : L ≠ C := fun z => by (first | exact (ne_get eL (hC) (z)).elim | exact (ne_get (hC) eL (z)).elim | (rw [z, hC] at eL; cases eL))
    have hLD : D ≠ L := fun z => by (first | exact (ne_get eL (hD) (z).symm).elim | exact (ne_get (hD) eL (z).symm).elim | (rw [← z, hD] at eL; cases eL))
    refine post_assign hnc F7.ns hLC rfl rfl fun h16 tk16 hn16 k16 => ?_
    have hH : ∀ b, h2.get? b = none → H7.get? b = none := fun b e => T7.none_ _ (by
      exact get_gone (F2.keep _) e)
    have up' : ∀ b ob, h3.get? b = some ob → b ≠ C → b ≠ L → h16.get? b = some ob := fun b ob e b1 b2 => k16 b ob b1 b2 e
    have F16 : Fr H7 L h16 _ := ⟨hn16, fun b ob e => up' b ob (F7.keep _ _ e) (fun z => by have := hH _ hC; (first | exact (ne_get this (e) (z).symm).elim | exact (ne_get (e) this (z).symm).elim | (rw [← z, e] at this; cases this))) (fun z => absurd (Nat.lt_of_lt_of_le (Heap.lt_size e) F7.above) (z ▸ Nat.lt_irrefl _)), F7.above⟩
    obtain ⟨kD, eD⟩ := hpl
    have hDrawn : ∀ j : Nat, j < 3 → ∃ a vs kk, ys[j]? = some (.ref a) ∧ a ≠ L ∧ H7.get? a = none ∧ h16.get? a = some (W.listOf (List.toArray vs) kk) ∧ StrsAre vs ((rowP up (([e0, e1, e2] : List (List Int)).getD j [])).map (TX ts)) := fun j hj => by
      obtain ⟨v, ev⟩ : ∃ v, ys[j]? = some v := ⟨_, List.getElem?_eq_getElem (by rw [x1]; exact hj)⟩
      obtain ⟨a, e1, e2, e3, e4, e5, e6, vs, ⟨kk, e7⟩, e8⟩ := x3 j v ev
      have aL : a ≠ L := fun z => e5 (z ▸ .head _)
      exact ⟨a, vs, kk, e1 ▸ ev, aL, T7.none_ _ e6, up' _ _ e7 e3 aL, e8⟩
    obtain ⟨t0, w0, q0, y0, n0, f0, g0, m0⟩ := hDrawn 0 (by decide)
    obtain ⟨t1, w1, q1, y1, n1, f1, g1, m1⟩ := hDrawn 1 (by decide)
    obtain ⟨t2, w2, q2, y2, n2, f2, g2, m2⟩ := hDrawn 2 (by decide)
    obtain rfl : ys = [.ref t0, .ref t1, .ref t2] := three_of x1 y0 y1 y2
    have NR : ∀ q ∈ LrNews dw a0 a1 a2 ab tx L us0 us1 us2 va vt kd ka0 ka1 ka2 ka kx o1 o2, h16.get? q.1 = some q.2 ∧ q.1 ≠ L ∧ H7.get? q.1 = none := fun q hq => ⟨up' _ _ (N7 q hq).1 (fun z => by have := (N2 q hq).1; (first | exact (ne_get this (hC) (z)).elim | exact (ne_get (hC) this (z)).elim | (rw [z, hC] at this; cases this))) (N2 q hq).2.1, (N7 q hq).2⟩
    have N16 : News H7 L h16 ((195, tabObj #[]) :: LtNews D t0 t1 t2 dw a0 a1 a2 ab tx L w0 w1 w2 us0 us1 us2 va vt kD q0 q1 q2 kd ka0 ka1 ka2 ka kx o1 o2) := fun q hq => by
      unfold LtNews at hq
      revert q hq; refine all_cons ?_ (all_cons ?_ (all_cons ?_ (all_cons ?_ (all_cons ?_ (all_cons ?_ (all_cons ?_ (all_cons ?_ (all_cons ?_ (all_cons ?_ (all_cons ?_ (all_cons ?_ (all_cons ?_ all_nil))))))))))))
      · exact NR _ (by unfold LrNews; repeat (first | exact List.Mem.head _ | refine List.Mem.tail _ ?_))
      · exact ⟨up' _ _ eD hDC hLD, hLD, hH _ hD⟩
      · exact NR _ (by unfold LrNews; repeat (first | exact List.Mem.head _ | refine List.Mem.tail _ ?_))
      · exact ⟨g0, n0, f0⟩
      · exact ⟨g1, n1, f1⟩
      · exact ⟨g2, n2, f2⟩
      · exact NR _ (by unfold LrNews; repeat (first | exact List.Mem.head _ | refine List.Mem.tail _ ?_))
      · exact NR _ (by unfold LrNews; repeat (first | exact List.Mem.head _ | refine List.Mem.tail _ ?_))
      · exact NR _ (by unfold LrNews; repeat (first | exact List.Mem.head _ | refine List.Mem.tail _ ?_))
      · exact NR _ (by unfold LrNews; repeat (first | exact List.Mem.head _ | refine List.Mem.tail _ ?_))
      · exact NR _ (by unfold LrNews; repeat (first | exact List.Mem.head _ | refine List.Mem.tail _ ?_))
      · exact NR _ (by unfold LrNews; repeat (first | exact List.Mem.head _ | refine List.Mem.tail _ ?_))
      · exact NR _ (by unfold LrNews; repeat (first | exact List.Mem.head _ | refine List.Mem.tail _ ?_))
    have plen := P.len
    exact law_trees up ts e0 e1 e2 P.up hul (by omega) plen.symm hnd P.short le0 le1 le2 in0 in1 in2 S0 S1 S2 R7 F16 (if_pos rfl) ((if_neg (by decide)).trans rfl) N16 hc1 hc2 m0 m1 m2 j0 j1 j2 ia ix fun h' tk' H' m' ps' R' F' e' => hQ h' g3 tk' H' m' ps' R' F' e' x2
end
end Mine

end
section
open PySem PySem.W PyProof.Rows PySem.Spec PySem.Calls
namespace Mine
/-- what the plain law tells of eight numbers -/
structure LawOk (ns8 : List Int) : Prop where
  P : PlOk (places ns8 8).1 (places ns8 8).2
  up : (places ns8 8).1.length ≤ 9
  nd : (places ns8 8).2.Nodup
  le : ∀ j : Nat, j < 3 → (entries ns8 (j : Int)).length ≤ 8
  inn : ∀ j : Nat, j < 3 → ∀ q ∈ entries ns8 (j : Int), 0 ≤ q ∧ q < (places ns8 8).1.length
  step : ∀ i j : Nat, i < 3 → j < 3 → StepOk (places ns8 8).1 (places ns8 8).2 (rowP (places ns8 8).1 (entries ns8 (i : Int))) (rowP (places ns8 8).1 (entries ns8 (j : Int)))
/-- the eight numbers that a script gives -/
noncomputable def numsOf (ns : List Int) : List Int := ns.take 8 ++ ([0, 12, 10, 7, 48, 14, 7, 39] : List Int).drop (min 8 ns.length)
theorem numsOf_len (ns : List Int) : (numsOf ns).length = 8 := by
  unfold numsOf
  rw [List.length_append, List.length_take, List.length_drop]
  simp only [List.length_cons, List.length_nil]
  omega
/-- lists of numbers at the values of a list -/
noncomputable def DrInv (H : Heap) (L I : Addr) (f : Nat → List Int) (g : Array GenState) (D C : Addr) (i : Nat) (ys : List Value) (h : Heap) (g₁ : Array GenState) : Prop :=
  ys.length = i ∧ g₁ = g ∧ ∀ j v, ys[j]? = some v → ∃ a, v = .ref a ∧ a ≠ D ∧ a ≠ C ∧ a ≠ I ∧ a ≠ L ∧ H.get? a = none ∧ AtIntsN h a (f j)
theorem slice8 (vs : List Value) : slicePick vs.toArray none (some 8) none = (vs.take 8).toArray := by
  exact slicePick_upto' vs.toArray 8
section
variable {w : World} {p : Program} {loose : List Str} {mean : ExcName → Option Value} {mg mb : Str → Option Value} {n : Nat}
set_option maxHeartbeats 4000000 in
theorem law_call (ns : List Int) (sc : Addr) (hns : ns.length ≤ 63) (K : LawOk (numsOf ns)) {A : Around} {out : List Env} {base H : Heap} {g : Array GenState} {d : Drawn} {tk : Nat} {o : OsState} {R : Result → Shared → Prop} (hout : A.frames = some out) (S : Std w p loose mean mg mb (n + 60) A base (hideAll H [195])) (hsc : AtIntsL (hideAll H [195]) sc ns)
    (h195 : H.get? 195 = some (tabObj #[]))
    (hR : ∀ h' g' tk' ps', KeepX (out.filterMap (·.frame)) (hideAll H [195]) h' → h'.get? 195 = some (tabObj ps') → (AllBare g → AllBare g') → R (.ok (.ret (.bool true))) ⟨h', g', d, tk', o⟩) : codeAny (model PG w) A (.call (.ref 215) ⟨[.ref sc], []⟩) R ⟨H, g, d, tk, o⟩ := by
  have X := S.X
  have T := S.T
  refine' enterCX [("script", .ref sc)] hout S (fun _ _ e => of_hideAll _ e) (Nat.le_of_eq (hideAll_size _ _)) ?k6 ?k7 ?kb ?kl ?kn ?c1 ?c2 ?c3 ?_
  case k6 => k_is
  case k7 => k_is
  case kb => exact rfl
  case kl => exact rfl
  case kn => decide
  case c1 => exact rfl
  case c2 => exact rfl
  case c3 => exact rfl
  intro L dp un gd h₁ tk₁ cells Q Rm st1 hHL F N Y hQ _
  clear S
  have n195 : @LT.lt Nat _ 195 L := Nat.lt_of_lt_of_le (Heap.lt_size h195) hHL
  obtain ⟨o1, o2, o3, rfl, hc1, hc2, hc3⟩ := CellsAre.three Y
  clear Y
  replace N : News (hideAll H [195]) L h₁ [(L + 1 + 1 + 1, o1), (L + 1 + 1, o2), (L + 1, o3), (195, tabObj #[])] := fun q hq => by
    rcases List.mem_append.mp (show q ∈ [(L + 1 + 1 + 1, o1), (L + 1 + 1, o2), (L + 1, o3)] ++ [(195, tabObj #[])] from hq) with hq | hq
    · exact N q hq
    · obtain rfl := List.mem_singleton.mp hq
      exact ⟨st1 _ _ h195, Nat.ne_of_lt n195, hideAll_none _ (.head _)⟩
  replace hc1 : o1.data = .cell none := hc1
  replace hc2 : o2.data = .cell none := hc2
  replace hc3 : o3.data = .cell none := hc3
  obtain ⟨vsc, hvsc, hisc⟩ := id hsc
  have lsc := hisc.length
  have hsc1 := F.lst hvsc
  (repeat' (first | k_data | ((fail_if_success (with_reducible show wpAny _ _ (exec (Stmt.For _ _ _ _ _) _) _ _ _)); (fail_if_success (with_reducible show wpAny _ _ (eval (Expr.ListComp _ _ _ _) _) _ _ _)); (fail_if_success (with_reducible show wpAny _ _ (exec (Stmt.Assign _ (Expr.ListComp _ _ _ _) _) _) _ _ _)); (fail_if_success (with_reducible show wpAny _ _ (compareOp _ (.ref _) (.ref _)) _ _ _)); walk1; try dsimp only) | (with_reducible refine ite_no ?_) | (with_reducible refine ite_yes ?_)))
  refine slice_list (s := ⟨h₁, g, d, _, o⟩) F N hsc1 .none (IsPart.int 8 _) (fun h2 F2 N2 => ?_) ?s1 ?t1 ?z1
  case s1 => with_unfolding_all rfl
  case t1 => kmk_pure
  case z1 => rw [sizeLine_eq, List.size_toArray]; omega
  rw [slice8] at N2
  clear F N hsc1
  (repeat' (first | k_data | ((fail_if_success (with_reducible show wpAny _ _ (exec (Stmt.For _ _ _ _ _) _) _ _ _)); (fail_if_success (with_reducible show wpAny _ _ (eval (Expr.ListComp _ _ _ _) _) _ _ _)); (fail_if_success (with_reducible show wpAny _ _ (exec (Stmt.Assign _ (Expr.ListComp _ _ _ _) _) _) _ _ _)); (fail_if_success (with_reducible show wpAny _ _ (compareOp _ (.ref _) (.ref _)) _ _ _)); walk1; try dsimp only) | (with_reducible refine ite_no ?_) | (with_reducible refine ite_yes ?_)))
  rename Fr _ _ _ _ => F3
  rename News _ _ _ _ => N3
  refine slice_list (s := ⟨_, g, d, _, o⟩) F3 N3 (F3.lst hvsc) .none (IsPart.int 8 _) (fun h4 F4 N4 => ?_) ?s2 ?t2 ?z2
  case s2 => with_unfolding_all rfl
  case t2 => kmk_pure
  case z2 => rw [sizeLine_eq, List.size_toArray]; omega
  rw [slice8] at N4
  clear F3 N3
  (repeat' (first | k_data | ((fail_if_success (with_reducible show wpAny _ _ (exec (Stmt.For _ _ _ _ _) _) _ _ _)); (fail_if_success (with_reducible show wpAny _ _ (eval (Expr.ListComp _ _ _ _) _) _ _ _)); (fail_if_success (with_reducible show wpAny _ _ (exec (Stmt.Assign _ (Expr.ListComp _ _ _ _) _) _) _ _ _)); (fail_if_success (with_reducible show wpAny _ _ (compareOp _ (.ref _) (.ref _)) _ _ _)); walk1; try dsimp only) | (with_reducible refine ite_no ?_) | (with_reducible refine ite_yes ?_)))
  refine call_len_list (News.lst N4 (.head _)) (by rw [List.size_toArray, List.length_take]; exact (Mine.cast63 (Nat.min_le_left _ _) (by decide))) ?_
  rw [show (List.take 8 vsc).toArray.size = min 8 ns.length by rw [List.size_toArray, List.length_take, lsc]]
  (repeat' (first | k_data | ((fail_if_success (with_reducible show wpAny _ _ (exec (Stmt.For _ _ _ _ _) _) _ _ _)); (fail_if_success (with_reducible show wpAny _ _ (eval (Expr.ListComp _ _ _ _) _) _ _ _)); (fail_if_success (with_reducible show wpAny _ _ (exec (Stmt.Assign _ (Expr.ListComp _ _ _ _) _) _) _ _ _)); (fail_if_success (with_reducible show wpAny _ _ (compareOp _ (.ref _) (.ref _)) _ _ _)); walk1; try dsimp only) | (with_reducible refine ite_no ?_) | (with_reducible refine ite_yes ?_)))
  refine slice_list (s := ⟨h4, g, d, _, o⟩) F4 N4 (News.lst (its := List.toArray [_, _, _, _, _, _, _, _]) N4 (.tail _ (.head _))) (IsPart.int ((min 8 ns.length : Nat) : Int) _) .none (fun h5 F5 N5 => ?_) ?s3 ?t3 ?z3
  case s3 => with_unfolding_all rfl
  case t3 => kmk_pure
  case z3 => rw [sizeLine_eq]; show (8 : Nat) ≤ 16777216; decide
  rw [slicePick_from'] at N5
  clear F4 N4
  (repeat' (first | k_data | ((fail_if_success (with_reducible show wpAny _ _ (exec (Stmt.For _ _ _ _ _) _) _ _ _)); (fail_if_success (with_reducible show wpAny _ _ (eval (Expr.ListComp _ _ _ _) _) _ _ _)); (fail_if_success (with_reducible show wpAny _ _ (exec (Stmt.Assign _ (Expr.ListComp _ _ _ _) _) _) _ _ _)); (fail_if_success (with_reducible show wpAny _ _ (compareOp _ (.ref _) (.ref _)) _ _ _)); walk1; try dsimp only) | (with_reducible refine ite_no ?_) | (with_reducible refine ite_yes ?_)))
  refine add_lists F5 N5 (News.lst (its := List.toArray (List.take 8 vsc)) N5 (.tail _ (.tail _ (.tail _ (.head _))))) (News.lst (its := List.toArray (List.drop (min 8 ns.length) [_, _, _, _, _, _, _, _])) N5 (.head _)) (fun h6 F6 N6 => ?_) (by rw [sizeLine_eq, List.length_take, List.length_drop]; simp only [List.length_cons, List.length_nil]; omega)
  obtain ⟨v8, e8, i8⟩ : ∃ v8, h6.get? h5.objs.size = some (W.listOf (List.toArray v8) 0) ∧ IntsAre v8 (numsOf ns) := ⟨_, (N6 _ (.head _)).1, (hisc.take 8).append (IntsAre.drop (.cons 0 _ (.cons 12 _ (.cons 10 _ (.cons 7 _ (.cons 48 _ (.cons 14 _ (.cons 7 _ (.cons 39 _ .nil)))))))) (min 8 ns.length))⟩
  have l8 := numsOf_len ns
  have N7 : News (hideAll H [195]) L h6 [(h5.objs.size, W.listOf (List.toArray v8) 0), (L + 1 + 1 + 1, o1), (L + 1 + 1, o2), (L + 1, o3), (195, tabObj #[])] := fun q hq => by
    rcases List.mem_cons.mp hq with rfl | hq
    · exact ⟨e8, (N6 _ (.head _)).2⟩
    · exact N6 _ (.tail _ (.tail _ (.tail _ (.tail _ (.tail _ hq)))))
  have ltn : ∀ q ∈ [(L + 1 + 1 + 1, o1), (L + 1 + 1, o2), (L + 1, o3), (195, tabObj #[])], q.1 < h5.objs.size := fun q hq => Heap.lt_size (N5 _ (.tail _ (.tail _ (.tail _ (.tail _ hq))))).1
  clear F5 N5 N6
  clear e8
  dsimp only
  generalize h5.objs.size = nb at ltn N7 ⊢
  refine stCN (own := [(nb, W.listOf (List.toArray v8) 0), (L + 1 + 1 + 1, o1), (L + 1 + 1, o2)]) (rest := [(195, tabObj #[])]) F6 N7 rfl hc3 (all_cons (Nat.ne_of_gt (ltn _ (.tail _ (.tail _ (.head _))))) (all_cons (Nat.ne_of_gt (Nat.lt_succ_of_lt (Nat.lt_succ_self _))) (all_cons (Nat.ne_of_gt (Nat.lt_succ_self _)) all_nil))) (all_cons (Nat.ne_of_lt (Nat.lt_succ_of_lt n195)) all_nil) fun h8 o3' F8 N8 hc3' => ?_
  have hnb : @LT.lt Nat _ (L + 1 + 1 + 1) nb := ltn _ (.head _)
  clear F6 N7 hc3 ltn
  (repeat' (first | k_data | ((fail_if_success (with_reducible show wpAny _ _ (exec (Stmt.For _ _ _ _ _) _) _ _ _)); (fail_if_success (with_reducible show wpAny _ _ (eval (Expr.ListComp _ _ _ _) _) _ _ _)); (fail_if_success (with_reducible show wpAny _ _ (exec (Stmt.Assign _ (Expr.ListComp _ _ _ _) _) _) _ _ _)); (fail_if_success (with_reducible show wpAny _ _ (compareOp _ (.ref _) (.ref _)) _ _ _)); walk1; try dsimp only) | (with_reducible refine ite_no ?_) | (with_reducible refine ite_yes ?_)))
  refine Tells.at (places_tells (n := n + 58) (numsOf ns) l8 nb) (Rm.inside rfl rfl) F8 ⟨v8, ⟨0, (N8 _ (.head _)).1⟩, i8⟩ fun v h9 tk9 F9 st9 hv => ?_
  obtain ⟨r9, ab, tx, rfl, hab, htx, er9, hr9, ⟨va, ⟨ka, ea⟩, ia⟩, ⟨vt, ⟨kt, et⟩, it⟩⟩ := hv
  have N9 : News (hideAll H [195]) L h9 [(r9, ({ cls := .type "tuple", data := .seq #[.ref ab, .ref tx] } : Obj)), (ab, W.listOf (List.toArray va) ka), (tx, W.listOf (List.toArray vt) kt), (nb, W.listOf (List.toArray v8) 0), (L + 1 + 1 + 1, o1), (L + 1 + 1, o2), (L + 1, o3'), (195, tabObj #[])] := fun q hq => by
    rcases List.mem_cons.mp hq with rfl | hq
    · exact News.join F8 N8 st9 hr9 er9 _ (.head _)
    rcases List.mem_cons.mp hq with rfl | hq
    · exact News.join F8 N8 st9 hab ea _ (.head _)
    rcases List.mem_cons.mp hq with rfl | hq
    · exact News.join F8 N8 st9 htx et _ (.head _)
    · exact News.stay N8 st9 q hq
  have ltd : ∀ (a : Addr) (ob : Obj), h8.get? a = some ob → a ≠ ab ∧ a ≠ tx ∧ a ≠ r9 := fun a ob e => ⟨ne_get e hab, ne_get e htx, ne_get e hr9⟩
  have ltc : ∀ q ∈ [(L + 1 + 1 + 1, o1), (L + 1 + 1, o2), (L + 1, o3')], q.1 ≠ nb ∧ q.1 ≠ ab ∧ q.1 ≠ tx ∧ q.1 ≠ r9 :=
    all_cons ⟨Nat.ne_of_lt hnb, ltd _ _ (N8 _ (.tail _ (.head _))).1⟩ (all_cons ⟨Nat.ne_of_lt (Nat.lt_trans (Nat.lt_succ_self _) hnb), ltd _ _ (N8 _ (.tail _ (.tail _ (.head _)))).1⟩ (all_cons ⟨Nat.ne_of_lt (Nat.lt_trans (Nat.lt_succ_of_lt (Nat.lt_succ_self _)) hnb), ltd _ _ (N8 _ (.tail _ (.tail _ (.tail _ (.head _))))).1⟩ all_nil))
  clear ltd
  clear F8 N8
  (repeat' (first | k_data | ((fail_if_success (with_reducible show wpAny _ _ (exec (Stmt.For _ _ _ _ _) _) _ _ _)); (fail_if_success (with_reducible show wpAny _ _ (eval (Expr.ListComp _ _ _ _) _) _ _ _)); (fail_if_success (with_reducible show wpAny _ _ (exec (Stmt.Assign _ (Expr.ListComp _ _ _ _) _) _) _ _ _)); (fail_if_success (with_reducible show wpAny _ _ (compareOp _ (.ref _) (.ref _)) _ _ _)); walk1; try dsimp only) | (with_reducible refine ite_no ?_) | (with_reducible refine ite_yes ?_)))
  rename Fr _ _ _ _ => F10
  rename News _ _ _ _ => N10
  have z2 := ltc _ (.tail _ (.head _))
  have z1 := ltc _ (.head _)
  clear ltc
  refine stCN (own := [(r9, ({ cls := .type "tuple", data := .seq #[.ref ab, .ref tx] } : Obj)), (ab, W.listOf (List.toArray va) ka), (tx, W.listOf (List.toArray vt) kt), (nb, W.listOf (List.toArray v8) 0), (L + 1 + 1 + 1, o1)]) (rest := [(L + 1, o3'), (195, tabObj #[])]) F10 N10 rfl hc2 (all_cons z2.2.2.2.symm (all_cons z2.2.1.symm (all_cons z2.2.2.1.symm (all_cons z2.1.symm (all_cons (Nat.ne_of_gt (Nat.lt_succ_self _)) all_nil))))) (all_cons (Nat.ne_of_lt (Nat.lt_succ_self _)) (all_cons (Nat.ne_of_lt (Nat.lt_succ_of_lt (Nat.lt_succ_of_lt n195))) all_nil)) fun h11 o2' F11 N11 hc2' => ?_
  clear F10 N10 z2
  (repeat' (first | k_data | ((fail_if_success (with_reducible show wpAny _ _ (exec (Stmt.For _ _ _ _ _) _) _ _ _)); (fail_if_success (with_reducible show wpAny _ _ (eval (Expr.ListComp _ _ _ _) _) _ _ _)); (fail_if_success (with_reducible show wpAny _ _ (exec (Stmt.Assign _ (Expr.ListComp _ _ _ _) _) _) _ _ _)); (fail_if_success (with_reducible show wpAny _ _ (compareOp _ (.ref _) (.ref _)) _ _ _)); walk1; try dsimp only) | (with_reducible refine ite_no ?_) | (with_reducible refine ite_yes ?_)))
  refine stCN (own := [(r9, ({ cls := .type "tuple", data := .seq #[.ref ab, .ref tx] } : Obj)), (ab, W.listOf (List.toArray va) ka), (tx, W.listOf (List.toArray vt) kt), (nb, W.listOf (List.toArray v8) 0)]) (rest := [(L + 1 + 1, o2'), (L + 1, o3'), (195, tabObj #[])]) F11 N11 rfl hc1 (all_cons z1.2.2.2.symm (all_cons z1.2.1.symm (all_cons z1.2.2.1.symm (all_cons z1.1.symm all_nil)))) (all_cons (Nat.ne_of_lt (Nat.lt_succ_self _)) (all_cons (Nat.ne_of_lt (Nat.lt_succ_of_lt (Nat.lt_succ_self _))) (all_cons (Nat.ne_of_lt (Nat.lt_succ_of_lt (Nat.lt_succ_of_lt (Nat.lt_succ_of_lt n195)))) all_nil))) fun h12 o1' F12 N12 hc1' => ?_
  clear F11 N11 z1
  have N13 : News (hideAll H [195]) L h12 [(ab, W.listOf (List.toArray va) ka), (tx, W.listOf (List.toArray vt) kt), (nb, W.listOf (List.toArray v8) 0), (L + 1 + 1 + 1, o1'), (L + 1 + 1, o2'), (L + 1, o3'), (195, tabObj #[])] := fun q hq => N12 q (.tail _ hq)
  clear N12
  (repeat' (first | k_data | ((fail_if_success (with_reducible show wpAny _ _ (exec (Stmt.For _ _ _ _ _) _) _ _ _)); (fail_if_success (with_reducible show wpAny _ _ (eval (Expr.ListComp _ _ _ _) _) _ _ _)); (fail_if_success (with_reducible show wpAny _ _ (exec (Stmt.Assign _ (Expr.ListComp _ _ _ _) _) _) _ _ _)); (fail_if_success (with_reducible show wpAny _ _ (compareOp _ (.ref _) (.ref _)) _ _ _)); walk1; try dsimp only) | (with_reducible refine ite_no ?_) | (with_reducible refine ite_yes ?_)))
  refine comp_assignR (by with_unfolding_all rfl) (by exact rfl) rfl rfl ?_
  (repeat' (first | k_data | ((fail_if_success (with_reducible show wpAny _ _ (exec (Stmt.For _ _ _ _ _) _) _ _ _)); (fail_if_success (with_reducible show wpAny _ _ (eval (Expr.ListComp _ _ _ _) _) _ _ _)); (fail_if_success (with_reducible show wpAny _ _ (exec (Stmt.Assign _ (Expr.ListComp _ _ _ _) _) _) _ _ _)); (fail_if_success (with_reducible show wpAny _ _ (compareOp _ (.ref _) (.ref _)) _ _ _)); walk1; try dsimp only) | (with_reducible refine ite_no ?_) | (with_reducible refine ite_yes ?_)))
  rename Fr _ _ _ _ => F14
  rename News _ _ _ _ => N14
  rename IsRange _ _ _ _ _ _ _ _ => hr14
  refine it_range (n := 3) F14 N14 hr14 (by decide) (by decide) fun I15 h15 F15 N15 st15 fr15 hit15 hsz15 off15 => ?_
  refine comp_loopX (fs := []) (Walks.range rfl I15 0 1 3) (fun _ h => nomatch h) (fun _ _ h => nomatch h) hit15 hsz15 (by decide) rfl rfl rfl (DrInv (hideAll H [195]) L I15 (fun j : Nat => entries (numsOf ns) (j : Int)) g) (fun _ _ => ⟨rfl, rfl, fun j v e => by simp at e⟩) (fun D C i ys ha hb ga ⟨x1, x2, x3⟩ hk => ⟨x1, x2, fun j v e => by
    obtain ⟨a, e1, e2, e3, e4, e5, e6, vs, ⟨kk, e7⟩, e8⟩ := x3 j v e
    exact ⟨a, e1, e2, e3, e4, e5, e6, vs, ⟨kk, hk _ _ e2 e3 e4 e7⟩, e8⟩⟩) ?_ ?_
  · rintro D C i v ys h3 g3 tk3 mc Qe Qs hD hC hDC hi ⟨tv, rfl⟩ ⟨x1, rfl, x3⟩ hmx hnc hCs hold hst hpl hQe hQs
    obtain ⟨F3, N3, FL3⟩ := comp_frames F15 N15 off15 hC hCs hnc hold
    refine ifs_nil ?_
    refine ite_yes ?_
    rw [show (0 + (i : Int) * 1) = i from by omega] at hmx
    replace F3 := Fr.norm F3 [("j", .int i tv)] (by intro q hq; obtain rfl := List.mem_singleton.mp hq; exact hmx)
    clear F14 N14 F15
    have X3 := X.keeps F3.keep
    (repeat' (first | k_data | ((fail_if_success (with_reducible show wpAny _ _ (exec (Stmt.For _ _ _ _ _) _) _ _ _)); (fail_if_success (with_reducible show wpAny _ _ (eval (Expr.ListComp _ _ _ _) _) _ _ _)); (fail_if_success (with_reducible show wpAny _ _ (exec (Stmt.Assign _ (Expr.ListComp _ _ _ _) _) _) _ _ _)); (fail_if_success (with_reducible show wpAny _ _ (compareOp _ (.ref _) (.ref _)) _ _ _)); walk1; try dsimp only) | (with_reducible refine ite_no ?_) | (with_reducible refine ite_yes ?_)))
    rename Fr _ C _ _ => F3
    refine Tells.at (entries_tells (n := n + 58) (numsOf ns) l8 nb i tv (by exact (Int.natCast_nonneg _)) (by exact (Int.ofNat_le.mpr (Nat.le_of_lt_succ hi)))) (Rm.inside rfl rfl) FL3 ⟨v8, ⟨0, (N3 _ (.tail _ (.tail _ (.head _)))).1⟩, i8⟩ fun v h4 tk4 FL4 st4 hv => ?_
    obtain ⟨r, rfl, hr, hAt⟩ := hv
    have F4 := Fr.stay F3 st4
    have old : ∀ b ob, h3.get? b = some ob → r ≠ b := fun b ob e z => by (first | exact (ne_get e (hr) (z).symm).elim | exact (ne_get (hr) e (z).symm).elim | (rw [← z, hr] at e; cases e))
    obtain ⟨kD, eD⟩ := hpl
    obtain ⟨oC, _, _, eC, _⟩ := id hnc
    obtain ⟨oL, _, _, eL, _⟩ := id FL3.ns
    obtain ⟨oI, eI⟩ : ∃ oI, h3.get? I15 = some oI := ⟨_, hst⟩
    refine hQe _ _ _ _ ⟨fun b ob _ _ e => st4 b ob e, (fun _ _ _ m => nomatch m), _, F4.ns⟩ ⟨by rw [List.length_append, x1]; rfl, rfl, fun j v e => ?_⟩
    rcases Nat.lt_or_ge j i with hj | hj
    · rw [List.getElem?_append_left (by omega)] at e
      obtain ⟨a, e1, e2, e3, e4, e5, e6, vs, ⟨kk, e7⟩, e8⟩ := x3 j v e
      exact ⟨a, e1, e2, e3, e4, e5, e6, vs, ⟨kk, st4 _ _ e7⟩, e8⟩
    · have hjl := (List.getElem?_eq_some_iff.mp e).1
      rw [List.length_append, x1, List.length_cons, List.length_nil] at hjl
      obtain rfl : j = i := by exact (Nat.le_antisymm (Nat.le_of_lt_succ hjl) hj)
      rw [List.getElem?_append_right (by exact (Nat.le_of_eq x1)), show j - ys.length = 0 by omega] at e
      obtain rfl : v = .ref r := (Option.some.inj e).symm
      refine ⟨r, rfl, old _ _ eD, old _ _ eC, old _ _ eI, old _ _ eL, ?_, hAt⟩
      exact get_gone (F3.keep _) hr
  · rintro D C h3 g3 tk3 ys mc hD hC hDC hCs hnc hold hpl hlen ⟨x1, rfl, x3⟩
    obtain ⟨F3, N3, FL3⟩ := comp_frames F15 N15 off15 hC hCs hnc hold
    obtain ⟨oL, _, _, eL, _⟩ := id F15.ns
    have hLC : L ≠ C := fun z => by (first | exact (ne_get eL (hC) (z)).elim | exact (ne_get (hC) eL (z)).elim | (rw [z, hC] at eL; cases eL))
    have hLD : D ≠ L := fun z => by (first | exact (ne_get eL (hD) (z).symm).elim | exact (ne_get (hD) eL (z).symm).elim | (rw [← z, hD] at eL; cases eL))
    refine post_assign hnc FL3.ns hLC rfl rfl fun h16 tk16 hn16 k16 => ?_
    have hH : ∀ b, h15.get? b = none → (hideAll H [195]).get? b = none := fun b e => by
      exact get_gone (F15.keep _) e
    have up : ∀ b ob, h3.get? b = some ob → b ≠ C → b ≠ L → h16.get? b = some ob := fun b ob e b1 b2 => k16 b ob b1 b2 e
    have F16 : Fr (hideAll H [195]) L h16 _ := ⟨hn16, fun b ob e => up b ob (FL3.keep _ _ e) (fun z => by have := hH _ hC; (first | exact (ne_get this (e) (z).symm).elim | exact (ne_get (e) this (z).symm).elim | (rw [← z, e] at this; cases this))) (fun z => absurd (Nat.lt_of_lt_of_le (Heap.lt_size e) FL3.above) (z ▸ Nat.lt_irrefl _)), FL3.above⟩
    obtain ⟨kD, eD⟩ := hpl
    have hDrawn : ∀ j : Nat, j < 3 → ∃ a vs kk, ys[j]? = some (.ref a) ∧ a ≠ L ∧ (hideAll H [195]).get? a = none ∧ h16.get? a = some (W.listOf (List.toArray vs) kk) ∧ IntsAre vs (entries (numsOf ns) (j : Int)) := fun j hj => by
      obtain ⟨v, ev⟩ : ∃ v, ys[j]? = some v := ⟨_, List.getElem?_eq_getElem (by omega)⟩
      obtain ⟨a, e1, e2, e3, e4, e5, e6, vs, ⟨kk, e7⟩, e8⟩ := x3 j v ev
      exact ⟨a, vs, kk, e1 ▸ ev, e5, e6, up _ _ e7 e3 e5, e8⟩
    have N16 : News (hideAll H [195]) L h16 [(D, W.listOf ys.toArray kD), (ab, W.listOf (List.toArray va) ka), (tx, W.listOf (List.toArray vt) kt), (L + 1 + 1 + 1, o1'), (L + 1 + 1, o2'), (L + 1, o3'), (195, tabObj #[])] := fun q hq => by
      rcases List.mem_cons.mp hq with rfl | hq
      · exact ⟨up _ _ eD hDC hLD, hLD, hH _ hD⟩
      · have hm : q ∈ [(ab, W.listOf (List.toArray va) ka), (tx, W.listOf (List.toArray vt) kt), (nb, W.listOf (List.toArray v8) 0), (L + 1 + 1 + 1, o1'), (L + 1 + 1, o2'), (L + 1, o3'), (195, tabObj #[])] := List.Sublist.subset (.cons_cons _ (.cons_cons _ (.cons _ (.refl _)))) hq
        have := N3 q hm
        exact ⟨up _ _ this.1 this.2.1 (N15 q hm).2.1, (N15 q hm).2⟩
    obtain ⟨a0, v0, k0, y0, n0, f0, e0, i0⟩ := hDrawn 0 (by decide)
    obtain ⟨a1, v1, k1, y1, n1, f1, e1, i1⟩ := hDrawn 1 (by decide)
    obtain ⟨a2, v2, k2, y2, n2, f2, e2, i2⟩ := hDrawn 2 (by decide)
    obtain rfl : ys = [.ref a0, .ref a1, .ref a2] := three_of x1 y0 y1 y2
    have N17 : News (hideAll H [195]) L h16 [(D, W.listOf (List.toArray [.ref a0, .ref a1, .ref a2]) kD), (a0, W.listOf (List.toArray v0) k0), (a1, W.listOf (List.toArray v1) k1), (a2, W.listOf (List.toArray v2) k2), (ab, W.listOf (List.toArray va) ka), (tx, W.listOf (List.toArray vt) kt), (L + 1 + 1 + 1, o1'), (L + 1 + 1, o2'), (L + 1, o3'), (195, tabObj #[])] := fun q hq => by
      rcases List.mem_cons.mp hq with rfl | hq
      · exact N16 _ (.head _)
      rcases List.mem_cons.mp hq with rfl | hq
      · exact ⟨e0, n0, f0⟩
      rcases List.mem_cons.mp hq with rfl | hq
      · exact ⟨e1, n1, f1⟩
      rcases List.mem_cons.mp hq with rfl | hq
      · exact ⟨e2, n2, f2⟩
      · exact N16 q (.tail _ hq)
    have N18 : News (hideAll H [195]) L h16 (LrNews D a0 a1 a2 ab tx L v0 v1 v2 va vt kD k0 k1 k2 ka kt o1' o2') := fun q hq => N17 q (List.Sublist.subset (.cons_cons _ (.cons_cons _ (.cons_cons _ (.cons_cons _ (.cons_cons _ (.cons_cons _ (.cons_cons _ (.cons_cons _ (.cons _ (.refl _)))))))))) hq)
    exact law_rows (n := n + 19) _ _ _ _ _ K.P K.up K.nd (K.le 0 (by decide)) (K.le 1 (by decide)) (K.le 2 (by decide)) (K.inn 0 (by decide)) (K.inn 1 (by decide)) (K.inn 2 (by decide)) (K.step 2 0 (by decide) (by decide)) (K.step 0 1 (by decide) (by decide)) (K.step 1 2 (by decide) (by decide)) Rm F16 (if_pos rfl) N18 hc1' hc2' i0 i1 i2 ia it fun h' g' tk' H' m' ps' R' F' e' hg => hQ _ _ (hR h' g' tk' ps' (R'.kept F') e' hg)
end
end Mine

end
section
open PySem PyProof.Rows PySem.Spec
namespace Mine
noncomputable def Small (l : List Nat) : Prop := ∀ c ∈ l, c < 0x110000
theorem mark_is : ∀ k : Fin 10, (marks.getD k.val Str.empty).cps.toList ≠ [] ∧ 47 ∉ (marks.getD k.val Str.empty).cps.toList ∧ ∀ c ∈ (marks.getD k.val Str.empty).cps.toList, c < 0x110000 := by decide
theorem fresh_is : ∀ (n : Nat) (ts : List Str) (l : List Nat), ∃ k, fresh n ts (SS l) = SS (l ++ List.replicate k 97)
  | 0, _, l => ⟨0, by simp [fresh]⟩
  | n + 1, ts, l => by
    unfold fresh
    split
    · obtain ⟨k, e⟩ := fresh_is n ts (l ++ [97])
      refine ⟨k + 1, ?_⟩
      rw [show SS l ++ ("a" : Str) = SS (l ++ [97]) from SS_append l [97], e, List.append_assoc]
      rfl
    · exact ⟨0, by simp⟩
theorem up_range (ns : List Int) (i : Nat) : 0 ≤ upAt ns i ∧ upAt ns i < 1 + i := ⟨Int.fmod_nonneg_of_pos _ (by exact (Int.ofNat_lt.mpr (Nat.lt_of_succ_le (Nat.le_add_right _ _)))), Int.fmod_lt_of_pos _ (by exact (Int.ofNat_lt.mpr (Nat.lt_of_succ_le (Nat.le_add_right _ _))))⟩
/-- a place's text before it is made new -/
theorem raw_is (ns : List Int) (i : Nat) (ts : List Str) : ∃ s el, Elt el ∧ Small el ∧ (upAt ns i ≠ 0 → 0 < s) ∧ rawAt ns i ts = SS ((ts.getD (upAt ns i).toNat Str.empty).cps.toList ++ List.replicate s 47 ++ el) := by
  have f0 := Int.fmod_nonneg_of_pos (quoAt ns i) (b := 3) (by decide)
  have m0 := Int.fmod_nonneg_of_pos (Int.fdiv (quoAt ns i) 3) (b := 10) (by decide)
  have m1 := Int.fmod_lt_of_pos (Int.fdiv (quoAt ns i) 3) (b := 10) (by decide)
  obtain ⟨e1, e2, e3⟩ := mark_is ⟨(Int.fmod (Int.fdiv (quoAt ns i) 3) 10).toNat, by exact (Mine.toNat_lt_len m0 m1)⟩
  refine ⟨(Int.fmod (quoAt ns i) 3 + if upAt ns i = 0 then 0 else 1).toNat, _, ⟨e1, e2⟩, e3, fun h => ?_, ?_⟩
  · rw [if_neg h]; omega
  · unfold rawAt
    have hN : 0 ≤ Int.fmod (quoAt ns i) 3 + if upAt ns i = 0 then 0 else 1 := by split <;> omega
    generalize Int.fmod (quoAt ns i) 3 + (if upAt ns i = 0 then 0 else 1) = N at hN
    obtain ⟨M, rfl⟩ : ∃ M : Nat, N = (M : Int) := ⟨N.toNat, by exact (Eq.symm (Int.toNat_of_nonneg hN))⟩
    rw [mul_SS, Int.toNat_natCast]
    generalize marks.getD (Int.fmod (Int.fdiv (quoAt ns i) 3) 10).toNat Str.empty = mk
    generalize ts.getD (upAt ns i).toNat Str.empty = t
    conv => lhs; rw [SS_eq t, SS_eq mk]
    rw [SS_append, SS_append]
theorem getD_left {α : Type} {a b : List α} {k : Nat} {d : α} (h : k < a.length) : (a ++ b).getD k d = a.getD k d := by
  rw [List.getD_eq_getElem?_getD, List.getD_eq_getElem?_getD, List.getElem?_append_left h]
theorem getD_last {α : Type} {a : List α} {x d : α} {k : Nat} (h : k = a.length) : (a ++ [x]).getD k d = x := by
  subst h; rw [List.getD_eq_getElem?_getD, List.getElem?_append_right (Nat.le_refl _)]; simp
structure PlAt (up : List Int) (ts : List Str) : Prop where
  zero : ts.getD 0 Str.empty = SS []
  step : ∀ k : Nat, 0 < k → k < up.length → (0 ≤ up.getD k 0 ∧ up.getD k 0 < k) ∧ ∃ s el, Elt el ∧ (up.getD k 0 ≠ 0 → 0 < s) ∧ ts.getD k Str.empty = ts.getD (up.getD k 0).toNat Str.empty ++ SS (List.replicate s 47) ++ SS el
  nd : ts.Nodup
  ok : StrsOk ts
theorem ok_iff {l : List Nat} : PyData.strOk (SS l) = true ↔ Small l := by
  unfold PyData.strOk Small
  simp
theorem places_at (ns : List Int) : ∀ i : Nat, i ≤ 10 → PlAt (places ns i).1 (places ns i).2
  | 0, _ => ⟨rfl, fun k h0 h1 => absurd (show k < 1 from h1) (by omega), List.pairwise_singleton _ _, fun x hx => by rw [List.mem_singleton.mp hx]; exact (ok_iff (l := [])).mpr (fun c hc => nomatch hc)⟩
  | i + 1, h => by
    have ih := places_at ns i (by exact (Nat.le_of_succ_le h))
    obtain ⟨l1, l2⟩ := places_len ns i
    obtain ⟨u0, u1⟩ := up_range ns i
    obtain ⟨s, el, h1, h2, h3, h4⟩ := raw_is ns i (places ns i).2
    obtain ⟨k, hk⟩ := fresh_is 64 (places ns i).2 ((((places ns i).2.getD (upAt ns i).toNat Str.empty)).cps.toList ++ List.replicate s 47 ++ el)
    have hut : (places ns i).2.getD (upAt ns i).toNat Str.empty ∈ (places ns i).2 := by
      rw [List.getD_eq_getElem?_getD, List.getElem?_eq_getElem (by omega)]
      exact List.getElem_mem _
    have hnew := fresh_new (M := 6 * i) 64 (places ns i).2 (places_short ns i) (rawAt ns i (places ns i).2) (by omega)
    rw [h4, hk] at hnew
    unfold places
    rw [h4, hk]
    refine ⟨?_, fun j j0 j1 => ?_, ?_, fun x hx => ?_⟩
    · rw [getD_left (by exact (Nat.lt_of_lt_of_le (Nat.succ_pos _) (Nat.le_of_eq (Eq.symm l2))))]; exact ih.zero
    · rw [List.length_append, l1, List.length_singleton] at j1
      rcases Nat.lt_or_ge j (i + 1) with z | z
      · obtain ⟨⟨a0, a1⟩, b⟩ := ih.step j j0 (by exact (Nat.lt_of_lt_of_le z (Nat.le_of_eq (Eq.symm l1))))
        rw [getD_left (a := (places ns i).1) (by exact (Nat.lt_of_lt_of_le z (Nat.le_of_eq (Eq.symm l1)))), getD_left (a := (places ns i).2) (by exact (Nat.lt_of_lt_of_le z (Nat.le_of_eq (Eq.symm l2)))), getD_left (a := (places ns i).2) (by omega)]
        exact ⟨⟨a0, a1⟩, b⟩
      · obtain rfl : j = i + 1 := by exact (Nat.le_antisymm (Nat.le_of_lt_succ j1) z)
        rw [getD_last (a := (places ns i).1) l1.symm, getD_last (a := (places ns i).2) l2.symm, getD_left (a := (places ns i).2) (by omega)]
        refine ⟨⟨u0, by exact (Int.lt_of_lt_of_le u1 (Int.ofNat_le.mpr (Nat.le_of_eq (Nat.add_comm _ _))))⟩, s, el ++ List.replicate k 97, ⟨fun e => h1.1 (List.append_eq_nil_iff.mp e).1, fun hm => ?_⟩, h3, ?_⟩
        · rcases List.mem_append.mp hm with hm | hm
          · exact h1.2 hm
          · exact absurd (List.mem_replicate.mp hm).2 (by decide)
        · generalize (places ns i).2.getD (upAt ns i).toNat Str.empty = t
          conv => rhs; rw [SS_eq t]
          rw [SS_append, SS_append, List.append_assoc (t.cps.toList ++ List.replicate s 47)]
    · refine List.nodup_append.mpr ⟨ih.nd, List.pairwise_singleton _ _, fun a ha b hb e => ?_⟩
      rw [List.mem_singleton.mp hb] at e
      exact hnew (e ▸ ha)
    · rcases List.mem_append.mp hx with hx | hx
      · exact ih.ok x hx
      · rw [List.mem_singleton.mp hx]
        have ht := ih.ok _ hut
        rw [SS_eq ((places ns i).2.getD (upAt ns i).toNat Str.empty)] at ht
        refine ok_iff.mpr fun c hc => ?_
        simp only [List.mem_append] at hc
        rcases hc with ((hc | hc) | hc) | hc
        · exact ok_iff.mp ht c hc
        · rw [(List.mem_replicate.mp hc).2]; decide
        · exact h2 c hc
        · rw [(List.mem_replicate.mp hc).2]; decide
theorem ent_len (ns : List Int) (j : Int) : ∀ l : List Nat, (l.flatMap (entAt ns j)).length ≤ l.length
  | [] => Nat.le_refl _
  | k :: l => by
    have ih := ent_len ns j l
    rw [List.flatMap_cons, List.length_append, List.length_cons]
    have : (entAt ns j k).length ≤ 1 := by unfold entAt; split <;> simp
    omega
theorem ent_in (ns : List Int) (j : Int) {q : Int} (h : q ∈ entries ns j) : 0 ≤ q ∧ q < 9 := by
  obtain ⟨k, _, hk⟩ := List.mem_flatMap.mp h
  unfold entAt at hk
  split at hk
  · cases hk
  · rw [List.mem_singleton.mp hk]
    exact ⟨Int.fmod_nonneg_of_pos _ (by decide), Int.fmod_lt_of_pos _ (by decide)⟩
theorem law_ok (ns : List Int) : LawOk ns := by
  have A := places_at ns 8 (by decide)
  obtain ⟨l1, l2⟩ := places_len ns 8
  have P : PlOk (places ns 8).1 (places ns 8).2 := ⟨by exact (Nat.add_comm _ _), A.zero, A.step, fun x hx => Nat.le_trans (places_short ns 8 x hx) (by decide)⟩
  have inn : ∀ j : Nat, ∀ q ∈ entries ns (j : Int), 0 ≤ q ∧ q < (places ns 8).1.length := fun j q hq => by have := ent_in ns j hq; exact ⟨this.1, (Int.lt_of_lt_of_le this.2 (Int.natCast_nonneg _))⟩
  exact ⟨P, by exact (Nat.le_refl _), A.nd, fun j _ => ent_len ns j (List.range 8), fun j _ => inn j, fun i j _ _ => step_ok P (by exact (Nat.le_refl _)) A.nd A.ok (inn i) (inn j)⟩
end Mine

end
section
open PySem PySem.W PyProof.Rows PySem.Spec PySem.Calls
namespace Mine
set_option maxHeartbeats 8000000 in
theorem holds' : PySem.Challenge.rw_il0138_01.Holds := by
  refine hd ?_
  intro w s₀ s₁ mg mb G Y fa o pm cd doc dV kV ho hd' hcd hD hmg hg args vals as hpre hlay hrd hwl hlo
  have KX := km_in_of Y
  km_tabs Y
  have X := (Ground.X G).1
  have V := (Ground.X G).2
  refine Ground.open G ?_
  intro T B D TE TW
  try (refine guard_noD D (by decide +kernel) ?_; clear D)
  km_lay T hmg ho hd' cd
  wrow_args hpre hlay hrd hwl hlo
  refine enter_call ?_
  rename_i ns _ _ _ _ _ _ _ sc vsc _ hsc _ _ _ hns _ hlen _
  have e215 : mg "law" = some (.ref 215) := mg_of KX T.g (by kernel_rfl)
  have hmg' : mg "law" = some (.ref fa) := hmg
  obtain rfl : fa = 215 := by rw [hmg'] at e215; cases e215; rfl
  have h195 : s₁.heap.get? 195 = some (tabObj #[]) := hT8 195 (.head _)
  have hXB : (hd.heap_1 w.params).In (hideAll s₁.heap [195]) := ghost_K hT9 KX (by kernel_rfl)
  have hTB := ghost_top hT9 T
  have S : Std w topProg _ _ mg mb (0 + 60) callerA (hideAll s₁.heap [195]) (hideAll s₁.heap [195]) := ⟨hXB, hTB, fun _ _ e => e, Nat.le_refl _, fun out e => by
    obtain rfl : [] = out := Option.some.inj e
    exact ⟨below_caller _, ktsDicts_nil⟩, rfl, by decide +kernel, by decide +kernel⟩
  have hscL : AtIntsL (hideAll s₁.heap [195]) sc ns := ⟨vsc, ghost_list hT9 hsc, hns⟩
  refine law_call (out := []) ns sc (by omega) (law_ok _) rfl S hscL h195 fun h' g' tk' ps' K h5 hb => ?_
  have keep : ∀ b ob, b ≠ 195 → s₁.heap.get? b = some ob → h'.get? b = some ob := fun b ob hne e => K.1 b ob (hideAll_get _ e fun hm => hne (List.mem_singleton.mp hm)) (fun hm => nomatch hm)
  refine ⟨.inl ⟨.bool true, .bool true, [], rfl, fun _ => rfl, .bool true, ?_, fun _ => ⟨.nil, fun _ hm => nomatch hm⟩⟩, ⟨fun b ob e => ?_, fun b ob e => ?_⟩, rfl, hb (.of_eq hg)⟩
  · show (WShape.has [] (.bool true) .bool && WTm.holds [] (.eq .res (.lit (.bool true))) { args := [ofPy (PyData.list (List.map PyData.int ns))], res := some (.bool true), after := [ofPy (PyData.list (List.map PyData.int ns))] }) = true
    refine Bool.and_eq_true_iff.mpr ⟨?_, ?_⟩
    · simp [WShape.has, WShape.arms]
    · have e1 : PySem.W.same (WData.bool true) (WData.bool true) = true := by first | rfl | decide | (simp [PySem.W.same])
      simp [WTm.holds, WTm.value, e1]
  · by_cases hne : b = 195
    · subst hne
      rw [h195] at e
      cases e
      exact .inr (.inl ⟨((hT9 _ (.head _)).1.tab (hT9 _ (.head _)).2).isCodeTable, rfl, #[], ps', rfl, by rw [Array.empty_append]; exact h5⟩)
    · exact .inl (keep b ob hne e)
  · by_cases hne : b = 195
    · subst hne; exact ⟨_, h5⟩
    · exact ⟨ob, keep b ob hne e⟩
end Mine

end
set_option maxHeartbeats 8000000 in
theorem PySem.Challenge.cw_il0138_01_holds : PySem.Challenge.rw_il0138_01.Holds := by
  exact Mine.holds'

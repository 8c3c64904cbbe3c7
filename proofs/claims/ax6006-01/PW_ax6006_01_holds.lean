import PyProof.Rows.All
import Wide.All
import OpenK.AllK
import Wide.FinOn
import PySem.Challenge.RW_ax6006_01
open PySem PySem.W PySem.Calls PyProof.Rows
set_option Elab.async false
set_option maxRecDepth 100000
set_option maxHeartbeats 8000000
set_option linter.all false
namespace Mi
open_top hd for PySem.Challenge.rw_ax6006_01
noncomputable abbrev lo : List Str := looseW hd.view_39
      [Str.ofString "SPEC_BY_TYPE", Str.ofString "TYPE_BY_STATUS", Str.ofString "DEFAULT_VALUES",
        Str.ofString "decode_message", Str.ofString "BaseMessage", Str.ofString "Message"]

structure Bas (w : World) (mean : ExcName → Option Value) (mg mb : Str → Option Value) (base : Heap) : Prop where
  X : (hd.heap_39 w.params).In base
  T : Top hd.view_39 lo mean mg mb base

abbrev Adr (l : List (Addr × Obj)) : List Addr := l.map (·.1)

theorem stays_of {base h : Heap} {foot : List (Addr × Obj)} (hs : base.StaysIn h) (hfo : ∀ p ∈ foot, base.get? p.1 = none) : base.StaysIn (hideAll h (Adr foot)) :=
  fun b o e => hideAll_get _ (hs b o e) fun q => by
    obtain ⟨p, hp, rfl⟩ := List.mem_map.mp q
    rw [hfo p hp] at e; cases e

section
variable {prog : Program} {w : World} {A : Around} {s : Shared} {Q : Value → Shared → Prop} {E : Value → Shared → Prop} {base : Heap} {mean : ExcName → Option Value} {mg mb : Str → Option Value}

theorem enterM (foot : List (Addr × Obj)) {name qual : Str} {params : Arguments} {body : List Stmt} {scope : Scope} {dV kV doc pm cdv ct oc : Value} {an od : Option Addr} {osl : Array (Option Value)} {f : Addr} {args : List Value} {kw : List (Str × Value)} {binds : List (Str × Value)}
    (S : Bas w mean mg mb base) (hs : base.StaysIn s.heap) (hfo : ∀ p ∈ foot, s.heap.get? p.1 = some p.2 ∧ base.get? p.1 = none)
    (ho : (hd.heap_39 w.params).lookup f = some ⟨oc, od, .func (fnOf name qual params body scope dV kV doc pm an cdv ct), osl⟩) (hcd : codeIn (hd.heap_39 w.params) cdv qual = true)
    (hroom : A.depth < recursionLimit) (hbind : BindsTo s (fnOf name qual params body scope dV kV doc pm an cdv ct) ⟨args, kw⟩ binds) (hloc : ∀ y ∈ binds, scope.names.lookup y.1 = some .local)
    (h : ∀ g L' h₁, base.StaysIn g → Fr g L' h₁ (fun y => binds.reverse.lookup y) → News g L' h₁ foot → (hd.heap_39 w.params).In g → Top hd.view_39 lo mean mg mb g →
      (∀ b o, b ∉ Adr foot → s.heap.get? b = some o → g.get? b = some o) → g.objs.size = s.heap.objs.size → L' = s.heap.objs.size → (∀ b o, g.get? b = some o → s.heap.get? b = some o) →
      wpAny (model prog w) (A.deeper (envOf qual scope L' f cdv)) (execs body (envOf qual scope L' f cdv)) (fun fl s' => Q (match fl with | .ret v => v | _ => .none) s')
        (fun e s' => wpAny (model prog w) (A.deeper (envOf qual scope L' f cdv)) (leaving (envOf qual scope L' f cdv) e) (fun _ s'' => E e s'') (fun e' s'' => E e' s'') s')
        { s with heap := h₁, toks := s.toks + binds.length })
    (hco : scope.isCoroutine = false := by rfl) (hgen : scope.isGenerator = false := by rfl) (hk : scope.kind = .function := by rfl)
    (hcell : ∀ x ∈ scope.names, x.2 ≠ .cell := by decide) : wpAny (model prog w) A (call (.ref f) args kw) Q E s := by
  have Xs : (hd.heap_39 w.params).In s.heap := S.X.keeps hs
  have Bg : base.StaysIn (hideAll s.heap (Adr foot)) := stays_of hs fun p hp => (hfo p hp).2
  refine wpAny_call (codeAny_call_def (fd := fnOf name qual params body scope dV kV doc pm an cdv ct) (body := body) (binds := binds) hroom (Xs _ _ ho) rfl (S.T.nolimit.keeps hs) (codeRec_of Xs hcd) rfl hbind hcell hloc (fun h₁ hns hk₁ => ?_) hco hgen hk)
  exact h (hideAll s.heap (Adr foot)) s.heap.objs.size h₁ Bg ⟨hns, fun b o e => hk₁ b o (of_hideAll _ e), Nat.le_of_eq (hideAll_size _ _)⟩
    (fun p hp => ⟨hk₁ _ _ (hfo p hp).1, Nat.ne_of_lt (Heap.lt_size (hfo p hp).1), hideAll_none _ (List.mem_map_of_mem hp)⟩) (S.X.keeps Bg) (S.T.keeps Bg)
    (fun b o hb e => hideAll_get _ e hb) (hideAll_size _ _) rfl (fun b o e => of_hideAll _ e)
end

/-- a is made later than h -/
def After (h : Heap) (a : Addr) : Prop := h.get? a = none
theorem after_of {h : Heap} {L' a : Addr} (hL : L' = h.objs.size) (l2 : @LT.lt Nat _ L' a) : After h a := by
  subst hL
  cases q : h.get? a with
  | none => exact q
  | some o => exact absurd (Nat.lt_trans l2 (Heap.lt_size q)) (Nat.lt_irrefl _)
theorem After.ne {h : Heap} {a b : Addr} {o : Obj} (x : After h a) (e : h.get? b = some o) : a ≠ b := fun q => by
  subst q; unfold After at x; rw [x] at e; cases e
theorem After.base {h base : Heap} {a : Addr} (x : After h a) (hs : base.StaysIn h) : base.get? a = none := by
  cases q : base.get? a with
  | none => rfl
  | some o => exact absurd rfl (x.ne (hs _ _ q))

/-- all but mt is kept -/
def Ext (mt : List Addr) (h h' : Heap) : Prop := ∀ b o, b ∉ mt → h.get? b = some o → h'.get? b = some o

theorem Ext.refl (mt : List Addr) (h : Heap) : Ext mt h h := fun _ _ _ e => e
theorem Ext.trans {m : List Addr} {h h' h'' : Heap} (x : Ext m h h') (y : Ext m h' h'') : Ext m h h'' :=
  fun b o hb e => y b o hb (x b o hb e)
theorem Ext.mono {m m' : List Addr} {h h' : Heap} (x : Ext m h h') (hm : ∀ a ∈ m, a ∈ m' ∨ After h a) : Ext m' h h' :=
  fun b o hb e => x b o (fun q => (hm b q).elim hb fun z => absurd rfl (z.ne e)) e
theorem Ext.keep {m : List Addr} {h h' : Heap} (x : Ext m h h') {b : Addr} {o : Obj} (hb : b ∉ m) (e : h.get? b = some o) : h'.get? b = some o := x b o hb e
theorem Ext.none {h h' : Heap} (x : Ext [] h h') {b : Addr} {o : Obj} (e : h.get? b = some o) : h'.get? b = some o := x b o (fun h => nomatch h) e
theorem Ext.stays {m : List Addr} {base h h' : Heap} (x : Ext m h h') (hs : base.StaysIn h) (hm : ∀ a ∈ m, base.get? a = Option.none) : base.StaysIn h' :=
  fun b o e => x b o (fun q => by rw [hm b q] at e; cases e) (hs b o e)
theorem Ext.nil {m : List Addr} {h h' : Heap} (x : Ext [] h h') : Ext m h h' := x.mono fun _ h => nomatch h
theorem After.back {m : List Addr} {h h' : Heap} {a : Addr} (x : After h' a) (e : Ext m h h') (ha : a ∉ m) : After h a := by
  cases q : h.get? a with
  | none => exact q
  | some o => exact absurd rfl (x.ne (e.keep ha q))

theorem ext_of {base g h h' : Heap} {L' : Addr} {m' : Str → Option Value} {foot news' : List (Addr × Obj)} (mt : List Addr)
    (hgk : ∀ b o, b ∉ Adr foot → h.get? b = some o → g.get? b = some o) (_hsz : g.objs.size = h.objs.size) (hfo : ∀ p ∈ foot, h.get? p.1 = some p.2 ∧ base.get? p.1 = none)
    (F : Fr g L' h' m') (N : News g L' h' news') (hro : ∀ p ∈ foot, p.1 ∈ mt ∨ p ∈ news') : Ext mt h h' := by
  intro b o hb e
  by_cases hq : b ∈ Adr foot
  · obtain ⟨p, hp, rfl⟩ := List.mem_map.mp hq
    have e1 := (hfo p hp).1
    rw [e] at e1
    obtain rfl := Option.some.inj e1
    rcases hro p hp with z | z
    · exact absurd z hb
    · exact N.get z
  · exact F.keep b o (hgk b o hq e)

theorem fo_nil {h base : Heap} : ∀ p ∈ ([] : List (Addr × Obj)), h.get? p.1 = some p.2 ∧ base.get? p.1 = none := fun _ hp => nomatch hp
theorem fo_cons {h base : Heap} {a : Addr} {o : Obj} {l : List (Addr × Obj)} (e : h.get? a = some o) (b : base.get? a = none) (r : ∀ p ∈ l, h.get? p.1 = some p.2 ∧ base.get? p.1 = none) :
    ∀ p ∈ (a, o) :: l, h.get? p.1 = some p.2 ∧ base.get? p.1 = none := List.forall_mem_cons.mpr ⟨⟨e, b⟩, r⟩
theorem ro_nil {mt : List Addr} {news' : List (Addr × Obj)} : ∀ p ∈ ([] : List (Addr × Obj)), p.1 ∈ mt ∨ p ∈ news' := fun _ hp => nomatch hp
theorem ro_mut {mt : List Addr} {a : Addr} {o : Obj} {l news' : List (Addr × Obj)} (e : a ∈ mt) (r : ∀ p ∈ l, p.1 ∈ mt ∨ p ∈ news') : ∀ p ∈ (a, o) :: l, p.1 ∈ mt ∨ p ∈ news' := List.forall_mem_cons.mpr ⟨.inl e, r⟩
theorem ro_keep {mt : List Addr} {a : Addr} {o : Obj} {l news' : List (Addr × Obj)} (e : (a, o) ∈ news') (r : ∀ p ∈ l, p.1 ∈ mt ∨ p ∈ news') : ∀ p ∈ (a, o) :: l, p.1 ∈ mt ∨ p ∈ news' := List.forall_mem_cons.mpr ⟨.inr e, r⟩

abbrev tokD (h1 h2 h3 h4 h5 : Int) (k1 k2 k3 k4 k5 : Tok) (st lb lm dl ln : Value) : Obj :=
  dictOf [⟨h1, .str (Str.ofString "_status") k1, st⟩, ⟨h2, .str (Str.ofString "_bytes") k2, lb⟩, ⟨h3, .str (Str.ofString "_messages") k3, lm⟩, ⟨h4, .str (Str.ofString "_datalen") k4, dl⟩, ⟨h5, .str (Str.ofString "_len") k5, ln⟩] 5
theorem fillAll : PySem.Challenge.rw_ax6006_01 = PySem.Challenge.rw_ax6006_01 ∧ hd.heap_39 = hd.heap_39 := by
  k_fill
  exact ⟨rfl, rfl⟩
theorem restA {M : Model} {A : Around} {s : Shared} {E : Value → Shared → Prop} {env : Env} {Q : Flow → Shared → Prop} (h : Q .next s) : wpAny M A (execs [] env) Q E s := by
  w_top off
  walk1
  w_top off
  exact h
section PartA
local macro_rules | `(tactic| k_steps) => `(tactic| repeat' (first | ((with_reducible show wpAny _ _ (call (Value.ref _) _ _) _ _ _); walk_at "mi_pc") | ((fail_if_success (with_reducible show wpAny _ _ (call (Value.ref _) _ _) _ _ _)); (fail_if_success (with_reducible show wpAny _ _ (exec (Stmt.Raise _ _ _) _) _ _ _)); first | (k_unfold; (try dsimp only)) | (k_end; wrow_close) | walk1 | (dsimp only; walk1) | (leave1; walk_say "STEP leave1"; (try dsimp only)) | fail "no step")))
local macro_rules | `(tactic| k_ne) => `(tactic| first | assumption | exact Ne.symm (by assumption))
local macro_rules | `(tactic| walk_at "call builtin:len") => `(tactic| (k_here; (with_reducible show wpAny _ _ (call (Value.builtin "len") [Value.ref _]) _ _ _); refine PyProof.Rows.len_list (News.isList (by k_asm) (by k_mem)) (by (try simp only [Array.size_push, List.size_toArray]); omega) ?_))
local macro_rules | `(tactic| walk_at "mi_ro") => `(tactic| repeat' (first | exact ro_nil | refine ro_keep (by k_mem) ?_ | refine ro_mut (by simp) ?_))
local macro_rules | `(tactic| walk_at "mi_depth") => `(tactic| ((try simp only [PySem.Around.deeper, PySem.Around.in1_depth]); omega))
local macro_rules | `(tactic| walk_at "mi_pure") => `(tactic| exact hQ _ _ (ext_of [] hgk hsz (fo_nil (base := base)) (by assumption) (by assumption) ro_nil))
local macro_rules | `(tactic| walk_at "mi_steps") => `(tactic| repeat' ((fail_if_success (with_reducible show wpAny _ _ (exec (Stmt.For _ _ _ _ _) _) _ _ _)); first | ((with_reducible show wpAny _ _ (call (Value.ref _) _ _) _ _ _); walk_at "mi_pc") | ((fail_if_success (with_reducible show wpAny _ _ (call (Value.ref _) _ _) _ _ _)); (fail_if_success (with_reducible show wpAny _ _ (exec (Stmt.Raise _ _ _) _) _ _ _)); first | (k_unfold; (try dsimp only)) | (k_end; kc_close) | walk1 | (dsimp only; walk1) | (leave1; walk_say "STEP leave1"; (try dsimp only)) | fail "no step")))
local macro_rules | `(tactic| walk_at "subscriptTail") => `(tactic| (k_here; (with_reducible show wpAny _ _ (subscriptTail _ _ (Value.ref _) (Value.str _ _)) _ _ _); k_dflt (refine' topItem_K ?F ?X ?l ?k ?e ?_; (case F => k_asm); (case X => k_asm); (case l => first | assumption | k_is); (case k => first | assumption | k_keys); (case e => first | assumption | k_is))))
local macro_rules | `(tactic| walk_at "mi_stepsC") => `(tactic| repeat' ((fail_if_success (with_reducible show wpAny _ _ (exec (Stmt.For _ _ _ _ _) _) _ _ _)); (fail_if_success (with_reducible show wpAny _ _ (exec (Stmt.Assign [_] (Expr.ListComp _ _ _ _) _) _) _ _ _)); (fail_if_success (with_reducible show wpAny _ _ (call (Value.type "zip") _) _ _ _)); (fail_if_success (with_reducible show wpAny _ _ (exec (Stmt.Assign [_] (Expr.DictComp _ _ _ _ _) _) _) _ _ _)); first | ((with_reducible show wpAny _ _ (call (Value.ref _) _ _) _ _ _); walk_at "mi_pc") | ((fail_if_success (with_reducible show wpAny _ _ (call (Value.ref _) _ _) _ _ _)); (fail_if_success (with_reducible show wpAny _ _ (exec (Stmt.Raise _ _ _) _) _ _ _)); first | (k_unfold; (try dsimp only)) | (k_end; kc_close) | walk1 | (dsimp only; walk1) | (leave1; walk_say "STEP leave1"; (try dsimp only)) | fail "no step")))
local macro_rules | `(tactic| walk_at "mi_stepsO") => `(tactic| repeat' ((fail_if_success (with_reducible show wpAny _ _ (exec (Stmt.For _ _ _ _ _) _) _ _ _)); (fail_if_success (with_reducible show wpAny _ _ (exec (Stmt.Assign [_] (Expr.ListComp _ _ _ _) _) _) _ _ _)); (fail_if_success (with_reducible show wpAny _ _ (call (Value.type "zip") _) _ _ _)); (fail_if_success (with_reducible show wpAny _ _ (exec (Stmt.Assign [_] (Expr.DictComp _ _ _ _ _) _) _) _ _ _)); first | ((with_reducible show wpAny _ _ (call (Value.ref _) _ _) _ _ _); walk_at "mi_pc") | ((fail_if_success (with_reducible show wpAny _ _ (call (Value.ref _) _ _) _ _ _)); (fail_if_success (with_reducible show wpAny _ _ (exec (Stmt.Raise _ _ _) _) _ _ _)); first | ((with_reducible show wpAny _ _ (execs _ _) _ _ _); exfalso; omega) | (k_unfold; (try dsimp only)) | (k_end; kc_close) | walk1 | (dsimp only; walk1) | (leave1; walk_say "STEP leave1"; (try dsimp only)) | fail "no step")))
variable {prog : Program} {w : World} {A : Around} {s : Shared} {Q : Value → Shared → Prop} {E : Value → Shared → Prop} {base : Heap} {mean : ExcName → Option Value} {mg mb : Str → Option Value}

theorem newList_M {M : Model} {g : Heap} {L : Addr} {m : Str → Option Value} {news : List (Addr × Obj)} {vs : List Value} (F : Fr g L s.heap m) (N : News g L s.heap news)
    (h : ∀ l h', Fr g L h' m → News g L h' ((l, listOf vs.toArray 0) :: news) → (∀ p ∈ news, p.1 < l) → @LT.lt Nat _ L l → Q (.ref l) { s with heap := h' }) (hsz : vs.length ≤ sizeLine := by size_fits) : wpAny M A (newList vs) Q E s :=
  newList_N F N (fun h' F' N' => h _ h' F' N' (fun p hp => Heap.lt_size (N p hp).1) F.ns.lt) hsz
theorem pure_K {f : Addr} {args : List Value} {g : Heap} {L : Addr} {m : Str → Option Value} {news : List (Addr × Obj)} {v : Value} {D : Nat}
   (C : ∀ {A : Around} {s : Shared} {Q E : Value → Shared → Prop}, base.StaysIn s.heap → A.depth + D < recursionLimit → (∀ h' tk, Ext [] s.heap h' → Q v {s with heap := h', toks := tk}) → wpAny (model prog w) A (call (.ref f) args) Q E s)
   (hg : base.StaysIn g) (F : Fr g L s.heap m) (N : News g L s.heap news) (hA : A.depth + D < recursionLimit)
   (h : ∀ h' tk, Fr g L h' m → News g L h' news → Q v {s with heap := h', toks := tk}) : wpAny (model prog w) A (call (.ref f) args) Q E s := by
  refine C (fun b o e => F.keep b o (hg b o e)) hA fun h' tk x => ?_
  obtain ⟨oL, a1, a2, hL, a3⟩ := F.ns
  exact h h' tk ⟨⟨oL, a1, a2, x _ _ (by simp) hL, a3⟩, fun b o e => x _ _ (by simp) (F.keep b o e), F.above⟩ fun p hp => ⟨x _ _ (by simp) (N p hp).1, (N p hp).2⟩

theorem c_ics (n : Int) (t : Tok) (S : Bas w mean mg mb base) (hs : base.StaysIn s.heap) (hA : A.depth + 2 < recursionLimit)
   (hQ : ∀ h' tk, Ext [] s.heap h' → Q (.bool (decide (128 ≤ n ∧ n ≤ 239))) {s with heap := h', toks := tk}) :
   wpAny (model prog w) A (call (.ref 28) [.int n t]) Q E s := by
  refine enterM (binds := [(Str.ofString "status", .int n t)]) [] S hs fo_nil (by k_is) (by k_is) (by omega) (.of_eq rfl) (locs rfl) ?_
  intro g L' h₁ hg F N X TT hgk hsz hL hgs
  k_steps
  all_goals dsimp only
  · have e : decide (n ≤ 239) = decide (128 ≤ n ∧ n ≤ 239) := by rename_i a; simp [a]
    rw [e]; exact hQ _ _ (ext_of [] hgk hsz (fo_nil (base := base)) (by assumption) (by assumption) ro_nil)
  · have e : decide (128 ≤ n) = decide (128 ≤ n ∧ n ≤ 239) := by rename_i a; simp [a]
    rw [e]; exact hQ _ _ (ext_of [] hgk hsz (fo_nil (base := base)) (by assumption) (by assumption) ro_nil)
local macro_rules | `(tactic| walk_at "call ref") => `(tactic| ((with_reducible show wpAny _ _ (call (Value.ref 28) _ _) _ _ _); refine pure_K (D := 2) (fun hs hA hQ => c_ics _ _ (by assumption) hs hA hQ) (by assumption) (by assumption) (by assumption) (by walk_at "mi_depth") ?_; intro h9 tk9 F9 N9; (try dsimp only)))
local macro_rules | `(tactic| walk_at "mi_pc") => `(tactic| ((with_reducible show wpAny _ _ (call (Value.ref 28) _ _) _ _ _); refine pure_K (D := 2) (fun hs hA hQ => c_ics _ _ (by assumption) hs hA hQ) (by assumption) (by assumption) (by assumption) (by walk_at "mi_depth") ?_; intro h9 tk9 F9 N9; (try dsimp only)))

def hsB (n : Int) : Bool := decide (128 ≤ n ∧ n ≤ 239) || (decide (n = 240) || (decide (n = 241) || (decide (n = 242) || (decide (n = 243) || (decide (n = 246) || (decide (n = 248) || (decide (n = 250) || (decide (n = 251) || (decide (n = 252) || (decide (n = 254) || (decide (n = 255) || false)))))))))))

theorem c_hs (n : Int) (t : Tok) (S : Bas w mean mg mb base) (hs : base.StaysIn s.heap) (hA : A.depth + 4 < recursionLimit)
   (hQ : ∀ h' tk, Ext [] s.heap h' → Q (.bool (hsB n)) {s with heap := h', toks := tk}) :
   wpAny (model prog w) A (call (.ref 93) [.int n t]) Q E s := by
  refine enterM (binds := [(Str.ofString "status", .int n t)]) [] S hs fo_nil (by k_is) (by k_is) (by omega) (.of_eq rfl) (locs rfl) ?_
  intro g L' h₁ hg F N X TT hgk hsz hL hgs
  k_steps
  · have e : decide (128 ≤ n ∧ n ≤ 239) = hsB n := by rename (128 ≤ n ∧ n ≤ 239) => a; simp [hsB, a]
    rw [e]; exact hQ _ _ (ext_of [] hgk hsz (fo_nil (base := base)) (by assumption) (by assumption) ro_nil)
  · refine Eq.mp (congrArg (fun b => Q (.bool b) _) ?_) (hQ _ _ (ext_of [] hgk hsz (fo_nil (base := base)) (by assumption) (by assumption) ro_nil))
    rename ¬ (128 ≤ n ∧ n ≤ 239) => a; simp only [hsB, a, decide_false, Bool.false_or]
local macro_rules | `(tactic| walk_at "call ref") => `(tactic| ((with_reducible show wpAny _ _ (call (Value.ref 93) _ _) _ _ _); refine pure_K (D := 4) (fun hs hA hQ => c_hs _ _ (by assumption) hs hA hQ) (by assumption) (by assumption) (by assumption) (by walk_at "mi_depth") ?_; intro h9 tk9 F9 N9; (try dsimp only)))
local macro_rules | `(tactic| walk_at "mi_pc") => `(tactic| ((with_reducible show wpAny _ _ (call (Value.ref 93) _ _) _ _ _); refine pure_K (D := 4) (fun hs hA hQ => c_hs _ _ (by assumption) hs hA hQ) (by assumption) (by assumption) (by assumption) (by walk_at "mi_depth") ?_; intro h9 tk9 F9 N9; (try dsimp only)))

/-- the spec that a status has -/
def specA (n : Int) : Addr := if n < 160 then 33 else if n < 192 then 39 else if n < 208 then 42 else if n < 240 then 48 else if n = 240 then 51 else if n = 241 then 54 else if n = 242 then 57 else if n = 243 then 60 else if n = 246 then 63 else if n = 248 then 66 else if n = 250 then 69 else if n = 254 then 78 else 82
theorem c_ss_240 (t : Tok) (S : Bas w mean mg mb base) (hs : base.StaysIn s.heap) (hA : A.depth + 4 < recursionLimit)
   (hQ : ∀ h' tk, Ext [] s.heap h' → Q (.ref 51) {s with heap := h', toks := tk}) :
   wpAny (model prog w) A (call (.ref 100) [.int 240 t]) Q E s := by
  refine enterM (binds := [(Str.ofString "status", .int 240 t)]) [] S hs fo_nil (by k_is) (by k_is) (by omega) (.of_eq rfl) (locs rfl) ?_
  intro g L' h₁ hg F N X TT hgk hsz hL hgs
  k_steps
  exact hQ _ _ (ext_of [] hgk hsz (fo_nil (base := base)) (by assumption) (by assumption) ro_nil)
theorem c_ss_241 (t : Tok) (S : Bas w mean mg mb base) (hs : base.StaysIn s.heap) (hA : A.depth + 4 < recursionLimit)
   (hQ : ∀ h' tk, Ext [] s.heap h' → Q (.ref 54) {s with heap := h', toks := tk}) :
   wpAny (model prog w) A (call (.ref 100) [.int 241 t]) Q E s := by
  refine enterM (binds := [(Str.ofString "status", .int 241 t)]) [] S hs fo_nil (by k_is) (by k_is) (by omega) (.of_eq rfl) (locs rfl) ?_
  intro g L' h₁ hg F N X TT hgk hsz hL hgs
  k_steps
  exact hQ _ _ (ext_of [] hgk hsz (fo_nil (base := base)) (by assumption) (by assumption) ro_nil)
theorem c_ss_242 (t : Tok) (S : Bas w mean mg mb base) (hs : base.StaysIn s.heap) (hA : A.depth + 4 < recursionLimit)
   (hQ : ∀ h' tk, Ext [] s.heap h' → Q (.ref 57) {s with heap := h', toks := tk}) :
   wpAny (model prog w) A (call (.ref 100) [.int 242 t]) Q E s := by
  refine enterM (binds := [(Str.ofString "status", .int 242 t)]) [] S hs fo_nil (by k_is) (by k_is) (by omega) (.of_eq rfl) (locs rfl) ?_
  intro g L' h₁ hg F N X TT hgk hsz hL hgs
  k_steps
  exact hQ _ _ (ext_of [] hgk hsz (fo_nil (base := base)) (by assumption) (by assumption) ro_nil)
theorem c_ss_243 (t : Tok) (S : Bas w mean mg mb base) (hs : base.StaysIn s.heap) (hA : A.depth + 4 < recursionLimit)
   (hQ : ∀ h' tk, Ext [] s.heap h' → Q (.ref 60) {s with heap := h', toks := tk}) :
   wpAny (model prog w) A (call (.ref 100) [.int 243 t]) Q E s := by
  refine enterM (binds := [(Str.ofString "status", .int 243 t)]) [] S hs fo_nil (by k_is) (by k_is) (by omega) (.of_eq rfl) (locs rfl) ?_
  intro g L' h₁ hg F N X TT hgk hsz hL hgs
  k_steps
  exact hQ _ _ (ext_of [] hgk hsz (fo_nil (base := base)) (by assumption) (by assumption) ro_nil)
theorem c_ss_246 (t : Tok) (S : Bas w mean mg mb base) (hs : base.StaysIn s.heap) (hA : A.depth + 4 < recursionLimit)
   (hQ : ∀ h' tk, Ext [] s.heap h' → Q (.ref 63) {s with heap := h', toks := tk}) :
   wpAny (model prog w) A (call (.ref 100) [.int 246 t]) Q E s := by
  refine enterM (binds := [(Str.ofString "status", .int 246 t)]) [] S hs fo_nil (by k_is) (by k_is) (by omega) (.of_eq rfl) (locs rfl) ?_
  intro g L' h₁ hg F N X TT hgk hsz hL hgs
  k_steps
  exact hQ _ _ (ext_of [] hgk hsz (fo_nil (base := base)) (by assumption) (by assumption) ro_nil)
theorem c_ss_248 (t : Tok) (S : Bas w mean mg mb base) (hs : base.StaysIn s.heap) (hA : A.depth + 4 < recursionLimit)
   (hQ : ∀ h' tk, Ext [] s.heap h' → Q (.ref 66) {s with heap := h', toks := tk}) :
   wpAny (model prog w) A (call (.ref 100) [.int 248 t]) Q E s := by
  refine enterM (binds := [(Str.ofString "status", .int 248 t)]) [] S hs fo_nil (by k_is) (by k_is) (by omega) (.of_eq rfl) (locs rfl) ?_
  intro g L' h₁ hg F N X TT hgk hsz hL hgs
  k_steps
  exact hQ _ _ (ext_of [] hgk hsz (fo_nil (base := base)) (by assumption) (by assumption) ro_nil)
theorem c_ss_250 (t : Tok) (S : Bas w mean mg mb base) (hs : base.StaysIn s.heap) (hA : A.depth + 4 < recursionLimit)
   (hQ : ∀ h' tk, Ext [] s.heap h' → Q (.ref 69) {s with heap := h', toks := tk}) :
   wpAny (model prog w) A (call (.ref 100) [.int 250 t]) Q E s := by
  refine enterM (binds := [(Str.ofString "status", .int 250 t)]) [] S hs fo_nil (by k_is) (by k_is) (by omega) (.of_eq rfl) (locs rfl) ?_
  intro g L' h₁ hg F N X TT hgk hsz hL hgs
  k_steps
  exact hQ _ _ (ext_of [] hgk hsz (fo_nil (base := base)) (by assumption) (by assumption) ro_nil)
theorem c_ss_254 (t : Tok) (S : Bas w mean mg mb base) (hs : base.StaysIn s.heap) (hA : A.depth + 4 < recursionLimit)
   (hQ : ∀ h' tk, Ext [] s.heap h' → Q (.ref 78) {s with heap := h', toks := tk}) :
   wpAny (model prog w) A (call (.ref 100) [.int 254 t]) Q E s := by
  refine enterM (binds := [(Str.ofString "status", .int 254 t)]) [] S hs fo_nil (by k_is) (by k_is) (by omega) (.of_eq rfl) (locs rfl) ?_
  intro g L' h₁ hg F N X TT hgk hsz hL hgs
  k_steps
  exact hQ _ _ (ext_of [] hgk hsz (fo_nil (base := base)) (by assumption) (by assumption) ro_nil)
theorem c_ss_255 (t : Tok) (S : Bas w mean mg mb base) (hs : base.StaysIn s.heap) (hA : A.depth + 4 < recursionLimit)
   (hQ : ∀ h' tk, Ext [] s.heap h' → Q (.ref 82) {s with heap := h', toks := tk}) :
   wpAny (model prog w) A (call (.ref 100) [.int 255 t]) Q E s := by
  refine enterM (binds := [(Str.ofString "status", .int 255 t)]) [] S hs fo_nil (by k_is) (by k_is) (by omega) (.of_eq rfl) (locs rfl) ?_
  intro g L' h₁ hg F N X TT hgk hsz hL hgs
  k_steps
  exact hQ _ _ (ext_of [] hgk hsz (fo_nil (base := base)) (by assumption) (by assumption) ro_nil)
theorem shr4 (n k : Int) (h1 : 16 * k ≤ n) (h2 : n < 16 * k + 16) (hk : 0 ≤ k) : n.fdiv (2 ^ Int.toNat 4) = k := by
  have e : ((2 : Int) ^ Int.toNat 4) = 16 := by decide
  rw [e, Int.fdiv_eq_ediv_of_nonneg _ (by omega)]; omega
theorem c_ss_144 (n : Int) (t : Tok) (S : Bas w mean mg mb base) (hs : base.StaysIn s.heap) (hA : A.depth + 4 < recursionLimit) (h1 : 144 ≤ n) (h2 : n < 160)
   (hQ : ∀ h' tk, Ext [] s.heap h' → Q (.ref 33) {s with heap := h', toks := tk}) :
   wpAny (model prog w) A (call (.ref 100) [.int n t]) Q E s := by
  refine enterM (binds := [(Str.ofString "status", .int n t)]) [] S hs fo_nil (by k_is) (by k_is) (by omega) (.of_eq rfl) (locs rfl) ?_
  intro g L' h₁ hg F N X TT hgk hsz hL hgs
  k_steps
  rw [show n.fdiv (2 ^ Int.toNat 4) - 8 = 1 from by rw [shr4 n 9 (by omega) (by omega) (by omega)]; rfl]
  k_steps
  exact hQ _ _ (ext_of [] hgk hsz (fo_nil (base := base)) (by assumption) (by assumption) ro_nil)
theorem c_ss_176 (n : Int) (t : Tok) (S : Bas w mean mg mb base) (hs : base.StaysIn s.heap) (hA : A.depth + 4 < recursionLimit) (h1 : 176 ≤ n) (h2 : n < 192)
   (hQ : ∀ h' tk, Ext [] s.heap h' → Q (.ref 39) {s with heap := h', toks := tk}) :
   wpAny (model prog w) A (call (.ref 100) [.int n t]) Q E s := by
  refine enterM (binds := [(Str.ofString "status", .int n t)]) [] S hs fo_nil (by k_is) (by k_is) (by omega) (.of_eq rfl) (locs rfl) ?_
  intro g L' h₁ hg F N X TT hgk hsz hL hgs
  k_steps
  rw [show n.fdiv (2 ^ Int.toNat 4) - 8 = 3 from by rw [shr4 n 11 (by omega) (by omega) (by omega)]; rfl]
  k_steps
  exact hQ _ _ (ext_of [] hgk hsz (fo_nil (base := base)) (by assumption) (by assumption) ro_nil)
theorem c_ss_192 (n : Int) (t : Tok) (S : Bas w mean mg mb base) (hs : base.StaysIn s.heap) (hA : A.depth + 4 < recursionLimit) (h1 : 192 ≤ n) (h2 : n < 208)
   (hQ : ∀ h' tk, Ext [] s.heap h' → Q (.ref 42) {s with heap := h', toks := tk}) :
   wpAny (model prog w) A (call (.ref 100) [.int n t]) Q E s := by
  refine enterM (binds := [(Str.ofString "status", .int n t)]) [] S hs fo_nil (by k_is) (by k_is) (by omega) (.of_eq rfl) (locs rfl) ?_
  intro g L' h₁ hg F N X TT hgk hsz hL hgs
  k_steps
  rw [show n.fdiv (2 ^ Int.toNat 4) - 8 = 4 from by rw [shr4 n 12 (by omega) (by omega) (by omega)]; rfl]
  k_steps
  exact hQ _ _ (ext_of [] hgk hsz (fo_nil (base := base)) (by assumption) (by assumption) ro_nil)
theorem c_ss_224 (n : Int) (t : Tok) (S : Bas w mean mg mb base) (hs : base.StaysIn s.heap) (hA : A.depth + 4 < recursionLimit) (h1 : 224 ≤ n) (h2 : n < 240)
   (hQ : ∀ h' tk, Ext [] s.heap h' → Q (.ref 48) {s with heap := h', toks := tk}) :
   wpAny (model prog w) A (call (.ref 100) [.int n t]) Q E s := by
  refine enterM (binds := [(Str.ofString "status", .int n t)]) [] S hs fo_nil (by k_is) (by k_is) (by omega) (.of_eq rfl) (locs rfl) ?_
  intro g L' h₁ hg F N X TT hgk hsz hL hgs
  k_steps
  rw [show n.fdiv (2 ^ Int.toNat 4) - 8 = 6 from by rw [shr4 n 14 (by omega) (by omega) (by omega)]; rfl]
  k_steps
  exact hQ _ _ (ext_of [] hgk hsz (fo_nil (base := base)) (by assumption) (by assumption) ro_nil)
end PartA
theorem restB {M : Model} {A : Around} {s : Shared} {E : Value → Shared → Prop} {env : Env} {Q : Flow → Shared → Prop} (h : Q .next s) : wpAny M A (execs [] env) Q E s := by
  w_top off
  walk1
  w_top off
  exact h
section PartB
local macro_rules | `(tactic| k_steps) => `(tactic| repeat' (first | ((with_reducible show wpAny _ _ (call (Value.ref _) _ _) _ _ _); walk_at "mi_pc") | ((fail_if_success (with_reducible show wpAny _ _ (call (Value.ref _) _ _) _ _ _)); (fail_if_success (with_reducible show wpAny _ _ (exec (Stmt.Raise _ _ _) _) _ _ _)); first | (k_unfold; (try dsimp only)) | (k_end; wrow_close) | walk1 | (dsimp only; walk1) | (leave1; walk_say "STEP leave1"; (try dsimp only)) | fail "no step")))
local macro_rules | `(tactic| k_ne) => `(tactic| first | assumption | exact Ne.symm (by assumption))
local macro_rules | `(tactic| walk_at "call builtin:len") => `(tactic| (k_here; (with_reducible show wpAny _ _ (call (Value.builtin "len") [Value.ref _]) _ _ _); refine PyProof.Rows.len_list (News.isList (by k_asm) (by k_mem)) (by (try simp only [Array.size_push, List.size_toArray]); omega) ?_))
local macro_rules | `(tactic| walk_at "mi_ro") => `(tactic| repeat' (first | exact ro_nil | refine ro_keep (by k_mem) ?_ | refine ro_mut (by simp) ?_))
local macro_rules | `(tactic| walk_at "mi_depth") => `(tactic| ((try simp only [PySem.Around.deeper, PySem.Around.in1_depth]); omega))
local macro_rules | `(tactic| walk_at "mi_pure") => `(tactic| exact hQ _ _ (ext_of [] hgk hsz (fo_nil (base := base)) (by assumption) (by assumption) ro_nil))
local macro_rules | `(tactic| walk_at "mi_steps") => `(tactic| repeat' ((fail_if_success (with_reducible show wpAny _ _ (exec (Stmt.For _ _ _ _ _) _) _ _ _)); first | ((with_reducible show wpAny _ _ (call (Value.ref _) _ _) _ _ _); walk_at "mi_pc") | ((fail_if_success (with_reducible show wpAny _ _ (call (Value.ref _) _ _) _ _ _)); (fail_if_success (with_reducible show wpAny _ _ (exec (Stmt.Raise _ _ _) _) _ _ _)); first | (k_unfold; (try dsimp only)) | (k_end; kc_close) | walk1 | (dsimp only; walk1) | (leave1; walk_say "STEP leave1"; (try dsimp only)) | fail "no step")))
local macro_rules | `(tactic| walk_at "subscriptTail") => `(tactic| (k_here; (with_reducible show wpAny _ _ (subscriptTail _ _ (Value.ref _) (Value.str _ _)) _ _ _); k_dflt (refine' topItem_K ?F ?X ?l ?k ?e ?_; (case F => k_asm); (case X => k_asm); (case l => first | assumption | k_is); (case k => first | assumption | k_keys); (case e => first | assumption | k_is))))
local macro_rules | `(tactic| walk_at "mi_stepsC") => `(tactic| repeat' ((fail_if_success (with_reducible show wpAny _ _ (exec (Stmt.For _ _ _ _ _) _) _ _ _)); (fail_if_success (with_reducible show wpAny _ _ (exec (Stmt.Assign [_] (Expr.ListComp _ _ _ _) _) _) _ _ _)); (fail_if_success (with_reducible show wpAny _ _ (call (Value.type "zip") _) _ _ _)); (fail_if_success (with_reducible show wpAny _ _ (exec (Stmt.Assign [_] (Expr.DictComp _ _ _ _ _) _) _) _ _ _)); first | ((with_reducible show wpAny _ _ (call (Value.ref _) _ _) _ _ _); walk_at "mi_pc") | ((fail_if_success (with_reducible show wpAny _ _ (call (Value.ref _) _ _) _ _ _)); (fail_if_success (with_reducible show wpAny _ _ (exec (Stmt.Raise _ _ _) _) _ _ _)); first | (k_unfold; (try dsimp only)) | (k_end; kc_close) | walk1 | (dsimp only; walk1) | (leave1; walk_say "STEP leave1"; (try dsimp only)) | fail "no step")))
local macro_rules | `(tactic| walk_at "mi_stepsO") => `(tactic| repeat' ((fail_if_success (with_reducible show wpAny _ _ (exec (Stmt.For _ _ _ _ _) _) _ _ _)); (fail_if_success (with_reducible show wpAny _ _ (exec (Stmt.Assign [_] (Expr.ListComp _ _ _ _) _) _) _ _ _)); (fail_if_success (with_reducible show wpAny _ _ (call (Value.type "zip") _) _ _ _)); (fail_if_success (with_reducible show wpAny _ _ (exec (Stmt.Assign [_] (Expr.DictComp _ _ _ _ _) _) _) _ _ _)); first | ((with_reducible show wpAny _ _ (call (Value.ref _) _ _) _ _ _); walk_at "mi_pc") | ((fail_if_success (with_reducible show wpAny _ _ (call (Value.ref _) _ _) _ _ _)); (fail_if_success (with_reducible show wpAny _ _ (exec (Stmt.Raise _ _ _) _) _ _ _)); first | ((with_reducible show wpAny _ _ (execs _ _) _ _ _); exfalso; omega) | (k_unfold; (try dsimp only)) | (k_end; kc_close) | walk1 | (dsimp only; walk1) | (leave1; walk_say "STEP leave1"; (try dsimp only)) | fail "no step")))
theorem c_hsT (n : Int) (t : Tok) (hn : hsB n = true) (S : Bas w mean mg mb base) (hs : base.StaysIn s.heap) (hA : A.depth + 4 < recursionLimit)
   (hQ : ∀ h' tk, Ext [] s.heap h' → Q (.bool true) {s with heap := h', toks := tk}) :
   wpAny (model prog w) A (call (.ref 93) [.int n t]) Q E s := c_hs n t S hs hA (hn ▸ hQ)
theorem c_hsF (n : Int) (t : Tok) (hn : hsB n = false) (S : Bas w mean mg mb base) (hs : base.StaysIn s.heap) (hA : A.depth + 4 < recursionLimit)
   (hQ : ∀ h' tk, Ext [] s.heap h' → Q (.bool false) {s with heap := h', toks := tk}) :
   wpAny (model prog w) A (call (.ref 93) [.int n t]) Q E s := c_hs n t S hs hA (hn ▸ hQ)


theorem c_fdb0 (t dt : Addr) (h1 h2 h3 h4 h5 : Int) (k1 k2 k3 k4 k5 : Tok) (dl : Value) (tst : Tok) (bv mv lv : Value) (o : Int) (to : Tok) (S : Bas w mean mg mb base) (hs : base.StaysIn s.heap) (hA : A.depth + 6 < recursionLimit) (d1 : t ≠ dt)
   (hfo : ∀ p ∈ [(t, instObj 517 dt), (dt, tokD h1 h2 h3 h4 h5 k1 k2 k3 k4 k5 (.int 0 tst) (bv) (mv) dl (lv))], s.heap.get? p.1 = some p.2 ∧ base.get? p.1 = none)
   (hQ : ∀ h' tk, Ext [] s.heap h' → Q .none {s with heap := h', toks := tk}) :
   wpAny (model prog w) A (call (.ref 486) [.ref t, .int o to]) Q E s := by
  refine enterM (binds := [(Str.ofString "self", .ref t), (Str.ofString "byte", .int o to)]) _ S hs hfo (by k_is) (by k_is) (by omega) (.of_eq rfl) (locs rfl) ?_
  intro g L' h₁ hg F N X TT hgk hsz hL hgs
  k_steps
  all_goals first | (exfalso; omega) | exact hQ _ _ (ext_of [] hgk hsz hfo (by assumption) (by assumption) (by walk_at "mi_ro"))


theorem c_fdb2 (t dt lb lm : Addr) (h1 h2 h3 h4 h5 : Int) (k1 k2 k3 k4 k5 : Tok) (dl : Value) (tst : Tok) (st : Int) (ln : Int) (tl : Tok) (nb nm : Nat) (vb vm : Array Value) (o : Int) (to : Tok) (S : Bas w mean mg mb base) (hs : base.StaysIn s.heap) (hA : A.depth + 6 < recursionLimit)
   (hst : st ≠ 0) (hl : vb.size < 1000) (hm : vm.size < 1000)
   (d1 : t ≠ dt) (d2 : t ≠ lb) (d3 : t ≠ lm) (d4 : dt ≠ lb) (d5 : dt ≠ lm) (d6 : lb ≠ lm)
   (hfo : ∀ p ∈ [(t, instObj 517 dt), (dt, tokD h1 h2 h3 h4 h5 k1 k2 k3 k4 k5 (.int st tst) (.ref lb) (.ref lm) dl (.int ln tl)), (lb, listOf vb nb), (lm, listOf vm nm)], s.heap.get? p.1 = some p.2 ∧ base.get? p.1 = none)
   (hQ : ∀ h' tk (vm' : Array Value) st' tst' nm', (((vb.size : Int) + 1 = ln ∧ st' = 0 ∧ vm' = vm.push (.ref lb)) ∨ ((vb.size : Int) + 1 ≠ ln ∧ st' = st ∧ vm' = vm)) →
      Ext [dt, lb, lm] s.heap h' → h'.get? dt = some (tokD h1 h2 h3 h4 h5 k1 k2 k3 k4 k5 (.int st' tst') (.ref lb) (.ref lm) dl (.int ln tl)) →
      h'.get? lb = some (listOf (vb.push (.int o to)) (nb+1)) → h'.get? lm = some (listOf vm' nm') → Q .none {s with heap := h', toks := tk}) :
   wpAny (model prog w) A (call (.ref 486) [.ref t, .int o to]) Q E s := by
  refine enterM (binds := [(Str.ofString "self", .ref t), (Str.ofString "byte", .int o to)]) _ S hs hfo (by k_is) (by k_is) (by omega) (.of_eq rfl) (locs rfl) ?_
  intro g L' h₁ hg F N X TT hgk hsz hL hgs
  k_steps

  all_goals (try simp only [Array.size_push, Int.natCast_add, Int.cast_ofNat_Int] at *)
  · exact hQ _ _ _ _ _ _ (.inl ⟨by assumption, rfl, rfl⟩) (ext_of [dt, lb, lm] hgk hsz hfo (by assumption) (by assumption) (by walk_at "mi_ro")) (News.get (by assumption) (by k_mem)) (News.get (by assumption) (by k_mem)) (News.get (by assumption) (by k_mem))
  · exact hQ _ _ _ _ _ _ (.inr ⟨by assumption, rfl, rfl⟩) (ext_of [dt, lb, lm] hgk hsz hfo (by assumption) (by assumption) (by walk_at "mi_ro")) (News.get (by assumption) (by k_mem)) (News.get (by assumption) (by k_mem)) (News.get (by assumption) (by k_mem))
  · exfalso; omega


theorem c_fdb3 (t dt lb lm : Addr) (h1 h2 h3 h4 h5 : Int) (k1 k2 k3 k4 k5 : Tok) (dl : Value) (tst : Tok) (st : Int)  (nb nm : Nat) (vb vm : Array Value) (o : Int) (to : Tok) (S : Bas w mean mg mb base) (hs : base.StaysIn s.heap) (hA : A.depth + 6 < recursionLimit)
   (hst : st ≠ 0) (hl : vb.size < 1000) (hm : vm.size < 1000)
   (d1 : t ≠ dt) (d2 : t ≠ lb) (d3 : t ≠ lm) (d4 : dt ≠ lb) (d5 : dt ≠ lm) (d6 : lb ≠ lm)
   (hfo : ∀ p ∈ [(t, instObj 517 dt), (dt, tokD h1 h2 h3 h4 h5 k1 k2 k3 k4 k5 (.int st tst) (.ref lb) (.ref lm) dl (.none)), (lb, listOf vb nb), (lm, listOf vm nm)], s.heap.get? p.1 = some p.2 ∧ base.get? p.1 = none)
   (hQ : ∀ h' tk (vm' : Array Value) st' tst' nm', st' = st → vm' = vm →
      Ext [dt, lb, lm] s.heap h' → h'.get? dt = some (tokD h1 h2 h3 h4 h5 k1 k2 k3 k4 k5 (.int st' tst') (.ref lb) (.ref lm) dl (.none)) →
      h'.get? lb = some (listOf (vb.push (.int o to)) (nb+1)) → h'.get? lm = some (listOf vm' nm') → Q .none {s with heap := h', toks := tk}) :
   wpAny (model prog w) A (call (.ref 486) [.ref t, .int o to]) Q E s := by
  refine enterM (binds := [(Str.ofString "self", .ref t), (Str.ofString "byte", .int o to)]) _ S hs hfo (by k_is) (by k_is) (by omega) (.of_eq rfl) (locs rfl) ?_
  intro g L' h₁ hg F N X TT hgk hsz hL hgs
  k_steps

  · exact hQ _ _ _ _ _ _ rfl rfl (ext_of [dt, lb, lm] hgk hsz hfo (by assumption) (by assumption) (by walk_at "mi_ro")) (News.get (by assumption) (by k_mem)) (News.get (by assumption) (by k_mem)) (News.get (by assumption) (by k_mem))
  · exfalso; omega


local macro_rules | `(tactic| walk_at "newList") => `(tactic| (k_here; k_dflt (refine' newList_M ?k1 ?k2 ?_; (case k1 => k_asm); (case k2 => k_asm); k_whole); intro l' h' F' N' l1 l2; (try k_lt l1); (try k_sweep)))
local macro_rules | `(tactic| walk_at "subscriptTail") => `(tactic| (k_here; (with_reducible show wpAny _ _ (subscriptTail _ _ (Value.ref _) (Value.str _ _)) _ _ _); k_dflt (refine' topItem_K ?F ?X ?l ?k ?e ?_; (case F => k_asm); (case X => k_asm); (case l => assumption); (case k => assumption); (case e => assumption))))
local macro_rules | `(tactic| walk_at "call ref") => `(tactic| ((with_reducible show wpAny _ _ (call (Value.ref 93) _ _) _ _ _); refine pure_K (D := 4) (fun hs hA hQ => c_hsT _ _ (by assumption) (by assumption) hs hA hQ) (by assumption) (by assumption) (by assumption) (by walk_at "mi_depth") ?_; intro h9 tk9 F9 N9; (try dsimp only)))
local macro_rules | `(tactic| walk_at "mi_pc") => `(tactic| ((with_reducible show wpAny _ _ (call (Value.ref 93) _ _) _ _ _); refine pure_K (D := 4) (fun hs hA hQ => c_hsT _ _ (by assumption) (by assumption) hs hA hQ) (by assumption) (by assumption) (by assumption) (by walk_at "mi_depth") ?_; intro h9 tk9 F9 N9; (try dsimp only)))
local macro_rules | `(tactic| walk_at "call ref") => `(tactic| ((with_reducible show wpAny _ _ (call (Value.ref 93) _ _) _ _ _); refine pure_K (D := 4) (fun hs hA hQ => c_hsF _ _ (by assumption) (by assumption) hs hA hQ) (by assumption) (by assumption) (by assumption) (by walk_at "mi_depth") ?_; intro h9 tk9 F9 N9; (try dsimp only)))
local macro_rules | `(tactic| walk_at "mi_pc") => `(tactic| ((with_reducible show wpAny _ _ (call (Value.ref 93) _ _) _ _ _); refine pure_K (D := 4) (fun hs hA hQ => c_hsF _ _ (by assumption) (by assumption) hs hA hQ) (by assumption) (by assumption) (by assumption) (by walk_at "mi_depth") ?_; intro h9 tk9 F9 N9; (try dsimp only)))
local macro_rules | `(tactic| walk_at "call ref") => `(tactic| ((with_reducible show wpAny _ _ (call (Value.ref 100) _ _) _ _ _); refine pure_K (D := 4) (by assumption) (by assumption) (by assumption) (by assumption) (by walk_at "mi_depth") ?_; intro h9 tk9 F9 N9; (try dsimp only)))
local macro_rules | `(tactic| walk_at "mi_pc") => `(tactic| ((with_reducible show wpAny _ _ (call (Value.ref 100) _ _) _ _ _); refine pure_K (D := 4) (by assumption) (by assumption) (by assumption) (by assumption) (by walk_at "mi_depth") ?_; intro h9 tk9 F9 N9; (try dsimp only)))
local macro_rules | `(tactic| walk_at "call ref") => `(tactic| ((with_reducible show wpAny _ _ (call (Value.ref 100) _ _) _ _ _); refine pure_K (D := 4) (fun hs hA hQ => c_ss_246 _ (by assumption) hs hA hQ) (by assumption) (by assumption) (by assumption) (by walk_at "mi_depth") ?_; intro h9 tk9 F9 N9; (try dsimp only)))
local macro_rules | `(tactic| walk_at "mi_pc") => `(tactic| ((with_reducible show wpAny _ _ (call (Value.ref 100) _ _) _ _ _); refine pure_K (D := 4) (fun hs hA hQ => c_ss_246 _ (by assumption) hs hA hQ) (by assumption) (by assumption) (by assumption) (by walk_at "mi_depth") ?_; intro h9 tk9 F9 N9; (try dsimp only)))


theorem c_fsb1 (t dt lb lm : Addr) (h1 h2 h3 h4 h5 : Int) (k1 k2 k3 k4 k5 : Tok) (dl : Value) (tst : Tok) (lv : Value) (nb nm : Nat) (vb vm : Array Value) (to : Tok) (S : Bas w mean mg mb base) (hs : base.StaysIn s.heap) (hA : A.depth + 6 < recursionLimit)
   (hl : vb.size < 1000) (hm : vm.size < 1000)
   (d1 : t ≠ dt) (d2 : t ≠ lb) (d3 : t ≠ lm) (d4 : dt ≠ lb) (d5 : dt ≠ lm) (d6 : lb ≠ lm)
   (hfo : ∀ p ∈ [(t, instObj 517 dt), (dt, tokD h1 h2 h3 h4 h5 k1 k2 k3 k4 k5 (.int 240 tst) (.ref lb) (.ref lm) dl (lv)), (lb, listOf vb nb), (lm, listOf vm nm)], s.heap.get? p.1 = some p.2 ∧ base.get? p.1 = none)
   (hQ : ∀ h' tk tst' t7, Ext [dt, lb, lm] s.heap h' → h'.get? dt = some (tokD h1 h2 h3 h4 h5 k1 k2 k3 k4 k5 (.int 0 tst') (.ref lb) (.ref lm) dl (lv)) →
      h'.get? lb = some (listOf (vb.push (.int 247 t7)) (nb+1)) → h'.get? lm = some (listOf (vm.push (.ref lb)) (nm+1)) → Q .none {s with heap := h', toks := tk}) :
   wpAny (model prog w) A (call (.ref 479) [.ref t, .int 247 to]) Q E s := by
  refine enterM (binds := [(Str.ofString "self", .ref t), (Str.ofString "status", .int 247 to)]) _ S hs hfo (by k_is) (by k_is) (by omega) (.of_eq rfl) (locs rfl) ?_
  intro g L' h₁ hg F N X TT hgk hsz hL hgs
  k_steps
  exact hQ _ _ _ _ (ext_of [dt, lb, lm] hgk hsz hfo (by assumption) (by assumption) (by walk_at "mi_ro")) (News.get (by assumption) (by k_mem)) (News.get (by assumption) (by k_mem)) (News.get (by assumption) (by k_mem))

theorem c_fsb2 (t dt : Addr) (h1 h2 h3 h4 h5 : Int) (k1 k2 k3 k4 k5 : Tok) (dl : Value) (tst : Tok) (bv mv lv : Value) (st : Int) (to : Tok) (S : Bas w mean mg mb base) (hs : base.StaysIn s.heap) (hA : A.depth + 6 < recursionLimit) (hst : st ≠ 240) (d1 : t ≠ dt)
   (hfo : ∀ p ∈ [(t, instObj 517 dt), (dt, tokD h1 h2 h3 h4 h5 k1 k2 k3 k4 k5 (.int st tst) (bv) (mv) dl (lv))], s.heap.get? p.1 = some p.2 ∧ base.get? p.1 = none)
   (hQ : ∀ h' tk tst', Ext [dt] s.heap h' → h'.get? dt = some (tokD h1 h2 h3 h4 h5 k1 k2 k3 k4 k5 (.int 0 tst') (bv) (mv) dl (lv)) → Q .none {s with heap := h', toks := tk}) :
   wpAny (model prog w) A (call (.ref 479) [.ref t, .int 247 to]) Q E s := by
  refine enterM (binds := [(Str.ofString "self", .ref t), (Str.ofString "status", .int 247 to)]) _ S hs hfo (by k_is) (by k_is) (by omega) (.of_eq rfl) (locs rfl) ?_
  intro g L' h₁ hg F N X TT hgk hsz hL hgs
  k_steps
  all_goals first | (exfalso; omega) | exact hQ _ _ _ (ext_of [dt] hgk hsz hfo (by assumption) (by assumption) (by walk_at "mi_ro")) (News.get (by assumption) (by k_mem))


theorem c_fsb3at (t dt lm : Addr) (h1 h2 h3 h4 h5 : Int) (k1 k2 k3 k4 k5 : Tok) (dl : Value) (tst : Tok) (bv lv : Value) (st : Int) (nm : Nat) (vm : Array Value) (o : Int) (to : Tok) (S : Bas w mean mg mb base) (hs : base.StaysIn s.heap) (hA : A.depth + 6 < recursionLimit) (hst : st ≠ 240) (hm : vm.size < 1000) (h248 : 248 ≤ o) (h255 : o ≤ 255) (hn : hsB o = true)
   (d1 : t ≠ dt) (d3 : t ≠ lm) (d5 : dt ≠ lm)
   (hfo : ∀ p ∈ [(t, instObj 517 dt), (dt, tokD h1 h2 h3 h4 h5 k1 k2 k3 k4 k5 (.int st tst) (bv) (.ref lm) dl (lv)), (lm, listOf vm nm)], s.heap.get? p.1 = some p.2 ∧ base.get? p.1 = none)
   (hQ : ∀ h' tk tst', Ext [dt, lm] s.heap h' → h'.get? dt = some (tokD h1 h2 h3 h4 h5 k1 k2 k3 k4 k5 (.int 0 tst') (bv) (.ref lm) dl (lv)) → (∃ a, h'.get? lm = some (listOf (vm.push (.ref a)) (nm+1)) ∧ h'.get? a = some (listOf #[.int o to] 0) ∧ After s.heap a) → Q .none {s with heap := h', toks := tk}) :
   wpAny (model prog w) A (call (.ref 479) [.ref t, .int o to]) Q E s := by
  refine enterM (binds := [(Str.ofString "self", .ref t), (Str.ofString "status", .int o to)]) _ S hs hfo (by k_is) (by k_is) (by omega) (.of_eq rfl) (locs rfl) ?_
  intro g L' h₁ hg F N X TT hgk hsz hL hgs
  k_steps
  all_goals (try (exfalso; omega))
  all_goals exact hQ _ _ _ (ext_of [dt, lm] hgk hsz hfo (by assumption) (by assumption) (by walk_at "mi_ro")) (News.get (by assumption) (by k_mem)) ⟨_, News.get (by assumption) (by k_mem), News.get (by assumption) (by k_mem), after_of hL (by assumption)⟩


theorem c_fsb3af (t dt lm : Addr) (h1 h2 h3 h4 h5 : Int) (k1 k2 k3 k4 k5 : Tok) (dl : Value) (tst : Tok) (bv lv : Value) (st : Int) (nm : Nat) (vm : Array Value) (o : Int) (to : Tok) (S : Bas w mean mg mb base) (hs : base.StaysIn s.heap) (hA : A.depth + 6 < recursionLimit) (hst : st ≠ 240) (hm : vm.size < 1000) (h248 : 248 ≤ o) (h255 : o ≤ 255) (hn : hsB o = false)
   (d1 : t ≠ dt) (d3 : t ≠ lm) (d5 : dt ≠ lm)
   (hfo : ∀ p ∈ [(t, instObj 517 dt), (dt, tokD h1 h2 h3 h4 h5 k1 k2 k3 k4 k5 (.int st tst) (bv) (.ref lm) dl (lv)), (lm, listOf vm nm)], s.heap.get? p.1 = some p.2 ∧ base.get? p.1 = none)
   (hQ : ∀ h' tk tst', Ext [dt, lm] s.heap h' → h'.get? dt = some (tokD h1 h2 h3 h4 h5 k1 k2 k3 k4 k5 (.int 0 tst') (bv) (.ref lm) dl (lv)) → h'.get? lm = some (listOf vm nm) → Q .none {s with heap := h', toks := tk}) :
   wpAny (model prog w) A (call (.ref 479) [.ref t, .int o to]) Q E s := by
  refine enterM (binds := [(Str.ofString "self", .ref t), (Str.ofString "status", .int o to)]) _ S hs hfo (by k_is) (by k_is) (by omega) (.of_eq rfl) (locs rfl) ?_
  intro g L' h₁ hg F N X TT hgk hsz hL hgs
  k_steps
  all_goals (try (exfalso; omega))
  all_goals exact hQ _ _ _ (ext_of [dt, lm] hgk hsz hfo (by assumption) (by assumption) (by walk_at "mi_ro")) (News.get (by assumption) (by k_mem)) (News.get (by assumption) (by k_mem))


theorem c_fsb3bt (t dt lm : Addr) (h1 h2 h3 h4 h5 : Int) (k1 k2 k3 k4 k5 : Tok) (dl : Value) (tst : Tok) (bv lv : Value)  (nm : Nat) (vm : Array Value) (o : Int) (to : Tok) (S : Bas w mean mg mb base) (hs : base.StaysIn s.heap) (hA : A.depth + 6 < recursionLimit)  (hm : vm.size < 1000) (h248 : 248 ≤ o) (h255 : o ≤ 255) (hn : hsB o = true)
   (d1 : t ≠ dt) (d3 : t ≠ lm) (d5 : dt ≠ lm)
   (hfo : ∀ p ∈ [(t, instObj 517 dt), (dt, tokD h1 h2 h3 h4 h5 k1 k2 k3 k4 k5 (.int 240 tst) (bv) (.ref lm) dl (lv)), (lm, listOf vm nm)], s.heap.get? p.1 = some p.2 ∧ base.get? p.1 = none)
   (hQ : ∀ h' tk tst', Ext [dt, lm] s.heap h' → h'.get? dt = some (tokD h1 h2 h3 h4 h5 k1 k2 k3 k4 k5 (.int 240 tst') (bv) (.ref lm) dl (lv)) → (∃ a, h'.get? lm = some (listOf (vm.push (.ref a)) (nm+1)) ∧ h'.get? a = some (listOf #[.int o to] 0) ∧ After s.heap a) → Q .none {s with heap := h', toks := tk}) :
   wpAny (model prog w) A (call (.ref 479) [.ref t, .int o to]) Q E s := by
  refine enterM (binds := [(Str.ofString "self", .ref t), (Str.ofString "status", .int o to)]) _ S hs hfo (by k_is) (by k_is) (by omega) (.of_eq rfl) (locs rfl) ?_
  intro g L' h₁ hg F N X TT hgk hsz hL hgs
  k_steps
  all_goals (try (exfalso; omega))
  all_goals exact hQ _ _ _ (ext_of [dt, lm] hgk hsz hfo (by assumption) (by assumption) (by walk_at "mi_ro")) (News.get (by assumption) (by k_mem)) ⟨_, News.get (by assumption) (by k_mem), News.get (by assumption) (by k_mem), after_of hL (by assumption)⟩


theorem c_fsb3bf (t dt lm : Addr) (h1 h2 h3 h4 h5 : Int) (k1 k2 k3 k4 k5 : Tok) (dl : Value) (tst : Tok) (bv lv : Value)  (nm : Nat) (vm : Array Value) (o : Int) (to : Tok) (S : Bas w mean mg mb base) (hs : base.StaysIn s.heap) (hA : A.depth + 6 < recursionLimit)  (hm : vm.size < 1000) (h248 : 248 ≤ o) (h255 : o ≤ 255) (hn : hsB o = false)
   (d1 : t ≠ dt) (d3 : t ≠ lm) (d5 : dt ≠ lm)
   (hfo : ∀ p ∈ [(t, instObj 517 dt), (dt, tokD h1 h2 h3 h4 h5 k1 k2 k3 k4 k5 (.int 240 tst) (bv) (.ref lm) dl (lv)), (lm, listOf vm nm)], s.heap.get? p.1 = some p.2 ∧ base.get? p.1 = none)
   (hQ : ∀ h' tk tst', Ext [dt, lm] s.heap h' → h'.get? dt = some (tokD h1 h2 h3 h4 h5 k1 k2 k3 k4 k5 (.int 240 tst') (bv) (.ref lm) dl (lv)) → h'.get? lm = some (listOf vm nm) → Q .none {s with heap := h', toks := tk}) :
   wpAny (model prog w) A (call (.ref 479) [.ref t, .int o to]) Q E s := by
  refine enterM (binds := [(Str.ofString "self", .ref t), (Str.ofString "status", .int o to)]) _ S hs hfo (by k_is) (by k_is) (by omega) (.of_eq rfl) (locs rfl) ?_
  intro g L' h₁ hg F N X TT hgk hsz hL hgs
  k_steps
  all_goals (try (exfalso; omega))
  all_goals exact hQ _ _ _ (ext_of [dt, lm] hgk hsz hfo (by assumption) (by assumption) (by walk_at "mi_ro")) (News.get (by assumption) (by k_mem)) (News.get (by assumption) (by k_mem))


theorem c_fsb4 (t dt lm : Addr) (h1 h2 h3 h4 h5 : Int) (k1 k2 k3 k4 k5 : Tok) (dl : Value) (tst : Tok) (bv lv : Value) (st : Int) (nm : Nat) (vm : Array Value) (to : Tok) (S : Bas w mean mg mb base) (hs : base.StaysIn s.heap) (hA : A.depth + 6 < recursionLimit) (hm : vm.size < 1000)
   (d1 : t ≠ dt) (d3 : t ≠ lm) (d5 : dt ≠ lm)
   (hfo : ∀ p ∈ [(t, instObj 517 dt), (dt, tokD h1 h2 h3 h4 h5 k1 k2 k3 k4 k5 (.int st tst) (bv) (.ref lm) dl (lv)), (lm, listOf vm nm)], s.heap.get? p.1 = some p.2 ∧ base.get? p.1 = none)
   (hQ : ∀ h' tk tst', Ext [dt, lm] s.heap h' → h'.get? dt = some (tokD h1 h2 h3 h4 h5 k1 k2 k3 k4 k5 (.int 0 tst') (bv) (.ref lm) dl (lv)) → (∃ a, h'.get? lm = some (listOf (vm.push (.ref a)) (nm+1)) ∧ h'.get? a = some (listOf #[.int 246 to] 0) ∧ After s.heap a) → Q .none {s with heap := h', toks := tk}) :
   wpAny (model prog w) A (call (.ref 479) [.ref t, .int 246 to]) Q E s := by
  have hn : hsB 246 = true := by decide
  refine enterM (binds := [(Str.ofString "self", .ref t), (Str.ofString "status", .int 246 to)]) _ S hs hfo (by k_is) (by k_is) (by omega) (.of_eq rfl) (locs rfl) ?_
  intro g L' h₁ hg F N X TT hgk hsz hL hgs
  k_steps
  all_goals exact hQ _ _ _ (ext_of [dt, lm] hgk hsz hfo (by assumption) (by assumption) (by walk_at "mi_ro")) (News.get (by assumption) (by k_mem)) ⟨_, News.get (by assumption) (by k_mem), News.get (by assumption) (by k_mem), after_of hL (by assumption)⟩


theorem c_fsb5 (t dt : Addr) (h1 h2 h3 h4 h5 : Int) (k1 k2 k3 k4 k5 : Tok) (dl : Value) (tst : Tok) (bv mv lv : Value) (st : Int) (o : Int) (to : Tok) (ln : Int) (tl : Tok) (sp : Addr) (es : Array DictEntry) (nn : Nat) (S : Bas w mean mg mb base) (hs : base.StaysIn s.heap) (hA : A.depth + 6 < recursionLimit) (hln : ln ≠ 1) (ho : o ≠ 247) (h248 : o < 248) (hn : hsB o = true)
   (hss : ∀ {A : Around} {s : Shared} {Q E : Value → Shared → Prop}, base.StaysIn s.heap → A.depth + 4 < recursionLimit → (∀ h' tk, Ext [] s.heap h' → Q (.ref sp) {s with heap := h', toks := tk}) → wpAny (model prog w) A (call (.ref 100) [.int o to]) Q E s)
   (hl : (hd.heap_39 w.params).lookup sp = some ⟨.type "dict", none, .dict es nn, #[]⟩) (hk : KeysLit w.params es.toList) (he : nsIn (hd.heap_39 w.params) sp (Str.ofString "length") = some (some (.int ln tl)))
   (d1 : t ≠ dt)
   (hfo : ∀ p ∈ [(t, instObj 517 dt), (dt, tokD h1 h2 h3 h4 h5 k1 k2 k3 k4 k5 (.int st tst) (bv) (mv) dl (lv))], s.heap.get? p.1 = some p.2 ∧ base.get? p.1 = none)
   (hQ : ∀ h' tk a, Ext [dt] s.heap h' → h'.get? dt = some (tokD h1 h2 h3 h4 h5 k1 k2 k3 k4 k5 (.int o to) (.ref a) (mv) dl (.int ln tl)) → h'.get? a = some (listOf #[.int o to] 0) → After s.heap a → Q .none {s with heap := h', toks := tk}) :
   wpAny (model prog w) A (call (.ref 479) [.ref t, .int o to]) Q E s := by
  refine enterM (binds := [(Str.ofString "self", .ref t), (Str.ofString "status", .int o to)]) _ S hs hfo (by k_is) (by k_is) (by omega) (.of_eq rfl) (locs rfl) ?_
  intro g L' h₁ hg F N X TT hgk hsz hL hgs
  k_steps
  all_goals (try (exfalso; omega))
  all_goals exact hQ _ _ _ (ext_of [dt] hgk hsz hfo (by assumption) (by assumption) (by walk_at "mi_ro")) (News.get (by assumption) (by k_mem)) (News.get (by assumption) (by k_mem)) (after_of hL (by assumption))


theorem c_fsb6 (t dt : Addr) (h1 h2 h3 h4 h5 : Int) (k1 k2 k3 k4 k5 : Tok) (dl : Value) (tst : Tok) (bv mv lv : Value) (st : Int) (o : Int) (to : Tok)  (sp : Addr) (es : Array DictEntry) (nn : Nat) (S : Bas w mean mg mb base) (hs : base.StaysIn s.heap) (hA : A.depth + 6 < recursionLimit)  (ho : o ≠ 247) (h248 : o < 248) (hn : hsB o = true)
   (hss : ∀ {A : Around} {s : Shared} {Q E : Value → Shared → Prop}, base.StaysIn s.heap → A.depth + 4 < recursionLimit → (∀ h' tk, Ext [] s.heap h' → Q (.ref sp) {s with heap := h', toks := tk}) → wpAny (model prog w) A (call (.ref 100) [.int o to]) Q E s)
   (hl : (hd.heap_39 w.params).lookup sp = some ⟨.type "dict", none, .dict es nn, #[]⟩) (hk : KeysLit w.params es.toList) (he : nsIn (hd.heap_39 w.params) sp (Str.ofString "length") = some (some (.none)))
   (d1 : t ≠ dt)
   (hfo : ∀ p ∈ [(t, instObj 517 dt), (dt, tokD h1 h2 h3 h4 h5 k1 k2 k3 k4 k5 (.int st tst) (bv) (mv) dl (lv))], s.heap.get? p.1 = some p.2 ∧ base.get? p.1 = none)
   (hQ : ∀ h' tk a, Ext [dt] s.heap h' → h'.get? dt = some (tokD h1 h2 h3 h4 h5 k1 k2 k3 k4 k5 (.int o to) (.ref a) (mv) dl (.none)) → h'.get? a = some (listOf #[.int o to] 0) → After s.heap a → Q .none {s with heap := h', toks := tk}) :
   wpAny (model prog w) A (call (.ref 479) [.ref t, .int o to]) Q E s := by
  refine enterM (binds := [(Str.ofString "self", .ref t), (Str.ofString "status", .int o to)]) _ S hs hfo (by k_is) (by k_is) (by omega) (.of_eq rfl) (locs rfl) ?_
  intro g L' h₁ hg F N X TT hgk hsz hL hgs
  k_steps
  all_goals (try (exfalso; omega))
  all_goals exact hQ _ _ _ (ext_of [dt] hgk hsz hfo (by assumption) (by assumption) (by walk_at "mi_ro")) (News.get (by assumption) (by k_mem)) (News.get (by assumption) (by k_mem)) (after_of hL (by assumption))
end PartB
theorem restC {M : Model} {A : Around} {s : Shared} {E : Value → Shared → Prop} {env : Env} {Q : Flow → Shared → Prop} (h : Q .next s) : wpAny M A (execs [] env) Q E s := by
  w_top off
  walk1
  w_top off
  exact h
section PartC
local macro_rules | `(tactic| k_steps) => `(tactic| repeat' (first | ((with_reducible show wpAny _ _ (call (Value.ref _) _ _) _ _ _); walk_at "mi_pc") | ((fail_if_success (with_reducible show wpAny _ _ (call (Value.ref _) _ _) _ _ _)); (fail_if_success (with_reducible show wpAny _ _ (exec (Stmt.Raise _ _ _) _) _ _ _)); first | (k_unfold; (try dsimp only)) | (k_end; wrow_close) | walk1 | (dsimp only; walk1) | (leave1; walk_say "STEP leave1"; (try dsimp only)) | fail "no step")))
local macro_rules | `(tactic| k_ne) => `(tactic| first | assumption | exact Ne.symm (by assumption))
local macro_rules | `(tactic| walk_at "call builtin:len") => `(tactic| (k_here; (with_reducible show wpAny _ _ (call (Value.builtin "len") [Value.ref _]) _ _ _); refine PyProof.Rows.len_list (News.isList (by k_asm) (by k_mem)) (by (try simp only [Array.size_push, List.size_toArray]); omega) ?_))
local macro_rules | `(tactic| walk_at "mi_ro") => `(tactic| repeat' (first | exact ro_nil | refine ro_keep (by k_mem) ?_ | refine ro_mut (by simp) ?_))
local macro_rules | `(tactic| walk_at "mi_depth") => `(tactic| ((try simp only [PySem.Around.deeper, PySem.Around.in1_depth]); omega))
local macro_rules | `(tactic| walk_at "mi_pure") => `(tactic| exact hQ _ _ (ext_of [] hgk hsz (fo_nil (base := base)) (by assumption) (by assumption) ro_nil))
local macro_rules | `(tactic| walk_at "mi_steps") => `(tactic| repeat' ((fail_if_success (with_reducible show wpAny _ _ (exec (Stmt.For _ _ _ _ _) _) _ _ _)); first | ((with_reducible show wpAny _ _ (call (Value.ref _) _ _) _ _ _); walk_at "mi_pc") | ((fail_if_success (with_reducible show wpAny _ _ (call (Value.ref _) _ _) _ _ _)); (fail_if_success (with_reducible show wpAny _ _ (exec (Stmt.Raise _ _ _) _) _ _ _)); first | (k_unfold; (try dsimp only)) | (k_end; kc_close) | walk1 | (dsimp only; walk1) | (leave1; walk_say "STEP leave1"; (try dsimp only)) | fail "no step")))
local macro_rules | `(tactic| walk_at "subscriptTail") => `(tactic| (k_here; (with_reducible show wpAny _ _ (subscriptTail _ _ (Value.ref _) (Value.str _ _)) _ _ _); k_dflt (refine' topItem_K ?F ?X ?l ?k ?e ?_; (case F => k_asm); (case X => k_asm); (case l => first | assumption | k_is); (case k => first | assumption | k_keys); (case e => first | assumption | k_is))))
local macro_rules | `(tactic| walk_at "mi_stepsC") => `(tactic| repeat' ((fail_if_success (with_reducible show wpAny _ _ (exec (Stmt.For _ _ _ _ _) _) _ _ _)); (fail_if_success (with_reducible show wpAny _ _ (exec (Stmt.Assign [_] (Expr.ListComp _ _ _ _) _) _) _ _ _)); (fail_if_success (with_reducible show wpAny _ _ (call (Value.type "zip") _) _ _ _)); (fail_if_success (with_reducible show wpAny _ _ (exec (Stmt.Assign [_] (Expr.DictComp _ _ _ _ _) _) _) _ _ _)); first | ((with_reducible show wpAny _ _ (call (Value.ref _) _ _) _ _ _); walk_at "mi_pc") | ((fail_if_success (with_reducible show wpAny _ _ (call (Value.ref _) _ _) _ _ _)); (fail_if_success (with_reducible show wpAny _ _ (exec (Stmt.Raise _ _ _) _) _ _ _)); first | (k_unfold; (try dsimp only)) | (k_end; kc_close) | walk1 | (dsimp only; walk1) | (leave1; walk_say "STEP leave1"; (try dsimp only)) | fail "no step")))
local macro_rules | `(tactic| walk_at "mi_stepsO") => `(tactic| repeat' ((fail_if_success (with_reducible show wpAny _ _ (exec (Stmt.For _ _ _ _ _) _) _ _ _)); (fail_if_success (with_reducible show wpAny _ _ (exec (Stmt.Assign [_] (Expr.ListComp _ _ _ _) _) _) _ _ _)); (fail_if_success (with_reducible show wpAny _ _ (call (Value.type "zip") _) _ _ _)); (fail_if_success (with_reducible show wpAny _ _ (exec (Stmt.Assign [_] (Expr.DictComp _ _ _ _ _) _) _) _ _ _)); first | ((with_reducible show wpAny _ _ (call (Value.ref _) _ _) _ _ _); walk_at "mi_pc") | ((fail_if_success (with_reducible show wpAny _ _ (call (Value.ref _) _ _) _ _ _)); (fail_if_success (with_reducible show wpAny _ _ (exec (Stmt.Raise _ _ _) _) _ _ _)); first | ((with_reducible show wpAny _ _ (execs _ _) _ _ _); exfalso; omega) | (k_unfold; (try dsimp only)) | (k_end; kc_close) | walk1 | (dsimp only; walk1) | (leave1; walk_say "STEP leave1"; (try dsimp only)) | fail "no step")))
/-- the tokenizer's state, as plain data -/
structure TS where
  st : Int
  bs : List Int
  ln : Option Int
  ms : List (List Int)

/-- the length that a status asks for -/
def lenOf (o : Int) : Option Int := if o < 192 then some 3 else if o < 224 then some 2 else if o < 240 then some 3 else if o = 240 then none else if o = 242 then some 3 else some 2

def TS.step (T : TS) (o : Int) : TS :=
  if o < 128 then
    if T.st = 0 then T else if T.ln = some ((T.bs.length : Int) + 1) then { T with st := 0, bs := T.bs ++ [o], ms := T.ms ++ [T.bs ++ [o]] } else { T with bs := T.bs ++ [o] }
  else if o = 247 then
    if T.st = 240 then { T with st := 0, bs := T.bs ++ [247], ms := T.ms ++ [T.bs ++ [247]] } else { T with st := 0 }
  else if 248 ≤ o then
    { T with st := if T.st = 240 then 240 else 0, ms := if hsB o = true then T.ms ++ [[o]] else T.ms }
  else if o = 246 then { T with st := 0, ms := T.ms ++ [[246]] }
  else { T with st := o, bs := [o], ln := lenOf o }

inductive LnV : Value → Option Int → Prop
  | none : LnV .none none
  | some (n : Int) (t : Tok) : LnV (.int n t) (some n)

/-- a list of ints stands at a -/
def IsInts (h : Heap) (a : Addr) (ns : List Int) : Prop := ∃ vs n, h.get? a = some (listOf vs n) ∧ IntsAre vs.toList ns

inductive RowsAt (h : Heap) : List Value → List (List Int) → Prop
  | nil : RowsAt h [] []
  | cons {a : Addr} {r : List Int} {vs : List Value} {ms : List (List Int)} : IsInts h a r → RowsAt h vs ms → RowsAt h (.ref a :: vs) (r :: ms)

theorem RowsAt.length {h : Heap} {vs : List Value} {ms : List (List Int)} (x : RowsAt h vs ms) : vs.length = ms.length := by
  induction x with
  | nil => rfl
  | cons _ _ ih => simp [ih]
theorem RowsAt.append {h : Heap} {vs us : List Value} {ms ns : List (List Int)} (x : RowsAt h vs ms) (y : RowsAt h us ns) : RowsAt h (vs ++ us) (ms ++ ns) := by
  induction x with
  | nil => exact y
  | cons a _ ih => exact .cons a ih
theorem IsInts.keep {h h' : Heap} {a : Addr} {r : List Int} {mt : List Addr} (x : IsInts h a r) (e : Ext mt h h') (ha : a ∉ mt) : IsInts h' a r :=
  let ⟨vs, n, g, i⟩ := x; ⟨vs, n, e.keep ha g, i⟩
theorem RowsAt.keep {h h' : Heap} {vs : List Value} {ms : List (List Int)} {mt : List Addr} (x : RowsAt h vs ms) (e : Ext mt h h') (ha : ∀ a, Value.ref a ∈ vs → a ∉ mt) : RowsAt h' vs ms := by
  induction x with
  | nil => exact .nil
  | cons a _ ih => exact .cons (a.keep e (ha _ (.head _))) (ih fun b hb => ha b (.tail _ hb))
theorem RowsAt.old {h : Heap} {vs : List Value} {ms : List (List Int)} (x : RowsAt h vs ms) : ∀ a, Value.ref a ∈ vs → ∃ o, h.get? a = some o := by
  induction x with
  | nil => intro a hm; cases hm
  | cons y _ ih =>
    intro b hb
    rcases List.mem_cons.mp hb with e | hb
    · cases e; obtain ⟨vs, n, g, _⟩ := y; exact ⟨_, g⟩
    · exact ih b hb

structure TokAt (base h : Heap) (t dt lb lm : Addr) (T : TS) : Prop where
  obj : h.get? t = some (instObj 517 dt)
  dict : ∃ h1 h2 h3 h4 h5 k1 k2 k3 k4 k5 dl tst lnv, h.get? dt = some (tokD h1 h2 h3 h4 h5 k1 k2 k3 k4 k5 (.int T.st tst) (.ref lb) (.ref lm) dl lnv) ∧ LnV lnv T.ln
  bs : ∃ vb nb, h.get? lb = some (listOf vb nb) ∧ IntsAre vb.toList T.bs
  ms : ∃ vm nm, h.get? lm = some (listOf vm nm) ∧ RowsAt h vm.toList T.ms ∧ (∀ a, Value.ref a ∈ vm.toList → a ≠ t ∧ a ≠ dt ∧ (a ≠ lm ∧ base.get? a = none) ∧ (T.st ≠ 0 → a ≠ lb))
  ne : t ≠ dt ∧ t ≠ lb ∧ t ≠ lm ∧ dt ≠ lb ∧ dt ≠ lm ∧ lb ≠ lm
  fresh : base.get? t = none ∧ base.get? dt = none ∧ base.get? lb = none ∧ base.get? lm = none

theorem TokAt.keep {base h h' : Heap} {t dt lb lm : Addr} {T : TS} (x : TokAt base h t dt lb lm T) {mt : List Addr} (e : Ext mt h h') (h1 : t ∉ mt) (h2 : dt ∉ mt) (h3 : lb ∉ mt) (h4 : lm ∉ mt)
    (h5 : T.ms = []) : TokAt base h' t dt lb lm T := by
  obtain ⟨a, ⟨b1, b2, b3, b4, b5, b6, b7, b8, b9, b10, b11, b12, b13, bd, bl⟩, ⟨vb, nb, c1, c2⟩, ⟨vm, nm, d1, d2, d3⟩, f, g⟩ := x
  refine ⟨e.keep h1 a, ⟨b1, b2, b3, b4, b5, b6, b7, b8, b9, b10, b11, b12, b13, e.keep h2 bd, bl⟩, ⟨vb, nb, e.keep h3 c1, c2⟩, ⟨vm, nm, e.keep h4 d1, ?_, d3⟩, f, g⟩
  rw [h5] at d2 ⊢
  generalize vm.toList = l at d2
  cases d2
  exact .nil

/-- feed_byte, a data byte: what the inner call does -/
theorem c_fb_d (t dt : Addr) (h1 h2 h3 h4 h5 : Int) (k1 k2 k3 k4 k5 : Tok) (dl v1 v2 v3 v5 : Value) (o : Int) (to : Tok) (S : Bas w mean mg mb base) (hs : base.StaysIn s.heap) (hA : A.depth + 10 < recursionLimit) (o0 : 0 ≤ o) (o1 : o ≤ 127)
   (hfo : ∀ p ∈ [(t, instObj 517 dt), (dt, tokD h1 h2 h3 h4 h5 k1 k2 k3 k4 k5 v1 v2 v3 dl v5)], s.heap.get? p.1 = some p.2 ∧ base.get? p.1 = none)
   (C : ∀ {A' : Around} {E' : Value → Shared → Prop} (h' : Heap) (tk : Nat), Ext [] s.heap h' → A'.depth + 6 < recursionLimit → wpAny (model prog w) A' (call (.ref 486) [.ref t, .int o to]) Q E' {s with heap := h', toks := tk}) :
   wpAny (model prog w) A (call (.ref 493) [.ref t, .int o to]) Q E s := by
  refine enterM (binds := [(Str.ofString "self", .ref t), (Str.ofString "byte", .int o to)]) _ S hs hfo (by k_is) (by k_is) (by omega) (.of_eq rfl) (locs rfl) ?_
  intro g L' h₁ hg F N X TT hgk hsz hL hgs
  k_steps
  all_goals (try (exfalso; omega))
  all_goals exact C _ _ (ext_of [] hgk hsz hfo (by assumption) (by assumption) (by walk_at "mi_ro")) (by walk_at "mi_depth")
theorem c_fb_s (t dt : Addr) (h1 h2 h3 h4 h5 : Int) (k1 k2 k3 k4 k5 : Tok) (dl v1 v2 v3 v5 : Value) (o : Int) (to : Tok) (S : Bas w mean mg mb base) (hs : base.StaysIn s.heap) (hA : A.depth + 10 < recursionLimit) (o0 : 128 ≤ o) (o1 : o ≤ 255)
   (hfo : ∀ p ∈ [(t, instObj 517 dt), (dt, tokD h1 h2 h3 h4 h5 k1 k2 k3 k4 k5 v1 v2 v3 dl v5)], s.heap.get? p.1 = some p.2 ∧ base.get? p.1 = none)
   (C : ∀ {A' : Around} {E' : Value → Shared → Prop} (h' : Heap) (tk : Nat), Ext [] s.heap h' → A'.depth + 6 < recursionLimit → wpAny (model prog w) A' (call (.ref 479) [.ref t, .int o to]) Q E' {s with heap := h', toks := tk}) :
   wpAny (model prog w) A (call (.ref 493) [.ref t, .int o to]) Q E s := by
  refine enterM (binds := [(Str.ofString "self", .ref t), (Str.ofString "byte", .int o to)]) _ S hs hfo (by k_is) (by k_is) (by omega) (.of_eq rfl) (locs rfl) ?_
  intro g L' h₁ hg F N X TT hgk hsz hL hgs
  k_steps
  all_goals (try (exfalso; omega))
  all_goals exact C _ _ (ext_of [] hgk hsz hfo (by assumption) (by assumption) (by walk_at "mi_ro")) (by walk_at "mi_depth")

theorem fo2 {h base : Heap} {a b : Addr} {o p : Obj} (e1 : h.get? a = some o) (e2 : h.get? b = some p) (f1 : base.get? a = none) (f2 : base.get? b = none) :
    ∀ q ∈ [(a, o), (b, p)], h.get? q.1 = some q.2 ∧ base.get? q.1 = none := fo_cons e1 f1 (fo_cons e2 f2 fo_nil)
theorem fo3 {h base : Heap} {a b c : Addr} {o p q : Obj} (e1 : h.get? a = some o) (e2 : h.get? b = some p) (e3 : h.get? c = some q) (f1 : base.get? a = none) (f2 : base.get? b = none) (f3 : base.get? c = none) :
    ∀ r ∈ [(a, o), (b, p), (c, q)], h.get? r.1 = some r.2 ∧ base.get? r.1 = none := fo_cons e1 f1 (fo2 e2 e3 f2 f3)
theorem fo4 {h base : Heap} {a b c d : Addr} {o p q r : Obj} (e1 : h.get? a = some o) (e2 : h.get? b = some p) (e3 : h.get? c = some q) (e4 : h.get? d = some r) (f1 : base.get? a = none) (f2 : base.get? b = none) (f3 : base.get? c = none) (f4 : base.get? d = none) :
    ∀ z ∈ [(a, o), (b, p), (c, q), (d, r)], h.get? z.1 = some z.2 ∧ base.get? z.1 = none := fo_cons e1 f1 (fo3 e2 e3 e4 f2 f3 f4)
theorem ia_push {vs : Array Value} {ns : List Int} {n : Int} {t : Tok} (h : IntsAre vs.toList ns) : IntsAre (vs.push (.int n t)).toList (ns ++ [n]) := by
  rw [Array.toList_push]; exact IntsAre.append h (.cons n t .nil)
theorem ia_size {vs : Array Value} {ns : List Int} (h : IntsAre vs.toList ns) : vs.size = ns.length := by
  have := IntsAre.length h
  rwa [Array.length_toList] at this
theorem ra_size {h : Heap} {vs : Array Value} {ns : List (List Int)} (x : RowsAt h vs.toList ns) : vs.size = ns.length := by
  have := x.length
  rwa [Array.length_toList] at this
theorem ra_push {h : Heap} {vs : Array Value} {ms : List (List Int)} {a : Addr} {r : List Int} (x : RowsAt h vs.toList ms) (y : IsInts h a r) : RowsAt h (vs.push (.ref a)).toList (ms ++ [r]) := by
  rw [Array.toList_push]; exact x.append (.cons y .nil)
theorem mem_push {vs : Array Value} {a b : Addr} (h : Value.ref a ∈ (vs.push (.ref b)).toList) : Value.ref a ∈ vs.toList ∨ a = b := by
  rw [Array.toList_push] at h
  rcases List.mem_append.mp h with h | h
  · exact .inl h
  · exact .inr (Value.ref.inj (List.mem_singleton.mp h))

def GoodO (o : Int) : Prop := (0 ≤ o ∧ o ≤ 127) ∨ (144 ≤ o ∧ o < 160) ∨ (176 ≤ o ∧ o < 192) ∨ (192 ≤ o ∧ o < 208) ∨ (224 ≤ o ∧ o < 240) ∨ o = 240 ∨ o = 241 ∨ o = 242 ∨ o = 243 ∨ o = 246 ∨ o = 247 ∨ (248 ≤ o ∧ o ≤ 255 ∧ o ≠ 251 ∧ o ≠ 252)

/-- what spec_of_status is known to give at o -/
structure SpecAt (w : World) (base : Heap) (o : Int) (lnv : Value) : Prop where
  it : ∃ sp es nn, (∀ {prog : Program} {A : Around} {s : Shared} {Q E : Value → Shared → Prop} {to : Tok}, base.StaysIn s.heap → A.depth + 4 < recursionLimit → (∀ h' tk, Ext [] s.heap h' → Q (.ref sp) {s with heap := h', toks := tk}) → wpAny (model prog w) A (call (.ref 100) [.int o to]) Q E s) ∧
    (hd.heap_39 w.params).lookup sp = some ⟨.type "dict", none, .dict es nn, #[]⟩ ∧ KeysLit w.params es.toList ∧ nsIn (hd.heap_39 w.params) sp (Str.ofString "length") = some (some lnv)

theorem lenOf_spec (S : Bas w mean mg mb base) {o : Int} (go : GoodO o) (h1 : 128 ≤ o) (h2 : o ≠ 247) (h3 : o < 248) (h4 : o ≠ 246) : ∃ lnv, LnV lnv (lenOf o) ∧ (∀ n t, lnv = .int n t → n ≠ 1) ∧ SpecAt w base o lnv := by
  rcases go with h | h | h | h | h | h | h | h | h | h | h | h
  · omega
  · refine ⟨.int 3 _, ?_, ?_, ⟨33, _, _, fun hs hA hQ => c_ss_144 o _ S hs hA h.1 h.2 hQ, by k_is, by k_keys, by k_is⟩⟩
    · have : lenOf o = some 3 := by unfold lenOf; rw [if_pos (by omega)]
      rw [this]; exact .some _ _
    · rintro n t e; cases e; decide
  · refine ⟨.int 3 _, ?_, ?_, ⟨39, _, _, fun hs hA hQ => c_ss_176 o _ S hs hA h.1 h.2 hQ, by k_is, by k_keys, by k_is⟩⟩
    · have : lenOf o = some 3 := by unfold lenOf; rw [if_pos (by omega)]
      rw [this]; exact .some _ _
    · rintro n t e; cases e; decide
  · refine ⟨.int 2 _, ?_, ?_, ⟨42, _, _, fun hs hA hQ => c_ss_192 o _ S hs hA h.1 h.2 hQ, by k_is, by k_keys, by k_is⟩⟩
    · have : lenOf o = some 2 := by unfold lenOf; rw [if_neg (by omega), if_pos (by omega)]
      rw [this]; exact .some _ _
    · rintro n t e; cases e; decide
  · refine ⟨.int 3 _, ?_, ?_, ⟨48, _, _, fun hs hA hQ => c_ss_224 o _ S hs hA h.1 h.2 hQ, by k_is, by k_keys, by k_is⟩⟩
    · have : lenOf o = some 3 := by unfold lenOf; rw [if_neg (by omega), if_neg (by omega), if_pos (by omega)]
      rw [this]; exact .some _ _
    · rintro n t e; cases e; decide
  · subst h; exact ⟨.none, .none, fun n t e => (by cases e), ⟨51, _, _, fun hs hA hQ => c_ss_240 _ S hs hA hQ, by k_is, by k_keys, by k_is⟩⟩
  · subst h; exact ⟨.int 2 _, .some _ _, fun n t e => (by cases e; decide), ⟨54, _, _, fun hs hA hQ => c_ss_241 _ S hs hA hQ, by k_is, by k_keys, by k_is⟩⟩
  · subst h; exact ⟨.int 3 _, .some _ _, fun n t e => (by cases e; decide), ⟨57, _, _, fun hs hA hQ => c_ss_242 _ S hs hA hQ, by k_is, by k_keys, by k_is⟩⟩
  · subst h; exact ⟨.int 2 _, .some _ _, fun n t e => (by cases e; decide), ⟨60, _, _, fun hs hA hQ => c_ss_243 _ S hs hA hQ, by k_is, by k_keys, by k_is⟩⟩
  · omega
  · omega
  · omega

theorem c_fb {t dt lb lm : Addr} {T : TS} (o : Int) (to : Tok) (S : Bas w mean mg mb base) (hs : base.StaysIn s.heap) (hA : A.depth + 10 < recursionLimit) (go : GoodO o) (x : TokAt base s.heap t dt lb lm T) (hb : T.bs.length < 900) (hm : T.ms.length < 900)
   (hQ : ∀ h' tk lb', Ext [dt, lb, lm] s.heap h' → (lb' = lb ∨ After s.heap lb') → TokAt base h' t dt lb' lm (T.step o) → Q .none {s with heap := h', toks := tk}) :
   wpAny (model prog w) A (call (.ref 493) [.ref t, .int o to]) Q E s := by
  obtain ⟨a, ⟨b1, b2, b3, b4, b5, b6, b7, b8, b9, b10, b11, b12, lnv, bd, bl⟩, ⟨vb, nb, c1, c2⟩, ⟨vm, nm, d1, d2, d3⟩, ⟨n1, n2, n3, n4, n5, n6⟩, f1, f2, f3, f4⟩ := x
  have sb := ia_size c2
  have sm := ra_size d2
  by_cases ho : o < 128
  · have ho0 : 0 ≤ o := by rcases go with h | h | h | h | h | h | h | h | h | h | h | h <;> omega
    refine c_fb_d t dt _ _ _ _ _ _ _ _ _ _ _ _ _ _ _ o to S hs hA ho0 (by omega) (fo2 a bd f1 f2) fun {A' E'} k tk e hd => ?_
    have hs' : base.StaysIn k := e.stays hs (fun _ h => nomatch h)
    have q {b : Addr} {ob : Obj} (g : s.heap.get? b = some ob) : k.get? b = some ob := e.keep (fun h => nomatch h) g
    by_cases hst : T.st = 0
    · rw [hst] at bd
      refine c_fdb0 (s := {s with heap := k, toks := tk}) t dt _ _ _ _ _ _ _ _ _ _ _ _ _ _ _ o to S hs' hd n1 (fo2 (q a) (q bd) f1 f2) fun h2 tk2 e2 => hQ h2 tk2 lb ((e.trans e2).mono (fun _ h => nomatch h)) (.inl rfl) ?_
      have e3 := e.trans e2
      have hT : T.step o = T := by unfold TS.step; rw [if_pos ho, if_pos hst]
      rw [hT]
      have q2 {b : Addr} {ob : Obj} (g : s.heap.get? b = some ob) : h2.get? b = some ob := e3.keep (fun h => nomatch h) g
      exact ⟨q2 a, ⟨b1, b2, b3, b4, b5, b6, b7, b8, b9, b10, b11, b12, lnv, by rw [hst]; exact q2 bd, bl⟩, ⟨vb, nb, q2 c1, c2⟩, ⟨vm, nm, q2 d1, d2.keep e3 (fun _ _ h => nomatch h), d3⟩, ⟨n1, n2, n3, n4, n5, n6⟩, f1, f2, f3, f4⟩
    · have row {h2 : Heap} (e2 : Ext [dt, lb, lm] k h2) : RowsAt h2 vm.toList T.ms := d2.keep ((e.mono (m' := [dt, lb, lm]) (fun _ h => nomatch h)).trans e2) fun b hb => by
        obtain ⟨z1, z2, z3, z4⟩ := d3 b hb
        simp [z2, z3, z4 hst]
      have tot {h2 : Heap} (e2 : Ext [dt, lb, lm] k h2) : Ext [dt, lb, lm] s.heap h2 := (e.mono (m' := [dt, lb, lm]) (fun _ h => nomatch h)).trans e2
      have tn : t ∉ [dt, lb, lm] := by simp [n1, n2, n3]
      generalize hln : T.ln = ln at bl
      cases bl with
      | some n u =>
        refine c_fdb2 (s := {s with heap := k, toks := tk}) t dt lb lm _ _ _ _ _ _ _ _ _ _ _ _ T.st n u nb nm vb vm o to S hs' hd hst (by omega) (by omega) n1 n2 n3 n4 n5 n6 (fo4 (q a) (q bd) (q c1) (q d1) f1 f2 f3 f4) fun h2 tk2 vm' st' tst' nm' hc e2 g1 g2 g3 => hQ h2 tk2 lb (tot e2) (.inl rfl) ?_
        rcases hc with ⟨hc, rfl, rfl⟩ | ⟨hc, rfl, rfl⟩
        · have hT : T.step o = { T with st := 0, bs := T.bs ++ [o], ms := T.ms ++ [T.bs ++ [o]] } := by unfold TS.step; rw [if_pos ho, if_neg hst, if_pos (by rw [hln, ← hc, sb])]
          rw [hT]
          refine ⟨(tot e2).keep tn a, ⟨_, _, _, _, _, _, _, _, _, _, _, _, _, g1, by rw [hln]; exact .some _ _⟩, ⟨_, _, g2, ia_push c2⟩, ⟨_, _, g3, ra_push (row e2) ⟨_, _, g2, ia_push c2⟩, fun b hb => ?_⟩, ⟨n1, n2, n3, n4, n5, n6⟩, f1, f2, f3, f4⟩
          rcases mem_push hb with hb | rfl
          · obtain ⟨z1, z2, z3, z4⟩ := d3 b hb
            exact ⟨z1, z2, z3, fun h => absurd rfl h⟩
          · exact ⟨Ne.symm n2, Ne.symm n4, ⟨n6, f3⟩, fun h => absurd rfl h⟩
        · have hT : T.step o = { T with bs := T.bs ++ [o] } := by unfold TS.step; rw [if_pos ho, if_neg hst, if_neg (by rw [hln]; intro z; exact hc (by rw [sb]; exact (Option.some.inj z).symm))]
          rw [hT]
          exact ⟨(tot e2).keep tn a, ⟨_, _, _, _, _, _, _, _, _, _, _, _, _, g1, by rw [hln]; exact .some _ _⟩, ⟨_, _, g2, ia_push c2⟩, ⟨_, _, g3, row e2, d3⟩, ⟨n1, n2, n3, n4, n5, n6⟩, f1, f2, f3, f4⟩
      | none =>
        refine c_fdb3 (s := {s with heap := k, toks := tk}) t dt lb lm _ _ _ _ _ _ _ _ _ _ _ _ T.st nb nm vb vm o to S hs' hd hst (by omega) (by omega) n1 n2 n3 n4 n5 n6 (fo4 (q a) (q bd) (q c1) (q d1) f1 f2 f3 f4) fun h2 tk2 vm' st' tst' nm' hst' hvm' e2 g1 g2 g3 => hQ h2 tk2 lb (tot e2) (.inl rfl) ?_
        subst hst' hvm'
        have hT : T.step o = { T with bs := T.bs ++ [o] } := by unfold TS.step; rw [if_pos ho, if_neg hst, if_neg (by rw [hln]; intro z; cases z)]
        rw [hT]
        exact ⟨(tot e2).keep tn a, ⟨_, _, _, _, _, _, _, _, _, _, _, _, _, g1, by rw [hln]; exact .none⟩, ⟨_, _, g2, ia_push c2⟩, ⟨_, _, g3, row e2, d3⟩, ⟨n1, n2, n3, n4, n5, n6⟩, f1, f2, f3, f4⟩
  · have o1 : o ≤ 255 := by rcases go with h | h | h | h | h | h | h | h | h | h | h | h <;> omega
    refine c_fb_s t dt _ _ _ _ _ _ _ _ _ _ _ _ _ _ _ o to S hs hA (by omega) o1 (fo2 a bd f1 f2) fun {A' E'} k tk e hd => ?_
    have hs' : base.StaysIn k := e.stays hs (fun _ h => nomatch h)
    have q {b : Addr} {ob : Obj} (g : s.heap.get? b = some ob) : k.get? b = some ob := e.keep (fun h => nomatch h) g
    have tot {mt : List Addr} {h2 : Heap} (hm : ∀ b ∈ mt, b ∈ [dt, lb, lm]) (e2 : Ext mt k h2) : Ext [dt, lb, lm] s.heap h2 := (e.mono (m' := [dt, lb, lm]) (fun _ h => nomatch h)).trans (e2.mono fun b hb => .inl (hm b hb))
    have raw {mt : List Addr} {h2 : Heap} (e2 : Ext mt k h2) : Ext mt s.heap h2 := (e.mono (m' := mt) (fun _ h => nomatch h)).trans e2
    by_cases h7 : o = 247
    · subst h7
      by_cases hst : T.st = 240
      · rw [hst] at bd
        refine c_fsb1 (s := {s with heap := k, toks := tk}) t dt lb lm _ _ _ _ _ _ _ _ _ _ _ _ lnv nb nm vb vm to S hs' hd (by omega) (by omega) n1 n2 n3 n4 n5 n6 (fo4 (q a) (q bd) (q c1) (q d1) f1 f2 f3 f4) fun h2 tk2 tst' t7 e2 g1 g2 g3 => hQ h2 tk2 lb (raw e2) (.inl rfl) ?_
        have hT : T.step 247 = { T with st := 0, bs := T.bs ++ [247], ms := T.ms ++ [T.bs ++ [247]] } := by unfold TS.step; rw [if_neg (by decide), if_pos rfl, if_pos hst]
        rw [hT]
        refine ⟨(raw e2).keep (by simp [n1, n2, n3]) a, ⟨_, _, _, _, _, _, _, _, _, _, _, _, _, g1, bl⟩, ⟨_, _, g2, ia_push c2⟩, ⟨_, _, g3, ra_push (d2.keep (raw e2) fun b hb => ?_) ⟨_, _, g2, ia_push c2⟩, fun b hb => ?_⟩, ⟨n1, n2, n3, n4, n5, n6⟩, f1, f2, f3, f4⟩
        · obtain ⟨z1, z2, z3, z4⟩ := d3 b hb
          simp [z2, z3, z4 (by rw [hst]; decide)]
        · rcases mem_push hb with hb | rfl
          · obtain ⟨z1, z2, z3, z4⟩ := d3 b hb
            exact ⟨z1, z2, z3, fun h => absurd rfl h⟩
          · exact ⟨Ne.symm n2, Ne.symm n4, ⟨n6, f3⟩, fun h => absurd rfl h⟩
      · refine c_fsb2 (s := {s with heap := k, toks := tk}) t dt _ _ _ _ _ _ _ _ _ _ _ _ _ _ lnv T.st to S hs' hd hst n1 (fo2 (q a) (q bd) f1 f2) fun h2 tk2 tst' e2 g1 => hQ h2 tk2 lb ((raw e2).mono (by simp)) (.inl rfl) ?_
        have hT : T.step 247 = { T with st := 0 } := by unfold TS.step; rw [if_neg (by decide), if_pos rfl, if_neg hst]
        rw [hT]
        refine ⟨(raw e2).keep (by simp [n1]) a, ⟨_, _, _, _, _, _, _, _, _, _, _, _, _, g1, bl⟩, ⟨_, _, (raw e2).keep (by simp [Ne.symm n4]) c1, c2⟩, ⟨_, _, (raw e2).keep (by simp [Ne.symm n5]) d1, d2.keep (raw e2) fun b hb => ?_, fun b hb => ?_⟩, ⟨n1, n2, n3, n4, n5, n6⟩, f1, f2, f3, f4⟩
        · obtain ⟨z1, z2, z3, z4⟩ := d3 b hb
          simp [z2]
        · obtain ⟨z1, z2, z3, z4⟩ := d3 b hb
          exact ⟨z1, z2, z3, fun h => absurd rfl h⟩
    · by_cases h8 : 248 ≤ o
      · -- real time
        have fin {st' : Int} {h2 : Heap} {tk2 : Nat} {tst' : Tok} (e2 : Ext [dt, lm] k h2) (hst' : (if T.st = 240 then 240 else 0) = st') (hz : st' ≠ 0 → T.st ≠ 0) (g1 : h2.get? dt = some (tokD b1 b2 b3 b4 b5 b6 b7 b8 b9 b10 (.int st' tst') (.ref lb) (.ref lm) b11 lnv))
            (g3 : (hsB o = true ∧ ∃ r, h2.get? lm = some (listOf (vm.push (.ref r)) (nm + 1)) ∧ h2.get? r = some (listOf #[.int o to] 0) ∧ After k r) ∨ (hsB o = false ∧ h2.get? lm = some (listOf vm nm))) : Q .none {s with heap := h2, toks := tk2} := by
          refine hQ h2 tk2 lb ((raw e2).mono (by simp)) (.inl rfl) ?_
          have hT : T.step o = { T with st := st', ms := if hsB o = true then T.ms ++ [[o]] else T.ms } := by unfold TS.step; rw [if_neg ho, if_neg h7, if_pos h8, hst']
          rw [hT]
          have row : RowsAt h2 vm.toList T.ms := d2.keep (raw e2) fun b hb => by
            obtain ⟨z1, z2, z3, z4⟩ := d3 b hb
            simp [z2, z3]
          rcases g3 with ⟨hh, r, g3, g4, g5⟩ | ⟨hh, g3⟩
          · refine ⟨(raw e2).keep (by simp [n1, n3]) a, ⟨_, _, _, _, _, _, _, _, _, _, _, _, _, g1, bl⟩, ⟨_, _, (raw e2).keep (by simp [Ne.symm n4, n6]) c1, c2⟩, ⟨_, _, g3, ?_, fun b hb => ?_⟩, ⟨n1, n2, n3, n4, n5, n6⟩, f1, f2, f3, f4⟩
            · simp only [hh, if_true]
              exact ra_push row ⟨_, _, g4, .cons _ _ .nil⟩
            · rcases mem_push hb with hb | rfl
              · obtain ⟨z1, z2, z3, z4⟩ := d3 b hb
                exact ⟨z1, z2, z3, fun h => z4 (hz h)⟩
              · exact ⟨g5.ne (q a), g5.ne (q bd), ⟨g5.ne (q d1), g5.base hs'⟩, fun _ => g5.ne (q c1)⟩
          · refine ⟨(raw e2).keep (by simp [n1, n3]) a, ⟨_, _, _, _, _, _, _, _, _, _, _, _, _, g1, bl⟩, ⟨_, _, (raw e2).keep (by simp [Ne.symm n4, n6]) c1, c2⟩, ⟨_, _, g3, ?_, fun b hb => ?_⟩, ⟨n1, n2, n3, n4, n5, n6⟩, f1, f2, f3, f4⟩
            · simp only [hh, Bool.false_eq_true, if_false]
              exact row
            · obtain ⟨z1, z2, z3, z4⟩ := d3 b hb
              exact ⟨z1, z2, z3, fun h => z4 (hz h)⟩
        by_cases hst : T.st = 240
        · rw [hst] at bd
          cases hh : hsB o with
          | true => exact c_fsb3bt (s := {s with heap := k, toks := tk}) t dt lm _ _ _ _ _ _ _ _ _ _ _ _ _ lnv nm vm o to S hs' hd (by omega) h8 o1 hh n1 n3 n5 (fo3 (q a) (q bd) (q d1) f1 f2 f4) fun h2 tk2 tst' e2 g1 g3 => fin e2 (by rw [if_pos hst]) (fun _ => by rw [hst]; decide) g1 (.inl ⟨hh, g3⟩)
          | false => exact c_fsb3bf (s := {s with heap := k, toks := tk}) t dt lm _ _ _ _ _ _ _ _ _ _ _ _ _ lnv nm vm o to S hs' hd (by omega) h8 o1 hh n1 n3 n5 (fo3 (q a) (q bd) (q d1) f1 f2 f4) fun h2 tk2 tst' e2 g1 g3 => fin e2 (by rw [if_pos hst]) (fun _ => by rw [hst]; decide) g1 (.inr ⟨hh, g3⟩)
        · cases hh : hsB o with
          | true => exact c_fsb3at (s := {s with heap := k, toks := tk}) t dt lm _ _ _ _ _ _ _ _ _ _ _ _ _ lnv T.st nm vm o to S hs' hd hst (by omega) h8 o1 hh n1 n3 n5 (fo3 (q a) (q bd) (q d1) f1 f2 f4) fun h2 tk2 tst' e2 g1 g3 => fin e2 (by rw [if_neg hst]) (fun h => absurd rfl h) g1 (.inl ⟨hh, g3⟩)
          | false => exact c_fsb3af (s := {s with heap := k, toks := tk}) t dt lm _ _ _ _ _ _ _ _ _ _ _ _ _ lnv T.st nm vm o to S hs' hd hst (by omega) h8 o1 hh n1 n3 n5 (fo3 (q a) (q bd) (q d1) f1 f2 f4) fun h2 tk2 tst' e2 g1 g3 => fin e2 (by rw [if_neg hst]) (fun h => absurd rfl h) g1 (.inr ⟨hh, g3⟩)
      · by_cases h6 : o = 246
        · subst h6
          refine c_fsb4 (s := {s with heap := k, toks := tk}) t dt lm _ _ _ _ _ _ _ _ _ _ _ _ _ lnv T.st nm vm to S hs' hd (by omega) n1 n3 n5 (fo3 (q a) (q bd) (q d1) f1 f2 f4) fun h2 tk2 tst' e2 g1 g3 => hQ h2 tk2 lb ((raw e2).mono (by simp)) (.inl rfl) ?_
          obtain ⟨r, g3, g4, g5⟩ := g3
          have hT : T.step 246 = { T with st := 0, ms := T.ms ++ [[246]] } := by unfold TS.step; rw [if_neg (by decide), if_neg (by decide), if_neg (by decide), if_pos rfl]
          rw [hT]
          refine ⟨(raw e2).keep (by simp [n1, n3]) a, ⟨_, _, _, _, _, _, _, _, _, _, _, _, _, g1, bl⟩, ⟨_, _, (raw e2).keep (by simp [Ne.symm n4, n6]) c1, c2⟩, ⟨_, _, g3, ra_push (d2.keep (raw e2) fun b hb => ?_) ⟨_, _, g4, .cons _ _ .nil⟩, fun b hb => ?_⟩, ⟨n1, n2, n3, n4, n5, n6⟩, f1, f2, f3, f4⟩
          · obtain ⟨z1, z2, z3, z4⟩ := d3 b hb
            simp [z2, z3]
          · rcases mem_push hb with hb | rfl
            · obtain ⟨z1, z2, z3, z4⟩ := d3 b hb
              exact ⟨z1, z2, z3, fun h => absurd rfl h⟩
            · exact ⟨g5.ne (q a), g5.ne (q bd), ⟨g5.ne (q d1), g5.base hs'⟩, fun h => absurd rfl h⟩
        · have hh : hsB o = true := by
            rcases go with h | h | h | h | h | h | h | h | h | h | h | h
            · omega
            all_goals first | (have z : 128 ≤ o ∧ o ≤ 239 := by omega
                               simp [hsB, z]) | (subst h; decide) | omega
          obtain ⟨lv2, hl1, hl2, ⟨sp, es, nn, hss, hsl, hsk, hse⟩⟩ := lenOf_spec S go (by omega) h7 (by omega) h6
          have hT : T.step o = { T with st := o, bs := [o], ln := lenOf o } := by unfold TS.step; rw [if_neg ho, if_neg h7, if_neg h8, if_neg h6]
          have fin {h2 : Heap} {tk2 : Nat} {r : Addr} (e2 : Ext [dt] k h2) (g1 : h2.get? dt = some (tokD b1 b2 b3 b4 b5 b6 b7 b8 b9 b10 (.int o to) (.ref r) (.ref lm) b11 lv2)) (g2 : h2.get? r = some (listOf #[.int o to] 0)) (g5 : After k r) : Q .none {s with heap := h2, toks := tk2} := by
            refine hQ h2 tk2 r ((raw e2).mono (by simp)) (.inr ?_) ?_
            · exact g5.back e (fun h => nomatch h)
            · rw [hT]
              refine ⟨(raw e2).keep (by simp [n1]) a, ⟨_, _, _, _, _, _, _, _, _, _, _, _, _, g1, hl1⟩, ⟨_, _, g2, .cons _ _ .nil⟩, ⟨_, _, (raw e2).keep (by simp [Ne.symm n5]) d1, d2.keep (raw e2) fun b hb => ?_, fun b hb => ?_⟩, ⟨n1, Ne.symm (g5.ne (q a)), n3, Ne.symm (g5.ne (q bd)), n5, g5.ne (q d1)⟩, f1, f2, g5.base hs', f4⟩
              · obtain ⟨z1, z2, z3, z4⟩ := d3 b hb
                simp [z2]
              · obtain ⟨z1, z2, z3, z4⟩ := d3 b hb
                refine ⟨z1, z2, z3, fun _ => ?_⟩
                obtain ⟨ob, hob⟩ := d2.old b hb
                exact Ne.symm (g5.ne (q hob))
          cases hlv : lenOf o with
          | none =>
            rw [hlv] at hl1
            cases hl1
            exact c_fsb6 (s := {s with heap := k, toks := tk}) t dt _ _ _ _ _ _ _ _ _ _ _ _ _ _ lnv T.st o to sp es nn S hs' hd h7 (by omega) hh (fun hs hA hQ => hss hs hA hQ) hsl hsk hse n1 (fo2 (q a) (q bd) f1 f2) fun h2 tk2 r e2 g1 g2 g5 => fin e2 g1 g2 g5
          | some n =>
            rw [hlv] at hl1
            cases hl1
            exact c_fsb5 (s := {s with heap := k, toks := tk}) t dt _ _ _ _ _ _ _ _ _ _ _ _ _ _ lnv T.st o to n _ sp es nn S hs' hd (hl2 _ _ rfl) h7 (by omega) hh (fun hs hA hQ => hss hs hA hQ) hsl hsk hse n1 (fo2 (q a) (q bd) f1 f2) fun h2 tk2 r e2 g1 g2 g5 => fin e2 g1 g2 g5
end PartC
theorem restD {M : Model} {A : Around} {s : Shared} {E : Value → Shared → Prop} {env : Env} {Q : Flow → Shared → Prop} (h : Q .next s) : wpAny M A (execs [] env) Q E s := by
  w_top off
  walk1
  w_top off
  exact h
section PartD
local macro_rules | `(tactic| k_steps) => `(tactic| repeat' (first | ((with_reducible show wpAny _ _ (call (Value.ref _) _ _) _ _ _); walk_at "mi_pc") | ((fail_if_success (with_reducible show wpAny _ _ (call (Value.ref _) _ _) _ _ _)); (fail_if_success (with_reducible show wpAny _ _ (exec (Stmt.Raise _ _ _) _) _ _ _)); first | (k_unfold; (try dsimp only)) | (k_end; wrow_close) | walk1 | (dsimp only; walk1) | (leave1; walk_say "STEP leave1"; (try dsimp only)) | fail "no step")))
local macro_rules | `(tactic| k_ne) => `(tactic| first | assumption | exact Ne.symm (by assumption))
local macro_rules | `(tactic| walk_at "call builtin:len") => `(tactic| (k_here; (with_reducible show wpAny _ _ (call (Value.builtin "len") [Value.ref _]) _ _ _); refine PyProof.Rows.len_list (News.isList (by k_asm) (by k_mem)) (by (try simp only [Array.size_push, List.size_toArray]); omega) ?_))
local macro_rules | `(tactic| walk_at "mi_ro") => `(tactic| repeat' (first | exact ro_nil | refine ro_keep (by k_mem) ?_ | refine ro_mut (by simp) ?_))
local macro_rules | `(tactic| walk_at "mi_depth") => `(tactic| ((try simp only [PySem.Around.deeper, PySem.Around.in1_depth]); omega))
local macro_rules | `(tactic| walk_at "mi_pure") => `(tactic| exact hQ _ _ (ext_of [] hgk hsz (fo_nil (base := base)) (by assumption) (by assumption) ro_nil))
local macro_rules | `(tactic| walk_at "mi_steps") => `(tactic| repeat' ((fail_if_success (with_reducible show wpAny _ _ (exec (Stmt.For _ _ _ _ _) _) _ _ _)); first | ((with_reducible show wpAny _ _ (call (Value.ref _) _ _) _ _ _); walk_at "mi_pc") | ((fail_if_success (with_reducible show wpAny _ _ (call (Value.ref _) _ _) _ _ _)); (fail_if_success (with_reducible show wpAny _ _ (exec (Stmt.Raise _ _ _) _) _ _ _)); first | (k_unfold; (try dsimp only)) | (k_end; kc_close) | walk1 | (dsimp only; walk1) | (leave1; walk_say "STEP leave1"; (try dsimp only)) | fail "no step")))
local macro_rules | `(tactic| walk_at "subscriptTail") => `(tactic| (k_here; (with_reducible show wpAny _ _ (subscriptTail _ _ (Value.ref _) (Value.str _ _)) _ _ _); k_dflt (refine' topItem_K ?F ?X ?l ?k ?e ?_; (case F => k_asm); (case X => k_asm); (case l => first | assumption | k_is); (case k => first | assumption | k_keys); (case e => first | assumption | k_is))))
local macro_rules | `(tactic| walk_at "mi_stepsC") => `(tactic| repeat' ((fail_if_success (with_reducible show wpAny _ _ (exec (Stmt.For _ _ _ _ _) _) _ _ _)); (fail_if_success (with_reducible show wpAny _ _ (exec (Stmt.Assign [_] (Expr.ListComp _ _ _ _) _) _) _ _ _)); (fail_if_success (with_reducible show wpAny _ _ (call (Value.type "zip") _) _ _ _)); (fail_if_success (with_reducible show wpAny _ _ (exec (Stmt.Assign [_] (Expr.DictComp _ _ _ _ _) _) _) _ _ _)); first | ((with_reducible show wpAny _ _ (call (Value.ref _) _ _) _ _ _); walk_at "mi_pc") | ((fail_if_success (with_reducible show wpAny _ _ (call (Value.ref _) _ _) _ _ _)); (fail_if_success (with_reducible show wpAny _ _ (exec (Stmt.Raise _ _ _) _) _ _ _)); first | (k_unfold; (try dsimp only)) | (k_end; kc_close) | walk1 | (dsimp only; walk1) | (leave1; walk_say "STEP leave1"; (try dsimp only)) | fail "no step")))
local macro_rules | `(tactic| walk_at "mi_stepsO") => `(tactic| repeat' ((fail_if_success (with_reducible show wpAny _ _ (exec (Stmt.For _ _ _ _ _) _) _ _ _)); (fail_if_success (with_reducible show wpAny _ _ (exec (Stmt.Assign [_] (Expr.ListComp _ _ _ _) _) _) _ _ _)); (fail_if_success (with_reducible show wpAny _ _ (call (Value.type "zip") _) _ _ _)); (fail_if_success (with_reducible show wpAny _ _ (exec (Stmt.Assign [_] (Expr.DictComp _ _ _ _ _) _) _) _ _ _)); first | ((with_reducible show wpAny _ _ (call (Value.ref _) _ _) _ _ _); walk_at "mi_pc") | ((fail_if_success (with_reducible show wpAny _ _ (call (Value.ref _) _ _) _ _ _)); (fail_if_success (with_reducible show wpAny _ _ (exec (Stmt.Raise _ _ _) _) _ _ _)); first | ((with_reducible show wpAny _ _ (execs _ _) _ _ _); exfalso; omega) | (k_unfold; (try dsimp only)) | (k_end; kc_close) | walk1 | (dsimp only; walk1) | (leave1; walk_say "STEP leave1"; (try dsimp only)) | fail "no step")))
theorem ext_same {a : Addr} {h h' : Heap} (hs : Heap.SameBut a h h') : Ext [a] h h' := fun b _ hb e => (hs.2 b (by simpa using hb)).trans e
theorem ext_extBut {a : Addr} {h h' : Heap} (hs : Heap.ExtBut a h h') : Ext [a] h h' := fun b o hb e => hs b o (by simpa using hb) e
theorem ext_push (h : Heap) (o : Obj) : Ext [] h (h.push o) := fun _ _ _ e => Heap.get?_push_of_some _ e

theorem frExt {g h h' : Heap} {L : Addr} {m : Str → Option Value} {mt : List Addr} (F : Fr g L h m) (x : Ext mt h h') (h1 : L ∉ mt) (h2 : ∀ a ∈ mt, g.get? a = none) : Fr g L h' m := by
  obtain ⟨oL, a1, a2, hL, a3⟩ := F.ns
  exact ⟨⟨oL, a1, a2, x.keep h1 hL, a3⟩, fun b o e => x.keep (fun q => by rw [h2 b q] at e; cases e) (F.keep b o e), F.above⟩
theorem nwNil {g h : Heap} {L : Addr} : News g L h [] := fun _ hp => nomatch hp
theorem nwCons {g h : Heap} {L a : Addr} {o : Obj} {l : List (Addr × Obj)} (e : h.get? a = some o) (n : a ≠ L) (f : g.get? a = none) (N : News g L h l) : News g L h ((a, o) :: l) := List.forall_mem_cons.mpr ⟨⟨e, n, f⟩, N⟩
/-- the frame is no other object -/
theorem frNe {g h : Heap} {L a : Addr} {m : Str → Option Value} {o : Obj} (F : Fr g L h m) (e : h.get? a = some o) (hd : ∀ es n, o.data ≠ .dict es n) : a ≠ L := fun q => by
  obtain ⟨oL, a1, a2, hL, a3, _⟩ := F.ns
  subst q
  rw [hL] at e
  cases e
  exact hd _ _ a3

section
variable {env : Env} {x : Str} {px : Pos} {body : List Stmt} {R : Result → Shared → Prop} {I l : Addr} {vs : Array Value}
theorem loopL (J : Nat → Shared → Prop) (hh : A.handled = none)
   (hit : ∀ i s', J i s' → s'.heap.IsListIter I l i ∧ s'.heap.IsList l vs)
   (turn : ∀ i v s' h', vs[i]? = some v → J i s' → h'.IsListIter I l (i + 1) → Ext [I] s'.heap h' →
      wpAny (model prog w) A (storeName env x v) (fun _ s₂ => wpAny (model prog w) A (execs body env) (fun f s₃ => match f with
          | .next | .cont => J (i + 1) s₃
          | .brk => R (.ok .next) s₃
          | .ret v => R (.ok (.ret v)) s₃) (notedBy (model prog w) A env fun e s' => R (.error e) s') s₂) (notedBy (model prog w) A env fun e s' => R (.error e) s') {s' with heap := h'})
   (done : ∀ s' h', J vs.size s' → Ext [I] s'.heap h' → R (.ok .next) {s' with heap := h'})
   (h : J 0 s) : codeAny (model prog w) A (.forLoop (.Name x px) (.ref I) body [] env) R s := by
  refine codeAny_forLoop (fun n s' => ∃ i, i ≤ vs.size ∧ n = vs.size - i ∧ J i s') (fun n s' hI => ?_) (vs.size - 0) ⟨0, Nat.zero_le _, rfl, h⟩
  obtain ⟨i, hi, rfl, hJ⟩ := hI
  obtain ⟨h1, h2⟩ := hit i s' hJ
  by_cases hlt : i < vs.size
  · have hx : vs[i]? = some vs[i] := by simp [hlt]
    refine wpAny_pyNext_list_item h1 h2 hx fun h' hit' hs => wpAny_assign_Name (wpAny_mono (turn i _ s' h' hx hJ hit' (ext_same hs)) (fun _ s₂ h₂ => wpAny_mono h₂ (fun f s₃ h₃ => ?_) fun _ _ e => e) fun _ _ e => e)
    cases f with
    | next => exact ⟨vs.size - (i + 1), by omega, i + 1, by omega, rfl, h₃⟩
    | cont => exact ⟨vs.size - (i + 1), by omega, i + 1, by omega, rfl, h₃⟩
    | brk => exact h₃
    | ret v => exact h₃
  · have e : i = vs.size := by omega
    subst e
    exact wpAny_pyNext_list_end hh h1 h2 (by simp) fun h' hs => wpAny_pure (done s' h' hJ (ext_extBut hs))
end

theorem ia_get {vs : Array Value} {ns : List Int} (h : IntsAre vs.toList ns) {i : Nat} {v : Value} (e : vs[i]? = some v) : ∃ n t, v = .int n t ∧ ns[i]? = some n :=
  IntsAre.at h i v (by simpa using e)

theorem TokAt.keep2 {h h' : Heap} {t dt lb lm : Addr} {T : TS} (x : TokAt base h t dt lb lm T) {mt : List Addr} (e : Ext mt h h') (h1 : t ∉ mt) (h2 : dt ∉ mt) (h4 : lm ∉ mt)
    (h5 : ∀ a ∈ mt, ∀ r, ¬ IsInts h a r) : TokAt base h' t dt lb lm T := by
  obtain ⟨a, ⟨b1, b2, b3, b4, b5, b6, b7, b8, b9, b10, b11, b12, b13, bd, bl⟩, ⟨vb, nb, c1, c2⟩, ⟨vm, nm, d1, d2, d3⟩, f, g⟩ := x
  have h3 : lb ∉ mt := fun q => h5 _ q _ ⟨_, _, c1, c2⟩
  refine ⟨e.keep h1 a, ⟨b1, b2, b3, b4, b5, b6, b7, b8, b9, b10, b11, b12, b13, e.keep h2 bd, bl⟩, ⟨vb, nb, e.keep h3 c1, c2⟩, ⟨vm, nm, e.keep h4 d1, ?_, d3⟩, f, g⟩
  generalize vm.toList = z at d2
  generalize T.ms = y at d2
  clear d1 d3
  induction d2 with
  | nil => exact .nil
  | cons y _ ih => exact .cons (y.keep e fun q => h5 _ q _ y) ih
theorem IsInts.neIter {h : Heap} {a I l : Addr} {r : List Int} {i : Nat} (x : IsInts h a r) (y : h.IsListIter I l i) : a ≠ I := fun q => by
  obtain ⟨vs, n, e, _⟩ := x
  obtain ⟨o, ho, hc, _⟩ := y
  subst q; rw [e] at ho; cases ho; exact absurd (Value.type.inj hc) (by decide)
theorem IsInts.neFr {g h : Heap} {a L : Addr} {m : Str → Option Value} {r : List Int} (x : IsInts h a r) (F : Fr g L h m) : a ≠ L := by
  obtain ⟨vs, n, e, _⟩ := x
  exact frNe F e fun _ _ z => by cases z
theorem old_ne {h : Heap} {a L : Addr} {o : Obj} (e : h.get? a = some o) (hL : L = h.objs.size) : a ≠ L := fun q => by
  subst hL; subst q; exact Nat.lt_irrefl _ (Heap.lt_size e)
theorem stE {M : Model} {Q : Unit → Shared → Prop} {g : Heap} {L a : Addr} {m : Str → Option Value} {name : Str} {scope : Scope} {cd : Value} {x : Str} {v : Value} (F : Fr g L s.heap m)
    (h : ∀ h', Fr g L h' (fun y => if y = x then some v else m y) → Ext [L] s.heap h' → Q () { s with heap := h', toks := s.toks + 1 })
    (hk : scope.kind = .function := by rfl) (hl : (envOf name scope L a cd).kindOf x = some .local := by rfl) : wpAny M A (storeName (envOf name scope L a cd) x v) Q E s :=
  wpAny_storeName_local hl F.ns (fun h' hn hs => h h' (F.set hn hs) (ext_same hs))
    (by show (scope.kind == .class || (scope.kind == .module && L != mainGlobals)) = false; rw [hk]; rfl)
theorem frMap {g h : Heap} {L : Addr} {m m' : Str → Option Value} (F : Fr g L h m) (e : ∀ y, m y = m' y) : Fr g L h m' := (funext e : m = m') ▸ F
theorem map_twice {x : Str} {v : Option Value} {u : Option Value} {m : Str → Option Value} (y : Str) : (if y = x then v else (fun y => if y = x then u else m y) y) = if y = x then v else m y := by
  by_cases h : y = x
  · simp [h]
  · simp [h]
theorem hid_none {foot : List (Addr × Obj)} {g h : Heap} {L : Addr} (N : News g L h foot) {a : Addr} {o : Obj} (hm : (a, o) ∈ foot) : g.get? a = none := N.fresh hm

theorem step_len (T : TS) (o : Int) : (T.step o).bs.length ≤ T.bs.length + 1 ∧ (T.step o).ms.length ≤ T.ms.length + 1 := by
  unfold TS.step
  repeat' split
  all_goals (try simp only [List.length_append, List.length_cons, List.length_nil])
  all_goals (try split)
  all_goals (try simp only [List.length_append, List.length_cons, List.length_nil])
  all_goals omega
theorem steps_len (ks : List Int) : ∀ T : TS, (ks.foldl TS.step T).bs.length ≤ T.bs.length + ks.length ∧ (ks.foldl TS.step T).ms.length ≤ T.ms.length + ks.length := by
  induction ks with
  | nil => intro T; exact ⟨Nat.le_refl _, Nat.le_refl _⟩
  | cons k ks ih =>
    intro T
    have h1 := ih (T.step k)
    have h2 := step_len T k
    simp only [List.foldl_cons, List.length_cons]
    omega

theorem c_feed {t dt lb lm : Addr} {T : TS} (data : Addr) (ns : List Int) (S : Bas w mean mg mb base) (hs : base.StaysIn s.heap) (hA : A.depth + 14 < recursionLimit) (hh : A.handled = none) (go : ∀ o ∈ ns, GoodO o) (x : TokAt base s.heap t dt lb lm T)
   (hd : IsInts s.heap data ns) (hne : data ≠ lb ∧ data ≠ lm) (hb : T.bs.length + ns.length < 900) (hm : T.ms.length + ns.length < 900)
   (hQ : ∀ h' tk lb', Ext [dt, lb, lm] s.heap h' → (lb' = lb ∨ After s.heap lb') → TokAt base h' t dt lb' lm (ns.foldl TS.step T) → Q .none {s with heap := h', toks := tk}) :
   wpAny (model prog w) A (call (.ref 500) [.ref t, .ref data]) Q E s := by
  obtain ⟨a, ⟨b1, b2, b3, b4, b5, b6, b7, b8, b9, b10, b11, b12, lnv, bd, bl⟩, ⟨vb, nb, c1, c2⟩, ⟨vm, nm, d1, d2, d3⟩, ⟨n1, n2, n3, n4, n5, n6⟩, f1, f2, f3, f4⟩ := id x
  obtain ⟨vs, nv, hd1, hd2⟩ := hd
  refine enterM (binds := [(Str.ofString "self", .ref t), (Str.ofString "data", .ref data)]) _ S hs (fo4 a bd c1 d1 f1 f2 f3 f4) (by k_is) (by k_is) (by omega) (.of_eq rfl) (locs rfl) ?_
  intro g L' h₁ hg F N X TT hgk hsz hL hgs
  walk1
  walk1
  refine wpAny_For ?_
  walk1
  have keep1 : ∀ {b : Addr} {ob : Obj}, s.heap.get? b = some ob → b ≠ t → b ≠ dt → b ≠ lb → b ≠ lm → g.get? b = some ob := fun {b ob} e z1 z2 z3 z4 => hgk b ob (by simp [z1, z2, z3, z4]) e
  have dt1 : data ≠ t := fun q => by rw [q, a] at hd1; cases hd1
  have dt2 : data ≠ dt := fun q => by rw [q, bd] at hd1; exact absurd (Value.type.inj (congrArg Obj.cls (Option.some.inj hd1))) (by decide)
  have gd := keep1 hd1 dt1 dt2 hne.1 hne.2
  refine wpAny_pyIter_list (items := vs) ⟨_, F.keep _ _ gd, rfl, _, rfl⟩ ?_
  generalize hI : h₁.objs.size = I
  have oldI : ∀ {b : Addr} {ob : Obj}, h₁.get? b = some ob → b ≠ I := fun e => old_ne e hI.symm
  have gt := N.fresh (.head _)
  have gdt := N.fresh (.tail _ (.head _))
  have glb := N.fresh (.tail _ (.tail _ (.head _)))
  have glm := N.fresh (.tail _ (.tail _ (.tail _ (.head _))))
  have gI : g.get? I = none := by
    cases q : g.get? I with
    | none => rfl
    | some ob => exact absurd rfl (oldI (F.keep _ _ q))
  have LI : L' ≠ I := by
    obtain ⟨oL, _, _, hLo, _⟩ := F.ns
    exact oldI hLo
  have k0 : ∀ {b : Addr} {ob : Obj}, s.heap.get? b = some ob → h₁.get? b = some ob := fun {b ob} e => by
    by_cases z1 : b = t
    · subst z1; rw [a] at e; cases e; exact N.get (.head _)
    by_cases z2 : b = dt
    · subst z2; rw [bd] at e; cases e; exact N.get (.tail _ (.head _))
    by_cases z3 : b = lb
    · subst z3; rw [c1] at e; cases e; exact N.get (.tail _ (.tail _ (.head _)))
    by_cases z4 : b = lm
    · subst z4; rw [d1] at e; cases e; exact N.get (.tail _ (.tail _ (.tail _ (.head _))))
    exact F.keep _ _ (keep1 e z1 z2 z3 z4)
  have e0 : Ext [] s.heap h₁ := fun b ob _ e => k0 e
  let J : Nat → Shared → Prop := fun i s' => ∃ h' tk u lb', s' = {s with heap := h', toks := tk} ∧ Fr g L' h' (fun y => if y = Str.ofString "byte" then u else List.lookup y [(Str.ofString "self", Value.ref t), (Str.ofString "data", Value.ref data)].reverse) ∧
    TokAt base h' t dt lb' lm ((ns.take i).foldl TS.step T) ∧ Ext [dt, lb, lm] s.heap h' ∧ (lb' = lb ∨ After s.heap lb') ∧ h'.IsListIter I data i
  refine loopL (vs := vs) (l := data) J hh ?_ ?_ ?_ ?_
  · rintro i s' ⟨h', tk, u, lb', rfl, F1, x1, e1, q1, it1⟩
    exact ⟨it1, ⟨_, F1.keep _ _ gd, rfl, _, rfl⟩⟩
  · rintro i v s' h' hx ⟨h1, tk, u, lb', rfl, F1, x1, e1, q1, it1⟩ it2 e2
    obtain ⟨o, to, rfl, ho⟩ := ia_get hd2 hx
    have F2 := frExt F1 e2 (by simpa using LI) (by simpa using gI)
    have nI : ∀ r, ¬ IsInts h1 I r := fun r z => z.neIter it1 rfl
    have x2 := x1.keep2 e2 (by simpa using oldI (k0 a)) (by simpa using oldI (k0 bd)) (by simpa using oldI (k0 d1)) (by simpa using nI)
    refine stE F2 fun h2 F3 e3 => ?_
    have F4 := frMap F3 map_twice
    have x3 := x2.keep2 e3 (by simpa using old_ne a hL) (by simpa using old_ne bd hL) (by simpa using old_ne d1 hL) (by simpa using fun r (z : IsInts h' L' r) => z.neFr F2 rfl)
    have e4 : Ext [dt, lb, lm] s.heap h2 := by
      intro b ob hb e
      refine e3.keep ?_ (e2.keep ?_ (e1.keep hb e))
      · simpa using old_ne e hL
      · simpa using oldI (k0 e)
    have it3 : h2.IsListIter I data (i + 1) := it2.at fun ob q => e3.keep (by simpa using Ne.symm LI) q
    have gl : g.get? lb' = none := by
      rcases q1 with rfl | q1
      · exact glb
      · cases z : g.get? lb' with
        | none => rfl
        | some ob => 
          exact absurd rfl (q1.ne (hgs _ _ z))
    obtain ⟨y1, ⟨z1, z2, z3, z4, z5, z6, z7, z8, z9, z10, z11, z12, z13, y2, _⟩, _, _, _, _⟩ := id x3
    have N4 : News g L' h2 [(t, instObj 517 dt), (dt, tokD z1 z2 z3 z4 z5 z6 z7 z8 z9 z10 (.int _ z12) (.ref lb') (.ref lm) z11 z13)] := nwCons y1 (old_ne a hL) gt (nwCons y2 (old_ne bd hL) gdt nwNil)
    clear N F F1 F2 F3
    k_steps
    have hlen := steps_len (ns.take i) T
    have hi : i < ns.length := (List.getElem?_eq_some_iff.mp ho).1
    have hti : (ns.take i).length ≤ ns.length := by rw [List.length_take]; omega
    refine c_fb (s := {s with heap := h2, toks := _}) o to S (e4.stays hs (by simp [f2, f3, f4])) (by walk_at "mi_depth") (go o (List.mem_of_getElem? ho)) x3 (by rw [List.length_take] at hlen; omega) (by rw [List.length_take] at hlen; omega) fun h5 tk5 lb5 e5 q5 x5 => ?_
    have Ll : L' ≠ lb' := fun q => by
      obtain ⟨_, _, ⟨vb', nb', c1', c2'⟩, _⟩ := x3
      exact IsInts.neFr ⟨vb', nb', c1', c2'⟩ F4 q.symm
    have F5 := frExt F4 e5 (by simp [Ne.symm (old_ne bd hL), Ne.symm (old_ne d1 hL), Ll]) (by simp [gdt, gl, glm])
    have Il : I ≠ lb' := fun q => by
      obtain ⟨_, _, ⟨vb', nb', c1', c2'⟩, _⟩ := x3
      exact IsInts.neIter ⟨vb', nb', c1', c2'⟩ it3 q.symm
    have it5 : h5.IsListIter I data (i + 1) := it3.at fun ob q => e5.keep (by simp [Ne.symm (oldI (k0 bd)), Ne.symm (oldI (k0 d1)), Il]) q
    have fin : J (i + 1) {s with heap := h5, toks := tk5} := by
      refine ⟨h5, tk5, _, lb5, rfl, F5, ?_, ?_, ?_, it5⟩
      · rw [List.take_add_one, ho, List.foldl_append]; exact x5
      · intro b ob hb e
        by_cases hbl : b = lb'
        · rcases q1 with rfl | q1
          · exact absurd (by simp [hbl]) hb
          · exact absurd hbl.symm (q1.ne e)
        · refine e5.keep ?_ (e4.keep hb e)
          simp only [List.mem_cons, List.not_mem_nil, or_false, not_or] at hb ⊢
          exact ⟨hb.1, hbl, hb.2.2⟩
      · rcases q5 with rfl | q5
        · exact q1
        · by_cases hbl : lb5 = lb
          · exact .inl hbl
          · exact .inr (q5.back e4 (fun hm => by
              simp only [List.mem_cons, List.not_mem_nil, or_false] at hm
              rcases hm with rfl | rfl | rfl
              · exact q5.ne y2 rfl
              · exact hbl rfl
              · obtain ⟨_, _, _, ⟨vm', nm', d1', _⟩, _⟩ := x3
                exact q5.ne d1' rfl))
    clear_value J
    k_steps
    exact fin
  · rintro s' h' ⟨h1, tk, u, lb', rfl, F1, x1, e1, q1, it1⟩ e2
    have F2 := frExt F1 e2 (by simpa using LI) (by simpa using gI)
    have nI : ∀ r, ¬ IsInts h1 I r := fun r z => z.neIter it1 rfl
    have x2 := x1.keep2 e2 (by simpa using oldI (k0 a)) (by simpa using oldI (k0 bd)) (by simpa using oldI (k0 d1)) (by simpa using nI)
    have hz : ns.take vs.size = ns := by rw [ia_size hd2]; simp
    rw [hz] at x2
    have e4 : Ext [dt, lb, lm] s.heap h' := fun b ob hb e => e2.keep (by simpa using oldI (k0 e)) (e1.keep hb e)
    clear N F F1
    k_steps
    exact hQ _ _ lb' e4 q1 x2
  · have e2 : Ext [] h₁ (h₁.push { cls := .type "list_iterator", data := .fields #[.ref data, .int 0 0] }) := ext_push _ _
    have hit : (h₁.push { cls := .type "list_iterator", data := .fields #[.ref data, .int 0 0] }).get? I = some { cls := .type "list_iterator", data := .fields #[.ref data, .int 0 0] } := by
      rw [← hI]; exact Heap.get?_push_size _ rfl
    refine ⟨_, _, none, lb, rfl, frMap (frExt F e2 (fun h => nomatch h) (fun _ h => nomatch h)) fun y => ?_, (x.keep2 e0 (fun h => nomatch h) (fun h => nomatch h) (fun h => nomatch h) (fun _ h => nomatch h)).keep2 e2 (fun h => nomatch h) (fun h => nomatch h) (fun h => nomatch h) (fun _ h => nomatch h), (e0.trans e2).nil, .inl rfl, ⟨_, hit, rfl, rfl⟩⟩
    by_cases hy : y = Str.ofString "byte"
    · subst hy; rfl
    · simp only [if_neg hy]
end PartD
theorem restE {M : Model} {A : Around} {s : Shared} {E : Value → Shared → Prop} {env : Env} {Q : Flow → Shared → Prop} (h : Q .next s) : wpAny M A (execs [] env) Q E s := by
  w_top off
  walk1
  w_top off
  exact h
section PartE
local macro_rules | `(tactic| k_steps) => `(tactic| repeat' (first | ((with_reducible show wpAny _ _ (call (Value.ref _) _ _) _ _ _); walk_at "mi_pc") | ((fail_if_success (with_reducible show wpAny _ _ (call (Value.ref _) _ _) _ _ _)); (fail_if_success (with_reducible show wpAny _ _ (exec (Stmt.Raise _ _ _) _) _ _ _)); first | (k_unfold; (try dsimp only)) | (k_end; wrow_close) | walk1 | (dsimp only; walk1) | (leave1; walk_say "STEP leave1"; (try dsimp only)) | fail "no step")))
local macro_rules | `(tactic| k_ne) => `(tactic| first | assumption | exact Ne.symm (by assumption))
local macro_rules | `(tactic| walk_at "call builtin:len") => `(tactic| (k_here; (with_reducible show wpAny _ _ (call (Value.builtin "len") [Value.ref _]) _ _ _); refine PyProof.Rows.len_list (News.isList (by k_asm) (by k_mem)) (by (try simp only [Array.size_push, List.size_toArray]); omega) ?_))
local macro_rules | `(tactic| walk_at "mi_ro") => `(tactic| repeat' (first | exact ro_nil | refine ro_keep (by k_mem) ?_ | refine ro_mut (by simp) ?_))
local macro_rules | `(tactic| walk_at "mi_depth") => `(tactic| ((try simp only [PySem.Around.deeper, PySem.Around.in1_depth]); omega))
local macro_rules | `(tactic| walk_at "mi_pure") => `(tactic| exact hQ _ _ (ext_of [] hgk hsz (fo_nil (base := base)) (by assumption) (by assumption) ro_nil))
local macro_rules | `(tactic| walk_at "mi_steps") => `(tactic| repeat' ((fail_if_success (with_reducible show wpAny _ _ (exec (Stmt.For _ _ _ _ _) _) _ _ _)); first | ((with_reducible show wpAny _ _ (call (Value.ref _) _ _) _ _ _); walk_at "mi_pc") | ((fail_if_success (with_reducible show wpAny _ _ (call (Value.ref _) _ _) _ _ _)); (fail_if_success (with_reducible show wpAny _ _ (exec (Stmt.Raise _ _ _) _) _ _ _)); first | (k_unfold; (try dsimp only)) | (k_end; kc_close) | walk1 | (dsimp only; walk1) | (leave1; walk_say "STEP leave1"; (try dsimp only)) | fail "no step")))
local macro_rules | `(tactic| walk_at "subscriptTail") => `(tactic| (k_here; (with_reducible show wpAny _ _ (subscriptTail _ _ (Value.ref _) (Value.str _ _)) _ _ _); k_dflt (refine' topItem_K ?F ?X ?l ?k ?e ?_; (case F => k_asm); (case X => k_asm); (case l => first | assumption | k_is); (case k => first | assumption | k_keys); (case e => first | assumption | k_is))))
local macro_rules | `(tactic| walk_at "mi_stepsC") => `(tactic| repeat' ((fail_if_success (with_reducible show wpAny _ _ (exec (Stmt.For _ _ _ _ _) _) _ _ _)); (fail_if_success (with_reducible show wpAny _ _ (exec (Stmt.Assign [_] (Expr.ListComp _ _ _ _) _) _) _ _ _)); (fail_if_success (with_reducible show wpAny _ _ (call (Value.type "zip") _) _ _ _)); (fail_if_success (with_reducible show wpAny _ _ (exec (Stmt.Assign [_] (Expr.DictComp _ _ _ _ _) _) _) _ _ _)); first | ((with_reducible show wpAny _ _ (call (Value.ref _) _ _) _ _ _); walk_at "mi_pc") | ((fail_if_success (with_reducible show wpAny _ _ (call (Value.ref _) _ _) _ _ _)); (fail_if_success (with_reducible show wpAny _ _ (exec (Stmt.Raise _ _ _) _) _ _ _)); first | (k_unfold; (try dsimp only)) | (k_end; kc_close) | walk1 | (dsimp only; walk1) | (leave1; walk_say "STEP leave1"; (try dsimp only)) | fail "no step")))
local macro_rules | `(tactic| walk_at "mi_stepsO") => `(tactic| repeat' ((fail_if_success (with_reducible show wpAny _ _ (exec (Stmt.For _ _ _ _ _) _) _ _ _)); (fail_if_success (with_reducible show wpAny _ _ (exec (Stmt.Assign [_] (Expr.ListComp _ _ _ _) _) _) _ _ _)); (fail_if_success (with_reducible show wpAny _ _ (call (Value.type "zip") _) _ _ _)); (fail_if_success (with_reducible show wpAny _ _ (exec (Stmt.Assign [_] (Expr.DictComp _ _ _ _ _) _) _) _ _ _)); first | ((with_reducible show wpAny _ _ (call (Value.ref _) _ _) _ _ _); walk_at "mi_pc") | ((fail_if_success (with_reducible show wpAny _ _ (call (Value.ref _) _ _) _ _ _)); (fail_if_success (with_reducible show wpAny _ _ (exec (Stmt.Raise _ _ _) _) _ _ _)); first | ((with_reducible show wpAny _ _ (execs _ _) _ _ _); exfalso; omega) | (k_unfold; (try dsimp only)) | (k_end; kc_close) | walk1 | (dsimp only; walk1) | (leave1; walk_say "STEP leave1"; (try dsimp only)) | fail "no step")))
theorem c_chk_channel (v : Int) (t : Tok) (S : Bas w mean mg mb base) (hs : base.StaysIn s.heap) (hA : A.depth + 2 < recursionLimit) (h1 : 0 ≤ v) (h2 : v ≤ 15)
   (hQ : ∀ h' tk, Ext [] s.heap h' → Q .none {s with heap := h', toks := tk}) :
   wpAny (model prog w) A (call (.ref 123) [.int v t]) Q E s := by
  refine enterM (binds := [(Str.ofString "channel", .int v t)]) [] S hs fo_nil (by k_is) (by k_is) (by omega) (.of_eq rfl) (locs rfl) ?_
  intro g L' h₁ hg F N X TT hgk hsz hL hgs
  k_steps
  all_goals first | (exfalso; omega) | exact hQ _ _ (ext_of [] hgk hsz (fo_nil (base := base)) (by assumption) (by assumption) ro_nil)

theorem c_chk_pos (v : Int) (t : Tok) (S : Bas w mean mg mb base) (hs : base.StaysIn s.heap) (hA : A.depth + 2 < recursionLimit) (h1 : 0 ≤ v) (h2 : v ≤ 16383)
   (hQ : ∀ h' tk, Ext [] s.heap h' → Q .none {s with heap := h', toks := tk}) :
   wpAny (model prog w) A (call (.ref 130) [.int v t]) Q E s := by
  refine enterM (binds := [(Str.ofString "pos", .int v t)]) [] S hs fo_nil (by k_is) (by k_is) (by omega) (.of_eq rfl) (locs rfl) ?_
  intro g L' h₁ hg F N X TT hgk hsz hL hgs
  k_steps
  all_goals first | (exfalso; omega) | exact hQ _ _ (ext_of [] hgk hsz (fo_nil (base := base)) (by assumption) (by assumption) ro_nil)

theorem c_chk_pitch (v : Int) (t : Tok) (S : Bas w mean mg mb base) (hs : base.StaysIn s.heap) (hA : A.depth + 2 < recursionLimit) (h1 : -8192 ≤ v) (h2 : v ≤ 8191)
   (hQ : ∀ h' tk, Ext [] s.heap h' → Q .none {s with heap := h', toks := tk}) :
   wpAny (model prog w) A (call (.ref 137) [.int v t]) Q E s := by
  refine enterM (binds := [(Str.ofString "pitch", .int v t)]) [] S hs fo_nil (by k_is) (by k_is) (by omega) (.of_eq rfl) (locs rfl) ?_
  intro g L' h₁ hg F N X TT hgk hsz hL hgs
  k_steps
  all_goals first | (exfalso; omega) | exact hQ _ _ (ext_of [] hgk hsz (fo_nil (base := base)) (by assumption) (by assumption) ro_nil)

theorem c_chk_frame_type (v : Int) (t : Tok) (S : Bas w mean mg mb base) (hs : base.StaysIn s.heap) (hA : A.depth + 2 < recursionLimit) (h1 : 0 ≤ v) (h2 : v ≤ 7)
   (hQ : ∀ h' tk, Ext [] s.heap h' → Q .none {s with heap := h', toks := tk}) :
   wpAny (model prog w) A (call (.ref 151) [.int v t]) Q E s := by
  refine enterM (binds := [(Str.ofString "value", .int v t)]) [] S hs fo_nil (by k_is) (by k_is) (by omega) (.of_eq rfl) (locs rfl) ?_
  intro g L' h₁ hg F N X TT hgk hsz hL hgs
  k_steps
  all_goals first | (exfalso; omega) | exact hQ _ _ (ext_of [] hgk hsz (fo_nil (base := base)) (by assumption) (by assumption) ro_nil)

theorem c_chk_frame_value (v : Int) (t : Tok) (S : Bas w mean mg mb base) (hs : base.StaysIn s.heap) (hA : A.depth + 2 < recursionLimit) (h1 : 0 ≤ v) (h2 : v ≤ 15)
   (hQ : ∀ h' tk, Ext [] s.heap h' → Q .none {s with heap := h', toks := tk}) :
   wpAny (model prog w) A (call (.ref 158) [.int v t]) Q E s := by
  refine enterM (binds := [(Str.ofString "value", .int v t)]) [] S hs fo_nil (by k_is) (by k_is) (by omega) (.of_eq rfl) (locs rfl) ?_
  intro g L' h₁ hg F N X TT hgk hsz hL hgs
  k_steps
  all_goals first | (exfalso; omega) | exact hQ _ _ (ext_of [] hgk hsz (fo_nil (base := base)) (by assumption) (by assumption) ro_nil)

theorem c_chk_data_byte (v : Int) (t : Tok) (S : Bas w mean mg mb base) (hs : base.StaysIn s.heap) (hA : A.depth + 2 < recursionLimit) (h1 : 0 ≤ v) (h2 : v ≤ 127)
   (hQ : ∀ h' tk, Ext [] s.heap h' → Q .none {s with heap := h', toks := tk}) :
   wpAny (model prog w) A (call (.ref 165) [.int v t]) Q E s := by
  refine enterM (binds := [(Str.ofString "value", .int v t)]) [] S hs fo_nil (by k_is) (by k_is) (by omega) (.of_eq rfl) (locs rfl) ?_
  intro g L' h₁ hg F N X TT hgk hsz hL hgs
  k_steps
  all_goals first | (exfalso; omega) | exact hQ _ _ (ext_of [] hgk hsz (fo_nil (base := base)) (by assumption) (by assumption) ro_nil)

theorem c_chk_time (v : Int) (t : Tok) (S : Bas w mean mg mb base) (hs : base.StaysIn s.heap) (hA : A.depth + 2 < recursionLimit)
   (hQ : ∀ h' tk, Ext [] s.heap h' → Q .none {s with heap := h', toks := tk}) :
   wpAny (model prog w) A (call (.ref 172) [.int v t]) Q E s := by
  refine enterM (binds := [(Str.ofString "time", .int v t)]) [] S hs fo_nil (by k_is) (by k_is) (by omega) (.of_eq rfl) (locs rfl) ?_
  intro g L' h₁ hg F N X TT hgk hsz hL hgs
  k_steps
  all_goals first | (exfalso; omega) | exact hQ _ _ (ext_of [] hgk hsz (fo_nil (base := base)) (by assumption) (by assumption) ro_nil)

theorem topInT_K {K : Frag} {h₀ : Heap} {L a : Addr} {m : Str → Option Value} {es : Array DictEntry} {n : Nat} {x : Str} {t : Tok} {r : Value} (F : Fr h₀ L s.heap m) (X₀ : K.In h₀) (hl : K.lookup a = some ⟨.type "dict", none, .dict es n, #[]⟩) (hk : KeysLit w.params es.toList) (e : nsIn K a x = some (some r)) (lo : (a == sysModules) = false)
    (h : Q (.bool true) { s with toks := s.toks + 1 }) : wpAny (model prog w) A (compareOp .In (.str x t) (.ref a)) Q E s := topIn_K F X₀ hl hk e lo h
theorem topNotIn_K {K : Frag} {h₀ : Heap} {L a : Addr} {m : Str → Option Value} {es : Array DictEntry} {n : Nat} {x : Str} {t : Tok} {r : Value} (F : Fr h₀ L s.heap m) (X₀ : K.In h₀) (hl : K.lookup a = some ⟨.type "dict", none, .dict es n, #[]⟩) (hk : KeysLit w.params es.toList) (e : nsIn K a x = some (some r)) (lo : (a == sysModules) = false)
    (h : Q (.bool false) { s with toks := s.toks + 1 }) : wpAny (model prog w) A (compareOp .NotIn (.str x t) (.ref a)) Q E s :=
  wpAny_notIn_of (strKind_is prog w x t) lo (mapOf_K (prog := prog) (X₀.keeps F.keep) hl hk) (by rw [find_K hl e]; exact h)
local macro_rules | `(tactic| walk_at "compareOp NotIn str ref") => `(tactic| (k_here; k_dflt (refine' topNotIn_K ?F ?X ?l ?k ?e ?o ?_; (case F => k_asm); (case X => k_asm); (case l => k_is); (case k => k_keys); (case e => first | assumption | k_is); (case o => decide))))

theorem c_chk_type (ty : Str) (t : Tok) (sp : Addr) (e : nsIn (hd.heap_39 w.params) 29 ty = some (some (.ref sp))) (S : Bas w mean mg mb base) (hs : base.StaysIn s.heap) (hA : A.depth + 2 < recursionLimit)
   (hQ : ∀ h' tk, Ext [] s.heap h' → Q .none {s with heap := h', toks := tk}) :
   wpAny (model prog w) A (call (.ref 116) [.str ty t]) Q E s := by
  refine enterM (binds := [(Str.ofString "type_", .str ty t)]) [] S hs fo_nil (by k_is) (by k_is) (by omega) (.of_eq rfl) (locs rfl) ?_
  intro g L' h₁ hg F N X TT hgk hsz hL hgs
  k_steps
  all_goals first | (exfalso; omega) | exact hQ _ _ (ext_of [] hgk hsz (fo_nil (base := base)) (by assumption) (by assumption) ro_nil)

/-- an int that check_value lets through under the name x -/
structure VInt (x : Str) (v : Int) : Prop where
  channel : (x == Str.ofString "channel") = true → 0 ≤ v ∧ v ≤ 15
  data : (x == Str.ofString "data") = true → False
  frame_type : (x == Str.ofString "frame_type") = true → 0 ≤ v ∧ v ≤ 7
  frame_value : (x == Str.ofString "frame_value") = true → 0 ≤ v ∧ v ≤ 15
  pitch : (x == Str.ofString "pitch") = true → -8192 ≤ v ∧ v ≤ 8191
  pos : (x == Str.ofString "pos") = true → 0 ≤ v ∧ v ≤ 16383
  type : (x == Str.ofString "type") = true → False
  byte : (x == Str.ofString "channel") = false → (x == Str.ofString "frame_type") = false → (x == Str.ofString "frame_value") = false → (x == Str.ofString "pitch") = false → (x == Str.ofString "pos") = false → (x == Str.ofString "time") = false →
    ([Str.ofString "control", Str.ofString "note", Str.ofString "program", Str.ofString "song", Str.ofString "value", Str.ofString "velocity"].any fun y => y == x) = true ∧ 0 ≤ v ∧ v ≤ 127

theorem c_cv_int (x : Str) (tx : Tok) (v : Int) (t : Tok) (S : Bas w mean mg mb base) (hs : base.StaysIn s.heap) (hA : A.depth + 6 < recursionLimit) (hV : VInt x v)
   (hQ : ∀ h' tk, Ext [] s.heap h' → Q .none {s with heap := h', toks := tk}) :
   wpAny (model prog w) A (call (.ref 179) [.str x tx, .int v t]) Q E s := by
  refine enterM (binds := [(Str.ofString "name", .str x tx), (Str.ofString "value", .int v t)]) [] S hs fo_nil (by k_is) (by k_is) (by omega) (.of_eq rfl) (locs rfl) ?_
  intro g L' h₁ hg F N X TT hgk hsz hL hgs
  k_steps
  all_goals first
    | exact (hV.data (by assumption)).elim
    | exact (hV.type (by assumption)).elim
    | (refine pure_K (D := 2) (fun hs hA hQ => c_chk_channel _ _ S hs hA (hV.channel (by assumption)).1 (hV.channel (by assumption)).2 hQ) (by assumption) (by assumption) (by assumption) (by walk_at "mi_depth") ?_; intro h9 tk9 F9 N9; (try dsimp only))
    | (refine pure_K (D := 2) (fun hs hA hQ => c_chk_frame_type _ _ S hs hA (hV.frame_type (by assumption)).1 (hV.frame_type (by assumption)).2 hQ) (by assumption) (by assumption) (by assumption) (by walk_at "mi_depth") ?_; intro h9 tk9 F9 N9; (try dsimp only))
    | (refine pure_K (D := 2) (fun hs hA hQ => c_chk_frame_value _ _ S hs hA (hV.frame_value (by assumption)).1 (hV.frame_value (by assumption)).2 hQ) (by assumption) (by assumption) (by assumption) (by walk_at "mi_depth") ?_; intro h9 tk9 F9 N9; (try dsimp only))
    | (refine pure_K (D := 2) (fun hs hA hQ => c_chk_pitch _ _ S hs hA (hV.pitch (by assumption)).1 (hV.pitch (by assumption)).2 hQ) (by assumption) (by assumption) (by assumption) (by walk_at "mi_depth") ?_; intro h9 tk9 F9 N9; (try dsimp only))
    | (refine pure_K (D := 2) (fun hs hA hQ => c_chk_pos _ _ S hs hA (hV.pos (by assumption)).1 (hV.pos (by assumption)).2 hQ) (by assumption) (by assumption) (by assumption) (by walk_at "mi_depth") ?_; intro h9 tk9 F9 N9; (try dsimp only))
    | (refine pure_K (D := 2) (fun hs hA hQ => c_chk_time _ _ S hs hA hQ) (by assumption) (by assumption) (by assumption) (by walk_at "mi_depth") ?_; intro h9 tk9 F9 N9; (try dsimp only))
    | (refine pure_K (D := 2) (fun hs hA hQ => c_chk_data_byte _ _ S hs hA (hV.byte (by assumption) (by assumption) (by assumption) (by assumption) (by assumption) (by assumption)).2.1 (hV.byte (by assumption) (by assumption) (by assumption) (by assumption) (by assumption) (by assumption)).2.2 hQ) (by assumption) (by assumption) (by assumption) (by walk_at "mi_depth") ?_; intro h9 tk9 F9 N9; (try dsimp only))
    | exact Bool.noConfusion ((hV.byte (by assumption) (by assumption) (by assumption) (by assumption) (by assumption) (by assumption)).1.symm.trans (by assumption))
  all_goals k_steps
  all_goals exact hQ _ _ (ext_of [] hgk hsz (fo_nil (base := base)) (by assumption) (by assumption) ro_nil)

theorem c_cv_type (tx : Tok) (ty : Str) (t : Tok) (sp : Addr) (e : nsIn (hd.heap_39 w.params) 29 ty = some (some (.ref sp))) (S : Bas w mean mg mb base) (hs : base.StaysIn s.heap) (hA : A.depth + 6 < recursionLimit)
   (hQ : ∀ h' tk, Ext [] s.heap h' → Q .none {s with heap := h', toks := tk}) :
   wpAny (model prog w) A (call (.ref 179) [.str (Str.ofString "type") tx, .str ty t]) Q E s := by
  refine enterM (binds := [(Str.ofString "name", .str (Str.ofString "type") tx), (Str.ofString "value", .str ty t)]) [] S hs fo_nil (by k_is) (by k_is) (by omega) (.of_eq rfl) (locs rfl) ?_
  intro g L' h₁ hg F N X TT hgk hsz hL hgs
  k_steps
  refine pure_K (D := 2) (fun hs hA hQ => c_chk_type _ _ _ e S hs hA hQ) (by assumption) (by assumption) (by assumption) (by walk_at "mi_depth") ?_; intro h9 tk9 F9 N9; (try dsimp only)
  k_steps
  exact hQ _ _ (ext_of [] hgk hsz (fo_nil (base := base)) (by assumption) (by assumption) ro_nil)
end PartE
theorem restF {M : Model} {A : Around} {s : Shared} {E : Value → Shared → Prop} {env : Env} {Q : Flow → Shared → Prop} (h : Q .next s) : wpAny M A (execs [] env) Q E s := by
  w_top off
  walk1
  w_top off
  exact h
section PartF
local macro_rules | `(tactic| k_steps) => `(tactic| repeat' (first | ((with_reducible show wpAny _ _ (call (Value.ref _) _ _) _ _ _); walk_at "mi_pc") | ((fail_if_success (with_reducible show wpAny _ _ (call (Value.ref _) _ _) _ _ _)); (fail_if_success (with_reducible show wpAny _ _ (exec (Stmt.Raise _ _ _) _) _ _ _)); first | (k_unfold; (try dsimp only)) | (k_end; wrow_close) | walk1 | (dsimp only; walk1) | (leave1; walk_say "STEP leave1"; (try dsimp only)) | fail "no step")))
local macro_rules | `(tactic| k_ne) => `(tactic| first | assumption | exact Ne.symm (by assumption))
local macro_rules | `(tactic| walk_at "call builtin:len") => `(tactic| (k_here; (with_reducible show wpAny _ _ (call (Value.builtin "len") [Value.ref _]) _ _ _); refine PyProof.Rows.len_list (News.isList (by k_asm) (by k_mem)) (by (try simp only [Array.size_push, List.size_toArray]); omega) ?_))
local macro_rules | `(tactic| walk_at "mi_ro") => `(tactic| repeat' (first | exact ro_nil | refine ro_keep (by k_mem) ?_ | refine ro_mut (by simp) ?_))
local macro_rules | `(tactic| walk_at "mi_depth") => `(tactic| ((try simp only [PySem.Around.deeper, PySem.Around.in1_depth]); omega))
local macro_rules | `(tactic| walk_at "mi_pure") => `(tactic| exact hQ _ _ (ext_of [] hgk hsz (fo_nil (base := base)) (by assumption) (by assumption) ro_nil))
local macro_rules | `(tactic| walk_at "mi_steps") => `(tactic| repeat' ((fail_if_success (with_reducible show wpAny _ _ (exec (Stmt.For _ _ _ _ _) _) _ _ _)); first | ((with_reducible show wpAny _ _ (call (Value.ref _) _ _) _ _ _); walk_at "mi_pc") | ((fail_if_success (with_reducible show wpAny _ _ (call (Value.ref _) _ _) _ _ _)); (fail_if_success (with_reducible show wpAny _ _ (exec (Stmt.Raise _ _ _) _) _ _ _)); first | (k_unfold; (try dsimp only)) | (k_end; kc_close) | walk1 | (dsimp only; walk1) | (leave1; walk_say "STEP leave1"; (try dsimp only)) | fail "no step")))
local macro_rules | `(tactic| walk_at "subscriptTail") => `(tactic| (k_here; (with_reducible show wpAny _ _ (subscriptTail _ _ (Value.ref _) (Value.str _ _)) _ _ _); k_dflt (refine' topItem_K ?F ?X ?l ?k ?e ?_; (case F => k_asm); (case X => k_asm); (case l => first | assumption | k_is); (case k => first | assumption | k_keys); (case e => first | assumption | k_is))))
local macro_rules | `(tactic| walk_at "mi_stepsC") => `(tactic| repeat' ((fail_if_success (with_reducible show wpAny _ _ (exec (Stmt.For _ _ _ _ _) _) _ _ _)); (fail_if_success (with_reducible show wpAny _ _ (exec (Stmt.Assign [_] (Expr.ListComp _ _ _ _) _) _) _ _ _)); (fail_if_success (with_reducible show wpAny _ _ (call (Value.type "zip") _) _ _ _)); (fail_if_success (with_reducible show wpAny _ _ (exec (Stmt.Assign [_] (Expr.DictComp _ _ _ _ _) _) _) _ _ _)); first | ((with_reducible show wpAny _ _ (call (Value.ref _) _ _) _ _ _); walk_at "mi_pc") | ((fail_if_success (with_reducible show wpAny _ _ (call (Value.ref _) _ _) _ _ _)); (fail_if_success (with_reducible show wpAny _ _ (exec (Stmt.Raise _ _ _) _) _ _ _)); first | (k_unfold; (try dsimp only)) | (k_end; kc_close) | walk1 | (dsimp only; walk1) | (leave1; walk_say "STEP leave1"; (try dsimp only)) | fail "no step")))
local macro_rules | `(tactic| walk_at "mi_stepsO") => `(tactic| repeat' ((fail_if_success (with_reducible show wpAny _ _ (exec (Stmt.For _ _ _ _ _) _) _ _ _)); (fail_if_success (with_reducible show wpAny _ _ (exec (Stmt.Assign [_] (Expr.ListComp _ _ _ _) _) _) _ _ _)); (fail_if_success (with_reducible show wpAny _ _ (call (Value.type "zip") _) _ _ _)); (fail_if_success (with_reducible show wpAny _ _ (exec (Stmt.Assign [_] (Expr.DictComp _ _ _ _ _) _) _) _ _ _)); first | ((with_reducible show wpAny _ _ (call (Value.ref _) _ _) _ _ _); walk_at "mi_pc") | ((fail_if_success (with_reducible show wpAny _ _ (call (Value.ref _) _ _) _ _ _)); (fail_if_success (with_reducible show wpAny _ _ (exec (Stmt.Raise _ _ _) _) _ _ _)); first | ((with_reducible show wpAny _ _ (execs _ _) _ _ _); exfalso; omega) | (k_unfold; (try dsimp only)) | (k_end; kc_close) | walk1 | (dsimp only; walk1) | (leave1; walk_say "STEP leave1"; (try dsimp only)) | fail "no step")))
local macro_rules | `(tactic| walk_at "compareOp In str ref") => `(tactic| (k_here; k_dflt (refine' topInT_K ?F ?X ?l ?k ?e ?o ?_; (case F => k_asm); (case X => k_asm); (case l => k_is); (case k => k_keys); (case e => assumption); (case o => decide))))
section
variable {env : Env} {x : Str} {px : Pos} {body : List Stmt} {R : Result → Shared → Prop} {I l : Addr} {vs : Array Value}
theorem loopT (J : Nat → Shared → Prop) (hh : A.handled = none)
   (hit : ∀ i s', J i s' → s'.heap.IsTupleIter I l i ∧ s'.heap.IsTuple l vs)
   (turn : ∀ i v s' h', vs[i]? = some v → J i s' → h'.IsTupleIter I l (i + 1) → Ext [I] s'.heap h' →
      wpAny (model prog w) A (storeName env x v) (fun _ s₂ => wpAny (model prog w) A (execs body env) (fun f s₃ => match f with
          | .next | .cont => J (i + 1) s₃
          | .brk => R (.ok .next) s₃
          | .ret v => R (.ok (.ret v)) s₃) (notedBy (model prog w) A env fun e s' => R (.error e) s') s₂) (notedBy (model prog w) A env fun e s' => R (.error e) s') {s' with heap := h'})
   (done : ∀ s' h', J vs.size s' → Ext [I] s'.heap h' → R (.ok .next) {s' with heap := h'})
   (h : J 0 s) : codeAny (model prog w) A (.forLoop (.Name x px) (.ref I) body [] env) R s := by
  refine codeAny_forLoop (fun n s' => ∃ i, i ≤ vs.size ∧ n = vs.size - i ∧ J i s') (fun n s' hI => ?_) (vs.size - 0) ⟨0, Nat.zero_le _, rfl, h⟩
  obtain ⟨i, hi, rfl, hJ⟩ := hI
  obtain ⟨h1, h2⟩ := hit i s' hJ
  by_cases hlt : i < vs.size
  · have hx : vs[i]? = some vs[i] := by simp [hlt]
    refine wpAny_pyNext_tuple_item h1 h2 hx fun h' hit' hs => wpAny_assign_Name (wpAny_mono (turn i _ s' h' hx hJ hit' (ext_same hs)) (fun _ s₂ h₂ => wpAny_mono h₂ (fun f s₃ h₃ => ?_) fun _ _ e => e) fun _ _ e => e)
    cases f with
    | next => exact ⟨vs.size - (i + 1), by omega, i + 1, by omega, rfl, h₃⟩
    | cont => exact ⟨vs.size - (i + 1), by omega, i + 1, by omega, rfl, h₃⟩
    | brk => exact h₃
    | ret v => exact h₃
  · have e : i = vs.size := by omega
    subst e
    exact wpAny_pyNext_tuple_end hh h1 h2 (by simp) fun h' hs => wpAny_pure (done s' h' hJ (ext_extBut hs))
end

/-- what the top says of a message type -/
structure KindS (w : World) (ty : Str) (sp vn an : Addr) (names anames : List Str) : Prop where
  kIn : nsIn (hd.heap_39 w.params) 29 ty = some (some (.ref sp))
  kSp : ∃ es nn, (hd.heap_39 w.params).lookup sp = some ⟨.type "dict", none, .dict es nn, #[]⟩ ∧ KeysLit w.params es.toList
  kVn : nsIn (hd.heap_39 w.params) sp (Str.ofString "value_names") = some (some (.ref vn))
  kAn : nsIn (hd.heap_39 w.params) sp (Str.ofString "attribute_names") = some (some (.ref an))
  kNames : ∃ vs : Array Value, (hd.heap_39 w.params).lookup vn = some ⟨.type "tuple", none, .seq vs 0, #[]⟩ ∧ StrsAre vs.toList names
  kAnames : ∃ vs : Array Value, (hd.heap_39 w.params).lookup an = some ⟨.type "tuple", none, .seq vs 0, #[]⟩ ∧ StrsAre vs.toList anames

theorem after_news {g h h' : Heap} {L a : Addr} {o : Obj} {foot news : List (Addr × Obj)} (hgk : ∀ b o, b ∉ Adr foot → h.get? b = some o → g.get? b = some o) (N : News g L h' news) (hm : (a, o) ∈ news) (hn : a ∉ Adr foot) : After h a := by
  cases q : h.get? a with
  | none => exact q
  | some ob => have := N.fresh hm; rw [hgk a ob hn q] at this; cases this
theorem sa_get {vs : Array Value} {ns : List Str} (h : StrsAre vs.toList ns) {i : Nat} {v : Value} (e : vs[i]? = some v) : ∃ n t, v = .str n t ∧ ns[i]? = some n := by
  rw [← Array.getElem?_toList] at e
  generalize vs.toList = l at h e
  induction h generalizing i with
  | nil => cases e
  | cons y t _ ih =>
    cases i with
    | zero => cases e; exact ⟨y, t, rfl, rfl⟩
    | succ i => exact ih (by simpa using e)
theorem sa_size {vs : Array Value} {ns : List Str} (h : StrsAre vs.toList ns) : vs.size = ns.length := by
  rw [← Array.length_toList]
  generalize vs.toList = l at h
  induction h with
  | nil => rfl
  | cons _ _ _ ih => simp [ih]
theorem stored_len {K : Type} [DecidableEq K] (kvs : List (K × Value)) (k : K) (v : Value) : (stored kvs k v).length ≤ kvs.length + 1 := by
  unfold stored; split <;> simp
theorem stored_all {K : Type} [DecidableEq K] {P : K × Value → Prop} {kvs : List (K × Value)} {k : K} {v : Value} (h : ∀ p ∈ kvs, P p) (hk : P (k, v)) : ∀ p ∈ stored kvs k v, P p := by
  unfold stored
  split
  · intro p hp
    obtain ⟨q, hq, rfl⟩ := List.mem_map.mp hp
    by_cases e : q.1 = k
    · simp only [if_pos e]; rw [e]; exact hk
    · simp only [if_neg e]; exact h q hq
  · intro p hp
    rcases List.mem_append.mp hp with hp | hp
    · exact h p hp
    · rw [List.mem_singleton.mp hp]; exact hk
theorem stored_fold_len {K : Type} [DecidableEq K] (dv : K → Value) (ns : List K) : ∀ kvs : List (K × Value), (ns.foldl (fun k x => stored k x (dv x)) kvs).length ≤ kvs.length + ns.length := by
  induction ns with
  | nil => intro kvs; exact Nat.le_refl _
  | cons n ns ih =>
    intro kvs
    have h1 := ih (stored kvs n (dv n))
    have h2 := stored_len kvs n (dv n)
    simp only [List.foldl_cons, List.length_cons]; omega
theorem neTupIter {g h : Heap} {a I l : Addr} {i : Nat} {o : Obj} (y : h.IsTupleIter I l i) (e : h.get? a = some o) (hc : o.cls ≠ .type "tuple_iterator") : a ≠ I := fun q => by
  obtain ⟨ob, ho, hc', _⟩ := y
  subst q; rw [e] at ho; cases ho; exact hc hc'

theorem News.tail' {g h : Heap} {L : Addr} {p : Addr × Obj} {news : List (Addr × Obj)} (N : News g L h (p :: news)) : News g L h news := fun q hq => N q (.tail _ hq)
theorem nwExt {g h h' : Heap} {L : Addr} {news : List (Addr × Obj)} {mt : List Addr} (N : News g L h news) (e : Ext mt h h') (hn : ∀ p ∈ news, p.1 ∉ mt) : News g L h' news :=
  fun p hp => ⟨e.keep (hn p hp) (N p hp).1, (N p hp).2⟩
theorem allNil {P : Addr × Obj → Prop} : ∀ p ∈ ([] : List (Addr × Obj)), P p := fun _ h => nomatch h
theorem allCons {P : Addr × Obj → Prop} {q : Addr × Obj} {l : List (Addr × Obj)} (h : P q) (r : ∀ p ∈ l, P p) : ∀ p ∈ q :: l, P p := List.forall_mem_cons.mpr ⟨h, r⟩

section
variable {K : Type} [DecidableEq K] {knd : KeyKind prog w K} {h₀ : Heap} {L d o₂ : Addr} {m : Str → Option Value} {news : List (Addr × Obj)} {g : Obj → List (Addr × Obj)} {o ob : Obj} {kvs more : List (K × Value)}
theorem kda_update (F : Fr h₀ L s.heap m) (N : News h₀ L s.heap news) (U : UpdF d o news g) (hd : o.IsDictOf knd kvs) (hp : (o₂, ob) ∈ news) (hd2 : ob.IsDictOf knd more) (hne : d ≠ o₂) (lo : (o₂ == sysModules) = false) (hsz : kvs.length + more.length ≤ sizeLine)
    (h : ∀ h' o', Fr h₀ L h' m → News h₀ L h' (g o') → o'.IsDictOf knd (merged kvs more) → Q .none { s with heap := h' }) : wpAny (model prog w) A (call (.builtin "dict.update") [.ref d, .ref o₂]) Q E s := by
  obtain ⟨pre, post, rfl, hg, a, b⟩ := U.split
  have hm := N (d, o) (List.mem_append_right _ (.head _))
  have hD : s.heap.DictOf knd d kvs := Heap.dictOf_iff.mpr ⟨o, hm.1, hd⟩
  have hD2 : s.heap.DictOf knd o₂ more := Heap.dictOf_iff.mpr ⟨ob, (N _ hp).1, hd2⟩
  refine call_meetsIn PySem.F.slot_dict_update hD.typeIs PySem.F.entry_dict_update (PySem.F.args_dict_update_2 _ _) (meets_dict_update knd d o₂ hne lo)
    ⟨kvs, more, hD, hD2, hsz, fun h' hmm _ hs => ?_⟩
  obtain ⟨o', ho', hd'⟩ := Heap.dictOf_iff.mp hmm
  exact h h' o' (F.change hs hm.2.1 hm.2.2) (hg o' ▸ N.setIn a b hs ho') hd'
theorem kda_method {name : Str} {id : String} {pl : Sem Bool} {Q : Value × List Value → Shared → Prop} (N : News h₀ L s.heap news) (hp : (d, o) ∈ news) (hd : o.IsDictOf knd kvs) (slot : Slot "dict" name id) (hty : typeOf (.builtin id) = pure (.type "method_descriptor"))
    (h : Q (.builtin id, [.ref d]) s) : wpAny (model prog w) A (getMethod (.ref d) name pl) Q E s := by
  have hD : s.heap.DictOf knd d kvs := Heap.dictOf_iff.mpr ⟨o, (N _ hp).1, hd⟩
  exact getMethod_builtin hD.typeIs PySem.F.plainAttrs_dict slot hty hD.mapOf.noDict h
end
local macro_rules | `(tactic| walk_at "getMethod ref") => `(tactic| (k_here; (with_reducible show wpAny _ _ (getMethod (Value.ref _) (Str.ofString "update") _) _ _ _); k_dflt (refine' kda_method (knd := PySem.strKind _ _) ?N ?p ?d PySem.F.slot_dict_update PySem.F.type_dict_update ?_; (case N => k_asm); (case p => k_mem); (case d => assumption))))
local macro_rules | `(tactic| walk_at "call builtin:dict.update") => `(tactic| (k_here; (with_reducible show wpAny _ _ (call (Value.builtin "dict.update") [Value.ref _, Value.ref _]) _ _ _); k_dflt (refine' kda_update (knd := PySem.strKind _ _) ?F ?N ?U ?d ?p ?e ?n ?l ?z ?_; (case F => k_asm); (case N => k_asm); (case U => k_updF); (case d => assumption); (case p => k_mem); (case e => assumption); (case n => k_ne); (case l => assumption); (case z => (try simp only [List.length_nil, Nat.add_zero]); assumption)); intro h' o' F' N' hd'; (try dsimp only at N')))
local macro_rules | `(tactic| walk_at "setItem ref str") => `(tactic| (k_here; k_dflt (refine' kda_set (knd := PySem.strKind _ _) ?F ?N ?U ?d (strKind_is _ _ _ _) ?z ?_; (case F => k_asm); (case N => k_asm); (case U => k_updF); (case d => assumption); (case z => assumption)); intro h' o' F' N' hd'; (try dsimp only at N')))

theorem c_mmd (ty : Str) (sp vn an : Addr) (names anames : List Str) (KS : KindS w ty sp vn an names anames) (dv : Str → Value) (hdef : ∀ x ∈ names, nsIn (hd.heap_39 w.params) 101 x = some (some (dv x))) (hnl : names.length < 100) (tx : Tok) (D : Addr) (oD : Obj) (hoD : oD.IsDictOf (PySem.strKind prog w) []) (hDlo : (D == sysModules) = false) (S : Bas w mean mg mb base) (hs : base.StaysIn s.heap) (hA : A.depth + 2 < recursionLimit) (hh : A.handled = none)
   (hfo : ∀ p ∈ [(D, oD)], s.heap.get? p.1 = some p.2 ∧ base.get? p.1 = none)
   (hQ : ∀ h' tk d, Ext [] s.heap h' → After s.heap d → (d == sysModules) = false → h'.DictOf (PySem.strKind prog w) d (names.foldl (fun k x => stored k x (dv x)) [(Str.ofString "type", .str ty tx), (Str.ofString "time", .int 0 648)]) → Q (.ref d) {s with heap := h', toks := tk}) :
   wpAny (model prog w) A (call (.ref 109) [.str ty tx, .ref D]) Q E s := by
  obtain ⟨inS, ⟨es, nn, sp1, sp2⟩, vn1, an1, ⟨vs, vn2, vn3⟩, _⟩ := KS
  refine enterM (binds := [(Str.ofString "type_", .str ty tx), (Str.ofString "overrides", .ref D)]) _ S hs hfo (by k_is) (by k_is) (by omega) (.of_eq rfl) (locs rfl) ?_
  intro g L' h₁ hg F N X TT hgk hsz hL hgs
  have hsz' := hsz
  walk_at "mi_steps"
  have key : ∃ d o, News g L' _ [(d, o), (D, oD)] ∧ Fr g L' _ (fun y => if y = Str.ofString "msg" then some (Value.ref d) else if y = Str.ofString "spec" then some (Value.ref sp) else List.lookup y [(Str.ofString "type_", Value.str ty tx), (Str.ofString "overrides", Value.ref D)].reverse) ∧
    o.IsDictOf (PySem.strKind prog w) [(Str.ofString "type", .str ty tx), (Str.ofString "time", .int 0 648)] ∧ D ≠ d ∧ (d == sysModules) = false := ⟨_, _, by assumption, by assumption, by assumption, ⟨(by rename @LT.lt Nat _ D _ => z; exact Nat.ne_of_lt z), (by assumption)⟩⟩
  obtain ⟨d, o, N2, F2, hd2, dD, dlo⟩ := key
  refine wpAny_For ?_
  k_steps
  have vn4 : g.get? vn = some ⟨.type "tuple", none, .seq vs 0, #[]⟩ := X _ _ vn2
  refine wpAny_pyIter_tuple (items := vs) ⟨_, F2.keep _ _ vn4, rfl, _, rfl⟩ ?_
  dsimp only
  rename Heap => H
  generalize hI : H.objs.size = I
  have oldI : ∀ {b : Addr} {ob : Obj}, H.get? b = some ob → b ≠ I := fun e => old_ne e hI.symm
  have gI : g.get? I = none := by
    cases q : g.get? I with
    | none => rfl
    | some ob => exact absurd rfl (oldI (F2.keep _ _ q))
  have LI : L' ≠ I := by
    obtain ⟨oL, _, _, hLo, _⟩ := F2.ns
    exact oldI hLo
  have eI : Ext [] H (H.push { cls := .type "tuple_iterator", data := .fields #[.ref vn, .int 0 0] }) := ext_push _ _
  have hit : (H.push { cls := .type "tuple_iterator", data := .fields #[.ref vn, .int 0 0] }).get? I = some { cls := .type "tuple_iterator", data := .fields #[.ref vn, .int 0 0] } := by
    rw [← hI]; exact Heap.get?_push_size _ rfl
  have dI : d ≠ I := oldI (N2.get (.head _))
  have DI : D ≠ I := oldI (N2.get (.tail _ (.head _)))
  have F3 := frExt F2 eI (fun h => nomatch h) (fun _ h => nomatch h)
  have N3 := nwExt N2 eI (fun _ _ h => nomatch h)
  obtain ⟨J, hJ⟩ : ∃ J : Nat → Shared → Prop, ∀ i s', J i s' ↔ (∃ h' tk u o' ob, s' = {s with heap := h', toks := tk} ∧ Fr g L' h' (fun y => if y = Str.ofString "name" then u else if y = Str.ofString "msg" then some (Value.ref d) else if y = Str.ofString "spec" then some (Value.ref sp) else List.lookup y [(Str.ofString "type_", Value.str ty tx), (Str.ofString "overrides", Value.ref D)].reverse) ∧
    News g L' h' [(I, ob), (d, o'), (D, oD)] ∧ ob.cls = .type "tuple_iterator" ∧ ob.data = .fields #[.ref vn, .int i 0] ∧
    o'.IsDictOf (PySem.strKind prog w) ((names.take i).foldl (fun k x => stored k x (dv x)) [(Str.ofString "type", .str ty tx), (Str.ofString "time", .int 0 648)])) := ⟨_, fun _ _ => Iff.rfl⟩
  refine loopT (vs := vs) (l := vn) J hh ?_ ?_ ?_ ?_
  · intro i s' h
    obtain ⟨h', tk, u, o', ob, rfl, F4, N4, c1, c2, hd4⟩ := (hJ _ _).mp h
    exact ⟨⟨_, N4.get (.head _), c1, c2⟩, ⟨_, F4.keep _ _ vn4, rfl, _, rfl⟩⟩
  · intro i v s' h' hx h it2 e2
    obtain ⟨h1, tk, u, o', ob, rfl, F4, N4, c1, c2, hd4⟩ := (hJ _ _).mp h
    clear h
    obtain ⟨x, tx', rfl, hxn⟩ := sa_get vn3 hx
    obtain ⟨ob2, it3, c3, c4⟩ := it2
    have F5 := frExt F4 e2 (by simpa using LI) (by simpa using gI)
    have N5 : News g L' h' [(I, ob2), (d, o'), (D, oD)] := nwCons it3 (Ne.symm LI) gI (nwExt (News.tail' N4) e2 (allCons (by simpa using dI) (allCons (by simpa using DI) allNil)))
    have hdx := hdef x (List.mem_of_getElem? hxn)
    have hsz : ((names.take i).foldl (fun k x => stored k x (dv x)) [(Str.ofString "type", .str ty tx), (Str.ofString "time", .int 0 648)]).length ≤ sizeLine := by
      have := stored_fold_len dv (names.take i) [(Str.ofString "type", .str ty tx), (Str.ofString "time", .int 0 648)]
      have h3 : (names.take i).length ≤ names.length := by rw [List.length_take]; omega
      rw [sizeLine_eq]
      simp only [List.length_cons, List.length_nil] at this
      omega
    refine stN F5 N5 fun h2 F6 N6 => ?_
    have F7 := frMap F6 map_twice
    have e3 : (names.take (i + 1)).foldl (fun k x => stored k x (dv x)) [(Str.ofString "type", .str ty tx), (Str.ofString "time", .int 0 648)] = stored ((names.take i).foldl (fun k x => stored k x (dv x)) [(Str.ofString "type", .str ty tx), (Str.ofString "time", .int 0 648)]) x (dv x) := by
      rw [List.take_add_one, hxn, List.foldl_append]; rfl
    generalize hkv : (names.take i).foldl (fun k x => stored k x (dv x)) [(Str.ofString "type", Value.str ty tx), (Str.ofString "time", Value.int 0 648)] = kvs at hd4 hsz e3
    clear N2 F2 N3 F3 N4 F4 N5 F5 F6 hkv
    k_steps
    exact (hJ _ _).mpr ⟨_, _, _, _, _, rfl, by assumption, by assumption, c3, c4, by rw [e3]; assumption⟩
  · intro s' h' h e2
    obtain ⟨h1, tk, u, o', ob, rfl, F4, N4, c1, c2, hd4⟩ := (hJ _ _).mp h
    have F5 := frExt F4 e2 (by simpa using LI) (by simpa using gI)
    have N5 : News g L' h' [(d, o'), (D, oD)] := nwExt (News.tail' N4) e2 (allCons (by simpa using dI) (allCons (by simpa using DI) allNil))
    have hz : names.take vs.size = names := by rw [sa_size vn3]; simp
    rw [hz] at hd4
    have hsz : (names.foldl (fun k x => stored k x (dv x)) [(Str.ofString "type", .str ty tx), (Str.ofString "time", .int 0 648)]).length ≤ sizeLine := by
      have := stored_fold_len dv names [(Str.ofString "type", .str ty tx), (Str.ofString "time", .int 0 648)]
      rw [sizeLine_eq]
      simp only [List.length_cons, List.length_nil] at this
      omega
    clear N2 F2 N3 F3 N4 F4
    k_steps
    refine hQ _ _ d (ext_of [] hgk hsz' hfo (by assumption) (by assumption) (by walk_at "mi_ro")) ?_ dlo ?_
    · rename News g L' _ _ => N6
      exact after_news hgk N6 (.head _) (by simpa using Ne.symm dD)
    · rename News g L' _ _ => N6
      exact Heap.dictOf_iff.mpr ⟨_, N6.get (.head _), by assumption⟩
  · refine (hJ _ _).mpr ⟨_, _, none, _, _, rfl, frMap F3 fun y => ?_, nwCons hit (Ne.symm LI) gI N3, rfl, rfl, hd2⟩
    by_cases hy : y = Str.ofString "name"
    · subst hy; rfl
    · simp only [if_neg hy]
end PartF
theorem restG {M : Model} {A : Around} {s : Shared} {E : Value → Shared → Prop} {env : Env} {Q : Flow → Shared → Prop} (h : Q .next s) : wpAny M A (execs [] env) Q E s := by
  w_top off
  walk1
  w_top off
  exact h
section PartG
local macro_rules | `(tactic| k_steps) => `(tactic| repeat' (first | ((with_reducible show wpAny _ _ (call (Value.ref _) _ _) _ _ _); walk_at "mi_pc") | ((fail_if_success (with_reducible show wpAny _ _ (call (Value.ref _) _ _) _ _ _)); (fail_if_success (with_reducible show wpAny _ _ (exec (Stmt.Raise _ _ _) _) _ _ _)); first | (k_unfold; (try dsimp only)) | (k_end; wrow_close) | walk1 | (dsimp only; walk1) | (leave1; walk_say "STEP leave1"; (try dsimp only)) | fail "no step")))
local macro_rules | `(tactic| k_ne) => `(tactic| first | assumption | exact Ne.symm (by assumption))
local macro_rules | `(tactic| walk_at "call builtin:len") => `(tactic| (k_here; (with_reducible show wpAny _ _ (call (Value.builtin "len") [Value.ref _]) _ _ _); refine PyProof.Rows.len_list (News.isList (by k_asm) (by k_mem)) (by (try simp only [Array.size_push, List.size_toArray]); omega) ?_))
local macro_rules | `(tactic| walk_at "mi_ro") => `(tactic| repeat' (first | exact ro_nil | refine ro_keep (by k_mem) ?_ | refine ro_mut (by simp) ?_))
local macro_rules | `(tactic| walk_at "mi_depth") => `(tactic| ((try simp only [PySem.Around.deeper, PySem.Around.in1_depth]); omega))
local macro_rules | `(tactic| walk_at "mi_pure") => `(tactic| exact hQ _ _ (ext_of [] hgk hsz (fo_nil (base := base)) (by assumption) (by assumption) ro_nil))
local macro_rules | `(tactic| walk_at "mi_steps") => `(tactic| repeat' ((fail_if_success (with_reducible show wpAny _ _ (exec (Stmt.For _ _ _ _ _) _) _ _ _)); first | ((with_reducible show wpAny _ _ (call (Value.ref _) _ _) _ _ _); walk_at "mi_pc") | ((fail_if_success (with_reducible show wpAny _ _ (call (Value.ref _) _ _) _ _ _)); (fail_if_success (with_reducible show wpAny _ _ (exec (Stmt.Raise _ _ _) _) _ _ _)); first | (k_unfold; (try dsimp only)) | (k_end; kc_close) | walk1 | (dsimp only; walk1) | (leave1; walk_say "STEP leave1"; (try dsimp only)) | fail "no step")))
local macro_rules | `(tactic| walk_at "subscriptTail") => `(tactic| (k_here; (with_reducible show wpAny _ _ (subscriptTail _ _ (Value.ref _) (Value.str _ _)) _ _ _); k_dflt (refine' topItem_K ?F ?X ?l ?k ?e ?_; (case F => k_asm); (case X => k_asm); (case l => first | assumption | k_is); (case k => first | assumption | k_keys); (case e => first | assumption | k_is))))
local macro_rules | `(tactic| walk_at "mi_stepsC") => `(tactic| repeat' ((fail_if_success (with_reducible show wpAny _ _ (exec (Stmt.For _ _ _ _ _) _) _ _ _)); (fail_if_success (with_reducible show wpAny _ _ (exec (Stmt.Assign [_] (Expr.ListComp _ _ _ _) _) _) _ _ _)); (fail_if_success (with_reducible show wpAny _ _ (call (Value.type "zip") _) _ _ _)); (fail_if_success (with_reducible show wpAny _ _ (exec (Stmt.Assign [_] (Expr.DictComp _ _ _ _ _) _) _) _ _ _)); first | ((with_reducible show wpAny _ _ (call (Value.ref _) _ _) _ _ _); walk_at "mi_pc") | ((fail_if_success (with_reducible show wpAny _ _ (call (Value.ref _) _ _) _ _ _)); (fail_if_success (with_reducible show wpAny _ _ (exec (Stmt.Raise _ _ _) _) _ _ _)); first | (k_unfold; (try dsimp only)) | (k_end; kc_close) | walk1 | (dsimp only; walk1) | (leave1; walk_say "STEP leave1"; (try dsimp only)) | fail "no step")))
local macro_rules | `(tactic| walk_at "mi_stepsO") => `(tactic| repeat' ((fail_if_success (with_reducible show wpAny _ _ (exec (Stmt.For _ _ _ _ _) _) _ _ _)); (fail_if_success (with_reducible show wpAny _ _ (exec (Stmt.Assign [_] (Expr.ListComp _ _ _ _) _) _) _ _ _)); (fail_if_success (with_reducible show wpAny _ _ (call (Value.type "zip") _) _ _ _)); (fail_if_success (with_reducible show wpAny _ _ (exec (Stmt.Assign [_] (Expr.DictComp _ _ _ _ _) _) _) _ _ _)); first | ((with_reducible show wpAny _ _ (call (Value.ref _) _ _) _ _ _); walk_at "mi_pc") | ((fail_if_success (with_reducible show wpAny _ _ (call (Value.ref _) _ _) _ _ _)); (fail_if_success (with_reducible show wpAny _ _ (exec (Stmt.Raise _ _ _) _) _ _ _)); first | ((with_reducible show wpAny _ _ (execs _ _) _ _ _); exfalso; omega) | (k_unfold; (try dsimp only)) | (k_end; kc_close) | walk1 | (dsimp only; walk1) | (leave1; walk_say "STEP leave1"; (try dsimp only)) | fail "no step")))
section
variable {K : Type} [DecidableEq K] {knd : KeyKind prog w K} {env : Env} {xk xv : Str} {pk pv pt : Pos} {x1} {body : List Stmt} {R : Result → Shared → Prop} {I d : Addr} {kvs : List (K × Value)} {ep : Nat} {m : Str → Option Value}
theorem loopItems (hh : A.handled = none) (hxk : env.kindOf xk = some .local) (hxv : env.kindOf xv = some .local)
    (hp : (env.scope.kind == .class || (env.scope.kind == .module && env.locals != env.globals)) = false)
    (hiL : I ≠ env.locals) (hdL : d ≠ env.locals) (hdi : d ≠ I)
    (hit : IsItemIter s.heap I d 0 kvs.length ep .none .none) (hm : s.heap.DictAt knd d kvs ep) (hn : s.heap.Ns env.locals m)
    (step : ∀ (i : Nat) (k : K) (v key : Value) (h₁ : Heap) (tk : Nat) (m₁ : Str → Option Value), kvs[i]? = some (k, v) → knd.is k key = true → (∀ y, y ≠ xk → y ≠ xv → m₁ y = m y) → Ext [env.locals, I] s.heap h₁ →
      h₁.Ns env.locals (fun y => if y = xv then some v else if y = xk then some key else m₁ y) →
      wpAny (model prog w) A (execs body env) (fun f s₂ => f = .next ∧ ∃ h₂ tk₂, s₂ = {s with heap := h₂, toks := tk₂} ∧ Ext [] h₁ h₂) (notedBy (model prog w) A env fun e s' => R (.error e) s') {s with heap := h₁, toks := tk})
    (hR : ∀ h' tk m', Ext [env.locals, I] s.heap h' → h'.Ns env.locals m' → (∀ y, y ≠ xk → y ≠ xv → m' y = m y) → R (.ok .next) { s with heap := h', toks := tk }) :
    codeAny (model prog w) A (.forLoop (.Tuple [.Name xk pk, .Name xv pv] x1 pt) (.ref I) body [] env) R s := by
  refine codeAny_forLoop_any
    (fun n s' => ∃ h' tk m' i ok ov, s' = { s with heap := h', toks := tk } ∧ IsItemIter h' I d i kvs.length ep ok ov ∧ h'.DictAt knd d kvs ep ∧ h'.Ns env.locals m' ∧ (∀ y, y ≠ xk → y ≠ xv → m' y = m y) ∧ i ≤ kvs.length ∧
      n = kvs.length + 1 - i ∧ Ext [env.locals, I] s.heap h') ?_ (kvs.length + 1)
    ⟨s.heap, s.toks, m, 0, .none, .none, rfl, hit, hm, hn, fun _ _ _ => rfl, Nat.zero_le _, rfl, Ext.refl _ _⟩
  rintro n s' ⟨H, tk, m', i, ok, ov, rfl, hit', hm', hn', hJ, hi, rfl, hk⟩
  cases hv : kvs[i]? with
  | none =>
    refine wpAny_pyNext_items_end hh hit' hm' hv fun h₁ he₁ => wpAny_execs_nil ?_
    exact hR h₁ tk m' (fun b o hb e => he₁ b o (fun q => hb (by simp [q])) (hk b o hb e)) (hn'.extBut he₁ (Ne.symm hiL)) hJ
  | some kv =>
    obtain ⟨k, v⟩ := kv
    have hlt : i < kvs.length := (List.getElem?_eq_some_iff.mp hv).1
    have hiH : I < H.objs.size := Heap.lt_size hit'
    have hLH : env.locals < H.objs.size := hn'.lt
    have hdH : d < H.objs.size := hm'.lt_size
    refine wpAny_pyNext_items_item hit' hm' hv fun key h₁ hkey heo ht₁ hz₁ hk₁ => ?_
    refine wpAny_letOwnedTupleGo_items heo fun h₂ he₂ hs₂ => ?_
    replace hs₂ : Heap.SameBut I h₁ h₂ := hs₂
    have ht₂ : h₂.IsTuple H.objs.size #[key, v] := ⟨_, (hs₂.2 _ (Nat.ne_of_gt hiH)).trans ht₁, rfl, _, rfl⟩
    have hz₂ : h₂.objs.size = H.objs.size + 1 := hs₂.1.trans hz₁
    refine wpAny_assign_Tuple hh ht₂ rfl rfl fun h₃ hx₃ => ?_
    replace hx₃ : Heap.ExtBut h₂.objs.size h₂ h₃ := hx₃
    have old₃ : ∀ b o, b < H.objs.size → h₂.get? b = some o → h₃.get? b = some o := fun b o hb x => hx₃ b o (by rw [hz₂]; exact Nat.ne_of_lt (Nat.lt_succ_of_lt hb)) x
    have hn₃ : h₃.Ns env.locals m' := (hn'.at fun o x => hk₁ _ o (Ne.symm hiL) x).sameBut hs₂ (Ne.symm hiL) |>.at fun o x => old₃ _ o hLH x
    show wpAny _ _ (do holding [v] (assign (.Name xk pk) env key); do holding [] (assign (.Name xv pv) env v); pure ()) _ _ _
    refine wpAny_bind (wpAny_holding (wpAny_assign_Name (wpAny_storeName_local hxk hn₃ (fun h₄ hn₄ hs₄ => ?_) hp)))
    replace hs₄ : Heap.SameBut env.locals h₃ h₄ := hs₄
    refine wpAny_bind (wpAny_holding (wpAny_assign_Name (wpAny_storeName_local hxv hn₄ (fun h₅ hn₅ hs₅ => wpAny_pure ?_) hp)))
    replace hs₅ : Heap.SameBut env.locals h₄ h₅ := hs₅
    have up₅ : ∀ b o, b ≠ env.locals → b < H.objs.size → h₂.get? b = some o → h₅.get? b = some o := fun b o hbL hb x => hs₅.extBut b o hbL (hs₄.extBut b o hbL (old₃ b o hb x))
    have hm₂ : h₂.DictAt knd d kvs ep := (hm'.at fun o x => hk₁ d o hdi x).extBut hs₂.extBut hdi
    have e5 : Ext [env.locals, I] s.heap h₅ := by
      intro b o hb x
      have hb1 : b ≠ env.locals := fun q => hb (by simp [q])
      have hb2 : b ≠ I := fun q => hb (by simp [q])
      have z := hk b o hb x
      exact up₅ b o hb1 (Heap.lt_size z) (hs₂.extBut b o hb2 (hk₁ b o hb2 z))
    refine wpAny_mono (step i k v key h₅ _ m' hv hkey hJ e5 hn₅) (fun f s₃ h₆ => ?_) fun _ _ x => x
    obtain ⟨rfl, h₆, tk₆, rfl, hs₆⟩ := h₆
    have up : ∀ b o, b ≠ env.locals → b < H.objs.size → h₂.get? b = some o → h₆.get? b = some o := fun b o hbL hb x => hs₆.none (up₅ b o hbL hb x)
    refine ⟨kvs.length + 1 - (i + 1), by omega, h₆, tk₆, _, i + 1, key, v, rfl, up I _ hiL hiH he₂, hm₂.at fun o x => up d o hdL hdH x, hn₅.at fun o x => hs₆.none x, fun y h1 h2 => ?_, hlt, rfl, e5.trans hs₆.nil⟩
    simp only [if_neg h1, if_neg h2]; exact hJ y h1 h2
end

/-- check_value lets (k, v) through -/
def OkCV (w : World) (base : Heap) (k : Str) (v : Value) : Prop :=
  ∀ {prog : Program} {A : Around} {s : Shared} {Q E : Value → Shared → Prop} {t : Tok}, base.StaysIn s.heap → A.depth + 14 < recursionLimit → A.handled = none → (∀ h' tk, Ext [] s.heap h' → Q .none {s with heap := h', toks := tk}) →
    wpAny (model prog w) A (call (.ref 179) [.str k t, v]) Q E s

theorem notinT {K : Frag} {h₀ : Heap} {L an : Addr} {m : Str → Option Value} {vs : Array Value} {ys : List Str} {x : Str} {u : Tok} (F : Fr h₀ L s.heap m) (X : K.In h₀) (hl : K.lookup an = some ⟨.type "tuple", none, .seq vs 0, #[]⟩) (hi : StrsAre vs.toList ys) (hin : ys.any (· == x) = true)
    (h : Q (.bool false) s) : wpAny (model prog w) A (compareOp .NotIn (.str x u) (.ref an)) Q E s :=
  notin_tuple_strs ⟨_, F.keep _ _ (X _ _ hl), rfl, _, rfl⟩ hi (by rw [hin]; exact h)

theorem topMeth_get {K : Frag} {h₀ : Heap} {L a : Addr} {m : Str → Option Value} {es : Array DictEntry} {n : Nat} {pl : Sem Bool} {Q : Value × List Value → Shared → Prop} (F : Fr h₀ L s.heap m) (X₀ : K.In h₀) (hl : K.lookup a = some ⟨.type "dict", none, .dict es n, #[]⟩) (hk : KeysLit w.params es.toList)
    (h : Q (.builtin "dict.get", [.ref a]) s) : wpAny (model prog w) A (getMethod (.ref a) "get" pl) Q E s :=
  have hm := mapOf_K (prog := prog) (X₀.keeps F.keep) hl hk
  getMethod_builtin hm.typeIs PySem.F.plainAttrs_dict PySem.F.slot_dict_get PySem.F.type_dict_get hm.noDict h
theorem topGet_K {K : Frag} {h₀ : Heap} {L a : Addr} {m : Str → Option Value} {es : Array DictEntry} {n : Nat} {x : Str} {t : Tok} {v : Value} (F : Fr h₀ L s.heap m) (X₀ : K.In h₀) (hl : K.lookup a = some ⟨.type "dict", none, .dict es n, #[]⟩) (hk : KeysLit w.params es.toList) (e : nsIn K a x = some (some v)) (lo : (a == sysModules) = false)
    (h : Q v { s with toks := s.toks + 1 }) : wpAny (model prog w) A (call (.builtin "dict.get") [.ref a, .str x t]) Q E s :=
  have hm := mapOf_K (prog := prog) (X₀.keeps F.keep) hl hk
  call_meetsIn PySem.F.slot_dict_get hm.typeIs PySem.F.entry_dict_get (PySem.F.args_dict_get_2 _ _) (meets_dict_get (strKind prog w) a (strKind_is prog w x t) lo) ⟨_, hm, by rw [find_K hl e]; exact h⟩
local macro_rules | `(tactic| walk_at "getMethod ref") => `(tactic| (k_here; (with_reducible show wpAny _ _ (getMethod (Value.ref 29) (Str.ofString "get") _) _ _ _); k_dflt (refine' topMeth_get ?F ?X ?l ?k ?_; (case F => k_asm); (case X => k_asm); (case l => k_is); (case k => k_keys))))
local macro_rules | `(tactic| walk_at "call builtin:dict.get") => `(tactic| (k_here; (with_reducible show wpAny _ _ (call (Value.builtin "dict.get") [Value.ref 29, Value.str _ _]) _ _ _); k_dflt (refine' topGet_K ?F ?X ?l ?k ?e ?o ?_; (case F => k_asm); (case X => k_asm); (case l => k_is); (case k => k_keys); (case e => first | assumption | k_is); (case o => decide))))
local macro_rules | `(tactic| walk_at "subscriptTail") => `(tactic| (k_here; (with_reducible show wpAny _ _ (subscriptTail _ _ (Value.ref _) (Value.str _ _)) _ _ _); k_dflt (refine kda_item (knd := PySem.strKind _ _) (by k_asm) (by k_mem) (by assumption) (strKind_is _ _ _ _) (by assumption) ?_)))
local macro_rules | `(tactic| walk_at "compareOp NotIn str ref") => `(tactic| (k_here; k_dflt (refine' notinT ?F ?X ?l ?s ?i ?_; (case F => k_asm); (case X => k_asm); (case l => assumption); (case s => assumption); (case i => assumption))))

theorem c_cm (ty : Str) (tx : Tok) (sp vn an : Addr) (names anames : List Str) (KS : KindS w ty sp vn an names anames) (d : Addr) (kvs : List (Str × Value)) (hty : valueAt kvs (Str.ofString "type") = some (.str ty tx)) (hok : ∀ p ∈ kvs, anames.any (· == p.1) = true ∧ OkCV w base p.1 p.2) (dlo : (d == sysModules) = false) (S : Bas w mean mg mb base) (hs : base.StaysIn s.heap) (hA : A.depth + 20 < recursionLimit) (hh : A.handled = none)
   (hd : s.heap.DictOf (PySem.strKind prog w) d kvs) (hb : base.get? d = none)
   (hQ : ∀ h' tk, Ext [] s.heap h' → Q .none {s with heap := h', toks := tk}) :
   wpAny (model prog w) A (call (.ref 186) [.ref d]) Q E s := by
  obtain ⟨inS, ⟨es, nn, sp1, sp2⟩, vn1, an1, ⟨vs, vn2, vn3⟩, ⟨us, an2, an3⟩⟩ := KS
  obtain ⟨od, hod, hdk⟩ := Heap.dictOf_iff.mp hd
  have hfo := fo_cons hod hb (fo_nil (h := s.heap) (base := base))
  refine enterM (binds := [(Str.ofString "msgdict", .ref d)]) _ S hs hfo (by k_is) (by k_is) (by omega) (.of_eq rfl) (locs rfl) ?_
  intro g L' h₁ hg F N X TT hgk hsz hL hgs
  walk_at "mi_steps"
  rename Fr g L' _ _ => F2
  rename News g L' _ _ => N2
  rename Heap => H
  have dL : d ≠ L' := (N2 _ (.head _)).2.1
  have hD2 : H.DictOf (PySem.strKind prog w) d kvs := Heap.dictOf_iff.mpr ⟨_, N2.get (.head _), hdk⟩
  obtain ⟨ep, hat⟩ := hD2.dictAt
  refine wpAny_For (wpAny_Call_items (knd := PySem.strKind prog w) (d := d) (kvs := kvs) dlo hD2 rfl rfl (fun Q' hq => ld F2 rfl hq) ?_)
  refine wpAny_pyIter_items (knd := PySem.strKind prog w) (d := d) (kvs := kvs) (ep := ep) ⟨_, Heap.get?_push_size _ rfl, rfl, rfl⟩ (hat.push _) ?_
  dsimp only
  have hz1 : (H.push { cls := .type "dict_items", data := .fields #[.ref d] }).objs.size = H.objs.size + 1 := Heap.size_push ..
  have LH : L' < H.objs.size := F2.ns.lt
  have dH : d < H.objs.size := Heap.lt_size (N2.get (.head _))
  generalize hI : (H.push { cls := .type "dict_items", data := .fields #[.ref d] }).objs.size = I
  have LI : L' ≠ I := fun q => by rw [hz1, ← q] at hI; exact absurd LH (Nat.not_lt.mpr (Nat.le_of_lt (hI ▸ Nat.lt_succ_self _)))
  have dI : d ≠ I := fun q => by rw [hz1, ← q] at hI; exact absurd dH (Nat.not_lt.mpr (Nat.le_of_lt (hI ▸ Nat.lt_succ_self _)))
  have e0 : Ext [] H ((H.push { cls := .type "dict_items", data := .fields #[.ref d] }).push { cls := .type "dict_itemiterator", data := .fields #[.none, .bool false, .ref d, .int 0 0, .int kvs.length 0, .int ep 0, .none, .none] }) := (ext_push _ _).trans (ext_push _ _)
  have gL : g.get? L' = none := by
    cases q : g.get? L' with
    | none => rfl
    | some ob => exact absurd (Nat.lt_of_lt_of_le (Heap.lt_size q) F2.above) (Nat.lt_irrefl _)
  have gI : g.get? I = none := by
    cases q : g.get? I with
    | none => rfl
    | some ob =>
      have := Heap.lt_size (F2.keep _ _ q)
      rw [← hI, hz1] at this
      exact absurd this (Nat.not_lt.mpr (Nat.le_succ _))
  have kp : ∀ {h : Heap} {mm : Str → Option Value}, Ext [L', I] ((H.push { cls := .type "dict_items", data := .fields #[.ref d] }).push { cls := .type "dict_itemiterator", data := .fields #[.none, .bool false, .ref d, .int 0 0, .int kvs.length 0, .int ep 0, .none, .none] }) h → h.Ns L' mm → Fr g L' h mm := fun {h mm} e n =>
    ⟨n, fun b o q => e.keep (by simp only [List.mem_cons, List.not_mem_nil, or_false, not_or]; exact ⟨fun z => (by rw [z, gL] at q; cases q), fun z => (by rw [z, gI] at q; cases q)⟩) (e0.none (F2.keep b o q)), F2.above⟩
  refine loopItems (knd := PySem.strKind prog w) hh rfl rfl rfl (Ne.symm LI) dL dI (hI ▸ Heap.get?_push_size _ rfl) ((hat.push _).push _) ((F2.ns.push _).push _) ?_ ?_
  · intro i k v key h1 tk m1 hx hkey hm1 e1 hn1
    have F3 := kp e1 hn1
    obtain ⟨hk1, hk2⟩ := hok _ (List.mem_of_getElem? hx)
    obtain ⟨tk', rfl⟩ : ∃ t, key = .str k t := by
      cases key with
      | str x t => exact ⟨t, by rw [show x = k from of_decide_eq_true hkey]⟩
      | _ => cases hkey
    have F4 := frMap F3 (m' := fun y => if y = Str.ofString "value" then some v else if y = Str.ofString "name" then some (.str k tk') else if y = Str.ofString "spec" then some (Value.ref sp) else List.lookup y [(Str.ofString "msgdict", Value.ref d)].reverse) fun y => by
      by_cases h1 : y = Str.ofString "value"
      · simp only [if_pos h1]
      · by_cases h2 : y = Str.ofString "name"
        · simp only [if_neg h1, if_pos h2]
        · simp only [if_neg h1, if_neg h2]; exact hm1 y h2 h1
    have N4 : News g L' h1 [] := nwNil
    clear F3 hn1 hm1 F2 N2
    k_steps
    refine hk2 (fun b o q => F4.keep b o (hg b o q)) (by walk_at "mi_depth") hh fun h5 tk5 e5 => ?_
    k_steps
    exact e5
  · intro h' tk m' e1 hn1 hm1
    have F3 := kp e1 hn1
    have e1' : Ext [L', I] _ h' := e1
    have N3 : News g L' h' [(d, od)] := nwExt (nwExt N2 e0 (fun _ _ h => nomatch h)) e1' (allCons (by simp [dL, dI]) allNil)
    clear F2 N2
    k_steps
    exact hQ _ _ (ext_of [] hgk hsz hfo F3 N3 (by walk_at "mi_ro"))
end PartG
theorem restH {M : Model} {A : Around} {s : Shared} {E : Value → Shared → Prop} {env : Env} {Q : Flow → Shared → Prop} (h : Q .next s) : wpAny M A (execs [] env) Q E s := by
  w_top off
  walk1
  w_top off
  exact h
section PartH
local macro_rules | `(tactic| k_steps) => `(tactic| repeat' (first | ((with_reducible show wpAny _ _ (call (Value.ref _) _ _) _ _ _); walk_at "mi_pc") | ((fail_if_success (with_reducible show wpAny _ _ (call (Value.ref _) _ _) _ _ _)); (fail_if_success (with_reducible show wpAny _ _ (exec (Stmt.Raise _ _ _) _) _ _ _)); first | (k_unfold; (try dsimp only)) | (k_end; wrow_close) | walk1 | (dsimp only; walk1) | (leave1; walk_say "STEP leave1"; (try dsimp only)) | fail "no step")))
local macro_rules | `(tactic| k_ne) => `(tactic| first | assumption | exact Ne.symm (by assumption))
local macro_rules | `(tactic| walk_at "call builtin:len") => `(tactic| (k_here; (with_reducible show wpAny _ _ (call (Value.builtin "len") [Value.ref _]) _ _ _); refine PyProof.Rows.len_list (News.isList (by k_asm) (by k_mem)) (by (try simp only [Array.size_push, List.size_toArray]); omega) ?_))
local macro_rules | `(tactic| walk_at "mi_ro") => `(tactic| repeat' (first | exact ro_nil | refine ro_keep (by k_mem) ?_ | refine ro_mut (by simp) ?_))
local macro_rules | `(tactic| walk_at "mi_depth") => `(tactic| ((try simp only [PySem.Around.deeper, PySem.Around.in1_depth]); omega))
local macro_rules | `(tactic| walk_at "mi_pure") => `(tactic| exact hQ _ _ (ext_of [] hgk hsz (fo_nil (base := base)) (by assumption) (by assumption) ro_nil))
local macro_rules | `(tactic| walk_at "mi_steps") => `(tactic| repeat' ((fail_if_success (with_reducible show wpAny _ _ (exec (Stmt.For _ _ _ _ _) _) _ _ _)); first | ((with_reducible show wpAny _ _ (call (Value.ref _) _ _) _ _ _); walk_at "mi_pc") | ((fail_if_success (with_reducible show wpAny _ _ (call (Value.ref _) _ _) _ _ _)); (fail_if_success (with_reducible show wpAny _ _ (exec (Stmt.Raise _ _ _) _) _ _ _)); first | (k_unfold; (try dsimp only)) | (k_end; kc_close) | walk1 | (dsimp only; walk1) | (leave1; walk_say "STEP leave1"; (try dsimp only)) | fail "no step")))
local macro_rules | `(tactic| walk_at "subscriptTail") => `(tactic| (k_here; (with_reducible show wpAny _ _ (subscriptTail _ _ (Value.ref _) (Value.str _ _)) _ _ _); k_dflt (refine' topItem_K ?F ?X ?l ?k ?e ?_; (case F => k_asm); (case X => k_asm); (case l => first | assumption | k_is); (case k => first | assumption | k_keys); (case e => first | assumption | k_is))))
local macro_rules | `(tactic| walk_at "mi_stepsC") => `(tactic| repeat' ((fail_if_success (with_reducible show wpAny _ _ (exec (Stmt.For _ _ _ _ _) _) _ _ _)); (fail_if_success (with_reducible show wpAny _ _ (exec (Stmt.Assign [_] (Expr.ListComp _ _ _ _) _) _) _ _ _)); (fail_if_success (with_reducible show wpAny _ _ (call (Value.type "zip") _) _ _ _)); (fail_if_success (with_reducible show wpAny _ _ (exec (Stmt.Assign [_] (Expr.DictComp _ _ _ _ _) _) _) _ _ _)); first | ((with_reducible show wpAny _ _ (call (Value.ref _) _ _) _ _ _); walk_at "mi_pc") | ((fail_if_success (with_reducible show wpAny _ _ (call (Value.ref _) _ _) _ _ _)); (fail_if_success (with_reducible show wpAny _ _ (exec (Stmt.Raise _ _ _) _) _ _ _)); first | (k_unfold; (try dsimp only)) | (k_end; kc_close) | walk1 | (dsimp only; walk1) | (leave1; walk_say "STEP leave1"; (try dsimp only)) | fail "no step")))
local macro_rules | `(tactic| walk_at "mi_stepsO") => `(tactic| repeat' ((fail_if_success (with_reducible show wpAny _ _ (exec (Stmt.For _ _ _ _ _) _) _ _ _)); (fail_if_success (with_reducible show wpAny _ _ (exec (Stmt.Assign [_] (Expr.ListComp _ _ _ _) _) _) _ _ _)); (fail_if_success (with_reducible show wpAny _ _ (call (Value.type "zip") _) _ _ _)); (fail_if_success (with_reducible show wpAny _ _ (exec (Stmt.Assign [_] (Expr.DictComp _ _ _ _ _) _) _) _ _ _)); first | ((with_reducible show wpAny _ _ (call (Value.ref _) _ _) _ _ _); walk_at "mi_pc") | ((fail_if_success (with_reducible show wpAny _ _ (call (Value.ref _) _ _) _ _ _)); (fail_if_success (with_reducible show wpAny _ _ (exec (Stmt.Raise _ _ _) _) _ _ _)); first | ((with_reducible show wpAny _ _ (execs _ _) _ _ _); exfalso; omega) | (k_unfold; (try dsimp only)) | (k_end; kc_close) | walk1 | (dsimp only; walk1) | (leave1; walk_say "STEP leave1"; (try dsimp only)) | fail "no step")))
theorem enterKw {R : Result → Shared → Prop} (foot : List (Addr × Obj)) {name qual : Str} {params : Arguments} {body : List Stmt} {scope : Scope} {dV kV doc pm cdv ct oc : Value} {an od : Option Addr} {osl : Array (Option Value)} {f : Addr} {args : Args} {binds : Addr → List (Str × Value)}
    (S : Bas w mean mg mb base) (hs : base.StaysIn s.heap) (hfo : ∀ p ∈ foot, s.heap.get? p.1 = some p.2 ∧ base.get? p.1 = none)
    (ho : (hd.heap_39 w.params).lookup f = some ⟨oc, od, .func (fnOf name qual params body scope dV kV doc pm an cdv ct), osl⟩) (hcd : codeIn (hd.heap_39 w.params) cdv qual = true)
    (hroom : A.depth < recursionLimit)
    (hbind : ∀ (A : Around) (E : Value → Shared → Prop) (Q : List (Str × Value) → Shared → Prop), Q (binds s.heap.objs.size) {s with heap := s.heap.push (dictOf [] 0)} → wpAny (model prog w) A (bindArgs (fnOf name qual params body scope dV kV doc pm an cdv ct) args) Q E s)
    (hloc : ∀ D, ∀ y ∈ binds D, scope.names.lookup y.1 = some .local)
    (h : ∀ D g L' h₁, base.StaysIn g → Fr g L' h₁ (fun y => (binds D).reverse.lookup y) → News g L' h₁ ((D, dictOf [] 0) :: foot) → (hd.heap_39 w.params).In g → Top hd.view_39 lo mean mg mb g →
      (∀ b o, b ∉ Adr foot → s.heap.get? b = some o → g.get? b = some o) → (D == sysModules) = false → After s.heap D → After s.heap L' → D ≠ L' → @LT.lt Nat _ D L' → (∀ b o, g.get? b = some o → s.heap.get? b = some o) → base.get? D = none →
      wpAny (model prog w) (A.deeper (envOf qual scope L' f cdv)) (execs body (envOf qual scope L' f cdv)) (fun fl s' => R (.ok (.ret (match fl with | .ret v => v | _ => .none))) s')
        (fun e s' => wpAny (model prog w) (A.deeper (envOf qual scope L' f cdv)) (leaving (envOf qual scope L' f cdv) e) (fun _ s'' => R (.error e) s'') (fun e' s'' => R (.error e') s'') s')
        { s with heap := h₁, toks := s.toks + (binds D).length })
    (hco : scope.isCoroutine = false := by rfl) (hgen : scope.isGenerator = false := by rfl) (hk : scope.kind = .function := by rfl)
    (hcell : ∀ x ∈ scope.names, x.2 ≠ .cell := by decide) : codeAny (model prog w) A (.call (.ref f) args) R s := by
  have Xs : (hd.heap_39 w.params).In s.heap := S.X.keeps hs
  refine codeAny_call_function (fd := fnOf name qual params body scope dV kV doc pm an cdv ct) (body := body) hroom (Xs _ _ ho) rfl hco hgen rfl (codeRec_of Xs hcd) (hbind _ _ _ ?_)
  have hsp : base.StaysIn (s.heap.push (dictOf [] 0)) := fun b o e => Heap.get?_push_of_some _ (hs b o e)
  refine wpAny_newFunctionEnv hcell (hloc _) (fun h₀ hns₀ hsb₀ => ⟨(S.T.nolimit.keeps hsp).fresh _ hsb₀, codeAny_func ?_⟩) hk
  generalize hD : s.heap.objs.size = D at *
  have hDn : s.heap.get? D = none := by
    cases q : s.heap.get? D with
    | none => rfl
    | some ob => exact absurd (hD ▸ Heap.lt_size q) (Nat.lt_irrefl _)
  have hDp : (s.heap.push (dictOf [] 0)).get? D = some (dictOf [] 0) := by rw [← hD]; exact Heap.get?_push_size _ rfl
  have hL : (s.heap.push (dictOf [] 0)).objs.size = D + 1 := by rw [Heap.size_push, hD]
  have hbD : base.get? D = none := by
    cases q : base.get? D with
    | none => rfl
    | some o => rw [hs _ _ q] at hDn; cases hDn
  have kp : ∀ b o, (s.heap.push (dictOf [] 0)).get? b = some o → h₀.get? b = some o := fun b o e =>
    hsb₀.extBut b o (Nat.ne_of_lt (Heap.lt_size e)) (Heap.get?_push_of_some _ e)
  have hfo' : ∀ p ∈ (D, dictOf [] 0) :: foot, (s.heap.push (dictOf [] 0)).get? p.1 = some p.2 ∧ base.get? p.1 = none :=
    allCons ⟨hDp, hbD⟩ fun p hp => ⟨Heap.get?_push_of_some _ (hfo p hp).1, (hfo p hp).2⟩
  have Bg : base.StaysIn (hideAll (s.heap.push (dictOf [] 0)) (Adr ((D, dictOf [] 0) :: foot))) := stays_of hsp fun p hp => (hfo' p hp).2
  have hLn : After s.heap (s.heap.push (dictOf [] 0)).objs.size := by
    rw [hL]
    unfold After
    cases q : s.heap.get? (D + 1) with
    | none => rfl
    | some ob => exact absurd (Nat.lt_trans (Nat.lt_succ_self _) (hD ▸ Heap.lt_size q)) (Nat.lt_irrefl _)
  refine h D (hideAll (s.heap.push (dictOf [] 0)) (Adr ((D, dictOf [] 0) :: foot))) (s.heap.push (dictOf [] 0)).objs.size h₀ Bg ⟨hns₀, fun b o e => kp b o (of_hideAll _ e), Nat.le_of_eq (hideAll_size _ _)⟩
    (fun p hp => ⟨kp _ _ (hfo' p hp).1, Nat.ne_of_lt (Heap.lt_size (hfo' p hp).1), hideAll_none _ (List.mem_map_of_mem hp)⟩) (S.X.keeps Bg) (S.T.keeps Bg)
    (fun b o hb e => hideAll_get _ (Heap.get?_push_of_some _ e) fun q => ?_) ?_ hDn hLn (by rw [hL]; exact Nat.ne_of_lt (Nat.lt_succ_self _)) (by rw [hL]; exact Nat.lt_succ_self _) (fun b o e => ?_) hbD
  · rcases List.mem_cons.mp q with rfl | q
    · rw [hDn] at e; cases e
    · exact hb q
  · have := modules_low (S.T.nolimit.keeps hs)
    rw [hD] at this
    exact beq_eq_false_iff_ne.mpr (Nat.ne_of_gt this)
  · have e1 := of_hideAll _ e
    have hbn : b ≠ D := fun q => by
      subst q
      rw [hideAll_none _ (by simp)] at e; cases e
    rwa [Heap.get?_push_ne _ _ _ (by rw [hD]; exact hbn)] at e1

theorem binds_kw {fd : FuncData} {args : Args} {binds : Addr → List (Str × Value)} {T : Addr} {oc : Value} {od : Option Addr} {sl : Array (Option Value)} {items : Array Value} {n : Nat}
    {k : Option (Array Value) → Sem (List (Str × Value))} (X : (hd.heap_39 w.params).In s.heap) (hd' : fd.defaults = .ref T) (ho : (hd.heap_39 w.params).lookup T = some ⟨oc, od, .seq items n, sl⟩)
    (h₁ : bindArgs fd args = seqItems? fd.defaults >>= k) (h₂ : k (some items) = alloc (dictOf [] 0) >>= fun D => pure (binds D)) :
    ∀ (A : Around) (E : Value → Shared → Prop) (Q : List (Str × Value) → Shared → Prop), Q (binds s.heap.objs.size) {s with heap := s.heap.push (dictOf [] 0)} → wpAny (model prog w) A (bindArgs fd args) Q E s := fun A E Q hq => by
  rw [h₁, hd']
  exact wpAny_bind (wpAny_seqItems (X _ _ ho) rfl (h₂ ▸ wpAny_bind (wpAny_alloc (wpAny_pure hq))))

theorem ext_of' {base g h h' : Heap} {L' : Addr} {m' : Str → Option Value} {foot news' : List (Addr × Obj)} (mt : List Addr)
    (hgk : ∀ b o, b ∉ Adr foot → h.get? b = some o → g.get? b = some o) (hfo : ∀ p ∈ foot, h.get? p.1 = some p.2 ∧ base.get? p.1 = none)
    (F : Fr g L' h' m') (N : News g L' h' news') (hro : ∀ p ∈ foot, p.1 ∈ mt ∨ p ∈ news') : Ext mt h h' := by
  intro b o hb e
  by_cases hq : b ∈ Adr foot
  · obtain ⟨p, hp, rfl⟩ := List.mem_map.mp hq
    have e1 := (hfo p hp).1
    rw [e] at e1
    obtain rfl := Option.some.inj e1
    rcases hro p hp with z | z
    · exact absurd z hb
    · exact N.get z
  · exact F.keep b o (hgk b o hq e)
theorem isDict_nil : (dictOf [] 0).IsDictOf (PySem.strKind prog w) [] := kp_isDict (ex := []) 0 0 List.nodup_nil

theorem pop_dflt {h₀ : Heap} {L d : Addr} {news : List (Addr × Obj)} {o : Obj} {kvs : List (Str × Value)} {k : Str} {t : Tok} {dflt : Value} (N : News h₀ L s.heap news) (hp : (d, o) ∈ news) (hd : o.IsDictOf (PySem.strKind prog w) kvs) (lo : (d == sysModules) = false) (hv : valueAt kvs k = none)
    (h : Q dflt { s with toks := s.toks + 1 }) : wpAny (model prog w) A (call (.builtin "dict.pop") [.ref d, .str k t, dflt]) Q E s := by
  have hD : s.heap.DictOf (PySem.strKind prog w) d kvs := Heap.dictOf_iff.mpr ⟨o, (N _ hp).1, hd⟩
  exact call_meetsIn PySem.F.slot_dict_pop hD.typeIs PySem.F.entry_dict_pop (PySem.F.args_dict_pop_3 _ _ _) (meets_dict_pop_default (PySem.strKind prog w) d (strKind_is prog w k t) lo rfl dflt) ⟨kvs, hD, hv, h⟩
local macro_rules | `(tactic| walk_at "getMethod ref") => `(tactic| (k_here; (with_reducible show wpAny _ _ (getMethod (Value.ref _) (Str.ofString "pop") _) _ _ _); k_dflt (refine' kda_method (knd := PySem.strKind _ _) ?N ?p isDict_nil PySem.F.slot_dict_pop PySem.F.type_dict_pop ?_; (case N => k_asm); (case p => k_mem))))
local macro_rules | `(tactic| walk_at "call builtin:dict.pop") => `(tactic| (k_here; k_dflt (refine' pop_dflt (kvs := []) ?N ?p isDict_nil ?l rfl ?_; (case N => k_asm); (case p => k_mem); (case l => assumption))))

theorem c_init {R : Result → Shared → Prop} (ty : Str) (hty : (ty == Str.ofString "sysex") = false) (sp vn an : Addr) (names anames : List Str) (KS : KindS w ty sp vn an names anames) (dv : Str → Value) (hdef : ∀ x ∈ names, nsIn (hd.heap_39 w.params) 101 x = some (some (dv x))) (hnl : names.length < 100) (tx : Tok)
   (hok : ∀ p ∈ names.foldl (fun k x => stored k x (dv x)) [(Str.ofString "type", .str ty tx), (Str.ofString "time", .int 0 648)], anames.any (· == p.1) = true ∧ OkCV w base p.1 p.2)
   (htv : valueAt (names.foldl (fun k x => stored k x (dv x)) [(Str.ofString "type", .str ty tx), (Str.ofString "time", .int 0 648)]) (Str.ofString "type") = some (.str ty tx))
   (S : Bas w mean mg mb base) (hs : base.StaysIn s.heap) (x dx : Addr) (hA : A.depth + 24 < recursionLimit) (hh : A.handled = none)
   (hx : s.heap.get? x = some (instObj 455 dx)) (hdx : s.heap.get? dx = some (dictOf [] 0)) (bx : base.get? x = none) (bdx : base.get? dx = none)
   (hR : ∀ h' tk hf tf d, Ext [dx] s.heap h' → h'.get? dx = some (dictOf [⟨hf, .str (Str.ofString "fields") tf, .ref d⟩] 1) → R (.ok (.ret .none)) {s with heap := h', toks := tk}) :
   codeAny (model prog w) A (.call (.ref 394) ⟨[.ref x, .str ty tx], []⟩) R s := by
  have Xs : (hd.heap_39 w.params).In s.heap := S.X.keeps hs
  have hfo := fo_cons hx bx (fo_cons hdx bdx (fo_nil (h := s.heap) (base := base)))
  refine enterKw (binds := fun D => [(Str.ofString "self", .ref x), (Str.ofString "kind", .str ty tx), (Str.ofString "skip_checks", .bool false), (Str.ofString "args", .ref D)]) _ S hs hfo (by k_is) (by k_is) (by omega) ?bnd (fun D => locs rfl) ?_
  case bnd =>
    intro A1 E1 Q1 hq1
    refine' binds_kw (binds := fun D => [(Str.ofString "self", .ref x), (Str.ofString "kind", .str ty tx), (Str.ofString "skip_checks", .bool false), (Str.ofString "args", .ref D)]) (T := 387) Xs ?d ?l ?h1 ?h2 A1 E1 Q1 hq1
    case d => exact rfl
    case l => k_is
    case h1 => exact rfl
    case h2 => first | exact rfl | skip
  intro D g L' h₁ hg F N X TT hgk hDlo hDa hLa hDL hlt hgs hbD
  k_steps
  refine c_mmd ty sp vn an names anames KS dv hdef hnl tx D (dictOf [] 0) isDict_nil hDlo S (fun b o q => by rename Fr g L' _ _ => F2; exact F2.keep b o (hg b o q)) (by walk_at "mi_depth") hh (by rename News g L' _ _ => N2; exact fo_cons (N2.get (.head _)) hbD fo_nil) fun h5 tk5 d e5 ad dlo hd5 => ?_
  rename Fr g L' _ _ => F2
  rename News g L' _ _ => N2
  have F3 := frExt F2 e5 (fun h => nomatch h) (fun _ h => nomatch h)
  obtain ⟨od, hod, hdk⟩ := Heap.dictOf_iff.mp hd5
  have dL : d ≠ L' := fun q => by
    obtain ⟨oL, _, _, hLo, _⟩ := F2.ns
    exact ad.ne hLo q
  have gd : g.get? d = none := by
    cases q : g.get? d with
    | none => rfl
    | some o => exact absurd rfl (ad.ne (F2.keep _ _ q))
  have ddx : d ≠ dx := After.ne (o := dictOf [] 0) ad (N2.get (by simp))
  have dD : d ≠ D := ad.ne (N2.get (.head _))
  have Ddx : D ≠ dx := hDa.ne hdx
  have xdx : x ≠ dx := fun q => by rw [q, hdx] at hx; cases hx
  have N3 := nwCons hod dL gd (nwExt N2 e5 (fun _ _ h => nomatch h))
  have ad2 : base.get? d = none := ad.base fun b o q => F2.keep b o (hg b o q)
  clear F2 N2
  k_steps
  rename Fr g L' _ _ => F3
  rename News g L' _ _ => N3
  refine c_cm ty tx sp vn an names anames KS d _ htv hok dlo S (fun b o q => F3.keep b o (hg b o q)) (by walk_at "mi_depth") hh (Heap.dictOf_iff.mpr ⟨_, N3.get (by simp), hdk⟩) ad2 fun h6 tk6 e6 => ?_
  have F4 := frExt F3 e6 (fun h => nomatch h) (fun _ h => nomatch h)
  have N4 := nwExt N3 e6 (fun _ _ h => nomatch h)
  clear F3 N3
  k_steps
  rename News g L' _ _ => N5
  exact hR _ _ _ _ d (ext_of' [dx] hgk hfo (by assumption) N5 (by walk_at "mi_ro")) (N5.get (.tail _ (.tail _ (.tail _ (.head _)))))
end PartH
theorem restI {M : Model} {A : Around} {s : Shared} {E : Value → Shared → Prop} {env : Env} {Q : Flow → Shared → Prop} (h : Q .next s) : wpAny M A (execs [] env) Q E s := by
  w_top off
  walk1
  w_top off
  exact h
section PartI
local macro_rules | `(tactic| k_steps) => `(tactic| repeat' (first | ((with_reducible show wpAny _ _ (call (Value.ref _) _ _) _ _ _); walk_at "mi_pc") | ((fail_if_success (with_reducible show wpAny _ _ (call (Value.ref _) _ _) _ _ _)); (fail_if_success (with_reducible show wpAny _ _ (exec (Stmt.Raise _ _ _) _) _ _ _)); first | (k_unfold; (try dsimp only)) | (k_end; wrow_close) | walk1 | (dsimp only; walk1) | (leave1; walk_say "STEP leave1"; (try dsimp only)) | fail "no step")))
local macro_rules | `(tactic| k_ne) => `(tactic| first | assumption | exact Ne.symm (by assumption))
local macro_rules | `(tactic| walk_at "call builtin:len") => `(tactic| (k_here; (with_reducible show wpAny _ _ (call (Value.builtin "len") [Value.ref _]) _ _ _); refine PyProof.Rows.len_list (News.isList (by k_asm) (by k_mem)) (by (try simp only [Array.size_push, List.size_toArray]); omega) ?_))
local macro_rules | `(tactic| walk_at "mi_ro") => `(tactic| repeat' (first | exact ro_nil | refine ro_keep (by k_mem) ?_ | refine ro_mut (by simp) ?_))
local macro_rules | `(tactic| walk_at "mi_depth") => `(tactic| ((try simp only [PySem.Around.deeper, PySem.Around.in1_depth]); omega))
local macro_rules | `(tactic| walk_at "mi_pure") => `(tactic| exact hQ _ _ (ext_of [] hgk hsz (fo_nil (base := base)) (by assumption) (by assumption) ro_nil))
local macro_rules | `(tactic| walk_at "mi_steps") => `(tactic| repeat' ((fail_if_success (with_reducible show wpAny _ _ (exec (Stmt.For _ _ _ _ _) _) _ _ _)); first | ((with_reducible show wpAny _ _ (call (Value.ref _) _ _) _ _ _); walk_at "mi_pc") | ((fail_if_success (with_reducible show wpAny _ _ (call (Value.ref _) _ _) _ _ _)); (fail_if_success (with_reducible show wpAny _ _ (exec (Stmt.Raise _ _ _) _) _ _ _)); first | (k_unfold; (try dsimp only)) | (k_end; kc_close) | walk1 | (dsimp only; walk1) | (leave1; walk_say "STEP leave1"; (try dsimp only)) | fail "no step")))
local macro_rules | `(tactic| walk_at "subscriptTail") => `(tactic| (k_here; (with_reducible show wpAny _ _ (subscriptTail _ _ (Value.ref _) (Value.str _ _)) _ _ _); k_dflt (refine' topItem_K ?F ?X ?l ?k ?e ?_; (case F => k_asm); (case X => k_asm); (case l => first | assumption | k_is); (case k => first | assumption | k_keys); (case e => first | assumption | k_is))))
local macro_rules | `(tactic| walk_at "mi_stepsC") => `(tactic| repeat' ((fail_if_success (with_reducible show wpAny _ _ (exec (Stmt.For _ _ _ _ _) _) _ _ _)); (fail_if_success (with_reducible show wpAny _ _ (exec (Stmt.Assign [_] (Expr.ListComp _ _ _ _) _) _) _ _ _)); (fail_if_success (with_reducible show wpAny _ _ (call (Value.type "zip") _) _ _ _)); (fail_if_success (with_reducible show wpAny _ _ (exec (Stmt.Assign [_] (Expr.DictComp _ _ _ _ _) _) _) _ _ _)); first | ((with_reducible show wpAny _ _ (call (Value.ref _) _ _) _ _ _); walk_at "mi_pc") | ((fail_if_success (with_reducible show wpAny _ _ (call (Value.ref _) _ _) _ _ _)); (fail_if_success (with_reducible show wpAny _ _ (exec (Stmt.Raise _ _ _) _) _ _ _)); first | (k_unfold; (try dsimp only)) | (k_end; kc_close) | walk1 | (dsimp only; walk1) | (leave1; walk_say "STEP leave1"; (try dsimp only)) | fail "no step")))
local macro_rules | `(tactic| walk_at "mi_stepsO") => `(tactic| repeat' ((fail_if_success (with_reducible show wpAny _ _ (exec (Stmt.For _ _ _ _ _) _) _ _ _)); (fail_if_success (with_reducible show wpAny _ _ (exec (Stmt.Assign [_] (Expr.ListComp _ _ _ _) _) _) _ _ _)); (fail_if_success (with_reducible show wpAny _ _ (call (Value.type "zip") _) _ _ _)); (fail_if_success (with_reducible show wpAny _ _ (exec (Stmt.Assign [_] (Expr.DictComp _ _ _ _ _) _) _) _ _ _)); first | ((with_reducible show wpAny _ _ (call (Value.ref _) _ _) _ _ _); walk_at "mi_pc") | ((fail_if_success (with_reducible show wpAny _ _ (call (Value.ref _) _ _) _ _ _)); (fail_if_success (with_reducible show wpAny _ _ (exec (Stmt.Raise _ _ _) _) _ _ _)); first | ((with_reducible show wpAny _ _ (execs _ _) _ _ _); exfalso; omega) | (k_unfold; (try dsimp only)) | (k_end; kc_close) | walk1 | (dsimp only; walk1) | (leave1; walk_say "STEP leave1"; (try dsimp only)) | fail "no step")))
section
variable {env : Env} {R : Result → Shared → Prop}
/-- a goal that the walk leaves as it is -/
inductive Shut (p : Prop) : Prop
  | mk : p → Shut p
theorem evalNs {x : Str} {pos : Pos} {m : Str → Option Value} {v : Value} {cenv : Env} {Q : Value → Shared → Prop} {M : Model} (hk : cenv.scope.kind = .function) (hl : cenv.kindOf x = some .local) (hd : (x == ("__debug__" : Str)) = false) (hn : s.heap.Ns cenv.locals m) (hv : m x = some v) (h : Q v s) :
   wpAny M A (eval (.Name x pos) cenv) Q E s := wpAny_Name (wpAny_loadName_local hk hl hn hv h) hd
abbrev zipKv (ns : List Str) (vs : List Value) : List (Str × Value) := (ns.zip vs).foldl (fun k p => stored k p.1 p.2) []
theorem zipKv_len (ns : List Str) (vs : List Value) : (zipKv ns vs).length ≤ ns.length := by
  have : ∀ (l : List (Str × Value)) (k : List (Str × Value)), (l.foldl (fun k p => stored k p.1 p.2) k).length ≤ k.length + l.length := by
    intro l
    induction l with
    | nil => intro k; exact Nat.le_refl _
    | cons p l ih =>
      intro k
      have h1 := ih (stored k p.1 p.2)
      have h2 := stored_len k p.1 p.2
      simp only [List.foldl_cons, List.length_cons]; omega
  have h1 := this (ns.zip vs) []
  have h2 : (ns.zip vs).length ≤ ns.length := by rw [List.length_zip]; exact Nat.min_le_left _ _
  simp only [List.length_nil] at h1
  show ((ns.zip vs).foldl (fun k p => stored k p.1 p.2) []).length ≤ _
  omega
theorem compLoopZip {xk xv : Str} {p1 p2 p3 p4 pt pos : Pos} {x1 : Nat} {iter : Expr} {scope : Scope} {z TI TO i1 i2 l1 l2 D : Addr} {xs ys : Array Value} {ns : List Str} {cenv : Env} {m : Str → Option Value}
  (hh : A.handled = none) (Dz : ZipApart z TI TO i1 i2 l1 l2) (hns : StrsAre xs.toList ns) (hlen : ys.size = ns.length)
  (hk1 : cenv.kindOf xk = some .local) (hk2 : cenv.kindOf xv = some .local) (hfn : cenv.scope.kind = .function) (hne : xk ≠ xv)
  (hd1 : (xk == ("__debug__" : Str)) = false) (hd2 : (xv == ("__debug__" : Str)) = false)
  (hL : ∀ b ∈ [z, TI, TO, i1, i2, l1, l2], b ≠ cenv.locals) (hDL : D ≠ cenv.locals) (hDf : ∀ b ∈ [z, TI, TO, i1, i2, l1, l2], b ≠ D)
  (hst : IsZip s.heap z TI TO .none ∧ IsPair s.heap TI (.ref i1) (.ref i2) ∧ (∃ a b, IsPair s.heap TO a b) ∧ s.heap.IsListIter i1 l1 0 ∧ s.heap.IsListIter i2 l2 0 ∧ s.heap.IsList l1 xs ∧ s.heap.IsList l2 ys)
  (hacc : s.heap.DictOf (PySem.strKind prog w) D []) (hn : s.heap.Ns cenv.locals m) (hsz : ns.length ≤ sizeLine)
  (hR : ∀ h' tk m', h'.Ns cenv.locals m' → h'.DictOf (PySem.strKind prog w) D (zipKv ns ys.toList) → Ext [cenv.locals, D, z, TO, i1, i2] s.heap h' → R (.ok .next) {s with heap := h', toks := tk}) :
  codeAny (model prog w) A (.compLoop (.DictComp (.Name xk p1) (.Name xv p2) [⟨.Tuple [.Name xk p3, .Name xv p4] x1 pt, iter, [], 0⟩] scope pos) 0 (.ref z) (.ref D) cenv) R s := by
  have hN : min xs.size ys.size = ns.length := by rw [hlen, sa_size hns, Nat.min_self]
  obtain ⟨Pt, St, Mid, W, hst, hPt⟩ : ∃ Pt St Mid, WalksT prog w A z [z, TI, TO, i1, i2, l1, l2] [z, TO, i1, i2] ns.length Pt St Mid ∧ St 0 s.heap ∧ ∀ i vals, Pt i vals → ∃ x y, xs[i]? = some x ∧ ys[i]? = some y ∧ vals = #[x, y] :=
    ⟨_, _, _, hN ▸ WalksT.zip2 hh z TI TO i1 i2 l1 l2 Dz xs ys, hst, fun _ _ h => h⟩
  have Lwr : ∀ b ∈ [z, TO, i1, i2], b ≠ cenv.locals := fun b hb => hL b (W.sub b hb)
  have Dwr : ∀ b ∈ [z, TO, i1, i2], b ≠ D := fun b hb => hDf b (W.sub b hb)
  have hp : (cenv.scope.kind == .class || (cenv.scope.kind == .module && cenv.locals != cenv.globals)) = false := by rw [hfn]; rfl
  refine codeAny_loop rfl
    (fun n s' => ∃ h' tk m' i, s' = { s with heap := h', toks := tk } ∧ i ≤ ns.length ∧ n = ns.length + 1 - i ∧ St i h' ∧ h'.DictOf (PySem.strKind prog w) D (zipKv (ns.take i) (ys.toList.take i)) ∧ h'.Ns cenv.locals m' ∧
      Ext [cenv.locals, D, z, TO, i1, i2] s.heap h') ?_ (ns.length + 1)
    ⟨s.heap, s.toks, m, 0, rfl, Nat.zero_le _, rfl, hst, hacc, hn, Ext.refl _ _⟩
  rintro n s' ⟨H, tk, m', i, rfl, hi, rfl, hst', hacc', hn', hk⟩
  show wpAny _ A ((compTurn (.DictComp (.Name xk p1) (.Name xv p2) [⟨.Tuple [.Name xk p3, .Name xv p4] x1 pt, iter, [], 0⟩] scope pos) 0 (.ref z) (.ref D) cenv).onRaise (fun x => do noteFrame x cenv; theTreesLotGoes x)) _ _ _
  refine wpAny_noted ?_
  rw [compTurn_dict]
  refine wpAny_bind (wpAny_standAt (wpAny_bind ?_))
  have upL : ∀ {h h' : Heap}, (∀ b o, b ∉ [z, TO, i1, i2] → h.get? b = some o → h'.get? b = some o) → Ext [cenv.locals, D, z, TO, i1, i2] h h' := fun hk b o hb e =>
    hk b o (fun q => hb (by simp only [List.mem_cons] at q ⊢; exact .inr (.inr q))) e
  by_cases hlt : i < ns.length
  · refine W.item i _ _ _ hlt hst' fun T vals h₁ tk₁ hPv hTl hT hMid hk₁ => ?_
    obtain ⟨x, y, hx, hy, rfl⟩ := hPt _ _ hPv
    dsimp only
    refine wpAny_bind (W.go _ _ _ i T _ _ _ hMid fun h₂ hst₂ hk₂ => ?_)
    have hT₂ : h₂.IsTuple T #[x, y] := by
      obtain ⟨o, e, r⟩ := hT
      exact ⟨o, hk₂ _ o (W.apart _ _ _ hMid) e, r⟩
    refine wpAny_bind (wpAny_assign_Tuple hh hT₂ rfl rfl fun h₃ hx₃ => ?_)
    replace hx₃ : Heap.ExtBut h₂.objs.size h₂ h₃ := hx₃
    have old₃ : ∀ b o, h₂.get? b = some o → h₃.get? b = some o := fun b o x => hx₃ b o (Nat.ne_of_lt (Heap.lt_size x)) x
    have hn₃ : h₃.Ns cenv.locals m' := ((hn'.at fun o e => hk₁ _ o (fun q => Lwr _ q rfl) e).at fun o e => hk₂ _ o (fun q => Lwr _ q rfl) e).at fun o e => old₃ _ o e
    show wpAny _ _ (do holding [y] (assign (.Name xk p3) cenv x); do holding [] (assign (.Name xv p4) cenv y); pure ()) _ _ _
    refine wpAny_bind (wpAny_holding (wpAny_assign_Name (wpAny_storeName_local hk1 hn₃ (fun h₄ hn₄ hs₄ => ?_) hp)))
    replace hs₄ : Heap.SameBut cenv.locals h₃ h₄ := hs₄
    refine wpAny_bind (wpAny_holding (wpAny_assign_Name (wpAny_storeName_local hk2 hn₄ (fun h₅ hn₅ hs₅ => wpAny_pure ?_) hp)))
    replace hs₅ : Heap.SameBut cenv.locals h₄ h₅ := hs₅
    have up₅ : ∀ b o, b ≠ cenv.locals → b ∉ [z, TO, i1, i2] → H.get? b = some o → h₅.get? b = some o := fun b o hbL hb e =>
      hs₅.extBut b o hbL (hs₄.extBut b o hbL (old₃ b o (hk₂ b o hb (hk₁ b o hb e))))
    have hst₅ : St (i + 1) h₅ := W.frame _ _ _ hst₂ fun b hb o e => hs₅.extBut b o (hL b hb) (hs₄.extBut b o (hL b hb) (old₃ b o e))
    have hacc₅ := hacc'.at fun o e => up₅ D o hDL (fun q => Dwr _ q rfl) e
    refine wpAny_bind (wpAny_pure ?_)
    simp only [if_true]
    refine wpAny_bind (wpAny_bind (evalNs hfn hk1 hd1 hn₅ (by simp only [if_neg hne, if_true]; rfl) (wpAny_bind (wpAny_holding (evalNs hfn hk2 hd2 hn₅ (by simp only [if_true]; rfl) (wpAny_bind (wpAny_standAt (wpAny_holding ?_))))))))
    obtain ⟨xn, xt, rfl, hxn⟩ := sa_get hns hx
    have hkvl : (zipKv (ns.take i) (ys.toList.take i)).length ≤ sizeLine := by
      have h1 := zipKv_len (ns.take i) (ys.toList.take i)
      have h2 : (ns.take i).length ≤ ns.length := by rw [List.length_take]; omega
      omega
    refine wpAny_dictSet_pairs (hsz := hkvl) (strKind_is _ _ _ _) hacc₅ fun h₆ hl₆ hs₆ => ?_
    refine wpAny_pure ⟨rfl, ns.length + 1 - (i + 1), by omega, h₆, _, _, i + 1, rfl, hlt, rfl, ?_, ?_, hn₅.sameBut hs₆ (Ne.symm hDL), ?_⟩
    · exact W.frame _ _ _ hst₅ fun b hb o e => hs₆.extBut b o (hDf b hb) e
    · have e1 : ns.take (i + 1) = ns.take i ++ [xn] := by rw [List.take_add_one, hxn]; rfl
      have e2 : ys.toList.take (i + 1) = ys.toList.take i ++ [y] := by rw [List.take_add_one, Array.getElem?_toList, hy]; rfl
      have e3 : (ns.take i).length = (ys.toList.take i).length := by rw [List.length_take, List.length_take, show ys.toList.length = ns.length from by simpa using hlen]
      have e4 : zipKv (ns.take (i + 1)) (ys.toList.take (i + 1)) = stored (zipKv (ns.take i) (ys.toList.take i)) xn y := by
        unfold zipKv
        rw [e1, e2, List.zip_append e3, List.foldl_append]; rfl
      rw [e4]; exact hl₆
    · intro b o hb e
      simp only [List.mem_cons, List.not_mem_nil, or_false, not_or] at hb
      refine hs₆.extBut b o hb.2.1 (up₅ b o hb.1 (by simp only [List.mem_cons, List.not_mem_nil, or_false, not_or]; exact hb.2.2) (hk b o (by simp only [List.mem_cons, List.not_mem_nil, or_false, not_or]; exact hb) e))
  · have hin : i = ns.length := by omega
    subst hin
    refine W.done _ _ _ hst' fun h₁ tk₁ hk₁ => wpAny_pure ?_
    refine hR h₁ tk₁ m' (hn'.at fun o e => hk₁ _ o (fun q => Lwr _ q rfl) e) ?_ (hk.trans (upL hk₁))
    have e2 : ys.toList.take ns.length = ys.toList := by rw [← hlen]; exact List.take_of_length_le (by simp)
    rw [List.take_length, e2] at hacc'
    exact hacc'.at fun o e => hk₁ D o (fun q => Dwr _ q rfl) e

theorem assignZip {xk xv y : Str} {p1 p2 p3 p4 pt pos py spos : Pos} {x1 : Nat} {iter : Expr} {scope : Scope} {Q : Flow → Shared → Prop}
    (hsw : swapsWith (.DictComp (.Name xk p1) (.Name xv p2) [⟨.Tuple [.Name xk p3, .Name xv p4] x1 pt, iter, [], 0⟩] scope pos) (some (.Name y py)) spos.line env = pure true)
    (hh : A.handled = none) (hclos : closureFor scope env = pure []) (hcell : ∀ z ∈ scope.names, z.2 ≠ .cell) (hkind : scope.kind = .function)
    (hnames : ∀ z ∈ scope.names, z.2 = .local → scope.names.lookup z.1 = some .local) (hxk : scope.names.lookup xk = some .local) (hxv : scope.names.lookup xv = some .local)
    (hy : env.kindOf y = some .local) (hp : (env.scope.kind == .class || (env.scope.kind == .module && env.locals != env.globals)) = false) (hne : xk ≠ xv)
    (hd1 : (xk == ("__debug__" : Str)) = false) (hd2 : (xv == ("__debug__" : Str)) = false)
    (h : wpAny (model prog w) A (eval iter env) (fun v s₁ => Shut (∃ z TI TO i1 i2 l1 l2 xs ys ns m, v = .ref z ∧ ZipApart z TI TO i1 i2 l1 l2 ∧ StrsAre xs.toList ns ∧ ys.size = ns.length ∧ ns.length ≤ sizeLine ∧
       (IsZip s₁.heap z TI TO .none ∧ IsPair s₁.heap TI (.ref i1) (.ref i2) ∧ (∃ a b, IsPair s₁.heap TO a b) ∧ s₁.heap.IsListIter i1 l1 0 ∧ s₁.heap.IsListIter i2 l2 0 ∧ s₁.heap.IsList l1 xs ∧ s₁.heap.IsList l2 ys) ∧
       s₁.heap.Ns env.locals m ∧ (∀ b ∈ [z, TI, TO, i1, i2, l1, l2], b ≠ env.locals) ∧
       (∀ D h' tk, s₁.heap.get? D = none → s₁.heap.objs.size ≤ D → h'.DictOf (PySem.strKind prog w) D (zipKv ns ys.toList) → h'.Ns env.locals (fun x => if x = y then some (.ref D) else m x) → Ext [env.locals, z, TO, i1, i2] s₁.heap h' →
         Q .next {s₁ with heap := h', toks := tk}))) E s)
    (hs : ∀ x, foldedSetIterable iter env x = pure x) :
    wpAny (model prog w) A (exec (.Assign [.Name y py] (.DictComp (.Name xk p1) (.Name xv p2) [⟨.Tuple [.Name xk p3, .Name xv p4] x1 pt, iter, [], 0⟩] scope pos) spos) env) Q E s := by
  rw [exec_Assign_Name_used _ _ _ _ hsw]
  refine wpAny_bind (wpAny_standAt (wpAny_bind ?_))
  show wpAny _ A (do let _ ← comprehension (.DictComp (.Name xk p1) (.Name xv p2) [⟨.Tuple [.Name xk p3, .Name xv p4] x1 pt, iter, [], 0⟩] scope pos) scope env _ newDict false (eval iter env) (some (assign (.Name y py) env))) _ _ s
  refine wpAny_bind (wpAny_mono (wpAny_comprehension_free (use := some (assign (.Name y py) env)) (Q := fun _ s' => Q .next s') rfl hs hclos hkind hnames
    (wpAny_mono h (fun xv s₁ h₁ => ?_) fun _ _ e => e)) (fun _ s' hq => wpAny_pure (wpAny_pure hq)) fun _ _ e => e)
  obtain ⟨⟨z, TI, TO, i1, i2, l1, l2, xs, ys, ns, m, rfl, Dz, hns, hlen, hsz, hst, hn, hLf, hQ⟩⟩ := h₁
  refine wpAny_pyIter_zip hst.1 ?_
  refine wpAny_newObj_type (wpAny_newFunctionEnv hcell (by intro y hy; simp at hy) (fun h₁ hns₁ hsb₁ => ?_) hkind)
  dsimp only at hns₁ hsb₁ ⊢
  have hnew : (s₁.heap.push { cls := .type "dict", dict := none, data := .dict #[] }).DictOf (PySem.strKind prog w) s₁.heap.objs.size [] := Heap.DictOf.new s₁.heap
  generalize hH2 : s₁.heap.push { cls := .type "dict", dict := none, data := .dict #[] } = H2 at hns₁ hsb₁ hnew ⊢
  have hC : H2.objs.size = s₁.heap.objs.size + 1 := by rw [← hH2, Heap.size_push]
  have hDC : s₁.heap.objs.size ≠ H2.objs.size := by rw [hC]; exact Nat.ne_of_lt (Nat.lt_succ_self _)
  have below : ∀ {b : Addr} {o : Obj}, s₁.heap.get? b = some o → b ≠ H2.objs.size ∧ b ≠ s₁.heap.objs.size := fun {b o} hb => ⟨by rw [hC]; exact Nat.ne_of_lt (Nat.lt_succ_of_lt (Heap.lt_size hb)), Nat.ne_of_lt (Heap.lt_size hb)⟩
  have old : ∀ b o, s₁.heap.get? b = some o → h₁.get? b = some o := fun b o e => hsb₁.extBut b o (below e).1 (Heap.get?_push_of_some _ (hH2 ▸ Heap.get?_push_of_some _ e))
  have hacc : h₁.DictOf (PySem.strKind prog w) s₁.heap.objs.size [] := hnew.at fun o e => hsb₁.extBut _ _ hDC (Heap.get?_push_of_some _ e)
  obtain ⟨q1, q2, ⟨qa, qb, q3⟩, q4, q5, q6, q7⟩ := hst
  have dom : ∀ b ∈ [z, TI, TO, i1, i2, l1, l2], ∃ o, s₁.heap.get? b = some o := by
    intro b hb
    simp only [List.mem_cons, List.not_mem_nil, or_false] at hb
    obtain ⟨o4, e4, _⟩ := id q4
    obtain ⟨o5, e5, _⟩ := id q5
    obtain ⟨o6, e6, _⟩ := id q6
    obtain ⟨o7, e7, _⟩ := id q7
    rcases hb with rfl | rfl | rfl | rfl | rfl | rfl | rfl
    · exact ⟨_, q1⟩
    · exact ⟨_, q2⟩
    · exact ⟨_, q3⟩
    · exact ⟨_, e4⟩
    · exact ⟨_, e5⟩
    · exact ⟨_, e6⟩
    · exact ⟨_, e7⟩
  obtain ⟨oL, _, _, hoL, _⟩ := id hn
  have fresh : s₁.heap.get? s₁.heap.objs.size = none := by
    cases e : s₁.heap.get? s₁.heap.objs.size with
    | none => rfl
    | some o' => exact absurd (Heap.lt_size e) (Nat.lt_irrefl _)
  have loop : ∀ s₃ : Shared, s₃ = { s₁ with heap := h₁, toks := s₁.toks + ([] : List (Str × Value)).length } →
      codeAny (model prog w) A (.compLoop (.DictComp (.Name xk p1) (.Name xv p2) [⟨.Tuple [.Name xk p3, .Name xv p4] x1 pt, iter, [], 0⟩] scope pos) 0 (.ref z) (.ref s₁.heap.objs.size) (compEnvC scope [] H2.objs.size env))
        (compPost (model prog w) A E (some (assign (.Name y py) env)) (fun _ s' => Q .next s') (.ref s₁.heap.objs.size) H2.objs.size) s₃ := by
    rintro s₃ rfl
    refine compLoopZip (m := fun x => List.lookup x ([] : List (Str × Value)).reverse) (cenv := compEnvC scope [] H2.objs.size env) hh Dz hns hlen (lookup_relabel_local hxk) (lookup_relabel_local hxv) (by simp [compEnvC, relabel, hkind]) hne hd1 hd2
      (fun b hb => (below (dom b hb).choose_spec).1) hDC (fun b hb => (below (dom b hb).choose_spec).2)
      ⟨old _ _ q1, old _ _ q2, ⟨qa, qb, old _ _ q3⟩, q4.at (old _), q5.at (old _), q6.at (old _), q7.at (old _)⟩ hacc hns₁ hsz fun h' tk m' hn' hd' e' => ?_
    have e1 : Ext [z, TO, i1, i2] s₁.heap h' := fun b o hb e => e' b o (by
      simp only [List.mem_cons, List.not_mem_nil, or_false, not_or] at hb ⊢
      exact ⟨(below e).1, (below e).2, hb⟩) (old b o e)
    have hn1 : h'.Ns env.locals m := hn.at fun o e => e1 _ o (fun q => hLf _ (by simp only [List.mem_cons, List.not_mem_nil, or_false] at q ⊢; rcases q with q | q | q | q <;> simp [q]) rfl) e
    show wpAny _ A (assign (.Name y py) env (.ref s₁.heap.objs.size)) _ _ _
    refine wpAny_assign_Name (wpAny_storeName_local hy hn1 (fun h₂ hn₂ hs₂ => ?_) hp)
    replace hs₂ : Heap.SameBut env.locals h' h₂ := hs₂
    have LC : H2.objs.size ≠ env.locals := Ne.symm (below hoL).1
    have LD : s₁.heap.objs.size ≠ env.locals := Ne.symm (below hoL).2
    refine ⟨m', hn'.sameBut hs₂ LC, fun h₃ hs₃ => hQ _ _ _ fresh (Nat.le_refl _) ((hd'.extBut hs₂.extBut LD).extBut hs₃.extBut hDC) (hn₂.sameBut hs₃ (Ne.symm LC)) ?_⟩
    intro b o hb e
    simp only [List.mem_cons, List.not_mem_nil, or_false, not_or] at hb
    exact hs₃.extBut b o (below e).1 (hs₂.extBut b o hb.1 (e1 b o (by simpa using hb.2) e))
  have hz1 := old _ _ q1
  exact codeAny_compStart_dict (loop _ rfl) (wpAny_pyIter_zip hz1 (loop _ rfl))
end
end PartI
theorem restJ {M : Model} {A : Around} {s : Shared} {E : Value → Shared → Prop} {env : Env} {Q : Flow → Shared → Prop} (h : Q .next s) : wpAny M A (execs [] env) Q E s := by
  w_top off
  walk1
  w_top off
  exact h
section PartJ
local macro_rules | `(tactic| k_steps) => `(tactic| repeat' (first | ((with_reducible show wpAny _ _ (call (Value.ref _) _ _) _ _ _); walk_at "mi_pc") | ((fail_if_success (with_reducible show wpAny _ _ (call (Value.ref _) _ _) _ _ _)); (fail_if_success (with_reducible show wpAny _ _ (exec (Stmt.Raise _ _ _) _) _ _ _)); first | (k_unfold; (try dsimp only)) | (k_end; wrow_close) | walk1 | (dsimp only; walk1) | (leave1; walk_say "STEP leave1"; (try dsimp only)) | fail "no step")))
local macro_rules | `(tactic| k_ne) => `(tactic| first | assumption | exact Ne.symm (by assumption))
local macro_rules | `(tactic| walk_at "call builtin:len") => `(tactic| (k_here; (with_reducible show wpAny _ _ (call (Value.builtin "len") [Value.ref _]) _ _ _); refine PyProof.Rows.len_list (News.isList (by k_asm) (by k_mem)) (by (try simp only [Array.size_push, List.size_toArray]); omega) ?_))
local macro_rules | `(tactic| walk_at "mi_ro") => `(tactic| repeat' (first | exact ro_nil | refine ro_keep (by k_mem) ?_ | refine ro_mut (by simp) ?_))
local macro_rules | `(tactic| walk_at "mi_depth") => `(tactic| ((try simp only [PySem.Around.deeper, PySem.Around.in1_depth]); omega))
local macro_rules | `(tactic| walk_at "mi_pure") => `(tactic| exact hQ _ _ (ext_of [] hgk hsz (fo_nil (base := base)) (by assumption) (by assumption) ro_nil))
local macro_rules | `(tactic| walk_at "mi_steps") => `(tactic| repeat' ((fail_if_success (with_reducible show wpAny _ _ (exec (Stmt.For _ _ _ _ _) _) _ _ _)); first | ((with_reducible show wpAny _ _ (call (Value.ref _) _ _) _ _ _); walk_at "mi_pc") | ((fail_if_success (with_reducible show wpAny _ _ (call (Value.ref _) _ _) _ _ _)); (fail_if_success (with_reducible show wpAny _ _ (exec (Stmt.Raise _ _ _) _) _ _ _)); first | (k_unfold; (try dsimp only)) | (k_end; kc_close) | walk1 | (dsimp only; walk1) | (leave1; walk_say "STEP leave1"; (try dsimp only)) | fail "no step")))
local macro_rules | `(tactic| walk_at "subscriptTail") => `(tactic| (k_here; (with_reducible show wpAny _ _ (subscriptTail _ _ (Value.ref _) (Value.str _ _)) _ _ _); k_dflt (refine' topItem_K ?F ?X ?l ?k ?e ?_; (case F => k_asm); (case X => k_asm); (case l => first | assumption | k_is); (case k => first | assumption | k_keys); (case e => first | assumption | k_is))))
local macro_rules | `(tactic| walk_at "mi_stepsC") => `(tactic| repeat' ((fail_if_success (with_reducible show wpAny _ _ (exec (Stmt.For _ _ _ _ _) _) _ _ _)); (fail_if_success (with_reducible show wpAny _ _ (exec (Stmt.Assign [_] (Expr.ListComp _ _ _ _) _) _) _ _ _)); (fail_if_success (with_reducible show wpAny _ _ (call (Value.type "zip") _) _ _ _)); (fail_if_success (with_reducible show wpAny _ _ (exec (Stmt.Assign [_] (Expr.DictComp _ _ _ _ _) _) _) _ _ _)); first | ((with_reducible show wpAny _ _ (call (Value.ref _) _ _) _ _ _); walk_at "mi_pc") | ((fail_if_success (with_reducible show wpAny _ _ (call (Value.ref _) _ _) _ _ _)); (fail_if_success (with_reducible show wpAny _ _ (exec (Stmt.Raise _ _ _) _) _ _ _)); first | (k_unfold; (try dsimp only)) | (k_end; kc_close) | walk1 | (dsimp only; walk1) | (leave1; walk_say "STEP leave1"; (try dsimp only)) | fail "no step")))
local macro_rules | `(tactic| walk_at "mi_stepsO") => `(tactic| repeat' ((fail_if_success (with_reducible show wpAny _ _ (exec (Stmt.For _ _ _ _ _) _) _ _ _)); (fail_if_success (with_reducible show wpAny _ _ (exec (Stmt.Assign [_] (Expr.ListComp _ _ _ _) _) _) _ _ _)); (fail_if_success (with_reducible show wpAny _ _ (call (Value.type "zip") _) _ _ _)); (fail_if_success (with_reducible show wpAny _ _ (exec (Stmt.Assign [_] (Expr.DictComp _ _ _ _ _) _) _) _ _ _)); first | ((with_reducible show wpAny _ _ (call (Value.ref _) _ _) _ _ _); walk_at "mi_pc") | ((fail_if_success (with_reducible show wpAny _ _ (call (Value.ref _) _ _) _ _ _)); (fail_if_success (with_reducible show wpAny _ _ (exec (Stmt.Raise _ _ _) _) _ _ _)); first | ((with_reducible show wpAny _ _ (execs _ _) _ _ _); exfalso; omega) | (k_unfold; (try dsimp only)) | (k_end; kc_close) | walk1 | (dsimp only; walk1) | (leave1; walk_say "STEP leave1"; (try dsimp only)) | fail "no step")))
section
variable {env : Env} {R : Result → Shared → Prop}
abbrev nameP (lit n : Str) : Bool := n.cps.toList != lit.cps.toList
abbrev nameV (lit : Str) : Value → Bool
  | .str n _ => nameP lit n
  | _ => true
theorem sa_filter {lit : Str} {vs : List Value} {ns : List Str} (h : StrsAre vs ns) : StrsAre (vs.filter (nameV lit)) (ns.filter (nameP lit)) := by
  induction h with
  | nil => exact .nil
  | cons y t _ ih =>
    rw [List.filter_cons, List.filter_cons]
    by_cases e : nameP lit y = true
    · rw [if_pos (show nameV lit (.str y t) = true from e), if_pos e]; exact .cons y t ih
    · rw [if_neg (show ¬ nameV lit (.str y t) = true from e), if_neg e]; exact ih
theorem paired_eq {l₁ l₂ : List Value} (h : Paired (fun v y => y = v) l₁ l₂) : l₂ = l₁ := by
  induction h with
  | nil => rfl
  | cons e _ ih => rw [e, ih]
theorem list_places {n : Nat} {vs us : List Value} (hl : vs.length = n) (hn : us.length = n) (h : ∀ (j : Nat) v, vs[j]? = some v → us[j]? = some v) : vs = us := by
  apply List.ext_getElem? 
  intro j
  cases e : vs[j]? with
  | some v => exact (h j v e).symm
  | none =>
    have : us[j]? = none := List.getElem?_eq_none (by rw [hn, ← hl]; exact List.getElem?_eq_none_iff.mp e)
    exact this.symm
theorem testNe {x : Str} {lit n : Str} {t : Tok} {p1 p2 pos : Pos} {k : Nat} {cenv : Env} {m : Str → Option Value} (hk : cenv.scope.kind = .function) (hl : cenv.kindOf x = some .local) (hd : (x == ("__debug__" : Str)) = false) (hn : s.heap.Ns cenv.locals m) (hv : m x = some (.str n t)) :
   wpAny (model prog w) A (forIn [Expr.Compare (.Name x p1) [.NotEq] [.Constant (.str lit) k p2] pos] true fun c r => if r = true then do let ok ← isTrue c cenv (eval c cenv); pure (ForInStep.yield ok) else pure (ForInStep.yield r))
      (fun ok s₃ => ok = nameV lit (.str n t) ∧ Keeps s s₃) E s := by
  refine wpAny_tests_one (wpAny_isTrue_Compare1 (evalNs hk hl hd hn hv (wpAny_Constant_str (P.ne_str (wpAny_truthy_bool ?_)))))
  exact ⟨rfl, _, _, rfl, fun _ _ e => e⟩
theorem assignNames {x y lit : Str} {p1 p2 p3 p4 pc pos py spos : Pos} {k : Nat} {iter : Expr} {scope : Scope} {Q : Flow → Shared → Prop}
    (hsw : swapsWith (.ListComp (.Name x p1) [⟨.Name x p2, iter, [.Compare (.Name x p3) [.NotEq] [.Constant (.str lit) k p4] pc], 0⟩] scope pos) (some (.Name y py)) spos.line env = pure true)
    (hh : A.handled = none) (hclos : closureFor scope env = pure []) (hcell : ∀ z ∈ scope.names, z.2 ≠ .cell) (hkind : scope.kind = .function)
    (hnames : ∀ z ∈ scope.names, z.2 = .local → scope.names.lookup z.1 = some .local) (hx : scope.names.lookup x = some .local)
    (hy : env.kindOf y = some .local) (hp : (env.scope.kind == .class || (env.scope.kind == .module && env.locals != env.globals)) = false) (hd : (x == ("__debug__" : Str)) = false)
    (h : wpAny (model prog w) A (eval iter env) (fun v s₁ => Shut (∃ vn vs ns m, v = .ref vn ∧ s₁.heap.get? vn = some ⟨.type "tuple", none, .seq vs 0, #[]⟩ ∧ StrsAre vs.toList ns ∧ ns.length ≤ sizeLine ∧ s₁.heap.Ns env.locals m ∧
       (∀ D h' tk ys, s₁.heap.get? D = none → h'.PlainList D ys → StrsAre ys.toList (ns.filter (nameP lit)) → h'.Ns env.locals (fun z => if z = y then some (.ref D) else m z) → Ext [env.locals] s₁.heap h' →
         Q .next {s₁ with heap := h', toks := tk}))) E s)
    (hs : ∀ x, foldedSetIterable iter env x = pure x) :
    wpAny (model prog w) A (exec (.Assign [.Name y py] (.ListComp (.Name x p1) [⟨.Name x p2, iter, [.Compare (.Name x p3) [.NotEq] [.Constant (.str lit) k p4] pc], 0⟩] scope pos) spos) env) Q E s := by
  refine wpAny_Assign_ListComp_free (nameV lit) (fun v y => y = v) hsw hclos hcell hkind hnames hx hy hp (wpAny_mono h (fun xv s₁ h₁ => ?_) fun _ _ e => e) hs
  obtain ⟨⟨vn, vs, ns, m, rfl, hvn, hns, hsz, hn, hQ⟩⟩ := h₁
  refine wpAny_pyIter_tuple (items := vs) ⟨_, hvn, rfl, _, rfl⟩ ?_
  dsimp only
  obtain ⟨oL, _, _, hoL, _⟩ := id hn
  have hI : s₁.heap.objs.size ≠ vn := Nat.ne_of_gt (Heap.lt_size hvn)
  have hLI : env.locals ≠ s₁.heap.objs.size := Nat.ne_of_lt (Heap.lt_size hoL)
  refine ⟨s₁.heap.objs.size, [s₁.heap.objs.size, vn], [s₁.heap.objs.size], vs.size, _, _, m, rfl, Walks.tuple hh _ vn (Ne.symm hI) vs, by rw [sa_size hns]; exact hsz,
    ⟨⟨_, Heap.get?_push_size _ rfl, rfl, rfl⟩, ⟨_, Heap.get?_push_of_some _ hvn, rfl, _, rfl⟩⟩, ?_, by simpa using hLI, hn.push _, ⟨?_, ?_⟩, ?_⟩
  · intro b hb
    show b < (s₁.heap.push _).objs.size
    rw [Heap.size_push]
    simp only [List.mem_cons, List.not_mem_nil, or_false] at hb
    rcases hb with rfl | rfl
    · exact Nat.lt_succ_self _
    · exact Nat.lt_succ_of_lt (Heap.lt_size hvn)
  · intro C i v s₃ m₃ E' hC hP hn₃ hm₃ hk₃ ht₃
    obtain ⟨nx, tx, rfl, _⟩ := sa_get hns hP
    exact testNe (by simp [compEnvC, relabel, hkind]) (lookup_relabel_local hx) hd hn₃ hm₃
  · intro C i v s₃ m₃ E' hC hP hp₃ hn₃ hm₃ hk₃ ht₃
    exact evalNs (by simp [compEnvC, relabel, hkind]) (lookup_relabel_local hx) hd hn₃ hm₃ ⟨rfl, _, _, rfl, fun _ _ e => e⟩
  · intro D h' tk ys us hD hlD hpD hlen hP hF hnL hk
    have e1 := paired_eq hF
    have e2 : us = vs.toList := list_places hlen (by simp) fun j v e => by rw [Array.getElem?_toList]; exact hP j v e
    subst e2
    have hDn : s₁.heap.get? D = none := by
      cases q : s₁.heap.get? D with
      | none => rfl
      | some o => have := Heap.get?_push_of_some { cls := .type "tuple_iterator", data := .fields #[.ref vn, .int 0 0] } q; rw [this] at hD; cases hD
    refine hQ D h' tk ys hDn hpD (by rw [e1]; exact sa_filter hns) hnL fun b o hb e => hk b o (by simpa using hb) ?_ (Heap.get?_push_of_some _ e)
    simpa using Nat.ne_of_lt (Heap.lt_size e)
end
end PartJ
theorem restK {M : Model} {A : Around} {s : Shared} {E : Value → Shared → Prop} {env : Env} {Q : Flow → Shared → Prop} (h : Q .next s) : wpAny M A (execs [] env) Q E s := by
  w_top off
  walk1
  w_top off
  exact h
section PartK
local macro_rules | `(tactic| k_steps) => `(tactic| repeat' (first | ((with_reducible show wpAny _ _ (call (Value.ref _) _ _) _ _ _); walk_at "mi_pc") | ((fail_if_success (with_reducible show wpAny _ _ (call (Value.ref _) _ _) _ _ _)); (fail_if_success (with_reducible show wpAny _ _ (exec (Stmt.Raise _ _ _) _) _ _ _)); first | (k_unfold; (try dsimp only)) | (k_end; wrow_close) | walk1 | (dsimp only; walk1) | (leave1; walk_say "STEP leave1"; (try dsimp only)) | fail "no step")))
local macro_rules | `(tactic| k_ne) => `(tactic| first | assumption | exact Ne.symm (by assumption))
local macro_rules | `(tactic| walk_at "call builtin:len") => `(tactic| (k_here; (with_reducible show wpAny _ _ (call (Value.builtin "len") [Value.ref _]) _ _ _); refine PyProof.Rows.len_list (News.isList (by k_asm) (by k_mem)) (by (try simp only [Array.size_push, List.size_toArray]); omega) ?_))
local macro_rules | `(tactic| walk_at "mi_ro") => `(tactic| repeat' (first | exact ro_nil | refine ro_keep (by k_mem) ?_ | refine ro_mut (by simp) ?_))
local macro_rules | `(tactic| walk_at "mi_depth") => `(tactic| ((try simp only [PySem.Around.deeper, PySem.Around.in1_depth]); omega))
local macro_rules | `(tactic| walk_at "mi_pure") => `(tactic| exact hQ _ _ (ext_of [] hgk hsz (fo_nil (base := base)) (by assumption) (by assumption) ro_nil))
local macro_rules | `(tactic| walk_at "mi_steps") => `(tactic| repeat' ((fail_if_success (with_reducible show wpAny _ _ (exec (Stmt.For _ _ _ _ _) _) _ _ _)); first | ((with_reducible show wpAny _ _ (call (Value.ref _) _ _) _ _ _); walk_at "mi_pc") | ((fail_if_success (with_reducible show wpAny _ _ (call (Value.ref _) _ _) _ _ _)); (fail_if_success (with_reducible show wpAny _ _ (exec (Stmt.Raise _ _ _) _) _ _ _)); first | (k_unfold; (try dsimp only)) | (k_end; kc_close) | walk1 | (dsimp only; walk1) | (leave1; walk_say "STEP leave1"; (try dsimp only)) | fail "no step")))
local macro_rules | `(tactic| walk_at "subscriptTail") => `(tactic| (k_here; (with_reducible show wpAny _ _ (subscriptTail _ _ (Value.ref _) (Value.str _ _)) _ _ _); k_dflt (refine' topItem_K ?F ?X ?l ?k ?e ?_; (case F => k_asm); (case X => k_asm); (case l => first | assumption | k_is); (case k => first | assumption | k_keys); (case e => first | assumption | k_is))))
local macro_rules | `(tactic| walk_at "mi_stepsC") => `(tactic| repeat' ((fail_if_success (with_reducible show wpAny _ _ (exec (Stmt.For _ _ _ _ _) _) _ _ _)); (fail_if_success (with_reducible show wpAny _ _ (exec (Stmt.Assign [_] (Expr.ListComp _ _ _ _) _) _) _ _ _)); (fail_if_success (with_reducible show wpAny _ _ (call (Value.type "zip") _) _ _ _)); (fail_if_success (with_reducible show wpAny _ _ (exec (Stmt.Assign [_] (Expr.DictComp _ _ _ _ _) _) _) _ _ _)); first | ((with_reducible show wpAny _ _ (call (Value.ref _) _ _) _ _ _); walk_at "mi_pc") | ((fail_if_success (with_reducible show wpAny _ _ (call (Value.ref _) _ _) _ _ _)); (fail_if_success (with_reducible show wpAny _ _ (exec (Stmt.Raise _ _ _) _) _ _ _)); first | (k_unfold; (try dsimp only)) | (k_end; kc_close) | walk1 | (dsimp only; walk1) | (leave1; walk_say "STEP leave1"; (try dsimp only)) | fail "no step")))
local macro_rules | `(tactic| walk_at "mi_stepsO") => `(tactic| repeat' ((fail_if_success (with_reducible show wpAny _ _ (exec (Stmt.For _ _ _ _ _) _) _ _ _)); (fail_if_success (with_reducible show wpAny _ _ (exec (Stmt.Assign [_] (Expr.ListComp _ _ _ _) _) _) _ _ _)); (fail_if_success (with_reducible show wpAny _ _ (call (Value.type "zip") _) _ _ _)); (fail_if_success (with_reducible show wpAny _ _ (exec (Stmt.Assign [_] (Expr.DictComp _ _ _ _ _) _) _) _ _ _)); first | ((with_reducible show wpAny _ _ (call (Value.ref _) _ _) _ _ _); walk_at "mi_pc") | ((fail_if_success (with_reducible show wpAny _ _ (call (Value.ref _) _ _) _ _ _)); (fail_if_success (with_reducible show wpAny _ _ (exec (Stmt.Raise _ _ _) _) _ _ _)); first | ((with_reducible show wpAny _ _ (execs _ _) _ _ _); exfalso; omega) | (k_unfold; (try dsimp only)) | (k_end; kc_close) | walk1 | (dsimp only; walk1) | (leave1; walk_say "STEP leave1"; (try dsimp only)) | fail "no step")))
theorem fr_above {g h : Heap} {L : Addr} {m : Str → Option Value} (F : Fr g L h m) : g.get? L = none := by
  cases q : g.get? L with
  | none => rfl
  | some ob => exact absurd (Nat.lt_of_lt_of_le (Heap.lt_size q) F.above) (Nat.lt_irrefl _)
theorem frL {g h h' : Heap} {L : Addr} {m m' : Str → Option Value} {mt : List Addr} (F : Fr g L h m) (e : Ext (L :: mt) h h') (n : h'.Ns L m') (h2 : ∀ a ∈ mt, g.get? a = none) : Fr g L h' m' :=
  ⟨n, fun b o q => e.keep (fun z => by
    rcases List.mem_cons.mp z with rfl | z
    · rw [fr_above F] at q; cases q
    · rw [h2 b z] at q; cases q) (F.keep b o q), F.above⟩
theorem gone {g h : Heap} {L a : Addr} {m : Str → Option Value} (F : Fr g L h m) (x : h.get? a = none) : g.get? a = none := by
  cases q : g.get? a with
  | none => rfl
  | some o => rw [F.keep _ _ q] at x; cases x
theorem goneL {g h : Heap} {L a : Addr} {m : Str → Option Value} (F : Fr g L h m) (x : h.get? a = none) : a ≠ L := fun q => by
  obtain ⟨oL, _, _, hLo, _⟩ := F.ns
  subst q; rw [hLo] at x; cases x
local macro_rules | `(tactic| walk_at "call ref") => `(tactic| ((with_reducible show wpAny _ _ (call (Value.ref 28) _ _) _ _ _); refine pure_K (D := 2) (fun hs hA hQ => c_ics _ _ (by assumption) hs hA hQ) (by assumption) (by assumption) (by assumption) (by walk_at "mi_depth") ?_; intro h9 tk9 F9 N9; (try dsimp only)))
local macro_rules | `(tactic| walk_at "mi_pc") => `(tactic| ((with_reducible show wpAny _ _ (call (Value.ref 28) _ _) _ _ _); refine pure_K (D := 2) (fun hs hA hQ => c_ics _ _ (by assumption) hs hA hQ) (by assumption) (by assumption) (by assumption) (by walk_at "mi_depth") ?_; intro h9 tk9 F9 N9; (try dsimp only)))
local macro_rules | `(tactic| walk_at "setItem ref str") => `(tactic| (k_here; k_dflt (refine' kda_set (knd := PySem.strKind _ _) ?F ?N ?U ?d (strKind_is _ _ _ _) ?z ?_; (case F => k_asm); (case N => k_asm); (case U => k_updF); (case d => assumption); (case z => assumption)); intro h' o' F' N' hd'; (try dsimp only at N')))
theorem c_ddb (n : Int) (tn : Tok) (ty : Str) (sp vn an : Addr) (names anames : List Str) (KS : KindS w ty sp vn an names anames) (hnl : names.length < 100) (Lt : Tok) (dl : Addr) (vd : Array Value) (nd : Nat) (hL : nsIn (hd.heap_39 w.params) sp (Str.ofString "length") = some (some (.int ((vd.size : Int) + 1) Lt)))
   (hsz : vd.size < 900) (hnn : (names.filter (nameP (Str.ofString "channel"))).length = vd.size) (S : Bas w mean mg mb base) (hs : base.StaysIn s.heap) (hA : A.depth + 6 < recursionLimit) (hh : A.handled = none)
   (hfo : ∀ p ∈ [(dl, listOf vd nd)], s.heap.get? p.1 = some p.2 ∧ base.get? p.1 = none)
   (hQ : ∀ h' tk d tc, Ext [] s.heap h' → After s.heap d → (d == sysModules) = false → h'.DictOf (PySem.strKind prog w) d (if 128 ≤ n ∧ n ≤ 239 then stored (zipKv (names.filter (nameP (Str.ofString "channel"))) vd.toList) (Str.ofString "channel") (.int (Builtin.bitAnd n 15) tc) else zipKv (names.filter (nameP (Str.ofString "channel"))) vd.toList) → Q (.ref d) {s with heap := h', toks := tk}) :
   wpAny (model prog w) A (call (.ref 226) [.int n tn, .ref dl, .ref sp]) Q E s := by
  obtain ⟨inS, ⟨es, nn, sp1, sp2⟩, vn1, an1, ⟨vs, vn2, vn3⟩, ⟨us, an2, an3⟩⟩ := KS
  refine enterM (binds := [(Str.ofString "status_byte", .int n tn), (Str.ofString "data", .ref dl), (Str.ofString "spec", .ref sp)]) _ S hs hfo (by k_is) (by k_is) (by omega) (.of_eq rfl) (locs rfl) ?_
  intro g L' h₁ hg F N X TT hgk hsz hL hgs
  walk_at "mi_stepsC"
  · exfalso; omega
  rename Fr g L' _ _ => F2
  rename News g L' _ _ => N2
  refine assignNames rfl hh (closureFor_none (by decide)) (by decide) rfl (by decide) rfl rfl rfl rfl ?_ (fun _ => rfl)
  k_steps
  refine .mk ⟨vn, vs, names, _, rfl, F2.keep _ _ (X _ _ vn2), vn3, by rw [sizeLine_eq]; omega, F2.ns, fun D1 h2 tk2 ys hD1 hp1 hy1 hn1 e1 => ?_⟩
  obtain ⟨nD, hD1'⟩ := hp1
  have e1' : Ext [L'] _ h2 := e1
  have dlL : dl ≠ L' := (N2 _ (.head _)).2.1
  have D1d : D1 ≠ dl := After.ne hD1 (N2.get (.head _))
  have F3 := frL F2 e1' hn1 (fun _ h => nomatch h)
  have N3 : News g L' h2 [(D1, listOf ys nD), (dl, listOf vd nd)] := nwCons hD1' (goneL F2 hD1) (gone F2 hD1) (nwExt N2 e1' (allCons (by simpa using dlL) allNil))
  have ysz : ys.size = vd.size := by rw [sa_size hy1, hnn]
  clear F2 N2
  walk_at "mi_stepsC"
  refine assignZip rfl hh (closureFor_none (by decide)) (by decide) rfl (by decide) rfl rfl rfl rfl (by decide) rfl rfl ?_ (fun _ => rfl)
  walk_at "mi_stepsC"
  rename Fr g L' _ _ => F4
  rename News g L' _ _ => N4
  rename Heap => H
  have iD1 : H.IsList D1 ys := ⟨_, N4.get (.head _), rfl, _, rfl⟩
  have iDl : H.IsList dl vd := ⟨_, N4.get (.tail _ (.head _)), rfl, _, rfl⟩
  refine call_zip_2 iD1 iDl fun h3 q1 q2 q3 q4 q5 q6 e3 => ?_
  dsimp only at q1 q2 q3 q4 q5 q6 e3 ⊢
  generalize hK : H.objs.size = K at q1 q2 q3 q4 q5 q6 ⊢
  have lt : ∀ {b : Addr} {o : Obj}, H.get? b = some o → b < K := fun e => hK ▸ Heap.lt_size e
  have ne : ∀ {b : Addr} {o : Obj} (j : Nat), H.get? b = some o → b ≠ K + j := fun j e => Nat.ne_of_lt (Nat.lt_of_lt_of_le (lt e) (Nat.le_add_right _ _))
  obtain ⟨oL, _, _, hLo, _⟩ := F4.ns
  have nk : ∀ {i j : Nat}, i ≠ j → K + i ≠ K + j := fun h q => h (Nat.add_left_cancel q)
  have nk0 : ∀ {j : Nat}, 0 ≠ j → K ≠ K + j := fun h q => h (Nat.add_left_cancel (n := K) (m := 0) q)
  have d1 := N4.get (.head _)
  have d2 := N4.get (.tail _ (.head _))
  refine .mk ⟨K + 4, K + 2, K + 3, K, K + 1, D1, dl, ys, vd, _, _, rfl, ⟨nk (by decide), nk (by decide), nk0 (by decide), nk (by decide), nk (by decide), Ne.symm (nk0 (by decide)), nk (by decide), Ne.symm (nk0 (by decide)), nk (by decide), nk0 (by decide),
    ne 4 d1, ne 3 d1, ne 0 d1, ne 1 d1, ne 4 d2, ne 3 d2, ne 0 d2, ne 1 d2⟩, hy1, by rw [hnn], by rw [hnn, sizeLine_eq]; omega, ⟨q1, q2, ⟨_, _, q3⟩, q4, q5, iD1.at (e3 _), iDl.at (e3 _)⟩, F4.ns.at (e3 _), ?_, fun D h4 tk4 hD hDz hDd hDn e4 => ?_⟩
  · intro b hb
    simp only [List.mem_cons, List.not_mem_nil, or_false] at hb
    have d1L := (N4 _ (.head _)).2.1
    have d2L := (N4 _ (.tail _ (.head _))).2.1
    rcases hb with rfl | rfl | rfl | rfl | rfl | rfl | rfl
    · exact Ne.symm (ne 4 hLo)
    · exact Ne.symm (ne 2 hLo)
    · exact Ne.symm (ne 3 hLo)
    · exact Ne.symm (ne 0 hLo)
    · exact Ne.symm (ne 1 hLo)
    · exact d1L
    · exact d2L
  have gK : ∀ j, g.get? (K + j) = none := fun j => by
    cases q : g.get? (K + j) with
    | none => rfl
    | some ob => exact absurd rfl (ne j (F4.keep _ _ q))
  have e34 : Ext [L', K + 4, K + 3, K, K + 1] H h4 := fun b o hb e => e4 b o hb (e3 b o e)
  have F5 := frL F4 e34 hDn (by
    intro a ha
    simp only [List.mem_cons, List.not_mem_nil, or_false] at ha
    rcases ha with rfl | rfl | rfl | rfl
    · exact gK 4
    · exact gK 3
    · exact gK 0
    · exact gK 1)
  obtain ⟨oD, hoD, hdk⟩ := Heap.dictOf_iff.mp hDd
  have DL : D ≠ L' := fun q => by
    rw [q] at hD; rw [e3 _ _ hLo] at hD; cases hD
  have hDH : H.get? D = none := by
    cases q : H.get? D with
    | none => rfl
    | some o => rw [e3 _ _ q] at hD; cases hD
  have lo1 : sysModules < L' := hL ▸ modules_low (S.T.nolimit.keeps hs)
  have lo2 : L' < D := Nat.lt_of_lt_of_le (lt hLo) (Nat.le_trans (by rw [q6]; exact Nat.le_add_right _ _) hDz)
  have dlo : (D == sysModules) = false := beq_eq_false_iff_ne.mpr (Nat.ne_of_gt (Nat.lt_trans lo1 lo2))
  have d2L := (N4 _ (.tail _ (.head _))).2.1
  have d1D : dl ≠ D := fun q => by rw [q, hDH] at d2; cases d2
  have N5 : News g L' h4 [(D, oD), (dl, listOf vd nd)] := nwCons hoD DL (gone F4 hDH) (nwExt (News.tail' N4) e34 (allCons (by
    simp only [List.mem_cons, List.not_mem_nil, or_false, not_or]
    exact ⟨d2L, ne 4 d2, ne 3 d2, ne 0 d2, ne 1 d2⟩) allNil))
  have aD : After s.heap D := after_of hL lo2
  generalize hkv : zipKv (names.filter (nameP (Str.ofString "channel"))) vd.toList = kv at hdk hQ
  have hkvs : kv.length ≤ sizeLine := by
    rw [← hkv, sizeLine_eq]
    have := zipKv_len (names.filter (nameP (Str.ofString "channel"))) vd.toList
    omega
  clear F4 N4 hkv
  k_steps
  · rename News g L' _ _ => N6
    obtain ⟨o6, tc, p6, hd6⟩ : ∃ o6 tc, News g L' _ [(D, o6), (dl, listOf vd nd)] ∧ o6.IsDictOf (PySem.strKind prog w) (stored kv (Str.ofString "channel") (.int (Builtin.bitAnd n 15) tc)) := ⟨_, _, N6, by assumption⟩
    rename (128 ≤ n ∧ n ≤ 239) => a
    refine hQ _ _ D tc (ext_of [] hgk hsz hfo (by assumption) N6 (by walk_at "mi_ro")) aD dlo ?_
    rw [if_pos a]
    exact Heap.dictOf_iff.mpr ⟨_, p6.get (.head _), hd6⟩
  · rename News g L' _ _ => N6
    rename ¬ (128 ≤ n ∧ n ≤ 239) => a
    refine hQ _ _ D n.toNat (ext_of [] hgk hsz hfo (by assumption) N6 (by walk_at "mi_ro")) aD dlo ?_
    rw [if_neg a]
    exact Heap.dictOf_iff.mpr ⟨_, N6.get (.head _), hdk⟩
end PartK
theorem restL {M : Model} {A : Around} {s : Shared} {E : Value → Shared → Prop} {env : Env} {Q : Flow → Shared → Prop} (h : Q .next s) : wpAny M A (execs [] env) Q E s := by
  w_top off
  walk1
  w_top off
  exact h
section PartL
local macro_rules | `(tactic| k_steps) => `(tactic| repeat' (first | ((with_reducible show wpAny _ _ (call (Value.ref _) _ _) _ _ _); walk_at "mi_pc") | ((fail_if_success (with_reducible show wpAny _ _ (call (Value.ref _) _ _) _ _ _)); (fail_if_success (with_reducible show wpAny _ _ (exec (Stmt.Raise _ _ _) _) _ _ _)); first | (k_unfold; (try dsimp only)) | (k_end; wrow_close) | walk1 | (dsimp only; walk1) | (leave1; walk_say "STEP leave1"; (try dsimp only)) | fail "no step")))
local macro_rules | `(tactic| k_ne) => `(tactic| first | assumption | exact Ne.symm (by assumption))
local macro_rules | `(tactic| walk_at "call builtin:len") => `(tactic| (k_here; (with_reducible show wpAny _ _ (call (Value.builtin "len") [Value.ref _]) _ _ _); refine PyProof.Rows.len_list (News.isList (by k_asm) (by k_mem)) (by (try simp only [Array.size_push, List.size_toArray]); omega) ?_))
local macro_rules | `(tactic| walk_at "mi_ro") => `(tactic| repeat' (first | exact ro_nil | refine ro_keep (by k_mem) ?_ | refine ro_mut (by simp) ?_))
local macro_rules | `(tactic| walk_at "mi_depth") => `(tactic| ((try simp only [PySem.Around.deeper, PySem.Around.in1_depth]); omega))
local macro_rules | `(tactic| walk_at "mi_pure") => `(tactic| exact hQ _ _ (ext_of [] hgk hsz (fo_nil (base := base)) (by assumption) (by assumption) ro_nil))
local macro_rules | `(tactic| walk_at "mi_steps") => `(tactic| repeat' ((fail_if_success (with_reducible show wpAny _ _ (exec (Stmt.For _ _ _ _ _) _) _ _ _)); first | ((with_reducible show wpAny _ _ (call (Value.ref _) _ _) _ _ _); walk_at "mi_pc") | ((fail_if_success (with_reducible show wpAny _ _ (call (Value.ref _) _ _) _ _ _)); (fail_if_success (with_reducible show wpAny _ _ (exec (Stmt.Raise _ _ _) _) _ _ _)); first | (k_unfold; (try dsimp only)) | (k_end; kc_close) | walk1 | (dsimp only; walk1) | (leave1; walk_say "STEP leave1"; (try dsimp only)) | fail "no step")))
local macro_rules | `(tactic| walk_at "subscriptTail") => `(tactic| (k_here; (with_reducible show wpAny _ _ (subscriptTail _ _ (Value.ref _) (Value.str _ _)) _ _ _); k_dflt (refine' topItem_K ?F ?X ?l ?k ?e ?_; (case F => k_asm); (case X => k_asm); (case l => first | assumption | k_is); (case k => first | assumption | k_keys); (case e => first | assumption | k_is))))
local macro_rules | `(tactic| walk_at "mi_stepsC") => `(tactic| repeat' ((fail_if_success (with_reducible show wpAny _ _ (exec (Stmt.For _ _ _ _ _) _) _ _ _)); (fail_if_success (with_reducible show wpAny _ _ (exec (Stmt.Assign [_] (Expr.ListComp _ _ _ _) _) _) _ _ _)); (fail_if_success (with_reducible show wpAny _ _ (call (Value.type "zip") _) _ _ _)); (fail_if_success (with_reducible show wpAny _ _ (exec (Stmt.Assign [_] (Expr.DictComp _ _ _ _ _) _) _) _ _ _)); first | ((with_reducible show wpAny _ _ (call (Value.ref _) _ _) _ _ _); walk_at "mi_pc") | ((fail_if_success (with_reducible show wpAny _ _ (call (Value.ref _) _ _) _ _ _)); (fail_if_success (with_reducible show wpAny _ _ (exec (Stmt.Raise _ _ _) _) _ _ _)); first | (k_unfold; (try dsimp only)) | (k_end; kc_close) | walk1 | (dsimp only; walk1) | (leave1; walk_say "STEP leave1"; (try dsimp only)) | fail "no step")))
local macro_rules | `(tactic| walk_at "mi_stepsO") => `(tactic| repeat' ((fail_if_success (with_reducible show wpAny _ _ (exec (Stmt.For _ _ _ _ _) _) _ _ _)); (fail_if_success (with_reducible show wpAny _ _ (exec (Stmt.Assign [_] (Expr.ListComp _ _ _ _) _) _) _ _ _)); (fail_if_success (with_reducible show wpAny _ _ (call (Value.type "zip") _) _ _ _)); (fail_if_success (with_reducible show wpAny _ _ (exec (Stmt.Assign [_] (Expr.DictComp _ _ _ _ _) _) _) _ _ _)); first | ((with_reducible show wpAny _ _ (call (Value.ref _) _ _) _ _ _); walk_at "mi_pc") | ((fail_if_success (with_reducible show wpAny _ _ (call (Value.ref _) _ _) _ _ _)); (fail_if_success (with_reducible show wpAny _ _ (exec (Stmt.Raise _ _ _) _) _ _ _)); first | ((with_reducible show wpAny _ _ (execs _ _) _ _ _); exfalso; omega) | (k_unfold; (try dsimp only)) | (k_end; kc_close) | walk1 | (dsimp only; walk1) | (leave1; walk_say "STEP leave1"; (try dsimp only)) | fail "no step")))
theorem c_cdL (dl : Addr) (ns : List Int) (hns : ∀ x ∈ ns, 0 ≤ x ∧ x ≤ 127) (S : Bas w mean mg mb base) (hs : base.StaysIn s.heap) (hA : A.depth + 6 < recursionLimit) (hh : A.handled = none) (hd : IsInts s.heap dl ns) (hb : base.get? dl = none)
   (hQ : ∀ h' tk, Ext [] s.heap h' → Q .none {s with heap := h', toks := tk}) :
   wpAny (model prog w) A (call (.ref 144) [.ref dl]) Q E s := by
  obtain ⟨vd, nd, hd1, hd2⟩ := hd
  have hfo := fo_cons hd1 hb (fo_nil (h := s.heap) (base := base))
  refine enterM (binds := [(Str.ofString "data_bytes", .ref dl)]) _ S hs hfo (by k_is) (by k_is) (by omega) (.of_eq rfl) (locs rfl) ?_
  intro g L' h₁ hg F N X TT hgk hsz hL hgs
  walk1
  walk1
  refine wpAny_For ?_
  walk1
  refine wpAny_pyIter_list (items := vd) ⟨_, N.get (.head _), rfl, _, rfl⟩ ?_
  dsimp only
  generalize hI : h₁.objs.size = I
  have oldI : ∀ {b : Addr} {ob : Obj}, h₁.get? b = some ob → b ≠ I := fun e => old_ne e hI.symm
  have gI : g.get? I = none := by
    cases q : g.get? I with
    | none => rfl
    | some ob => exact absurd rfl (oldI (F.keep _ _ q))
  have LI : L' ≠ I := by
    obtain ⟨oL, _, _, hLo, _⟩ := F.ns
    exact oldI hLo
  have eI : Ext [] h₁ (h₁.push { cls := .type "list_iterator", data := .fields #[.ref dl, .int 0 0] }) := ext_push _ _
  have hit : (h₁.push { cls := .type "list_iterator", data := .fields #[.ref dl, .int 0 0] }).get? I = some { cls := .type "list_iterator", data := .fields #[.ref dl, .int 0 0] } := by
    rw [← hI]; exact Heap.get?_push_size _ rfl
  have dI : dl ≠ I := oldI (N.get (.head _))
  have F3 := frExt F eI (fun h => nomatch h) (fun _ h => nomatch h)
  have N3 := nwExt N eI (fun _ _ h => nomatch h)
  obtain ⟨J, hJ⟩ : ∃ J : Nat → Shared → Prop, ∀ i s', J i s' ↔ (∃ h' tk u ob, s' = {s with heap := h', toks := tk} ∧ Fr g L' h' (fun y => if y = Str.ofString "byte" then u else List.lookup y [(Str.ofString "data_bytes", Value.ref dl)].reverse) ∧
    News g L' h' [(I, ob), (dl, listOf vd nd)] ∧ ob.cls = .type "list_iterator" ∧ ob.data = .fields #[.ref dl, .int i 0]) := ⟨_, fun _ _ => Iff.rfl⟩
  refine loopL (vs := vd) (l := dl) J hh ?_ ?_ ?_ ?_
  · intro i s' h
    obtain ⟨h', tk, u, ob, rfl, F4, N4, c1, c2⟩ := (hJ _ _).mp h
    exact ⟨⟨_, N4.get (.head _), c1, c2⟩, ⟨_, N4.get (.tail _ (.head _)), rfl, _, rfl⟩⟩
  · intro i v s' h' hx h it2 e2
    obtain ⟨h1, tk, u, ob, rfl, F4, N4, c1, c2⟩ := (hJ _ _).mp h
    clear h
    obtain ⟨x, tx, rfl, hxn⟩ := ia_get hd2 hx
    obtain ⟨ob2, it3, c3, c4⟩ := it2
    have F5 := frExt F4 e2 (by simpa using LI) (by simpa using gI)
    have N5 : News g L' h' [(I, ob2), (dl, listOf vd nd)] := nwCons it3 (Ne.symm LI) gI (nwExt (News.tail' N4) e2 (allCons (by simpa using dI) allNil))
    have hx1 := hns x (List.mem_of_getElem? hxn)
    refine stN F5 N5 fun h2 F6 N6 => ?_
    have F7 := frMap F6 map_twice
    clear N F N3 F3 N4 F4 N5 F5 F6
    k_steps
    refine pure_K (D := 2) (fun hs hA hQ => c_chk_data_byte _ _ S hs hA hx1.1 hx1.2 hQ) (by assumption) (by assumption) (by assumption) (by walk_at "mi_depth") ?_; intro h9 tk9 F9 N9; (try dsimp only)
    k_steps
    exact (hJ _ _).mpr ⟨_, _, _, _, rfl, by assumption, by assumption, c3, c4⟩
  · intro s' h' h e2
    obtain ⟨h1, tk, u, ob, rfl, F4, N4, c1, c2⟩ := (hJ _ _).mp h
    have F5 := frExt F4 e2 (by simpa using LI) (by simpa using gI)
    have N5 : News g L' h' [(dl, listOf vd nd)] := nwExt (News.tail' N4) e2 (allCons (by simpa using dI) allNil)
    clear N F N3 F3 N4 F4
    k_steps
    exact hQ _ _ (ext_of [] hgk hsz hfo F5 N5 (by walk_at "mi_ro"))
  · refine (hJ _ _).mpr ⟨_, _, none, _, rfl, frMap F3 fun y => ?_, nwCons hit (Ne.symm LI) gI N3, rfl, rfl⟩
    by_cases hy : y = Str.ofString "byte"
    · subst hy; rfl
    · simp only [if_neg hy]

theorem c_cdT (S : Bas w mean mg mb base) (hs : base.StaysIn s.heap) (hA : A.depth + 6 < recursionLimit) (hh : A.handled = none)
   (hQ : ∀ h' tk, Ext [] s.heap h' → Q .none {s with heap := h', toks := tk}) :
   wpAny (model prog w) A (call (.ref 144) [.ref 102]) Q E s := by
  refine enterM (binds := [(Str.ofString "data_bytes", .ref 102)]) [] S hs fo_nil (by k_is) (by k_is) (by omega) (.of_eq rfl) (locs rfl) ?_
  intro g L' h₁ hg F N X TT hgk hsz hL hgs
  walk1
  walk1
  refine wpAny_For ?_
  walk1
  have v1 : (hd.heap_39 w.params).lookup 102 = some ⟨.type "tuple", none, .seq #[] 0, #[]⟩ := by k_is
  have vn4 : g.get? 102 = some ⟨.type "tuple", none, .seq #[] 0, #[]⟩ := X _ _ v1
  refine wpAny_pyIter_tuple (items := #[]) ⟨_, F.keep _ _ vn4, rfl, _, rfl⟩ ?_
  dsimp only
  generalize hI : h₁.objs.size = I
  have oldI : ∀ {b : Addr} {ob : Obj}, h₁.get? b = some ob → b ≠ I := fun e => old_ne e hI.symm
  have gI : g.get? I = none := by
    cases q : g.get? I with
    | none => rfl
    | some ob => exact absurd rfl (oldI (F.keep _ _ q))
  have LI : L' ≠ I := by
    obtain ⟨oL, _, _, hLo, _⟩ := F.ns
    exact oldI hLo
  have eI : Ext [] h₁ (h₁.push { cls := .type "tuple_iterator", data := .fields #[.ref 102, .int 0 0] }) := ext_push _ _
  have hit : (h₁.push { cls := .type "tuple_iterator", data := .fields #[.ref 102, .int 0 0] }).get? I = some { cls := .type "tuple_iterator", data := .fields #[.ref 102, .int 0 0] } := by
    rw [← hI]; exact Heap.get?_push_size _ rfl
  have F3 := frExt F eI (fun h => nomatch h) (fun _ h => nomatch h)
  refine loopT (vs := #[]) (l := 102) (fun i s' => i = 0 ∧ ∃ tk, s' = {s with heap := (h₁.push { cls := .type "tuple_iterator", data := .fields #[.ref 102, .int 0 0] }), toks := tk}) hh ?_ ?_ ?_ ?_
  · rintro i s' ⟨rfl, tk, rfl⟩
    exact ⟨⟨_, hit, rfl, rfl⟩, ⟨_, F3.keep _ _ vn4, rfl, _, rfl⟩⟩
  · intro i v s' h' hx h
    simp at hx
  · rintro s' h' ⟨_, tk, rfl⟩ e2
    have F5 := frExt F3 e2 (by simpa using LI) (by simpa using gI)
    have N5 : News g L' h' [] := nwNil
    clear F F3 N
    k_steps
    exact hQ _ _ (ext_of [] hgk hsz (fo_nil (base := base)) F5 N5 ro_nil)
  · exact ⟨rfl, _, rfl⟩
theorem c_cv_data (tx : Tok) (S : Bas w mean mg mb base) (hs : base.StaysIn s.heap) (hA : A.depth + 12 < recursionLimit) (hh : A.handled = none)
   (hQ : ∀ h' tk, Ext [] s.heap h' → Q .none {s with heap := h', toks := tk}) :
   wpAny (model prog w) A (call (.ref 179) [.str (Str.ofString "data") tx, .ref 102]) Q E s := by
  refine enterM (binds := [(Str.ofString "name", .str (Str.ofString "data") tx), (Str.ofString "value", .ref 102)]) [] S hs fo_nil (by k_is) (by k_is) (by omega) (.of_eq rfl) (locs rfl) ?_
  intro g L' h₁ hg F N X TT hgk hsz hL hgs
  k_steps
  rename Fr g L' _ _ => F2
  refine c_cdT S (fun b o q => F2.keep b o (hg b o q)) (by walk_at "mi_depth") hh fun h9 tk9 e9 => ?_
  have F9 := frExt F2 e9 (fun h => nomatch h) (fun _ h => nomatch h)
  have N9 : News g L' h9 [] := nwNil
  clear F2
  k_steps
  exact hQ _ _ (ext_of [] hgk hsz (fo_nil (base := base)) (by assumption) (by assumption) ro_nil)
end PartL
theorem restM {M : Model} {A : Around} {s : Shared} {E : Value → Shared → Prop} {env : Env} {Q : Flow → Shared → Prop} (h : Q .next s) : wpAny M A (execs [] env) Q E s := by
  w_top off
  walk1
  w_top off
  exact h
section PartM
local macro_rules | `(tactic| k_steps) => `(tactic| repeat' (first | ((with_reducible show wpAny _ _ (call (Value.ref _) _ _) _ _ _); walk_at "mi_pc") | ((fail_if_success (with_reducible show wpAny _ _ (call (Value.ref _) _ _) _ _ _)); (fail_if_success (with_reducible show wpAny _ _ (exec (Stmt.Raise _ _ _) _) _ _ _)); first | (k_unfold; (try dsimp only)) | (k_end; wrow_close) | walk1 | (dsimp only; walk1) | (leave1; walk_say "STEP leave1"; (try dsimp only)) | fail "no step")))
local macro_rules | `(tactic| k_ne) => `(tactic| first | assumption | exact Ne.symm (by assumption))
local macro_rules | `(tactic| walk_at "call builtin:len") => `(tactic| (k_here; (with_reducible show wpAny _ _ (call (Value.builtin "len") [Value.ref _]) _ _ _); refine PyProof.Rows.len_list (News.isList (by k_asm) (by k_mem)) (by (try simp only [Array.size_push, List.size_toArray]); omega) ?_))
local macro_rules | `(tactic| walk_at "mi_ro") => `(tactic| repeat' (first | exact ro_nil | refine ro_keep (by k_mem) ?_ | refine ro_mut (by simp) ?_))
local macro_rules | `(tactic| walk_at "mi_depth") => `(tactic| ((try simp only [PySem.Around.deeper, PySem.Around.in1_depth]); omega))
local macro_rules | `(tactic| walk_at "mi_pure") => `(tactic| exact hQ _ _ (ext_of [] hgk hsz (fo_nil (base := base)) (by assumption) (by assumption) ro_nil))
local macro_rules | `(tactic| walk_at "mi_steps") => `(tactic| repeat' ((fail_if_success (with_reducible show wpAny _ _ (exec (Stmt.For _ _ _ _ _) _) _ _ _)); first | ((with_reducible show wpAny _ _ (call (Value.ref _) _ _) _ _ _); walk_at "mi_pc") | ((fail_if_success (with_reducible show wpAny _ _ (call (Value.ref _) _ _) _ _ _)); (fail_if_success (with_reducible show wpAny _ _ (exec (Stmt.Raise _ _ _) _) _ _ _)); first | (k_unfold; (try dsimp only)) | (k_end; kc_close) | walk1 | (dsimp only; walk1) | (leave1; walk_say "STEP leave1"; (try dsimp only)) | fail "no step")))
local macro_rules | `(tactic| walk_at "subscriptTail") => `(tactic| (k_here; (with_reducible show wpAny _ _ (subscriptTail _ _ (Value.ref _) (Value.str _ _)) _ _ _); k_dflt (refine' topItem_K ?F ?X ?l ?k ?e ?_; (case F => k_asm); (case X => k_asm); (case l => first | assumption | k_is); (case k => first | assumption | k_keys); (case e => first | assumption | k_is))))
local macro_rules | `(tactic| walk_at "mi_stepsC") => `(tactic| repeat' ((fail_if_success (with_reducible show wpAny _ _ (exec (Stmt.For _ _ _ _ _) _) _ _ _)); (fail_if_success (with_reducible show wpAny _ _ (exec (Stmt.Assign [_] (Expr.ListComp _ _ _ _) _) _) _ _ _)); (fail_if_success (with_reducible show wpAny _ _ (call (Value.type "zip") _) _ _ _)); (fail_if_success (with_reducible show wpAny _ _ (exec (Stmt.Assign [_] (Expr.DictComp _ _ _ _ _) _) _) _ _ _)); first | ((with_reducible show wpAny _ _ (call (Value.ref _) _ _) _ _ _); walk_at "mi_pc") | ((fail_if_success (with_reducible show wpAny _ _ (call (Value.ref _) _ _) _ _ _)); (fail_if_success (with_reducible show wpAny _ _ (exec (Stmt.Raise _ _ _) _) _ _ _)); first | (k_unfold; (try dsimp only)) | (k_end; kc_close) | walk1 | (dsimp only; walk1) | (leave1; walk_say "STEP leave1"; (try dsimp only)) | fail "no step")))
local macro_rules | `(tactic| walk_at "mi_stepsO") => `(tactic| repeat' ((fail_if_success (with_reducible show wpAny _ _ (exec (Stmt.For _ _ _ _ _) _) _ _ _)); (fail_if_success (with_reducible show wpAny _ _ (exec (Stmt.Assign [_] (Expr.ListComp _ _ _ _) _) _) _ _ _)); (fail_if_success (with_reducible show wpAny _ _ (call (Value.type "zip") _) _ _ _)); (fail_if_success (with_reducible show wpAny _ _ (exec (Stmt.Assign [_] (Expr.DictComp _ _ _ _ _) _) _) _ _ _)); first | ((with_reducible show wpAny _ _ (call (Value.ref _) _ _) _ _ _); walk_at "mi_pc") | ((fail_if_success (with_reducible show wpAny _ _ (call (Value.ref _) _ _) _ _ _)); (fail_if_success (with_reducible show wpAny _ _ (exec (Stmt.Raise _ _ _) _) _ _ _)); first | ((with_reducible show wpAny _ _ (execs _ _) _ _ _); exfalso; omega) | (k_unfold; (try dsimp only)) | (k_end; kc_close) | walk1 | (dsimp only; walk1) | (leave1; walk_say "STEP leave1"; (try dsimp only)) | fail "no step")))
theorem ok_int {x : Str} {v : Int} {t : Tok} (S : Bas w mean mg mb base) (h : VInt x v) : OkCV w base x (.int v t) := fun {_ _ _ _ _ tx} hs hA _ hQ => c_cv_int x tx v t S hs (by omega) h hQ
theorem ok_type {ty : Str} {t : Tok} {sp : Addr} (S : Bas w mean mg mb base) (e : nsIn (hd.heap_39 w.params) 29 ty = some (some (.ref sp))) : OkCV w base (Str.ofString "type") (.str ty t) := fun {_ _ _ _ _ tx} hs hA _ hQ => c_cv_type tx ty t sp e S hs (by omega) hQ
theorem ok_data (S : Bas w mean mg mb base) : OkCV w base (Str.ofString "data") (.ref 102) := fun {_ _ _ _ _ tx} hs hA hh hQ => c_cv_data tx S hs (by omega) hh hQ
theorem vint_time (v : Int) : VInt (Str.ofString "time") v := ⟨fun h => absurd h (by decide), fun h => absurd h (by decide), fun h => absurd h (by decide), fun h => absurd h (by decide), fun h => absurd h (by decide), fun h => absurd h (by decide), fun h => absurd h (by decide), fun _ _ _ _ _ h => absurd h (by decide)⟩
/-- the value that a new message holds under a name -/
def dfl (x : Str) : Value := (([(Str.ofString "channel", Value.int 0 625), (Str.ofString "control", Value.int 0 627), (Str.ofString "data", Value.ref 102), (Str.ofString "frame_type", Value.int 0 630), (Str.ofString "frame_value", Value.int 0 632), (Str.ofString "note", Value.int 0 634), (Str.ofString "pitch", Value.int 0 636), (Str.ofString "pos", Value.int 0 638), (Str.ofString "program", Value.int 0 640), (Str.ofString "song", Value.int 0 642), (Str.ofString "value", Value.int 0 644), (Str.ofString "velocity", Value.int 64 646)] : List (Str × Value)).lookup x).getD .none
theorem df_channel {w : World} : nsIn (hd.heap_39 w.params) 101 (Str.ofString "channel") = some (some (dfl (Str.ofString "channel"))) := by
  show _ = some (some (Value.int 0 625))
  k_is
theorem df_control {w : World} : nsIn (hd.heap_39 w.params) 101 (Str.ofString "control") = some (some (dfl (Str.ofString "control"))) := by
  show _ = some (some (Value.int 0 627))
  k_is
theorem df_data {w : World} : nsIn (hd.heap_39 w.params) 101 (Str.ofString "data") = some (some (dfl (Str.ofString "data"))) := by
  show _ = some (some (Value.ref 102))
  k_is
theorem df_frame_type {w : World} : nsIn (hd.heap_39 w.params) 101 (Str.ofString "frame_type") = some (some (dfl (Str.ofString "frame_type"))) := by
  show _ = some (some (Value.int 0 630))
  k_is
theorem df_frame_value {w : World} : nsIn (hd.heap_39 w.params) 101 (Str.ofString "frame_value") = some (some (dfl (Str.ofString "frame_value"))) := by
  show _ = some (some (Value.int 0 632))
  k_is
theorem df_note {w : World} : nsIn (hd.heap_39 w.params) 101 (Str.ofString "note") = some (some (dfl (Str.ofString "note"))) := by
  show _ = some (some (Value.int 0 634))
  k_is
theorem df_pitch {w : World} : nsIn (hd.heap_39 w.params) 101 (Str.ofString "pitch") = some (some (dfl (Str.ofString "pitch"))) := by
  show _ = some (some (Value.int 0 636))
  k_is
theorem df_pos {w : World} : nsIn (hd.heap_39 w.params) 101 (Str.ofString "pos") = some (some (dfl (Str.ofString "pos"))) := by
  show _ = some (some (Value.int 0 638))
  k_is
theorem df_program {w : World} : nsIn (hd.heap_39 w.params) 101 (Str.ofString "program") = some (some (dfl (Str.ofString "program"))) := by
  show _ = some (some (Value.int 0 640))
  k_is
theorem df_song {w : World} : nsIn (hd.heap_39 w.params) 101 (Str.ofString "song") = some (some (dfl (Str.ofString "song"))) := by
  show _ = some (some (Value.int 0 642))
  k_is
theorem df_value {w : World} : nsIn (hd.heap_39 w.params) 101 (Str.ofString "value") = some (some (dfl (Str.ofString "value"))) := by
  show _ = some (some (Value.int 0 644))
  k_is
theorem df_velocity {w : World} : nsIn (hd.heap_39 w.params) 101 (Str.ofString "velocity") = some (some (dfl (Str.ofString "velocity"))) := by
  show _ = some (some (Value.int 64 646))
  k_is
abbrev msg0 (names : List Str) (ty : Str) (tx : Tok) : List (Str × Value) := names.foldl (fun k x => stored k x (dfl x)) [(Str.ofString "type", .str ty tx), (Str.ofString "time", .int 0 648)]
structure MKind (w : World) (base : Heap) (ty : Str) (sp vn an : Addr) (names anames : List Str) : Prop where
  KS : KindS w ty sp vn an names anames
  hdef : ∀ x ∈ names, nsIn (hd.heap_39 w.params) 101 x = some (some (dfl x))
  hnl : names.length < 100
  hok : ∀ tx, ∀ p ∈ msg0 names ty tx, anames.any (· == p.1) = true ∧ OkCV w base p.1 p.2
  htv : ∀ tx, valueAt (msg0 names ty tx) (Str.ofString "type") = some (.str ty tx)
theorem vint_channel {v : Int} (h1 : 0 ≤ v) (h2 : v ≤ 15) : VInt (Str.ofString "channel") v := ⟨fun _ => ⟨h1, h2⟩, fun h => absurd h (by decide), fun h => absurd h (by decide), fun h => absurd h (by decide), fun h => absurd h (by decide), fun h => absurd h (by decide), fun h => absurd h (by decide), fun h _ _ _ _ _ => absurd h (by decide)⟩
theorem vint_control {v : Int} (h1 : 0 ≤ v) (h2 : v ≤ 127) : VInt (Str.ofString "control") v := ⟨fun h => absurd h (by decide), fun h => absurd h (by decide), fun h => absurd h (by decide), fun h => absurd h (by decide), fun h => absurd h (by decide), fun h => absurd h (by decide), fun h => absurd h (by decide), fun _ _ _ _ _ _ => ⟨by decide, h1, h2⟩⟩
theorem vint_frame_type {v : Int} (h1 : 0 ≤ v) (h2 : v ≤ 7) : VInt (Str.ofString "frame_type") v := ⟨fun h => absurd h (by decide), fun h => absurd h (by decide), fun _ => ⟨h1, h2⟩, fun h => absurd h (by decide), fun h => absurd h (by decide), fun h => absurd h (by decide), fun h => absurd h (by decide), fun _ h _ _ _ _ => absurd h (by decide)⟩
theorem vint_frame_value {v : Int} (h1 : 0 ≤ v) (h2 : v ≤ 15) : VInt (Str.ofString "frame_value") v := ⟨fun h => absurd h (by decide), fun h => absurd h (by decide), fun h => absurd h (by decide), fun _ => ⟨h1, h2⟩, fun h => absurd h (by decide), fun h => absurd h (by decide), fun h => absurd h (by decide), fun _ _ h _ _ _ => absurd h (by decide)⟩
theorem vint_note {v : Int} (h1 : 0 ≤ v) (h2 : v ≤ 127) : VInt (Str.ofString "note") v := ⟨fun h => absurd h (by decide), fun h => absurd h (by decide), fun h => absurd h (by decide), fun h => absurd h (by decide), fun h => absurd h (by decide), fun h => absurd h (by decide), fun h => absurd h (by decide), fun _ _ _ _ _ _ => ⟨by decide, h1, h2⟩⟩
theorem vint_pitch {v : Int} (h1 : -8192 ≤ v) (h2 : v ≤ 8191) : VInt (Str.ofString "pitch") v := ⟨fun h => absurd h (by decide), fun h => absurd h (by decide), fun h => absurd h (by decide), fun h => absurd h (by decide), fun _ => ⟨h1, h2⟩, fun h => absurd h (by decide), fun h => absurd h (by decide), fun _ _ _ h _ _ => absurd h (by decide)⟩
theorem vint_pos {v : Int} (h1 : 0 ≤ v) (h2 : v ≤ 16383) : VInt (Str.ofString "pos") v := ⟨fun h => absurd h (by decide), fun h => absurd h (by decide), fun h => absurd h (by decide), fun h => absurd h (by decide), fun h => absurd h (by decide), fun _ => ⟨h1, h2⟩, fun h => absurd h (by decide), fun _ _ _ _ h _ => absurd h (by decide)⟩
theorem vint_program {v : Int} (h1 : 0 ≤ v) (h2 : v ≤ 127) : VInt (Str.ofString "program") v := ⟨fun h => absurd h (by decide), fun h => absurd h (by decide), fun h => absurd h (by decide), fun h => absurd h (by decide), fun h => absurd h (by decide), fun h => absurd h (by decide), fun h => absurd h (by decide), fun _ _ _ _ _ _ => ⟨by decide, h1, h2⟩⟩
theorem vint_song {v : Int} (h1 : 0 ≤ v) (h2 : v ≤ 127) : VInt (Str.ofString "song") v := ⟨fun h => absurd h (by decide), fun h => absurd h (by decide), fun h => absurd h (by decide), fun h => absurd h (by decide), fun h => absurd h (by decide), fun h => absurd h (by decide), fun h => absurd h (by decide), fun _ _ _ _ _ _ => ⟨by decide, h1, h2⟩⟩
theorem vint_value {v : Int} (h1 : 0 ≤ v) (h2 : v ≤ 127) : VInt (Str.ofString "value") v := ⟨fun h => absurd h (by decide), fun h => absurd h (by decide), fun h => absurd h (by decide), fun h => absurd h (by decide), fun h => absurd h (by decide), fun h => absurd h (by decide), fun h => absurd h (by decide), fun _ _ _ _ _ _ => ⟨by decide, h1, h2⟩⟩
theorem vint_velocity {v : Int} (h1 : 0 ≤ v) (h2 : v ≤ 127) : VInt (Str.ofString "velocity") v := ⟨fun h => absurd h (by decide), fun h => absurd h (by decide), fun h => absurd h (by decide), fun h => absurd h (by decide), fun h => absurd h (by decide), fun h => absurd h (by decide), fun h => absurd h (by decide), fun _ _ _ _ _ _ => ⟨by decide, h1, h2⟩⟩
theorem mk_sysex (S : Bas w mean mg mb base) : MKind w base (Str.ofString "sysex") 51 52 53 [Str.ofString "data"] [Str.ofString "data", Str.ofString "type", Str.ofString "time"] where
  KS := ⟨by k_is, ⟨_, _, by k_is, by k_keys⟩, by k_is, by k_is, ⟨_, by k_is, (.cons _ _ .nil)⟩, ⟨_, by k_is, (.cons _ _ (.cons _ _ (.cons _ _ .nil)))⟩⟩
  hdef := (List.forall_mem_cons.mpr ⟨df_data, fun _ h => nomatch h⟩)
  hnl := by decide
  hok := fun tx => by
    have e : msg0 [Str.ofString "data"] (Str.ofString "sysex") tx = [(Str.ofString "type", .str (Str.ofString "sysex") tx), (Str.ofString "time", .int 0 648), (Str.ofString "data", Value.ref 102)] := rfl
    rw [e]
    refine List.forall_mem_cons.mpr ⟨⟨by dsimp only; decide, ok_type (sp := 51) S (by k_is)⟩, ?_⟩
    refine List.forall_mem_cons.mpr ⟨⟨by decide, ok_int S (vint_time _)⟩, ?_⟩
    refine List.forall_mem_cons.mpr ⟨⟨by decide, ok_data S⟩, ?_⟩
    exact fun _ h => nomatch h
  htv := fun tx => rfl
theorem mk_note_on (S : Bas w mean mg mb base) : MKind w base (Str.ofString "note_on") 33 34 35 [Str.ofString "channel", Str.ofString "note", Str.ofString "velocity"] [Str.ofString "channel", Str.ofString "note", Str.ofString "velocity", Str.ofString "type", Str.ofString "time"] where
  KS := ⟨by k_is, ⟨_, _, by k_is, by k_keys⟩, by k_is, by k_is, ⟨_, by k_is, (.cons _ _ (.cons _ _ (.cons _ _ .nil)))⟩, ⟨_, by k_is, (.cons _ _ (.cons _ _ (.cons _ _ (.cons _ _ (.cons _ _ .nil)))))⟩⟩
  hdef := (List.forall_mem_cons.mpr ⟨df_channel, (List.forall_mem_cons.mpr ⟨df_note, (List.forall_mem_cons.mpr ⟨df_velocity, fun _ h => nomatch h⟩)⟩)⟩)
  hnl := by decide
  hok := fun tx => by
    have e : msg0 [Str.ofString "channel", Str.ofString "note", Str.ofString "velocity"] (Str.ofString "note_on") tx = [(Str.ofString "type", .str (Str.ofString "note_on") tx), (Str.ofString "time", .int 0 648), (Str.ofString "channel", Value.int 0 625), (Str.ofString "note", Value.int 0 634), (Str.ofString "velocity", Value.int 64 646)] := rfl
    rw [e]
    refine List.forall_mem_cons.mpr ⟨⟨by dsimp only; decide, ok_type (sp := 33) S (by k_is)⟩, ?_⟩
    refine List.forall_mem_cons.mpr ⟨⟨by decide, ok_int S (vint_time _)⟩, ?_⟩
    refine List.forall_mem_cons.mpr ⟨⟨by decide, ok_int S (vint_channel (by decide) (by decide))⟩, ?_⟩
    refine List.forall_mem_cons.mpr ⟨⟨by decide, ok_int S (vint_note (by decide) (by decide))⟩, ?_⟩
    refine List.forall_mem_cons.mpr ⟨⟨by decide, ok_int S (vint_velocity (by decide) (by decide))⟩, ?_⟩
    exact fun _ h => nomatch h
  htv := fun tx => rfl
theorem mk_control_change (S : Bas w mean mg mb base) : MKind w base (Str.ofString "control_change") 39 40 41 [Str.ofString "channel", Str.ofString "control", Str.ofString "value"] [Str.ofString "channel", Str.ofString "control", Str.ofString "value", Str.ofString "type", Str.ofString "time"] where
  KS := ⟨by k_is, ⟨_, _, by k_is, by k_keys⟩, by k_is, by k_is, ⟨_, by k_is, (.cons _ _ (.cons _ _ (.cons _ _ .nil)))⟩, ⟨_, by k_is, (.cons _ _ (.cons _ _ (.cons _ _ (.cons _ _ (.cons _ _ .nil)))))⟩⟩
  hdef := (List.forall_mem_cons.mpr ⟨df_channel, (List.forall_mem_cons.mpr ⟨df_control, (List.forall_mem_cons.mpr ⟨df_value, fun _ h => nomatch h⟩)⟩)⟩)
  hnl := by decide
  hok := fun tx => by
    have e : msg0 [Str.ofString "channel", Str.ofString "control", Str.ofString "value"] (Str.ofString "control_change") tx = [(Str.ofString "type", .str (Str.ofString "control_change") tx), (Str.ofString "time", .int 0 648), (Str.ofString "channel", Value.int 0 625), (Str.ofString "control", Value.int 0 627), (Str.ofString "value", Value.int 0 644)] := rfl
    rw [e]
    refine List.forall_mem_cons.mpr ⟨⟨by dsimp only; decide, ok_type (sp := 39) S (by k_is)⟩, ?_⟩
    refine List.forall_mem_cons.mpr ⟨⟨by decide, ok_int S (vint_time _)⟩, ?_⟩
    refine List.forall_mem_cons.mpr ⟨⟨by decide, ok_int S (vint_channel (by decide) (by decide))⟩, ?_⟩
    refine List.forall_mem_cons.mpr ⟨⟨by decide, ok_int S (vint_control (by decide) (by decide))⟩, ?_⟩
    refine List.forall_mem_cons.mpr ⟨⟨by decide, ok_int S (vint_value (by decide) (by decide))⟩, ?_⟩
    exact fun _ h => nomatch h
  htv := fun tx => rfl
theorem mk_program_change (S : Bas w mean mg mb base) : MKind w base (Str.ofString "program_change") 42 43 44 [Str.ofString "channel", Str.ofString "program"] [Str.ofString "channel", Str.ofString "program", Str.ofString "type", Str.ofString "time"] where
  KS := ⟨by k_is, ⟨_, _, by k_is, by k_keys⟩, by k_is, by k_is, ⟨_, by k_is, (.cons _ _ (.cons _ _ .nil))⟩, ⟨_, by k_is, (.cons _ _ (.cons _ _ (.cons _ _ (.cons _ _ .nil))))⟩⟩
  hdef := (List.forall_mem_cons.mpr ⟨df_channel, (List.forall_mem_cons.mpr ⟨df_program, fun _ h => nomatch h⟩)⟩)
  hnl := by decide
  hok := fun tx => by
    have e : msg0 [Str.ofString "channel", Str.ofString "program"] (Str.ofString "program_change") tx = [(Str.ofString "type", .str (Str.ofString "program_change") tx), (Str.ofString "time", .int 0 648), (Str.ofString "channel", Value.int 0 625), (Str.ofString "program", Value.int 0 640)] := rfl
    rw [e]
    refine List.forall_mem_cons.mpr ⟨⟨by dsimp only; decide, ok_type (sp := 42) S (by k_is)⟩, ?_⟩
    refine List.forall_mem_cons.mpr ⟨⟨by decide, ok_int S (vint_time _)⟩, ?_⟩
    refine List.forall_mem_cons.mpr ⟨⟨by decide, ok_int S (vint_channel (by decide) (by decide))⟩, ?_⟩
    refine List.forall_mem_cons.mpr ⟨⟨by decide, ok_int S (vint_program (by decide) (by decide))⟩, ?_⟩
    exact fun _ h => nomatch h
  htv := fun tx => rfl
theorem mk_pitchwheel (S : Bas w mean mg mb base) : MKind w base (Str.ofString "pitchwheel") 48 49 50 [Str.ofString "channel", Str.ofString "pitch"] [Str.ofString "channel", Str.ofString "pitch", Str.ofString "type", Str.ofString "time"] where
  KS := ⟨by k_is, ⟨_, _, by k_is, by k_keys⟩, by k_is, by k_is, ⟨_, by k_is, (.cons _ _ (.cons _ _ .nil))⟩, ⟨_, by k_is, (.cons _ _ (.cons _ _ (.cons _ _ (.cons _ _ .nil))))⟩⟩
  hdef := (List.forall_mem_cons.mpr ⟨df_channel, (List.forall_mem_cons.mpr ⟨df_pitch, fun _ h => nomatch h⟩)⟩)
  hnl := by decide
  hok := fun tx => by
    have e : msg0 [Str.ofString "channel", Str.ofString "pitch"] (Str.ofString "pitchwheel") tx = [(Str.ofString "type", .str (Str.ofString "pitchwheel") tx), (Str.ofString "time", .int 0 648), (Str.ofString "channel", Value.int 0 625), (Str.ofString "pitch", Value.int 0 636)] := rfl
    rw [e]
    refine List.forall_mem_cons.mpr ⟨⟨by dsimp only; decide, ok_type (sp := 48) S (by k_is)⟩, ?_⟩
    refine List.forall_mem_cons.mpr ⟨⟨by decide, ok_int S (vint_time _)⟩, ?_⟩
    refine List.forall_mem_cons.mpr ⟨⟨by decide, ok_int S (vint_channel (by decide) (by decide))⟩, ?_⟩
    refine List.forall_mem_cons.mpr ⟨⟨by decide, ok_int S (vint_pitch (by decide) (by decide))⟩, ?_⟩
    exact fun _ h => nomatch h
  htv := fun tx => rfl
theorem mk_quarter_frame (S : Bas w mean mg mb base) : MKind w base (Str.ofString "quarter_frame") 54 55 56 [Str.ofString "frame_type", Str.ofString "frame_value"] [Str.ofString "frame_type", Str.ofString "frame_value", Str.ofString "type", Str.ofString "time"] where
  KS := ⟨by k_is, ⟨_, _, by k_is, by k_keys⟩, by k_is, by k_is, ⟨_, by k_is, (.cons _ _ (.cons _ _ .nil))⟩, ⟨_, by k_is, (.cons _ _ (.cons _ _ (.cons _ _ (.cons _ _ .nil))))⟩⟩
  hdef := (List.forall_mem_cons.mpr ⟨df_frame_type, (List.forall_mem_cons.mpr ⟨df_frame_value, fun _ h => nomatch h⟩)⟩)
  hnl := by decide
  hok := fun tx => by
    have e : msg0 [Str.ofString "frame_type", Str.ofString "frame_value"] (Str.ofString "quarter_frame") tx = [(Str.ofString "type", .str (Str.ofString "quarter_frame") tx), (Str.ofString "time", .int 0 648), (Str.ofString "frame_type", Value.int 0 630), (Str.ofString "frame_value", Value.int 0 632)] := rfl
    rw [e]
    refine List.forall_mem_cons.mpr ⟨⟨by dsimp only; decide, ok_type (sp := 54) S (by k_is)⟩, ?_⟩
    refine List.forall_mem_cons.mpr ⟨⟨by decide, ok_int S (vint_time _)⟩, ?_⟩
    refine List.forall_mem_cons.mpr ⟨⟨by decide, ok_int S (vint_frame_type (by decide) (by decide))⟩, ?_⟩
    refine List.forall_mem_cons.mpr ⟨⟨by decide, ok_int S (vint_frame_value (by decide) (by decide))⟩, ?_⟩
    exact fun _ h => nomatch h
  htv := fun tx => rfl
theorem mk_songpos (S : Bas w mean mg mb base) : MKind w base (Str.ofString "songpos") 57 58 59 [Str.ofString "pos"] [Str.ofString "pos", Str.ofString "type", Str.ofString "time"] where
  KS := ⟨by k_is, ⟨_, _, by k_is, by k_keys⟩, by k_is, by k_is, ⟨_, by k_is, (.cons _ _ .nil)⟩, ⟨_, by k_is, (.cons _ _ (.cons _ _ (.cons _ _ .nil)))⟩⟩
  hdef := (List.forall_mem_cons.mpr ⟨df_pos, fun _ h => nomatch h⟩)
  hnl := by decide
  hok := fun tx => by
    have e : msg0 [Str.ofString "pos"] (Str.ofString "songpos") tx = [(Str.ofString "type", .str (Str.ofString "songpos") tx), (Str.ofString "time", .int 0 648), (Str.ofString "pos", Value.int 0 638)] := rfl
    rw [e]
    refine List.forall_mem_cons.mpr ⟨⟨by dsimp only; decide, ok_type (sp := 57) S (by k_is)⟩, ?_⟩
    refine List.forall_mem_cons.mpr ⟨⟨by decide, ok_int S (vint_time _)⟩, ?_⟩
    refine List.forall_mem_cons.mpr ⟨⟨by decide, ok_int S (vint_pos (by decide) (by decide))⟩, ?_⟩
    exact fun _ h => nomatch h
  htv := fun tx => rfl
theorem mk_song_select (S : Bas w mean mg mb base) : MKind w base (Str.ofString "song_select") 60 61 62 [Str.ofString "song"] [Str.ofString "song", Str.ofString "type", Str.ofString "time"] where
  KS := ⟨by k_is, ⟨_, _, by k_is, by k_keys⟩, by k_is, by k_is, ⟨_, by k_is, (.cons _ _ .nil)⟩, ⟨_, by k_is, (.cons _ _ (.cons _ _ (.cons _ _ .nil)))⟩⟩
  hdef := (List.forall_mem_cons.mpr ⟨df_song, fun _ h => nomatch h⟩)
  hnl := by decide
  hok := fun tx => by
    have e : msg0 [Str.ofString "song"] (Str.ofString "song_select") tx = [(Str.ofString "type", .str (Str.ofString "song_select") tx), (Str.ofString "time", .int 0 648), (Str.ofString "song", Value.int 0 642)] := rfl
    rw [e]
    refine List.forall_mem_cons.mpr ⟨⟨by dsimp only; decide, ok_type (sp := 60) S (by k_is)⟩, ?_⟩
    refine List.forall_mem_cons.mpr ⟨⟨by decide, ok_int S (vint_time _)⟩, ?_⟩
    refine List.forall_mem_cons.mpr ⟨⟨by decide, ok_int S (vint_song (by decide) (by decide))⟩, ?_⟩
    exact fun _ h => nomatch h
  htv := fun tx => rfl
theorem mk_tune_request (S : Bas w mean mg mb base) : MKind w base (Str.ofString "tune_request") 63 64 65 [] [Str.ofString "type", Str.ofString "time"] where
  KS := ⟨by k_is, ⟨_, _, by k_is, by k_keys⟩, by k_is, by k_is, ⟨_, by k_is, .nil⟩, ⟨_, by k_is, (.cons _ _ (.cons _ _ .nil))⟩⟩
  hdef := fun _ h => nomatch h
  hnl := by decide
  hok := fun tx => by
    have e : msg0 [] (Str.ofString "tune_request") tx = [(Str.ofString "type", .str (Str.ofString "tune_request") tx), (Str.ofString "time", .int 0 648)] := rfl
    rw [e]
    refine List.forall_mem_cons.mpr ⟨⟨by dsimp only; decide, ok_type (sp := 63) S (by k_is)⟩, ?_⟩
    refine List.forall_mem_cons.mpr ⟨⟨by decide, ok_int S (vint_time _)⟩, ?_⟩
    exact fun _ h => nomatch h
  htv := fun tx => rfl
theorem mk_clock (S : Bas w mean mg mb base) : MKind w base (Str.ofString "clock") 66 67 68 [] [Str.ofString "type", Str.ofString "time"] where
  KS := ⟨by k_is, ⟨_, _, by k_is, by k_keys⟩, by k_is, by k_is, ⟨_, by k_is, .nil⟩, ⟨_, by k_is, (.cons _ _ (.cons _ _ .nil))⟩⟩
  hdef := fun _ h => nomatch h
  hnl := by decide
  hok := fun tx => by
    have e : msg0 [] (Str.ofString "clock") tx = [(Str.ofString "type", .str (Str.ofString "clock") tx), (Str.ofString "time", .int 0 648)] := rfl
    rw [e]
    refine List.forall_mem_cons.mpr ⟨⟨by dsimp only; decide, ok_type (sp := 66) S (by k_is)⟩, ?_⟩
    refine List.forall_mem_cons.mpr ⟨⟨by decide, ok_int S (vint_time _)⟩, ?_⟩
    exact fun _ h => nomatch h
  htv := fun tx => rfl
theorem mk_start (S : Bas w mean mg mb base) : MKind w base (Str.ofString "start") 69 70 71 [] [Str.ofString "type", Str.ofString "time"] where
  KS := ⟨by k_is, ⟨_, _, by k_is, by k_keys⟩, by k_is, by k_is, ⟨_, by k_is, .nil⟩, ⟨_, by k_is, (.cons _ _ (.cons _ _ .nil))⟩⟩
  hdef := fun _ h => nomatch h
  hnl := by decide
  hok := fun tx => by
    have e : msg0 [] (Str.ofString "start") tx = [(Str.ofString "type", .str (Str.ofString "start") tx), (Str.ofString "time", .int 0 648)] := rfl
    rw [e]
    refine List.forall_mem_cons.mpr ⟨⟨by dsimp only; decide, ok_type (sp := 69) S (by k_is)⟩, ?_⟩
    refine List.forall_mem_cons.mpr ⟨⟨by decide, ok_int S (vint_time _)⟩, ?_⟩
    exact fun _ h => nomatch h
  htv := fun tx => rfl
theorem mk_active_sensing (S : Bas w mean mg mb base) : MKind w base (Str.ofString "active_sensing") 78 79 80 [] [Str.ofString "type", Str.ofString "time"] where
  KS := ⟨by k_is, ⟨_, _, by k_is, by k_keys⟩, by k_is, by k_is, ⟨_, by k_is, .nil⟩, ⟨_, by k_is, (.cons _ _ (.cons _ _ .nil))⟩⟩
  hdef := fun _ h => nomatch h
  hnl := by decide
  hok := fun tx => by
    have e : msg0 [] (Str.ofString "active_sensing") tx = [(Str.ofString "type", .str (Str.ofString "active_sensing") tx), (Str.ofString "time", .int 0 648)] := rfl
    rw [e]
    refine List.forall_mem_cons.mpr ⟨⟨by dsimp only; decide, ok_type (sp := 78) S (by k_is)⟩, ?_⟩
    refine List.forall_mem_cons.mpr ⟨⟨by decide, ok_int S (vint_time _)⟩, ?_⟩
    exact fun _ h => nomatch h
  htv := fun tx => rfl
theorem mk_reset (S : Bas w mean mg mb base) : MKind w base (Str.ofString "reset") 82 83 84 [] [Str.ofString "type", Str.ofString "time"] where
  KS := ⟨by k_is, ⟨_, _, by k_is, by k_keys⟩, by k_is, by k_is, ⟨_, by k_is, .nil⟩, ⟨_, by k_is, (.cons _ _ (.cons _ _ .nil))⟩⟩
  hdef := fun _ h => nomatch h
  hnl := by decide
  hok := fun tx => by
    have e : msg0 [] (Str.ofString "reset") tx = [(Str.ofString "type", .str (Str.ofString "reset") tx), (Str.ofString "time", .int 0 648)] := rfl
    rw [e]
    refine List.forall_mem_cons.mpr ⟨⟨by dsimp only; decide, ok_type (sp := 82) S (by k_is)⟩, ?_⟩
    refine List.forall_mem_cons.mpr ⟨⟨by decide, ok_int S (vint_time _)⟩, ?_⟩
    exact fun _ h => nomatch h
  htv := fun tx => rfl
end PartM
theorem restN {M : Model} {A : Around} {s : Shared} {E : Value → Shared → Prop} {env : Env} {Q : Flow → Shared → Prop} (h : Q .next s) : wpAny M A (execs [] env) Q E s := by
  w_top off
  walk1
  w_top off
  exact h
section PartN
local macro_rules | `(tactic| k_steps) => `(tactic| repeat' (first | ((with_reducible show wpAny _ _ (call (Value.ref _) _ _) _ _ _); walk_at "mi_pc") | ((fail_if_success (with_reducible show wpAny _ _ (call (Value.ref _) _ _) _ _ _)); (fail_if_success (with_reducible show wpAny _ _ (exec (Stmt.Raise _ _ _) _) _ _ _)); first | (k_unfold; (try dsimp only)) | (k_end; wrow_close) | walk1 | (dsimp only; walk1) | (leave1; walk_say "STEP leave1"; (try dsimp only)) | fail "no step")))
local macro_rules | `(tactic| k_ne) => `(tactic| first | assumption | exact Ne.symm (by assumption))
local macro_rules | `(tactic| walk_at "call builtin:len") => `(tactic| (k_here; (with_reducible show wpAny _ _ (call (Value.builtin "len") [Value.ref _]) _ _ _); refine PyProof.Rows.len_list (News.isList (by k_asm) (by k_mem)) (by (try simp only [Array.size_push, List.size_toArray]); omega) ?_))
local macro_rules | `(tactic| walk_at "mi_ro") => `(tactic| repeat' (first | exact ro_nil | refine ro_keep (by k_mem) ?_ | refine ro_mut (by simp) ?_))
local macro_rules | `(tactic| walk_at "mi_depth") => `(tactic| ((try simp only [PySem.Around.deeper, PySem.Around.in1_depth]); omega))
local macro_rules | `(tactic| walk_at "mi_pure") => `(tactic| exact hQ _ _ (ext_of [] hgk hsz (fo_nil (base := base)) (by assumption) (by assumption) ro_nil))
local macro_rules | `(tactic| walk_at "mi_steps") => `(tactic| repeat' ((fail_if_success (with_reducible show wpAny _ _ (exec (Stmt.For _ _ _ _ _) _) _ _ _)); first | ((with_reducible show wpAny _ _ (call (Value.ref _) _ _) _ _ _); walk_at "mi_pc") | ((fail_if_success (with_reducible show wpAny _ _ (call (Value.ref _) _ _) _ _ _)); (fail_if_success (with_reducible show wpAny _ _ (exec (Stmt.Raise _ _ _) _) _ _ _)); first | (k_unfold; (try dsimp only)) | (k_end; kc_close) | walk1 | (dsimp only; walk1) | (leave1; walk_say "STEP leave1"; (try dsimp only)) | fail "no step")))
local macro_rules | `(tactic| walk_at "subscriptTail") => `(tactic| (k_here; (with_reducible show wpAny _ _ (subscriptTail _ _ (Value.ref _) (Value.str _ _)) _ _ _); k_dflt (refine' topItem_K ?F ?X ?l ?k ?e ?_; (case F => k_asm); (case X => k_asm); (case l => first | assumption | k_is); (case k => first | assumption | k_keys); (case e => first | assumption | k_is))))
local macro_rules | `(tactic| walk_at "mi_stepsC") => `(tactic| repeat' ((fail_if_success (with_reducible show wpAny _ _ (exec (Stmt.For _ _ _ _ _) _) _ _ _)); (fail_if_success (with_reducible show wpAny _ _ (exec (Stmt.Assign [_] (Expr.ListComp _ _ _ _) _) _) _ _ _)); (fail_if_success (with_reducible show wpAny _ _ (call (Value.type "zip") _) _ _ _)); (fail_if_success (with_reducible show wpAny _ _ (exec (Stmt.Assign [_] (Expr.DictComp _ _ _ _ _) _) _) _ _ _)); first | ((with_reducible show wpAny _ _ (call (Value.ref _) _ _) _ _ _); walk_at "mi_pc") | ((fail_if_success (with_reducible show wpAny _ _ (call (Value.ref _) _ _) _ _ _)); (fail_if_success (with_reducible show wpAny _ _ (exec (Stmt.Raise _ _ _) _) _ _ _)); first | (k_unfold; (try dsimp only)) | (k_end; kc_close) | walk1 | (dsimp only; walk1) | (leave1; walk_say "STEP leave1"; (try dsimp only)) | fail "no step")))
local macro_rules | `(tactic| walk_at "mi_stepsO") => `(tactic| repeat' ((fail_if_success (with_reducible show wpAny _ _ (exec (Stmt.For _ _ _ _ _) _) _ _ _)); (fail_if_success (with_reducible show wpAny _ _ (exec (Stmt.Assign [_] (Expr.ListComp _ _ _ _) _) _) _ _ _)); (fail_if_success (with_reducible show wpAny _ _ (call (Value.type "zip") _) _ _ _)); (fail_if_success (with_reducible show wpAny _ _ (exec (Stmt.Assign [_] (Expr.DictComp _ _ _ _ _) _) _) _ _ _)); first | ((with_reducible show wpAny _ _ (call (Value.ref _) _ _) _ _ _); walk_at "mi_pc") | ((fail_if_success (with_reducible show wpAny _ _ (call (Value.ref _) _ _) _ _ _)); (fail_if_success (with_reducible show wpAny _ _ (exec (Stmt.Raise _ _ _) _) _ _ _)); first | ((with_reducible show wpAny _ _ (execs _ _) _ _ _); exfalso; omega) | (k_unfold; (try dsimp only)) | (k_end; kc_close) | walk1 | (dsimp only; walk1) | (leave1; walk_say "STEP leave1"; (try dsimp only)) | fail "no step")))
local macro_rules | `(tactic| walk_at "getMethod ref") => `(tactic| (k_here; (with_reducible show wpAny _ _ (getMethod (Value.ref _) (Str.ofString "pop") _) _ _ _); k_dflt (refine' kda_method (knd := PySem.strKind _ _) ?N ?p isDict_nil PySem.F.slot_dict_pop PySem.F.type_dict_pop ?_; (case N => k_asm); (case p => k_mem))))
local macro_rules | `(tactic| walk_at "call builtin:dict.pop") => `(tactic| (k_here; k_dflt (refine' pop_dflt (kvs := []) ?N ?p isDict_nil ?l rfl ?_; (case N => k_asm); (case p => k_mem); (case l => assumption))))
local macro_rules | `(tactic| walk_at "subscriptTail") => `(tactic| (k_here; (with_reducible show wpAny _ _ (subscriptTail _ _ (Value.ref _) (Value.str _ _)) _ _ _); k_dflt (refine kda_item (knd := PySem.strKind _ _) (by k_asm) (by k_mem) (by assumption) (strKind_is _ _ _ _) (by first | assumption | rfl) ?_)))
local macro_rules | `(tactic| walk_at "setItem ref str") => `(tactic| (k_here; k_dflt (refine' kda_set (knd := PySem.strKind _ _) ?F ?N ?U ?d (strKind_is _ _ _ _) ?z ?_; (case F => k_asm); (case N => k_asm); (case U => k_updF); (case d => assumption); (case z => first | assumption | decide)); intro h' o' F' N' hd'; (try dsimp only at N')))

theorem c_init_sx {R : Result → Shared → Prop} (tx : Tok) (S : Bas w mean mg mb base) (hs : base.StaysIn s.heap) (x dx : Addr) (hA : A.depth + 24 < recursionLimit) (hh : A.handled = none)
   (hx : s.heap.get? x = some (instObj 455 dx)) (hdx : s.heap.get? dx = some (dictOf [] 0)) (bx : base.get? x = none) (bdx : base.get? dx = none)
   (hR : ∀ h' tk hf tf d, Ext [dx] s.heap h' → h'.get? dx = some (dictOf [⟨hf, .str (Str.ofString "fields") tf, .ref d⟩] 1) → R (.ok (.ret .none)) {s with heap := h', toks := tk}) :
   codeAny (model prog w) A (.call (.ref 394) ⟨[.ref x, .str (Str.ofString "sysex") tx], []⟩) R s := by
  have Xs : (hd.heap_39 w.params).In s.heap := S.X.keeps hs
  have hfo := fo_cons hx bx (fo_cons hdx bdx (fo_nil (h := s.heap) (base := base)))
  refine enterKw (binds := fun D => [(Str.ofString "self", .ref x), (Str.ofString "kind", .str (Str.ofString "sysex") tx), (Str.ofString "skip_checks", .bool false), (Str.ofString "args", .ref D)]) _ S hs hfo (by k_is) (by k_is) (by omega) ?bnd (fun D => locs rfl) ?_
  case bnd =>
    intro A1 E1 Q1 hq1
    refine' binds_kw (binds := fun D => [(Str.ofString "self", .ref x), (Str.ofString "kind", .str (Str.ofString "sysex") tx), (Str.ofString "skip_checks", .bool false), (Str.ofString "args", .ref D)]) (T := 387) Xs ?d ?l ?h1 ?h2 A1 E1 Q1 hq1
    case d => exact rfl
    case l => k_is
    case h1 => exact rfl
    case h2 => first | exact rfl | skip
  intro D g L' h₁ hg F N X TT hgk hDlo hDa hLa hDL hlt hgs hbD
  k_steps
  refine c_mmd (Str.ofString "sysex") 51 52 53 _ _ (mk_sysex S).KS dfl (mk_sysex S).hdef (mk_sysex S).hnl tx D (dictOf [] 0) isDict_nil hDlo S (fun b o q => by rename Fr g L' _ _ => F2; exact F2.keep b o (hg b o q)) (by walk_at "mi_depth") hh (by rename News g L' _ _ => N2; exact fo_cons (N2.get (.head _)) hbD fo_nil) fun h5 tk5 d e5 ad dlo hd5 => ?_
  have e : msg0 [Str.ofString "data"] (Str.ofString "sysex") tx = [(Str.ofString "type", .str (Str.ofString "sysex") tx), (Str.ofString "time", .int 0 648), (Str.ofString "data", Value.ref 102)] := rfl
  rw [show List.foldl _ _ _ = _ from e] at hd5
  rename Fr g L' _ _ => F2
  rename News g L' _ _ => N2
  have F3 := frExt F2 e5 (fun h => nomatch h) (fun _ h => nomatch h)
  obtain ⟨od, hod, hdk⟩ := Heap.dictOf_iff.mp hd5
  have dL : d ≠ L' := fun q => by
    obtain ⟨oL, _, _, hLo, _⟩ := F2.ns
    exact ad.ne hLo q
  have gd : g.get? d = none := by
    cases q : g.get? d with
    | none => rfl
    | some o => exact absurd rfl (ad.ne (F2.keep _ _ q))
  have ddx : d ≠ dx := After.ne (o := dictOf [] 0) ad (N2.get (by simp))
  have dxx : d ≠ x := ad.ne (N2.get (.tail _ (.head _)))
  have dD : d ≠ D := ad.ne (N2.get (.head _))
  have Ddx : D ≠ dx := hDa.ne hdx
  have xdx : x ≠ dx := fun q => by rw [q, hdx] at hx; cases hx
  have N3 := nwCons hod dL gd (nwExt N2 e5 (fun _ _ h => nomatch h))
  have ad2 : base.get? d = none := ad.base fun b o q => F2.keep b o (hg b o q)
  clear F2 N2
  k_steps
  have v1 : (hd.heap_39 w.params).lookup 102 = some ⟨.type "tuple", none, .seq #[] 0, #[]⟩ := by k_is
  rename Fr g L' _ _ => F2
  refine call_tuple_same (items := #[]) ⟨_, F2.keep _ _ (X _ _ v1), rfl, _, rfl⟩ ?_
  have hsz3 : [(Str.ofString "type", Value.str (Str.ofString "sysex") tx), (Str.ofString "time", Value.int 0 648), (Str.ofString "data", Value.ref 102)].length ≤ sizeLine := by rw [sizeLine_eq]; simp
  k_steps
  rename Fr g L' _ _ => F3
  rename News g L' _ _ => N3
  have key : ∃ o', News g L' _ [(d, o'), (D, dictOf [] 0), (x, instObj 455 dx), (dx, dictOf [] 0)] ∧ o'.IsDictOf (PySem.strKind prog w) [(Str.ofString "type", .str (Str.ofString "sysex") tx), (Str.ofString "time", .int 0 648), (Str.ofString "data", Value.ref 102)] := ⟨_, N3, by assumption⟩
  obtain ⟨od', N3', hdk'⟩ := key
  have hok' := (mk_sysex S).hok tx
  rw [e] at hok'
  refine c_cm (Str.ofString "sysex") tx 51 52 53 _ _ (mk_sysex S).KS d [(Str.ofString "type", .str (Str.ofString "sysex") tx), (Str.ofString "time", .int 0 648), (Str.ofString "data", Value.ref 102)] rfl hok' dlo S (fun b o q => F3.keep b o (hg b o q)) (by walk_at "mi_depth") hh ?hd ad2 fun h6 tk6 e6 => ?_
  case hd => exact Heap.dictOf_iff.mpr ⟨_, N3'.get (.head _), hdk'⟩
  have F4 := frExt F3 e6 (fun h => nomatch h) (fun _ h => nomatch h)
  have N4 := nwExt N3' e6 (fun _ _ h => nomatch h)
  clear F3 N3 N3'
  k_steps
  rename News g L' _ _ => N5
  exact hR _ _ _ _ d (ext_of' [dx] hgk hfo (by assumption) N5 (by walk_at "mi_ro")) (N5.get (.tail _ (.tail _ (.tail _ (.head _)))))
end PartN
theorem restO {M : Model} {A : Around} {s : Shared} {E : Value → Shared → Prop} {env : Env} {Q : Flow → Shared → Prop} (h : Q .next s) : wpAny M A (execs [] env) Q E s := by
  w_top off
  walk1
  w_top off
  exact h
section PartO
local macro_rules | `(tactic| k_steps) => `(tactic| repeat' (first | ((with_reducible show wpAny _ _ (call (Value.ref _) _ _) _ _ _); walk_at "mi_pc") | ((fail_if_success (with_reducible show wpAny _ _ (call (Value.ref _) _ _) _ _ _)); (fail_if_success (with_reducible show wpAny _ _ (exec (Stmt.Raise _ _ _) _) _ _ _)); first | (k_unfold; (try dsimp only)) | (k_end; wrow_close) | walk1 | (dsimp only; walk1) | (leave1; walk_say "STEP leave1"; (try dsimp only)) | fail "no step")))
local macro_rules | `(tactic| k_ne) => `(tactic| first | assumption | exact Ne.symm (by assumption))
local macro_rules | `(tactic| walk_at "call builtin:len") => `(tactic| (k_here; (with_reducible show wpAny _ _ (call (Value.builtin "len") [Value.ref _]) _ _ _); refine PyProof.Rows.len_list (News.isList (by k_asm) (by k_mem)) (by (try simp only [Array.size_push, List.size_toArray]); omega) ?_))
local macro_rules | `(tactic| walk_at "mi_ro") => `(tactic| repeat' (first | exact ro_nil | refine ro_keep (by k_mem) ?_ | refine ro_mut (by simp) ?_))
local macro_rules | `(tactic| walk_at "mi_depth") => `(tactic| ((try simp only [PySem.Around.deeper, PySem.Around.in1_depth]); omega))
local macro_rules | `(tactic| walk_at "mi_pure") => `(tactic| exact hQ _ _ (ext_of [] hgk hsz (fo_nil (base := base)) (by assumption) (by assumption) ro_nil))
local macro_rules | `(tactic| walk_at "mi_steps") => `(tactic| repeat' ((fail_if_success (with_reducible show wpAny _ _ (exec (Stmt.For _ _ _ _ _) _) _ _ _)); first | ((with_reducible show wpAny _ _ (call (Value.ref _) _ _) _ _ _); walk_at "mi_pc") | ((fail_if_success (with_reducible show wpAny _ _ (call (Value.ref _) _ _) _ _ _)); (fail_if_success (with_reducible show wpAny _ _ (exec (Stmt.Raise _ _ _) _) _ _ _)); first | (k_unfold; (try dsimp only)) | (k_end; kc_close) | walk1 | (dsimp only; walk1) | (leave1; walk_say "STEP leave1"; (try dsimp only)) | fail "no step")))
local macro_rules | `(tactic| walk_at "subscriptTail") => `(tactic| (k_here; (with_reducible show wpAny _ _ (subscriptTail _ _ (Value.ref _) (Value.str _ _)) _ _ _); k_dflt (refine' topItem_K ?F ?X ?l ?k ?e ?_; (case F => k_asm); (case X => k_asm); (case l => first | assumption | k_is); (case k => first | assumption | k_keys); (case e => first | assumption | k_is))))
local macro_rules | `(tactic| walk_at "mi_stepsC") => `(tactic| repeat' ((fail_if_success (with_reducible show wpAny _ _ (exec (Stmt.For _ _ _ _ _) _) _ _ _)); (fail_if_success (with_reducible show wpAny _ _ (exec (Stmt.Assign [_] (Expr.ListComp _ _ _ _) _) _) _ _ _)); (fail_if_success (with_reducible show wpAny _ _ (call (Value.type "zip") _) _ _ _)); (fail_if_success (with_reducible show wpAny _ _ (exec (Stmt.Assign [_] (Expr.DictComp _ _ _ _ _) _) _) _ _ _)); first | ((with_reducible show wpAny _ _ (call (Value.ref _) _ _) _ _ _); walk_at "mi_pc") | ((fail_if_success (with_reducible show wpAny _ _ (call (Value.ref _) _ _) _ _ _)); (fail_if_success (with_reducible show wpAny _ _ (exec (Stmt.Raise _ _ _) _) _ _ _)); first | (k_unfold; (try dsimp only)) | (k_end; kc_close) | walk1 | (dsimp only; walk1) | (leave1; walk_say "STEP leave1"; (try dsimp only)) | fail "no step")))
local macro_rules | `(tactic| walk_at "mi_stepsO") => `(tactic| repeat' ((fail_if_success (with_reducible show wpAny _ _ (exec (Stmt.For _ _ _ _ _) _) _ _ _)); (fail_if_success (with_reducible show wpAny _ _ (exec (Stmt.Assign [_] (Expr.ListComp _ _ _ _) _) _) _ _ _)); (fail_if_success (with_reducible show wpAny _ _ (call (Value.type "zip") _) _ _ _)); (fail_if_success (with_reducible show wpAny _ _ (exec (Stmt.Assign [_] (Expr.DictComp _ _ _ _ _) _) _) _ _ _)); first | ((with_reducible show wpAny _ _ (call (Value.ref _) _ _) _ _ _); walk_at "mi_pc") | ((fail_if_success (with_reducible show wpAny _ _ (call (Value.ref _) _ _) _ _ _)); (fail_if_success (with_reducible show wpAny _ _ (exec (Stmt.Raise _ _ _) _) _ _ _)); first | ((with_reducible show wpAny _ _ (execs _ _) _ _ _); exfalso; omega) | (k_unfold; (try dsimp only)) | (k_end; kc_close) | walk1 | (dsimp only; walk1) | (leave1; walk_say "STEP leave1"; (try dsimp only)) | fail "no step")))
/-- a call of the class Message with this type gives a message -/
def MakesMsg (w : World) (base : Heap) (ty : Str) : Prop := ∀ {prog : Program} {A : Around} {s : Shared} {Q E : Value → Shared → Prop} (tx : Tok), base.StaysIn s.heap → A.depth + 26 < recursionLimit → A.handled = none →
  (∀ h' tk x dx hf tf d0, Ext [] s.heap h' → After s.heap x → After s.heap dx → x ≠ dx → h'.get? x = some (instObj 455 dx) → h'.get? dx = some (dictOf [⟨hf, .str (Str.ofString "fields") tf, .ref d0⟩] 1) → Q (.ref x) {s with heap := h', toks := tk}) →
  wpAny (model prog w) A (call (.ref 455) [.str ty tx]) Q E s
theorem makes_core (ty : Str) (S : Bas w mean mg mb base)
   (C : ∀ {prog : Program} {A : Around} {s : Shared} {R : Result → Shared → Prop} (tx : Tok) (x dx : Addr), base.StaysIn s.heap → A.depth + 24 < recursionLimit → A.handled = none → s.heap.get? x = some (instObj 455 dx) → s.heap.get? dx = some (dictOf [] 0) → base.get? x = none → base.get? dx = none →
      (∀ h' tk hf tf d, Ext [dx] s.heap h' → h'.get? dx = some (dictOf [⟨hf, .str (Str.ofString "fields") tf, .ref d⟩] 1) → R (.ok (.ret .none)) {s with heap := h', toks := tk}) →
      codeAny (model prog w) A (.call (.ref 394) ⟨[.ref x, .str ty tx], []⟩) R s) : MakesMsg w base ty := by
  intro prog A s Q E tx hs hA hh hQ
  have Xs : (hd.heap_39 w.params).In s.heap := S.X.keeps hs
  obtain ⟨hp, gs, dr, tk, os⟩ := s
  have e1 : makesIn (hd.heap_39 w.params) 455 = true := by k_is
  have e2 : findIn (hd.heap_39 w.params) (.ref 455) "__init__" = some (some (.ref 394)) := by k_is
  have e3 : typeIn (hd.heap_39 w.params) (.ref 394) = some (.type "function") := by k_is
  refine wpAny_call (make_core (makes_of Xs e1) (looks_findIn Xs e2) (fun self => bind_fn Xs self e3) (.inl rfl) ?_)
  have hz : (hp.push emptyDict).objs.size = hp.objs.size + 1 := Heap.size_push ..
  have up : ∀ {b : Addr} {o : Obj}, hp.get? b = some o → ((hp.push emptyDict).push (instObj 455 hp.objs.size)).get? b = some o := fun e => Heap.get?_push_of_some _ (Heap.get?_push_of_some _ e)
  have f1 : After hp hp.objs.size := by
    unfold After
    cases q : hp.get? hp.objs.size with
    | none => rfl
    | some o => exact absurd (Heap.lt_size q) (Nat.lt_irrefl _)
  have f2 : After hp (hp.objs.size + 1) := by
    unfold After
    cases q : hp.get? (hp.objs.size + 1) with
    | none => rfl
    | some o => exact absurd (Heap.lt_size q) (Nat.not_lt.mpr (Nat.le_succ _))
  have gx : ((hp.push emptyDict).push (instObj 455 hp.objs.size)).get? (hp.objs.size + 1) = some (instObj 455 hp.objs.size) := hz ▸ Heap.get?_push_size _ rfl
  refine C tx _ hp.objs.size (fun b o e => up (hs b o e)) (by show A.depth + 1 + 24 < recursionLimit; omega) hh gx (Heap.get?_push_of_some _ (Heap.get?_push_size _ rfl)) (f2.base hs) (f1.base hs) fun h' tk' hf tf d0 e g5 => ?_
  have nn : hp.objs.size + 1 ≠ hp.objs.size := Nat.succ_ne_self _
  exact ⟨rfl, hQ h' tk' _ _ hf tf d0 (fun b o _ q => e b o (by simpa using (f1.ne q).symm) (up q)) f2 f1 nn (e _ _ (by simp) gx) g5⟩
theorem makes_kind {ty : Str} {sp vn an : Addr} {names anames : List Str} (S : Bas w mean mg mb base) (M : MKind w base ty sp vn an names anames) (hty : (ty == Str.ofString "sysex") = false) : MakesMsg w base ty :=
  makes_core ty S fun tx x dx hs hA hh hx hdx bx bdx hR => c_init ty hty sp vn an names anames M.KS dfl M.hdef M.hnl tx (M.hok tx) (M.htv tx) S hs x dx hA hh hx hdx bx bdx hR
theorem makes_sysex (S : Bas w mean mg mb base) : MakesMsg w base (Str.ofString "sysex") :=
  makes_core _ S fun tx x dx hs hA hh hx hdx bx bdx hR => c_init_sx tx S hs x dx hA hh hx hdx bx bdx hR
end PartO
theorem restP {M : Model} {A : Around} {s : Shared} {E : Value → Shared → Prop} {env : Env} {Q : Flow → Shared → Prop} (h : Q .next s) : wpAny M A (execs [] env) Q E s := by
  w_top off
  walk1
  w_top off
  exact h
section PartP
local macro_rules | `(tactic| k_steps) => `(tactic| repeat' (first | ((with_reducible show wpAny _ _ (call (Value.ref _) _ _) _ _ _); walk_at "mi_pc") | ((fail_if_success (with_reducible show wpAny _ _ (call (Value.ref _) _ _) _ _ _)); (fail_if_success (with_reducible show wpAny _ _ (exec (Stmt.Raise _ _ _) _) _ _ _)); first | (k_unfold; (try dsimp only)) | (k_end; wrow_close) | walk1 | (dsimp only; walk1) | (leave1; walk_say "STEP leave1"; (try dsimp only)) | fail "no step")))
local macro_rules | `(tactic| k_ne) => `(tactic| first | assumption | exact Ne.symm (by assumption))
local macro_rules | `(tactic| walk_at "call builtin:len") => `(tactic| (k_here; (with_reducible show wpAny _ _ (call (Value.builtin "len") [Value.ref _]) _ _ _); refine PyProof.Rows.len_list (News.isList (by k_asm) (by k_mem)) (by (try simp only [Array.size_push, List.size_toArray]); omega) ?_))
local macro_rules | `(tactic| walk_at "mi_ro") => `(tactic| repeat' (first | exact ro_nil | refine ro_keep (by k_mem) ?_ | refine ro_mut (by simp) ?_))
local macro_rules | `(tactic| walk_at "mi_depth") => `(tactic| ((try simp only [PySem.Around.deeper, PySem.Around.in1_depth]); omega))
local macro_rules | `(tactic| walk_at "mi_pure") => `(tactic| exact hQ _ _ (ext_of [] hgk hsz (fo_nil (base := base)) (by assumption) (by assumption) ro_nil))
local macro_rules | `(tactic| walk_at "mi_steps") => `(tactic| repeat' ((fail_if_success (with_reducible show wpAny _ _ (exec (Stmt.For _ _ _ _ _) _) _ _ _)); first | ((with_reducible show wpAny _ _ (call (Value.ref _) _ _) _ _ _); walk_at "mi_pc") | ((fail_if_success (with_reducible show wpAny _ _ (call (Value.ref _) _ _) _ _ _)); (fail_if_success (with_reducible show wpAny _ _ (exec (Stmt.Raise _ _ _) _) _ _ _)); first | (k_unfold; (try dsimp only)) | (k_end; kc_close) | walk1 | (dsimp only; walk1) | (leave1; walk_say "STEP leave1"; (try dsimp only)) | fail "no step")))
local macro_rules | `(tactic| walk_at "subscriptTail") => `(tactic| (k_here; (with_reducible show wpAny _ _ (subscriptTail _ _ (Value.ref _) (Value.str _ _)) _ _ _); k_dflt (refine' topItem_K ?F ?X ?l ?k ?e ?_; (case F => k_asm); (case X => k_asm); (case l => first | assumption | k_is); (case k => first | assumption | k_keys); (case e => first | assumption | k_is))))
local macro_rules | `(tactic| walk_at "mi_stepsC") => `(tactic| repeat' ((fail_if_success (with_reducible show wpAny _ _ (exec (Stmt.For _ _ _ _ _) _) _ _ _)); (fail_if_success (with_reducible show wpAny _ _ (exec (Stmt.Assign [_] (Expr.ListComp _ _ _ _) _) _) _ _ _)); (fail_if_success (with_reducible show wpAny _ _ (call (Value.type "zip") _) _ _ _)); (fail_if_success (with_reducible show wpAny _ _ (exec (Stmt.Assign [_] (Expr.DictComp _ _ _ _ _) _) _) _ _ _)); first | ((with_reducible show wpAny _ _ (call (Value.ref _) _ _) _ _ _); walk_at "mi_pc") | ((fail_if_success (with_reducible show wpAny _ _ (call (Value.ref _) _ _) _ _ _)); (fail_if_success (with_reducible show wpAny _ _ (exec (Stmt.Raise _ _ _) _) _ _ _)); first | (k_unfold; (try dsimp only)) | (k_end; kc_close) | walk1 | (dsimp only; walk1) | (leave1; walk_say "STEP leave1"; (try dsimp only)) | fail "no step")))
local macro_rules | `(tactic| walk_at "mi_stepsO") => `(tactic| repeat' ((fail_if_success (with_reducible show wpAny _ _ (exec (Stmt.For _ _ _ _ _) _) _ _ _)); (fail_if_success (with_reducible show wpAny _ _ (exec (Stmt.Assign [_] (Expr.ListComp _ _ _ _) _) _) _ _ _)); (fail_if_success (with_reducible show wpAny _ _ (call (Value.type "zip") _) _ _ _)); (fail_if_success (with_reducible show wpAny _ _ (exec (Stmt.Assign [_] (Expr.DictComp _ _ _ _ _) _) _) _ _ _)); first | ((with_reducible show wpAny _ _ (call (Value.ref _) _ _) _ _ _); walk_at "mi_pc") | ((fail_if_success (with_reducible show wpAny _ _ (call (Value.ref _) _ _) _ _ _)); (fail_if_success (with_reducible show wpAny _ _ (exec (Stmt.Raise _ _ _) _) _ _ _)); first | ((with_reducible show wpAny _ _ (execs _ _) _ _ _); exfalso; omega) | (k_unfold; (try dsimp only)) | (k_end; kc_close) | walk1 | (dsimp only; walk1) | (leave1; walk_say "STEP leave1"; (try dsimp only)) | fail "no step")))
/-- spec_of_status gives sp at o -/
def SpecIs (w : World) (base : Heap) (o : Int) (sp : Addr) : Prop := ∀ {prog : Program} {A : Around} {s : Shared} {Q E : Value → Shared → Prop} {to : Tok}, base.StaysIn s.heap → A.depth + 4 < recursionLimit → (∀ h' tk, Ext [] s.heap h' → Q (.ref sp) {s with heap := h', toks := tk}) → wpAny (model prog w) A (call (.ref 100) [.int o to]) Q E s
theorem base_none {base g : Heap} {a : Addr} (hg : base.StaysIn g) (x : g.get? a = none) : base.get? a = none := by
  cases q : base.get? a with
  | none => rfl
  | some o => rw [hg _ _ q] at x; cases x
theorem after_none {h g : Heap} {foot : List (Addr × Obj)} {a : Addr} (hgk : ∀ b o, b ∉ Adr foot → h.get? b = some o → g.get? b = some o) (x : g.get? a = none) (n : a ∉ Adr foot) : After h a := by
  unfold After
  cases q : h.get? a with
  | none => rfl
  | some o => rw [hgk _ _ n q] at x; cases x
local macro_rules | `(tactic| walk_at "call ref") => `(tactic| ((with_reducible show wpAny _ _ (call (Value.ref 93) _ _) _ _ _); refine pure_K (D := 4) (fun hs hA hQ => c_hs _ _ (by assumption) hs hA hQ) (by assumption) (by assumption) (by assumption) (by walk_at "mi_depth") ?_; intro h9 tk9 F9 N9; (try dsimp only)))
local macro_rules | `(tactic| walk_at "mi_pc") => `(tactic| ((with_reducible show wpAny _ _ (call (Value.ref 93) _ _) _ _ _); refine pure_K (D := 4) (fun hs hA hQ => c_hs _ _ (by assumption) hs hA hQ) (by assumption) (by assumption) (by assumption) (by walk_at "mi_depth") ?_; intro h9 tk9 F9 N9; (try dsimp only)))
local macro_rules | `(tactic| walk_at "getMethod ref") => `(tactic| (k_here; (with_reducible show wpAny _ _ (getMethod (Value.ref _) (Str.ofString "update") _) _ _ _); k_dflt (refine' kda_method (knd := PySem.strKind _ _) ?N ?p ?d PySem.F.slot_dict_update PySem.F.type_dict_update ?_; (case N => k_asm); (case p => k_mem); (case d => assumption))))
local macro_rules | `(tactic| walk_at "call builtin:dict.update") => `(tactic| (k_here; (with_reducible show wpAny _ _ (call (Value.builtin "dict.update") [Value.ref _, Value.ref _]) _ _ _); k_dflt (refine' kda_update (knd := PySem.strKind _ _) ?F ?N ?U ?d ?p ?e ?n ?l ?z ?_; (case F => k_asm); (case N => k_asm); (case U => k_updF); (case d => assumption); (case p => k_mem); (case e => assumption); (case n => k_ne); (case l => assumption); (case z => assumption)); intro h' o' F' N' hd'; (try dsimp only at N')))
theorem c_dm1h (n  : Int) (tn  : Tok) (ty : Str) (tt : Tok) (sp vn an : Addr) (names anames : List Str) (KS : KindS w ty sp vn an names anames) (hnl : names.length < 100) (Lt : Tok) (bl : Addr) (nd : Nat) (t0 : Tok)
   (hT : nsIn (hd.heap_39 w.params) sp (Str.ofString "type") = some (some (.str ty tt)))
   (hLen : nsIn (hd.heap_39 w.params) sp (Str.ofString "length") = some (some (.int 1 Lt)))
   (hnn : (names.filter (nameP (Str.ofString "channel"))).length = 0) (hB : hsB n = true) (hn : 242 < n) (hSp : SpecIs w base n sp)  (S : Bas w mean mg mb base) (hs : base.StaysIn s.heap) (hA : A.depth + 20 < recursionLimit) (hh : A.handled = none)
   (hfo : ∀ p ∈ [(bl, listOf #[Value.int n tn] nd)], s.heap.get? p.1 = some p.2 ∧ base.get? p.1 = none)
   (hQ : ∀ h' tk d tc, Ext [] s.heap h' → After s.heap d → (d == sysModules) = false → h'.DictOf (PySem.strKind prog w) d (merged [(Str.ofString "type", .str ty tt), (Str.ofString "time", .int 0 t0)] (if 128 ≤ n ∧ n ≤ 239 then stored (zipKv (names.filter (nameP (Str.ofString "channel"))) (#[] : Array Value).toList) (Str.ofString "channel") (.int (Builtin.bitAnd n 15) tc) else zipKv (names.filter (nameP (Str.ofString "channel"))) (#[] : Array Value).toList)) → Q (.ref d) {s with heap := h', toks := tk}) :
   wpAny (model prog w) A (call (.ref 234) [.ref bl] [(Str.ofString "time", .int 0 t0)]) Q E s := by
  have Xs : (hd.heap_39 w.params).In s.heap := S.X.keeps hs
  obtain ⟨inS, ⟨es, nn, sp1, sp2⟩, vn1, an1, ⟨vs, vn2, vn3⟩, ⟨us, an2, an3⟩⟩ := id KS
  refine enterM (binds := [(Str.ofString "msg_bytes", .ref bl), (Str.ofString "time", .int 0 t0), (Str.ofString "check", .bool true)]) _ S hs hfo (by k_is) (by k_is) (by omega) ?bd (locs rfl) ?_
  case bd => exact binds_K Xs rfl (by k_is) rfl rfl rfl
  intro g L' h₁ hg F N X TT hgk hsz hL hgs
  walk_at "mi_stepsC"
  all_goals first | exact Bool.noConfusion (hB.symm.trans (by assumption)) | skip
  have key : ∃ D1 t1, Fr g L' _ (fun y => if y = Str.ofString "data" then some (Value.ref D1) else if y = Str.ofString "status_byte" then some (.int n t1) else List.lookup y [(Str.ofString "msg_bytes", Value.ref bl), (Str.ofString "time", Value.int 0 t0), (Str.ofString "check", Value.bool true)].reverse) ∧
     News g L' _ [(D1, listOf #[] 0), (bl, listOf #[Value.int n tn] nd)] := ⟨_, _, by rename Fr g L' _ _ => F2; exact F2, by rename News g L' _ _ => N2; exact N2⟩
  obtain ⟨D1, t1, F2, N2⟩ := key
  refine pure_K (D := 4) (fun hs hA hQ => hSp hs hA hQ) (by assumption) F2 N2 (by walk_at "mi_depth") ?_
  intro h9 tk9 F9 N9; (try dsimp only)
  have n240 : n ≠ 240 := by omega
  clear F2 N2
  walk_at "mi_stepsO"
  have key : ∃ d o, Fr g L' _ (fun y => if y = Str.ofString "msg" then some (Value.ref d) else if y = Str.ofString "spec" then some (Value.ref sp) else if y = Str.ofString "data" then some (Value.ref D1) else if y = Str.ofString "status_byte" then some (.int n t1) else List.lookup y [(Str.ofString "msg_bytes", Value.ref bl), (Str.ofString "time", Value.int 0 t0), (Str.ofString "check", Value.bool true)].reverse) ∧
     News g L' _ [(d, o), (D1, listOf #[] 0), (bl, listOf #[Value.int n tn] nd)] ∧ o.IsDictOf (PySem.strKind prog w) [(Str.ofString "type", .str ty tt), (Str.ofString "time", .int 0 t0)] ∧ (d == sysModules) = false ∧ d ≠ D1 ∧ d ≠ bl :=
    ⟨_, _, by rename Fr g L' _ _ => F2; exact F2, by rename News g L' _ _ => N2; exact N2, by rename Obj.IsDictOf _ _ _ => z; exact z, by assumption, by rename (_ ∧ @LT.lt Nat _ bl _) => z; exact Nat.ne_of_gt z.1, by rename (_ ∧ @LT.lt Nat _ bl _) => z; exact Nat.ne_of_gt z.2⟩
  obtain ⟨d, o, F2, N2, hdk, dlo, dD, dB⟩ := key
  have gD : g.get? D1 = none := N2.fresh (.tail _ (.head _))
  refine c_cdL D1 [] (by exact fun _ h => nomatch h) S (fun b o q => F2.keep b o (hg b o q)) (by walk_at "mi_depth") hh ⟨_, _, N2.get (.tail _ (.head _)), .nil⟩ (base_none hg gD) fun h6 tk6 e6 => ?_
  have F6 := frExt F2 e6 (fun h => nomatch h) (fun _ h => nomatch h)
  have N6 := nwExt N2 e6 (fun _ _ h => nomatch h)
  clear F2 N2
  walk_at "mi_stepsO"
  rename Fr g L' _ _ => F2
  rename News g L' _ _ => N2
  refine c_ddb n t1 ty sp vn an names anames KS hnl Lt D1 #[] 0 hLen (by simp) hnn S (fun b o q => F2.keep b o (hg b o q)) (by walk_at "mi_depth") hh (fo_cons (N2.get (.tail _ (.head _))) (base_none hg gD) fo_nil) fun h7 tk7 d2 tc e7 a2 lo2 hd2 => ?_
  obtain ⟨o2, ho2, hdk2⟩ := Heap.dictOf_iff.mp hd2
  have F7 := frExt F2 e7 (fun h => nomatch h) (fun _ h => nomatch h)
  have d2d : d2 ≠ d := a2.ne (N2.get (.head _))
  have d2D : d2 ≠ D1 := a2.ne (N2.get (.tail _ (.head _)))
  have d2B : d2 ≠ bl := a2.ne (N2.get (.tail _ (.tail _ (.head _))))
  have N7 := nwCons ho2 (goneL F2 a2) (gone F2 a2) (nwExt N2 e7 (fun _ _ h => nomatch h))
  clear F2 N2
  generalize hkv : (if 128 ≤ n ∧ n ≤ 239 then stored (zipKv (names.filter (nameP (Str.ofString "channel"))) (#[] : Array Value).toList) (Str.ofString "channel") (.int (Builtin.bitAnd n 15) tc) else zipKv (names.filter (nameP (Str.ofString "channel"))) (#[] : Array Value).toList) = kv at hdk2
  have hkvs : [(Str.ofString "type", Value.str ty tt), (Str.ofString "time", Value.int 0 t0)].length + kv.length ≤ sizeLine := by
    have h1 := zipKv_len (names.filter (nameP (Str.ofString "channel"))) (#[] : Array Value).toList
    have h2 := stored_len (zipKv (names.filter (nameP (Str.ofString "channel"))) (#[] : Array Value).toList) (Str.ofString "channel") (.int (Builtin.bitAnd n 15) tc)
    have h3 : kv.length ≤ 10 := by
      rw [← hkv]
      split <;> omega
    rw [sizeLine_eq]; simp only [List.length_cons, List.length_nil]; omega
  walk_at "mi_stepsC"
  have key : ∃ o6, Fr g L' _ _ ∧ News g L' _ [(d2, o2), (d, o6), (D1, listOf #[] 0), (bl, listOf #[Value.int n tn] nd)] ∧ o6.IsDictOf (PySem.strKind prog w) (merged [(Str.ofString "type", .str ty tt), (Str.ofString "time", .int 0 t0)] kv) := ⟨_, by assumption, by assumption, by assumption⟩
  obtain ⟨o6, F8, N8, hd8⟩ := key
  refine hQ _ _ d tc (ext_of [] hgk hsz hfo F8 N8 (by walk_at "mi_ro")) (after_none hgk (N8.fresh (.tail _ (.head _))) (by simpa using dB)) dlo ?_
  rw [hkv]
  exact Heap.dictOf_iff.mpr ⟨_, N8.get (.tail _ (.head _)), hd8⟩
theorem c_dm2h (n a : Int) (tn ta : Tok) (ty : Str) (tt : Tok) (sp vn an : Addr) (names anames : List Str) (KS : KindS w ty sp vn an names anames) (hnl : names.length < 100) (Lt : Tok) (bl : Addr) (nd : Nat) (t0 : Tok)
   (hT : nsIn (hd.heap_39 w.params) sp (Str.ofString "type") = some (some (.str ty tt)))
   (hLen : nsIn (hd.heap_39 w.params) sp (Str.ofString "length") = some (some (.int 2 Lt)))
   (hnn : (names.filter (nameP (Str.ofString "channel"))).length = 1) (hB : hsB n = true) (hn : 242 < n) (hSp : SpecIs w base n sp) (ha : 0 ≤ a ∧ a ≤ 127) (S : Bas w mean mg mb base) (hs : base.StaysIn s.heap) (hA : A.depth + 20 < recursionLimit) (hh : A.handled = none)
   (hfo : ∀ p ∈ [(bl, listOf #[Value.int n tn, .int a ta] nd)], s.heap.get? p.1 = some p.2 ∧ base.get? p.1 = none)
   (hQ : ∀ h' tk d tc, Ext [] s.heap h' → After s.heap d → (d == sysModules) = false → h'.DictOf (PySem.strKind prog w) d (merged [(Str.ofString "type", .str ty tt), (Str.ofString "time", .int 0 t0)] (if 128 ≤ n ∧ n ≤ 239 then stored (zipKv (names.filter (nameP (Str.ofString "channel"))) (#[Value.int a ta] : Array Value).toList) (Str.ofString "channel") (.int (Builtin.bitAnd n 15) tc) else zipKv (names.filter (nameP (Str.ofString "channel"))) (#[Value.int a ta] : Array Value).toList)) → Q (.ref d) {s with heap := h', toks := tk}) :
   wpAny (model prog w) A (call (.ref 234) [.ref bl] [(Str.ofString "time", .int 0 t0)]) Q E s := by
  have Xs : (hd.heap_39 w.params).In s.heap := S.X.keeps hs
  obtain ⟨inS, ⟨es, nn, sp1, sp2⟩, vn1, an1, ⟨vs, vn2, vn3⟩, ⟨us, an2, an3⟩⟩ := id KS
  refine enterM (binds := [(Str.ofString "msg_bytes", .ref bl), (Str.ofString "time", .int 0 t0), (Str.ofString "check", .bool true)]) _ S hs hfo (by k_is) (by k_is) (by omega) ?bd (locs rfl) ?_
  case bd => exact binds_K Xs rfl (by k_is) rfl rfl rfl
  intro g L' h₁ hg F N X TT hgk hsz hL hgs
  walk_at "mi_stepsC"
  all_goals first | exact Bool.noConfusion (hB.symm.trans (by assumption)) | skip
  have key : ∃ D1 t1, Fr g L' _ (fun y => if y = Str.ofString "data" then some (Value.ref D1) else if y = Str.ofString "status_byte" then some (.int n t1) else List.lookup y [(Str.ofString "msg_bytes", Value.ref bl), (Str.ofString "time", Value.int 0 t0), (Str.ofString "check", Value.bool true)].reverse) ∧
     News g L' _ [(D1, listOf #[Value.int a ta] 0), (bl, listOf #[Value.int n tn, .int a ta] nd)] := ⟨_, _, by rename Fr g L' _ _ => F2; exact F2, by rename News g L' _ _ => N2; exact N2⟩
  obtain ⟨D1, t1, F2, N2⟩ := key
  refine pure_K (D := 4) (fun hs hA hQ => hSp hs hA hQ) (by assumption) F2 N2 (by walk_at "mi_depth") ?_
  intro h9 tk9 F9 N9; (try dsimp only)
  have n240 : n ≠ 240 := by omega
  clear F2 N2
  walk_at "mi_stepsO"
  have key : ∃ d o, Fr g L' _ (fun y => if y = Str.ofString "msg" then some (Value.ref d) else if y = Str.ofString "spec" then some (Value.ref sp) else if y = Str.ofString "data" then some (Value.ref D1) else if y = Str.ofString "status_byte" then some (.int n t1) else List.lookup y [(Str.ofString "msg_bytes", Value.ref bl), (Str.ofString "time", Value.int 0 t0), (Str.ofString "check", Value.bool true)].reverse) ∧
     News g L' _ [(d, o), (D1, listOf #[Value.int a ta] 0), (bl, listOf #[Value.int n tn, .int a ta] nd)] ∧ o.IsDictOf (PySem.strKind prog w) [(Str.ofString "type", .str ty tt), (Str.ofString "time", .int 0 t0)] ∧ (d == sysModules) = false ∧ d ≠ D1 ∧ d ≠ bl :=
    ⟨_, _, by rename Fr g L' _ _ => F2; exact F2, by rename News g L' _ _ => N2; exact N2, by rename Obj.IsDictOf _ _ _ => z; exact z, by assumption, by rename (_ ∧ @LT.lt Nat _ bl _) => z; exact Nat.ne_of_gt z.1, by rename (_ ∧ @LT.lt Nat _ bl _) => z; exact Nat.ne_of_gt z.2⟩
  obtain ⟨d, o, F2, N2, hdk, dlo, dD, dB⟩ := key
  have gD : g.get? D1 = none := N2.fresh (.tail _ (.head _))
  refine c_cdL D1 [a] (by exact List.forall_mem_cons.mpr ⟨ha, fun _ h => nomatch h⟩) S (fun b o q => F2.keep b o (hg b o q)) (by walk_at "mi_depth") hh ⟨_, _, N2.get (.tail _ (.head _)), (.cons a ta .nil)⟩ (base_none hg gD) fun h6 tk6 e6 => ?_
  have F6 := frExt F2 e6 (fun h => nomatch h) (fun _ h => nomatch h)
  have N6 := nwExt N2 e6 (fun _ _ h => nomatch h)
  clear F2 N2
  walk_at "mi_stepsO"
  rename Fr g L' _ _ => F2
  rename News g L' _ _ => N2
  refine c_ddb n t1 ty sp vn an names anames KS hnl Lt D1 #[Value.int a ta] 0 hLen (by simp) hnn S (fun b o q => F2.keep b o (hg b o q)) (by walk_at "mi_depth") hh (fo_cons (N2.get (.tail _ (.head _))) (base_none hg gD) fo_nil) fun h7 tk7 d2 tc e7 a2 lo2 hd2 => ?_
  obtain ⟨o2, ho2, hdk2⟩ := Heap.dictOf_iff.mp hd2
  have F7 := frExt F2 e7 (fun h => nomatch h) (fun _ h => nomatch h)
  have d2d : d2 ≠ d := a2.ne (N2.get (.head _))
  have d2D : d2 ≠ D1 := a2.ne (N2.get (.tail _ (.head _)))
  have d2B : d2 ≠ bl := a2.ne (N2.get (.tail _ (.tail _ (.head _))))
  have N7 := nwCons ho2 (goneL F2 a2) (gone F2 a2) (nwExt N2 e7 (fun _ _ h => nomatch h))
  clear F2 N2
  generalize hkv : (if 128 ≤ n ∧ n ≤ 239 then stored (zipKv (names.filter (nameP (Str.ofString "channel"))) (#[Value.int a ta] : Array Value).toList) (Str.ofString "channel") (.int (Builtin.bitAnd n 15) tc) else zipKv (names.filter (nameP (Str.ofString "channel"))) (#[Value.int a ta] : Array Value).toList) = kv at hdk2
  have hkvs : [(Str.ofString "type", Value.str ty tt), (Str.ofString "time", Value.int 0 t0)].length + kv.length ≤ sizeLine := by
    have h1 := zipKv_len (names.filter (nameP (Str.ofString "channel"))) (#[Value.int a ta] : Array Value).toList
    have h2 := stored_len (zipKv (names.filter (nameP (Str.ofString "channel"))) (#[Value.int a ta] : Array Value).toList) (Str.ofString "channel") (.int (Builtin.bitAnd n 15) tc)
    have h3 : kv.length ≤ 10 := by
      rw [← hkv]
      split <;> omega
    rw [sizeLine_eq]; simp only [List.length_cons, List.length_nil]; omega
  walk_at "mi_stepsC"
  have key : ∃ o6, Fr g L' _ _ ∧ News g L' _ [(d2, o2), (d, o6), (D1, listOf #[Value.int a ta] 0), (bl, listOf #[Value.int n tn, .int a ta] nd)] ∧ o6.IsDictOf (PySem.strKind prog w) (merged [(Str.ofString "type", .str ty tt), (Str.ofString "time", .int 0 t0)] kv) := ⟨_, by assumption, by assumption, by assumption⟩
  obtain ⟨o6, F8, N8, hd8⟩ := key
  refine hQ _ _ d tc (ext_of [] hgk hsz hfo F8 N8 (by walk_at "mi_ro")) (after_none hgk (N8.fresh (.tail _ (.head _))) (by simpa using dB)) dlo ?_
  rw [hkv]
  exact Heap.dictOf_iff.mpr ⟨_, N8.get (.tail _ (.head _)), hd8⟩
theorem c_dm2 (n a : Int) (tn ta : Tok) (ty : Str) (tt : Tok) (sp vn an : Addr) (names anames : List Str) (KS : KindS w ty sp vn an names anames) (hnl : names.length < 100) (Lt : Tok) (bl : Addr) (nd : Nat) (t0 : Tok)
   (hT : nsIn (hd.heap_39 w.params) sp (Str.ofString "type") = some (some (.str ty tt)))
   (hLen : nsIn (hd.heap_39 w.params) sp (Str.ofString "length") = some (some (.int 2 Lt)))
   (hnn : (names.filter (nameP (Str.ofString "channel"))).length = 1) (hB : hsB n = true) (hn : n < 224) (hSp : SpecIs w base n sp) (ha : 0 ≤ a ∧ a ≤ 127) (S : Bas w mean mg mb base) (hs : base.StaysIn s.heap) (hA : A.depth + 20 < recursionLimit) (hh : A.handled = none)
   (hfo : ∀ p ∈ [(bl, listOf #[Value.int n tn, .int a ta] nd)], s.heap.get? p.1 = some p.2 ∧ base.get? p.1 = none)
   (hQ : ∀ h' tk d tc, Ext [] s.heap h' → After s.heap d → (d == sysModules) = false → h'.DictOf (PySem.strKind prog w) d (merged [(Str.ofString "type", .str ty tt), (Str.ofString "time", .int 0 t0)] (if 128 ≤ n ∧ n ≤ 239 then stored (zipKv (names.filter (nameP (Str.ofString "channel"))) (#[Value.int a ta] : Array Value).toList) (Str.ofString "channel") (.int (Builtin.bitAnd n 15) tc) else zipKv (names.filter (nameP (Str.ofString "channel"))) (#[Value.int a ta] : Array Value).toList)) → Q (.ref d) {s with heap := h', toks := tk}) :
   wpAny (model prog w) A (call (.ref 234) [.ref bl] [(Str.ofString "time", .int 0 t0)]) Q E s := by
  have Xs : (hd.heap_39 w.params).In s.heap := S.X.keeps hs
  obtain ⟨inS, ⟨es, nn, sp1, sp2⟩, vn1, an1, ⟨vs, vn2, vn3⟩, ⟨us, an2, an3⟩⟩ := id KS
  refine enterM (binds := [(Str.ofString "msg_bytes", .ref bl), (Str.ofString "time", .int 0 t0), (Str.ofString "check", .bool true)]) _ S hs hfo (by k_is) (by k_is) (by omega) ?bd (locs rfl) ?_
  case bd => exact binds_K Xs rfl (by k_is) rfl rfl rfl
  intro g L' h₁ hg F N X TT hgk hsz hL hgs
  walk_at "mi_stepsC"
  all_goals first | exact Bool.noConfusion (hB.symm.trans (by assumption)) | skip
  have key : ∃ D1 t1, Fr g L' _ (fun y => if y = Str.ofString "data" then some (Value.ref D1) else if y = Str.ofString "status_byte" then some (.int n t1) else List.lookup y [(Str.ofString "msg_bytes", Value.ref bl), (Str.ofString "time", Value.int 0 t0), (Str.ofString "check", Value.bool true)].reverse) ∧
     News g L' _ [(D1, listOf #[Value.int a ta] 0), (bl, listOf #[Value.int n tn, .int a ta] nd)] := ⟨_, _, by rename Fr g L' _ _ => F2; exact F2, by rename News g L' _ _ => N2; exact N2⟩
  obtain ⟨D1, t1, F2, N2⟩ := key
  refine pure_K (D := 4) (fun hs hA hQ => hSp hs hA hQ) (by assumption) F2 N2 (by walk_at "mi_depth") ?_
  intro h9 tk9 F9 N9; (try dsimp only)
  have n240 : n ≠ 240 := by omega
  clear F2 N2
  walk_at "mi_stepsO"
  have key : ∃ d o, Fr g L' _ (fun y => if y = Str.ofString "msg" then some (Value.ref d) else if y = Str.ofString "spec" then some (Value.ref sp) else if y = Str.ofString "data" then some (Value.ref D1) else if y = Str.ofString "status_byte" then some (.int n t1) else List.lookup y [(Str.ofString "msg_bytes", Value.ref bl), (Str.ofString "time", Value.int 0 t0), (Str.ofString "check", Value.bool true)].reverse) ∧
     News g L' _ [(d, o), (D1, listOf #[Value.int a ta] 0), (bl, listOf #[Value.int n tn, .int a ta] nd)] ∧ o.IsDictOf (PySem.strKind prog w) [(Str.ofString "type", .str ty tt), (Str.ofString "time", .int 0 t0)] ∧ (d == sysModules) = false ∧ d ≠ D1 ∧ d ≠ bl :=
    ⟨_, _, by rename Fr g L' _ _ => F2; exact F2, by rename News g L' _ _ => N2; exact N2, by rename Obj.IsDictOf _ _ _ => z; exact z, by assumption, by rename (_ ∧ @LT.lt Nat _ bl _) => z; exact Nat.ne_of_gt z.1, by rename (_ ∧ @LT.lt Nat _ bl _) => z; exact Nat.ne_of_gt z.2⟩
  obtain ⟨d, o, F2, N2, hdk, dlo, dD, dB⟩ := key
  have gD : g.get? D1 = none := N2.fresh (.tail _ (.head _))
  refine c_cdL D1 [a] (by exact List.forall_mem_cons.mpr ⟨ha, fun _ h => nomatch h⟩) S (fun b o q => F2.keep b o (hg b o q)) (by walk_at "mi_depth") hh ⟨_, _, N2.get (.tail _ (.head _)), (.cons a ta .nil)⟩ (base_none hg gD) fun h6 tk6 e6 => ?_
  have F6 := frExt F2 e6 (fun h => nomatch h) (fun _ h => nomatch h)
  have N6 := nwExt N2 e6 (fun _ _ h => nomatch h)
  clear F2 N2
  walk_at "mi_stepsO"
  rename Fr g L' _ _ => F2
  rename News g L' _ _ => N2
  refine c_ddb n t1 ty sp vn an names anames KS hnl Lt D1 #[Value.int a ta] 0 hLen (by simp) hnn S (fun b o q => F2.keep b o (hg b o q)) (by walk_at "mi_depth") hh (fo_cons (N2.get (.tail _ (.head _))) (base_none hg gD) fo_nil) fun h7 tk7 d2 tc e7 a2 lo2 hd2 => ?_
  obtain ⟨o2, ho2, hdk2⟩ := Heap.dictOf_iff.mp hd2
  have F7 := frExt F2 e7 (fun h => nomatch h) (fun _ h => nomatch h)
  have d2d : d2 ≠ d := a2.ne (N2.get (.head _))
  have d2D : d2 ≠ D1 := a2.ne (N2.get (.tail _ (.head _)))
  have d2B : d2 ≠ bl := a2.ne (N2.get (.tail _ (.tail _ (.head _))))
  have N7 := nwCons ho2 (goneL F2 a2) (gone F2 a2) (nwExt N2 e7 (fun _ _ h => nomatch h))
  clear F2 N2
  generalize hkv : (if 128 ≤ n ∧ n ≤ 239 then stored (zipKv (names.filter (nameP (Str.ofString "channel"))) (#[Value.int a ta] : Array Value).toList) (Str.ofString "channel") (.int (Builtin.bitAnd n 15) tc) else zipKv (names.filter (nameP (Str.ofString "channel"))) (#[Value.int a ta] : Array Value).toList) = kv at hdk2
  have hkvs : [(Str.ofString "type", Value.str ty tt), (Str.ofString "time", Value.int 0 t0)].length + kv.length ≤ sizeLine := by
    have h1 := zipKv_len (names.filter (nameP (Str.ofString "channel"))) (#[Value.int a ta] : Array Value).toList
    have h2 := stored_len (zipKv (names.filter (nameP (Str.ofString "channel"))) (#[Value.int a ta] : Array Value).toList) (Str.ofString "channel") (.int (Builtin.bitAnd n 15) tc)
    have h3 : kv.length ≤ 10 := by
      rw [← hkv]
      split <;> omega
    rw [sizeLine_eq]; simp only [List.length_cons, List.length_nil]; omega
  walk_at "mi_stepsC"
  have key : ∃ o6, Fr g L' _ _ ∧ News g L' _ [(d2, o2), (d, o6), (D1, listOf #[Value.int a ta] 0), (bl, listOf #[Value.int n tn, .int a ta] nd)] ∧ o6.IsDictOf (PySem.strKind prog w) (merged [(Str.ofString "type", .str ty tt), (Str.ofString "time", .int 0 t0)] kv) := ⟨_, by assumption, by assumption, by assumption⟩
  obtain ⟨o6, F8, N8, hd8⟩ := key
  refine hQ _ _ d tc (ext_of [] hgk hsz hfo F8 N8 (by walk_at "mi_ro")) (after_none hgk (N8.fresh (.tail _ (.head _))) (by simpa using dB)) dlo ?_
  rw [hkv]
  exact Heap.dictOf_iff.mpr ⟨_, N8.get (.tail _ (.head _)), hd8⟩
theorem c_dm3 (n a b : Int) (tn ta tb : Tok) (ty : Str) (tt : Tok) (sp vn an : Addr) (names anames : List Str) (KS : KindS w ty sp vn an names anames) (hnl : names.length < 100) (Lt : Tok) (bl : Addr) (nd : Nat) (t0 : Tok)
   (hT : nsIn (hd.heap_39 w.params) sp (Str.ofString "type") = some (some (.str ty tt)))
   (hLen : nsIn (hd.heap_39 w.params) sp (Str.ofString "length") = some (some (.int 3 Lt)))
   (hnn : (names.filter (nameP (Str.ofString "channel"))).length = 2) (hB : hsB n = true) (hn : n < 224) (hSp : SpecIs w base n sp) (ha : 0 ≤ a ∧ a ≤ 127) (hb : 0 ≤ b ∧ b ≤ 127) (S : Bas w mean mg mb base) (hs : base.StaysIn s.heap) (hA : A.depth + 20 < recursionLimit) (hh : A.handled = none)
   (hfo : ∀ p ∈ [(bl, listOf #[Value.int n tn, .int a ta, .int b tb] nd)], s.heap.get? p.1 = some p.2 ∧ base.get? p.1 = none)
   (hQ : ∀ h' tk d tc, Ext [] s.heap h' → After s.heap d → (d == sysModules) = false → h'.DictOf (PySem.strKind prog w) d (merged [(Str.ofString "type", .str ty tt), (Str.ofString "time", .int 0 t0)] (if 128 ≤ n ∧ n ≤ 239 then stored (zipKv (names.filter (nameP (Str.ofString "channel"))) (#[Value.int a ta, .int b tb] : Array Value).toList) (Str.ofString "channel") (.int (Builtin.bitAnd n 15) tc) else zipKv (names.filter (nameP (Str.ofString "channel"))) (#[Value.int a ta, .int b tb] : Array Value).toList)) → Q (.ref d) {s with heap := h', toks := tk}) :
   wpAny (model prog w) A (call (.ref 234) [.ref bl] [(Str.ofString "time", .int 0 t0)]) Q E s := by
  have Xs : (hd.heap_39 w.params).In s.heap := S.X.keeps hs
  obtain ⟨inS, ⟨es, nn, sp1, sp2⟩, vn1, an1, ⟨vs, vn2, vn3⟩, ⟨us, an2, an3⟩⟩ := id KS
  refine enterM (binds := [(Str.ofString "msg_bytes", .ref bl), (Str.ofString "time", .int 0 t0), (Str.ofString "check", .bool true)]) _ S hs hfo (by k_is) (by k_is) (by omega) ?bd (locs rfl) ?_
  case bd => exact binds_K Xs rfl (by k_is) rfl rfl rfl
  intro g L' h₁ hg F N X TT hgk hsz hL hgs
  walk_at "mi_stepsC"
  all_goals first | exact Bool.noConfusion (hB.symm.trans (by assumption)) | skip
  have key : ∃ D1 t1, Fr g L' _ (fun y => if y = Str.ofString "data" then some (Value.ref D1) else if y = Str.ofString "status_byte" then some (.int n t1) else List.lookup y [(Str.ofString "msg_bytes", Value.ref bl), (Str.ofString "time", Value.int 0 t0), (Str.ofString "check", Value.bool true)].reverse) ∧
     News g L' _ [(D1, listOf #[Value.int a ta, .int b tb] 0), (bl, listOf #[Value.int n tn, .int a ta, .int b tb] nd)] := ⟨_, _, by rename Fr g L' _ _ => F2; exact F2, by rename News g L' _ _ => N2; exact N2⟩
  obtain ⟨D1, t1, F2, N2⟩ := key
  refine pure_K (D := 4) (fun hs hA hQ => hSp hs hA hQ) (by assumption) F2 N2 (by walk_at "mi_depth") ?_
  intro h9 tk9 F9 N9; (try dsimp only)
  have n240 : n ≠ 240 := by omega
  clear F2 N2
  walk_at "mi_stepsO"
  have key : ∃ d o, Fr g L' _ (fun y => if y = Str.ofString "msg" then some (Value.ref d) else if y = Str.ofString "spec" then some (Value.ref sp) else if y = Str.ofString "data" then some (Value.ref D1) else if y = Str.ofString "status_byte" then some (.int n t1) else List.lookup y [(Str.ofString "msg_bytes", Value.ref bl), (Str.ofString "time", Value.int 0 t0), (Str.ofString "check", Value.bool true)].reverse) ∧
     News g L' _ [(d, o), (D1, listOf #[Value.int a ta, .int b tb] 0), (bl, listOf #[Value.int n tn, .int a ta, .int b tb] nd)] ∧ o.IsDictOf (PySem.strKind prog w) [(Str.ofString "type", .str ty tt), (Str.ofString "time", .int 0 t0)] ∧ (d == sysModules) = false ∧ d ≠ D1 ∧ d ≠ bl :=
    ⟨_, _, by rename Fr g L' _ _ => F2; exact F2, by rename News g L' _ _ => N2; exact N2, by rename Obj.IsDictOf _ _ _ => z; exact z, by assumption, by rename (_ ∧ @LT.lt Nat _ bl _) => z; exact Nat.ne_of_gt z.1, by rename (_ ∧ @LT.lt Nat _ bl _) => z; exact Nat.ne_of_gt z.2⟩
  obtain ⟨d, o, F2, N2, hdk, dlo, dD, dB⟩ := key
  have gD : g.get? D1 = none := N2.fresh (.tail _ (.head _))
  refine c_cdL D1 [a, b] (by exact List.forall_mem_cons.mpr ⟨ha, List.forall_mem_cons.mpr ⟨hb, fun _ h => nomatch h⟩⟩) S (fun b o q => F2.keep b o (hg b o q)) (by walk_at "mi_depth") hh ⟨_, _, N2.get (.tail _ (.head _)), (.cons a ta (.cons b tb .nil))⟩ (base_none hg gD) fun h6 tk6 e6 => ?_
  have F6 := frExt F2 e6 (fun h => nomatch h) (fun _ h => nomatch h)
  have N6 := nwExt N2 e6 (fun _ _ h => nomatch h)
  clear F2 N2
  walk_at "mi_stepsO"
  rename Fr g L' _ _ => F2
  rename News g L' _ _ => N2
  refine c_ddb n t1 ty sp vn an names anames KS hnl Lt D1 #[Value.int a ta, .int b tb] 0 hLen (by simp) hnn S (fun b o q => F2.keep b o (hg b o q)) (by walk_at "mi_depth") hh (fo_cons (N2.get (.tail _ (.head _))) (base_none hg gD) fo_nil) fun h7 tk7 d2 tc e7 a2 lo2 hd2 => ?_
  obtain ⟨o2, ho2, hdk2⟩ := Heap.dictOf_iff.mp hd2
  have F7 := frExt F2 e7 (fun h => nomatch h) (fun _ h => nomatch h)
  have d2d : d2 ≠ d := a2.ne (N2.get (.head _))
  have d2D : d2 ≠ D1 := a2.ne (N2.get (.tail _ (.head _)))
  have d2B : d2 ≠ bl := a2.ne (N2.get (.tail _ (.tail _ (.head _))))
  have N7 := nwCons ho2 (goneL F2 a2) (gone F2 a2) (nwExt N2 e7 (fun _ _ h => nomatch h))
  clear F2 N2
  generalize hkv : (if 128 ≤ n ∧ n ≤ 239 then stored (zipKv (names.filter (nameP (Str.ofString "channel"))) (#[Value.int a ta, .int b tb] : Array Value).toList) (Str.ofString "channel") (.int (Builtin.bitAnd n 15) tc) else zipKv (names.filter (nameP (Str.ofString "channel"))) (#[Value.int a ta, .int b tb] : Array Value).toList) = kv at hdk2
  have hkvs : [(Str.ofString "type", Value.str ty tt), (Str.ofString "time", Value.int 0 t0)].length + kv.length ≤ sizeLine := by
    have h1 := zipKv_len (names.filter (nameP (Str.ofString "channel"))) (#[Value.int a ta, .int b tb] : Array Value).toList
    have h2 := stored_len (zipKv (names.filter (nameP (Str.ofString "channel"))) (#[Value.int a ta, .int b tb] : Array Value).toList) (Str.ofString "channel") (.int (Builtin.bitAnd n 15) tc)
    have h3 : kv.length ≤ 10 := by
      rw [← hkv]
      split <;> omega
    rw [sizeLine_eq]; simp only [List.length_cons, List.length_nil]; omega
  walk_at "mi_stepsC"
  have key : ∃ o6, Fr g L' _ _ ∧ News g L' _ [(d2, o2), (d, o6), (D1, listOf #[Value.int a ta, .int b tb] 0), (bl, listOf #[Value.int n tn, .int a ta, .int b tb] nd)] ∧ o6.IsDictOf (PySem.strKind prog w) (merged [(Str.ofString "type", .str ty tt), (Str.ofString "time", .int 0 t0)] kv) := ⟨_, by assumption, by assumption, by assumption⟩
  obtain ⟨o6, F8, N8, hd8⟩ := key
  refine hQ _ _ d tc (ext_of [] hgk hsz hfo F8 N8 (by walk_at "mi_ro")) (after_none hgk (N8.fresh (.tail _ (.head _))) (by simpa using dB)) dlo ?_
  rw [hkv]
  exact Heap.dictOf_iff.mpr ⟨_, N8.get (.tail _ (.head _)), hd8⟩
end PartP
theorem restR {M : Model} {A : Around} {s : Shared} {E : Value → Shared → Prop} {env : Env} {Q : Flow → Shared → Prop} (h : Q .next s) : wpAny M A (execs [] env) Q E s := by
  w_top off
  walk1
  w_top off
  exact h
section PartR
local macro_rules | `(tactic| k_steps) => `(tactic| repeat' (first | ((with_reducible show wpAny _ _ (call (Value.ref _) _ _) _ _ _); walk_at "mi_pc") | ((fail_if_success (with_reducible show wpAny _ _ (call (Value.ref _) _ _) _ _ _)); (fail_if_success (with_reducible show wpAny _ _ (exec (Stmt.Raise _ _ _) _) _ _ _)); first | (k_unfold; (try dsimp only)) | (k_end; wrow_close) | walk1 | (dsimp only; walk1) | (leave1; walk_say "STEP leave1"; (try dsimp only)) | fail "no step")))
local macro_rules | `(tactic| k_ne) => `(tactic| first | assumption | exact Ne.symm (by assumption))
local macro_rules | `(tactic| walk_at "call builtin:len") => `(tactic| (k_here; (with_reducible show wpAny _ _ (call (Value.builtin "len") [Value.ref _]) _ _ _); refine PyProof.Rows.len_list (News.isList (by k_asm) (by k_mem)) (by (try simp only [Array.size_push, List.size_toArray]); omega) ?_))
local macro_rules | `(tactic| walk_at "mi_ro") => `(tactic| repeat' (first | exact ro_nil | refine ro_keep (by k_mem) ?_ | refine ro_mut (by simp) ?_))
local macro_rules | `(tactic| walk_at "mi_depth") => `(tactic| ((try simp only [PySem.Around.deeper, PySem.Around.in1_depth]); omega))
local macro_rules | `(tactic| walk_at "mi_pure") => `(tactic| exact hQ _ _ (ext_of [] hgk hsz (fo_nil (base := base)) (by assumption) (by assumption) ro_nil))
local macro_rules | `(tactic| walk_at "mi_steps") => `(tactic| repeat' ((fail_if_success (with_reducible show wpAny _ _ (exec (Stmt.For _ _ _ _ _) _) _ _ _)); first | ((with_reducible show wpAny _ _ (call (Value.ref _) _ _) _ _ _); walk_at "mi_pc") | ((fail_if_success (with_reducible show wpAny _ _ (call (Value.ref _) _ _) _ _ _)); (fail_if_success (with_reducible show wpAny _ _ (exec (Stmt.Raise _ _ _) _) _ _ _)); first | (k_unfold; (try dsimp only)) | (k_end; kc_close) | walk1 | (dsimp only; walk1) | (leave1; walk_say "STEP leave1"; (try dsimp only)) | fail "no step")))
local macro_rules | `(tactic| walk_at "subscriptTail") => `(tactic| (k_here; (with_reducible show wpAny _ _ (subscriptTail _ _ (Value.ref _) (Value.str _ _)) _ _ _); k_dflt (refine' topItem_K ?F ?X ?l ?k ?e ?_; (case F => k_asm); (case X => k_asm); (case l => first | assumption | k_is); (case k => first | assumption | k_keys); (case e => first | assumption | k_is))))
local macro_rules | `(tactic| walk_at "mi_stepsC") => `(tactic| repeat' ((fail_if_success (with_reducible show wpAny _ _ (exec (Stmt.For _ _ _ _ _) _) _ _ _)); (fail_if_success (with_reducible show wpAny _ _ (exec (Stmt.Assign [_] (Expr.ListComp _ _ _ _) _) _) _ _ _)); (fail_if_success (with_reducible show wpAny _ _ (call (Value.type "zip") _) _ _ _)); (fail_if_success (with_reducible show wpAny _ _ (exec (Stmt.Assign [_] (Expr.DictComp _ _ _ _ _) _) _) _ _ _)); first | ((with_reducible show wpAny _ _ (call (Value.ref _) _ _) _ _ _); walk_at "mi_pc") | ((fail_if_success (with_reducible show wpAny _ _ (call (Value.ref _) _ _) _ _ _)); (fail_if_success (with_reducible show wpAny _ _ (exec (Stmt.Raise _ _ _) _) _ _ _)); first | (k_unfold; (try dsimp only)) | (k_end; kc_close) | walk1 | (dsimp only; walk1) | (leave1; walk_say "STEP leave1"; (try dsimp only)) | fail "no step")))
local macro_rules | `(tactic| walk_at "mi_stepsO") => `(tactic| repeat' ((fail_if_success (with_reducible show wpAny _ _ (exec (Stmt.For _ _ _ _ _) _) _ _ _)); (fail_if_success (with_reducible show wpAny _ _ (exec (Stmt.Assign [_] (Expr.ListComp _ _ _ _) _) _) _ _ _)); (fail_if_success (with_reducible show wpAny _ _ (call (Value.type "zip") _) _ _ _)); (fail_if_success (with_reducible show wpAny _ _ (exec (Stmt.Assign [_] (Expr.DictComp _ _ _ _ _) _) _) _ _ _)); first | ((with_reducible show wpAny _ _ (call (Value.ref _) _ _) _ _ _); walk_at "mi_pc") | ((fail_if_success (with_reducible show wpAny _ _ (call (Value.ref _) _ _) _ _ _)); (fail_if_success (with_reducible show wpAny _ _ (exec (Stmt.Raise _ _ _) _) _ _ _)); first | ((with_reducible show wpAny _ _ (execs _ _) _ _ _); exfalso; omega) | (k_unfold; (try dsimp only)) | (k_end; kc_close) | walk1 | (dsimp only; walk1) | (leave1; walk_say "STEP leave1"; (try dsimp only)) | fail "no step")))
theorem bor_eq (x y : Int) : Builtin.bitOr x y = x + y - Builtin.bitAnd x y := by
  have h := bitXor_and x y
  have e : Builtin.bitXor x y = Builtin.bitOr x y - Builtin.bitAnd x y := rfl
  omega
theorem band_0 (y : Int) : Builtin.bitAnd 0 y = 0 := by
  have h := kbt_mask' y 0
  simpa using h
theorem band_apart (k : Nat) : ∀ (a b : Int), 0 ≤ a → a < 2 ^ k → Builtin.bitAnd a (2 ^ k * b) = 0 := by
  induction k with
  | zero =>
    intro a b h1 h2
    have : a = 0 := by simp only [Int.pow_zero] at h2; omega
    subst this; exact band_0 _
  | succ k ih =>
    intro a b h1 h2
    rw [kbt_halves]
    have e0 : (2 : Int) ^ (k + 1) = 2 ^ k * 2 := Int.pow_succ ..
    have e1 : (2 : Int) ^ (k + 1) * b = 2 * (2 ^ k * b) := by rw [e0, Int.mul_comm (2 ^ k) 2, Int.mul_assoc]
    have e2 : (2 : Int) ^ (k + 1) * b / 2 = 2 ^ k * b := by rw [e1]; exact Int.mul_ediv_cancel_left _ (by decide)
    have e3 : (2 : Int) ^ (k + 1) * b % 2 = 0 := by rw [e1]; exact Int.mul_emod_right _ _
    rw [e2, e3, ih (a / 2) b (by omega) (by rw [e0] at h2; omega)]
    simp
theorem bor_add (k : Nat) (a b : Int) (h1 : 0 ≤ a) (h2 : a < 2 ^ k) : Builtin.bitOr a (2 ^ k * b) = a + 2 ^ k * b := by
  rw [bor_eq, band_apart k a b h1 h2]; omega
theorem band_sym (x y : Int) : Builtin.bitAnd x y = Builtin.bitAnd y x := bitAnd_comm x y
theorem bor_add' (k : Nat) (a b : Int) (h1 : 0 ≤ a) (h2 : a < 2 ^ k) : Builtin.bitOr (2 ^ k * b) a = 2 ^ k * b + a := by
  rw [bor_eq, bitAnd_comm, band_apart k a b h1 h2]; omega
theorem bor_pos (a b : Int) (h1 : 0 ≤ a) (h2 : a ≤ 127) : Builtin.bitOr a (b * 2 ^ 7) = a + b * 128 := by
  have := bor_add 7 a b h1 (by omega)
  rw [show (b * 2 ^ 7 : Int) = 2 ^ 7 * b from Int.mul_comm _ _, this]; omega
theorem bor_pitch (a b : Int) (h1 : 0 ≤ a) (h2 : a ≤ 127) : Builtin.bitOr a (b * 2 ^ 7 + -8192) = a + b * 128 - 8192 := by
  have := bor_add 7 a (b - 64) h1 (by omega)
  rw [show (b * 2 ^ 7 + -8192 : Int) = 2 ^ 7 * (b - 64) from by omega, this]; omega
theorem bor_status (m c : Int) (h1 : 0 ≤ c) (h2 : c ≤ 15) (hm : m % 16 = 0) : Builtin.bitOr m c = m + c := by
  have := bor_add' 4 c (m / 16) h1 (by omega)
  have e : (2 : Int) ^ 4 * (m / 16) = m := by omega
  rwa [e] at this
theorem fdiv_pow (a : Int) (k : Nat) : a.fdiv (2 ^ k) = a / 2 ^ k := Int.fdiv_eq_ediv_of_nonneg _ (Int.pow_nonneg (by decide))
end PartR
theorem restQ {M : Model} {A : Around} {s : Shared} {E : Value → Shared → Prop} {env : Env} {Q : Flow → Shared → Prop} (h : Q .next s) : wpAny M A (execs [] env) Q E s := by
  w_top off
  walk1
  w_top off
  exact h
section PartQ
local macro_rules | `(tactic| k_steps) => `(tactic| repeat' (first | ((with_reducible show wpAny _ _ (call (Value.ref _) _ _) _ _ _); walk_at "mi_pc") | ((fail_if_success (with_reducible show wpAny _ _ (call (Value.ref _) _ _) _ _ _)); (fail_if_success (with_reducible show wpAny _ _ (exec (Stmt.Raise _ _ _) _) _ _ _)); first | (k_unfold; (try dsimp only)) | (k_end; wrow_close) | walk1 | (dsimp only; walk1) | (leave1; walk_say "STEP leave1"; (try dsimp only)) | fail "no step")))
local macro_rules | `(tactic| k_ne) => `(tactic| first | assumption | exact Ne.symm (by assumption))
local macro_rules | `(tactic| walk_at "call builtin:len") => `(tactic| (k_here; (with_reducible show wpAny _ _ (call (Value.builtin "len") [Value.ref _]) _ _ _); refine PyProof.Rows.len_list (News.isList (by k_asm) (by k_mem)) (by (try simp only [Array.size_push, List.size_toArray]); omega) ?_))
local macro_rules | `(tactic| walk_at "mi_ro") => `(tactic| repeat' (first | exact ro_nil | refine ro_keep (by k_mem) ?_ | refine ro_mut (by simp) ?_))
local macro_rules | `(tactic| walk_at "mi_depth") => `(tactic| ((try simp only [PySem.Around.deeper, PySem.Around.in1_depth]); omega))
local macro_rules | `(tactic| walk_at "mi_pure") => `(tactic| exact hQ _ _ (ext_of [] hgk hsz (fo_nil (base := base)) (by assumption) (by assumption) ro_nil))
local macro_rules | `(tactic| walk_at "mi_steps") => `(tactic| repeat' ((fail_if_success (with_reducible show wpAny _ _ (exec (Stmt.For _ _ _ _ _) _) _ _ _)); first | ((with_reducible show wpAny _ _ (call (Value.ref _) _ _) _ _ _); walk_at "mi_pc") | ((fail_if_success (with_reducible show wpAny _ _ (call (Value.ref _) _ _) _ _ _)); (fail_if_success (with_reducible show wpAny _ _ (exec (Stmt.Raise _ _ _) _) _ _ _)); first | (k_unfold; (try dsimp only)) | (k_end; kc_close) | walk1 | (dsimp only; walk1) | (leave1; walk_say "STEP leave1"; (try dsimp only)) | fail "no step")))
local macro_rules | `(tactic| walk_at "subscriptTail") => `(tactic| (k_here; (with_reducible show wpAny _ _ (subscriptTail _ _ (Value.ref _) (Value.str _ _)) _ _ _); k_dflt (refine' topItem_K ?F ?X ?l ?k ?e ?_; (case F => k_asm); (case X => k_asm); (case l => first | assumption | k_is); (case k => first | assumption | k_keys); (case e => first | assumption | k_is))))
local macro_rules | `(tactic| walk_at "mi_stepsC") => `(tactic| repeat' ((fail_if_success (with_reducible show wpAny _ _ (exec (Stmt.For _ _ _ _ _) _) _ _ _)); (fail_if_success (with_reducible show wpAny _ _ (exec (Stmt.Assign [_] (Expr.ListComp _ _ _ _) _) _) _ _ _)); (fail_if_success (with_reducible show wpAny _ _ (call (Value.type "zip") _) _ _ _)); (fail_if_success (with_reducible show wpAny _ _ (exec (Stmt.Assign [_] (Expr.DictComp _ _ _ _ _) _) _) _ _ _)); first | ((with_reducible show wpAny _ _ (call (Value.ref _) _ _) _ _ _); walk_at "mi_pc") | ((fail_if_success (with_reducible show wpAny _ _ (call (Value.ref _) _ _) _ _ _)); (fail_if_success (with_reducible show wpAny _ _ (exec (Stmt.Raise _ _ _) _) _ _ _)); first | (k_unfold; (try dsimp only)) | (k_end; kc_close) | walk1 | (dsimp only; walk1) | (leave1; walk_say "STEP leave1"; (try dsimp only)) | fail "no step")))
local macro_rules | `(tactic| walk_at "mi_stepsO") => `(tactic| repeat' ((fail_if_success (with_reducible show wpAny _ _ (exec (Stmt.For _ _ _ _ _) _) _ _ _)); (fail_if_success (with_reducible show wpAny _ _ (exec (Stmt.Assign [_] (Expr.ListComp _ _ _ _) _) _) _ _ _)); (fail_if_success (with_reducible show wpAny _ _ (call (Value.type "zip") _) _ _ _)); (fail_if_success (with_reducible show wpAny _ _ (exec (Stmt.Assign [_] (Expr.DictComp _ _ _ _ _) _) _) _ _ _)); first | ((with_reducible show wpAny _ _ (call (Value.ref _) _ _) _ _ _); walk_at "mi_pc") | ((fail_if_success (with_reducible show wpAny _ _ (call (Value.ref _) _ _) _ _ _)); (fail_if_success (with_reducible show wpAny _ _ (exec (Stmt.Raise _ _ _) _) _ _ _)); first | ((with_reducible show wpAny _ _ (execs _ _) _ _ _); exfalso; omega) | (k_unfold; (try dsimp only)) | (k_end; kc_close) | walk1 | (dsimp only; walk1) | (leave1; walk_say "STEP leave1"; (try dsimp only)) | fail "no step")))
theorem fdiv16 (a : Int) : a.fdiv (2 ^ 4) = a / 16 := fdiv_pow a 4
theorem c_qf (a : Int) (ta : Tok) (dl : Addr) (nd : Nat) (ha : 0 ≤ a ∧ a ≤ 127) (S : Bas w mean mg mb base) (hs : base.StaysIn s.heap) (hA : A.depth + 6 < recursionLimit)
   (hfo : ∀ p ∈ [(dl, listOf #[Value.int a ta] nd)], s.heap.get? p.1 = some p.2 ∧ base.get? p.1 = none)
   (hQ : ∀ h' tk d t0 t1, Ext [] s.heap h' → After s.heap d → (d == sysModules) = false → h'.DictOf (PySem.strKind prog w) d [(Str.ofString "frame_type", .int (a / 16) t0), (Str.ofString "frame_value", .int (a % 16) t1)] → Q (.ref d) {s with heap := h', toks := tk}) :
   wpAny (model prog w) A (call (.ref 200) [.ref dl]) Q E s := by
  refine enterM (binds := [(Str.ofString "data", .ref dl)]) _ S hs hfo (by k_is) (by k_is) (by omega) (.of_eq rfl) (locs rfl) ?_
  intro g L' h₁ hg F N X TT hgk hsz hL hgs
  have fx : ∀ o t0 t1, Obj.IsDictOf (PySem.strKind prog w) o [(Str.ofString "frame_type", .int (a.fdiv (2 ^ 4)) t0), (Str.ofString "frame_value", .int (Builtin.bitAnd a 15) t1)] → o.IsDictOf (PySem.strKind prog w) [(Str.ofString "frame_type", .int (a / 16) t0), (Str.ofString "frame_value", .int (a % 16) t1)] := fun o t0 t1 z => by rw [fdiv16, bitAnd_m4] at z; exact z
  k_steps
  rename Fr g L' _ _ => F2
  rename News g L' _ _ => N2
  rename @LT.lt Nat _ dl _ => lt1
  rename (_ == sysModules) = false => lo1
  rename Obj.IsDictOf _ _ _ => z
  exact hQ _ _ _ _ _ (ext_of [] hgk hsz hfo F2 N2 (by walk_at "mi_ro")) (after_none hgk (N2.fresh (.head _)) (by simpa using Nat.ne_of_gt lt1)) lo1 (Heap.dictOf_iff.mpr ⟨_, N2.get (.head _), fx _ _ _ z⟩)
theorem c_sg (a b : Int) (ta tb : Tok) (dl : Addr) (nd : Nat) (ha : 0 ≤ a ∧ a ≤ 127) (hb : 0 ≤ b ∧ b ≤ 127) (S : Bas w mean mg mb base) (hs : base.StaysIn s.heap) (hA : A.depth + 6 < recursionLimit)
   (hfo : ∀ p ∈ [(dl, listOf #[Value.int a ta, .int b tb] nd)], s.heap.get? p.1 = some p.2 ∧ base.get? p.1 = none)
   (hQ : ∀ h' tk d t0, Ext [] s.heap h' → After s.heap d → (d == sysModules) = false → h'.DictOf (PySem.strKind prog w) d [(Str.ofString "pos", .int (a + b * 128) t0)] → Q (.ref d) {s with heap := h', toks := tk}) :
   wpAny (model prog w) A (call (.ref 207) [.ref dl]) Q E s := by
  refine enterM (binds := [(Str.ofString "data", .ref dl)]) _ S hs hfo (by k_is) (by k_is) (by omega) (.of_eq rfl) (locs rfl) ?_
  intro g L' h₁ hg F N X TT hgk hsz hL hgs
  have fx : ∀ o t0, Obj.IsDictOf (PySem.strKind prog w) o [(Str.ofString "pos", .int (Builtin.bitOr a (b * 2 ^ 7)) t0)] → o.IsDictOf (PySem.strKind prog w) [(Str.ofString "pos", .int (a + b * 128) t0)] := fun o t0 z => by rw [bor_pos a b ha.1 ha.2] at z; exact z
  k_steps
  rename Fr g L' _ _ => F2
  rename News g L' _ _ => N2
  rename @LT.lt Nat _ dl _ => lt1
  rename (_ == sysModules) = false => lo1
  rename Obj.IsDictOf _ _ _ => z
  exact hQ _ _ _ _ (ext_of [] hgk hsz hfo F2 N2 (by walk_at "mi_ro")) (after_none hgk (N2.fresh (.head _)) (by simpa using Nat.ne_of_gt lt1)) lo1 (Heap.dictOf_iff.mpr ⟨_, N2.get (.head _), fx _ _ z⟩)
theorem c_pw (a b : Int) (ta tb : Tok) (dl : Addr) (nd : Nat) (ha : 0 ≤ a ∧ a ≤ 127) (hb : 0 ≤ b ∧ b ≤ 127) (S : Bas w mean mg mb base) (hs : base.StaysIn s.heap) (hA : A.depth + 6 < recursionLimit)
   (hfo : ∀ p ∈ [(dl, listOf #[Value.int a ta, .int b tb] nd)], s.heap.get? p.1 = some p.2 ∧ base.get? p.1 = none)
   (hQ : ∀ h' tk d t0, Ext [] s.heap h' → After s.heap d → (d == sysModules) = false → h'.DictOf (PySem.strKind prog w) d [(Str.ofString "pitch", .int (a + b * 128 - 8192) t0)] → Q (.ref d) {s with heap := h', toks := tk}) :
   wpAny (model prog w) A (call (.ref 214) [.ref dl]) Q E s := by
  refine enterM (binds := [(Str.ofString "data", .ref dl)]) _ S hs hfo (by k_is) (by k_is) (by omega) (.of_eq rfl) (locs rfl) ?_
  intro g L' h₁ hg F N X TT hgk hsz hL hgs
  have fx : ∀ o t0, Obj.IsDictOf (PySem.strKind prog w) o [(Str.ofString "pitch", .int (Builtin.bitOr a (b * 2 ^ 7 + -8192)) t0)] → o.IsDictOf (PySem.strKind prog w) [(Str.ofString "pitch", .int (a + b * 128 - 8192) t0)] := fun o t0 z => by rw [bor_pitch a b ha.1 ha.2] at z; exact z
  k_steps
  rename Fr g L' _ _ => F2
  rename News g L' _ _ => N2
  rename @LT.lt Nat _ dl _ => lt1
  rename (_ == sysModules) = false => lo1
  rename Obj.IsDictOf _ _ _ => z
  exact hQ _ _ _ _ (ext_of [] hgk hsz hfo F2 N2 (by walk_at "mi_ro")) (after_none hgk (N2.fresh (.head _)) (by simpa using Nat.ne_of_gt lt1)) lo1 (Heap.dictOf_iff.mpr ⟨_, N2.get (.head _), fx _ _ z⟩)
theorem c_sx (vd : Array Value) (dl : Addr) (nd : Nat) (hz : vd.size < 900) (S : Bas w mean mg mb base) (hs : base.StaysIn s.heap) (hA : A.depth + 6 < recursionLimit)
   (hfo : ∀ p ∈ [(dl, listOf vd nd)], s.heap.get? p.1 = some p.2 ∧ base.get? p.1 = none)
   (hQ : ∀ h' tk d tp, Ext [] s.heap h' → After s.heap d → After s.heap tp → tp ≠ d → (d == sysModules) = false → h'.get? tp = some ⟨.type "tuple", none, .seq vd 0, #[]⟩ → h'.DictOf (PySem.strKind prog w) d [(Str.ofString "data", .ref tp)] → Q (.ref d) {s with heap := h', toks := tk}) :
   wpAny (model prog w) A (call (.ref 193) [.ref dl]) Q E s := by
  refine enterM (binds := [(Str.ofString "data", .ref dl)]) _ S hs hfo (by k_is) (by k_is) (by omega) (.of_eq rfl) (locs rfl) ?_
  intro g L' h₁ hg F N X TT hgk hsz hL hgs
  k_steps
  rename Fr g L' _ _ => F2
  rename News g L' _ _ => N2
  rename @LT.lt Nat _ dl _ => lt1
  refine kde_tupleOf F2 N2 ⟨_, N2.get (.tail _ (.head _)), rfl, _, rfl⟩ (by omega) rfl fun tp h6 F6 N6 lt2 => ?_
  have lt3 := lt2 _ (.head _)
  dsimp only at lt3
  have tpn := Nat.ne_of_gt lt3
  have tpd : After s.heap tp := after_none hgk (N6.fresh (.head _)) (by
    have := lt2 _ (.tail _ (.head _))
    dsimp only at this
    simpa using Nat.ne_of_gt this)
  have hnn := Ne.symm tpn
  clear F2 N2
  k_steps
  rename Fr g L' _ _ => F2
  rename News g L' _ _ => N2
  rename (_ == sysModules) = false => lo1
  rename Obj.IsDictOf _ _ _ => z
  exact hQ _ _ _ tp (ext_of [] hgk hsz hfo F2 N2 (by walk_at "mi_ro")) (after_none hgk (N2.fresh (.tail _ (.head _))) (by simpa using Nat.ne_of_gt lt1)) tpd tpn lo1 (N2.get (.head _)) (Heap.dictOf_iff.mpr ⟨_, N2.get (.tail _ (.head _)), z⟩)
end PartQ
theorem restS {M : Model} {A : Around} {s : Shared} {E : Value → Shared → Prop} {env : Env} {Q : Flow → Shared → Prop} (h : Q .next s) : wpAny M A (execs [] env) Q E s := by
  w_top off
  walk1
  w_top off
  exact h
section PartS
local macro_rules | `(tactic| k_steps) => `(tactic| repeat' (first | ((with_reducible show wpAny _ _ (call (Value.ref _) _ _) _ _ _); walk_at "mi_pc") | ((fail_if_success (with_reducible show wpAny _ _ (call (Value.ref _) _ _) _ _ _)); (fail_if_success (with_reducible show wpAny _ _ (exec (Stmt.Raise _ _ _) _) _ _ _)); first | (k_unfold; (try dsimp only)) | (k_end; wrow_close) | walk1 | (dsimp only; walk1) | (leave1; walk_say "STEP leave1"; (try dsimp only)) | fail "no step")))
local macro_rules | `(tactic| k_ne) => `(tactic| first | assumption | exact Ne.symm (by assumption))
local macro_rules | `(tactic| walk_at "call builtin:len") => `(tactic| (k_here; (with_reducible show wpAny _ _ (call (Value.builtin "len") [Value.ref _]) _ _ _); refine PyProof.Rows.len_list (News.isList (by k_asm) (by k_mem)) (by (try simp only [Array.size_push, List.size_toArray]); omega) ?_))
local macro_rules | `(tactic| walk_at "mi_ro") => `(tactic| repeat' (first | exact ro_nil | refine ro_keep (by k_mem) ?_ | refine ro_mut (by simp) ?_))
local macro_rules | `(tactic| walk_at "mi_depth") => `(tactic| ((try simp only [PySem.Around.deeper, PySem.Around.in1_depth]); omega))
local macro_rules | `(tactic| walk_at "mi_pure") => `(tactic| exact hQ _ _ (ext_of [] hgk hsz (fo_nil (base := base)) (by assumption) (by assumption) ro_nil))
local macro_rules | `(tactic| walk_at "mi_steps") => `(tactic| repeat' ((fail_if_success (with_reducible show wpAny _ _ (exec (Stmt.For _ _ _ _ _) _) _ _ _)); first | ((with_reducible show wpAny _ _ (call (Value.ref _) _ _) _ _ _); walk_at "mi_pc") | ((fail_if_success (with_reducible show wpAny _ _ (call (Value.ref _) _ _) _ _ _)); (fail_if_success (with_reducible show wpAny _ _ (exec (Stmt.Raise _ _ _) _) _ _ _)); first | (k_unfold; (try dsimp only)) | (k_end; kc_close) | walk1 | (dsimp only; walk1) | (leave1; walk_say "STEP leave1"; (try dsimp only)) | fail "no step")))
local macro_rules | `(tactic| walk_at "subscriptTail") => `(tactic| (k_here; (with_reducible show wpAny _ _ (subscriptTail _ _ (Value.ref _) (Value.str _ _)) _ _ _); k_dflt (refine' topItem_K ?F ?X ?l ?k ?e ?_; (case F => k_asm); (case X => k_asm); (case l => first | assumption | k_is); (case k => first | assumption | k_keys); (case e => first | assumption | k_is))))
local macro_rules | `(tactic| walk_at "mi_stepsC") => `(tactic| repeat' ((fail_if_success (with_reducible show wpAny _ _ (exec (Stmt.For _ _ _ _ _) _) _ _ _)); (fail_if_success (with_reducible show wpAny _ _ (exec (Stmt.Assign [_] (Expr.ListComp _ _ _ _) _) _) _ _ _)); (fail_if_success (with_reducible show wpAny _ _ (call (Value.type "zip") _) _ _ _)); (fail_if_success (with_reducible show wpAny _ _ (exec (Stmt.Assign [_] (Expr.DictComp _ _ _ _ _) _) _) _ _ _)); first | ((with_reducible show wpAny _ _ (call (Value.ref _) _ _) _ _ _); walk_at "mi_pc") | ((fail_if_success (with_reducible show wpAny _ _ (call (Value.ref _) _ _) _ _ _)); (fail_if_success (with_reducible show wpAny _ _ (exec (Stmt.Raise _ _ _) _) _ _ _)); first | (k_unfold; (try dsimp only)) | (k_end; kc_close) | walk1 | (dsimp only; walk1) | (leave1; walk_say "STEP leave1"; (try dsimp only)) | fail "no step")))
local macro_rules | `(tactic| walk_at "mi_stepsO") => `(tactic| repeat' ((fail_if_success (with_reducible show wpAny _ _ (exec (Stmt.For _ _ _ _ _) _) _ _ _)); (fail_if_success (with_reducible show wpAny _ _ (exec (Stmt.Assign [_] (Expr.ListComp _ _ _ _) _) _) _ _ _)); (fail_if_success (with_reducible show wpAny _ _ (call (Value.type "zip") _) _ _ _)); (fail_if_success (with_reducible show wpAny _ _ (exec (Stmt.Assign [_] (Expr.DictComp _ _ _ _ _) _) _) _ _ _)); first | ((with_reducible show wpAny _ _ (call (Value.ref _) _ _) _ _ _); walk_at "mi_pc") | ((fail_if_success (with_reducible show wpAny _ _ (call (Value.ref _) _ _) _ _ _)); (fail_if_success (with_reducible show wpAny _ _ (exec (Stmt.Raise _ _ _) _) _ _ _)); first | ((with_reducible show wpAny _ _ (execs _ _) _ _ _); exfalso; omega) | (k_unfold; (try dsimp only)) | (k_end; kc_close) | walk1 | (dsimp only; walk1) | (leave1; walk_say "STEP leave1"; (try dsimp only)) | fail "no step")))
local macro_rules | `(tactic| walk_at "getMethod ref") => `(tactic| (k_here; (with_reducible show wpAny _ _ (getMethod (Value.ref _) (Str.ofString "update") _) _ _ _); k_dflt (refine' kda_method (knd := PySem.strKind _ _) ?N ?p ?d PySem.F.slot_dict_update PySem.F.type_dict_update ?_; (case N => k_asm); (case p => k_mem); (case d => assumption))))
local macro_rules | `(tactic| walk_at "call builtin:dict.update") => `(tactic| (k_here; (with_reducible show wpAny _ _ (call (Value.builtin "dict.update") [Value.ref _, Value.ref _]) _ _ _); k_dflt (refine' kda_update (knd := PySem.strKind _ _) ?F ?N ?U ?d ?p ?e ?n ?l ?z ?_; (case F => k_asm); (case N => k_asm); (case U => k_updF); (case d => assumption); (case p => k_mem); (case e => assumption); (case n => k_ne); (case l => assumption); (case z => assumption)); intro h' o' F' N' hd'; (try dsimp only at N')))
local macro_rules | `(tactic| walk_at "setItem ref str") => `(tactic| (k_here; k_dflt (refine' kda_set (knd := PySem.strKind _ _) ?F ?N ?U ?d (strKind_is _ _ _ _) ?z ?_; (case F => k_asm); (case N => k_asm); (case U => k_updF); (case d => assumption); (case z => first | assumption | decide)); intro h' o' F' N' hd'; (try dsimp only at N')))
local macro_rules | `(tactic| walk_at "call ref") => `(tactic| ((with_reducible show wpAny _ _ (call (Value.ref 28) _ _) _ _ _); refine pure_K (D := 2) (fun hs hA hQ => c_ics _ _ (by assumption) hs hA hQ) (by assumption) (by assumption) (by assumption) (by walk_at "mi_depth") ?_; intro h9 tk9 F9 N9; (try dsimp only)))
local macro_rules | `(tactic| walk_at "mi_pc") => `(tactic| ((with_reducible show wpAny _ _ (call (Value.ref 28) _ _) _ _ _); refine pure_K (D := 2) (fun hs hA hQ => c_ics _ _ (by assumption) hs hA hQ) (by assumption) (by assumption) (by assumption) (by walk_at "mi_depth") ?_; intro h9 tk9 F9 N9; (try dsimp only)))
local macro_rules | `(tactic| walk_at "call ref") => `(tactic| ((with_reducible show wpAny _ _ (call (Value.ref 93) _ _) _ _ _); refine pure_K (D := 4) (fun hs hA hQ => c_hs _ _ (by assumption) hs hA hQ) (by assumption) (by assumption) (by assumption) (by walk_at "mi_depth") ?_; intro h9 tk9 F9 N9; (try dsimp only)))
local macro_rules | `(tactic| walk_at "mi_pc") => `(tactic| ((with_reducible show wpAny _ _ (call (Value.ref 93) _ _) _ _ _); refine pure_K (D := 4) (fun hs hA hQ => c_hs _ _ (by assumption) hs hA hQ) (by assumption) (by assumption) (by assumption) (by walk_at "mi_depth") ?_; intro h9 tk9 F9 N9; (try dsimp only)))
theorem c_sc_qf (a : Int) (tn ta : Tok) (dl : Addr) (nd : Nat) (ha : 0 ≤ a ∧ a ≤ 127) (S : Bas w mean mg mb base) (hs : base.StaysIn s.heap) (hA : A.depth + 10 < recursionLimit)
   (hfo : ∀ p ∈ [(dl, listOf #[Value.int a ta] nd)], s.heap.get? p.1 = some p.2 ∧ base.get? p.1 = none)
   (hQ : ∀ h' tk d t0 t1, Ext [] s.heap h' → After s.heap d → (d == sysModules) = false → h'.DictOf (PySem.strKind prog w) d [(Str.ofString "frame_type", .int (a / 16) t0), (Str.ofString "frame_value", .int (a % 16) t1)] → Q (.ref d) {s with heap := h', toks := tk}) :
   wpAny (model prog w) A (call (.ref 221) [.int 241 tn, .ref dl]) Q E s := by
  refine enterM (binds := [(Str.ofString "status_byte", .int 241 tn), (Str.ofString "data", .ref dl)]) _ S hs hfo (by k_is) (by k_is) (by omega) (.of_eq rfl) (locs rfl) ?_
  intro g L' h₁ hg F N X TT hgk hsz hL hgs
  walk_at "mi_stepsO"
  rename Fr g L' _ _ => F2
  rename News g L' _ _ => N2
  refine c_qf a ta dl nd ha S (fun b o q => F2.keep b o (hg b o q)) (by walk_at "mi_depth") (fo_cons (N2.get (.head _)) (base_none hg (N2.fresh (.head _))) fo_nil) fun h6 tk6 d t0 t1 e6 a6 lo6 hd6 => ?_
  have F6 := frExt F2 e6 (fun h => nomatch h) (fun _ h => nomatch h)
  obtain ⟨o6, ho6, hdk6⟩ := Heap.dictOf_iff.mp hd6
  have N6 := nwCons ho6 (goneL F2 a6) (gone F2 a6) (nwExt N2 e6 (fun _ _ h => nomatch h))
  have dn : d ≠ dl := a6.ne (N2.get (.head _))
  clear F2 N2
  k_steps
  rename Fr g L' _ _ => F2
  rename News g L' _ _ => N2
  exact hQ _ _ _ t0 t1 (ext_of [] hgk hsz hfo F2 N2 (by walk_at "mi_ro")) (after_none hgk (N2.fresh (.head _)) (by simpa using dn)) lo6 (Heap.dictOf_iff.mpr ⟨_, N2.get (.head _), hdk6⟩)
theorem c_dm_qf (a : Int) (tn ta : Tok) (bl : Addr) (nd : Nat) (t0 : Tok) (ha : 0 ≤ a ∧ a ≤ 127) (S : Bas w mean mg mb base) (hs : base.StaysIn s.heap) (hA : A.depth + 20 < recursionLimit) (hh : A.handled = none)
   (hfo : ∀ p ∈ [(bl, listOf #[Value.int 241 tn, .int a ta] nd)], s.heap.get? p.1 = some p.2 ∧ base.get? p.1 = none)
   (hQ : ∀ h' tk d tt t0_ t1_, Ext [] s.heap h' → After s.heap d → (d == sysModules) = false → h'.DictOf (PySem.strKind prog w) d [(Str.ofString "type", .str (Str.ofString "quarter_frame") tt), (Str.ofString "time", .int 0 t0), (Str.ofString "frame_type", .int (a / 16) t0_), (Str.ofString "frame_value", .int (a % 16) t1_)] → Q (.ref d) {s with heap := h', toks := tk}) :
   wpAny (model prog w) A (call (.ref 234) [.ref bl] [(Str.ofString "time", .int 0 t0)]) Q E s := by
  have hB : hsB 241 = true := (by decide)
  have Xs : (hd.heap_39 w.params).In s.heap := S.X.keeps hs
  refine enterM (binds := [(Str.ofString "msg_bytes", .ref bl), (Str.ofString "time", .int 0 t0), (Str.ofString "check", .bool true)]) _ S hs hfo (by k_is) (by k_is) (by omega) ?bd (locs rfl) ?_
  case bd => exact binds_K Xs rfl (by k_is) rfl rfl rfl
  intro g L' h₁ hg F N X TT hgk hsz hL hgs
  walk_at "mi_stepsC"
  all_goals first | exact Bool.noConfusion (hB.symm.trans (by assumption)) | skip
  have key : ∃ D1 t1, Fr g L' _ (fun y => if y = Str.ofString "data" then some (Value.ref D1) else if y = Str.ofString "status_byte" then some (.int 241 t1) else List.lookup y [(Str.ofString "msg_bytes", Value.ref bl), (Str.ofString "time", Value.int 0 t0), (Str.ofString "check", Value.bool true)].reverse) ∧
     News g L' _ [(D1, listOf #[Value.int a ta] 0), (bl, listOf #[Value.int 241 tn, .int a ta] nd)] := ⟨_, _, by rename Fr g L' _ _ => F2; exact F2, by rename News g L' _ _ => N2; exact N2⟩
  obtain ⟨D1, t1, F2, N2⟩ := key
  refine pure_K (D := 4) (v := .ref 54) (fun {A s Q E} hs hA hQ => c_ss_241 _ S hs hA hQ) (by assumption) F2 N2 (by walk_at "mi_depth") ?_
  intro h9 tk9 F9 N9; (try dsimp only)
  clear F2 N2
  walk_at "mi_stepsO"
  have key : ∃ d o tt, Fr g L' _ (fun y => if y = Str.ofString "msg" then some (Value.ref d) else if y = Str.ofString "spec" then some (Value.ref 54) else if y = Str.ofString "data" then some (Value.ref D1) else if y = Str.ofString "status_byte" then some (.int 241 t1) else List.lookup y [(Str.ofString "msg_bytes", Value.ref bl), (Str.ofString "time", Value.int 0 t0), (Str.ofString "check", Value.bool true)].reverse) ∧
     News g L' _ [(d, o), (D1, listOf #[Value.int a ta] 0), (bl, listOf #[Value.int 241 tn, .int a ta] nd)] ∧ o.IsDictOf (PySem.strKind prog w) [(Str.ofString "type", .str (Str.ofString "quarter_frame") tt), (Str.ofString "time", .int 0 t0)] ∧ (d == sysModules) = false ∧ d ≠ D1 ∧ d ≠ bl :=
    ⟨_, _, _, by rename Fr g L' _ _ => F2; exact F2, by rename News g L' _ _ => N2; exact N2, by rename Obj.IsDictOf _ _ _ => z; exact z, by assumption, by rename (_ ∧ @LT.lt Nat _ bl _) => z; exact Nat.ne_of_gt z.1, by rename (_ ∧ @LT.lt Nat _ bl _) => z; exact Nat.ne_of_gt z.2⟩
  obtain ⟨d, o, tt, F2, N2, hdk, dlo, dD, dB⟩ := key
  have gD : g.get? D1 = none := N2.fresh (.tail _ (.head _))
  refine c_cdL D1 [a] (by exact List.forall_mem_cons.mpr ⟨ha, fun _ h => nomatch h⟩) S (fun b o q => F2.keep b o (hg b o q)) (by walk_at "mi_depth") hh ⟨_, _, N2.get (.tail _ (.head _)), (.cons a ta .nil)⟩ (base_none hg gD) fun h6 tk6 e6 => ?_
  have F6 := frExt F2 e6 (fun h => nomatch h) (fun _ h => nomatch h)
  have N6 := nwExt N2 e6 (fun _ _ h => nomatch h)
  clear F2 N2
  walk_at "mi_stepsO"
  rename Fr g L' _ _ => F2
  rename News g L' _ _ => N2
  obtain ⟨o3, N3, hdk3⟩ : ∃ o3, News g L' _ [(d, o3), (D1, listOf #[Value.int a ta] 0), (bl, listOf #[Value.int 241 tn, .int a ta] nd)] ∧ Obj.IsDictOf (PySem.strKind prog w) o3 [(Str.ofString "type", .str (Str.ofString "quarter_frame") tt), (Str.ofString "time", .int 0 t0)] := ⟨_, N2, hdk⟩
  refine c_sc_qf a t1 ta D1 0 ha S (fun b o q => F2.keep b o (hg b o q)) (by walk_at "mi_depth") (fo_cons (N3.get (.tail _ (.head _))) (base_none hg gD) fo_nil) fun h7 tk7 d2 t0_ t1_ e7 a2 lo2 hd2 => ?_
  obtain ⟨o2, ho2, hdk2⟩ := Heap.dictOf_iff.mp hd2
  have F7 := frExt F2 e7 (fun h => nomatch h) (fun _ h => nomatch h)
  have d2d : d2 ≠ d := a2.ne (N3.get (.head _))
  have d2D : d2 ≠ D1 := a2.ne (N3.get (.tail _ (.head _)))
  have d2B : d2 ≠ bl := a2.ne (N3.get (.tail _ (.tail _ (.head _))))
  have N7 := nwCons ho2 (goneL F2 a2) (gone F2 a2) (nwExt N3 e7 (fun _ _ h => nomatch h))
  clear F2 N2 N3
  generalize hkv : ([(Str.ofString "frame_type", .int (a / 16) t0_), (Str.ofString "frame_value", .int (a % 16) t1_)] : List (Str × Value)) = kv at hdk2
  have hkvs : ([(Str.ofString "type", Value.str (Str.ofString "quarter_frame") tt), (Str.ofString "time", .int 0 t0)] : List (Str × Value)).length + kv.length ≤ sizeLine := by
    rw [← hkv, sizeLine_eq]; simp only [List.length_cons, List.length_nil]; omega
  walk_at "mi_stepsC"
  have key : ∃ o6, Fr g L' _ _ ∧ News g L' _ [(d2, o2), (d, o6), (D1, listOf #[Value.int a ta] 0), (bl, listOf #[Value.int 241 tn, .int a ta] nd)] ∧ o6.IsDictOf (PySem.strKind prog w) (merged [(Str.ofString "type", .str (Str.ofString "quarter_frame") tt), (Str.ofString "time", .int 0 t0)] kv) := ⟨_, by assumption, by assumption, by assumption⟩
  obtain ⟨o6, F8, N8, hd8⟩ := key
  refine hQ _ _ d tt t0_ t1_ (ext_of [] hgk hsz hfo F8 N8 (by walk_at "mi_ro")) (after_none hgk (N8.fresh (.tail _ (.head _))) (by simpa using dB)) dlo ?_
  rw [← hkv] at hd8
  exact Heap.dictOf_iff.mpr ⟨_, N8.get (.tail _ (.head _)), hd8⟩
theorem c_sc_sg (a b : Int) (tn ta tb : Tok) (dl : Addr) (nd : Nat) (ha : 0 ≤ a ∧ a ≤ 127) (hb : 0 ≤ b ∧ b ≤ 127) (S : Bas w mean mg mb base) (hs : base.StaysIn s.heap) (hA : A.depth + 10 < recursionLimit)
   (hfo : ∀ p ∈ [(dl, listOf #[Value.int a ta, .int b tb] nd)], s.heap.get? p.1 = some p.2 ∧ base.get? p.1 = none)
   (hQ : ∀ h' tk d t0, Ext [] s.heap h' → After s.heap d → (d == sysModules) = false → h'.DictOf (PySem.strKind prog w) d [(Str.ofString "pos", .int (a + b * 128) t0)] → Q (.ref d) {s with heap := h', toks := tk}) :
   wpAny (model prog w) A (call (.ref 221) [.int 242 tn, .ref dl]) Q E s := by
  refine enterM (binds := [(Str.ofString "status_byte", .int 242 tn), (Str.ofString "data", .ref dl)]) _ S hs hfo (by k_is) (by k_is) (by omega) (.of_eq rfl) (locs rfl) ?_
  intro g L' h₁ hg F N X TT hgk hsz hL hgs
  walk_at "mi_stepsO"
  rename Fr g L' _ _ => F2
  rename News g L' _ _ => N2
  refine c_sg a b ta tb dl nd ha hb S (fun b o q => F2.keep b o (hg b o q)) (by walk_at "mi_depth") (fo_cons (N2.get (.head _)) (base_none hg (N2.fresh (.head _))) fo_nil) fun h6 tk6 d t0 e6 a6 lo6 hd6 => ?_
  have F6 := frExt F2 e6 (fun h => nomatch h) (fun _ h => nomatch h)
  obtain ⟨o6, ho6, hdk6⟩ := Heap.dictOf_iff.mp hd6
  have N6 := nwCons ho6 (goneL F2 a6) (gone F2 a6) (nwExt N2 e6 (fun _ _ h => nomatch h))
  have dn : d ≠ dl := a6.ne (N2.get (.head _))
  clear F2 N2
  k_steps
  rename Fr g L' _ _ => F2
  rename News g L' _ _ => N2
  exact hQ _ _ _ t0 (ext_of [] hgk hsz hfo F2 N2 (by walk_at "mi_ro")) (after_none hgk (N2.fresh (.head _)) (by simpa using dn)) lo6 (Heap.dictOf_iff.mpr ⟨_, N2.get (.head _), hdk6⟩)
theorem c_dm_sg (a b : Int) (tn ta tb : Tok) (bl : Addr) (nd : Nat) (t0 : Tok) (ha : 0 ≤ a ∧ a ≤ 127) (hb : 0 ≤ b ∧ b ≤ 127) (S : Bas w mean mg mb base) (hs : base.StaysIn s.heap) (hA : A.depth + 20 < recursionLimit) (hh : A.handled = none)
   (hfo : ∀ p ∈ [(bl, listOf #[Value.int 242 tn, .int a ta, .int b tb] nd)], s.heap.get? p.1 = some p.2 ∧ base.get? p.1 = none)
   (hQ : ∀ h' tk d tt t0_, Ext [] s.heap h' → After s.heap d → (d == sysModules) = false → h'.DictOf (PySem.strKind prog w) d [(Str.ofString "type", .str (Str.ofString "songpos") tt), (Str.ofString "time", .int 0 t0), (Str.ofString "pos", .int (a + b * 128) t0_)] → Q (.ref d) {s with heap := h', toks := tk}) :
   wpAny (model prog w) A (call (.ref 234) [.ref bl] [(Str.ofString "time", .int 0 t0)]) Q E s := by
  have hB : hsB 242 = true := (by decide)
  have Xs : (hd.heap_39 w.params).In s.heap := S.X.keeps hs
  refine enterM (binds := [(Str.ofString "msg_bytes", .ref bl), (Str.ofString "time", .int 0 t0), (Str.ofString "check", .bool true)]) _ S hs hfo (by k_is) (by k_is) (by omega) ?bd (locs rfl) ?_
  case bd => exact binds_K Xs rfl (by k_is) rfl rfl rfl
  intro g L' h₁ hg F N X TT hgk hsz hL hgs
  walk_at "mi_stepsC"
  all_goals first | exact Bool.noConfusion (hB.symm.trans (by assumption)) | skip
  have key : ∃ D1 t1, Fr g L' _ (fun y => if y = Str.ofString "data" then some (Value.ref D1) else if y = Str.ofString "status_byte" then some (.int 242 t1) else List.lookup y [(Str.ofString "msg_bytes", Value.ref bl), (Str.ofString "time", Value.int 0 t0), (Str.ofString "check", Value.bool true)].reverse) ∧
     News g L' _ [(D1, listOf #[Value.int a ta, .int b tb] 0), (bl, listOf #[Value.int 242 tn, .int a ta, .int b tb] nd)] := ⟨_, _, by rename Fr g L' _ _ => F2; exact F2, by rename News g L' _ _ => N2; exact N2⟩
  obtain ⟨D1, t1, F2, N2⟩ := key
  refine pure_K (D := 4) (v := .ref 57) (fun {A s Q E} hs hA hQ => c_ss_242 _ S hs hA hQ) (by assumption) F2 N2 (by walk_at "mi_depth") ?_
  intro h9 tk9 F9 N9; (try dsimp only)
  clear F2 N2
  walk_at "mi_stepsO"
  have key : ∃ d o tt, Fr g L' _ (fun y => if y = Str.ofString "msg" then some (Value.ref d) else if y = Str.ofString "spec" then some (Value.ref 57) else if y = Str.ofString "data" then some (Value.ref D1) else if y = Str.ofString "status_byte" then some (.int 242 t1) else List.lookup y [(Str.ofString "msg_bytes", Value.ref bl), (Str.ofString "time", Value.int 0 t0), (Str.ofString "check", Value.bool true)].reverse) ∧
     News g L' _ [(d, o), (D1, listOf #[Value.int a ta, .int b tb] 0), (bl, listOf #[Value.int 242 tn, .int a ta, .int b tb] nd)] ∧ o.IsDictOf (PySem.strKind prog w) [(Str.ofString "type", .str (Str.ofString "songpos") tt), (Str.ofString "time", .int 0 t0)] ∧ (d == sysModules) = false ∧ d ≠ D1 ∧ d ≠ bl :=
    ⟨_, _, _, by rename Fr g L' _ _ => F2; exact F2, by rename News g L' _ _ => N2; exact N2, by rename Obj.IsDictOf _ _ _ => z; exact z, by assumption, by rename (_ ∧ @LT.lt Nat _ bl _) => z; exact Nat.ne_of_gt z.1, by rename (_ ∧ @LT.lt Nat _ bl _) => z; exact Nat.ne_of_gt z.2⟩
  obtain ⟨d, o, tt, F2, N2, hdk, dlo, dD, dB⟩ := key
  have gD : g.get? D1 = none := N2.fresh (.tail _ (.head _))
  refine c_cdL D1 [a, b] (by exact List.forall_mem_cons.mpr ⟨ha, List.forall_mem_cons.mpr ⟨hb, fun _ h => nomatch h⟩⟩) S (fun b o q => F2.keep b o (hg b o q)) (by walk_at "mi_depth") hh ⟨_, _, N2.get (.tail _ (.head _)), (.cons a ta (.cons b tb .nil))⟩ (base_none hg gD) fun h6 tk6 e6 => ?_
  have F6 := frExt F2 e6 (fun h => nomatch h) (fun _ h => nomatch h)
  have N6 := nwExt N2 e6 (fun _ _ h => nomatch h)
  clear F2 N2
  walk_at "mi_stepsO"
  rename Fr g L' _ _ => F2
  rename News g L' _ _ => N2
  obtain ⟨o3, N3, hdk3⟩ : ∃ o3, News g L' _ [(d, o3), (D1, listOf #[Value.int a ta, .int b tb] 0), (bl, listOf #[Value.int 242 tn, .int a ta, .int b tb] nd)] ∧ Obj.IsDictOf (PySem.strKind prog w) o3 [(Str.ofString "type", .str (Str.ofString "songpos") tt), (Str.ofString "time", .int 0 t0)] := ⟨_, N2, hdk⟩
  refine c_sc_sg a b t1 ta tb D1 0 ha hb S (fun b o q => F2.keep b o (hg b o q)) (by walk_at "mi_depth") (fo_cons (N3.get (.tail _ (.head _))) (base_none hg gD) fo_nil) fun h7 tk7 d2 t0_ e7 a2 lo2 hd2 => ?_
  obtain ⟨o2, ho2, hdk2⟩ := Heap.dictOf_iff.mp hd2
  have F7 := frExt F2 e7 (fun h => nomatch h) (fun _ h => nomatch h)
  have d2d : d2 ≠ d := a2.ne (N3.get (.head _))
  have d2D : d2 ≠ D1 := a2.ne (N3.get (.tail _ (.head _)))
  have d2B : d2 ≠ bl := a2.ne (N3.get (.tail _ (.tail _ (.head _))))
  have N7 := nwCons ho2 (goneL F2 a2) (gone F2 a2) (nwExt N3 e7 (fun _ _ h => nomatch h))
  clear F2 N2 N3
  generalize hkv : ([(Str.ofString "pos", .int (a + b * 128) t0_)] : List (Str × Value)) = kv at hdk2
  have hkvs : ([(Str.ofString "type", Value.str (Str.ofString "songpos") tt), (Str.ofString "time", .int 0 t0)] : List (Str × Value)).length + kv.length ≤ sizeLine := by
    rw [← hkv, sizeLine_eq]; simp only [List.length_cons, List.length_nil]; omega
  walk_at "mi_stepsC"
  have key : ∃ o6, Fr g L' _ _ ∧ News g L' _ [(d2, o2), (d, o6), (D1, listOf #[Value.int a ta, .int b tb] 0), (bl, listOf #[Value.int 242 tn, .int a ta, .int b tb] nd)] ∧ o6.IsDictOf (PySem.strKind prog w) (merged [(Str.ofString "type", .str (Str.ofString "songpos") tt), (Str.ofString "time", .int 0 t0)] kv) := ⟨_, by assumption, by assumption, by assumption⟩
  obtain ⟨o6, F8, N8, hd8⟩ := key
  refine hQ _ _ d tt t0_ (ext_of [] hgk hsz hfo F8 N8 (by walk_at "mi_ro")) (after_none hgk (N8.fresh (.tail _ (.head _))) (by simpa using dB)) dlo ?_
  rw [← hkv] at hd8
  exact Heap.dictOf_iff.mpr ⟨_, N8.get (.tail _ (.head _)), hd8⟩
theorem c_sc_pw (n : Int) (hn1 : 224 ≤ n) (hn2 : n ≤ 239) (a b : Int) (tn ta tb : Tok) (dl : Addr) (nd : Nat) (ha : 0 ≤ a ∧ a ≤ 127) (hb : 0 ≤ b ∧ b ≤ 127) (S : Bas w mean mg mb base) (hs : base.StaysIn s.heap) (hA : A.depth + 10 < recursionLimit)
   (hfo : ∀ p ∈ [(dl, listOf #[Value.int a ta, .int b tb] nd)], s.heap.get? p.1 = some p.2 ∧ base.get? p.1 = none)
   (hQ : ∀ h' tk d t0, Ext [] s.heap h' → After s.heap d → (d == sysModules) = false → h'.DictOf (PySem.strKind prog w) d [(Str.ofString "pitch", .int (a + b * 128 - 8192) t0)] → Q (.ref d) {s with heap := h', toks := tk}) :
   wpAny (model prog w) A (call (.ref 221) [.int n tn, .ref dl]) Q E s := by
  refine enterM (binds := [(Str.ofString "status_byte", .int n tn), (Str.ofString "data", .ref dl)]) _ S hs hfo (by k_is) (by k_is) (by omega) (.of_eq rfl) (locs rfl) ?_
  intro g L' h₁ hg F N X TT hgk hsz hL hgs
  walk_at "mi_stepsO"
  rename Fr g L' _ _ => F2
  rename News g L' _ _ => N2
  refine c_pw a b ta tb dl nd ha hb S (fun b o q => F2.keep b o (hg b o q)) (by walk_at "mi_depth") (fo_cons (N2.get (.head _)) (base_none hg (N2.fresh (.head _))) fo_nil) fun h6 tk6 d t0 e6 a6 lo6 hd6 => ?_
  have F6 := frExt F2 e6 (fun h => nomatch h) (fun _ h => nomatch h)
  obtain ⟨o6, ho6, hdk6⟩ := Heap.dictOf_iff.mp hd6
  have N6 := nwCons ho6 (goneL F2 a6) (gone F2 a6) (nwExt N2 e6 (fun _ _ h => nomatch h))
  have dn : d ≠ dl := a6.ne (N2.get (.head _))
  clear F2 N2
  k_steps
  rename Fr g L' _ _ => F2
  rename News g L' _ _ => N2
  exact hQ _ _ _ t0 (ext_of [] hgk hsz hfo F2 N2 (by walk_at "mi_ro")) (after_none hgk (N2.fresh (.head _)) (by simpa using dn)) lo6 (Heap.dictOf_iff.mpr ⟨_, N2.get (.head _), hdk6⟩)
theorem c_dm_pw (n : Int) (hn1 : 224 ≤ n) (hn2 : n ≤ 239) (a b : Int) (tn ta tb : Tok) (bl : Addr) (nd : Nat) (t0 : Tok) (ha : 0 ≤ a ∧ a ≤ 127) (hb : 0 ≤ b ∧ b ≤ 127) (S : Bas w mean mg mb base) (hs : base.StaysIn s.heap) (hA : A.depth + 20 < recursionLimit) (hh : A.handled = none)
   (hfo : ∀ p ∈ [(bl, listOf #[Value.int n tn, .int a ta, .int b tb] nd)], s.heap.get? p.1 = some p.2 ∧ base.get? p.1 = none)
   (hQ : ∀ h' tk d tt tc t0_, Ext [] s.heap h' → After s.heap d → (d == sysModules) = false → h'.DictOf (PySem.strKind prog w) d [(Str.ofString "type", .str (Str.ofString "pitchwheel") tt), (Str.ofString "time", .int 0 t0), (Str.ofString "channel", .int (n % 16) tc), (Str.ofString "pitch", .int (a + b * 128 - 8192) t0_)] → Q (.ref d) {s with heap := h', toks := tk}) :
   wpAny (model prog w) A (call (.ref 234) [.ref bl] [(Str.ofString "time", .int 0 t0)]) Q E s := by
  have hB : hsB n = true := (by simp [hsB, show (128 ≤ n ∧ n ≤ 239) from ⟨by omega, by omega⟩])
  have Xs : (hd.heap_39 w.params).In s.heap := S.X.keeps hs
  refine enterM (binds := [(Str.ofString "msg_bytes", .ref bl), (Str.ofString "time", .int 0 t0), (Str.ofString "check", .bool true)]) _ S hs hfo (by k_is) (by k_is) (by omega) ?bd (locs rfl) ?_
  case bd => exact binds_K Xs rfl (by k_is) rfl rfl rfl
  intro g L' h₁ hg F N X TT hgk hsz hL hgs
  walk_at "mi_stepsC"
  all_goals first | exact Bool.noConfusion (hB.symm.trans (by assumption)) | skip
  have key : ∃ D1 t1, Fr g L' _ (fun y => if y = Str.ofString "data" then some (Value.ref D1) else if y = Str.ofString "status_byte" then some (.int n t1) else List.lookup y [(Str.ofString "msg_bytes", Value.ref bl), (Str.ofString "time", Value.int 0 t0), (Str.ofString "check", Value.bool true)].reverse) ∧
     News g L' _ [(D1, listOf #[Value.int a ta, .int b tb] 0), (bl, listOf #[Value.int n tn, .int a ta, .int b tb] nd)] := ⟨_, _, by rename Fr g L' _ _ => F2; exact F2, by rename News g L' _ _ => N2; exact N2⟩
  obtain ⟨D1, t1, F2, N2⟩ := key
  refine pure_K (D := 4) (v := .ref 48) (fun {A s Q E} hs hA hQ => c_ss_224 n _ S hs hA (by omega) (by omega) hQ) (by assumption) F2 N2 (by walk_at "mi_depth") ?_
  intro h9 tk9 F9 N9; (try dsimp only)
  clear F2 N2
  walk_at "mi_stepsO"
  have key : ∃ d o tt, Fr g L' _ (fun y => if y = Str.ofString "msg" then some (Value.ref d) else if y = Str.ofString "spec" then some (Value.ref 48) else if y = Str.ofString "data" then some (Value.ref D1) else if y = Str.ofString "status_byte" then some (.int n t1) else List.lookup y [(Str.ofString "msg_bytes", Value.ref bl), (Str.ofString "time", Value.int 0 t0), (Str.ofString "check", Value.bool true)].reverse) ∧
     News g L' _ [(d, o), (D1, listOf #[Value.int a ta, .int b tb] 0), (bl, listOf #[Value.int n tn, .int a ta, .int b tb] nd)] ∧ o.IsDictOf (PySem.strKind prog w) [(Str.ofString "type", .str (Str.ofString "pitchwheel") tt), (Str.ofString "time", .int 0 t0)] ∧ (d == sysModules) = false ∧ d ≠ D1 ∧ d ≠ bl :=
    ⟨_, _, _, by rename Fr g L' _ _ => F2; exact F2, by rename News g L' _ _ => N2; exact N2, by rename Obj.IsDictOf _ _ _ => z; exact z, by assumption, by rename (_ ∧ @LT.lt Nat _ bl _) => z; exact Nat.ne_of_gt z.1, by rename (_ ∧ @LT.lt Nat _ bl _) => z; exact Nat.ne_of_gt z.2⟩
  obtain ⟨d, o, tt, F2, N2, hdk, dlo, dD, dB⟩ := key
  have gD : g.get? D1 = none := N2.fresh (.tail _ (.head _))
  refine c_cdL D1 [a, b] (by exact List.forall_mem_cons.mpr ⟨ha, List.forall_mem_cons.mpr ⟨hb, fun _ h => nomatch h⟩⟩) S (fun b o q => F2.keep b o (hg b o q)) (by walk_at "mi_depth") hh ⟨_, _, N2.get (.tail _ (.head _)), (.cons a ta (.cons b tb .nil))⟩ (base_none hg gD) fun h6 tk6 e6 => ?_
  have F6 := frExt F2 e6 (fun h => nomatch h) (fun _ h => nomatch h)
  have N6 := nwExt N2 e6 (fun _ _ h => nomatch h)
  clear F2 N2
  walk_at "mi_stepsO"
  rename Fr g L' _ _ => F2
  rename News g L' _ _ => N2
  have fx : ∀ o tc, Obj.IsDictOf (PySem.strKind prog w) o (stored [(Str.ofString "type", .str (Str.ofString "pitchwheel") tt), (Str.ofString "time", .int 0 t0)] (Str.ofString "channel") (.int (Builtin.bitAnd n 15) tc)) → o.IsDictOf (PySem.strKind prog w) [(Str.ofString "type", .str (Str.ofString "pitchwheel") tt), (Str.ofString "time", .int 0 t0), (Str.ofString "channel", .int (n % 16) tc)] := fun o tc z => by rw [bitAnd_m4] at z; exact z
  obtain ⟨o3, tc, N3, hdk3⟩ : ∃ o3 tc, News g L' _ [(d, o3), (D1, listOf #[Value.int a ta, .int b tb] 0), (bl, listOf #[Value.int n tn, .int a ta, .int b tb] nd)] ∧ Obj.IsDictOf (PySem.strKind prog w) o3 [(Str.ofString "type", .str (Str.ofString "pitchwheel") tt), (Str.ofString "time", .int 0 t0), (Str.ofString "channel", .int (n % 16) tc)] := ⟨_, _, N2, fx _ _ (by assumption)⟩
  refine c_sc_pw n hn1 hn2 a b t1 ta tb D1 0 ha hb S (fun b o q => F2.keep b o (hg b o q)) (by walk_at "mi_depth") (fo_cons (N3.get (.tail _ (.head _))) (base_none hg gD) fo_nil) fun h7 tk7 d2 t0_ e7 a2 lo2 hd2 => ?_
  obtain ⟨o2, ho2, hdk2⟩ := Heap.dictOf_iff.mp hd2
  have F7 := frExt F2 e7 (fun h => nomatch h) (fun _ h => nomatch h)
  have d2d : d2 ≠ d := a2.ne (N3.get (.head _))
  have d2D : d2 ≠ D1 := a2.ne (N3.get (.tail _ (.head _)))
  have d2B : d2 ≠ bl := a2.ne (N3.get (.tail _ (.tail _ (.head _))))
  have N7 := nwCons ho2 (goneL F2 a2) (gone F2 a2) (nwExt N3 e7 (fun _ _ h => nomatch h))
  clear F2 N2 N3
  generalize hkv : ([(Str.ofString "pitch", .int (a + b * 128 - 8192) t0_)] : List (Str × Value)) = kv at hdk2
  have hkvs : ([(Str.ofString "type", Value.str (Str.ofString "pitchwheel") tt), (Str.ofString "time", .int 0 t0), (Str.ofString "channel", .int (n % 16) tc)] : List (Str × Value)).length + kv.length ≤ sizeLine := by
    rw [← hkv, sizeLine_eq]; simp only [List.length_cons, List.length_nil]; omega
  walk_at "mi_stepsC"
  have key : ∃ o6, Fr g L' _ _ ∧ News g L' _ [(d2, o2), (d, o6), (D1, listOf #[Value.int a ta, .int b tb] 0), (bl, listOf #[Value.int n tn, .int a ta, .int b tb] nd)] ∧ o6.IsDictOf (PySem.strKind prog w) (merged [(Str.ofString "type", .str (Str.ofString "pitchwheel") tt), (Str.ofString "time", .int 0 t0), (Str.ofString "channel", .int (n % 16) tc)] kv) := ⟨_, by assumption, by assumption, by assumption⟩
  obtain ⟨o6, F8, N8, hd8⟩ := key
  refine hQ _ _ d tt tc t0_ (ext_of [] hgk hsz hfo F8 N8 (by walk_at "mi_ro")) (after_none hgk (N8.fresh (.tail _ (.head _))) (by simpa using dB)) dlo ?_
  rw [← hkv] at hd8
  exact Heap.dictOf_iff.mpr ⟨_, N8.get (.tail _ (.head _)), hd8⟩
end PartS
theorem restT {M : Model} {A : Around} {s : Shared} {E : Value → Shared → Prop} {env : Env} {Q : Flow → Shared → Prop} (h : Q .next s) : wpAny M A (execs [] env) Q E s := by
  w_top off
  walk1
  w_top off
  exact h
section PartT
local macro_rules | `(tactic| k_steps) => `(tactic| repeat' (first | ((with_reducible show wpAny _ _ (call (Value.ref _) _ _) _ _ _); walk_at "mi_pc") | ((fail_if_success (with_reducible show wpAny _ _ (call (Value.ref _) _ _) _ _ _)); (fail_if_success (with_reducible show wpAny _ _ (exec (Stmt.Raise _ _ _) _) _ _ _)); first | (k_unfold; (try dsimp only)) | (k_end; wrow_close) | walk1 | (dsimp only; walk1) | (leave1; walk_say "STEP leave1"; (try dsimp only)) | fail "no step")))
local macro_rules | `(tactic| k_ne) => `(tactic| first | assumption | exact Ne.symm (by assumption))
local macro_rules | `(tactic| walk_at "call builtin:len") => `(tactic| (k_here; (with_reducible show wpAny _ _ (call (Value.builtin "len") [Value.ref _]) _ _ _); refine PyProof.Rows.len_list (News.isList (by k_asm) (by k_mem)) (by (try simp only [Array.size_push, List.size_toArray]); omega) ?_))
local macro_rules | `(tactic| walk_at "mi_ro") => `(tactic| repeat' (first | exact ro_nil | refine ro_keep (by k_mem) ?_ | refine ro_mut (by simp) ?_))
local macro_rules | `(tactic| walk_at "mi_depth") => `(tactic| ((try simp only [PySem.Around.deeper, PySem.Around.in1_depth]); omega))
local macro_rules | `(tactic| walk_at "mi_pure") => `(tactic| exact hQ _ _ (ext_of [] hgk hsz (fo_nil (base := base)) (by assumption) (by assumption) ro_nil))
local macro_rules | `(tactic| walk_at "mi_steps") => `(tactic| repeat' ((fail_if_success (with_reducible show wpAny _ _ (exec (Stmt.For _ _ _ _ _) _) _ _ _)); first | ((with_reducible show wpAny _ _ (call (Value.ref _) _ _) _ _ _); walk_at "mi_pc") | ((fail_if_success (with_reducible show wpAny _ _ (call (Value.ref _) _ _) _ _ _)); (fail_if_success (with_reducible show wpAny _ _ (exec (Stmt.Raise _ _ _) _) _ _ _)); first | (k_unfold; (try dsimp only)) | (k_end; kc_close) | walk1 | (dsimp only; walk1) | (leave1; walk_say "STEP leave1"; (try dsimp only)) | fail "no step")))
local macro_rules | `(tactic| walk_at "subscriptTail") => `(tactic| (k_here; (with_reducible show wpAny _ _ (subscriptTail _ _ (Value.ref _) (Value.str _ _)) _ _ _); k_dflt (refine' topItem_K ?F ?X ?l ?k ?e ?_; (case F => k_asm); (case X => k_asm); (case l => first | assumption | k_is); (case k => first | assumption | k_keys); (case e => first | assumption | k_is))))
local macro_rules | `(tactic| walk_at "mi_stepsC") => `(tactic| repeat' ((fail_if_success (with_reducible show wpAny _ _ (exec (Stmt.For _ _ _ _ _) _) _ _ _)); (fail_if_success (with_reducible show wpAny _ _ (exec (Stmt.Assign [_] (Expr.ListComp _ _ _ _) _) _) _ _ _)); (fail_if_success (with_reducible show wpAny _ _ (call (Value.type "zip") _) _ _ _)); (fail_if_success (with_reducible show wpAny _ _ (exec (Stmt.Assign [_] (Expr.DictComp _ _ _ _ _) _) _) _ _ _)); first | ((with_reducible show wpAny _ _ (call (Value.ref _) _ _) _ _ _); walk_at "mi_pc") | ((fail_if_success (with_reducible show wpAny _ _ (call (Value.ref _) _ _) _ _ _)); (fail_if_success (with_reducible show wpAny _ _ (exec (Stmt.Raise _ _ _) _) _ _ _)); first | (k_unfold; (try dsimp only)) | (k_end; kc_close) | walk1 | (dsimp only; walk1) | (leave1; walk_say "STEP leave1"; (try dsimp only)) | fail "no step")))
local macro_rules | `(tactic| walk_at "mi_stepsO") => `(tactic| repeat' ((fail_if_success (with_reducible show wpAny _ _ (exec (Stmt.For _ _ _ _ _) _) _ _ _)); (fail_if_success (with_reducible show wpAny _ _ (exec (Stmt.Assign [_] (Expr.ListComp _ _ _ _) _) _) _ _ _)); (fail_if_success (with_reducible show wpAny _ _ (call (Value.type "zip") _) _ _ _)); (fail_if_success (with_reducible show wpAny _ _ (exec (Stmt.Assign [_] (Expr.DictComp _ _ _ _ _) _) _) _ _ _)); first | ((with_reducible show wpAny _ _ (call (Value.ref _) _ _) _ _ _); walk_at "mi_pc") | ((fail_if_success (with_reducible show wpAny _ _ (call (Value.ref _) _ _) _ _ _)); (fail_if_success (with_reducible show wpAny _ _ (exec (Stmt.Raise _ _ _) _) _ _ _)); first | ((with_reducible show wpAny _ _ (execs _ _) _ _ _); exfalso; omega) | (k_unfold; (try dsimp only)) | (k_end; kc_close) | walk1 | (dsimp only; walk1) | (leave1; walk_say "STEP leave1"; (try dsimp only)) | fail "no step")))
local macro_rules | `(tactic| walk_at "getMethod ref") => `(tactic| (k_here; (with_reducible show wpAny _ _ (getMethod (Value.ref _) (Str.ofString "update") _) _ _ _); k_dflt (refine' kda_method (knd := PySem.strKind _ _) ?N ?p ?d PySem.F.slot_dict_update PySem.F.type_dict_update ?_; (case N => k_asm); (case p => k_mem); (case d => assumption))))
local macro_rules | `(tactic| walk_at "call builtin:dict.update") => `(tactic| (k_here; (with_reducible show wpAny _ _ (call (Value.builtin "dict.update") [Value.ref _, Value.ref _]) _ _ _); k_dflt (refine' kda_update (knd := PySem.strKind _ _) ?F ?N ?U ?d ?p ?e ?n ?l ?z ?_; (case F => k_asm); (case N => k_asm); (case U => k_updF); (case d => assumption); (case p => k_mem); (case e => assumption); (case n => k_ne); (case l => assumption); (case z => assumption)); intro h' o' F' N' hd'; (try dsimp only at N')))
local macro_rules | `(tactic| walk_at "setItem ref str") => `(tactic| (k_here; k_dflt (refine' kda_set (knd := PySem.strKind _ _) ?F ?N ?U ?d (strKind_is _ _ _ _) ?z ?_; (case F => k_asm); (case N => k_asm); (case U => k_updF); (case d => assumption); (case z => first | assumption | decide)); intro h' o' F' N' hd'; (try dsimp only at N')))
local macro_rules | `(tactic| walk_at "call ref") => `(tactic| ((with_reducible show wpAny _ _ (call (Value.ref 28) _ _) _ _ _); refine pure_K (D := 2) (fun hs hA hQ => c_ics _ _ (by assumption) hs hA hQ) (by assumption) (by assumption) (by assumption) (by walk_at "mi_depth") ?_; intro h9 tk9 F9 N9; (try dsimp only)))
local macro_rules | `(tactic| walk_at "mi_pc") => `(tactic| ((with_reducible show wpAny _ _ (call (Value.ref 28) _ _) _ _ _); refine pure_K (D := 2) (fun hs hA hQ => c_ics _ _ (by assumption) hs hA hQ) (by assumption) (by assumption) (by assumption) (by walk_at "mi_depth") ?_; intro h9 tk9 F9 N9; (try dsimp only)))
local macro_rules | `(tactic| walk_at "call ref") => `(tactic| ((with_reducible show wpAny _ _ (call (Value.ref 93) _ _) _ _ _); refine pure_K (D := 4) (fun hs hA hQ => c_hs _ _ (by assumption) hs hA hQ) (by assumption) (by assumption) (by assumption) (by walk_at "mi_depth") ?_; intro h9 tk9 F9 N9; (try dsimp only)))
local macro_rules | `(tactic| walk_at "mi_pc") => `(tactic| ((with_reducible show wpAny _ _ (call (Value.ref 93) _ _) _ _ _); refine pure_K (D := 4) (fun hs hA hQ => c_hs _ _ (by assumption) hs hA hQ) (by assumption) (by assumption) (by assumption) (by walk_at "mi_depth") ?_; intro h9 tk9 F9 N9; (try dsimp only)))
theorem c_sc_sx (vd : Array Value) (tn : Tok) (dl : Addr) (nd : Nat) (hz : vd.size < 900) (S : Bas w mean mg mb base) (hs : base.StaysIn s.heap) (hA : A.depth + 10 < recursionLimit)
   (hfo : ∀ p ∈ [(dl, listOf vd nd)], s.heap.get? p.1 = some p.2 ∧ base.get? p.1 = none)
   (hQ : ∀ h' tk d tp, Ext [] s.heap h' → After s.heap d → After s.heap tp → tp ≠ d → (d == sysModules) = false → h'.get? tp = some ⟨.type "tuple", none, .seq vd 0, #[]⟩ → h'.DictOf (PySem.strKind prog w) d [(Str.ofString "data", .ref tp)] → Q (.ref d) {s with heap := h', toks := tk}) :
   wpAny (model prog w) A (call (.ref 221) [.int 240 tn, .ref dl]) Q E s := by
  refine enterM (binds := [(Str.ofString "status_byte", .int 240 tn), (Str.ofString "data", .ref dl)]) _ S hs hfo (by k_is) (by k_is) (by omega) (.of_eq rfl) (locs rfl) ?_
  intro g L' h₁ hg F N X TT hgk hsz hL hgs
  walk_at "mi_stepsO"
  rename Fr g L' _ _ => F2
  rename News g L' _ _ => N2
  refine c_sx vd dl nd hz S (fun b o q => F2.keep b o (hg b o q)) (by walk_at "mi_depth") (fo_cons (N2.get (.head _)) (base_none hg (N2.fresh (.head _))) fo_nil) fun h6 tk6 d tp e6 a6 p6 pn lo6 hp6 hd6 => ?_
  have F6 := frExt F2 e6 (fun h => nomatch h) (fun _ h => nomatch h)
  obtain ⟨o6, ho6, hdk6⟩ := Heap.dictOf_iff.mp hd6
  have N6 := nwCons ho6 (goneL F2 a6) (gone F2 a6) (nwCons hp6 (goneL F2 p6) (gone F2 p6) (nwExt N2 e6 (fun _ _ h => nomatch h)))
  have dn : d ≠ dl := a6.ne (N2.get (.head _))
  have pnl : tp ≠ dl := p6.ne (N2.get (.head _))
  clear F2 N2
  k_steps
  rename Fr g L' _ _ => F2
  rename News g L' _ _ => N2
  exact hQ _ _ _ tp (ext_of [] hgk hsz hfo F2 N2 (by walk_at "mi_ro")) (after_none hgk (N2.fresh (.head _)) (by simpa using dn)) (after_none hgk (N2.fresh (.tail _ (.head _))) (by simpa using pnl)) pn lo6 (N2.get (.tail _ (.head _))) (Heap.dictOf_iff.mpr ⟨_, N2.get (.head _), hdk6⟩)
theorem c_dm_sx (ds : List Int) (vs : Array Value) (bl : Addr) (nd : Nat) (t0 : Tok) (hds : ∀ x ∈ ds, 0 ≤ x ∧ x ≤ 127) (hlen : ds.length < 800) (hi : IntsAre vs.toList (240 :: (ds ++ [247]))) (S : Bas w mean mg mb base) (hs : base.StaysIn s.heap) (hA : A.depth + 20 < recursionLimit) (hh : A.handled = none)
   (hfo : ∀ p ∈ [(bl, listOf vs nd)], s.heap.get? p.1 = some p.2 ∧ base.get? p.1 = none)
   (hQ : ∀ h' tk d tt tp vd, Ext [] s.heap h' → After s.heap d → After s.heap tp → tp ≠ d → (d == sysModules) = false → h'.get? tp = some ⟨.type "tuple", none, .seq vd 0, #[]⟩ → IntsAre vd.toList ds → h'.DictOf (PySem.strKind prog w) d [(Str.ofString "type", .str (Str.ofString "sysex") tt), (Str.ofString "time", .int 0 t0), (Str.ofString "data", .ref tp)] → Q (.ref d) {s with heap := h', toks := tk}) :
   wpAny (model prog w) A (call (.ref 234) [.ref bl] [(Str.ofString "time", .int 0 t0)]) Q E s := by
  have hB : hsB 240 = true := by decide
  have Xs : (hd.heap_39 w.params).In s.heap := S.X.keeps hs
  refine enterM (binds := [(Str.ofString "msg_bytes", .ref bl), (Str.ofString "time", .int 0 t0), (Str.ofString "check", .bool true)]) _ S hs hfo (by k_is) (by k_is) (by omega) ?bd (locs rfl) ?_
  case bd => exact binds_K Xs rfl (by k_is) rfl rfl rfl
  intro g L' h₁ hg F N X TT hgk hsz hL hgs
  have hvz : vs.size = ds.length + 2 := by rw [ia_size hi]; simp
  walk_at "mi_stepsC"
  all_goals first | (exfalso; omega) | exact Bool.noConfusion (hB.symm.trans (by assumption)) | skip
  have key : ∃ D1 t1 ws, Fr g L' _ (fun y => if y = Str.ofString "data" then some (Value.ref D1) else if y = Str.ofString "status_byte" then some (.int 240 t1) else List.lookup y [(Str.ofString "msg_bytes", Value.ref bl), (Str.ofString "time", Value.int 0 t0), (Str.ofString "check", Value.bool true)].reverse) ∧
     News g L' _ [(D1, listOf (List.toArray ws) 0), (bl, listOf vs nd)] ∧ IntsAre ws (ds ++ [247]) ∧ @LT.lt Nat _ bl D1 := ⟨_, _, _, by rename Fr g L' _ _ => F2; exact F2, by rename News g L' _ _ => N2; exact N2, by rename IntsAre _ (List.drop _ _) => z; exact z, by assumption⟩
  obtain ⟨D1, t1, ws, F2, N2, hws, lt1⟩ := key
  clear hvz
  have hwz : ws.length = ds.length + 1 := by
    have := ia_size (vs := ws.toArray) (by simpa using hws)
    simpa using this
  refine pure_K (D := 4) (v := .ref 51) (fun {A s Q E} hs hA hQ => c_ss_240 _ S hs hA hQ) (by assumption) F2 N2 (by walk_at "mi_depth") ?_
  intro h9 tk9 F9 N9; (try dsimp only)
  clear F2 N2
  walk_at "mi_stepsO"
  have hte : List.take ((ds ++ [247]).length - 1) (ds ++ [247]) = ds := by
    rw [List.length_append, List.length_singleton, Nat.add_sub_cancel]; exact List.take_left' rfl
  rename Fr g L' _ _ => F2
  rename News g L' _ _ => N2
  rename IntsAre _ (List.take _ _) => hw2
  rw [hte] at hw2
  refine c_cdL _ ds hds S (fun b o q => F2.keep b o (hg b o q)) (by walk_at "mi_depth") hh ⟨_, _, N2.get (.head _), by simpa using hw2⟩ (base_none hg (N2.fresh (.head _))) fun h6 tk6 e6 => ?_
  have F6 := frExt F2 e6 (fun h => nomatch h) (fun _ h => nomatch h)
  have N6 := nwExt N2 e6 (fun _ _ h => nomatch h)
  clear F2 N2
  have key : ∃ d o tt D2 w2 te, Fr g L' _ (fun y => if y = Str.ofString "data" then some (Value.ref D2) else if y = Str.ofString "end" then some (.int 247 te) else if y = Str.ofString "msg" then some (Value.ref d) else if y = Str.ofString "spec" then some (Value.ref 51) else if y = Str.ofString "data" then some (Value.ref D1) else if y = Str.ofString "status_byte" then some (.int 240 t1) else List.lookup y [(Str.ofString "msg_bytes", Value.ref bl), (Str.ofString "time", Value.int 0 t0), (Str.ofString "check", Value.bool true)].reverse) ∧
     News g L' _ [(D2, listOf (List.toArray w2) 0), (d, o), (D1, listOf (List.toArray ws) 0), (bl, listOf vs nd)] ∧ o.IsDictOf (PySem.strKind prog w) [(Str.ofString "type", .str (Str.ofString "sysex") tt), (Str.ofString "time", .int 0 t0)] ∧ (d == sysModules) = false ∧ D2 ≠ d ∧ D2 ≠ D1 ∧ D2 ≠ bl ∧ d ≠ D1 ∧ d ≠ bl ∧ IntsAre w2 ds :=
    ⟨_, _, _, _, _, _, by rename Fr g L' _ _ => F2; exact F2, by rename News g L' _ _ => N2; exact N2, by rename Obj.IsDictOf _ _ _ => z; exact z, by assumption, by rename (_ ∧ @LT.lt Nat _ D1 _ ∧ @LT.lt Nat _ bl _) => z; exact Nat.ne_of_gt z.1, by rename (_ ∧ @LT.lt Nat _ D1 _ ∧ @LT.lt Nat _ bl _) => z; exact Nat.ne_of_gt z.2.1, by rename (_ ∧ @LT.lt Nat _ D1 _ ∧ @LT.lt Nat _ bl _) => z; exact Nat.ne_of_gt z.2.2,
      by rename (@LT.lt Nat _ D1 _ ∧ @LT.lt Nat _ bl _) => z; exact Nat.ne_of_gt z.1, by rename (@LT.lt Nat _ D1 _ ∧ @LT.lt Nat _ bl _) => z; exact Nat.ne_of_gt z.2, hw2⟩
  obtain ⟨d, o, tt, D2, w2, te, F6, N6, hdk, dlo, n1, n2, n3, dD, dB, hw2⟩ := key
  have gD : g.get? D2 = none := N6.fresh (.head _)
  have D1b := Nat.ne_of_gt lt1
  have hw2z : w2.toArray.size < 900 := by
    rw [ia_size (vs := w2.toArray) (by simpa using hw2)]; omega
  walk_at "mi_stepsO"
  rename Fr g L' _ _ => F2
  rename News g L' _ _ => N2
  refine c_sc_sx w2.toArray t1 D2 0 hw2z S (fun b o q => F2.keep b o (hg b o q)) (by walk_at "mi_depth") (fo_cons (N2.get (.head _)) (base_none hg gD) fo_nil) fun h7 tk7 d2 tp e7 a2 ap pn lo2 hp2 hd2 => ?_
  obtain ⟨o2, ho2, hdk2⟩ := Heap.dictOf_iff.mp hd2
  have F7 := frExt F2 e7 (fun h => nomatch h) (fun _ h => nomatch h)
  have m1 : d2 ≠ D2 := a2.ne (N2.get (.head _))
  have m2 : d2 ≠ d := a2.ne (N2.get (.tail _ (.head _)))
  have m3 : d2 ≠ D1 := a2.ne (N2.get (.tail _ (.tail _ (.head _))))
  have m4 : d2 ≠ bl := a2.ne (N2.get (.tail _ (.tail _ (.tail _ (.head _)))))
  have q1 : tp ≠ D2 := ap.ne (N2.get (.head _))
  have q2 : tp ≠ d := ap.ne (N2.get (.tail _ (.head _)))
  have q3 : tp ≠ D1 := ap.ne (N2.get (.tail _ (.tail _ (.head _))))
  have q4 : tp ≠ bl := ap.ne (N2.get (.tail _ (.tail _ (.tail _ (.head _)))))
  have N7 := nwCons ho2 (goneL F2 a2) (gone F2 a2) (nwCons hp2 (goneL F2 ap) (gone F2 ap) (nwExt N2 e7 (fun _ _ h => nomatch h)))
  clear F2 N2
  generalize hkv : ([(Str.ofString "data", .ref tp)] : List (Str × Value)) = kv at hdk2
  have hkvs : ([(Str.ofString "type", Value.str (Str.ofString "sysex") tt), (Str.ofString "time", .int 0 t0)] : List (Str × Value)).length + kv.length ≤ sizeLine := by
    rw [← hkv, sizeLine_eq]; simp only [List.length_cons, List.length_nil]; omega
  walk_at "mi_stepsC"
  have key : ∃ o6, Fr g L' _ _ ∧ News g L' _ [(d2, o2), (tp, ⟨.type "tuple", none, .seq w2.toArray 0, #[]⟩), (D2, listOf (List.toArray w2) 0), (d, o6), (D1, listOf (List.toArray ws) 0), (bl, listOf vs nd)] ∧ o6.IsDictOf (PySem.strKind prog w) (merged [(Str.ofString "type", .str (Str.ofString "sysex") tt), (Str.ofString "time", .int 0 t0)] kv) := ⟨_, by assumption, by assumption, by assumption⟩
  obtain ⟨o6, F8, N8, hd8⟩ := key
  rw [← hkv] at hd8
  exact hQ _ _ d tt tp w2.toArray (ext_of [] hgk hsz hfo F8 N8 (by walk_at "mi_ro")) (after_none hgk (N8.fresh (.tail _ (.tail _ (.tail _ (.head _))))) (by simpa using dB)) (after_none hgk (N8.fresh (.tail _ (.head _))) (by simpa using q4)) q2 dlo (N8.get (.tail _ (.head _))) (by simpa using hw2) (Heap.dictOf_iff.mpr ⟨_, N8.get (.tail _ (.tail _ (.tail _ (.head _)))), hd8⟩)
end PartT
theorem restU {M : Model} {A : Around} {s : Shared} {E : Value → Shared → Prop} {env : Env} {Q : Flow → Shared → Prop} (h : Q .next s) : wpAny M A (execs [] env) Q E s := by
  w_top off
  walk1
  w_top off
  exact h
section PartU
local macro_rules | `(tactic| k_steps) => `(tactic| repeat' (first | ((with_reducible show wpAny _ _ (call (Value.ref _) _ _) _ _ _); walk_at "mi_pc") | ((fail_if_success (with_reducible show wpAny _ _ (call (Value.ref _) _ _) _ _ _)); (fail_if_success (with_reducible show wpAny _ _ (exec (Stmt.Raise _ _ _) _) _ _ _)); first | (k_unfold; (try dsimp only)) | (k_end; wrow_close) | walk1 | (dsimp only; walk1) | (leave1; walk_say "STEP leave1"; (try dsimp only)) | fail "no step")))
local macro_rules | `(tactic| k_ne) => `(tactic| first | assumption | exact Ne.symm (by assumption))
local macro_rules | `(tactic| walk_at "call builtin:len") => `(tactic| (k_here; (with_reducible show wpAny _ _ (call (Value.builtin "len") [Value.ref _]) _ _ _); refine PyProof.Rows.len_list (News.isList (by k_asm) (by k_mem)) (by (try simp only [Array.size_push, List.size_toArray]); omega) ?_))
local macro_rules | `(tactic| walk_at "mi_ro") => `(tactic| repeat' (first | exact ro_nil | refine ro_keep (by k_mem) ?_ | refine ro_mut (by simp) ?_))
local macro_rules | `(tactic| walk_at "mi_depth") => `(tactic| ((try simp only [PySem.Around.deeper, PySem.Around.in1_depth]); omega))
local macro_rules | `(tactic| walk_at "mi_pure") => `(tactic| exact hQ _ _ (ext_of [] hgk hsz (fo_nil (base := base)) (by assumption) (by assumption) ro_nil))
local macro_rules | `(tactic| walk_at "mi_steps") => `(tactic| repeat' ((fail_if_success (with_reducible show wpAny _ _ (exec (Stmt.For _ _ _ _ _) _) _ _ _)); first | ((with_reducible show wpAny _ _ (call (Value.ref _) _ _) _ _ _); walk_at "mi_pc") | ((fail_if_success (with_reducible show wpAny _ _ (call (Value.ref _) _ _) _ _ _)); (fail_if_success (with_reducible show wpAny _ _ (exec (Stmt.Raise _ _ _) _) _ _ _)); first | (k_unfold; (try dsimp only)) | (k_end; kc_close) | walk1 | (dsimp only; walk1) | (leave1; walk_say "STEP leave1"; (try dsimp only)) | fail "no step")))
local macro_rules | `(tactic| walk_at "subscriptTail") => `(tactic| (k_here; (with_reducible show wpAny _ _ (subscriptTail _ _ (Value.ref _) (Value.str _ _)) _ _ _); k_dflt (refine' topItem_K ?F ?X ?l ?k ?e ?_; (case F => k_asm); (case X => k_asm); (case l => first | assumption | k_is); (case k => first | assumption | k_keys); (case e => first | assumption | k_is))))
local macro_rules | `(tactic| walk_at "mi_stepsC") => `(tactic| repeat' ((fail_if_success (with_reducible show wpAny _ _ (exec (Stmt.For _ _ _ _ _) _) _ _ _)); (fail_if_success (with_reducible show wpAny _ _ (exec (Stmt.Assign [_] (Expr.ListComp _ _ _ _) _) _) _ _ _)); (fail_if_success (with_reducible show wpAny _ _ (call (Value.type "zip") _) _ _ _)); (fail_if_success (with_reducible show wpAny _ _ (exec (Stmt.Assign [_] (Expr.DictComp _ _ _ _ _) _) _) _ _ _)); first | ((with_reducible show wpAny _ _ (call (Value.ref _) _ _) _ _ _); walk_at "mi_pc") | ((fail_if_success (with_reducible show wpAny _ _ (call (Value.ref _) _ _) _ _ _)); (fail_if_success (with_reducible show wpAny _ _ (exec (Stmt.Raise _ _ _) _) _ _ _)); first | (k_unfold; (try dsimp only)) | (k_end; kc_close) | walk1 | (dsimp only; walk1) | (leave1; walk_say "STEP leave1"; (try dsimp only)) | fail "no step")))
local macro_rules | `(tactic| walk_at "mi_stepsO") => `(tactic| repeat' ((fail_if_success (with_reducible show wpAny _ _ (exec (Stmt.For _ _ _ _ _) _) _ _ _)); (fail_if_success (with_reducible show wpAny _ _ (exec (Stmt.Assign [_] (Expr.ListComp _ _ _ _) _) _) _ _ _)); (fail_if_success (with_reducible show wpAny _ _ (call (Value.type "zip") _) _ _ _)); (fail_if_success (with_reducible show wpAny _ _ (exec (Stmt.Assign [_] (Expr.DictComp _ _ _ _ _) _) _) _ _ _)); first | ((with_reducible show wpAny _ _ (call (Value.ref _) _ _) _ _ _); walk_at "mi_pc") | ((fail_if_success (with_reducible show wpAny _ _ (call (Value.ref _) _ _) _ _ _)); (fail_if_success (with_reducible show wpAny _ _ (exec (Stmt.Raise _ _ _) _) _ _ _)); first | ((with_reducible show wpAny _ _ (execs _ _) _ _ _); exfalso; omega) | (k_unfold; (try dsimp only)) | (k_end; kc_close) | walk1 | (dsimp only; walk1) | (leave1; walk_say "STEP leave1"; (try dsimp only)) | fail "no step")))
/-- what the fields of a message say of its octets -/
inductive FieldsP : List (Str × Value) → List Int → Prop
  | note_on (tt t0 ta tb tc : Tok) (a b c : Int) (h1 : 0 ≤ c) (h2 : c ≤ 15) : FieldsP [(Str.ofString "type", .str (Str.ofString "note_on") tt), (Str.ofString "time", .int 0 t0), (Str.ofString "note", .int a ta), (Str.ofString "velocity", .int b tb), (Str.ofString "channel", .int c tc)] [144 + c, a, b]
  | control_change (tt t0 ta tb tc : Tok) (a b c : Int) (h1 : 0 ≤ c) (h2 : c ≤ 15) : FieldsP [(Str.ofString "type", .str (Str.ofString "control_change") tt), (Str.ofString "time", .int 0 t0), (Str.ofString "control", .int a ta), (Str.ofString "value", .int b tb), (Str.ofString "channel", .int c tc)] [176 + c, a, b]
  | program_change (tt t0 ta tc : Tok) (a c : Int) (h1 : 0 ≤ c) (h2 : c ≤ 15) : FieldsP [(Str.ofString "type", .str (Str.ofString "program_change") tt), (Str.ofString "time", .int 0 t0), (Str.ofString "program", .int a ta), (Str.ofString "channel", .int c tc)] [192 + c, a]
  | song_select (tt t0 ta : Tok) (a : Int) : FieldsP [(Str.ofString "type", .str (Str.ofString "song_select") tt), (Str.ofString "time", .int 0 t0), (Str.ofString "song", .int a ta)] [243, a]
  | tune_request (tt t0 : Tok) : FieldsP [(Str.ofString "type", .str (Str.ofString "tune_request") tt), (Str.ofString "time", .int 0 t0)] [246]
  | clock (tt t0 : Tok) : FieldsP [(Str.ofString "type", .str (Str.ofString "clock") tt), (Str.ofString "time", .int 0 t0)] [248]
  | start (tt t0 : Tok) : FieldsP [(Str.ofString "type", .str (Str.ofString "start") tt), (Str.ofString "time", .int 0 t0)] [250]
  | active_sensing (tt t0 : Tok) : FieldsP [(Str.ofString "type", .str (Str.ofString "active_sensing") tt), (Str.ofString "time", .int 0 t0)] [254]
  | reset (tt t0 : Tok) : FieldsP [(Str.ofString "type", .str (Str.ofString "reset") tt), (Str.ofString "time", .int 0 t0)] [255]
  | pitchwheel (tt t0 tc tp : Tok) (a b c : Int) (h1 : 0 ≤ c) (h2 : c ≤ 15) (ha : 0 ≤ a ∧ a ≤ 127) (hb : 0 ≤ b ∧ b ≤ 127) : FieldsP [(Str.ofString "type", .str (Str.ofString "pitchwheel") tt), (Str.ofString "time", .int 0 t0), (Str.ofString "channel", .int c tc), (Str.ofString "pitch", .int (a + b * 128 - 8192) tp)] [224 + c, a, b]
  | quarter_frame (tt t0 t1 t2 : Tok) (a : Int) (ha : 0 ≤ a ∧ a ≤ 127) : FieldsP [(Str.ofString "type", .str (Str.ofString "quarter_frame") tt), (Str.ofString "time", .int 0 t0), (Str.ofString "frame_type", .int (a / 16) t1), (Str.ofString "frame_value", .int (a % 16) t2)] [241, a]
  | songpos (tt t0 t1 : Tok) (a b : Int) (ha : 0 ≤ a ∧ a ≤ 127) (hb : 0 ≤ b ∧ b ≤ 127) : FieldsP [(Str.ofString "type", .str (Str.ofString "songpos") tt), (Str.ofString "time", .int 0 t0), (Str.ofString "pos", .int (a + b * 128) t1)] [242, a, b]
/-- the fields of a system exclusive message -/
structure SxP (base h : Heap) (kvs : List (Str × Value)) (row : List Int) : Prop where
  it : ∃ tt t0 tp vd ds, kvs = [(Str.ofString "type", .str (Str.ofString "sysex") tt), (Str.ofString "time", .int 0 t0), (Str.ofString "data", .ref tp)] ∧ h.get? tp = some ⟨.type "tuple", none, .seq vd 0, #[]⟩ ∧ base.get? tp = none ∧ IntsAre vd.toList ds ∧ row = 240 :: (ds ++ [247])
inductive GoodRow : List Int → Prop
  | note_on (n a b : Int) (h1 : 144 ≤ n) (h2 : n < 160) (ha : 0 ≤ a ∧ a ≤ 127) (hb : 0 ≤ b ∧ b ≤ 127) : GoodRow [n, a, b]
  | control_change (n a b : Int) (h1 : 176 ≤ n) (h2 : n < 192) (ha : 0 ≤ a ∧ a ≤ 127) (hb : 0 ≤ b ∧ b ≤ 127) : GoodRow [n, a, b]
  | program_change (n a : Int) (h1 : 192 ≤ n) (h2 : n < 208) (ha : 0 ≤ a ∧ a ≤ 127) : GoodRow [n, a]
  | song_select (a : Int) (ha : 0 ≤ a ∧ a ≤ 127) : GoodRow [243, a]
  | tune_request : GoodRow [246]
  | clock : GoodRow [248]
  | start : GoodRow [250]
  | active_sensing : GoodRow [254]
  | reset : GoodRow [255]
  | pitchwheel (n a b : Int) (h1 : 224 ≤ n) (h2 : n ≤ 239) (ha : 0 ≤ a ∧ a ≤ 127) (hb : 0 ≤ b ∧ b ≤ 127) : GoodRow [n, a, b]
  | quarter_frame (a : Int) (ha : 0 ≤ a ∧ a ≤ 127) : GoodRow [241, a]
  | songpos (a b : Int) (ha : 0 ≤ a ∧ a ≤ 127) (hb : 0 ≤ b ∧ b ≤ 127) : GoodRow [242, a, b]
theorem ints1 {vs : Array Value} {a : Int} (h : IntsAre vs.toList [a]) : ∃ ta, vs = #[.int a ta] := by
  obtain ⟨l⟩ := vs
  cases h with
  | cons _ ta r => cases r; exact ⟨ta, rfl⟩
theorem ints2 {vs : Array Value} {a b : Int} (h : IntsAre vs.toList [a, b]) : ∃ ta tb, vs = #[.int a ta, .int b tb] := by
  obtain ⟨l⟩ := vs
  cases h with
  | cons _ ta r =>
    cases r with
    | cons _ tb r => cases r; exact ⟨ta, tb, rfl⟩
theorem ints3 {vs : Array Value} {a b c : Int} (h : IntsAre vs.toList [a, b, c]) : ∃ ta tb tc, vs = #[.int a ta, .int b tb, .int c tc] := by
  obtain ⟨l⟩ := vs
  cases h with
  | cons _ ta r =>
    cases r with
    | cons _ tb r =>
      cases r with
      | cons _ tc r => cases r; exact ⟨ta, tb, tc, rfl⟩
theorem c_dm_good {row : List Int} (G : GoodRow row) (bl : Addr) (t0 : Tok) (S : Bas w mean mg mb base) (hs : base.StaysIn s.heap) (hA : A.depth + 20 < recursionLimit) (hh : A.handled = none)
   (hi : IsInts s.heap bl row) (hb0 : base.get? bl = none)
   (hQ : ∀ h' tk d kvs ty tt, Ext [] s.heap h' → After s.heap d → (d == sysModules) = false → h'.DictOf (PySem.strKind prog w) d kvs → FieldsP kvs row → valueAt kvs (Str.ofString "type") = some (.str ty tt) → valueAt kvs (Str.ofString "data") = none → MakesMsg w base ty → Q (.ref d) {s with heap := h', toks := tk}) :
   wpAny (model prog w) A (call (.ref 234) [.ref bl] [(Str.ofString "time", .int 0 t0)]) Q E s := by
  obtain ⟨vs, nd, e, hv⟩ := hi
  cases G with
  | note_on n a b h1 h2 ha hb =>
    obtain ⟨tn, ta, tb, rfl⟩ := ints3 hv
    refine c_dm3 n a b tn ta tb (Str.ofString "note_on") _ 33 34 35 _ _ (mk_note_on S).KS (by decide) _ bl nd t0 (by k_is) (by k_is) (by decide) (by simp [hsB, show (128 ≤ n ∧ n ≤ 239) from ⟨by omega, by omega⟩]) (by omega) (fun hs hA hQ => c_ss_144 n _ S hs hA (by omega) (by omega) hQ) ha hb S hs hA hh (fo_cons e hb0 fo_nil) fun h' tk d tc e1 a1 l1 d1 => ?_
    rw [if_pos (show (128 ≤ n ∧ n ≤ 239) from ⟨by omega, by omega⟩), bitAnd_m4] at d1
    have en : n = 144 + n % 16 := by omega
    refine hQ h' tk d _ (Str.ofString "note_on") _ e1 a1 l1 d1 ?_ rfl rfl (makes_kind S (mk_note_on S) (by decide))
    exact Eq.mp (congrArg (fun z => FieldsP _ [z, a, b]) en.symm) (FieldsP.note_on _ _ ta tb tc a b (n % 16) (by omega) (by omega))
  | control_change n a b h1 h2 ha hb =>
    obtain ⟨tn, ta, tb, rfl⟩ := ints3 hv
    refine c_dm3 n a b tn ta tb (Str.ofString "control_change") _ 39 40 41 _ _ (mk_control_change S).KS (by decide) _ bl nd t0 (by k_is) (by k_is) (by decide) (by simp [hsB, show (128 ≤ n ∧ n ≤ 239) from ⟨by omega, by omega⟩]) (by omega) (fun hs hA hQ => c_ss_176 n _ S hs hA (by omega) (by omega) hQ) ha hb S hs hA hh (fo_cons e hb0 fo_nil) fun h' tk d tc e1 a1 l1 d1 => ?_
    rw [if_pos (show (128 ≤ n ∧ n ≤ 239) from ⟨by omega, by omega⟩), bitAnd_m4] at d1
    have en : n = 176 + n % 16 := by omega
    refine hQ h' tk d _ (Str.ofString "control_change") _ e1 a1 l1 d1 ?_ rfl rfl (makes_kind S (mk_control_change S) (by decide))
    exact Eq.mp (congrArg (fun z => FieldsP _ [z, a, b]) en.symm) (FieldsP.control_change _ _ ta tb tc a b (n % 16) (by omega) (by omega))
  | program_change n a h1 h2 ha =>
    obtain ⟨tn, ta, rfl⟩ := ints2 hv
    refine c_dm2 n a tn ta (Str.ofString "program_change") _ 42 43 44 _ _ (mk_program_change S).KS (by decide) _ bl nd t0 (by k_is) (by k_is) (by decide) (by simp [hsB, show (128 ≤ n ∧ n ≤ 239) from ⟨by omega, by omega⟩]) (by omega) (fun hs hA hQ => c_ss_192 n _ S hs hA (by omega) (by omega) hQ) ha S hs hA hh (fo_cons e hb0 fo_nil) fun h' tk d tc e1 a1 l1 d1 => ?_
    rw [if_pos (show (128 ≤ n ∧ n ≤ 239) from ⟨by omega, by omega⟩), bitAnd_m4] at d1
    have en : n = 192 + n % 16 := by omega
    refine hQ h' tk d _ (Str.ofString "program_change") _ e1 a1 l1 d1 ?_ rfl rfl (makes_kind S (mk_program_change S) (by decide))
    exact Eq.mp (congrArg (fun z => FieldsP _ [z, a]) en.symm) (FieldsP.program_change _ _ ta tc a (n % 16) (by omega) (by omega))
  | song_select a ha =>
    obtain ⟨tn, ta, rfl⟩ := ints2 hv
    refine c_dm2h 243 a tn ta (Str.ofString "song_select") _ 60 61 62 _ _ (mk_song_select S).KS (by decide) _ bl nd t0 (by k_is) (by k_is) (by decide) (by decide) (by omega) (fun hs hA hQ => c_ss_243 _ S hs hA hQ) ha S hs hA hh (fo_cons e hb0 fo_nil) fun h' tk d tc e1 a1 l1 d1 => ?_
    rw [if_neg (show ¬ (128 ≤ (243 : Int) ∧ (243 : Int) ≤ 239) by omega)] at d1
    exact hQ h' tk d _ (Str.ofString "song_select") _ e1 a1 l1 d1 (FieldsP.song_select _ _ ta a) rfl rfl (makes_kind S (mk_song_select S) (by decide))
  | tune_request =>
    obtain ⟨tn, rfl⟩ := ints1 hv
    refine c_dm1h 246 tn (Str.ofString "tune_request") _ 63 64 65 _ _ (mk_tune_request S).KS (by decide) _ bl nd t0 (by k_is) (by k_is) (by decide) (by decide) (by omega) (fun hs hA hQ => c_ss_246 _ S hs hA hQ) S hs hA hh (fo_cons e hb0 fo_nil) fun h' tk d tc e1 a1 l1 d1 => ?_
    rw [if_neg (show ¬ (128 ≤ (246 : Int) ∧ (246 : Int) ≤ 239) by omega)] at d1
    exact hQ h' tk d _ (Str.ofString "tune_request") _ e1 a1 l1 d1 (FieldsP.tune_request _ _) rfl rfl (makes_kind S (mk_tune_request S) (by decide))
  | clock =>
    obtain ⟨tn, rfl⟩ := ints1 hv
    refine c_dm1h 248 tn (Str.ofString "clock") _ 66 67 68 _ _ (mk_clock S).KS (by decide) _ bl nd t0 (by k_is) (by k_is) (by decide) (by decide) (by omega) (fun hs hA hQ => c_ss_248 _ S hs hA hQ) S hs hA hh (fo_cons e hb0 fo_nil) fun h' tk d tc e1 a1 l1 d1 => ?_
    rw [if_neg (show ¬ (128 ≤ (248 : Int) ∧ (248 : Int) ≤ 239) by omega)] at d1
    exact hQ h' tk d _ (Str.ofString "clock") _ e1 a1 l1 d1 (FieldsP.clock _ _) rfl rfl (makes_kind S (mk_clock S) (by decide))
  | start =>
    obtain ⟨tn, rfl⟩ := ints1 hv
    refine c_dm1h 250 tn (Str.ofString "start") _ 69 70 71 _ _ (mk_start S).KS (by decide) _ bl nd t0 (by k_is) (by k_is) (by decide) (by decide) (by omega) (fun hs hA hQ => c_ss_250 _ S hs hA hQ) S hs hA hh (fo_cons e hb0 fo_nil) fun h' tk d tc e1 a1 l1 d1 => ?_
    rw [if_neg (show ¬ (128 ≤ (250 : Int) ∧ (250 : Int) ≤ 239) by omega)] at d1
    exact hQ h' tk d _ (Str.ofString "start") _ e1 a1 l1 d1 (FieldsP.start _ _) rfl rfl (makes_kind S (mk_start S) (by decide))
  | active_sensing =>
    obtain ⟨tn, rfl⟩ := ints1 hv
    refine c_dm1h 254 tn (Str.ofString "active_sensing") _ 78 79 80 _ _ (mk_active_sensing S).KS (by decide) _ bl nd t0 (by k_is) (by k_is) (by decide) (by decide) (by omega) (fun hs hA hQ => c_ss_254 _ S hs hA hQ) S hs hA hh (fo_cons e hb0 fo_nil) fun h' tk d tc e1 a1 l1 d1 => ?_
    rw [if_neg (show ¬ (128 ≤ (254 : Int) ∧ (254 : Int) ≤ 239) by omega)] at d1
    exact hQ h' tk d _ (Str.ofString "active_sensing") _ e1 a1 l1 d1 (FieldsP.active_sensing _ _) rfl rfl (makes_kind S (mk_active_sensing S) (by decide))
  | reset =>
    obtain ⟨tn, rfl⟩ := ints1 hv
    refine c_dm1h 255 tn (Str.ofString "reset") _ 82 83 84 _ _ (mk_reset S).KS (by decide) _ bl nd t0 (by k_is) (by k_is) (by decide) (by decide) (by omega) (fun hs hA hQ => c_ss_255 _ S hs hA hQ) S hs hA hh (fo_cons e hb0 fo_nil) fun h' tk d tc e1 a1 l1 d1 => ?_
    rw [if_neg (show ¬ (128 ≤ (255 : Int) ∧ (255 : Int) ≤ 239) by omega)] at d1
    exact hQ h' tk d _ (Str.ofString "reset") _ e1 a1 l1 d1 (FieldsP.reset _ _) rfl rfl (makes_kind S (mk_reset S) (by decide))
  | pitchwheel n a b h1 h2 ha hb =>
    obtain ⟨tn, ta, tb, rfl⟩ := ints3 hv
    refine c_dm_pw n h1 h2 a b tn ta tb bl nd t0 ha hb S hs hA hh (fo_cons e hb0 fo_nil) fun h' tk d tt tc t0_ e1 a1 l1 d1 => ?_
    have en : n = 224 + n % 16 := by omega
    refine hQ h' tk d _ (Str.ofString "pitchwheel") _ e1 a1 l1 d1 ?_ rfl rfl (makes_kind S (mk_pitchwheel S) (by decide))
    exact Eq.mp (congrArg (fun z => FieldsP _ [z, a, b]) en.symm) (FieldsP.pitchwheel _ _ tc _ a b (n % 16) (by omega) (by omega) ha hb)
  | quarter_frame a ha =>
    obtain ⟨tn, ta, rfl⟩ := ints2 hv
    exact c_dm_qf a tn ta bl nd t0 ha S hs hA hh (fo_cons e hb0 fo_nil) fun h' tk d tt t1 t2 e1 a1 l1 d1 => hQ h' tk d _ (Str.ofString "quarter_frame") _ e1 a1 l1 d1 (FieldsP.quarter_frame _ _ _ _ a ha) rfl rfl (makes_kind S (mk_quarter_frame S) (by decide))
  | songpos a b ha hb =>
    obtain ⟨tn, ta, tb, rfl⟩ := ints3 hv
    exact c_dm_sg a b tn ta tb bl nd t0 ha hb S hs hA hh (fo_cons e hb0 fo_nil) fun h' tk d tt t1 e1 a1 l1 d1 => hQ h' tk d _ (Str.ofString "songpos") _ e1 a1 l1 d1 (FieldsP.songpos _ _ _ a b ha hb) rfl rfl (makes_kind S (mk_songpos S) (by decide))
end PartU
theorem restV {M : Model} {A : Around} {s : Shared} {E : Value → Shared → Prop} {env : Env} {Q : Flow → Shared → Prop} (h : Q .next s) : wpAny M A (execs [] env) Q E s := by
  w_top off
  walk1
  w_top off
  exact h
section PartV
local macro_rules | `(tactic| k_steps) => `(tactic| repeat' (first | ((with_reducible show wpAny _ _ (call (Value.ref _) _ _) _ _ _); walk_at "mi_pc") | ((fail_if_success (with_reducible show wpAny _ _ (call (Value.ref _) _ _) _ _ _)); (fail_if_success (with_reducible show wpAny _ _ (exec (Stmt.Raise _ _ _) _) _ _ _)); first | (k_unfold; (try dsimp only)) | (k_end; wrow_close) | walk1 | (dsimp only; walk1) | (leave1; walk_say "STEP leave1"; (try dsimp only)) | fail "no step")))
local macro_rules | `(tactic| k_ne) => `(tactic| first | assumption | exact Ne.symm (by assumption))
local macro_rules | `(tactic| walk_at "call builtin:len") => `(tactic| (k_here; (with_reducible show wpAny _ _ (call (Value.builtin "len") [Value.ref _]) _ _ _); refine PyProof.Rows.len_list (News.isList (by k_asm) (by k_mem)) (by (try simp only [Array.size_push, List.size_toArray]); omega) ?_))
local macro_rules | `(tactic| walk_at "mi_ro") => `(tactic| repeat' (first | exact ro_nil | refine ro_keep (by k_mem) ?_ | refine ro_mut (by simp) ?_))
local macro_rules | `(tactic| walk_at "mi_depth") => `(tactic| ((try simp only [PySem.Around.deeper, PySem.Around.in1_depth]); omega))
local macro_rules | `(tactic| walk_at "mi_pure") => `(tactic| exact hQ _ _ (ext_of [] hgk hsz (fo_nil (base := base)) (by assumption) (by assumption) ro_nil))
local macro_rules | `(tactic| walk_at "mi_steps") => `(tactic| repeat' ((fail_if_success (with_reducible show wpAny _ _ (exec (Stmt.For _ _ _ _ _) _) _ _ _)); first | ((with_reducible show wpAny _ _ (call (Value.ref _) _ _) _ _ _); walk_at "mi_pc") | ((fail_if_success (with_reducible show wpAny _ _ (call (Value.ref _) _ _) _ _ _)); (fail_if_success (with_reducible show wpAny _ _ (exec (Stmt.Raise _ _ _) _) _ _ _)); first | (k_unfold; (try dsimp only)) | (k_end; kc_close) | walk1 | (dsimp only; walk1) | (leave1; walk_say "STEP leave1"; (try dsimp only)) | fail "no step")))
local macro_rules | `(tactic| walk_at "subscriptTail") => `(tactic| (k_here; (with_reducible show wpAny _ _ (subscriptTail _ _ (Value.ref _) (Value.str _ _)) _ _ _); k_dflt (refine' topItem_K ?F ?X ?l ?k ?e ?_; (case F => k_asm); (case X => k_asm); (case l => first | assumption | k_is); (case k => first | assumption | k_keys); (case e => first | assumption | k_is))))
local macro_rules | `(tactic| walk_at "mi_stepsC") => `(tactic| repeat' ((fail_if_success (with_reducible show wpAny _ _ (exec (Stmt.For _ _ _ _ _) _) _ _ _)); (fail_if_success (with_reducible show wpAny _ _ (exec (Stmt.Assign [_] (Expr.ListComp _ _ _ _) _) _) _ _ _)); (fail_if_success (with_reducible show wpAny _ _ (call (Value.type "zip") _) _ _ _)); (fail_if_success (with_reducible show wpAny _ _ (exec (Stmt.Assign [_] (Expr.DictComp _ _ _ _ _) _) _) _ _ _)); first | ((with_reducible show wpAny _ _ (call (Value.ref _) _ _) _ _ _); walk_at "mi_pc") | ((fail_if_success (with_reducible show wpAny _ _ (call (Value.ref _) _ _) _ _ _)); (fail_if_success (with_reducible show wpAny _ _ (exec (Stmt.Raise _ _ _) _) _ _ _)); first | (k_unfold; (try dsimp only)) | (k_end; kc_close) | walk1 | (dsimp only; walk1) | (leave1; walk_say "STEP leave1"; (try dsimp only)) | fail "no step")))
local macro_rules | `(tactic| walk_at "mi_stepsO") => `(tactic| repeat' ((fail_if_success (with_reducible show wpAny _ _ (exec (Stmt.For _ _ _ _ _) _) _ _ _)); (fail_if_success (with_reducible show wpAny _ _ (exec (Stmt.Assign [_] (Expr.ListComp _ _ _ _) _) _) _ _ _)); (fail_if_success (with_reducible show wpAny _ _ (call (Value.type "zip") _) _ _ _)); (fail_if_success (with_reducible show wpAny _ _ (exec (Stmt.Assign [_] (Expr.DictComp _ _ _ _ _) _) _) _ _ _)); first | ((with_reducible show wpAny _ _ (call (Value.ref _) _ _) _ _ _); walk_at "mi_pc") | ((fail_if_success (with_reducible show wpAny _ _ (call (Value.ref _) _ _) _ _ _)); (fail_if_success (with_reducible show wpAny _ _ (exec (Stmt.Raise _ _ _) _) _ _ _)); first | ((with_reducible show wpAny _ _ (execs _ _) _ _ _); exfalso; omega) | (k_unfold; (try dsimp only)) | (k_end; kc_close) | walk1 | (dsimp only; walk1) | (leave1; walk_say "STEP leave1"; (try dsimp only)) | fail "no step")))
/-- no object of a message stands at b -/
def Foreign (h : Heap) (b : Addr) : Prop := ∀ o, h.get? b = some o → ∃ c, o.cls = .type c ∧ c ≠ "dict" ∧ c ≠ "tuple"
/-- a message with these octets stands at x, apart from av -/
structure MsgAt (prog : Program) (w : World) (base : Heap) (av : List Addr) (h : Heap) (x : Addr) (row : List Int) : Prop where
  it : ∃ dx hf tf d kvs, h.get? x = some (instObj 455 dx) ∧ h.get? dx = some (dictOf [⟨hf, .str (Str.ofString "fields") tf, .ref d⟩] 1) ∧ h.DictOf (PySem.strKind prog w) d kvs ∧ (base.get? x = none ∧ base.get? dx = none ∧ base.get? d = none) ∧
    (x ≠ dx ∧ x ≠ d ∧ dx ≠ d) ∧ (x ∉ av ∧ dx ∉ av ∧ d ∉ av) ∧ (d == sysModules) = false ∧
    (FieldsP kvs row ∨ ∃ tt t0 tp vd ds, kvs = [(Str.ofString "type", .str (Str.ofString "sysex") tt), (Str.ofString "time", .int 0 t0), (Str.ofString "data", .ref tp)] ∧ h.get? tp = some ⟨.type "tuple", none, .seq vd 0, #[]⟩ ∧ base.get? tp = none ∧ tp ∉ av ∧ IntsAre vd.toList ds ∧ row = 240 :: (ds ++ [247]))
theorem MsgAt.keep {av : List Addr} {h h' : Heap} {x : Addr} {row : List Int} {mt : List Addr} (M : MsgAt prog w base av h x row) (e : Ext mt h h') (hm : ∀ b ∈ mt, b ∈ av ∨ Foreign h b) : MsgAt prog w base av h' x row := by
  obtain ⟨dx, hf, tf, d, kvs, a1, a2, a3, a4, a5, ⟨x1, x2, x3⟩, a7, a8⟩ := M
  have nx : x ∉ mt := fun q => by
    rcases hm x q with z | z
    · exact x1 z
    · obtain ⟨c, hc, _⟩ := z _ a1; cases hc
  have ndx : dx ∉ mt := fun q => by
    rcases hm dx q with z | z
    · exact x2 z
    · obtain ⟨c, hc, n1, _⟩ := z _ a2; cases hc; exact n1 rfl
  obtain ⟨od, hod, hdk⟩ := Heap.dictOf_iff.mp a3
  have nd : d ∉ mt := fun q => by
    rcases hm d q with z | z
    · exact x3 z
    · obtain ⟨c, hc, n1, _⟩ := z _ hod
      obtain ⟨es, nn, hx, _⟩ := hdk
      have hx := hx.1
      rw [hc] at hx; cases hx; exact n1 rfl
  refine ⟨dx, hf, tf, d, kvs, e.keep nx a1, e.keep ndx a2, Heap.dictOf_iff.mpr ⟨od, e.keep nd hod, hdk⟩, a4, a5, ⟨x1, x2, x3⟩, a7, ?_⟩
  rcases a8 with z | ⟨tt, t0, tp, vd, ds, b1, b2, b3, b4, b5, b6⟩
  · exact .inl z
  · refine .inr ⟨tt, t0, tp, vd, ds, b1, e.keep (fun q => ?_) b2, b3, b4, b5, b6⟩
    rcases hm tp q with z | z
    · exact b4 z
    · obtain ⟨c, hc, _, n1⟩ := z _ b2; cases hc; exact n1 rfl
theorem enterR {R : Result → Shared → Prop} (foot : List (Addr × Obj)) {name qual : Str} {params : Arguments} {body : List Stmt} {scope : Scope} {dV kV doc pm cdv ct oc : Value} {an od : Option Addr} {osl : Array (Option Value)} {f : Addr} {args : List Value} {kw : List (Str × Value)} {binds : List (Str × Value)}
    (S : Bas w mean mg mb base) (hs : base.StaysIn s.heap) (hfo : ∀ p ∈ foot, s.heap.get? p.1 = some p.2 ∧ base.get? p.1 = none)
    (ho : (hd.heap_39 w.params).lookup f = some ⟨oc, od, .func (fnOf name qual params body scope dV kV doc pm an cdv ct), osl⟩) (hcd : codeIn (hd.heap_39 w.params) cdv qual = true)
    (hroom : A.depth < recursionLimit) (hbind : BindsTo s (fnOf name qual params body scope dV kV doc pm an cdv ct) ⟨args, kw⟩ binds) (hloc : ∀ y ∈ binds, scope.names.lookup y.1 = some .local)
    (h : ∀ g L' h₁, base.StaysIn g → Fr g L' h₁ (fun y => binds.reverse.lookup y) → News g L' h₁ foot → (hd.heap_39 w.params).In g → Top hd.view_39 lo mean mg mb g →
      (∀ b o, b ∉ Adr foot → s.heap.get? b = some o → g.get? b = some o) → g.objs.size = s.heap.objs.size → L' = s.heap.objs.size → (∀ b o, g.get? b = some o → s.heap.get? b = some o) →
      wpAny (model prog w) (A.deeper (envOf qual scope L' f cdv)) (execs body (envOf qual scope L' f cdv)) (fun fl s' => R (.ok (.ret (match fl with | .ret v => v | _ => .none))) s')
        (fun e s' => wpAny (model prog w) (A.deeper (envOf qual scope L' f cdv)) (leaving (envOf qual scope L' f cdv) e) (fun _ s'' => R (.error e) s'') (fun e' s'' => R (.error e') s'') s')
        { s with heap := h₁, toks := s.toks + binds.length })
    (hco : scope.isCoroutine = false := by rfl) (hgen : scope.isGenerator = false := by rfl) (hk : scope.kind = .function := by rfl)
    (hcell : ∀ x ∈ scope.names, x.2 ≠ .cell := by decide) : codeAny (model prog w) A (.call (.ref f) ⟨args, kw⟩) R s := by
  have Xs : (hd.heap_39 w.params).In s.heap := S.X.keeps hs
  have Bg : base.StaysIn (hideAll s.heap (Adr foot)) := stays_of hs fun p hp => (hfo p hp).2
  refine (codeAny_call_def (fd := fnOf name qual params body scope dV kV doc pm an cdv ct) (body := body) (binds := binds) hroom (Xs _ _ ho) rfl (S.T.nolimit.keeps hs) (codeRec_of Xs hcd) rfl hbind hcell hloc (fun h₁ hns hk₁ => ?_) hco hgen hk)
  exact h (hideAll s.heap (Adr foot)) s.heap.objs.size h₁ Bg ⟨hns, fun b o e => hk₁ b o (of_hideAll _ e), Nat.le_of_eq (hideAll_size _ _)⟩
    (fun p hp => ⟨hk₁ _ _ (hfo p hp).1, Nat.ne_of_lt (Heap.lt_size (hfo p hp).1), hideAll_none _ (List.mem_map_of_mem hp)⟩) (S.X.keeps Bg) (S.T.keeps Bg)
    (fun b o hb e => hideAll_get _ e hb) (hideAll_size _ _) rfl (fun b o e => of_hideAll _ e)
local macro_rules | `(tactic| walk_at "subscriptTail") => `(tactic| (k_here; (with_reducible show wpAny _ _ (subscriptTail _ _ (Value.ref _) (Value.str _ _)) _ _ _); k_dflt (refine kda_item (knd := PySem.strKind _ _) (by k_asm) (by k_mem) (by assumption) (strKind_is _ _ _ _) (by first | assumption | rfl) ?_)))
local macro_rules | `(tactic| walk_at "compareOp In str ref") => `(tactic| (k_here; k_dflt (refine kda_in (knd := PySem.strKind _ _) (by k_asm) (by k_mem) (by assumption) (by assumption) (strKind_is _ _ _ _) _ (by assumption) ?_)))
local macro_rules | `(tactic| walk_at "setItem ref str") => `(tactic| (k_here; k_dflt (refine' kda_set (knd := PySem.strKind _ _) ?F ?N ?U ?d (strKind_is _ _ _ _) ?z ?_; (case F => k_asm); (case N => k_asm); (case U => k_updF); (case d => assumption); (case z => first | assumption | decide)); intro h' o' F' N' hd'; (try dsimp only at N')))
theorem c_from_good {R : Result → Shared → Prop} {row : List Int} (G : GoodRow row) (bl : Addr) (S : Bas w mean mg mb base) (hs : base.StaysIn s.heap) (hA : A.depth + 30 < recursionLimit) (hh : A.handled = none)
   (hi : IsInts s.heap bl row) (hb0 : base.get? bl = none)
   (hQ : ∀ h' tk x, Ext [] s.heap h' → After s.heap x → (∀ av, (∀ a ∈ av, ∃ o, s.heap.get? a = some o) → MsgAt prog w base av h' x row) → R (.ok (.ret (.ref x))) {s with heap := h', toks := tk}) :
   codeAny (model prog w) A (.call (.ref 418) ⟨[.ref 455, .ref bl], []⟩) R s := by
  have Xs : (hd.heap_39 w.params).In s.heap := S.X.keeps hs
  obtain ⟨vs, nd, e, hv⟩ := id hi
  have hfo := fo_cons e hb0 (fo_nil (h := s.heap) (base := base))
  refine enterR (binds := [(Str.ofString "cl", .ref 455), (Str.ofString "data", .ref bl), (Str.ofString "time", .int 0 1031)]) _ S hs hfo (by k_is) (by k_is) (by omega) ?bd (locs rfl) ?_
  case bd => exact binds_K Xs rfl (by k_is) rfl rfl rfl
  intro g L' h₁ hg F N X TT hgk hsz hL hgs
  k_steps
  rename Fr g L' _ _ => F2
  rename News g L' _ _ => N2
  refine c_dm_good G bl 1031 S (fun b o q => F2.keep b o (hg b o q)) (by walk_at "mi_depth") hh ⟨vs, nd, N2.get (.head _), hv⟩ hb0 fun h6 tk6 d kvs ty tt e6 a6 lo6 hd6 fp6 v6 n6 mk6 => ?_
  have F6 := frExt F2 e6 (fun h => nomatch h) (fun _ h => nomatch h)
  obtain ⟨o6, ho6, hdk6⟩ := Heap.dictOf_iff.mp hd6
  have N6 := nwCons ho6 (goneL F2 a6) (gone F2 a6) (nwExt N2 e6 (fun _ _ h => nomatch h))
  have dn : d ≠ bl := a6.ne (N2.get (.head _))
  have n6' : (valueAt kvs (Str.ofString "data")).isSome = false := by rw [n6]; rfl
  clear F2 N2
  k_steps
  rename Fr g L' _ _ => F2
  rename News g L' _ _ => N2
  refine mk6 tt (fun b o q => F2.keep b o (hg b o q)) (by walk_at "mi_depth") hh fun h7 tk7 x dx hf tf d0 e7 a7 b7 xdx x7 dx7 => ?_
  have F7 := frExt F2 e7 (fun h => nomatch h) (fun _ h => nomatch h)
  have xd : x ≠ d := a7.ne (N2.get (.head _))
  have xb : x ≠ bl := a7.ne (N2.get (.tail _ (.head _)))
  have dxd : dx ≠ d := b7.ne (N2.get (.head _))
  have dxb : dx ≠ bl := b7.ne (N2.get (.tail _ (.head _)))
  have N7 := nwCons dx7 (goneL F2 b7) (gone F2 b7) (nwCons x7 (goneL F2 a7) (gone F2 a7) (nwExt N2 e7 (fun _ _ h => nomatch h)))
  have dxx := Ne.symm xdx
  clear F2 N2
  k_steps
  rename Fr g L' _ _ => F2
  rename News g L' _ _ => N2
  have q1 := N2.fresh (.head _)
  have q2 := N2.fresh (.tail _ (.head _))
  have q3 := N2.fresh (.tail _ (.tail _ (.head _)))
  have r1 : After s.heap dx := after_none hgk q1 (by simpa using dxb)
  have r2 : After s.heap x := after_none hgk q2 (by simpa using xb)
  have r3 : After s.heap d := after_none hgk q3 (by simpa using dn)
  refine hQ _ _ x (ext_of [] hgk hsz hfo F2 N2 (by walk_at "mi_ro")) r2 fun av hav => ⟨dx, hf, tf, d, kvs, N2.get (.tail _ (.head _)), N2.get (.head _), Heap.dictOf_iff.mpr ⟨_, N2.get (.tail _ (.tail _ (.head _))), hdk6⟩, ⟨base_none hg q2, base_none hg q1, base_none hg q3⟩, ⟨xdx, xd, dxd⟩, ⟨?_, ?_, ?_⟩, lo6, .inl fp6⟩
  · intro z; obtain ⟨o, ho⟩ := hav x z; exact r2.ne ho rfl
  · intro z; obtain ⟨o, ho⟩ := hav dx z; exact r1.ne ho rfl
  · intro z; obtain ⟨o, ho⟩ := hav d z; exact r3.ne ho rfl
theorem c_from_sx {R : Result → Shared → Prop} (ds : List Int) (hds : ∀ x ∈ ds, 0 ≤ x ∧ x ≤ 127) (hlen : ds.length < 800) (bl : Addr) (S : Bas w mean mg mb base) (hs : base.StaysIn s.heap) (hA : A.depth + 30 < recursionLimit) (hh : A.handled = none)
   (hi : IsInts s.heap bl (240 :: (ds ++ [247]))) (hb0 : base.get? bl = none)
   (hQ : ∀ h' tk x, Ext [] s.heap h' → After s.heap x → (∀ av, (∀ a ∈ av, ∃ o, s.heap.get? a = some o) → MsgAt prog w base av h' x (240 :: (ds ++ [247]))) → R (.ok (.ret (.ref x))) {s with heap := h', toks := tk}) :
   codeAny (model prog w) A (.call (.ref 418) ⟨[.ref 455, .ref bl], []⟩) R s := by
  have Xs : (hd.heap_39 w.params).In s.heap := S.X.keeps hs
  obtain ⟨vs, nd, e, hv⟩ := id hi
  have hfo := fo_cons e hb0 (fo_nil (h := s.heap) (base := base))
  refine enterR (binds := [(Str.ofString "cl", .ref 455), (Str.ofString "data", .ref bl), (Str.ofString "time", .int 0 1031)]) _ S hs hfo (by k_is) (by k_is) (by omega) ?bd (locs rfl) ?_
  case bd => exact binds_K Xs rfl (by k_is) rfl rfl rfl
  intro g L' h₁ hg F N X TT hgk hsz hL hgs
  k_steps
  rename Fr g L' _ _ => F2
  rename News g L' _ _ => N2
  refine c_dm_sx ds vs bl nd 1031 hds hlen hv S (fun b o q => F2.keep b o (hg b o q)) (by walk_at "mi_depth") hh (fo_cons (N2.get (.head _)) hb0 fo_nil) fun h6 tk6 d tt tp vd e6 a6 ap pn lo6 tp6 vd6 hd6 => ?_
  have F6 := frExt F2 e6 (fun h => nomatch h) (fun _ h => nomatch h)
  obtain ⟨o6, ho6, hdk6⟩ := Heap.dictOf_iff.mp hd6
  have N6 := nwCons ho6 (goneL F2 a6) (gone F2 a6) (nwCons tp6 (goneL F2 ap) (gone F2 ap) (nwExt N2 e6 (fun _ _ h => nomatch h)))
  have dn : d ≠ bl := a6.ne (N2.get (.head _))
  have pb : tp ≠ bl := ap.ne (N2.get (.head _))
  have n6' : (valueAt [(Str.ofString "type", Value.str (Str.ofString "sysex") tt), (Str.ofString "time", .int 0 1031), (Str.ofString "data", .ref tp)] (Str.ofString "data")).isSome = true := rfl
  have v6' : valueAt [(Str.ofString "type", Value.str (Str.ofString "sysex") tt), (Str.ofString "time", .int 0 1031), (Str.ofString "data", .ref tp)] (Str.ofString "type") = some (.str (Str.ofString "sysex") tt) := rfl
  clear F2 N2
  k_steps
  rename Fr g L' _ _ => F2
  rename News g L' _ _ => N2
  refine makes_sysex S tt (fun b o q => F2.keep b o (hg b o q)) (by walk_at "mi_depth") hh fun h7 tk7 x dx hf tf d0 e7 a7 b7 xdx x7 dx7 => ?_
  have F7 := frExt F2 e7 (fun h => nomatch h) (fun _ h => nomatch h)
  have xd : x ≠ d := a7.ne (N2.get (.head _))
  have xb : x ≠ bl := a7.ne (N2.get (.tail _ (.tail _ (.head _))))
  have dxd : dx ≠ d := b7.ne (N2.get (.head _))
  have dxb : dx ≠ bl := b7.ne (N2.get (.tail _ (.tail _ (.head _))))
  have xp : x ≠ tp := a7.ne (N2.get (.tail _ (.head _)))
  have dxp : dx ≠ tp := b7.ne (N2.get (.tail _ (.head _)))
  have N7 := nwCons dx7 (goneL F2 b7) (gone F2 b7) (nwCons x7 (goneL F2 a7) (gone F2 a7) (nwExt N2 e7 (fun _ _ h => nomatch h)))
  have dxx := Ne.symm xdx
  clear F2 N2
  k_steps
  rename Fr g L' _ _ => F2
  rename News g L' _ _ => N2
  obtain ⟨o8, N8, hd8⟩ : ∃ o8, News g L' _ [(dx, dictOf [⟨hf, .str (Str.ofString "fields") tf, .ref d⟩] 1), (x, instObj 455 dx), (d, o8), (tp, ⟨.type "tuple", none, .seq vd 0, #[]⟩), (bl, listOf vs nd)] ∧ o8.IsDictOf (PySem.strKind prog w) [(Str.ofString "type", .str (Str.ofString "sysex") tt), (Str.ofString "time", .int 0 1031), (Str.ofString "data", .ref tp)] := ⟨_, N2, by assumption⟩
  have q1 := N8.fresh (.head _)
  have q2 := N8.fresh (.tail _ (.head _))
  have q3 := N8.fresh (.tail _ (.tail _ (.head _)))
  have q4 := N8.fresh (.tail _ (.tail _ (.tail _ (.head _))))
  have r1 : After s.heap dx := after_none hgk q1 (by simpa using dxb)
  have r2 : After s.heap x := after_none hgk q2 (by simpa using xb)
  have r3 : After s.heap d := after_none hgk q3 (by simpa using dn)
  have r4 : After s.heap tp := after_none hgk q4 (by simpa using pb)
  refine hQ _ _ x (ext_of [] hgk hsz hfo F2 N8 (by walk_at "mi_ro")) r2 fun av hav => ⟨dx, hf, tf, d, _, N8.get (.tail _ (.head _)), N8.get (.head _), Heap.dictOf_iff.mpr ⟨_, N8.get (.tail _ (.tail _ (.head _))), hd8⟩, ⟨base_none hg q2, base_none hg q1, base_none hg q3⟩, ⟨xdx, xd, dxd⟩, ⟨?_, ?_, ?_⟩, lo6, .inr ⟨tt, 1031, tp, vd, ds, rfl, N8.get (.tail _ (.tail _ (.tail _ (.head _)))), base_none hg q4, ?_, vd6, rfl⟩⟩
  · intro z; obtain ⟨o, ho⟩ := hav x z; exact r2.ne ho rfl
  · intro z; obtain ⟨o, ho⟩ := hav dx z; exact r1.ne ho rfl
  · intro z; obtain ⟨o, ho⟩ := hav d z; exact r3.ne ho rfl
  · intro z; obtain ⟨o, ho⟩ := hav tp z; exact r4.ne ho rfl
end PartV
theorem restW {M : Model} {A : Around} {s : Shared} {E : Value → Shared → Prop} {env : Env} {Q : Flow → Shared → Prop} (h : Q .next s) : wpAny M A (execs [] env) Q E s := by
  w_top off
  walk1
  w_top off
  exact h
section PartW
local macro_rules | `(tactic| k_steps) => `(tactic| repeat' (first | ((with_reducible show wpAny _ _ (call (Value.ref _) _ _) _ _ _); walk_at "mi_pc") | ((fail_if_success (with_reducible show wpAny _ _ (call (Value.ref _) _ _) _ _ _)); (fail_if_success (with_reducible show wpAny _ _ (exec (Stmt.Raise _ _ _) _) _ _ _)); first | (k_unfold; (try dsimp only)) | (k_end; wrow_close) | walk1 | (dsimp only; walk1) | (leave1; walk_say "STEP leave1"; (try dsimp only)) | fail "no step")))
local macro_rules | `(tactic| k_ne) => `(tactic| first | assumption | exact Ne.symm (by assumption))
local macro_rules | `(tactic| walk_at "call builtin:len") => `(tactic| (k_here; (with_reducible show wpAny _ _ (call (Value.builtin "len") [Value.ref _]) _ _ _); refine PyProof.Rows.len_list (News.isList (by k_asm) (by k_mem)) (by (try simp only [Array.size_push, List.size_toArray]); omega) ?_))
local macro_rules | `(tactic| walk_at "mi_ro") => `(tactic| repeat' (first | exact ro_nil | refine ro_keep (by k_mem) ?_ | refine ro_mut (by simp) ?_))
local macro_rules | `(tactic| walk_at "mi_depth") => `(tactic| ((try simp only [PySem.Around.deeper, PySem.Around.in1_depth]); omega))
local macro_rules | `(tactic| walk_at "mi_pure") => `(tactic| exact hQ _ _ (ext_of [] hgk hsz (fo_nil (base := base)) (by assumption) (by assumption) ro_nil))
local macro_rules | `(tactic| walk_at "mi_steps") => `(tactic| repeat' ((fail_if_success (with_reducible show wpAny _ _ (exec (Stmt.For _ _ _ _ _) _) _ _ _)); first | ((with_reducible show wpAny _ _ (call (Value.ref _) _ _) _ _ _); walk_at "mi_pc") | ((fail_if_success (with_reducible show wpAny _ _ (call (Value.ref _) _ _) _ _ _)); (fail_if_success (with_reducible show wpAny _ _ (exec (Stmt.Raise _ _ _) _) _ _ _)); first | (k_unfold; (try dsimp only)) | (k_end; kc_close) | walk1 | (dsimp only; walk1) | (leave1; walk_say "STEP leave1"; (try dsimp only)) | fail "no step")))
local macro_rules | `(tactic| walk_at "subscriptTail") => `(tactic| (k_here; (with_reducible show wpAny _ _ (subscriptTail _ _ (Value.ref _) (Value.str _ _)) _ _ _); k_dflt (refine' topItem_K ?F ?X ?l ?k ?e ?_; (case F => k_asm); (case X => k_asm); (case l => first | assumption | k_is); (case k => first | assumption | k_keys); (case e => first | assumption | k_is))))
local macro_rules | `(tactic| walk_at "mi_stepsC") => `(tactic| repeat' ((fail_if_success (with_reducible show wpAny _ _ (exec (Stmt.For _ _ _ _ _) _) _ _ _)); (fail_if_success (with_reducible show wpAny _ _ (exec (Stmt.Assign [_] (Expr.ListComp _ _ _ _) _) _) _ _ _)); (fail_if_success (with_reducible show wpAny _ _ (call (Value.type "zip") _) _ _ _)); (fail_if_success (with_reducible show wpAny _ _ (exec (Stmt.Assign [_] (Expr.DictComp _ _ _ _ _) _) _) _ _ _)); first | ((with_reducible show wpAny _ _ (call (Value.ref _) _ _) _ _ _); walk_at "mi_pc") | ((fail_if_success (with_reducible show wpAny _ _ (call (Value.ref _) _ _) _ _ _)); (fail_if_success (with_reducible show wpAny _ _ (exec (Stmt.Raise _ _ _) _) _ _ _)); first | (k_unfold; (try dsimp only)) | (k_end; kc_close) | walk1 | (dsimp only; walk1) | (leave1; walk_say "STEP leave1"; (try dsimp only)) | fail "no step")))
local macro_rules | `(tactic| walk_at "mi_stepsO") => `(tactic| repeat' ((fail_if_success (with_reducible show wpAny _ _ (exec (Stmt.For _ _ _ _ _) _) _ _ _)); (fail_if_success (with_reducible show wpAny _ _ (exec (Stmt.Assign [_] (Expr.ListComp _ _ _ _) _) _) _ _ _)); (fail_if_success (with_reducible show wpAny _ _ (call (Value.type "zip") _) _ _ _)); (fail_if_success (with_reducible show wpAny _ _ (exec (Stmt.Assign [_] (Expr.DictComp _ _ _ _ _) _) _) _ _ _)); first | ((with_reducible show wpAny _ _ (call (Value.ref _) _ _) _ _ _); walk_at "mi_pc") | ((fail_if_success (with_reducible show wpAny _ _ (call (Value.ref _) _ _) _ _ _)); (fail_if_success (with_reducible show wpAny _ _ (exec (Stmt.Raise _ _ _) _) _ _ _)); first | ((with_reducible show wpAny _ _ (execs _ _) _ _ _); exfalso; omega) | (k_unfold; (try dsimp only)) | (k_end; kc_close) | walk1 | (dsimp only; walk1) | (leave1; walk_say "STEP leave1"; (try dsimp only)) | fail "no step")))
theorem enterC (foot : List (Addr × Obj)) {name qual : Str} {params : Arguments} {body : List Stmt} {scope : Scope} {dV kV doc pm cdv ct oc : Value} {an od : Option Addr} {osl : Array (Option Value)} {f : Addr} {args : List Value} {x : Str} {v : Value}
    (S : Bas w mean mg mb base) (hs : base.StaysIn s.heap) (hfo : ∀ p ∈ foot, s.heap.get? p.1 = some p.2 ∧ base.get? p.1 = none)
    (ho : (hd.heap_39 w.params).lookup f = some ⟨oc, od, .func (fnOf name qual params body scope dV kV doc pm an cdv ct), osl⟩) (hcd : codeIn (hd.heap_39 w.params) cdv qual = true)
    (hroom : A.depth < recursionLimit) (hbind : bindArgs (fnOf name qual params body scope dV kV doc pm an cdv ct) ⟨args, []⟩ = pure [(x, v)]) (hkind : scope.names.lookup x = some .cell) (hcf : ∀ L, cellsFrom L scope.names [] = [(x, L)])
    (h : ∀ g L' h₁ tk ocl, base.StaysIn g → Fr g L' h₁ (fun _ => none) → News g L' h₁ ((L' + 1, ocl) :: foot) → ocl.data = .cell (some v) → (hd.heap_39 w.params).In g → Top hd.view_39 lo mean mg mb g →
      (∀ b o, b ∉ Adr foot → s.heap.get? b = some o → g.get? b = some o) → (∀ b o, g.get? b = some o → s.heap.get? b = some o) → L' = s.heap.objs.size → (∀ p ∈ foot, p.1 < L') →
      wpAny (model prog w) (A.deeper (envOfC qual scope L' f cdv)) (execs body (envOfC qual scope L' f cdv)) (fun fl s' => Q (match fl with | .ret v => v | _ => .none) s')
        (fun e s' => wpAny (model prog w) (A.deeper (envOfC qual scope L' f cdv)) (leaving (envOfC qual scope L' f cdv) e) (fun _ s'' => E e s'') (fun e' s'' => E e' s'') s')
        { s with heap := h₁, toks := tk })
    (hco : scope.isCoroutine = false := by rfl) (hgen : scope.isGenerator = false := by rfl) (hk : scope.kind = .function := by rfl) : wpAny (model prog w) A (call (.ref f) args) Q E s := by
  have Xs : (hd.heap_39 w.params).In s.heap := S.X.keeps hs
  have Bg : base.StaysIn (hideAll s.heap (Adr foot)) := stays_of hs fun p hp => (hfo p hp).2
  refine wpAny_call (codeAny_call_cells (fd := fnOf name qual params body scope dV kV doc pm an cdv ct) (body := body) (binds := [(x, v)]) hroom (Xs _ _ ho) rfl (S.T.nolimit.keeps hs) (codeRec_of Xs hcd) rfl hbind rfl
    (fun y hy => by obtain rfl := List.mem_singleton.mp hy; exact .inr ⟨hkind, by rw [show (fnOf name qual params body scope dV kV doc pm an cdv ct).scope = scope from rfl, hcf]; simp⟩) (fun s₁ hx => ?_) hco hgen hk)
  obtain ⟨⟨⟨h₁, tk, rfl⟩, hns, hkp, hfr⟩, hcell, hap, hab⟩ := hx
  have hkx : (callEnvC (fnOf name qual params body scope dV kV doc pm an cdv ct) s.heap.objs.size f).kindOf x = some .cell := hkind
  have hcells : (callEnvC (fnOf name qual params body scope dV kV doc pm an cdv ct) s.heap.objs.size f).cells = [(x, s.heap.objs.size + 1)] := hcf _
  have hcx := hcell x (s.heap.objs.size + 1) (by rw [hcells]; simp)
  have e1 : bindC (callEnvC (fnOf name qual params body scope dV kV doc pm an cdv ct) s.heap.objs.size f).kindOf [(x, v)] (fun _ => none) x = some v := by
    unfold bindC; rw [if_neg (by rw [hkx]; decide)]; simp [bindC]
  have e2 : bindL (callEnvC (fnOf name qual params body scope dV kV doc pm an cdv ct) s.heap.objs.size f).kindOf [(x, v)] (fun _ => none) = fun _ => none := by
    unfold bindL; rw [if_neg (by rw [hkx]; decide)]; rfl
  rw [e1] at hcx
  rw [e2] at hns
  obtain ⟨ocl, hocl, hdat⟩ := hcx
  have hab' : s.heap.objs.size < s.heap.objs.size + 1 := Nat.lt_succ_self _
  refine h (hideAll s.heap (Adr foot)) s.heap.objs.size h₁ tk ocl Bg ⟨hns, fun b o e => hkp b o (of_hideAll _ e), Nat.le_of_eq (hideAll_size _ _)⟩ ?_ hdat (S.X.keeps Bg) (S.T.keeps Bg) (fun b o hb e => hideAll_get _ e hb) (fun b o e => of_hideAll _ e) rfl (fun p hp => Heap.lt_size (hfo p hp).1)
  refine List.forall_mem_cons.mpr ⟨⟨hocl, Nat.ne_of_gt hab', ?_⟩, fun p hp => ⟨hkp _ _ (hfo p hp).1, Nat.ne_of_lt (Heap.lt_size (hfo p hp).1), hideAll_none _ (List.mem_map_of_mem hp)⟩⟩
  cases q : (hideAll s.heap (Adr foot)).get? (s.heap.objs.size + 1) with
  | none => rfl
  | some ob => exact absurd (Heap.lt_size (of_hideAll _ q)) (Nat.not_lt.mpr (Nat.le_succ _))
end PartW
theorem restX2 {M : Model} {A : Around} {s : Shared} {E : Value → Shared → Prop} {env : Env} {Q : Flow → Shared → Prop} (h : Q .next s) : wpAny M A (execs [] env) Q E s := by
  w_top off
  walk1
  w_top off
  exact h
section PartX2
local macro_rules | `(tactic| k_steps) => `(tactic| repeat' (first | ((with_reducible show wpAny _ _ (call (Value.ref _) _ _) _ _ _); walk_at "mi_pc") | ((fail_if_success (with_reducible show wpAny _ _ (call (Value.ref _) _ _) _ _ _)); (fail_if_success (with_reducible show wpAny _ _ (exec (Stmt.Raise _ _ _) _) _ _ _)); first | (k_unfold; (try dsimp only)) | (k_end; wrow_close) | walk1 | (dsimp only; walk1) | (leave1; walk_say "STEP leave1"; (try dsimp only)) | fail "no step")))
local macro_rules | `(tactic| k_ne) => `(tactic| first | assumption | exact Ne.symm (by assumption))
local macro_rules | `(tactic| walk_at "call builtin:len") => `(tactic| (k_here; (with_reducible show wpAny _ _ (call (Value.builtin "len") [Value.ref _]) _ _ _); refine PyProof.Rows.len_list (News.isList (by k_asm) (by k_mem)) (by (try simp only [Array.size_push, List.size_toArray]); omega) ?_))
local macro_rules | `(tactic| walk_at "mi_ro") => `(tactic| repeat' (first | exact ro_nil | refine ro_keep (by k_mem) ?_ | refine ro_mut (by simp) ?_))
local macro_rules | `(tactic| walk_at "mi_depth") => `(tactic| ((try simp only [PySem.Around.deeper, PySem.Around.in1_depth]); omega))
local macro_rules | `(tactic| walk_at "mi_pure") => `(tactic| exact hQ _ _ (ext_of [] hgk hsz (fo_nil (base := base)) (by assumption) (by assumption) ro_nil))
local macro_rules | `(tactic| walk_at "mi_steps") => `(tactic| repeat' ((fail_if_success (with_reducible show wpAny _ _ (exec (Stmt.For _ _ _ _ _) _) _ _ _)); first | ((with_reducible show wpAny _ _ (call (Value.ref _) _ _) _ _ _); walk_at "mi_pc") | ((fail_if_success (with_reducible show wpAny _ _ (call (Value.ref _) _ _) _ _ _)); (fail_if_success (with_reducible show wpAny _ _ (exec (Stmt.Raise _ _ _) _) _ _ _)); first | (k_unfold; (try dsimp only)) | (k_end; kc_close) | walk1 | (dsimp only; walk1) | (leave1; walk_say "STEP leave1"; (try dsimp only)) | fail "no step")))
local macro_rules | `(tactic| walk_at "subscriptTail") => `(tactic| (k_here; (with_reducible show wpAny _ _ (subscriptTail _ _ (Value.ref _) (Value.str _ _)) _ _ _); k_dflt (refine' topItem_K ?F ?X ?l ?k ?e ?_; (case F => k_asm); (case X => k_asm); (case l => first | assumption | k_is); (case k => first | assumption | k_keys); (case e => first | assumption | k_is))))
local macro_rules | `(tactic| walk_at "mi_stepsC") => `(tactic| repeat' ((fail_if_success (with_reducible show wpAny _ _ (exec (Stmt.For _ _ _ _ _) _) _ _ _)); (fail_if_success (with_reducible show wpAny _ _ (exec (Stmt.Assign [_] (Expr.ListComp _ _ _ _) _) _) _ _ _)); (fail_if_success (with_reducible show wpAny _ _ (call (Value.type "zip") _) _ _ _)); (fail_if_success (with_reducible show wpAny _ _ (exec (Stmt.Assign [_] (Expr.DictComp _ _ _ _ _) _) _) _ _ _)); first | ((with_reducible show wpAny _ _ (call (Value.ref _) _ _) _ _ _); walk_at "mi_pc") | ((fail_if_success (with_reducible show wpAny _ _ (call (Value.ref _) _ _) _ _ _)); (fail_if_success (with_reducible show wpAny _ _ (exec (Stmt.Raise _ _ _) _) _ _ _)); first | (k_unfold; (try dsimp only)) | (k_end; kc_close) | walk1 | (dsimp only; walk1) | (leave1; walk_say "STEP leave1"; (try dsimp only)) | fail "no step")))
local macro_rules | `(tactic| walk_at "mi_stepsO") => `(tactic| repeat' ((fail_if_success (with_reducible show wpAny _ _ (exec (Stmt.For _ _ _ _ _) _) _ _ _)); (fail_if_success (with_reducible show wpAny _ _ (exec (Stmt.Assign [_] (Expr.ListComp _ _ _ _) _) _) _ _ _)); (fail_if_success (with_reducible show wpAny _ _ (call (Value.type "zip") _) _ _ _)); (fail_if_success (with_reducible show wpAny _ _ (exec (Stmt.Assign [_] (Expr.DictComp _ _ _ _ _) _) _) _ _ _)); first | ((with_reducible show wpAny _ _ (call (Value.ref _) _ _) _ _ _); walk_at "mi_pc") | ((fail_if_success (with_reducible show wpAny _ _ (call (Value.ref _) _ _) _ _ _)); (fail_if_success (with_reducible show wpAny _ _ (exec (Stmt.Raise _ _ _) _) _ _ _)); first | ((with_reducible show wpAny _ _ (execs _ _) _ _ _); exfalso; omega) | (k_unfold; (try dsimp only)) | (k_end; kc_close) | walk1 | (dsimp only; walk1) | (leave1; walk_say "STEP leave1"; (try dsimp only)) | fail "no step")))
local macro_rules | `(tactic| walk_at "subscriptTail") => `(tactic| (k_here; (with_reducible show wpAny _ _ (subscriptTail _ _ (Value.ref _) (Value.str _ _)) _ _ _); k_dflt (refine kda_item (knd := PySem.strKind _ _) (by k_asm) (by k_mem) (by assumption) (strKind_is _ _ _ _) (by first | assumption | rfl) ?_)))
theorem bor_qf (a : Int) : Builtin.bitOr (a / 16 * 2 ^ 4) (a % 16) = a := by
  have := bor_add' 4 (a % 16) (a / 16) (by omega) (by omega)
  rw [show (a / 16 * 2 ^ 4 : Int) = 2 ^ 4 * (a / 16) from Int.mul_comm _ _, this]; omega
theorem low7 (a b : Int) (ha : 0 ≤ a ∧ a ≤ 127) : Builtin.bitAnd (a + b * 128) 127 = a := by rw [bitAnd_m7]; omega
theorem high7 (a b : Int) (ha : 0 ≤ a ∧ a ≤ 127) : (a + b * 128).fdiv (2 ^ 7) = b := by rw [fdiv_pow]; omega
theorem low7' (a b : Int) (ha : 0 ≤ a ∧ a ≤ 127) : Builtin.bitAnd (a + b * 128 - 8192 - -8192) 127 = a := by rw [bitAnd_m7]; omega
theorem high7' (a b : Int) (ha : 0 ≤ a ∧ a ≤ 127) : (a + b * 128 - 8192 - -8192).fdiv (2 ^ 7) = b := by rw [fdiv_pow]; omega
theorem c_el_note_on (d : Addr) (od : Obj) (tt t0 ta tb tc : Tok) (a b c : Int) (h1 : 0 ≤ c) (h2 : c ≤ 15) (S : Bas w mean mg mb base) (hs : base.StaysIn s.heap) (hA : A.depth + 6 < recursionLimit)
   (hdk : od.IsDictOf (PySem.strKind prog w) [(Str.ofString "type", .str (Str.ofString "note_on") tt), (Str.ofString "time", .int 0 t0), (Str.ofString "note", .int (a) ta), (Str.ofString "velocity", .int (b) tb), (Str.ofString "channel", .int (c) tc)])
   (hfo : ∀ p ∈ [(d, od)], s.heap.get? p.1 = some p.2 ∧ base.get? p.1 = none)
   (hQ : ∀ h' tk l, Ext [] s.heap h' → After s.heap l → IsInts h' l [144 + c, a, b] → Q (.ref l) {s with heap := h', toks := tk}) :
   wpAny (model prog w) A (call (.ref 276) [.ref d]) Q E s := by
  refine enterM (binds := [(Str.ofString "msg", .ref d)]) _ S hs hfo (by k_is) (by k_is) (by omega) (.of_eq rfl) (locs rfl) ?_
  intro g L' h₁ hg F N X TT hgk hsz hL hgs
  have e : ([Builtin.bitOr 144 c, a, b] : List Int) = [144 + c, a, b] := by rw [bor_status 144 c h1 h2 (by decide)]
  k_steps
  rename Fr g L' _ _ => F2
  rename News g L' _ _ => N2
  rename @LT.lt Nat _ d _ => lt1
  exact hQ _ _ _ (ext_of [] hgk hsz hfo F2 N2 (by walk_at "mi_ro")) (after_none hgk (N2.fresh (.head _)) (by simpa using Nat.ne_of_gt lt1)) (Eq.mp (congrArg (fun z => IsInts _ _ z) e) ⟨_, _, N2.get (.head _), (.cons _ _ (.cons _ _ (.cons _ _ .nil)))⟩)
theorem c_enc_note_on (d : Addr) (od : Obj) (tt t0 ta tb tc : Tok) (a b c : Int) (h1 : 0 ≤ c) (h2 : c ≤ 15) (S : Bas w mean mg mb base) (hs : base.StaysIn s.heap) (hA : A.depth + 14 < recursionLimit)
   (hdk : od.IsDictOf (PySem.strKind prog w) [(Str.ofString "type", .str (Str.ofString "note_on") tt), (Str.ofString "time", .int 0 t0), (Str.ofString "note", .int (a) ta), (Str.ofString "velocity", .int (b) tb), (Str.ofString "channel", .int (c) tc)])
   (hfo : ∀ p ∈ [(d, od)], s.heap.get? p.1 = some p.2 ∧ base.get? p.1 = none)
   (hQ : ∀ h' tk l, Ext [] s.heap h' → After s.heap l → IsInts h' l [144 + c, a, b] → Q (.ref l) {s with heap := h', toks := tk}) :
   wpAny (model prog w) A (call (.ref 288) [.ref d]) Q E s := by
  refine enterC (x := Str.ofString "msg") (v := .ref d) _ S hs hfo (by k_is) (by k_is) (by omega) rfl rfl (fun _ => rfl) ?_
  intro g L' h₁ tk ocl hg F N hdat X TT hgk hgs hL hlt
  walk_at "mi_stepsC"
  rename Fr g L' _ _ => F2
  rename News g L' _ _ => N2
  refine c_el_note_on d od tt t0 ta tb tc a b c h1 h2 S (fun b o q => F2.keep b o (hg b o q)) (by walk_at "mi_depth") hdk (fo_cons (N2.get (.tail _ (.head _))) (base_none hg (N2.fresh (.tail _ (.head _)))) fo_nil) fun h6 tk6 l e6 a6 i6 => ?_
  have F6 := frExt F2 e6 (fun h => nomatch h) (fun _ h => nomatch h)
  have N6 := nwExt N2 e6 (fun _ _ h => nomatch h)
  have lg := gone F2 a6
  have ld : l ≠ d := a6.ne (N2.get (.tail _ (.head _)))
  clear F2 N2
  k_steps
  exact hQ _ _ l (ext_of' [] hgk hfo F6 N6 (by walk_at "mi_ro")) (after_none hgk lg (by simpa using ld)) i6
theorem c_el_control_change (d : Addr) (od : Obj) (tt t0 ta tb tc : Tok) (a b c : Int) (h1 : 0 ≤ c) (h2 : c ≤ 15) (S : Bas w mean mg mb base) (hs : base.StaysIn s.heap) (hA : A.depth + 6 < recursionLimit)
   (hdk : od.IsDictOf (PySem.strKind prog w) [(Str.ofString "type", .str (Str.ofString "control_change") tt), (Str.ofString "time", .int 0 t0), (Str.ofString "control", .int (a) ta), (Str.ofString "value", .int (b) tb), (Str.ofString "channel", .int (c) tc)])
   (hfo : ∀ p ∈ [(d, od)], s.heap.get? p.1 = some p.2 ∧ base.get? p.1 = none)
   (hQ : ∀ h' tk l, Ext [] s.heap h' → After s.heap l → IsInts h' l [176 + c, a, b] → Q (.ref l) {s with heap := h', toks := tk}) :
   wpAny (model prog w) A (call (.ref 283) [.ref d]) Q E s := by
  refine enterM (binds := [(Str.ofString "msg", .ref d)]) _ S hs hfo (by k_is) (by k_is) (by omega) (.of_eq rfl) (locs rfl) ?_
  intro g L' h₁ hg F N X TT hgk hsz hL hgs
  have e : ([Builtin.bitOr 176 c, a, b] : List Int) = [176 + c, a, b] := by rw [bor_status 176 c h1 h2 (by decide)]
  k_steps
  rename Fr g L' _ _ => F2
  rename News g L' _ _ => N2
  rename @LT.lt Nat _ d _ => lt1
  exact hQ _ _ _ (ext_of [] hgk hsz hfo F2 N2 (by walk_at "mi_ro")) (after_none hgk (N2.fresh (.head _)) (by simpa using Nat.ne_of_gt lt1)) (Eq.mp (congrArg (fun z => IsInts _ _ z) e) ⟨_, _, N2.get (.head _), (.cons _ _ (.cons _ _ (.cons _ _ .nil)))⟩)
theorem c_enc_control_change (d : Addr) (od : Obj) (tt t0 ta tb tc : Tok) (a b c : Int) (h1 : 0 ≤ c) (h2 : c ≤ 15) (S : Bas w mean mg mb base) (hs : base.StaysIn s.heap) (hA : A.depth + 14 < recursionLimit)
   (hdk : od.IsDictOf (PySem.strKind prog w) [(Str.ofString "type", .str (Str.ofString "control_change") tt), (Str.ofString "time", .int 0 t0), (Str.ofString "control", .int (a) ta), (Str.ofString "value", .int (b) tb), (Str.ofString "channel", .int (c) tc)])
   (hfo : ∀ p ∈ [(d, od)], s.heap.get? p.1 = some p.2 ∧ base.get? p.1 = none)
   (hQ : ∀ h' tk l, Ext [] s.heap h' → After s.heap l → IsInts h' l [176 + c, a, b] → Q (.ref l) {s with heap := h', toks := tk}) :
   wpAny (model prog w) A (call (.ref 288) [.ref d]) Q E s := by
  refine enterC (x := Str.ofString "msg") (v := .ref d) _ S hs hfo (by k_is) (by k_is) (by omega) rfl rfl (fun _ => rfl) ?_
  intro g L' h₁ tk ocl hg F N hdat X TT hgk hgs hL hlt
  walk_at "mi_stepsC"
  rename Fr g L' _ _ => F2
  rename News g L' _ _ => N2
  refine c_el_control_change d od tt t0 ta tb tc a b c h1 h2 S (fun b o q => F2.keep b o (hg b o q)) (by walk_at "mi_depth") hdk (fo_cons (N2.get (.tail _ (.head _))) (base_none hg (N2.fresh (.tail _ (.head _)))) fo_nil) fun h6 tk6 l e6 a6 i6 => ?_
  have F6 := frExt F2 e6 (fun h => nomatch h) (fun _ h => nomatch h)
  have N6 := nwExt N2 e6 (fun _ _ h => nomatch h)
  have lg := gone F2 a6
  have ld : l ≠ d := a6.ne (N2.get (.tail _ (.head _)))
  clear F2 N2
  k_steps
  exact hQ _ _ l (ext_of' [] hgk hfo F6 N6 (by walk_at "mi_ro")) (after_none hgk lg (by simpa using ld)) i6
theorem c_el_pitchwheel (d : Addr) (od : Obj) (tt t0 tc ta : Tok) (a b c : Int) (h1 : 0 ≤ c) (h2 : c ≤ 15) (ha : 0 ≤ a ∧ a ≤ 127) (hb : 0 ≤ b ∧ b ≤ 127) (S : Bas w mean mg mb base) (hs : base.StaysIn s.heap) (hA : A.depth + 6 < recursionLimit)
   (hdk : od.IsDictOf (PySem.strKind prog w) [(Str.ofString "type", .str (Str.ofString "pitchwheel") tt), (Str.ofString "time", .int 0 t0), (Str.ofString "channel", .int (c) tc), (Str.ofString "pitch", .int (a + b * 128 - 8192) ta)])
   (hfo : ∀ p ∈ [(d, od)], s.heap.get? p.1 = some p.2 ∧ base.get? p.1 = none)
   (hQ : ∀ h' tk l, Ext [] s.heap h' → After s.heap l → IsInts h' l [224 + c, a, b] → Q (.ref l) {s with heap := h', toks := tk}) :
   wpAny (model prog w) A (call (.ref 241) [.ref d]) Q E s := by
  refine enterM (binds := [(Str.ofString "msg", .ref d)]) _ S hs hfo (by k_is) (by k_is) (by omega) (.of_eq rfl) (locs rfl) ?_
  intro g L' h₁ hg F N X TT hgk hsz hL hgs
  have e : ([Builtin.bitOr 224 c, Builtin.bitAnd (a + b * 128 - 8192 - -8192) 127, (a + b * 128 - 8192 - -8192).fdiv (2 ^ 7)] : List Int) = [224 + c, a, b] := by rw [bor_status 224 c h1 h2 (by decide), low7' a b ha, high7' a b ha]
  k_steps
  rename Fr g L' _ _ => F2
  rename News g L' _ _ => N2
  rename @LT.lt Nat _ d _ => lt1
  exact hQ _ _ _ (ext_of [] hgk hsz hfo F2 N2 (by walk_at "mi_ro")) (after_none hgk (N2.fresh (.head _)) (by simpa using Nat.ne_of_gt lt1)) (Eq.mp (congrArg (fun z => IsInts _ _ z) e) ⟨_, _, N2.get (.head _), (.cons _ _ (.cons _ _ (.cons _ _ .nil)))⟩)
theorem c_enc_pitchwheel (d : Addr) (od : Obj) (tt t0 tc ta : Tok) (a b c : Int) (h1 : 0 ≤ c) (h2 : c ≤ 15) (ha : 0 ≤ a ∧ a ≤ 127) (hb : 0 ≤ b ∧ b ≤ 127) (S : Bas w mean mg mb base) (hs : base.StaysIn s.heap) (hA : A.depth + 14 < recursionLimit)
   (hdk : od.IsDictOf (PySem.strKind prog w) [(Str.ofString "type", .str (Str.ofString "pitchwheel") tt), (Str.ofString "time", .int 0 t0), (Str.ofString "channel", .int (c) tc), (Str.ofString "pitch", .int (a + b * 128 - 8192) ta)])
   (hfo : ∀ p ∈ [(d, od)], s.heap.get? p.1 = some p.2 ∧ base.get? p.1 = none)
   (hQ : ∀ h' tk l, Ext [] s.heap h' → After s.heap l → IsInts h' l [224 + c, a, b] → Q (.ref l) {s with heap := h', toks := tk}) :
   wpAny (model prog w) A (call (.ref 288) [.ref d]) Q E s := by
  refine enterC (x := Str.ofString "msg") (v := .ref d) _ S hs hfo (by k_is) (by k_is) (by omega) rfl rfl (fun _ => rfl) ?_
  intro g L' h₁ tk ocl hg F N hdat X TT hgk hgs hL hlt
  walk_at "mi_stepsC"
  rename Fr g L' _ _ => F2
  rename News g L' _ _ => N2
  refine c_el_pitchwheel d od tt t0 tc ta a b c h1 h2 ha hb S (fun b o q => F2.keep b o (hg b o q)) (by walk_at "mi_depth") hdk (fo_cons (N2.get (.tail _ (.head _))) (base_none hg (N2.fresh (.tail _ (.head _)))) fo_nil) fun h6 tk6 l e6 a6 i6 => ?_
  have F6 := frExt F2 e6 (fun h => nomatch h) (fun _ h => nomatch h)
  have N6 := nwExt N2 e6 (fun _ _ h => nomatch h)
  have lg := gone F2 a6
  have ld : l ≠ d := a6.ne (N2.get (.tail _ (.head _)))
  clear F2 N2
  k_steps
  exact hQ _ _ l (ext_of' [] hgk hfo F6 N6 (by walk_at "mi_ro")) (after_none hgk lg (by simpa using ld)) i6
theorem c_el_quarter_frame (d : Addr) (od : Obj) (tt t0 ta tb : Tok) (a : Int) (ha : 0 ≤ a ∧ a ≤ 127) (S : Bas w mean mg mb base) (hs : base.StaysIn s.heap) (hA : A.depth + 6 < recursionLimit)
   (hdk : od.IsDictOf (PySem.strKind prog w) [(Str.ofString "type", .str (Str.ofString "quarter_frame") tt), (Str.ofString "time", .int 0 t0), (Str.ofString "frame_type", .int (a / 16) ta), (Str.ofString "frame_value", .int (a % 16) tb)])
   (hfo : ∀ p ∈ [(d, od)], s.heap.get? p.1 = some p.2 ∧ base.get? p.1 = none)
   (hQ : ∀ h' tk l, Ext [] s.heap h' → After s.heap l → IsInts h' l [241, a] → Q (.ref l) {s with heap := h', toks := tk}) :
   wpAny (model prog w) A (call (.ref 255) [.ref d]) Q E s := by
  refine enterM (binds := [(Str.ofString "msg", .ref d)]) _ S hs hfo (by k_is) (by k_is) (by omega) (.of_eq rfl) (locs rfl) ?_
  intro g L' h₁ hg F N X TT hgk hsz hL hgs
  have e : ([241, Builtin.bitOr (a / 16 * 2 ^ 4) (a % 16)] : List Int) = [241, a] := by rw [bor_qf a]
  k_steps
  rename Fr g L' _ _ => F2
  rename News g L' _ _ => N2
  rename @LT.lt Nat _ d _ => lt1
  exact hQ _ _ _ (ext_of [] hgk hsz hfo F2 N2 (by walk_at "mi_ro")) (after_none hgk (N2.fresh (.head _)) (by simpa using Nat.ne_of_gt lt1)) (Eq.mp (congrArg (fun z => IsInts _ _ z) e) ⟨_, _, N2.get (.head _), (.cons _ _ (.cons _ _ .nil))⟩)
theorem c_enc_quarter_frame (d : Addr) (od : Obj) (tt t0 ta tb : Tok) (a : Int) (ha : 0 ≤ a ∧ a ≤ 127) (S : Bas w mean mg mb base) (hs : base.StaysIn s.heap) (hA : A.depth + 14 < recursionLimit)
   (hdk : od.IsDictOf (PySem.strKind prog w) [(Str.ofString "type", .str (Str.ofString "quarter_frame") tt), (Str.ofString "time", .int 0 t0), (Str.ofString "frame_type", .int (a / 16) ta), (Str.ofString "frame_value", .int (a % 16) tb)])
   (hfo : ∀ p ∈ [(d, od)], s.heap.get? p.1 = some p.2 ∧ base.get? p.1 = none)
   (hQ : ∀ h' tk l, Ext [] s.heap h' → After s.heap l → IsInts h' l [241, a] → Q (.ref l) {s with heap := h', toks := tk}) :
   wpAny (model prog w) A (call (.ref 288) [.ref d]) Q E s := by
  refine enterC (x := Str.ofString "msg") (v := .ref d) _ S hs hfo (by k_is) (by k_is) (by omega) rfl rfl (fun _ => rfl) ?_
  intro g L' h₁ tk ocl hg F N hdat X TT hgk hgs hL hlt
  walk_at "mi_stepsC"
  rename Fr g L' _ _ => F2
  rename News g L' _ _ => N2
  refine c_el_quarter_frame d od tt t0 ta tb a ha S (fun b o q => F2.keep b o (hg b o q)) (by walk_at "mi_depth") hdk (fo_cons (N2.get (.tail _ (.head _))) (base_none hg (N2.fresh (.tail _ (.head _)))) fo_nil) fun h6 tk6 l e6 a6 i6 => ?_
  have F6 := frExt F2 e6 (fun h => nomatch h) (fun _ h => nomatch h)
  have N6 := nwExt N2 e6 (fun _ _ h => nomatch h)
  have lg := gone F2 a6
  have ld : l ≠ d := a6.ne (N2.get (.tail _ (.head _)))
  clear F2 N2
  k_steps
  exact hQ _ _ l (ext_of' [] hgk hfo F6 N6 (by walk_at "mi_ro")) (after_none hgk lg (by simpa using ld)) i6
theorem c_el_songpos (d : Addr) (od : Obj) (tt t0 ta : Tok) (a b : Int) (ha : 0 ≤ a ∧ a ≤ 127) (hb : 0 ≤ b ∧ b ≤ 127) (S : Bas w mean mg mb base) (hs : base.StaysIn s.heap) (hA : A.depth + 6 < recursionLimit)
   (hdk : od.IsDictOf (PySem.strKind prog w) [(Str.ofString "type", .str (Str.ofString "songpos") tt), (Str.ofString "time", .int 0 t0), (Str.ofString "pos", .int (a + b * 128) ta)])
   (hfo : ∀ p ∈ [(d, od)], s.heap.get? p.1 = some p.2 ∧ base.get? p.1 = none)
   (hQ : ∀ h' tk l, Ext [] s.heap h' → After s.heap l → IsInts h' l [242, a, b] → Q (.ref l) {s with heap := h', toks := tk}) :
   wpAny (model prog w) A (call (.ref 262) [.ref d]) Q E s := by
  refine enterM (binds := [(Str.ofString "data", .ref d)]) _ S hs hfo (by k_is) (by k_is) (by omega) (.of_eq rfl) (locs rfl) ?_
  intro g L' h₁ hg F N X TT hgk hsz hL hgs
  have e : ([242, Builtin.bitAnd (a + b * 128) 127, (a + b * 128).fdiv (2 ^ 7)] : List Int) = [242, a, b] := by rw [low7 a b ha, high7 a b ha]
  k_steps
  rename Fr g L' _ _ => F2
  rename News g L' _ _ => N2
  rename @LT.lt Nat _ d _ => lt1
  exact hQ _ _ _ (ext_of [] hgk hsz hfo F2 N2 (by walk_at "mi_ro")) (after_none hgk (N2.fresh (.head _)) (by simpa using Nat.ne_of_gt lt1)) (Eq.mp (congrArg (fun z => IsInts _ _ z) e) ⟨_, _, N2.get (.head _), (.cons _ _ (.cons _ _ (.cons _ _ .nil)))⟩)
theorem c_enc_songpos (d : Addr) (od : Obj) (tt t0 ta : Tok) (a b : Int) (ha : 0 ≤ a ∧ a ≤ 127) (hb : 0 ≤ b ∧ b ≤ 127) (S : Bas w mean mg mb base) (hs : base.StaysIn s.heap) (hA : A.depth + 14 < recursionLimit)
   (hdk : od.IsDictOf (PySem.strKind prog w) [(Str.ofString "type", .str (Str.ofString "songpos") tt), (Str.ofString "time", .int 0 t0), (Str.ofString "pos", .int (a + b * 128) ta)])
   (hfo : ∀ p ∈ [(d, od)], s.heap.get? p.1 = some p.2 ∧ base.get? p.1 = none)
   (hQ : ∀ h' tk l, Ext [] s.heap h' → After s.heap l → IsInts h' l [242, a, b] → Q (.ref l) {s with heap := h', toks := tk}) :
   wpAny (model prog w) A (call (.ref 288) [.ref d]) Q E s := by
  refine enterC (x := Str.ofString "msg") (v := .ref d) _ S hs hfo (by k_is) (by k_is) (by omega) rfl rfl (fun _ => rfl) ?_
  intro g L' h₁ tk ocl hg F N hdat X TT hgk hgs hL hlt
  walk_at "mi_stepsC"
  rename Fr g L' _ _ => F2
  rename News g L' _ _ => N2
  refine c_el_songpos d od tt t0 ta a b ha hb S (fun b o q => F2.keep b o (hg b o q)) (by walk_at "mi_depth") hdk (fo_cons (N2.get (.tail _ (.head _))) (base_none hg (N2.fresh (.tail _ (.head _)))) fo_nil) fun h6 tk6 l e6 a6 i6 => ?_
  have F6 := frExt F2 e6 (fun h => nomatch h) (fun _ h => nomatch h)
  have N6 := nwExt N2 e6 (fun _ _ h => nomatch h)
  have lg := gone F2 a6
  have ld : l ≠ d := a6.ne (N2.get (.tail _ (.head _)))
  clear F2 N2
  k_steps
  exact hQ _ _ l (ext_of' [] hgk hfo F6 N6 (by walk_at "mi_ro")) (after_none hgk lg (by simpa using ld)) i6
end PartX2
theorem restY {M : Model} {A : Around} {s : Shared} {E : Value → Shared → Prop} {env : Env} {Q : Flow → Shared → Prop} (h : Q .next s) : wpAny M A (execs [] env) Q E s := by
  w_top off
  walk1
  w_top off
  exact h
section PartY
local macro_rules | `(tactic| k_steps) => `(tactic| repeat' (first | ((with_reducible show wpAny _ _ (call (Value.ref _) _ _) _ _ _); walk_at "mi_pc") | ((fail_if_success (with_reducible show wpAny _ _ (call (Value.ref _) _ _) _ _ _)); (fail_if_success (with_reducible show wpAny _ _ (exec (Stmt.Raise _ _ _) _) _ _ _)); first | (k_unfold; (try dsimp only)) | (k_end; wrow_close) | walk1 | (dsimp only; walk1) | (leave1; walk_say "STEP leave1"; (try dsimp only)) | fail "no step")))
local macro_rules | `(tactic| k_ne) => `(tactic| first | assumption | exact Ne.symm (by assumption))
local macro_rules | `(tactic| walk_at "call builtin:len") => `(tactic| (k_here; (with_reducible show wpAny _ _ (call (Value.builtin "len") [Value.ref _]) _ _ _); refine PyProof.Rows.len_list (News.isList (by k_asm) (by k_mem)) (by (try simp only [Array.size_push, List.size_toArray]); omega) ?_))
local macro_rules | `(tactic| walk_at "mi_ro") => `(tactic| repeat' (first | exact ro_nil | refine ro_keep (by k_mem) ?_ | refine ro_mut (by simp) ?_))
local macro_rules | `(tactic| walk_at "mi_depth") => `(tactic| ((try simp only [PySem.Around.deeper, PySem.Around.in1_depth]); omega))
local macro_rules | `(tactic| walk_at "mi_pure") => `(tactic| exact hQ _ _ (ext_of [] hgk hsz (fo_nil (base := base)) (by assumption) (by assumption) ro_nil))
local macro_rules | `(tactic| walk_at "mi_steps") => `(tactic| repeat' ((fail_if_success (with_reducible show wpAny _ _ (exec (Stmt.For _ _ _ _ _) _) _ _ _)); first | ((with_reducible show wpAny _ _ (call (Value.ref _) _ _) _ _ _); walk_at "mi_pc") | ((fail_if_success (with_reducible show wpAny _ _ (call (Value.ref _) _ _) _ _ _)); (fail_if_success (with_reducible show wpAny _ _ (exec (Stmt.Raise _ _ _) _) _ _ _)); first | (k_unfold; (try dsimp only)) | (k_end; kc_close) | walk1 | (dsimp only; walk1) | (leave1; walk_say "STEP leave1"; (try dsimp only)) | fail "no step")))
local macro_rules | `(tactic| walk_at "subscriptTail") => `(tactic| (k_here; (with_reducible show wpAny _ _ (subscriptTail _ _ (Value.ref _) (Value.str _ _)) _ _ _); k_dflt (refine' topItem_K ?F ?X ?l ?k ?e ?_; (case F => k_asm); (case X => k_asm); (case l => first | assumption | k_is); (case k => first | assumption | k_keys); (case e => first | assumption | k_is))))
local macro_rules | `(tactic| walk_at "mi_stepsC") => `(tactic| repeat' ((fail_if_success (with_reducible show wpAny _ _ (exec (Stmt.For _ _ _ _ _) _) _ _ _)); (fail_if_success (with_reducible show wpAny _ _ (exec (Stmt.Assign [_] (Expr.ListComp _ _ _ _) _) _) _ _ _)); (fail_if_success (with_reducible show wpAny _ _ (call (Value.type "zip") _) _ _ _)); (fail_if_success (with_reducible show wpAny _ _ (exec (Stmt.Assign [_] (Expr.DictComp _ _ _ _ _) _) _) _ _ _)); first | ((with_reducible show wpAny _ _ (call (Value.ref _) _ _) _ _ _); walk_at "mi_pc") | ((fail_if_success (with_reducible show wpAny _ _ (call (Value.ref _) _ _) _ _ _)); (fail_if_success (with_reducible show wpAny _ _ (exec (Stmt.Raise _ _ _) _) _ _ _)); first | (k_unfold; (try dsimp only)) | (k_end; kc_close) | walk1 | (dsimp only; walk1) | (leave1; walk_say "STEP leave1"; (try dsimp only)) | fail "no step")))
local macro_rules | `(tactic| walk_at "mi_stepsO") => `(tactic| repeat' ((fail_if_success (with_reducible show wpAny _ _ (exec (Stmt.For _ _ _ _ _) _) _ _ _)); (fail_if_success (with_reducible show wpAny _ _ (exec (Stmt.Assign [_] (Expr.ListComp _ _ _ _) _) _) _ _ _)); (fail_if_success (with_reducible show wpAny _ _ (call (Value.type "zip") _) _ _ _)); (fail_if_success (with_reducible show wpAny _ _ (exec (Stmt.Assign [_] (Expr.DictComp _ _ _ _ _) _) _) _ _ _)); first | ((with_reducible show wpAny _ _ (call (Value.ref _) _ _) _ _ _); walk_at "mi_pc") | ((fail_if_success (with_reducible show wpAny _ _ (call (Value.ref _) _ _) _ _ _)); (fail_if_success (with_reducible show wpAny _ _ (exec (Stmt.Raise _ _ _) _) _ _ _)); first | ((with_reducible show wpAny _ _ (execs _ _) _ _ _); exfalso; omega) | (k_unfold; (try dsimp only)) | (k_end; kc_close) | walk1 | (dsimp only; walk1) | (leave1; walk_say "STEP leave1"; (try dsimp only)) | fail "no step")))
local macro_rules | `(tactic| walk_at "subscriptTail") => `(tactic| (k_here; (with_reducible show wpAny _ _ (subscriptTail _ _ (Value.ref _) (Value.str _ _)) _ _ _); k_dflt (refine kda_item (knd := PySem.strKind _ _) (by k_asm) (by k_mem) (by assumption) (strKind_is _ _ _ _) (by first | assumption | rfl) ?_)))
theorem c_el_sx (d : Addr) (od : Obj) (tt t0 : Tok) (tp : Addr) (vd : Array Value) (ds : List Int) (hds : IntsAre vd.toList ds) (hz : ds.length < 800) (S : Bas w mean mg mb base) (hs : base.StaysIn s.heap) (hA : A.depth + 6 < recursionLimit) (hh : A.handled = none)
   (hdk : od.IsDictOf (PySem.strKind prog w) [(Str.ofString "type", .str (Str.ofString "sysex") tt), (Str.ofString "time", .int 0 t0), (Str.ofString "data", .ref tp)])
   (hfo : ∀ p ∈ [(d, od), (tp, ⟨.type "tuple", none, .seq vd 0, #[]⟩)], s.heap.get? p.1 = some p.2 ∧ base.get? p.1 = none)
   (hQ : ∀ h' tk l, Ext [] s.heap h' → After s.heap l → IsInts h' l (240 :: (ds ++ [247])) → Q (.ref l) {s with heap := h', toks := tk}) :
   wpAny (model prog w) A (call (.ref 248) [.ref d]) Q E s := by
  refine enterM (binds := [(Str.ofString "msg", .ref d)]) _ S hs hfo (by k_is) (by k_is) (by omega) (.of_eq rfl) (locs rfl) ?_
  intro g L' h₁ hg F N X TT hgk hsz hL hgs
  k_steps
  rename Fr g L' _ _ => F2
  rename News g L' _ _ => N2
  rename IntsAre _ ([240] ++ ds ++ [247]) => hw
  rename (@LT.lt Nat _ _ _ ∧ @LT.lt Nat _ _ _ ∧ @LT.lt Nat _ _ _ ∧ @LT.lt Nat _ _ _ ∧ @LT.lt Nat _ d _ ∧ @LT.lt Nat _ tp _) => lt1
  exact hQ _ _ _ (ext_of [] hgk hsz hfo F2 N2 (by walk_at "mi_ro")) (after_none hgk (N2.fresh (.head _)) (by simpa using ⟨Nat.ne_of_gt lt1.2.2.2.2.1, Nat.ne_of_gt lt1.2.2.2.2.2⟩)) ⟨_, _, N2.get (.head _), by simpa using hw⟩
theorem c_enc_sx (d : Addr) (od : Obj) (tt t0 : Tok) (tp : Addr) (vd : Array Value) (ds : List Int) (hds : IntsAre vd.toList ds) (hz : ds.length < 800) (S : Bas w mean mg mb base) (hs : base.StaysIn s.heap) (hA : A.depth + 14 < recursionLimit) (hh : A.handled = none)
   (hdk : od.IsDictOf (PySem.strKind prog w) [(Str.ofString "type", .str (Str.ofString "sysex") tt), (Str.ofString "time", .int 0 t0), (Str.ofString "data", .ref tp)])
   (hfo : ∀ p ∈ [(d, od), (tp, ⟨.type "tuple", none, .seq vd 0, #[]⟩)], s.heap.get? p.1 = some p.2 ∧ base.get? p.1 = none)
   (hQ : ∀ h' tk l, Ext [] s.heap h' → After s.heap l → IsInts h' l (240 :: (ds ++ [247])) → Q (.ref l) {s with heap := h', toks := tk}) :
   wpAny (model prog w) A (call (.ref 288) [.ref d]) Q E s := by
  refine enterC (x := Str.ofString "msg") (v := .ref d) _ S hs hfo (by k_is) (by k_is) (by omega) rfl rfl (fun _ => rfl) ?_
  intro g L' h₁ tk ocl hg F N hdat X TT hgk hgs hL hlt
  walk_at "mi_stepsC"
  rename Fr g L' _ _ => F2
  rename News g L' _ _ => N2
  refine c_el_sx d od tt t0 tp vd ds hds hz S (fun b o q => F2.keep b o (hg b o q)) (by walk_at "mi_depth") hh hdk (fo_cons (N2.get (.tail _ (.head _))) (base_none hg (N2.fresh (.tail _ (.head _)))) (fo_cons (N2.get (.tail _ (.tail _ (.head _)))) (base_none hg (N2.fresh (.tail _ (.tail _ (.head _))))) fo_nil)) fun h6 tk6 l e6 a6 i6 => ?_
  have F6 := frExt F2 e6 (fun h => nomatch h) (fun _ h => nomatch h)
  have N6 := nwExt N2 e6 (fun _ _ h => nomatch h)
  have lg := gone F2 a6
  have ld : l ≠ d := a6.ne (N2.get (.tail _ (.head _)))
  have lp : l ≠ tp := a6.ne (N2.get (.tail _ (.tail _ (.head _))))
  clear F2 N2
  k_steps
  exact hQ _ _ l (ext_of' [] hgk hfo F6 N6 (by walk_at "mi_ro")) (after_none hgk lg (by simpa using ⟨ld, lp⟩)) i6
end PartY
theorem restZ {M : Model} {A : Around} {s : Shared} {E : Value → Shared → Prop} {env : Env} {Q : Flow → Shared → Prop} (h : Q .next s) : wpAny M A (execs [] env) Q E s := by
  w_top off
  walk1
  w_top off
  exact h
section PartZ
local macro_rules | `(tactic| k_steps) => `(tactic| repeat' (first | ((with_reducible show wpAny _ _ (call (Value.ref _) _ _) _ _ _); walk_at "mi_pc") | ((fail_if_success (with_reducible show wpAny _ _ (call (Value.ref _) _ _) _ _ _)); (fail_if_success (with_reducible show wpAny _ _ (exec (Stmt.Raise _ _ _) _) _ _ _)); first | (k_unfold; (try dsimp only)) | (k_end; wrow_close) | walk1 | (dsimp only; walk1) | (leave1; walk_say "STEP leave1"; (try dsimp only)) | fail "no step")))
local macro_rules | `(tactic| k_ne) => `(tactic| first | assumption | exact Ne.symm (by assumption))
local macro_rules | `(tactic| walk_at "call builtin:len") => `(tactic| (k_here; (with_reducible show wpAny _ _ (call (Value.builtin "len") [Value.ref _]) _ _ _); refine PyProof.Rows.len_list (News.isList (by k_asm) (by k_mem)) (by (try simp only [Array.size_push, List.size_toArray]); omega) ?_))
local macro_rules | `(tactic| walk_at "mi_ro") => `(tactic| repeat' (first | exact ro_nil | refine ro_keep (by k_mem) ?_ | refine ro_mut (by simp) ?_))
local macro_rules | `(tactic| walk_at "mi_depth") => `(tactic| ((try simp only [PySem.Around.deeper, PySem.Around.in1_depth]); omega))
local macro_rules | `(tactic| walk_at "mi_pure") => `(tactic| exact hQ _ _ (ext_of [] hgk hsz (fo_nil (base := base)) (by assumption) (by assumption) ro_nil))
local macro_rules | `(tactic| walk_at "mi_steps") => `(tactic| repeat' ((fail_if_success (with_reducible show wpAny _ _ (exec (Stmt.For _ _ _ _ _) _) _ _ _)); first | ((with_reducible show wpAny _ _ (call (Value.ref _) _ _) _ _ _); walk_at "mi_pc") | ((fail_if_success (with_reducible show wpAny _ _ (call (Value.ref _) _ _) _ _ _)); (fail_if_success (with_reducible show wpAny _ _ (exec (Stmt.Raise _ _ _) _) _ _ _)); first | (k_unfold; (try dsimp only)) | (k_end; kc_close) | walk1 | (dsimp only; walk1) | (leave1; walk_say "STEP leave1"; (try dsimp only)) | fail "no step")))
local macro_rules | `(tactic| walk_at "subscriptTail") => `(tactic| (k_here; (with_reducible show wpAny _ _ (subscriptTail _ _ (Value.ref _) (Value.str _ _)) _ _ _); k_dflt (refine' topItem_K ?F ?X ?l ?k ?e ?_; (case F => k_asm); (case X => k_asm); (case l => first | assumption | k_is); (case k => first | assumption | k_keys); (case e => first | assumption | k_is))))
local macro_rules | `(tactic| walk_at "mi_stepsC") => `(tactic| repeat' ((fail_if_success (with_reducible show wpAny _ _ (exec (Stmt.For _ _ _ _ _) _) _ _ _)); (fail_if_success (with_reducible show wpAny _ _ (exec (Stmt.Assign [_] (Expr.ListComp _ _ _ _) _) _) _ _ _)); (fail_if_success (with_reducible show wpAny _ _ (call (Value.type "zip") _) _ _ _)); (fail_if_success (with_reducible show wpAny _ _ (exec (Stmt.Assign [_] (Expr.DictComp _ _ _ _ _) _) _) _ _ _)); first | ((with_reducible show wpAny _ _ (call (Value.ref _) _ _) _ _ _); walk_at "mi_pc") | ((fail_if_success (with_reducible show wpAny _ _ (call (Value.ref _) _ _) _ _ _)); (fail_if_success (with_reducible show wpAny _ _ (exec (Stmt.Raise _ _ _) _) _ _ _)); first | (k_unfold; (try dsimp only)) | (k_end; kc_close) | walk1 | (dsimp only; walk1) | (leave1; walk_say "STEP leave1"; (try dsimp only)) | fail "no step")))
local macro_rules | `(tactic| walk_at "mi_stepsO") => `(tactic| repeat' ((fail_if_success (with_reducible show wpAny _ _ (exec (Stmt.For _ _ _ _ _) _) _ _ _)); (fail_if_success (with_reducible show wpAny _ _ (exec (Stmt.Assign [_] (Expr.ListComp _ _ _ _) _) _) _ _ _)); (fail_if_success (with_reducible show wpAny _ _ (call (Value.type "zip") _) _ _ _)); (fail_if_success (with_reducible show wpAny _ _ (exec (Stmt.Assign [_] (Expr.DictComp _ _ _ _ _) _) _) _ _ _)); first | ((with_reducible show wpAny _ _ (call (Value.ref _) _ _) _ _ _); walk_at "mi_pc") | ((fail_if_success (with_reducible show wpAny _ _ (call (Value.ref _) _ _) _ _ _)); (fail_if_success (with_reducible show wpAny _ _ (exec (Stmt.Raise _ _ _) _) _ _ _)); first | ((with_reducible show wpAny _ _ (execs _ _) _ _ _); exfalso; omega) | (k_unfold; (try dsimp only)) | (k_end; kc_close) | walk1 | (dsimp only; walk1) | (leave1; walk_say "STEP leave1"; (try dsimp only)) | fail "no step")))
section
variable {env : Env} {R : Result → Shared → Prop}
theorem paired_len {α β : Type} {F : α → β → Prop} {l₁ : List α} {l₂ : List β} (h : Paired F l₁ l₂) : l₁.length = l₂.length := by
  induction h with
  | nil => rfl
  | cons _ _ ih => simp [ih]
theorem paired_names {kvs : List (Str × Value)} {vs us : List Value} {ns : List Str} (h : StrsAre vs ns) (p : Paired (fun v y => ∃ n t, v = .str n t ∧ valueAt kvs n = some y) vs us) : Paired (fun n y => valueAt kvs n = some y) ns us := by
  induction h generalizing us with
  | nil => cases p; exact .nil
  | cons y t _ ih =>
    cases p with
    | cons e r =>
      obtain ⟨n, t', e1, e2⟩ := e
      cases e1
      exact .cons e2 (ih r)
theorem assignGets {x y mv lit : Str} {p1 p1' p2 p3 p4 pb pc pos py spos : Pos} {k : Nat} {iter : Expr} {scope : Scope} {Q : Flow → Shared → Prop} {cL : Addr} (d : Addr) (kvs : List (Str × Value))
    (hsw : swapsWith (.ListComp (.Subscript (.Name mv p1) (.Name x p1') pb) [⟨.Name x p2, iter, [.Compare (.Name x p3) [.NotEq] [.Constant (.str lit) k p4] pc], 0⟩] scope pos) (some (.Name y py)) spos.line env = pure true)
    (hh : A.handled = none) (hclos : closureFor scope env = pure [(mv, cL)]) (hcell : ∀ z ∈ scope.names, z.2 ≠ .cell) (hkind : scope.kind = .function)
    (hnames : ∀ z ∈ scope.names, z.2 = .local → scope.names.lookup z.1 = some .local) (hx : scope.names.lookup x = some .local) (hmv : (relabel scope env).names.lookup mv = some .cell)
    (hy : env.kindOf y = some .local) (hp : (env.scope.kind == .class || (env.scope.kind == .module && env.locals != env.globals)) = false) (hd : (x == ("__debug__" : Str)) = false) (hd2 : (mv == ("__debug__" : Str)) = false)
    (h : wpAny (model prog w) A (eval iter env) (fun v s₁ => Shut (∃ vn vs ns m ocl, v = .ref vn ∧ s₁.heap.get? vn = some ⟨.type "tuple", none, .seq vs 0, #[]⟩ ∧ StrsAre vs.toList ns ∧ ns.length ≤ sizeLine ∧ s₁.heap.Ns env.locals m ∧
       s₁.heap.get? cL = some ocl ∧ ocl.data = .cell (some (.ref d)) ∧ s₁.heap.DictOf (PySem.strKind prog w) d kvs ∧ (∀ n ∈ ns, nameP lit n = true → ∃ u, valueAt kvs n = some u) ∧
       (∀ D h' tk ys, s₁.heap.get? D = none → h'.PlainList D ys → Paired (fun n u => valueAt kvs n = some u) (ns.filter (nameP lit)) ys.toList → h'.Ns env.locals (fun z => if z = y then some (.ref D) else m z) → Ext [env.locals] s₁.heap h' →
         Q .next {s₁ with heap := h', toks := tk}))) E s)
    (hs : ∀ x, foldedSetIterable iter env x = pure x) :
    wpAny (model prog w) A (exec (.Assign [.Name y py] (.ListComp (.Subscript (.Name mv p1) (.Name x p1') pb) [⟨.Name x p2, iter, [.Compare (.Name x p3) [.NotEq] [.Constant (.str lit) k p4] pc], 0⟩] scope pos) spos) env) Q E s := by
  refine wpAny_Assign_ListComp_free (nameV lit) (fun v u => ∃ n t, v = .str n t ∧ valueAt kvs n = some u) hsw hclos hcell hkind hnames hx hy hp (wpAny_mono h (fun xv s₁ h₁ => ?_) fun _ _ e => e) hs
  obtain ⟨⟨vn, vs, ns, m, ocl, rfl, hvn, hns, hsz, hn, hcl, hocl, hdd, hall, hQ⟩⟩ := h₁
  refine wpAny_pyIter_tuple (items := vs) ⟨_, hvn, rfl, _, rfl⟩ ?_
  dsimp only
  obtain ⟨oL, _, _, hoL, _⟩ := id hn
  obtain ⟨od, hod, hdk⟩ := Heap.dictOf_iff.mp hdd
  have hI : s₁.heap.objs.size ≠ vn := Nat.ne_of_gt (Heap.lt_size hvn)
  have hLI : env.locals ≠ s₁.heap.objs.size := Nat.ne_of_lt (Heap.lt_size hoL)
  have old : ∀ {b : Addr} {o : Obj} {o' : Obj}, s₁.heap.get? b = some o → b ∉ [s₁.heap.objs.size] ∧ (s₁.heap.push o').get? b = some o := fun {b o o'} e => ⟨by simpa using Nat.ne_of_lt (Heap.lt_size e), Heap.get?_push_of_some _ e⟩
  refine ⟨s₁.heap.objs.size, [s₁.heap.objs.size, vn], [s₁.heap.objs.size], vs.size, _, _, m, rfl, Walks.tuple hh _ vn (Ne.symm hI) vs, by rw [sa_size hns]; exact hsz,
    ⟨⟨_, Heap.get?_push_size _ rfl, rfl, rfl⟩, ⟨_, Heap.get?_push_of_some _ hvn, rfl, _, rfl⟩⟩, ?_, by simpa using hLI, hn.push _, ⟨?_, ?_⟩, ?_⟩
  · intro b hb
    show b < (s₁.heap.push _).objs.size
    rw [Heap.size_push]
    simp only [List.mem_cons, List.not_mem_nil, or_false] at hb
    rcases hb with rfl | rfl
    · exact Nat.lt_succ_self _
    · exact Nat.lt_succ_of_lt (Heap.lt_size hvn)
  · intro C i v s₃ m₃ E' hC hP hn₃ hm₃ hk₃ ht₃
    obtain ⟨nx, tx, rfl, _⟩ := sa_get hns hP
    exact testNe (by simp [compEnvC, relabel, hkind]) (lookup_relabel_local hx) hd hn₃ hm₃
  · intro C i v s₃ m₃ E' hC hP hp₃ hn₃ hm₃ hk₃ ht₃
    obtain ⟨nx, tx, rfl, hnx⟩ := sa_get hns hP
    obtain ⟨u, hu⟩ := hall nx (List.mem_of_getElem? hnx) hp₃
    have c3 : s₃.heap.IsCell cL (some (.ref d)) := ⟨ocl, hk₃ _ _ (old (o' := { cls := .type "tuple_iterator", data := .fields #[.ref vn, .int 0 0] }) hcl).1 (old hcl).2, hocl⟩
    have d3 : s₃.heap.DictOf (PySem.strKind prog w) d kvs := Heap.dictOf_iff.mpr ⟨od, hk₃ _ _ (old (o' := { cls := .type "tuple_iterator", data := .fields #[.ref vn, .int 0 0] }) hod).1 (old hod).2, hdk⟩
    refine Subscript_ (wpAny_Name (wpAny_loadName_cell (by simp [compEnvC, relabel, hkind]) hmv (by simp [compEnvC]) c3 (evalNs (by simp [compEnvC, relabel, hkind]) (lookup_relabel_local hx) hd hn₃ hm₃ ?_)) hd2)
    exact subscriptTail_builtin d3.typeIs slot_dict_getitem.lookup (wpAny_getItem_of (strKind_is _ _ _ _) d3.mapOf hu ⟨⟨nx, tx, rfl, hu⟩, _, _, rfl, fun _ _ e => e⟩) (by with_unfolding_all rfl) (by intro _; with_unfolding_all rfl)
  · intro D h' tk ys us hD hlD hpD hlen hP hF hnL hk
    have e2 : us = vs.toList := list_places hlen (by simp) fun j v e => by rw [Array.getElem?_toList]; exact hP j v e
    subst e2
    have hDn : s₁.heap.get? D = none := by
      cases q : s₁.heap.get? D with
      | none => rfl
      | some o => have := Heap.get?_push_of_some { cls := .type "tuple_iterator", data := .fields #[.ref vn, .int 0 0] } q; rw [this] at hD; cases hD
    refine hQ D h' tk ys hDn hpD (paired_names (sa_filter hns) hF) hnL fun b o hb e => hk b o (by simpa using hb) ?_ (Heap.get?_push_of_some _ e)
    simpa using Nat.ne_of_lt (Heap.lt_size e)
end
local macro_rules | `(tactic| walk_at "call ref") => `(tactic| ((with_reducible show wpAny _ _ (call (Value.ref 28) _ _) _ _ _); refine pure_K (D := 2) (fun hs hA hQ => c_ics _ _ (by assumption) hs hA hQ) (by assumption) (by assumption) (by assumption) (by walk_at "mi_depth") ?_; intro h9 tk9 F9 N9; (try dsimp only)))
local macro_rules | `(tactic| walk_at "mi_pc") => `(tactic| ((with_reducible show wpAny _ _ (call (Value.ref 28) _ _) _ _ _); refine pure_K (D := 2) (fun hs hA hQ => c_ics _ _ (by assumption) hs hA hQ) (by assumption) (by assumption) (by assumption) (by walk_at "mi_depth") ?_; intro h9 tk9 F9 N9; (try dsimp only)))
local macro_rules | `(tactic| walk_at "subscriptTail") => `(tactic| (k_here; (with_reducible show wpAny _ _ (subscriptTail _ _ (Value.ref _) (Value.str _ _)) _ _ _); k_dflt (refine kda_item (knd := PySem.strKind _ _) (by k_asm) (by k_mem) (by assumption) (strKind_is _ _ _ _) (by first | assumption | rfl) ?_)))
theorem c_enc_nd (n : Int) (sn : Tok) (ty : Str) (sp vn an : Addr) (anames : List Str) (KS : KindS w ty sp vn an [] anames) (hst : nsIn (hd.heap_39 w.params) sp (Str.ofString "status_byte") = some (some (.int n sn))) (hn : 239 < n)
   (y1 : (ty == Str.ofString "pitchwheel") = false) (y2 : (ty == Str.ofString "sysex") = false) (y3 : (ty == Str.ofString "quarter_frame") = false) (y4 : (ty == Str.ofString "songpos") = false) (y5 : (ty == Str.ofString "note_off") = false) (y6 : (ty == Str.ofString "note_on") = false) (y7 : (ty == Str.ofString "control_change") = false)
   (d : Addr) (od : Obj) (tt t0 : Tok) (S : Bas w mean mg mb base) (hs : base.StaysIn s.heap) (hA : A.depth + 10 < recursionLimit) (hh : A.handled = none)
   (hdk : od.IsDictOf (PySem.strKind prog w) [(Str.ofString "type", .str ty tt), (Str.ofString "time", .int 0 t0)])
   (hfo : ∀ p ∈ [(d, od)], s.heap.get? p.1 = some p.2 ∧ base.get? p.1 = none)
   (hQ : ∀ h' tk l, Ext [] s.heap h' → After s.heap l → IsInts h' l [n] → Q (.ref l) {s with heap := h', toks := tk}) :
   wpAny (model prog w) A (call (.ref 288) [.ref d]) Q E s := by
  obtain ⟨inS, ⟨es, nn, sp1, sp2⟩, vn1, an1, ⟨vs, vn2, vn3⟩, ⟨us, an2, an3⟩⟩ := id KS
  refine enterC (x := Str.ofString "msg") (v := .ref d) _ S hs hfo (by k_is) (by k_is) (by omega) rfl rfl (fun _ => rfl) ?_
  intro g L' h₁ tk ocl hg F N hdat X TT hgk hgs hL hlt
  walk_at "mi_stepsC"
  rename Fr g L' _ _ => F2
  rename News g L' _ _ => N2
  refine assignGets (cL := L' + 1) d [(Str.ofString "type", .str ty tt), (Str.ofString "time", .int 0 t0)] rfl hh rfl (by decide) rfl (by decide) rfl rfl rfl rfl rfl rfl ?_ (fun _ => rfl)
  k_steps
  refine .mk ⟨vn, vs, [], _, ocl, rfl, F2.keep _ _ (X _ _ vn2), vn3, Nat.zero_le _, F2.ns, N2.get (.head _), hdat, Heap.dictOf_iff.mpr ⟨_, N2.get (.tail _ (.head _)), hdk⟩, (fun _ h => nomatch h), fun D1 h2 tk2 ys hD1 hp1 hy1 hn1 e1 => ?_⟩
  obtain ⟨nD, hD1'⟩ := hp1
  have e1' : Ext [L'] _ h2 := e1
  have dL := (N2 _ (.tail _ (.head _))).2.1
  have cL := (N2 _ (.head _)).2.1
  have D1d : D1 ≠ d := After.ne hD1 (N2.get (.tail _ (.head _)))
  have D1c : D1 ≠ L' + 1 := After.ne hD1 (N2.get (.head _))
  have F3 := frL F2 e1' hn1 (fun _ h => nomatch h)
  have ye : ys = #[] := by
    have := paired_len hy1
    have h0 : ys.toList.length = 0 := by rw [← this]; rfl
    simpa using h0
  subst ye
  have N3 : News g L' h2 [(D1, listOf #[] nD), (L' + 1, ocl), (d, od)] := nwCons hD1' (goneL F2 hD1) (gone F2 hD1) (nwExt N2 e1' (allCons (by simpa using cL) (allCons (by simpa using dL) allNil)))
  clear F2 N2
  k_steps
  rename Fr g L' _ _ => F2
  rename News g L' _ _ => N2
  rename (@LT.lt Nat _ _ _ ∧ @LT.lt Nat _ D1 _ ∧ @LT.lt Nat _ (L' + 1) _ ∧ @LT.lt Nat _ d _) => lt1
  exact hQ _ _ _ (ext_of' [] hgk hfo F2 N2 (by walk_at "mi_ro")) (after_none hgk (N2.fresh (.head _)) (by simpa using Nat.ne_of_gt lt1.2.2.2)) ⟨_, _, N2.get (.head _), .cons _ _ .nil⟩
end PartZ
theorem restZ2 {M : Model} {A : Around} {s : Shared} {E : Value → Shared → Prop} {env : Env} {Q : Flow → Shared → Prop} (h : Q .next s) : wpAny M A (execs [] env) Q E s := by
  w_top off
  walk1
  w_top off
  exact h
section PartZ2
local macro_rules | `(tactic| k_steps) => `(tactic| repeat' (first | ((with_reducible show wpAny _ _ (call (Value.ref _) _ _) _ _ _); walk_at "mi_pc") | ((fail_if_success (with_reducible show wpAny _ _ (call (Value.ref _) _ _) _ _ _)); (fail_if_success (with_reducible show wpAny _ _ (exec (Stmt.Raise _ _ _) _) _ _ _)); first | (k_unfold; (try dsimp only)) | (k_end; wrow_close) | walk1 | (dsimp only; walk1) | (leave1; walk_say "STEP leave1"; (try dsimp only)) | fail "no step")))
local macro_rules | `(tactic| k_ne) => `(tactic| first | assumption | exact Ne.symm (by assumption))
local macro_rules | `(tactic| walk_at "call builtin:len") => `(tactic| (k_here; (with_reducible show wpAny _ _ (call (Value.builtin "len") [Value.ref _]) _ _ _); refine PyProof.Rows.len_list (News.isList (by k_asm) (by k_mem)) (by (try simp only [Array.size_push, List.size_toArray]); omega) ?_))
local macro_rules | `(tactic| walk_at "mi_ro") => `(tactic| repeat' (first | exact ro_nil | refine ro_keep (by k_mem) ?_ | refine ro_mut (by simp) ?_))
local macro_rules | `(tactic| walk_at "mi_depth") => `(tactic| ((try simp only [PySem.Around.deeper, PySem.Around.in1_depth]); omega))
local macro_rules | `(tactic| walk_at "mi_pure") => `(tactic| exact hQ _ _ (ext_of [] hgk hsz (fo_nil (base := base)) (by assumption) (by assumption) ro_nil))
local macro_rules | `(tactic| walk_at "mi_steps") => `(tactic| repeat' ((fail_if_success (with_reducible show wpAny _ _ (exec (Stmt.For _ _ _ _ _) _) _ _ _)); first | ((with_reducible show wpAny _ _ (call (Value.ref _) _ _) _ _ _); walk_at "mi_pc") | ((fail_if_success (with_reducible show wpAny _ _ (call (Value.ref _) _ _) _ _ _)); (fail_if_success (with_reducible show wpAny _ _ (exec (Stmt.Raise _ _ _) _) _ _ _)); first | (k_unfold; (try dsimp only)) | (k_end; kc_close) | walk1 | (dsimp only; walk1) | (leave1; walk_say "STEP leave1"; (try dsimp only)) | fail "no step")))
local macro_rules | `(tactic| walk_at "subscriptTail") => `(tactic| (k_here; (with_reducible show wpAny _ _ (subscriptTail _ _ (Value.ref _) (Value.str _ _)) _ _ _); k_dflt (refine' topItem_K ?F ?X ?l ?k ?e ?_; (case F => k_asm); (case X => k_asm); (case l => first | assumption | k_is); (case k => first | assumption | k_keys); (case e => first | assumption | k_is))))
local macro_rules | `(tactic| walk_at "mi_stepsC") => `(tactic| repeat' ((fail_if_success (with_reducible show wpAny _ _ (exec (Stmt.For _ _ _ _ _) _) _ _ _)); (fail_if_success (with_reducible show wpAny _ _ (exec (Stmt.Assign [_] (Expr.ListComp _ _ _ _) _) _) _ _ _)); (fail_if_success (with_reducible show wpAny _ _ (call (Value.type "zip") _) _ _ _)); (fail_if_success (with_reducible show wpAny _ _ (exec (Stmt.Assign [_] (Expr.DictComp _ _ _ _ _) _) _) _ _ _)); first | ((with_reducible show wpAny _ _ (call (Value.ref _) _ _) _ _ _); walk_at "mi_pc") | ((fail_if_success (with_reducible show wpAny _ _ (call (Value.ref _) _ _) _ _ _)); (fail_if_success (with_reducible show wpAny _ _ (exec (Stmt.Raise _ _ _) _) _ _ _)); first | (k_unfold; (try dsimp only)) | (k_end; kc_close) | walk1 | (dsimp only; walk1) | (leave1; walk_say "STEP leave1"; (try dsimp only)) | fail "no step")))
local macro_rules | `(tactic| walk_at "mi_stepsO") => `(tactic| repeat' ((fail_if_success (with_reducible show wpAny _ _ (exec (Stmt.For _ _ _ _ _) _) _ _ _)); (fail_if_success (with_reducible show wpAny _ _ (exec (Stmt.Assign [_] (Expr.ListComp _ _ _ _) _) _) _ _ _)); (fail_if_success (with_reducible show wpAny _ _ (call (Value.type "zip") _) _ _ _)); (fail_if_success (with_reducible show wpAny _ _ (exec (Stmt.Assign [_] (Expr.DictComp _ _ _ _ _) _) _) _ _ _)); first | ((with_reducible show wpAny _ _ (call (Value.ref _) _ _) _ _ _); walk_at "mi_pc") | ((fail_if_success (with_reducible show wpAny _ _ (call (Value.ref _) _ _) _ _ _)); (fail_if_success (with_reducible show wpAny _ _ (exec (Stmt.Raise _ _ _) _) _ _ _)); first | ((with_reducible show wpAny _ _ (execs _ _) _ _ _); exfalso; omega) | (k_unfold; (try dsimp only)) | (k_end; kc_close) | walk1 | (dsimp only; walk1) | (leave1; walk_say "STEP leave1"; (try dsimp only)) | fail "no step")))
local macro_rules | `(tactic| walk_at "call ref") => `(tactic| ((with_reducible show wpAny _ _ (call (Value.ref 28) _ _) _ _ _); refine pure_K (D := 2) (fun hs hA hQ => c_ics _ _ (by assumption) hs hA hQ) (by assumption) (by assumption) (by assumption) (by walk_at "mi_depth") ?_; intro h9 tk9 F9 N9; (try dsimp only)))
local macro_rules | `(tactic| walk_at "mi_pc") => `(tactic| ((with_reducible show wpAny _ _ (call (Value.ref 28) _ _) _ _ _); refine pure_K (D := 2) (fun hs hA hQ => c_ics _ _ (by assumption) hs hA hQ) (by assumption) (by assumption) (by assumption) (by walk_at "mi_depth") ?_; intro h9 tk9 F9 N9; (try dsimp only)))
local macro_rules | `(tactic| walk_at "subscriptTail") => `(tactic| (k_here; (with_reducible show wpAny _ _ (subscriptTail _ _ (Value.ref _) (Value.str _ _)) _ _ _); k_dflt (refine kda_item (knd := PySem.strKind _ _) (by k_asm) (by k_mem) (by assumption) (strKind_is _ _ _ _) (by first | assumption | rfl) ?_)))
theorem c_enc_ss (d : Addr) (od : Obj) (tt t0 ta : Tok) (a : Int)  (S : Bas w mean mg mb base) (hs : base.StaysIn s.heap) (hA : A.depth + 10 < recursionLimit) (hh : A.handled = none)
   (hdk : od.IsDictOf (PySem.strKind prog w) [(Str.ofString "type", .str (Str.ofString "song_select") tt), (Str.ofString "time", .int 0 t0), (Str.ofString "song", .int a ta)])
   (hfo : ∀ p ∈ [(d, od)], s.heap.get? p.1 = some p.2 ∧ base.get? p.1 = none)
   (hQ : ∀ h' tk l, Ext [] s.heap h' → After s.heap l → IsInts h' l [243, a] → Q (.ref l) {s with heap := h', toks := tk}) :
   wpAny (model prog w) A (call (.ref 288) [.ref d]) Q E s := by
  obtain ⟨inS, ⟨es, nn, sp1, sp2⟩, vn1, an1, ⟨vs, vn2, vn3⟩, ⟨us, an2, an3⟩⟩ := (mk_song_select (base := base) S).KS
  refine enterC (x := Str.ofString "msg") (v := .ref d) _ S hs hfo (by k_is) (by k_is) (by omega) rfl rfl (fun _ => rfl) ?_
  intro g L' h₁ tk ocl hg F N hdat X TT hgk hgs hL hlt
  walk_at "mi_stepsC"
  rename Fr g L' _ _ => F2
  rename News g L' _ _ => N2
  refine assignGets (cL := L' + 1) d [(Str.ofString "type", .str (Str.ofString "song_select") tt), (Str.ofString "time", .int 0 t0), (Str.ofString "song", .int a ta)] rfl hh rfl (by decide) rfl (by decide) rfl rfl rfl rfl rfl rfl ?_ (fun _ => rfl)
  k_steps
  have hall : ∀ n ∈ ([Str.ofString "song"] : List Str), nameP (Str.ofString "channel") n = true → ∃ u, valueAt ([(Str.ofString "type", .str (Str.ofString "song_select") tt), (Str.ofString "time", .int 0 t0), (Str.ofString "song", .int a ta)] : List (Str × Value)) n = some u := by
    intro n hn _
    simp only [List.mem_cons, List.not_mem_nil, or_false] at hn
    rcases hn with rfl
    · exact ⟨_, rfl⟩
  refine .mk ⟨_, vs, [Str.ofString "song"], _, ocl, rfl, F2.keep _ _ (X _ _ vn2), vn3, by rw [sizeLine_eq]; decide, F2.ns, N2.get (.head _), hdat, Heap.dictOf_iff.mpr ⟨_, N2.get (.tail _ (.head _)), hdk⟩, hall, fun D1 h2 tk2 ys hD1 hp1 hy1 hn1 e1 => ?_⟩
  obtain ⟨nD, hD1'⟩ := hp1
  have e1' : Ext [L'] _ h2 := e1
  have dL := (N2 _ (.tail _ (.head _))).2.1
  have cL := (N2 _ (.head _)).2.1
  have D1d : D1 ≠ d := After.ne hD1 (N2.get (.tail _ (.head _)))
  have D1c : D1 ≠ L' + 1 := After.ne hD1 (N2.get (.head _))
  have F3 := frL F2 e1' hn1 (fun _ h => nomatch h)
  have ye : ys = #[.int a ta] := by
    have hf : ([Str.ofString "song"] : List Str).filter (nameP (Str.ofString "channel")) = [Str.ofString "song"] := by decide
    rw [hf] at hy1
    obtain ⟨l⟩ := ys
    cases hy1 with
    | cons e r =>
      cases r
      have e' : some (Value.int a ta) = some _ := e
      cases e'
      rfl
  subst ye
  have N3 : News g L' h2 [(D1, listOf #[.int a ta] nD), (L' + 1, ocl), (d, od)] := nwCons hD1' (goneL F2 hD1) (gone F2 hD1) (nwExt N2 e1' (allCons (by simpa using cL) (allCons (by simpa using dL) allNil)))
  clear F2 N2
  k_steps
  rename Fr g L' _ _ => F2
  rename News g L' _ _ => N2
  rename (@LT.lt Nat _ _ _ ∧ @LT.lt Nat _ D1 _ ∧ @LT.lt Nat _ (L' + 1) _ ∧ @LT.lt Nat _ d _) => lt1
  exact hQ _ _ _ (ext_of' [] hgk hfo F2 N2 (by walk_at "mi_ro")) (after_none hgk (N2.fresh (.head _)) (by simpa using Nat.ne_of_gt lt1.2.2.2)) ⟨_, _, N2.get (.head _), .cons _ _ (.cons _ _ .nil)⟩

theorem c_enc_pc (d : Addr) (od : Obj) (tt t0 ta tc : Tok) (a c : Int) (h1 : 0 ≤ c) (h2 : c ≤ 15) (S : Bas w mean mg mb base) (hs : base.StaysIn s.heap) (hA : A.depth + 10 < recursionLimit) (hh : A.handled = none)
   (hdk : od.IsDictOf (PySem.strKind prog w) [(Str.ofString "type", .str (Str.ofString "program_change") tt), (Str.ofString "time", .int 0 t0), (Str.ofString "program", .int a ta), (Str.ofString "channel", .int c tc)])
   (hfo : ∀ p ∈ [(d, od)], s.heap.get? p.1 = some p.2 ∧ base.get? p.1 = none)
   (hQ : ∀ h' tk l, Ext [] s.heap h' → After s.heap l → IsInts h' l [192 + c, a] → Q (.ref l) {s with heap := h', toks := tk}) :
   wpAny (model prog w) A (call (.ref 288) [.ref d]) Q E s := by
  obtain ⟨inS, ⟨es, nn, sp1, sp2⟩, vn1, an1, ⟨vs, vn2, vn3⟩, ⟨us, an2, an3⟩⟩ := (mk_program_change (base := base) S).KS
  refine enterC (x := Str.ofString "msg") (v := .ref d) _ S hs hfo (by k_is) (by k_is) (by omega) rfl rfl (fun _ => rfl) ?_
  intro g L' h₁ tk ocl hg F N hdat X TT hgk hgs hL hlt
  have e : Builtin.bitOr 192 c = 192 + c := bor_status 192 c h1 h2 (by decide)
  walk_at "mi_stepsC"
  rename Fr g L' _ _ => F2
  rename News g L' _ _ => N2
  refine assignGets (cL := L' + 1) d [(Str.ofString "type", .str (Str.ofString "program_change") tt), (Str.ofString "time", .int 0 t0), (Str.ofString "program", .int a ta), (Str.ofString "channel", .int c tc)] rfl hh rfl (by decide) rfl (by decide) rfl rfl rfl rfl rfl rfl ?_ (fun _ => rfl)
  k_steps
  have hall : ∀ n ∈ ([Str.ofString "channel", Str.ofString "program"] : List Str), nameP (Str.ofString "channel") n = true → ∃ u, valueAt ([(Str.ofString "type", .str (Str.ofString "program_change") tt), (Str.ofString "time", .int 0 t0), (Str.ofString "program", .int a ta), (Str.ofString "channel", .int c tc)] : List (Str × Value)) n = some u := by
    intro n hn _
    simp only [List.mem_cons, List.not_mem_nil, or_false] at hn
    rcases hn with rfl | rfl
    · exact ⟨_, rfl⟩
    · exact ⟨_, rfl⟩
  refine .mk ⟨_, vs, [Str.ofString "channel", Str.ofString "program"], _, ocl, rfl, F2.keep _ _ (X _ _ vn2), vn3, by rw [sizeLine_eq]; decide, F2.ns, N2.get (.head _), hdat, Heap.dictOf_iff.mpr ⟨_, N2.get (.tail _ (.head _)), hdk⟩, hall, fun D1 h2 tk2 ys hD1 hp1 hy1 hn1 e1 => ?_⟩
  obtain ⟨nD, hD1'⟩ := hp1
  have e1' : Ext [L'] _ h2 := e1
  have dL := (N2 _ (.tail _ (.head _))).2.1
  have cL := (N2 _ (.head _)).2.1
  have D1d : D1 ≠ d := After.ne hD1 (N2.get (.tail _ (.head _)))
  have D1c : D1 ≠ L' + 1 := After.ne hD1 (N2.get (.head _))
  have F3 := frL F2 e1' hn1 (fun _ h => nomatch h)
  have ye : ys = #[.int a ta] := by
    have hf : ([Str.ofString "channel", Str.ofString "program"] : List Str).filter (nameP (Str.ofString "channel")) = [Str.ofString "program"] := by decide
    rw [hf] at hy1
    obtain ⟨l⟩ := ys
    cases hy1 with
    | cons e r =>
      cases r
      have e' : some (Value.int a ta) = some _ := e
      cases e'
      rfl
  subst ye
  have N3 : News g L' h2 [(D1, listOf #[.int a ta] nD), (L' + 1, ocl), (d, od)] := nwCons hD1' (goneL F2 hD1) (gone F2 hD1) (nwExt N2 e1' (allCons (by simpa using cL) (allCons (by simpa using dL) allNil)))
  clear F2 N2
  k_steps
  rename Fr g L' _ _ => F2
  rename News g L' _ _ => N2
  rename (@LT.lt Nat _ _ _ ∧ @LT.lt Nat _ D1 _ ∧ @LT.lt Nat _ (L' + 1) _ ∧ @LT.lt Nat _ d _) => lt1
  exact hQ _ _ _ (ext_of' [] hgk hfo F2 N2 (by walk_at "mi_ro")) (after_none hgk (N2.fresh (.head _)) (by simpa using Nat.ne_of_gt lt1.2.2.2)) (Eq.mp (congrArg (fun z => IsInts _ _ [z, a]) e) ⟨_, _, N2.get (.head _), .cons _ _ (.cons _ _ .nil)⟩)
end PartZ2
theorem restAA {M : Model} {A : Around} {s : Shared} {E : Value → Shared → Prop} {env : Env} {Q : Flow → Shared → Prop} (h : Q .next s) : wpAny M A (execs [] env) Q E s := by
  w_top off
  walk1
  w_top off
  exact h
section PartAA
local macro_rules | `(tactic| k_steps) => `(tactic| repeat' (first | ((with_reducible show wpAny _ _ (call (Value.ref _) _ _) _ _ _); walk_at "mi_pc") | ((fail_if_success (with_reducible show wpAny _ _ (call (Value.ref _) _ _) _ _ _)); (fail_if_success (with_reducible show wpAny _ _ (exec (Stmt.Raise _ _ _) _) _ _ _)); first | (k_unfold; (try dsimp only)) | (k_end; wrow_close) | walk1 | (dsimp only; walk1) | (leave1; walk_say "STEP leave1"; (try dsimp only)) | fail "no step")))
local macro_rules | `(tactic| k_ne) => `(tactic| first | assumption | exact Ne.symm (by assumption))
local macro_rules | `(tactic| walk_at "call builtin:len") => `(tactic| (k_here; (with_reducible show wpAny _ _ (call (Value.builtin "len") [Value.ref _]) _ _ _); refine PyProof.Rows.len_list (News.isList (by k_asm) (by k_mem)) (by (try simp only [Array.size_push, List.size_toArray]); omega) ?_))
local macro_rules | `(tactic| walk_at "mi_ro") => `(tactic| repeat' (first | exact ro_nil | refine ro_keep (by k_mem) ?_ | refine ro_mut (by simp) ?_))
local macro_rules | `(tactic| walk_at "mi_depth") => `(tactic| ((try simp only [PySem.Around.deeper, PySem.Around.in1_depth]); omega))
local macro_rules | `(tactic| walk_at "mi_pure") => `(tactic| exact hQ _ _ (ext_of [] hgk hsz (fo_nil (base := base)) (by assumption) (by assumption) ro_nil))
local macro_rules | `(tactic| walk_at "mi_steps") => `(tactic| repeat' ((fail_if_success (with_reducible show wpAny _ _ (exec (Stmt.For _ _ _ _ _) _) _ _ _)); first | ((with_reducible show wpAny _ _ (call (Value.ref _) _ _) _ _ _); walk_at "mi_pc") | ((fail_if_success (with_reducible show wpAny _ _ (call (Value.ref _) _ _) _ _ _)); (fail_if_success (with_reducible show wpAny _ _ (exec (Stmt.Raise _ _ _) _) _ _ _)); first | (k_unfold; (try dsimp only)) | (k_end; kc_close) | walk1 | (dsimp only; walk1) | (leave1; walk_say "STEP leave1"; (try dsimp only)) | fail "no step")))
local macro_rules | `(tactic| walk_at "subscriptTail") => `(tactic| (k_here; (with_reducible show wpAny _ _ (subscriptTail _ _ (Value.ref _) (Value.str _ _)) _ _ _); k_dflt (refine' topItem_K ?F ?X ?l ?k ?e ?_; (case F => k_asm); (case X => k_asm); (case l => first | assumption | k_is); (case k => first | assumption | k_keys); (case e => first | assumption | k_is))))
local macro_rules | `(tactic| walk_at "mi_stepsC") => `(tactic| repeat' ((fail_if_success (with_reducible show wpAny _ _ (exec (Stmt.For _ _ _ _ _) _) _ _ _)); (fail_if_success (with_reducible show wpAny _ _ (exec (Stmt.Assign [_] (Expr.ListComp _ _ _ _) _) _) _ _ _)); (fail_if_success (with_reducible show wpAny _ _ (call (Value.type "zip") _) _ _ _)); (fail_if_success (with_reducible show wpAny _ _ (exec (Stmt.Assign [_] (Expr.DictComp _ _ _ _ _) _) _) _ _ _)); first | ((with_reducible show wpAny _ _ (call (Value.ref _) _ _) _ _ _); walk_at "mi_pc") | ((fail_if_success (with_reducible show wpAny _ _ (call (Value.ref _) _ _) _ _ _)); (fail_if_success (with_reducible show wpAny _ _ (exec (Stmt.Raise _ _ _) _) _ _ _)); first | (k_unfold; (try dsimp only)) | (k_end; kc_close) | walk1 | (dsimp only; walk1) | (leave1; walk_say "STEP leave1"; (try dsimp only)) | fail "no step")))
local macro_rules | `(tactic| walk_at "mi_stepsO") => `(tactic| repeat' ((fail_if_success (with_reducible show wpAny _ _ (exec (Stmt.For _ _ _ _ _) _) _ _ _)); (fail_if_success (with_reducible show wpAny _ _ (exec (Stmt.Assign [_] (Expr.ListComp _ _ _ _) _) _) _ _ _)); (fail_if_success (with_reducible show wpAny _ _ (call (Value.type "zip") _) _ _ _)); (fail_if_success (with_reducible show wpAny _ _ (exec (Stmt.Assign [_] (Expr.DictComp _ _ _ _ _) _) _) _ _ _)); first | ((with_reducible show wpAny _ _ (call (Value.ref _) _ _) _ _ _); walk_at "mi_pc") | ((fail_if_success (with_reducible show wpAny _ _ (call (Value.ref _) _ _) _ _ _)); (fail_if_success (with_reducible show wpAny _ _ (exec (Stmt.Raise _ _ _) _) _ _ _)); first | ((with_reducible show wpAny _ _ (execs _ _) _ _ _); exfalso; omega) | (k_unfold; (try dsimp only)) | (k_end; kc_close) | walk1 | (dsimp only; walk1) | (leave1; walk_say "STEP leave1"; (try dsimp only)) | fail "no step")))
theorem c_enc_all {row : List Int} {kvs : List (Str × Value)} (d : Addr) (S : Bas w mean mg mb base) (hs : base.StaysIn s.heap) (hA : A.depth + 14 < recursionLimit) (hh : A.handled = none) (hd0 : s.heap.DictOf (PySem.strKind prog w) d kvs) (hb0 : base.get? d = none)
   (hf : FieldsP kvs row ∨ ∃ tt t0 tp vd ds, kvs = [(Str.ofString "type", .str (Str.ofString "sysex") tt), (Str.ofString "time", .int 0 t0), (Str.ofString "data", .ref tp)] ∧ s.heap.get? tp = some ⟨.type "tuple", none, .seq vd 0, #[]⟩ ∧ base.get? tp = none ∧ IntsAre vd.toList ds ∧ row = 240 :: (ds ++ [247]))
   (hlen : row.length < 700)
   (hQ : ∀ h' tk l, Ext [] s.heap h' → After s.heap l → IsInts h' l row → Q (.ref l) {s with heap := h', toks := tk}) :
   wpAny (model prog w) A (call (.ref 288) [.ref d]) Q E s := by
  obtain ⟨od, hod, hdk⟩ := Heap.dictOf_iff.mp hd0
  have hfo := fo_cons hod hb0 (fo_nil (h := s.heap) (base := base))
  rcases hf with hf | ⟨tt, t0, tp, vd, ds, rfl, ht, htb, hds, rfl⟩
  · cases hf with
    | note_on tt t0 ta tb tc a b c h1 h2 => exact c_enc_note_on d od tt t0 ta tb tc a b c h1 h2 S hs hA hdk hfo hQ
    | control_change tt t0 ta tb tc a b c h1 h2 => exact c_enc_control_change d od tt t0 ta tb tc a b c h1 h2 S hs hA hdk hfo hQ
    | program_change tt t0 ta tc a c h1 h2 => exact c_enc_pc d od tt t0 ta tc a c h1 h2 S hs (by omega) hh hdk hfo hQ
    | song_select tt t0 ta a => exact c_enc_ss d od tt t0 ta a S hs (by omega) hh hdk hfo hQ
    | tune_request tt t0 => exact c_enc_nd 246 _ (Str.ofString "tune_request") 63 64 65 _ (mk_tune_request (base := base) S).KS (by k_is) (by decide) (by decide) (by decide) (by decide) (by decide) (by decide) (by decide) (by decide) d od tt t0 S hs (by omega) hh hdk hfo hQ
    | clock tt t0 => exact c_enc_nd 248 _ (Str.ofString "clock") 66 67 68 _ (mk_clock (base := base) S).KS (by k_is) (by decide) (by decide) (by decide) (by decide) (by decide) (by decide) (by decide) (by decide) d od tt t0 S hs (by omega) hh hdk hfo hQ
    | start tt t0 => exact c_enc_nd 250 _ (Str.ofString "start") 69 70 71 _ (mk_start (base := base) S).KS (by k_is) (by decide) (by decide) (by decide) (by decide) (by decide) (by decide) (by decide) (by decide) d od tt t0 S hs (by omega) hh hdk hfo hQ
    | active_sensing tt t0 => exact c_enc_nd 254 _ (Str.ofString "active_sensing") 78 79 80 _ (mk_active_sensing (base := base) S).KS (by k_is) (by decide) (by decide) (by decide) (by decide) (by decide) (by decide) (by decide) (by decide) d od tt t0 S hs (by omega) hh hdk hfo hQ
    | reset tt t0 => exact c_enc_nd 255 _ (Str.ofString "reset") 82 83 84 _ (mk_reset (base := base) S).KS (by k_is) (by decide) (by decide) (by decide) (by decide) (by decide) (by decide) (by decide) (by decide) d od tt t0 S hs (by omega) hh hdk hfo hQ
    | pitchwheel tt t0 tc tp a b c h1 h2 ha hb => exact c_enc_pitchwheel d od tt t0 tc tp a b c h1 h2 ha hb S hs hA hdk hfo hQ
    | quarter_frame tt t0 t1 t2 a ha => exact c_enc_quarter_frame d od tt t0 t1 t2 a ha S hs hA hdk hfo hQ
    | songpos tt t0 t1 a b ha hb => exact c_enc_songpos d od tt t0 t1 a b ha hb S hs hA hdk hfo hQ
  · exact c_enc_sx d od tt t0 tp vd ds hds (by simp at hlen; omega) S hs hA hh hdk (fo_cons hod hb0 (fo_cons ht htb fo_nil)) hQ
theorem c_bytes {row : List Int} {av : List Addr} (x : Addr) (S : Bas w mean mg mb base) (hs : base.StaysIn s.heap) (hA : A.depth + 18 < recursionLimit) (hh : A.handled = none) (M : MsgAt prog w base av s.heap x row) (hlen : row.length < 700)
   (hQ : ∀ h' tk l, Ext [] s.heap h' → After s.heap l → IsInts h' l row → Q (.ref l) {s with heap := h', toks := tk}) :
   wpAny (model prog w) A (call (.ref 452) [.ref x]) Q E s := by
  obtain ⟨dx, hf, tf, d, kvs, a1, a2, a3, ⟨b1, b2, b3⟩, ⟨n1, n2, n3⟩, ⟨x1, x2, x3⟩, a7, a8⟩ := M
  have hfo := fo_cons a1 b1 (fo_cons a2 b2 (fo_nil (h := s.heap) (base := base)))
  obtain ⟨od, hod, hdk⟩ := Heap.dictOf_iff.mp a3
  refine enterM (binds := [(Str.ofString "self", .ref x)]) _ S hs hfo (by k_is) (by k_is) (by omega) (.of_eq rfl) (locs rfl) ?_
  intro g L' h₁ hg F N X TT hgk hsz hL hgs
  have gd := hgk _ _ (by simpa using ⟨Ne.symm n2, Ne.symm n3⟩) hod
  k_steps
  rename Fr g L' _ _ => F2
  rename News g L' _ _ => N2
  refine c_enc_all (row := row) d S (fun b o q => F2.keep b o (hg b o q)) (by walk_at "mi_depth") hh (Heap.dictOf_iff.mpr ⟨od, F2.keep _ _ gd, hdk⟩) b3 ?_ hlen fun h6 tk6 l e6 a6 i6 => ?_
  · rcases a8 with z | ⟨tt, t0, tp, vd, ds, c1, c2, c3, c4, c5, c6⟩
    · exact .inl z
    · have n5 : tp ≠ x := fun q => by rw [q, a1] at c2; cases c2
      have n6 : tp ≠ dx := fun q => by rw [q, a2] at c2; exact absurd (Value.type.inj (congrArg Obj.cls (Option.some.inj c2))) (by decide)
      exact .inr ⟨tt, t0, tp, vd, ds, c1, F2.keep _ _ (hgk _ _ (by simpa using ⟨n5, n6⟩) c2), c3, c5, c6⟩
  have F6 := frExt F2 e6 (fun h => nomatch h) (fun _ h => nomatch h)
  have N6 := nwExt N2 e6 (fun _ _ h => nomatch h)
  have lx := a6.ne (N2.get (.head _))
  have ld := a6.ne (N2.get (.tail _ (.head _)))
  have lg := gone F2 a6
  clear F2 N2
  k_steps
  exact hQ _ _ l (ext_of [] hgk hsz hfo F6 N6 (by walk_at "mi_ro")) (after_none hgk lg (by simpa using ⟨lx, ld⟩)) i6
end PartAA
theorem restBB {M : Model} {A : Around} {s : Shared} {E : Value → Shared → Prop} {env : Env} {Q : Flow → Shared → Prop} (h : Q .next s) : wpAny M A (execs [] env) Q E s := by
  w_top off
  walk1
  w_top off
  exact h
section PartBB
local macro_rules | `(tactic| k_steps) => `(tactic| repeat' (first | ((with_reducible show wpAny _ _ (call (Value.ref _) _ _) _ _ _); walk_at "mi_pc") | ((fail_if_success (with_reducible show wpAny _ _ (call (Value.ref _) _ _) _ _ _)); (fail_if_success (with_reducible show wpAny _ _ (exec (Stmt.Raise _ _ _) _) _ _ _)); first | (k_unfold; (try dsimp only)) | (k_end; wrow_close) | walk1 | (dsimp only; walk1) | (leave1; walk_say "STEP leave1"; (try dsimp only)) | fail "no step")))
local macro_rules | `(tactic| k_ne) => `(tactic| first | assumption | exact Ne.symm (by assumption))
local macro_rules | `(tactic| walk_at "call builtin:len") => `(tactic| (k_here; (with_reducible show wpAny _ _ (call (Value.builtin "len") [Value.ref _]) _ _ _); refine PyProof.Rows.len_list (News.isList (by k_asm) (by k_mem)) (by (try simp only [Array.size_push, List.size_toArray]); omega) ?_))
local macro_rules | `(tactic| walk_at "mi_ro") => `(tactic| repeat' (first | exact ro_nil | refine ro_keep (by k_mem) ?_ | refine ro_mut (by simp) ?_))
local macro_rules | `(tactic| walk_at "mi_depth") => `(tactic| ((try simp only [PySem.Around.deeper, PySem.Around.in1_depth]); omega))
local macro_rules | `(tactic| walk_at "mi_pure") => `(tactic| exact hQ _ _ (ext_of [] hgk hsz (fo_nil (base := base)) (by assumption) (by assumption) ro_nil))
local macro_rules | `(tactic| walk_at "mi_steps") => `(tactic| repeat' ((fail_if_success (with_reducible show wpAny _ _ (exec (Stmt.For _ _ _ _ _) _) _ _ _)); first | ((with_reducible show wpAny _ _ (call (Value.ref _) _ _) _ _ _); walk_at "mi_pc") | ((fail_if_success (with_reducible show wpAny _ _ (call (Value.ref _) _ _) _ _ _)); (fail_if_success (with_reducible show wpAny _ _ (exec (Stmt.Raise _ _ _) _) _ _ _)); first | (k_unfold; (try dsimp only)) | (k_end; kc_close) | walk1 | (dsimp only; walk1) | (leave1; walk_say "STEP leave1"; (try dsimp only)) | fail "no step")))
local macro_rules | `(tactic| walk_at "subscriptTail") => `(tactic| (k_here; (with_reducible show wpAny _ _ (subscriptTail _ _ (Value.ref _) (Value.str _ _)) _ _ _); k_dflt (refine' topItem_K ?F ?X ?l ?k ?e ?_; (case F => k_asm); (case X => k_asm); (case l => first | assumption | k_is); (case k => first | assumption | k_keys); (case e => first | assumption | k_is))))
local macro_rules | `(tactic| walk_at "mi_stepsC") => `(tactic| repeat' ((fail_if_success (with_reducible show wpAny _ _ (exec (Stmt.For _ _ _ _ _) _) _ _ _)); (fail_if_success (with_reducible show wpAny _ _ (exec (Stmt.Assign [_] (Expr.ListComp _ _ _ _) _) _) _ _ _)); (fail_if_success (with_reducible show wpAny _ _ (call (Value.type "zip") _) _ _ _)); (fail_if_success (with_reducible show wpAny _ _ (exec (Stmt.Assign [_] (Expr.DictComp _ _ _ _ _) _) _) _ _ _)); first | ((with_reducible show wpAny _ _ (call (Value.ref _) _ _) _ _ _); walk_at "mi_pc") | ((fail_if_success (with_reducible show wpAny _ _ (call (Value.ref _) _ _) _ _ _)); (fail_if_success (with_reducible show wpAny _ _ (exec (Stmt.Raise _ _ _) _) _ _ _)); first | (k_unfold; (try dsimp only)) | (k_end; kc_close) | walk1 | (dsimp only; walk1) | (leave1; walk_say "STEP leave1"; (try dsimp only)) | fail "no step")))
local macro_rules | `(tactic| walk_at "mi_stepsO") => `(tactic| repeat' ((fail_if_success (with_reducible show wpAny _ _ (exec (Stmt.For _ _ _ _ _) _) _ _ _)); (fail_if_success (with_reducible show wpAny _ _ (exec (Stmt.Assign [_] (Expr.ListComp _ _ _ _) _) _) _ _ _)); (fail_if_success (with_reducible show wpAny _ _ (call (Value.type "zip") _) _ _ _)); (fail_if_success (with_reducible show wpAny _ _ (exec (Stmt.Assign [_] (Expr.DictComp _ _ _ _ _) _) _) _ _ _)); first | ((with_reducible show wpAny _ _ (call (Value.ref _) _ _) _ _ _); walk_at "mi_pc") | ((fail_if_success (with_reducible show wpAny _ _ (call (Value.ref _) _ _) _ _ _)); (fail_if_success (with_reducible show wpAny _ _ (exec (Stmt.Raise _ _ _) _) _ _ _)); first | ((with_reducible show wpAny _ _ (execs _ _) _ _ _); exfalso; omega) | (k_unfold; (try dsimp only)) | (k_end; kc_close) | walk1 | (dsimp only; walk1) | (leave1; walk_say "STEP leave1"; (try dsimp only)) | fail "no step")))
theorem pop0 {l : Addr} {y : Value} {vs : List Value} {n : Nat} {u : Tok} (hl : s.heap.get? l = some (listOf (y :: vs).toArray n)) (hz : vs.length < 16000)
    (h : ∀ h', h'.get? l = some (listOf vs.toArray (n + 1)) → Ext [l] s.heap h' → Q y {s with heap := h'}) : wpAny (model prog w) A (call (.builtin "list.pop") [.ref l, .int 0 u]) Q E s := by
  have hy : (y :: vs).toArray[0]? = some y := by simp
  refine call_meets PySem.F.slot_list_pop ⟨_, hl, rfl⟩ PySem.F.entry_list_pop (PySem.F.args_list_pop_2 _ _) (PySem.MeetsSeq.list_pop_at l _ n 0 u 0 y (by decide) (by rw [List.size_toArray, List.length_cons]; unfold seqIndex?; simp) hy (by rw [List.size_toArray, List.length_cons, sizeLine_eq]; omega)) ⟨hl, h _ ?_ (ext_same (Heap.SameBut.update ..))⟩
  have q := PySem.IsL.update hl (fun xs : Array Value => xs.eraseIdxIfInBounds 0)
  have e : ((y :: vs).toArray).eraseIdxIfInBounds 0 = vs.toArray := kl_erase [] vs y
  rw [e, if_neg (by simp)] at q
  exact q
section
variable {M : Model} {P : Shared → List Value → Prop}
/-- the generator has nothing left -/
def GenR (P : Shared → List Value → Prop) : GenEnd := fun _ s₀ r s₁ => r = .ok (.ret .none) ∧ P s₀ [] ∧ ∃ tk, s₁ = {s₀ with toks := tk}
/-- the generator hands out the first and goes on from any state that is as P says -/
def GenY (P : Shared → List Value → Prop) (l : Addr) : Protocol := fun k s₀ v s₁ kap => (∃ vs h' tk n, P s₀ (v :: vs) ∧ s₁ = {s₀ with heap := h', toks := tk} ∧ Ext [l] s₀.heap h' ∧ h'.get? l = some (listOf vs.toArray n)) ∧
  (∀ s'', (∃ vs', P s'' vs' ∧ (k = 0 → vs' = [])) → kap (.send .none) s'')
theorem popLoop {l : Addr} {test popE : Expr} {ypos pos : Pos} {env : Env} {fs : List Frame} (hfs : splitAtGen fs = none) (hfg : fs.any Frame.guarded = false) (hco : env.scope.isCoroutine = false) (hi : interactive env = false)
    (htoks : ∀ s vs tk, P s vs → P {s with toks := tk} vs)
    (hback : ∀ s vs tk, P {s with toks := tk} vs → P s vs)
    (htest : ∀ {A : Around} {s : Shared} {vs : List Value} {Q : Bool → Shared → Prop} {E : Value → Shared → Prop}, P s vs → (∀ tk, Q (!vs.isEmpty) {s with toks := tk}) → wpAny (model prog w) A (isTrue test env (eval test env)) Q E s)
    (hpop : ∀ {A : Around} {s : Shared} {v : Value} {vs : List Value} {Q : Value → Shared → Prop} {E : Value → Shared → Prop}, P s (v :: vs) → (∀ h' tk n, Ext [l] s.heap h' → h'.get? l = some (listOf vs.toArray n) → Q v {s with heap := h', toks := tk}) → wpAny (model prog w) A (eval popE env) Q E s)
    (hend : ∀ n s₀ s₁, GenR P n s₀ (.ok (.ret .none)) s₁ → Seg (model prog w) A (GenR P) (GenY P l) n s₀ (.whileLoop test [.Expr (.Yield (some popE) ypos) pos] [] env) (leafOf (.ok .next)) fs s₁) :
    ∀ (n : Nat) (s₀ s : Shared) (vs : List Value), P s vs → (n = 0 → vs = []) → (∃ tk, s = {s₀ with toks := tk}) →
      Seg (model prog w) A (GenR P) (GenY P l) n s₀ (.whileLoop test [.Expr (.Yield (some popE) ypos) pos] [] env) ((model prog w).den (.whileLoop test [.Expr (.Yield (some popE) ypos) pos] [] env)) fs s := by
  intro n
  induction n with
  | zero =>
    intro s₀ s vs hP hv ⟨tk0, hs0⟩
    subst hs0
    obtain rfl := hv rfl
    refine seg_whileLoop (htest hP fun tk => ?_)
    rw [if_neg (by simp)]
    refine seg_execs_nil ?_
    exact hend _ _ _ ⟨rfl, hback _ _ _ hP, _, rfl⟩
  | succ m ih =>
    intro s₀ s vs hP hv ⟨tk0, hs0⟩
    subst hs0
    refine seg_whileLoop (htest hP fun tk => ?_)
    cases vs with
    | nil =>
      rw [if_neg (by simp)]
      refine seg_execs_nil ?_
      exact hend _ _ _ ⟨rfl, hback _ _ _ hP, _, rfl⟩
    | cons v vs =>
      rw [if_pos (by simp)]
      refine seg_execs_cons (seg_Expr_Yield hfs rfl hfg (hpop (htoks _ _ _ (hback _ _ _ hP)) fun h' tk' n' e hl kap hk => ?_) hco hi)
      refine ⟨⟨vs, h', tk', n', hback _ _ _ hP, rfl, e, hl⟩, fun s'' hs'' => hk .none s'' ?_⟩
      obtain ⟨vs', hP', hv'⟩ := hs''
      refine seg_execs_nil ?_
      exact seg_again rfl (ih s'' s'' vs' hP' hv' ⟨_, rfl⟩)
theorem popFunc {l : Addr} {test popE : Expr} {ypos pos wpos : Pos} {env : Env} (hco : env.scope.isCoroutine = false) (hi : interactive env = false)
    (htoks : ∀ s vs tk, P s vs → P {s with toks := tk} vs)
    (hback : ∀ s vs tk, P {s with toks := tk} vs → P s vs)
    (htest : ∀ {A : Around} {s : Shared} {vs : List Value} {Q : Bool → Shared → Prop} {E : Value → Shared → Prop}, P s vs → (∀ tk, Q (!vs.isEmpty) {s with toks := tk}) → wpAny (model prog w) A (isTrue test env (eval test env)) Q E s)
    (hpop : ∀ {A : Around} {s : Shared} {v : Value} {vs : List Value} {Q : Value → Shared → Prop} {E : Value → Shared → Prop}, P s (v :: vs) → (∀ h' tk n, Ext [l] s.heap h' → h'.get? l = some (listOf vs.toArray n) → Q v {s with heap := h', toks := tk}) → wpAny (model prog w) A (eval popE env) Q E s)
    (n : Nat) (s : Shared) (vs : List Value) (hP : P s vs) (hv : n = 0 → vs = []) :
    (GenState.fresh (.func [.While test [.Expr (.Yield (some popE) ypos) pos] [] wpos] env)).Goes (model prog w) A (GenR P) (GenY P l) n (.send .none) s := by
  refine ⟨rfl, seg_func (seg_execs_cons (seg_While fun p => ?_))⟩
  refine popLoop rfl rfl hco hi htoks hback htest hpop ?_ n s s vs hP hv ⟨_, rfl⟩
  intro n' s₀ s₁ hR
  refine seg_leaf (.ok .next) ?_
  exact seg_end (.ok (.ret .none)) hR
end
end PartBB
theorem restCC {M : Model} {A : Around} {s : Shared} {E : Value → Shared → Prop} {env : Env} {Q : Flow → Shared → Prop} (h : Q .next s) : wpAny M A (execs [] env) Q E s := by
  w_top off
  walk1
  w_top off
  exact h
section PartCC
local macro_rules | `(tactic| k_steps) => `(tactic| repeat' (first | ((with_reducible show wpAny _ _ (call (Value.ref _) _ _) _ _ _); walk_at "mi_pc") | ((fail_if_success (with_reducible show wpAny _ _ (call (Value.ref _) _ _) _ _ _)); (fail_if_success (with_reducible show wpAny _ _ (exec (Stmt.Raise _ _ _) _) _ _ _)); first | (k_unfold; (try dsimp only)) | (k_end; wrow_close) | walk1 | (dsimp only; walk1) | (leave1; walk_say "STEP leave1"; (try dsimp only)) | fail "no step")))
local macro_rules | `(tactic| k_ne) => `(tactic| first | assumption | exact Ne.symm (by assumption))
local macro_rules | `(tactic| walk_at "call builtin:len") => `(tactic| (k_here; (with_reducible show wpAny _ _ (call (Value.builtin "len") [Value.ref _]) _ _ _); refine PyProof.Rows.len_list (News.isList (by k_asm) (by k_mem)) (by (try simp only [Array.size_push, List.size_toArray]); omega) ?_))
local macro_rules | `(tactic| walk_at "mi_ro") => `(tactic| repeat' (first | exact ro_nil | refine ro_keep (by k_mem) ?_ | refine ro_mut (by simp) ?_))
local macro_rules | `(tactic| walk_at "mi_depth") => `(tactic| ((try simp only [PySem.Around.deeper, PySem.Around.in1_depth]); omega))
local macro_rules | `(tactic| walk_at "mi_pure") => `(tactic| exact hQ _ _ (ext_of [] hgk hsz (fo_nil (base := base)) (by assumption) (by assumption) ro_nil))
local macro_rules | `(tactic| walk_at "mi_steps") => `(tactic| repeat' ((fail_if_success (with_reducible show wpAny _ _ (exec (Stmt.For _ _ _ _ _) _) _ _ _)); first | ((with_reducible show wpAny _ _ (call (Value.ref _) _ _) _ _ _); walk_at "mi_pc") | ((fail_if_success (with_reducible show wpAny _ _ (call (Value.ref _) _ _) _ _ _)); (fail_if_success (with_reducible show wpAny _ _ (exec (Stmt.Raise _ _ _) _) _ _ _)); first | (k_unfold; (try dsimp only)) | (k_end; kc_close) | walk1 | (dsimp only; walk1) | (leave1; walk_say "STEP leave1"; (try dsimp only)) | fail "no step")))
local macro_rules | `(tactic| walk_at "subscriptTail") => `(tactic| (k_here; (with_reducible show wpAny _ _ (subscriptTail _ _ (Value.ref _) (Value.str _ _)) _ _ _); k_dflt (refine' topItem_K ?F ?X ?l ?k ?e ?_; (case F => k_asm); (case X => k_asm); (case l => first | assumption | k_is); (case k => first | assumption | k_keys); (case e => first | assumption | k_is))))
local macro_rules | `(tactic| walk_at "mi_stepsC") => `(tactic| repeat' ((fail_if_success (with_reducible show wpAny _ _ (exec (Stmt.For _ _ _ _ _) _) _ _ _)); (fail_if_success (with_reducible show wpAny _ _ (exec (Stmt.Assign [_] (Expr.ListComp _ _ _ _) _) _) _ _ _)); (fail_if_success (with_reducible show wpAny _ _ (call (Value.type "zip") _) _ _ _)); (fail_if_success (with_reducible show wpAny _ _ (exec (Stmt.Assign [_] (Expr.DictComp _ _ _ _ _) _) _) _ _ _)); first | ((with_reducible show wpAny _ _ (call (Value.ref _) _ _) _ _ _); walk_at "mi_pc") | ((fail_if_success (with_reducible show wpAny _ _ (call (Value.ref _) _ _) _ _ _)); (fail_if_success (with_reducible show wpAny _ _ (exec (Stmt.Raise _ _ _) _) _ _ _)); first | (k_unfold; (try dsimp only)) | (k_end; kc_close) | walk1 | (dsimp only; walk1) | (leave1; walk_say "STEP leave1"; (try dsimp only)) | fail "no step")))
local macro_rules | `(tactic| walk_at "mi_stepsO") => `(tactic| repeat' ((fail_if_success (with_reducible show wpAny _ _ (exec (Stmt.For _ _ _ _ _) _) _ _ _)); (fail_if_success (with_reducible show wpAny _ _ (exec (Stmt.Assign [_] (Expr.ListComp _ _ _ _) _) _) _ _ _)); (fail_if_success (with_reducible show wpAny _ _ (call (Value.type "zip") _) _ _ _)); (fail_if_success (with_reducible show wpAny _ _ (exec (Stmt.Assign [_] (Expr.DictComp _ _ _ _ _) _) _) _ _ _)); first | ((with_reducible show wpAny _ _ (call (Value.ref _) _ _) _ _ _); walk_at "mi_pc") | ((fail_if_success (with_reducible show wpAny _ _ (call (Value.ref _) _ _) _ _ _)); (fail_if_success (with_reducible show wpAny _ _ (exec (Stmt.Raise _ _ _) _) _ _ _)); first | ((with_reducible show wpAny _ _ (execs _ _) _ _ _); exfalso; omega) | (k_unfold; (try dsimp only)) | (k_end; kc_close) | walk1 | (dsimp only; walk1) | (leave1; walk_say "STEP leave1"; (try dsimp only)) | fail "no step")))
theorem eq_emp (vs : List Value) : ((vs.toArray.size : Int) != 0) = !vs.isEmpty := by cases vs <;> simp <;> omega
theorem gt_emp (vs : List Value) : decide ((vs.toArray.size : Int) > 0) = !vs.isEmpty := by cases vs <;> simp <;> omega
theorem lt_emp (vs : List Value) : decide (0 < (vs.toArray.size : Int)) = !vs.isEmpty := by cases vs <;> simp <;> omega
/-- the state of a generator that hands out a list bit by bit -/
def gnNext (prog : Program) (w : World) (A : Around) (P : Shared → List Value → Prop) (l : Addr) (n : Nat) (gs : GenState) : Prop :=
  ∀ s' vs, P s' vs → (n = 0 → vs = []) → gs.Goes (model prog w) A (GenR P) (GenY P l) n (.send .none) s'
local macro_rules | `(tactic| walk_at "getMethod ref") => `(tactic| (k_here; (with_reducible show wpAny _ _ (getMethod (Value.ref _) (PySem.Str.ofString "pop") _) _ _ _); k_dflt (refine' kl_method ?N ?m PySem.F.slot_list_pop PySem.F.type_list_pop ?_; (case N => k_asm); (case m => k_mem))))
local macro_rules | `(tactic| walk_at "mi_stepsG") => `(tactic| repeat' ((fail_if_success (with_reducible show wpAny _ _ (call (Value.builtin "list.pop") _) _ _ _)); first | (k_unfold; (try dsimp only)) | (k_end; kc_close) | walk1 | (dsimp only; walk1) | (leave1; walk_say "STEP leave1"; (try dsimp only)) | fail "no step"))
theorem enterGen {name qual : Str} {params : Arguments} {body : List Stmt} {scope : Scope} {dV kV doc pm cdv ct oc : Value} {an od : Option Addr} {osl : Array (Option Value)} {f : Addr} {args : List Value} {binds : List (Str × Value)}
    (S : Bas w mean mg mb base) (hs : base.StaysIn s.heap)
    (ho : (hd.heap_39 w.params).lookup f = some ⟨oc, od, .func (fnOf name qual params body scope dV kV doc pm an cdv ct), osl⟩) (hcd : codeIn (hd.heap_39 w.params) cdv qual = true)
    (hroom : A.depth < recursionLimit) (hbind : BindsTo s (fnOf name qual params body scope dV kV doc pm an cdv ct) ⟨args, []⟩ binds) (hloc : ∀ y ∈ binds, scope.names.lookup y.1 = some .local)
    (h : ∀ h' tk L a, L = s.heap.objs.size → Ext [] s.heap h' → After s.heap L → After s.heap a → h'.IsGen a s.gens.size → h'.Ns L (fun y => binds.reverse.lookup y) →
      Q (.ref a) {s with heap := h', toks := tk, gens := s.gens.push (.fresh (.func body (envOf qual scope L f cdv)))})
    (hco : scope.isCoroutine = false := by rfl) (hgen : scope.isGenerator = true := by rfl) (hk : scope.kind = .function := by rfl)
    (hcell : ∀ x ∈ scope.names, x.2 ≠ .cell := by decide) : wpAny (model prog w) A (call (.ref f) args) Q E s := by
  have Xs : (hd.heap_39 w.params).In s.heap := S.X.keeps hs
  refine wpAny_call (codeAny_call_generator (fd := fnOf name qual params body scope dV kV doc pm an cdv ct) (body := body) hroom (Xs _ _ ho) rfl hco hgen rfl (codeRec_of Xs hcd) (hbind _ _ _ _ ?_))
  refine wpAny_newFunctionEnv hcell hloc (fun h₁ hns hsb => ⟨(S.T.nolimit.keeps hs).fresh _ hsb, ?_⟩) hk
  have kp : ∀ {b : Addr} {o : Obj}, s.heap.get? b = some o → h₁.get? b = some o := fun {b o} e => hsb.extBut b o (Nat.ne_of_lt (Heap.lt_size e)) (Heap.get?_push_of_some _ e)
  have hLn : After s.heap s.heap.objs.size := by
    unfold After
    cases q : s.heap.get? s.heap.objs.size with
    | none => rfl
    | some o => exact absurd (Heap.lt_size q) (Nat.lt_irrefl _)
  have han : After s.heap h₁.objs.size := by
    unfold After
    cases q : s.heap.get? h₁.objs.size with
    | none => rfl
    | some o => exact absurd (Heap.lt_size (kp q)) (Nat.lt_irrefl _)
  exact h _ _ s.heap.objs.size _ rfl (fun b o _ e => Heap.get?_push_of_some _ (kp e)) hLn han ⟨_, _, _, Heap.get?_push_size _ rfl, rfl, rfl, rfl⟩ (hns.push _)
structure TokG (base : Heap) (t dt lm L : Addr) (s : Shared) (vs : List Value) : Prop where
  stays : base.StaysIn s.heap
  ns : ∃ m, s.heap.Ns L m ∧ m (Str.ofString "self") = some (.ref t)
  above : base.objs.size ≤ L
  ne : t ≠ L ∧ dt ≠ L ∧ lm ≠ L
  fresh : base.get? t = none ∧ base.get? dt = none ∧ base.get? lm = none
  obj : s.heap.get? t = some (instObj 517 dt)
  dict : ∃ h1 h2 h3 h4 h5 k1 k2 k3 k4 k5 v1 v2 v4 v5, s.heap.get? dt = some (tokD h1 h2 h3 h4 h5 k1 k2 k3 k4 k5 v1 v2 (.ref lm) v4 v5)
  list : ∃ n, s.heap.get? lm = some (listOf vs.toArray n)
  len : vs.length < 900
theorem c_iterT (t dt lm : Addr) (S : Bas w mean mg mb base) (hs : base.StaysIn s.heap) (hA : A.depth + 6 < recursionLimit) (hbz : base.objs.size ≤ s.heap.objs.size)
   (hQ : ∀ h' tk L a gs, Ext [] s.heap h' → After s.heap L → After s.heap a → h'.IsGen a s.gens.size → (∃ m, h'.Ns L m ∧ m (Str.ofString "self") = some (.ref t)) → base.objs.size ≤ L → gs.bare = true → (∀ A n, gnNext prog w A (TokG base t dt lm L) lm n gs) →
       Q (.ref a) {s with heap := h', toks := tk, gens := s.gens.push gs}) :
   wpAny (model prog w) A (call (.ref 514) [.ref t]) Q E s := by
  refine enterGen (binds := [(Str.ofString "self", .ref t)]) S hs (by k_is) (by k_is) (by omega) (.of_eq rfl) (locs rfl) ?_
  intro h' tk L a hL e1 aL aa ig hns
  refine hQ _ _ L a _ e1 aL aa ig ⟨_, hns, rfl⟩ (hL ▸ hbz) rfl ?_
  intro A' n s' vs hP hv
  refine popFunc (P := TokG base t dt lm L) (l := lm) rfl rfl (fun s vs tk h => ⟨h.stays, h.ns, h.above, h.ne, h.fresh, h.obj, h.dict, h.list, h.len⟩) (fun s vs tk h => ⟨h.stays, h.ns, h.above, h.ne, h.fresh, h.obj, h.dict, h.list, h.len⟩) ?_ ?_ n s' vs hP hv
  · intro A s vs Q E hP hQ
    obtain ⟨hs, ⟨m, hn, hm⟩, hab, ⟨n1, n2, n3⟩, ⟨f1, f2, f3⟩, ho, ⟨h1, h2, h3, h4, h5, k1, k2, k3, k4, k5, v1, v2, v4, v5, hd⟩, ⟨n, hl⟩, hz⟩ := hP
    have F : Fr base L s.heap (fun y => if y = Str.ofString "self" then some (.ref t) else m y) := frMap ⟨hn, fun b o e => hs b o e, hab⟩ fun y => by
      by_cases h : y = Str.ofString "self"
      · rw [if_pos h, h, hm]
      · rw [if_neg h]
    have N : News base L s.heap [(t, instObj 517 dt), (dt, tokD h1 h2 h3 h4 h5 k1 k2 k3 k4 k5 v1 v2 (.ref lm) v4 v5), (lm, listOf vs.toArray n)] := nwCons ho n1 f1 (nwCons hd n2 f2 (nwCons hl n3 f3 nwNil))
    have X := S.X
    have TT := S.T
    have hz2 : vs.toArray.size < 900 := by simpa using hz
    clear hns e1 aL aa ig hL
    k_steps
    exact Eq.mp (congrArg (fun b => Q b _) (eq_emp vs).symm) (hQ _)
  · intro A s v vs Q E hP hQ
    obtain ⟨hs, ⟨m, hn, hm⟩, hab, ⟨n1, n2, n3⟩, ⟨f1, f2, f3⟩, ho, ⟨h1, h2, h3, h4, h5, k1, k2, k3, k4, k5, v1, v2, v4, v5, hd⟩, ⟨n, hl⟩, hz⟩ := hP
    have F : Fr base L s.heap (fun y => if y = Str.ofString "self" then some (.ref t) else m y) := frMap ⟨hn, fun b o e => hs b o e, hab⟩ fun y => by
      by_cases h : y = Str.ofString "self"
      · rw [if_pos h, h, hm]
      · rw [if_neg h]
    have N : News base L s.heap [(t, instObj 517 dt), (dt, tokD h1 h2 h3 h4 h5 k1 k2 k3 k4 k5 v1 v2 (.ref lm) v4 v5), (lm, listOf (v :: vs).toArray n)] := nwCons ho n1 f1 (nwCons hd n2 f2 (nwCons hl n3 f3 nwNil))
    have X := S.X
    have TT := S.T
    clear hns e1 aL aa ig hL
    walk_at "mi_stepsG"
    refine pop0 hl (by simp only [List.length_cons] at hz; omega) fun h' hl' e' => ?_
    exact hQ _ _ _ e' hl'
/-- a parser's dict -/
abbrev parD (h1 h2 : Int) (k1 k2 : Tok) (lm v2 : Value) : Obj := dictOf [⟨h1, .str (Str.ofString "messages") k1, lm⟩, ⟨h2, .str (Str.ofString "_tok") k2, v2⟩] 2
structure ParG (base : Heap) (t dt lm L : Addr) (s : Shared) (vs : List Value) : Prop where
  stays : base.StaysIn s.heap
  ns : ∃ m, s.heap.Ns L m ∧ m (Str.ofString "self") = some (.ref t)
  above : base.objs.size ≤ L
  ne : t ≠ L ∧ dt ≠ L ∧ lm ≠ L
  fresh : base.get? t = none ∧ base.get? dt = none ∧ base.get? lm = none
  obj : s.heap.get? t = some (instObj 588 dt)
  dict : ∃ h1 h2 k1 k2 v2, s.heap.get? dt = some (parD h1 h2 k1 k2 (.ref lm) v2)
  list : ∃ n, s.heap.get? lm = some (listOf vs.toArray n)
  len : vs.length < 900
theorem c_iterP (t dt lm : Addr) (S : Bas w mean mg mb base) (hs : base.StaysIn s.heap) (hA : A.depth + 6 < recursionLimit) (hbz : base.objs.size ≤ s.heap.objs.size)
   (hQ : ∀ h' tk L a gs, Ext [] s.heap h' → After s.heap L → After s.heap a → h'.IsGen a s.gens.size → (∃ m, h'.Ns L m ∧ m (Str.ofString "self") = some (.ref t)) → base.objs.size ≤ L → gs.bare = true → (∀ A n, gnNext prog w A (ParG base t dt lm L) lm n gs) →
       Q (.ref a) {s with heap := h', toks := tk, gens := s.gens.push gs}) :
   wpAny (model prog w) A (call (.ref 585) [.ref t]) Q E s := by
  refine enterGen (binds := [(Str.ofString "self", .ref t)]) S hs (by k_is) (by k_is) (by omega) (.of_eq rfl) (locs rfl) ?_
  intro h' tk L a hL e1 aL aa ig hns
  refine hQ _ _ L a _ e1 aL aa ig ⟨_, hns, rfl⟩ (hL ▸ hbz) rfl ?_
  intro A' n s' vs hP hv
  refine popFunc (P := ParG base t dt lm L) (l := lm) rfl rfl (fun s vs tk h => ⟨h.stays, h.ns, h.above, h.ne, h.fresh, h.obj, h.dict, h.list, h.len⟩) (fun s vs tk h => ⟨h.stays, h.ns, h.above, h.ne, h.fresh, h.obj, h.dict, h.list, h.len⟩) ?_ ?_ n s' vs hP hv
  · intro A s vs Q E hP hQ
    obtain ⟨hs, ⟨m, hn, hm⟩, hab, ⟨n1, n2, n3⟩, ⟨f1, f2, f3⟩, ho, ⟨h1, h2, k1, k2, v2, hd⟩, ⟨n, hl⟩, hz⟩ := hP
    have F : Fr base L s.heap (fun y => if y = Str.ofString "self" then some (.ref t) else m y) := frMap ⟨hn, fun b o e => hs b o e, hab⟩ fun y => by
      by_cases h : y = Str.ofString "self"
      · rw [if_pos h, h, hm]
      · rw [if_neg h]
    have N : News base L s.heap [(t, instObj 588 dt), (dt, parD h1 h2 k1 k2 (.ref lm) v2), (lm, listOf vs.toArray n)] := nwCons ho n1 f1 (nwCons hd n2 f2 (nwCons hl n3 f3 nwNil))
    have X := S.X
    have TT := S.T
    have hz2 : vs.toArray.size < 900 := by simpa using hz
    clear hns e1 aL aa ig hL
    k_steps
    exact Eq.mp (congrArg (fun b => Q b _) (lt_emp vs).symm) (hQ _)
  · intro A s v vs Q E hP hQ
    obtain ⟨hs, ⟨m, hn, hm⟩, hab, ⟨n1, n2, n3⟩, ⟨f1, f2, f3⟩, ho, ⟨h1, h2, k1, k2, v2, hd⟩, ⟨n, hl⟩, hz⟩ := hP
    have F : Fr base L s.heap (fun y => if y = Str.ofString "self" then some (.ref t) else m y) := frMap ⟨hn, fun b o e => hs b o e, hab⟩ fun y => by
      by_cases h : y = Str.ofString "self"
      · rw [if_pos h, h, hm]
      · rw [if_neg h]
    have N : News base L s.heap [(t, instObj 588 dt), (dt, parD h1 h2 k1 k2 (.ref lm) v2), (lm, listOf (v :: vs).toArray n)] := nwCons ho n1 f1 (nwCons hd n2 f2 (nwCons hl n3 f3 nwNil))
    have X := S.X
    have TT := S.T
    clear hns e1 aL aa ig hL
    walk_at "mi_stepsG"
    refine pop0 hl (by simp only [List.length_cons] at hz; omega) fun h' hl' e' => ?_
    exact hQ _ _ _ e' hl'
end PartCC
theorem restDD {M : Model} {A : Around} {s : Shared} {E : Value → Shared → Prop} {env : Env} {Q : Flow → Shared → Prop} (h : Q .next s) : wpAny M A (execs [] env) Q E s := by
  w_top off
  walk1
  w_top off
  exact h
section PartDD
local macro_rules | `(tactic| k_steps) => `(tactic| repeat' (first | ((with_reducible show wpAny _ _ (call (Value.ref _) _ _) _ _ _); walk_at "mi_pc") | ((fail_if_success (with_reducible show wpAny _ _ (call (Value.ref _) _ _) _ _ _)); (fail_if_success (with_reducible show wpAny _ _ (exec (Stmt.Raise _ _ _) _) _ _ _)); first | (k_unfold; (try dsimp only)) | (k_end; wrow_close) | walk1 | (dsimp only; walk1) | (leave1; walk_say "STEP leave1"; (try dsimp only)) | fail "no step")))
local macro_rules | `(tactic| k_ne) => `(tactic| first | assumption | exact Ne.symm (by assumption))
local macro_rules | `(tactic| walk_at "call builtin:len") => `(tactic| (k_here; (with_reducible show wpAny _ _ (call (Value.builtin "len") [Value.ref _]) _ _ _); refine PyProof.Rows.len_list (News.isList (by k_asm) (by k_mem)) (by (try simp only [Array.size_push, List.size_toArray]); omega) ?_))
local macro_rules | `(tactic| walk_at "mi_ro") => `(tactic| repeat' (first | exact ro_nil | refine ro_keep (by k_mem) ?_ | refine ro_mut (by simp) ?_))
local macro_rules | `(tactic| walk_at "mi_depth") => `(tactic| ((try simp only [PySem.Around.deeper, PySem.Around.in1_depth]); omega))
local macro_rules | `(tactic| walk_at "mi_pure") => `(tactic| exact hQ _ _ (ext_of [] hgk hsz (fo_nil (base := base)) (by assumption) (by assumption) ro_nil))
local macro_rules | `(tactic| walk_at "mi_steps") => `(tactic| repeat' ((fail_if_success (with_reducible show wpAny _ _ (exec (Stmt.For _ _ _ _ _) _) _ _ _)); first | ((with_reducible show wpAny _ _ (call (Value.ref _) _ _) _ _ _); walk_at "mi_pc") | ((fail_if_success (with_reducible show wpAny _ _ (call (Value.ref _) _ _) _ _ _)); (fail_if_success (with_reducible show wpAny _ _ (exec (Stmt.Raise _ _ _) _) _ _ _)); first | (k_unfold; (try dsimp only)) | (k_end; kc_close) | walk1 | (dsimp only; walk1) | (leave1; walk_say "STEP leave1"; (try dsimp only)) | fail "no step")))
local macro_rules | `(tactic| walk_at "subscriptTail") => `(tactic| (k_here; (with_reducible show wpAny _ _ (subscriptTail _ _ (Value.ref _) (Value.str _ _)) _ _ _); k_dflt (refine' topItem_K ?F ?X ?l ?k ?e ?_; (case F => k_asm); (case X => k_asm); (case l => first | assumption | k_is); (case k => first | assumption | k_keys); (case e => first | assumption | k_is))))
local macro_rules | `(tactic| walk_at "mi_stepsC") => `(tactic| repeat' ((fail_if_success (with_reducible show wpAny _ _ (exec (Stmt.For _ _ _ _ _) _) _ _ _)); (fail_if_success (with_reducible show wpAny _ _ (exec (Stmt.Assign [_] (Expr.ListComp _ _ _ _) _) _) _ _ _)); (fail_if_success (with_reducible show wpAny _ _ (call (Value.type "zip") _) _ _ _)); (fail_if_success (with_reducible show wpAny _ _ (exec (Stmt.Assign [_] (Expr.DictComp _ _ _ _ _) _) _) _ _ _)); first | ((with_reducible show wpAny _ _ (call (Value.ref _) _ _) _ _ _); walk_at "mi_pc") | ((fail_if_success (with_reducible show wpAny _ _ (call (Value.ref _) _ _) _ _ _)); (fail_if_success (with_reducible show wpAny _ _ (exec (Stmt.Raise _ _ _) _) _ _ _)); first | (k_unfold; (try dsimp only)) | (k_end; kc_close) | walk1 | (dsimp only; walk1) | (leave1; walk_say "STEP leave1"; (try dsimp only)) | fail "no step")))
local macro_rules | `(tactic| walk_at "mi_stepsO") => `(tactic| repeat' ((fail_if_success (with_reducible show wpAny _ _ (exec (Stmt.For _ _ _ _ _) _) _ _ _)); (fail_if_success (with_reducible show wpAny _ _ (exec (Stmt.Assign [_] (Expr.ListComp _ _ _ _) _) _) _ _ _)); (fail_if_success (with_reducible show wpAny _ _ (call (Value.type "zip") _) _ _ _)); (fail_if_success (with_reducible show wpAny _ _ (exec (Stmt.Assign [_] (Expr.DictComp _ _ _ _ _) _) _) _ _ _)); first | ((with_reducible show wpAny _ _ (call (Value.ref _) _ _) _ _ _); walk_at "mi_pc") | ((fail_if_success (with_reducible show wpAny _ _ (call (Value.ref _) _ _) _ _ _)); (fail_if_success (with_reducible show wpAny _ _ (exec (Stmt.Raise _ _ _) _) _ _ _)); first | ((with_reducible show wpAny _ _ (execs _ _) _ _ _); exfalso; omega) | (k_unfold; (try dsimp only)) | (k_end; kc_close) | walk1 | (dsimp only; walk1) | (leave1; walk_say "STEP leave1"; (try dsimp only)) | fail "no step")))
theorem gen_next {a : Addr} {g n : Nat} {gs : GenState} {P : Shared → List Value → Prop} {l : Addr} {vs : List Value} {Q : Option Value → Shared → Prop} (hh : A.handled = none)
    (hl : s.heap.NoLimit) (hroom : A.depth < recursionLimit) (hg : s.heap.IsGen a g) (hgs : s.gens[g]? = some gs) (hgn : gnNext prog w A.in1 P l n gs)
    (hpg : ∀ (s s' : Shared) vs, s.heap = s'.heap → P s vs → P s' vs) (huniq : ∀ s us vs, P s us → P s vs → us = vs) (hP : P s vs) (hv : n = 0 → vs = [])
    (hnil : vs = [] → ∀ h' tk G, Ext [] s.heap h' → GenOnly g s.gens G → G[g]? = some .finished → Q none {s with heap := h', toks := tk, gens := G})
    (hcons : ∀ v us h' tk G k gs', vs = v :: us → Ext [l] s.heap h' → h'.get? l = some (listOf us.toArray k) → GenOnly g s.gens G → G[g]? = some gs' → gs'.bare = true → (∃ m, n = m + 1 ∧ gnNext prog w A.in1 P l m gs') →
      Q (some v) {s with heap := h', toks := tk, gens := G}) : wpAny (model prog w) A (pyNext (.ref a)) Q E s := by
  have hgo := hgn (s.setGen g .running) vs (hpg s _ vs rfl hP) hv
  unfold pyNext
  refine wpAny_bind (wpAny_attempt (wpAny_callSpecial?_slot (name := Str.ofString "__next__") hg.typeIs slot_gen_next
    (wpAny_call_entry slot_gen_next hg.typeIs entry_gen_next ?_ (args_gen_next _))))
  show wpAny _ A.in1 (Builtin.Generator.genWake (.ref a) (.send .none)) _ _ s
  unfold Builtin.Generator.genWake
  refine wpAny_bind (wpAny_holding (wpAny_genNumber hg (wpAny_bind (wpAny_genState hgs ?_))))
  cases gs with
  | running => exact hgo.elim
  | finished => exact hgo.elim
  | _ =>
    refine wpAny_bind (wpAny_roomToWake hl hroom ?_)
    show wpAny _ A.in1 (.resume g (.send .none) [] _) _ _ s
    refine wpAny_resumeQ hgs hgo (fun x s₁ hx => ?_) (fun v s₁ gs' hb hy => ?_)
    · obtain ⟨rfl, hp, tk, rfl⟩ := hx
      have hvs : vs = [] := huniq (s.setGen g .running) _ _ (hpg s _ vs rfl hP) hp
      show wpAny _ A.in1 (newExc (.type "StopIteration") [] >>= _) _ _ _
      refine wpAny_bind ?_
      simp only [newExc, newTuple]
      refine wpAny_bind (wpAny_newObj_type ?_ (by size_fits))
      refine wpAny_bind (m := firstArgMember _ _) (wpAny_of_eq (a := Value.none) (by first | rfl | (simp only [firstArgMember]; rfl)) ?_)
      refine wpAny_newObj_type ?_ (by size_fits)
      simp only [raiseNew]
      refine wpAny_bind (wpAny_bind (wpAny_handled ?_))
      first | rw [show A.in1.handled = none from hh] | rw [hh]
      refine wpAny_throw ?_
      refine wpAny_bind (wpAny_isInstance (T := "StopIteration") (b := true) ⟨_, Heap.get?_push_size _ rfl, rfl⟩ isSubtype_stop ?_)
      refine wpAny_pure (hnil hvs _ _ _ (fun b o _ e => Heap.get?_push_of_some _ (Heap.get?_push_of_some _ e)) ((GenOnly.setGen s g .running).trans (GenOnly.setGen _ g .finished)) (setGen_self (gs := .running) (setGen_self hgs)))
    · obtain ⟨⟨us, h', tk, k, hp, rfl, e, hl'⟩, hk⟩ := hy
      have hvs : vs = v :: us := huniq (s.setGen g .running) _ _ (hpg s _ vs rfl hP) hp
      refine wpAny_pure ⟨v, rfl, wpAny_pure (hcons v us h' tk _ k gs' hvs e hl' ((GenOnly.setGen s g .running).trans (GenOnly.setGen _ g gs')) (setGen_self (gs := .running) (setGen_self hgs)) hb ?_)⟩
      cases n with
      | zero => rw [hv rfl] at hvs; cases hvs
      | succ m => exact ⟨m, rfl, fun s'' vs' hP' hv' => hk s'' ⟨vs', hP', hv'⟩⟩
theorem TokG.uniq {t dt lm L : Addr} {us vs : List Value} (x : TokG base t dt lm L s us) (y : TokG base t dt lm L s vs) : us = vs := by
  obtain ⟨n, hx⟩ := x.list
  obtain ⟨k, hy⟩ := y.list
  rw [hx] at hy
  have := congrArg Obj.data (Option.some.inj hy)
  have h2 : us.toArray = vs.toArray := by injection this
  simpa using h2
theorem ParG.uniq {t dt lm L : Addr} {us vs : List Value} (x : ParG base t dt lm L s us) (y : ParG base t dt lm L s vs) : us = vs := by
  obtain ⟨n, hx⟩ := x.list
  obtain ⟨k, hy⟩ := y.list
  rw [hx] at hy
  have := congrArg Obj.data (Option.some.inj hy)
  have h2 : us.toArray = vs.toArray := by injection this
  simpa using h2
theorem TokG.heap {t dt lm L : Addr} {vs : List Value} (s s' : Shared) (e : s.heap = s'.heap) (h : TokG base t dt lm L s vs) : TokG base t dt lm L s' vs :=
  ⟨e ▸ h.stays, e ▸ h.ns, h.above, h.ne, h.fresh, e ▸ h.obj, e ▸ h.dict, e ▸ h.list, h.len⟩
theorem ParG.heap {t dt lm L : Addr} {vs : List Value} (s s' : Shared) (e : s.heap = s'.heap) (h : ParG base t dt lm L s vs) : ParG base t dt lm L s' vs :=
  ⟨e ▸ h.stays, e ▸ h.ns, h.above, h.ne, h.fresh, e ▸ h.obj, e ▸ h.dict, e ▸ h.list, h.len⟩
end PartDD
theorem restEE {M : Model} {A : Around} {s : Shared} {E : Value → Shared → Prop} {env : Env} {Q : Flow → Shared → Prop} (h : Q .next s) : wpAny M A (execs [] env) Q E s := by
  w_top off
  walk1
  w_top off
  exact h
section PartEE
local macro_rules | `(tactic| k_steps) => `(tactic| repeat' (first | ((with_reducible show wpAny _ _ (call (Value.ref _) _ _) _ _ _); walk_at "mi_pc") | ((fail_if_success (with_reducible show wpAny _ _ (call (Value.ref _) _ _) _ _ _)); (fail_if_success (with_reducible show wpAny _ _ (exec (Stmt.Raise _ _ _) _) _ _ _)); first | (k_unfold; (try dsimp only)) | (k_end; wrow_close) | walk1 | (dsimp only; walk1) | (leave1; walk_say "STEP leave1"; (try dsimp only)) | fail "no step")))
local macro_rules | `(tactic| k_ne) => `(tactic| first | assumption | exact Ne.symm (by assumption))
local macro_rules | `(tactic| walk_at "call builtin:len") => `(tactic| (k_here; (with_reducible show wpAny _ _ (call (Value.builtin "len") [Value.ref _]) _ _ _); refine PyProof.Rows.len_list (News.isList (by k_asm) (by k_mem)) (by (try simp only [Array.size_push, List.size_toArray]); omega) ?_))
local macro_rules | `(tactic| walk_at "mi_ro") => `(tactic| repeat' (first | exact ro_nil | refine ro_keep (by k_mem) ?_ | refine ro_mut (by simp) ?_))
local macro_rules | `(tactic| walk_at "mi_depth") => `(tactic| ((try simp only [PySem.Around.deeper, PySem.Around.in1_depth]); omega))
local macro_rules | `(tactic| walk_at "mi_pure") => `(tactic| exact hQ _ _ (ext_of [] hgk hsz (fo_nil (base := base)) (by assumption) (by assumption) ro_nil))
local macro_rules | `(tactic| walk_at "mi_steps") => `(tactic| repeat' ((fail_if_success (with_reducible show wpAny _ _ (exec (Stmt.For _ _ _ _ _) _) _ _ _)); first | ((with_reducible show wpAny _ _ (call (Value.ref _) _ _) _ _ _); walk_at "mi_pc") | ((fail_if_success (with_reducible show wpAny _ _ (call (Value.ref _) _ _) _ _ _)); (fail_if_success (with_reducible show wpAny _ _ (exec (Stmt.Raise _ _ _) _) _ _ _)); first | (k_unfold; (try dsimp only)) | (k_end; kc_close) | walk1 | (dsimp only; walk1) | (leave1; walk_say "STEP leave1"; (try dsimp only)) | fail "no step")))
local macro_rules | `(tactic| walk_at "subscriptTail") => `(tactic| (k_here; (with_reducible show wpAny _ _ (subscriptTail _ _ (Value.ref _) (Value.str _ _)) _ _ _); k_dflt (refine' topItem_K ?F ?X ?l ?k ?e ?_; (case F => k_asm); (case X => k_asm); (case l => first | assumption | k_is); (case k => first | assumption | k_keys); (case e => first | assumption | k_is))))
local macro_rules | `(tactic| walk_at "mi_stepsC") => `(tactic| repeat' ((fail_if_success (with_reducible show wpAny _ _ (exec (Stmt.For _ _ _ _ _) _) _ _ _)); (fail_if_success (with_reducible show wpAny _ _ (exec (Stmt.Assign [_] (Expr.ListComp _ _ _ _) _) _) _ _ _)); (fail_if_success (with_reducible show wpAny _ _ (call (Value.type "zip") _) _ _ _)); (fail_if_success (with_reducible show wpAny _ _ (exec (Stmt.Assign [_] (Expr.DictComp _ _ _ _ _) _) _) _ _ _)); first | ((with_reducible show wpAny _ _ (call (Value.ref _) _ _) _ _ _); walk_at "mi_pc") | ((fail_if_success (with_reducible show wpAny _ _ (call (Value.ref _) _ _) _ _ _)); (fail_if_success (with_reducible show wpAny _ _ (exec (Stmt.Raise _ _ _) _) _ _ _)); first | (k_unfold; (try dsimp only)) | (k_end; kc_close) | walk1 | (dsimp only; walk1) | (leave1; walk_say "STEP leave1"; (try dsimp only)) | fail "no step")))
local macro_rules | `(tactic| walk_at "mi_stepsO") => `(tactic| repeat' ((fail_if_success (with_reducible show wpAny _ _ (exec (Stmt.For _ _ _ _ _) _) _ _ _)); (fail_if_success (with_reducible show wpAny _ _ (exec (Stmt.Assign [_] (Expr.ListComp _ _ _ _) _) _) _ _ _)); (fail_if_success (with_reducible show wpAny _ _ (call (Value.type "zip") _) _ _ _)); (fail_if_success (with_reducible show wpAny _ _ (exec (Stmt.Assign [_] (Expr.DictComp _ _ _ _ _) _) _) _ _ _)); first | ((with_reducible show wpAny _ _ (call (Value.ref _) _ _) _ _ _); walk_at "mi_pc") | ((fail_if_success (with_reducible show wpAny _ _ (call (Value.ref _) _ _) _ _ _)); (fail_if_success (with_reducible show wpAny _ _ (exec (Stmt.Raise _ _ _) _) _ _ _)); first | ((with_reducible show wpAny _ _ (execs _ _) _ _ _); exfalso; omega) | (k_unfold; (try dsimp only)) | (k_end; kc_close) | walk1 | (dsimp only; walk1) | (leave1; walk_say "STEP leave1"; (try dsimp only)) | fail "no step")))
def RowOk (row : List Int) : Prop := (GoodRow row ∨ ∃ ds, row = 240 :: (ds ++ [247]) ∧ ∀ x ∈ ds, 0 ≤ x ∧ x ≤ 127) ∧ row.length < 700
theorem c_from_ok {R : Result → Shared → Prop} {row : List Int} (G : RowOk row) (bl : Addr) (S : Bas w mean mg mb base) (hs : base.StaysIn s.heap) (hA : A.depth + 30 < recursionLimit) (hh : A.handled = none)
   (hi : IsInts s.heap bl row) (hb0 : base.get? bl = none)
   (hQ : ∀ h' tk x, Ext [] s.heap h' → After s.heap x → (∀ av, (∀ a ∈ av, ∃ o, s.heap.get? a = some o) → MsgAt prog w base av h' x row) → R (.ok (.ret (.ref x))) {s with heap := h', toks := tk}) :
   codeAny (model prog w) A (.call (.ref 418) ⟨[.ref 455, .ref bl], []⟩) R s := by
  obtain ⟨G | ⟨ds, rfl, hds⟩, hl⟩ := G
  · exact c_from_good G bl S hs hA hh hi hb0 hQ
  · exact c_from_sx ds hds (by simp at hl; omega) bl S hs hA hh hi hb0 hQ
theorem MsgAt.more {av av' : List Addr} {h : Heap} {x : Addr} {row : List Int} (M : MsgAt prog w base av h x row) (hn : ∀ b ∈ av', h.get? b = none) : MsgAt prog w base (av' ++ av) h x row := by
  obtain ⟨dx, hf, tf, d, kvs, a1, a2, a3, a4, a5, ⟨x1, x2, x3⟩, a7, a8⟩ := M
  obtain ⟨od, hod, hdk⟩ := Heap.dictOf_iff.mp a3
  have nn : ∀ {b : Addr} {o : Obj}, h.get? b = some o → b ∉ av → b ∉ av' ++ av := fun {b o} e n q => by
    rcases List.mem_append.mp q with q | q
    · rw [hn b q] at e; cases e
    · exact n q
  refine ⟨dx, hf, tf, d, kvs, a1, a2, a3, a4, a5, ⟨nn a1 x1, nn a2 x2, nn hod x3⟩, a7, ?_⟩
  rcases a8 with z | ⟨tt, t0, tp, vd, ds, b1, b2, b3, b4, b5, b6⟩
  · exact .inl z
  · exact .inr ⟨tt, t0, tp, vd, ds, b1, b2, b3, nn b2 b4, b5, b6⟩
theorem MsgAt.less {av av' : List Addr} {h : Heap} {x : Addr} {row : List Int} (M : MsgAt prog w base av h x row) (hn : ∀ b ∈ av', b ∈ av) : MsgAt prog w base av' h x row := by
  obtain ⟨dx, hf, tf, d, kvs, a1, a2, a3, a4, a5, ⟨x1, x2, x3⟩, a7, a8⟩ := M
  refine ⟨dx, hf, tf, d, kvs, a1, a2, a3, a4, a5, ⟨fun q => x1 (hn _ q), fun q => x2 (hn _ q), fun q => x3 (hn _ q)⟩, a7, ?_⟩
  rcases a8 with z | ⟨tt, t0, tp, vd, ds, b1, b2, b3, b4, b5, b6⟩
  · exact .inl z
  · exact .inr ⟨tt, t0, tp, vd, ds, b1, b2, b3, fun q => b4 (hn _ q), b5, b6⟩
/-- the messages of a list -/
inductive MsgsAt (prog : Program) (w : World) (base : Heap) (av : List Addr) (h : Heap) : List Value → List (List Int) → Prop
  | nil : MsgsAt prog w base av h [] []
  | cons {x : Addr} {r : List Int} {vs : List Value} {rs : List (List Int)} : MsgAt prog w base av h x r → MsgsAt prog w base av h vs rs → MsgsAt prog w base av h (.ref x :: vs) (r :: rs)
theorem MsgsAt.keep {av : List Addr} {h h' : Heap} {vs : List Value} {rs : List (List Int)} {mt : List Addr} (M : MsgsAt prog w base av h vs rs) (e : Ext mt h h') (hm : ∀ b ∈ mt, b ∈ av ∨ Foreign h b) : MsgsAt prog w base av h' vs rs := by
  induction M with
  | nil => exact .nil
  | cons a _ ih => exact .cons (a.keep e hm) ih
theorem MsgsAt.more {av av' : List Addr} {h : Heap} {vs : List Value} {rs : List (List Int)} (M : MsgsAt prog w base av h vs rs) (hn : ∀ b ∈ av', h.get? b = none) : MsgsAt prog w base (av' ++ av) h vs rs := by
  induction M with
  | nil => exact .nil
  | cons a _ ih => exact .cons (a.more hn) ih
theorem MsgsAt.less {av av' : List Addr} {h : Heap} {vs : List Value} {rs : List (List Int)} (M : MsgsAt prog w base av h vs rs) (hn : ∀ b ∈ av', b ∈ av) : MsgsAt prog w base av' h vs rs := by
  induction M with
  | nil => exact .nil
  | cons a _ ih => exact .cons (a.less hn) ih
theorem MsgsAt.snoc {av : List Addr} {h : Heap} {vs : List Value} {rs : List (List Int)} {x : Addr} {r : List Int} (M : MsgsAt prog w base av h vs rs) (y : MsgAt prog w base av h x r) : MsgsAt prog w base av h (vs ++ [.ref x]) (rs ++ [r]) := by
  induction M with
  | nil => exact .cons y .nil
  | cons a _ ih => exact .cons a ih
theorem MsgsAt.length {av : List Addr} {h : Heap} {vs : List Value} {rs : List (List Int)} (M : MsgsAt prog w base av h vs rs) : vs.length = rs.length := by
  induction M with
  | nil => rfl
  | cons _ _ ih => simp [ih]
/-- gens grew, and what was there stands -/
structure GExt (a b : Array GenState) : Prop where
  size : a.size ≤ b.size
  old : ∀ i, i < a.size → b[i]? = a[i]?
  bare : AllBare a → AllBare b
theorem GExt.refl (a : Array GenState) : GExt a a := ⟨Nat.le_refl _, fun _ _ => rfl, id⟩
theorem GExt.trans {a b c : Array GenState} (x : GExt a b) (y : GExt b c) : GExt a c :=
  ⟨Nat.le_trans x.size y.size, fun i hi => (y.old i (Nat.lt_of_lt_of_le hi x.size)).trans (x.old i hi), fun h => y.bare (x.bare h)⟩
theorem GExt.push {a : Array GenState} {g : GenState} (hb : g.bare = true) : GExt a (a.push g) := by
  refine ⟨by simp, fun i hi => by rw [Array.getElem?_push_lt hi]; simp [hi], fun h y hy => ?_⟩
  rcases Array.mem_push.mp hy with hy | rfl
  · exact h y hy
  · exact hb
theorem GExt.only {a b c : Array GenState} {g : Nat} {x : GenState} (y : GExt a b) (hg : a.size ≤ g) (o : GenOnly g b c) (hx : c[g]? = some x) (hb : x.bare = true) : GExt a c := by
  refine ⟨by rw [o.1]; exact y.size, fun i hi => (o.2 i (Nat.ne_of_lt (Nat.lt_of_lt_of_le hi hg))).trans (y.old i hi), fun h => ?_⟩
  exact (GenOnlyQ.of o hx hb).bare (y.bare h)
end PartEE
theorem restFF {M : Model} {A : Around} {s : Shared} {E : Value → Shared → Prop} {env : Env} {Q : Flow → Shared → Prop} (h : Q .next s) : wpAny M A (execs [] env) Q E s := by
  w_top off
  walk1
  w_top off
  exact h
section PartFF
local macro_rules | `(tactic| k_steps) => `(tactic| repeat' (first | ((with_reducible show wpAny _ _ (call (Value.ref _) _ _) _ _ _); walk_at "mi_pc") | ((fail_if_success (with_reducible show wpAny _ _ (call (Value.ref _) _ _) _ _ _)); (fail_if_success (with_reducible show wpAny _ _ (exec (Stmt.Raise _ _ _) _) _ _ _)); first | (k_unfold; (try dsimp only)) | (k_end; wrow_close) | walk1 | (dsimp only; walk1) | (leave1; walk_say "STEP leave1"; (try dsimp only)) | fail "no step")))
local macro_rules | `(tactic| k_ne) => `(tactic| first | assumption | exact Ne.symm (by assumption))
local macro_rules | `(tactic| walk_at "call builtin:len") => `(tactic| (k_here; (with_reducible show wpAny _ _ (call (Value.builtin "len") [Value.ref _]) _ _ _); refine PyProof.Rows.len_list (News.isList (by k_asm) (by k_mem)) (by (try simp only [Array.size_push, List.size_toArray]); omega) ?_))
local macro_rules | `(tactic| walk_at "mi_ro") => `(tactic| repeat' (first | exact ro_nil | refine ro_keep (by k_mem) ?_ | refine ro_mut (by simp) ?_))
local macro_rules | `(tactic| walk_at "mi_depth") => `(tactic| ((try simp only [PySem.Around.deeper, PySem.Around.in1_depth]); omega))
local macro_rules | `(tactic| walk_at "mi_pure") => `(tactic| exact hQ _ _ (ext_of [] hgk hsz (fo_nil (base := base)) (by assumption) (by assumption) ro_nil))
local macro_rules | `(tactic| walk_at "mi_steps") => `(tactic| repeat' ((fail_if_success (with_reducible show wpAny _ _ (exec (Stmt.For _ _ _ _ _) _) _ _ _)); first | ((with_reducible show wpAny _ _ (call (Value.ref _) _ _) _ _ _); walk_at "mi_pc") | ((fail_if_success (with_reducible show wpAny _ _ (call (Value.ref _) _ _) _ _ _)); (fail_if_success (with_reducible show wpAny _ _ (exec (Stmt.Raise _ _ _) _) _ _ _)); first | (k_unfold; (try dsimp only)) | (k_end; kc_close) | walk1 | (dsimp only; walk1) | (leave1; walk_say "STEP leave1"; (try dsimp only)) | fail "no step")))
local macro_rules | `(tactic| walk_at "subscriptTail") => `(tactic| (k_here; (with_reducible show wpAny _ _ (subscriptTail _ _ (Value.ref _) (Value.str _ _)) _ _ _); k_dflt (refine' topItem_K ?F ?X ?l ?k ?e ?_; (case F => k_asm); (case X => k_asm); (case l => first | assumption | k_is); (case k => first | assumption | k_keys); (case e => first | assumption | k_is))))
local macro_rules | `(tactic| walk_at "mi_stepsC") => `(tactic| repeat' ((fail_if_success (with_reducible show wpAny _ _ (exec (Stmt.For _ _ _ _ _) _) _ _ _)); (fail_if_success (with_reducible show wpAny _ _ (exec (Stmt.Assign [_] (Expr.ListComp _ _ _ _) _) _) _ _ _)); (fail_if_success (with_reducible show wpAny _ _ (call (Value.type "zip") _) _ _ _)); (fail_if_success (with_reducible show wpAny _ _ (exec (Stmt.Assign [_] (Expr.DictComp _ _ _ _ _) _) _) _ _ _)); first | ((with_reducible show wpAny _ _ (call (Value.ref _) _ _) _ _ _); walk_at "mi_pc") | ((fail_if_success (with_reducible show wpAny _ _ (call (Value.ref _) _ _) _ _ _)); (fail_if_success (with_reducible show wpAny _ _ (exec (Stmt.Raise _ _ _) _) _ _ _)); first | (k_unfold; (try dsimp only)) | (k_end; kc_close) | walk1 | (dsimp only; walk1) | (leave1; walk_say "STEP leave1"; (try dsimp only)) | fail "no step")))
local macro_rules | `(tactic| walk_at "mi_stepsO") => `(tactic| repeat' ((fail_if_success (with_reducible show wpAny _ _ (exec (Stmt.For _ _ _ _ _) _) _ _ _)); (fail_if_success (with_reducible show wpAny _ _ (exec (Stmt.Assign [_] (Expr.ListComp _ _ _ _) _) _) _ _ _)); (fail_if_success (with_reducible show wpAny _ _ (call (Value.type "zip") _) _ _ _)); (fail_if_success (with_reducible show wpAny _ _ (exec (Stmt.Assign [_] (Expr.DictComp _ _ _ _ _) _) _) _ _ _)); first | ((with_reducible show wpAny _ _ (call (Value.ref _) _ _) _ _ _); walk_at "mi_pc") | ((fail_if_success (with_reducible show wpAny _ _ (call (Value.ref _) _ _) _ _ _)); (fail_if_success (with_reducible show wpAny _ _ (exec (Stmt.Raise _ _ _) _) _ _ _)); first | ((with_reducible show wpAny _ _ (execs _ _) _ _ _); exfalso; omega) | (k_unfold; (try dsimp only)) | (k_end; kc_close) | walk1 | (dsimp only; walk1) | (leave1; walk_say "STEP leave1"; (try dsimp only)) | fail "no step")))
theorem app0 {l : Addr} {x : Value} {vs : List Value} {n : Nat} (hl : s.heap.get? l = some (listOf vs.toArray n)) (hz : vs.length < 16000)
    (h : ∀ h', h'.get? l = some (listOf (vs ++ [x]).toArray (n + 1)) → Ext [l] s.heap h' → Q .none {s with heap := h'}) : wpAny (model prog w) A (call (.builtin "list.append") [.ref l, x]) Q E s := by
  refine call_meets PySem.F.slot_list_append ⟨_, hl, rfl⟩ PySem.F.entry_list_append (PySem.F.args_list_append_2 _ _) (PySem.AutoListH.list_append_list_val_0 l _ n x (by rw [List.size_toArray, sizeLine_eq]; omega)) ⟨hl, h _ ?_ (ext_same (Heap.SameBut.update ..))⟩
  have q := PySem.IsL.update hl (fun xs : Array Value => xs.push x)
  rw [if_neg (by simp)] at q
  simpa using q
local macro_rules | `(tactic| walk_at "mi_stepsP") => `(tactic| repeat' ((fail_if_success (with_reducible show wpAny _ _ (call (Value.builtin "list.append") _) _ _ _)); first | (k_unfold; (try dsimp only)) | (k_end; kc_close) | walk1 | (dsimp only; walk1) | (leave1; walk_say "STEP leave1"; (try dsimp only)) | fail "no step"))
theorem rows_old {h : Heap} {vs : List Value} {ms : List (List Int)} (x : RowsAt h vs ms) {b : Addr} (hb : Value.ref b ∈ vs) : ∃ o, h.get? b = some o := x.old b hb
theorem forLoopA {R : Result → Shared → Prop} {target it body orelse env} (J : Around → Nat → Shared → Prop)
    (turn : ∀ n s, J A n s → wpAny (model prog w) A (pyNext it) (fun r s₁ => match r with
      | none => wpAny (model prog w) A (execs orelse env) (fun f s₃ => R (.ok f) s₃) (notedBy (model prog w) A env fun e s' => R (.error e) s') s₁
      | some v => wpAny (model prog w) A (assign target env v) (fun _ s₂ => wpAny (model prog w) A (execs body env) (fun f s₃ => match f with
          | .next | .cont => Shut (∃ m, m < n ∧ J A m s₃)
          | .brk => R (.ok .next) s₃
          | .ret v => R (.ok (.ret v)) s₃) (notedBy (model prog w) A env fun e s' => R (.error e) s') s₂) (notedBy (model prog w) A env fun e s' => R (.error e) s') s₁) (notedBy (model prog w) A env fun e s' => R (.error e) s') s)
    (n : Nat) (h : J A n s) (ht : ∀ v, letOwnedTupleGo target it v = pure () := by intro _; rfl) : codeAny (model prog w) A (.forLoop target it body orelse env) R s :=
by
  refine codeAny_forLoop (J A) (fun n s h => wpAny_mono (turn n s h) (fun r s₁ h₁ => ?_) fun _ _ e => e) n h ht
  cases r with
  | none => exact h₁
  | some v =>
    refine wpAny_mono h₁ (fun _ s₂ h₂ => wpAny_mono h₂ (fun f s₃ h₃ => ?_) fun _ _ e => e) fun _ _ e => e
    cases f with
    | next => exact (match h₃ with | .mk z => z)
    | cont => exact (match h₃ with | .mk z => z)
    | brk => exact h₃
    | ret v => exact h₃
theorem cm_E {K : Frag} {C L : Addr} {h₀ : Heap} {m : Str → Option Value} {news : List (Addr × Obj)} {name : Str} {mc : Value} {p : Addr} {f : Value} {rest : List Value} {expr : Bool} (F : Fr h₀ L s.heap m) (X₀ : K.In h₀) (N : News h₀ L s.heap news) (hm : typeIn K (.ref C) = some mc) (hr : readsIn K C mc = true)
    (e : findCls K (.ref C) mc name = some (.get (.builtin "classmethod.__get__") (.ref p) .none (.ref C))) (hp : recIn K p "classmethod" = some (f :: rest))
    (h : ∀ q h', Fr h₀ L h' m → News h₀ L h' ((q, methodObj f (.ref C)) :: news) → (∀ p ∈ news, p.1 < q) → Ext [] s.heap h' → Q (.ref q) { s with heap := h', toks := s.toks + 1 }) : wpAny (model prog w) A (getAttr (.ref C) name expr) Q E s :=
  let _ := hm
  cls_bind (X₀.keeps F.keep) hr e (wpAny_call (cm_get (s := { s with toks := s.toks + 1 }) (X₀.keeps F.keep) hp (handed_on rfl (h s.heap.objs.size _ (F.push _) (N.push F _) (fun p hp => Heap.lt_size (N p hp).1) (ext_push _ _)))))
local macro_rules | `(tactic| walk_at "getAttr ref") => `(tactic| (k_here; (with_reducible show wpAny _ _ (getAttr (Value.ref 455) _ _) _ _ _); k_dflt (refine' cm_E ?k1 ?k2 ?k3 ?k4 ?k5 ?k6 ?k7 ?_; (case k1 => k_asm); (case k2 => k_asm); (case k3 => k_asm); (case k4 => k_is); (case k5 => k_is); (case k6 => k_is); (case k7 => k_is); intro q' h' F' N' l1 eE)))
theorem c_dec (p dp pm t dt lb lm : Addr) (q1 q2 : Int) (k1 k2 : Tok) (xs : List Value) (n0 : Nat) (rs : List (List Int)) (T : TS) (S : Bas w mean mg mb base) (hs : base.StaysIn s.heap) (hA : A.depth + 50 < recursionLimit) (hh : A.handled = none) (hbz : base.objs.size ≤ s.heap.objs.size)
   (hp : s.heap.get? p = some (instObj 588 dp)) (hdp : s.heap.get? dp = some (parD q1 q2 k1 k2 (.ref pm) (.ref t))) (hpm : s.heap.get? pm = some (listOf xs.toArray n0))
   (hnd : [p, dp, pm, t, dt, lm, lb].Nodup) (hfr : base.get? p = none ∧ base.get? dp = none ∧ base.get? pm = none)
   (x : TokAt base s.heap t dt lb lm T) (hrp : ∀ vm nm, s.heap.get? lm = some (listOf vm nm) → ∀ b, Value.ref b ∈ vm.toList → b ≠ pm) (hok : ∀ r ∈ T.ms, RowOk r) (hms : MsgsAt prog w base [p, dp, pm, t, dt, lm] s.heap xs rs) (hlen : xs.length + T.ms.length < 900)
   (hQ : ∀ h' tk G xs' n', Ext [pm, lm] s.heap h' → GExt s.gens G → h'.get? pm = some (listOf (xs ++ xs').toArray n') → MsgsAt prog w base [p, dp, pm, t, dt, lm] h' (xs ++ xs') (rs ++ T.ms) → TokAt base h' t dt lb lm {T with ms := []} → Q .none {s with heap := h', toks := tk, gens := G}) :
   wpAny (model prog w) A (call (.ref 543) [.ref p]) Q E s := by
  obtain ⟨a, ⟨b1, b2, b3, b4, b5, b6, b7, b8, b9, b10, dlv, tst, lnv, bd, bl⟩, ⟨vb, nb, c1, c2⟩, ⟨⟨vl⟩, nm, d1, d2, d3⟩, ⟨n1, n2, n3, n4, n5, n6⟩, f1, f2, f3, f4⟩ := id x
  simp only [List.nodup_cons, List.mem_cons, List.not_mem_nil, or_false, not_or, not_false_eq_true, List.nodup_nil, and_true] at hnd
  obtain ⟨⟨m1, m2, m3, m4, m5, m6⟩, ⟨m7, m8, m9, m10, m11⟩, ⟨m12, m13, m14, m15⟩, ⟨m16, m17, m18⟩, ⟨m19, m20⟩, m21⟩ := hnd
  have hfo := fo_cons hp hfr.1 (fo_cons hdp hfr.2.1 (fo_cons hpm hfr.2.2 (fo_cons a f1 (fo_cons bd f2 (fo_cons d1 f4 (fo_nil (h := s.heap) (base := base)))))))
  refine enterM (binds := [(Str.ofString "self", .ref p)]) _ S hs hfo (by k_is) (by k_is) (by omega) (.of_eq rfl) (locs rfl) ?_
  intro g L' h₁ hg F N X TT hgk hsz hL hgs
  walk1
  walk1
  refine wpAny_For ?_
  k_steps
  refine owit_iter F X (by k_inst) (by k_is) (by k_is) ?_
  refine c_iterT t dt lm S (fun b o q => F.keep b o (hg b o q)) (by walk_at "mi_depth") (Nat.le_trans hbz (Nat.le_of_lt (hL ▸ F.ns.lt))) fun h6 tk6 Lg a6 gs e6 aL aa ig hns hbl hbare hgn => ?_
  refine wpAny_specialOf (s := {s with heap := h6, toks := tk6, gens := s.gens.push gs}) ig.typeIs slot_gen_next.lookup ?_
  dsimp only
  have vlen : vl.length = T.ms.length := d2.length
  have F6 := frExt F e6 (fun h => nomatch h) (fun _ h => nomatch h)
  have N6 := nwExt N e6 (fun _ _ h => nomatch h)
  have gpm := N.fresh (.tail _ (.tail _ (.head _)))
  have glm := N.fresh (.tail _ (.tail _ (.tail _ (.tail _ (.tail _ (.head _))))))
  have Lpm : L' ≠ pm := Ne.symm (N _ (.tail _ (.tail _ (.head _)))).2.1
  have Llm : L' ≠ lm := Ne.symm (N _ (.tail _ (.tail _ (.tail _ (.tail _ (.tail _ (.head _))))))).2.1
  have k0 : Ext [] s.heap h₁ := ext_of [] hgk hsz hfo F N (by walk_at "mi_ro")
  have aL0 : After s.heap Lg := aL.back k0 (fun h => nomatch h)
  have LgL : Lg ≠ L' := goneL F aL
  have a6L : a6 ≠ L' := goneL F aa
  have Lgp : Lg ≠ pm := aL.ne (N.get (.tail _ (.tail _ (.head _))))
  have Lgm : Lg ≠ lm := aL.ne (N.get (.tail _ (.tail _ (.tail _ (.tail _ (.tail _ (.head _)))))))
  have a6p : a6 ≠ pm := aa.ne (N.get (.tail _ (.tail _ (.head _))))
  have a6m : a6 ≠ lm := aa.ne (N.get (.tail _ (.tail _ (.tail _ (.tail _ (.tail _ (.head _)))))))
  have hLs : s.heap.get? L' = none := by
    cases q : s.heap.get? L' with
    | none => rfl
    | some ob => exact absurd (hL ▸ Heap.lt_size q) (Nat.lt_irrefl _)
  have hms1 : MsgsAt prog w base ([L'] ++ [p, dp, pm, t, dt, lm]) s.heap xs rs := hms.more (by simpa using hLs)
  have hms6 := (hms1.keep k0 (fun _ h => nomatch h)).keep e6 (fun _ h => nomatch h)
  obtain ⟨J, hJ⟩ : ∃ J : Around → Nat → Shared → Prop, ∀ AA n s', J AA n s' ↔ (∃ i h' tk G u xi ni mi gsi, s' = {s with heap := h', toks := tk, gens := G} ∧ i ≤ T.ms.length ∧ n = T.ms.length - i ∧
     Fr g L' h' (fun y => if y = Str.ofString "midi_bytes" then u else List.lookup y [(Str.ofString "self", Value.ref p)].reverse) ∧
     News g L' h' [(lm, listOf (vl.drop i).toArray mi), (pm, listOf (xs ++ xi).toArray ni), (p, instObj 588 dp), (dp, parD q1 q2 k1 k2 (.ref pm) (.ref t)), (t, instObj 517 dt), (dt, tokD b1 b2 b3 b4 b5 b6 b7 b8 b9 b10 (.int T.st tst) (.ref lb) (.ref lm) dlv lnv)] ∧
     RowsAt h' (vl.drop i) (T.ms.drop i) ∧ MsgsAt prog w base ([L'] ++ [p, dp, pm, t, dt, lm]) h' (xs ++ xi) (rs ++ T.ms.take i) ∧ h'.IsGen a6 s.gens.size ∧ G[s.gens.size]? = some gsi ∧
     gnNext prog w AA.in1 (TokG base t dt lm Lg) lm (T.ms.length - i) gsi ∧ (∃ m, h'.Ns Lg m ∧ m (Str.ofString "self") = some (.ref t)) ∧ Ext [pm, lm, L'] s.heap h' ∧ GExt s.gens G) := ⟨_, fun _ _ _ => Iff.rfl⟩
  refine forLoopA J ?_ (T.ms.length - 0) ?_
  · intro n s' h
    obtain ⟨i, h', tk, G, u, xi, ni, mi, gsi, rfl, hi, rfl, F4, N4, R4, M4, ig4, hgs4, hgn4, ns4, e4, ge4⟩ := (hJ _ _ _).mp h
    clear h
    have hb4 : base.StaysIn h' := fun b o q => F4.keep b o (hg b o q)
    have hPt : TokG base t dt lm Lg {s with heap := h', toks := tk, gens := G} (vl.drop i) :=
      ⟨hb4, ns4, hbl, ⟨Ne.symm (aL0.ne a), Ne.symm (aL0.ne bd), Ne.symm (aL0.ne d1)⟩, ⟨f1, f2, f4⟩, N4.get (by simp), ⟨b1, b2, b3, b4, b5, b6, b7, b8, b9, b10, _, _, _, _, N4.get (.tail _ (.tail _ (.tail _ (.tail _ (.tail _ (.head _))))))⟩, ⟨mi, N4.get (.head _)⟩, by rw [List.length_drop]; omega⟩
    refine gen_next (P := TokG base t dt lm Lg) (vs := vl.drop i) hh (S.T.nolimit.keeps hb4) (by walk_at "mi_depth") ig4 hgs4 hgn4 (fun s s' vs e h => h.heap s s' e) (fun s us vs h1 h2 => h1.uniq h2) hPt (fun h => by rw [List.drop_eq_nil_of_le]; omega) ?_ ?_
    · intro hnil h2 tk2 G2 e2 o2 hg2
      have hie : i = T.ms.length := by
        have := congrArg List.length hnil
        rw [List.length_drop, List.length_nil] at this
        omega
      have F8 := frExt F4 e2 (fun h => nomatch h) (fun _ h => nomatch h)
      have N8 := nwExt N4 e2 (fun _ _ h => nomatch h)
      have ge8 := ge4.only (Nat.le_refl _) o2 hg2 rfl
      have e8 : Ext [pm, lm] s.heap h2 := ((e4.mono (m' := [pm, lm]) (fun b hb => by
        simp only [List.mem_cons, List.not_mem_nil, or_false] at hb ⊢
        rcases hb with rfl | rfl | rfl
        · exact .inl (.inl rfl)
        · exact .inl (.inr rfl)
        · exact .inr hLs))).trans e2.nil
      have M8 := (M4.keep e2 (fun _ h => nomatch h)).less (av' := [p, dp, pm, t, dt, lm]) (fun b hb => List.mem_append_right _ hb)
      rw [hie, List.take_length] at M8
      rw [hnil] at N8
      clear F N F6 N6 F4 N4 gpm glm
      k_steps
      rename Fr g L' _ _ => F9
      rename News g L' _ _ => N9
      exact hQ _ _ G2 xi ni e8 ge8 (N9.get (.tail _ (.head _))) M8 ⟨N9.get (.tail _ (.tail _ (.tail _ (.tail _ (.head _))))), ⟨b1, b2, b3, b4, b5, b6, b7, b8, b9, b10, dlv, tst, lnv, N9.get (.tail _ (.tail _ (.tail _ (.tail _ (.tail _ (.head _)))))), bl⟩, ⟨vb, nb, e8.keep (by simp [Ne.symm m15, Ne.symm m21]) c1, c2⟩, ⟨#[], mi, N9.get (.head _), .nil, fun _ h => nomatch h⟩, ⟨n1, n2, n3, n4, n5, n6⟩, f1, f2, f3, f4⟩
    · intro v us h2 tk2 G2 k gs2 hvs e2 hl2 o2 hg2 hb2 hgn2
      obtain ⟨mm, hmm, hgn3⟩ := hgn2
      have hus : us = vl.drop (i + 1) := by
        have := congrArg List.tail hvs
        rw [List.tail_drop] at this
        exact this.symm
      have hvm : v ∈ vl := List.mem_of_mem_drop (hvs ▸ List.Mem.head _ : v ∈ vl.drop i)
      have hi1 : i < T.ms.length := by
        rw [← vlen]
        rcases Nat.lt_or_ge i vl.length with z | z
        · exact z
        · rw [List.drop_eq_nil_of_le z] at hvs; cases hvs
      rw [hvs] at R4
      generalize hrr : T.ms.drop i = rr at R4
      obtain ⟨ra, row, rest, rfl, rfl, irow, rrest⟩ : ∃ ra row rest, v = .ref ra ∧ rr = row :: rest ∧ IsInts h' ra row ∧ RowsAt h' us rest := by
        cases R4 with
        | cons i1 r1 => exact ⟨_, _, _, rfl, rfl, i1, r1⟩
      have hrest : rest = T.ms.drop (i + 1) := by
        have := congrArg List.tail hrr
        rw [List.tail_drop] at this
        exact this.symm
      have hrow : T.ms[i]? = some row := by
        have h0 : (T.ms.drop i)[0]? = some row := by rw [hrr]; rfl
        rwa [List.getElem?_drop, Nat.add_zero] at h0
      have htake : T.ms.take (i + 1) = T.ms.take i ++ [row] := by rw [List.take_add_one, hrow]; rfl
      obtain ⟨z1, z2, ⟨z3, zb⟩, z4⟩ := d3 ra hvm
      obtain ⟨ora, hora⟩ := d2.old ra hvm
      have raL : ra ≠ L' := fun q => by rw [q, hLs] at hora; cases hora
      have usL : ∀ b, Value.ref b ∈ us → b ≠ lm ∧ b ≠ L' ∧ b ≠ pm := fun b hb => by
        have hb' : Value.ref b ∈ vl := by rw [hus] at hb; exact List.mem_of_mem_drop hb
        obtain ⟨_, _, ⟨y3, _⟩, _⟩ := d3 b hb'
        obtain ⟨ob, hob⟩ := d2.old b hb'
        exact ⟨y3, (fun q => by rw [q, hLs] at hob; cases hob), hrp _ _ d1 b hb'⟩
      have rapm : ra ≠ pm := hrp _ _ d1 ra hvm
      have F5 := frExt F4 e2 (by simpa using Llm) (by simpa using glm)
      have N5 : News g L' h2 [(lm, listOf (vl.drop (i + 1)).toArray k), (pm, listOf (xs ++ xi).toArray ni), (p, instObj 588 dp), (dp, parD q1 q2 k1 k2 (.ref pm) (.ref t)), (t, instObj 517 dt), (dt, tokD b1 b2 b3 b4 b5 b6 b7 b8 b9 b10 (.int T.st tst) (.ref lb) (.ref lm) dlv lnv)] :=
        nwCons (hus ▸ hl2) (Ne.symm Llm) glm (nwExt (News.tail' N4) e2 (allCons (by simpa using m14) (allCons (by simpa using m5) (allCons (by simpa using m10) (allCons (by simpa using m17) (allCons (by simpa using m19) allNil))))))
      have M5 := M4.keep e2 (by intro b hb; simp only [List.mem_cons, List.not_mem_nil, or_false] at hb; subst hb; exact .inl (by simp))
      refine wpAny_assign_Name (stE F5 fun h3 F6 e3 => ?_)
      have F7 := frMap F6 map_twice
      have N7 := nwExt N5 e3 (fun p hp => by simpa using (N5 p hp).2.1)
      have M7 := M5.keep e3 (by intro b hb; simp only [List.mem_cons, List.not_mem_nil, or_false] at hb; subst hb; exact .inl (by simp))
      have R7 : RowsAt h3 us rest := (rrest.keep e2 (fun b hb => by simpa using (usL b hb).1)).keep e3 (fun b hb => by simpa using (usL b hb).2.1)
      have I7 : IsInts h3 ra row := (irow.keep e2 (by simpa using z3)).keep e3 (by simpa using raL)
      have ig7 : h3.IsGen a6 s.gens.size := (ig4.extBut (fun b o hb e => e2 b o (by simpa using hb) e) a6m).extBut (fun b o hb e => e3 b o (by simpa using hb) e) a6L
      have ns7 : ∃ m, h3.Ns Lg m ∧ m (Str.ofString "self") = some (.ref t) := by
        obtain ⟨m, hm1, hm2⟩ := ns4
        exact ⟨m, (hm1.at fun o e => e2 _ o (by simpa using Lgm) e).at fun o e => e3 _ o (by simpa using LgL) e, hm2⟩
      have e7 : Ext [pm, lm, L'] s.heap h3 := (e4.trans (e2.mono (m' := [pm, lm, L']) (fun b hb => .inl (by simp only [List.mem_cons, List.not_mem_nil, or_false] at hb ⊢; exact .inr (.inl hb))))).trans (e3.mono (m' := [pm, lm, L']) (fun b hb => .inl (by simp only [List.mem_cons, List.not_mem_nil, or_false] at hb ⊢; exact .inr (.inr hb))))
      have ge7 := ge4.only (Nat.le_refl _) o2 hg2 hb2
      clear F N F6 N6 F4 N4 F5 N5
      walk_at "mi_stepsP"
      rename Fr g L' _ _ => F8
      rename News g L' _ _ => N8
      rename Ext [] _ _ => e8
      have e8' : Ext [] h3 _ := e8
      refine call_meth N8 (.head _) ?_
      refine c_from_ok (hok row (List.mem_of_getElem? hrow)) ra S (fun b o q => F8.keep b o (hg b o q)) (by walk_at "mi_depth") hh (I7.keep e8' (fun h => nomatch h)) zb fun h9 tk9 x9 e9 a9 m9 => ?_
      have F9 := frExt F8 e9 (fun h => nomatch h) (fun _ h => nomatch h)
      have N9 := nwExt N8 e9 (fun _ _ h => nomatch h)
      have m9' := m9 ([L'] ++ [p, dp, pm, t, dt, lm]) (by
        intro b hb
        simp only [List.cons_append, List.nil_append, List.mem_cons, List.not_mem_nil, or_false] at hb
        rcases hb with rfl | rfl | rfl | rfl | rfl | rfl | rfl
        · obtain ⟨oL, _, _, hLo, _⟩ := F8.ns
          exact ⟨_, hLo⟩
        · exact ⟨_, N8.get (.tail _ (.tail _ (.tail _ (.head _))))⟩
        · exact ⟨_, N8.get (.tail _ (.tail _ (.tail _ (.tail _ (.head _)))))⟩
        · exact ⟨_, N8.get (.tail _ (.tail _ (.head _)))⟩
        · exact ⟨_, N8.get (.tail _ (.tail _ (.tail _ (.tail _ (.tail _ (.head _))))))⟩
        · exact ⟨_, N8.get (.tail _ (.tail _ (.tail _ (.tail _ (.tail _ (.tail _ (.head _)))))))⟩
        · exact ⟨_, N8.get (.tail _ (.head _))⟩)
      have M9 := ((M7.keep e8' (fun _ h => nomatch h)).keep e9 (fun _ h => nomatch h)).snoc m9'
      have R9 := (R7.keep e8' (fun _ _ h => nomatch h)).keep e9 (fun _ _ h => nomatch h)
      have e89 : Ext [] h3 h9 := e8'.trans e9
      have ig9 := ig7.keeps (fun b o e => e89.none e)
      have ns9 : ∃ m, h9.Ns Lg m ∧ m (Str.ofString "self") = some (.ref t) := by
        obtain ⟨m, hm1, hm2⟩ := ns7
        exact ⟨m, hm1.at fun o e => e89.none e, hm2⟩
      have e99 : Ext [pm, lm, L'] s.heap h9 := e7.trans e89.nil
      have N9' := News.tail' N9
      clear F8 N8 F7 N7 N9
      walk_at "mi_stepsP"
      rename Fr g L' _ _ => F10
      rename News g L' _ _ => N10
      have xil : xi.length = i := by
        have := M4.length
        rw [List.length_append, List.length_append, List.length_take] at this
        have h0 := hms.length
        omega
      refine app0 (vs := xs ++ xi) (N10.get (.tail _ (.head _))) (by rw [List.length_append]; omega) fun h11 hl11 e11 => ?_
      have e11' : Ext [pm] h9 h11 := e11
      have F11 := frExt F10 e11 (by simpa using Lpm) (by simpa using gpm)
      have N11 : News g L' h11 [(lm, listOf (vl.drop (i + 1)).toArray k), (pm, listOf (xs ++ (xi ++ [Value.ref x9])).toArray (ni + 1)), (p, instObj 588 dp), (dp, parD q1 q2 k1 k2 (.ref pm) (.ref t)), (t, instObj 517 dt), (dt, tokD b1 b2 b3 b4 b5 b6 b7 b8 b9 b10 (.int T.st tst) (.ref lb) (.ref lm) dlv lnv)] := by
        have z := nwExt (News.tail' (News.tail' N10)) e11' (allCons (by simpa using m2) (allCons (by simpa using m7) (allCons (by simpa using Ne.symm m12) (allCons (by simpa using Ne.symm m13) allNil))))
        have zl := nwExt (allCons (N10 _ (.head _)) allNil : News g L' h9 [(lm, listOf (vl.drop (i + 1)).toArray k)]) e11' (allCons (by simpa using Ne.symm m14) allNil)
        exact allCons (zl _ (.head _)) (nwCons (List.append_assoc xs xi _ ▸ hl11) (Ne.symm Lpm) gpm z)
      clear F10 N10
      k_steps
      refine .mk ⟨T.ms.length - (i + 1), by omega, (hJ _ _ _).mpr ⟨i + 1, _, _, G2, _, xi ++ [Value.ref x9], ni + 1, k, gs2, rfl, hi1, rfl, by assumption, by assumption, ?_, ?_, ?_, hg2, ?_, ?_, ?_, ge7⟩⟩
      · rw [← hus, ← hrest]; exact R9.keep e11' (fun b hb => by simpa using (usL b hb).2.2)
      · rw [htake, ← List.append_assoc, ← List.append_assoc]
        exact M9.keep e11' (by intro b hb; simp only [List.mem_cons, List.not_mem_nil, or_false] at hb; subst hb; exact .inl (by simp))
      · exact ig9.extBut (fun b o hb e => e11' b o (by simpa using hb) e) a6p
      · have : T.ms.length - (i + 1) = mm := by omega
        rw [this]; exact hgn3
      · obtain ⟨m, hm1, hm2⟩ := ns9
        exact ⟨m, hm1.at fun o e => e11' _ o (by simpa using Lgp) e, hm2⟩
      · exact e99.trans (e11'.mono (m' := [pm, lm, L']) (fun b hb => .inl (by simp only [List.mem_cons, List.not_mem_nil, or_false] at hb ⊢; exact .inl hb)))
  · refine (hJ _ _ _).mpr ⟨0, h6, tk6, s.gens.push gs, none, [], n0, nm, gs, rfl, Nat.zero_le _, rfl, frMap F6 fun y => ?_, ?_, d2.keep k0 (fun _ _ h => nomatch h) |>.keep e6 (fun _ _ h => nomatch h), ?_, ig, by simp, hgn _ _, hns, (k0.trans e6).nil, GExt.push hbare⟩
    · by_cases hy : y = Str.ofString "midi_bytes"
      · subst hy; rfl
      · simp only [if_neg hy]
    · rw [List.append_nil]
      exact allCons (N6 _ (.tail _ (.tail _ (.tail _ (.tail _ (.tail _ (.head _))))))) (allCons (N6 _ (.tail _ (.tail _ (.head _)))) (allCons (N6 _ (.head _)) (allCons (N6 _ (.tail _ (.head _))) (allCons (N6 _ (.tail _ (.tail _ (.tail _ (.head _))))) (allCons (N6 _ (.tail _ (.tail _ (.tail _ (.tail _ (.head _)))))) allNil)))))
    · simpa using hms6
end PartFF
theorem restGG {M : Model} {A : Around} {s : Shared} {E : Value → Shared → Prop} {env : Env} {Q : Flow → Shared → Prop} (h : Q .next s) : wpAny M A (execs [] env) Q E s := by
  w_top off
  walk1
  w_top off
  exact h
section PartGG
local macro_rules | `(tactic| k_steps) => `(tactic| repeat' (first | ((with_reducible show wpAny _ _ (call (Value.ref _) _ _) _ _ _); walk_at "mi_pc") | ((fail_if_success (with_reducible show wpAny _ _ (call (Value.ref _) _ _) _ _ _)); (fail_if_success (with_reducible show wpAny _ _ (exec (Stmt.Raise _ _ _) _) _ _ _)); first | (k_unfold; (try dsimp only)) | (k_end; wrow_close) | walk1 | (dsimp only; walk1) | (leave1; walk_say "STEP leave1"; (try dsimp only)) | fail "no step")))
local macro_rules | `(tactic| k_ne) => `(tactic| first | assumption | exact Ne.symm (by assumption))
local macro_rules | `(tactic| walk_at "call builtin:len") => `(tactic| (k_here; (with_reducible show wpAny _ _ (call (Value.builtin "len") [Value.ref _]) _ _ _); refine PyProof.Rows.len_list (News.isList (by k_asm) (by k_mem)) (by (try simp only [Array.size_push, List.size_toArray]); omega) ?_))
local macro_rules | `(tactic| walk_at "mi_ro") => `(tactic| repeat' (first | exact ro_nil | refine ro_keep (by k_mem) ?_ | refine ro_mut (by simp) ?_))
local macro_rules | `(tactic| walk_at "mi_depth") => `(tactic| ((try simp only [PySem.Around.deeper, PySem.Around.in1_depth]); omega))
local macro_rules | `(tactic| walk_at "mi_pure") => `(tactic| exact hQ _ _ (ext_of [] hgk hsz (fo_nil (base := base)) (by assumption) (by assumption) ro_nil))
local macro_rules | `(tactic| walk_at "mi_steps") => `(tactic| repeat' ((fail_if_success (with_reducible show wpAny _ _ (exec (Stmt.For _ _ _ _ _) _) _ _ _)); first | ((with_reducible show wpAny _ _ (call (Value.ref _) _ _) _ _ _); walk_at "mi_pc") | ((fail_if_success (with_reducible show wpAny _ _ (call (Value.ref _) _ _) _ _ _)); (fail_if_success (with_reducible show wpAny _ _ (exec (Stmt.Raise _ _ _) _) _ _ _)); first | (k_unfold; (try dsimp only)) | (k_end; kc_close) | walk1 | (dsimp only; walk1) | (leave1; walk_say "STEP leave1"; (try dsimp only)) | fail "no step")))
local macro_rules | `(tactic| walk_at "subscriptTail") => `(tactic| (k_here; (with_reducible show wpAny _ _ (subscriptTail _ _ (Value.ref _) (Value.str _ _)) _ _ _); k_dflt (refine' topItem_K ?F ?X ?l ?k ?e ?_; (case F => k_asm); (case X => k_asm); (case l => first | assumption | k_is); (case k => first | assumption | k_keys); (case e => first | assumption | k_is))))
local macro_rules | `(tactic| walk_at "mi_stepsC") => `(tactic| repeat' ((fail_if_success (with_reducible show wpAny _ _ (exec (Stmt.For _ _ _ _ _) _) _ _ _)); (fail_if_success (with_reducible show wpAny _ _ (exec (Stmt.Assign [_] (Expr.ListComp _ _ _ _) _) _) _ _ _)); (fail_if_success (with_reducible show wpAny _ _ (call (Value.type "zip") _) _ _ _)); (fail_if_success (with_reducible show wpAny _ _ (exec (Stmt.Assign [_] (Expr.DictComp _ _ _ _ _) _) _) _ _ _)); first | ((with_reducible show wpAny _ _ (call (Value.ref _) _ _) _ _ _); walk_at "mi_pc") | ((fail_if_success (with_reducible show wpAny _ _ (call (Value.ref _) _ _) _ _ _)); (fail_if_success (with_reducible show wpAny _ _ (exec (Stmt.Raise _ _ _) _) _ _ _)); first | (k_unfold; (try dsimp only)) | (k_end; kc_close) | walk1 | (dsimp only; walk1) | (leave1; walk_say "STEP leave1"; (try dsimp only)) | fail "no step")))
local macro_rules | `(tactic| walk_at "mi_stepsO") => `(tactic| repeat' ((fail_if_success (with_reducible show wpAny _ _ (exec (Stmt.For _ _ _ _ _) _) _ _ _)); (fail_if_success (with_reducible show wpAny _ _ (exec (Stmt.Assign [_] (Expr.ListComp _ _ _ _) _) _) _ _ _)); (fail_if_success (with_reducible show wpAny _ _ (call (Value.type "zip") _) _ _ _)); (fail_if_success (with_reducible show wpAny _ _ (exec (Stmt.Assign [_] (Expr.DictComp _ _ _ _ _) _) _) _ _ _)); first | ((with_reducible show wpAny _ _ (call (Value.ref _) _ _) _ _ _); walk_at "mi_pc") | ((fail_if_success (with_reducible show wpAny _ _ (call (Value.ref _) _ _) _ _ _)); (fail_if_success (with_reducible show wpAny _ _ (exec (Stmt.Raise _ _ _) _) _ _ _)); first | ((with_reducible show wpAny _ _ (execs _ _) _ _ _); exfalso; omega) | (k_unfold; (try dsimp only)) | (k_end; kc_close) | walk1 | (dsimp only; walk1) | (leave1; walk_say "STEP leave1"; (try dsimp only)) | fail "no step")))
theorem TokAt.weaken {base' h : Heap} {t dt lb lm : Addr} {T : TS} (st : base.StaysIn base') (x : TokAt base' h t dt lb lm T) : TokAt base h t dt lb lm T := by
  obtain ⟨a, b, c, ⟨vm, nm, d1, d2, d3⟩, e, f1, f2, f3, f4⟩ := x
  exact ⟨a, b, c, ⟨vm, nm, d1, d2, fun r hr => by
    obtain ⟨z1, z2, ⟨z3, z5⟩, z4⟩ := d3 r hr
    exact ⟨z1, z2, ⟨z3, base_none st z5⟩, z4⟩⟩, e, base_none st f1, base_none st f2, base_none st f3, base_none st f4⟩
/-- a parser stands at p, with these messages waiting and its tokenizer as T says -/
structure ParAt (prog : Program) (w : World) (base h : Heap) (p dp pm t dt lb lm : Addr) (xs : List Value) (rs : List (List Int)) (T : TS) : Prop where
  obj : h.get? p = some (instObj 588 dp)
  dict : ∃ q1 q2 k1 k2, h.get? dp = some (parD q1 q2 k1 k2 (.ref pm) (.ref t))
  list : ∃ n, h.get? pm = some (listOf xs.toArray n)
  nd : [p, dp, pm, t, dt, lm, lb].Nodup
  fresh : base.get? p = none ∧ base.get? dp = none ∧ base.get? pm = none
  tok : TokAt base h t dt lb lm T
  noms : T.ms = []
  msgs : MsgsAt prog w base [p, dp, pm, t, dt, lm] h xs rs
theorem c_pfeed (p dp pm t dt lb lm : Addr) (xs : List Value) (rs : List (List Int)) (T : TS) (D : Addr) (ns : List Int) (S : Bas w mean mg mb base) (hs : base.StaysIn s.heap) (hA : A.depth + 60 < recursionLimit) (hh : A.handled = none) (hbz : base.objs.size ≤ s.heap.objs.size)
   (x : ParAt prog w base s.heap p dp pm t dt lb lm xs rs T) (go : ∀ o ∈ ns, GoodO o) (hD : IsInts s.heap D ns) (hDn : D ≠ lb ∧ D ≠ lm ∧ D ≠ pm) (hb : T.bs.length + ns.length < 600) (hrl : rs.length + ns.length < 600)
   (hok : ∀ r ∈ (ns.foldl TS.step T).ms, RowOk r)
   (hQ : ∀ h' tk G lb' xs', Ext [pm, dt, lb, lm] s.heap h' → GExt s.gens G → ParAt prog w base h' p dp pm t dt lb' lm (xs ++ xs') (rs ++ (ns.foldl TS.step T).ms) {ns.foldl TS.step T with ms := []} → (lb' = lb ∨ After s.heap lb') → Q .none {s with heap := h', toks := tk, gens := G}) :
   wpAny (model prog w) A (call (.ref 550) [.ref p, .ref D]) Q E s := by
  obtain ⟨hp, ⟨q1, q2, k1, k2, hdp⟩, ⟨n0, hpm⟩, hnd, hfr, htok, hnm, hms⟩ := x
  obtain ⟨a, ⟨b1, b2, b3, b4, b5, b6, b7, b8, b9, b10, dlv, tst, lnv, bd, bl⟩, ⟨vb, nb, c1, c2⟩, ⟨⟨vl⟩, nm, d1, d2, d3⟩, ⟨n1, n2, n3, n4, n5, n6⟩, f1, f2, f3, f4⟩ := id htok
  have hnd' := hnd
  simp only [List.nodup_cons, List.mem_cons, List.not_mem_nil, or_false, not_or, not_false_eq_true, List.nodup_nil, and_true] at hnd
  obtain ⟨⟨m1, m2, m3, m4, m5, m6⟩, ⟨m7, m8, m9, m10, m11⟩, ⟨m12, m13, m14, m15⟩, ⟨m16, m17, m18⟩, ⟨m19, m20⟩, m21⟩ := hnd
  have hfo := fo_cons hp hfr.1 (fo_cons hdp hfr.2.1 (fo_cons hpm hfr.2.2 (fo_cons a f1 (fo_cons bd f2 (fo_cons c1 f3 (fo_cons d1 f4 (fo_nil (h := s.heap) (base := base))))))))
  refine enterM (binds := [(Str.ofString "self", .ref p), (Str.ofString "data", .ref D)]) _ S hs hfo (by k_is) (by k_is) (by omega) (.of_eq rfl) (locs rfl) ?_
  intro g L' h₁ hg F N X TT hgk hsz hL hgs
  k_steps
  have k0 : Ext [] s.heap h₁ := ext_of [] hgk hsz hfo F N (by walk_at "mi_ro")
  have hs1 : base.StaysIn h₁ := fun b o q => F.keep b o (hg b o q)
  have vl0 : vl = [] := by
    have := d2.length
    rw [hnm] at this
    exact List.eq_nil_of_length_eq_zero this
  have tok1 := htok.keep2 k0 (fun h => nomatch h) (fun h => nomatch h) (fun h => nomatch h) (fun _ h => nomatch h)
  have st : base.StaysIn (hideAll h₁ [t, dt, lb, lm]) := fun b o e => hideAll_get _ (hs1 b o e) (by
    simp only [List.mem_cons, List.not_mem_nil, or_false, not_or]
    refine ⟨fun q => ?_, fun q => ?_, fun q => ?_, fun q => ?_⟩
    · rw [q, f1] at e; cases e
    · rw [q, f2] at e; cases e
    · rw [q, f3] at e; cases e
    · rw [q, f4] at e; cases e)
  have S' : Bas w mean mg mb (hideAll h₁ [t, dt, lb, lm]) := ⟨S.X.keeps st, S.T.keeps st⟩
  have tok' : TokAt (hideAll h₁ [t, dt, lb, lm]) h₁ t dt lb lm T := by
    obtain ⟨y1, y2, y3, ⟨vm, nm', y4, y5, y6⟩, y7, _⟩ := tok1
    refine ⟨y1, y2, y3, ⟨vm, nm', y4, y5, fun r hr => ?_⟩, y7, hideAll_none _ (by simp), hideAll_none _ (by simp), hideAll_none _ (by simp), hideAll_none _ (by simp)⟩
    have := y5.length
    rw [hnm] at this
    rw [List.eq_nil_of_length_eq_zero this] at hr
    cases hr
  have sl := steps_len ns T
  rw [hnm] at sl
  simp only [List.length_nil, Nat.zero_add] at sl
  refine c_feed (base := hideAll h₁ [t, dt, lb, lm]) D ns S' (fun b o e => of_hideAll _ e) (by walk_at "mi_depth") hh go tok' (hD.keep k0 (fun h => nomatch h)) ⟨hDn.1, hDn.2.1⟩ (by omega) (by rw [hnm, List.length_nil]; omega) fun h5 tk5 lb5 e5 q5 x5 => ?_
  have gdt := N.fresh (.tail _ (.tail _ (.tail _ (.tail _ (.head _)))))
  have glb := N.fresh (.tail _ (.tail _ (.tail _ (.tail _ (.tail _ (.head _))))))
  have glm := N.fresh (.tail _ (.tail _ (.tail _ (.tail _ (.tail _ (.tail _ (.head _)))))))
  have Ldt := (N _ (.tail _ (.tail _ (.tail _ (.tail _ (.head _)))))).2.1
  have Llb := (N _ (.tail _ (.tail _ (.tail _ (.tail _ (.tail _ (.head _))))))).2.1
  have Llm := (N _ (.tail _ (.tail _ (.tail _ (.tail _ (.tail _ (.tail _ (.head _)))))))).2.1
  have F5 := frExt F e5 (by simp [Ne.symm Ldt, Ne.symm Llb, Ne.symm Llm]) (by simp [gdt, glb, glm])
  have N5 : News g L' h5 [(p, instObj 588 dp), (dp, parD q1 q2 k1 k2 (.ref pm) (.ref t)), (pm, listOf xs.toArray n0)] :=
    nwExt (allCons (N _ (.head _)) (allCons (N _ (.tail _ (.head _))) (allCons (N _ (.tail _ (.tail _ (.head _)))) allNil))) e5 (allCons (by simp [m4, m6, m5]) (allCons (by simp [m9, m11, m10]) (allCons (by simp [m13, m15, m14]) allNil)))
  have tok5 := x5.weaken st
  have hnd5 : [p, dp, pm, t, dt, lm, lb5].Nodup := by
    rcases q5 with rfl | q5
    · exact hnd'
    · have r1 := q5.ne (k0.none hp)
      have r2 := q5.ne (k0.none hdp)
      have r3 := q5.ne (k0.none hpm)
      have r4 := q5.ne (k0.none a)
      have r5 := q5.ne (k0.none bd)
      have r6 := q5.ne (k0.none d1)
      simp only [List.nodup_cons, List.mem_cons, List.not_mem_nil, or_false, not_or, not_false_eq_true, List.nodup_nil, and_true]
      exact ⟨⟨m1, m2, m3, m4, m5, Ne.symm r1⟩, ⟨m7, m8, m9, m10, Ne.symm r2⟩, ⟨m12, m13, m14, Ne.symm r3⟩, ⟨m16, m17, Ne.symm r4⟩, ⟨m19, Ne.symm r5⟩, Ne.symm r6⟩
  have fgn : ∀ b ∈ [dt, lb, lm], b ∈ [p, dp, pm, t, dt, lm] ∨ Foreign h₁ b := by
    intro b hb
    simp only [List.mem_cons, List.not_mem_nil, or_false] at hb
    rcases hb with rfl | rfl | rfl
    · exact .inl (by simp)
    · refine .inr fun o ho => ?_
      rw [k0.none c1] at ho
      cases ho
      exact ⟨"list", rfl, by decide, by decide⟩
    · exact .inl (by simp)
  have hms5 := (hms.keep k0 (fun _ h => nomatch h)).keep e5 fgn
  have hpm1 : (hideAll h₁ [t, dt, lb, lm]).get? pm = some (listOf xs.toArray n0) := hideAll_get _ (k0.none hpm) (by simp [m12, m13, m15, m14])
  clear F N
  k_steps
  refine c_dec p dp pm t dt lb5 lm q1 q2 k1 k2 xs n0 rs (ns.foldl TS.step T) S (fun b o q => F5.keep b o (hg b o q)) (by walk_at "mi_depth") hh (Nat.le_trans hbz (Nat.le_of_lt (hL ▸ F5.ns.lt))) (N5.get (.head _)) (N5.get (.tail _ (.head _))) (N5.get (.tail _ (.tail _ (.head _)))) hnd5 hfr tok5 ?_ hok hms5 (by rw [hms.length]; omega) fun h7 tk7 G xs' n' e7 g7 l7 m7' t7 => ?_
  · intro vm nm' hvm b hb
    obtain ⟨_, _, _, ⟨vm2, nm2, y4, y5, y6⟩, _⟩ := x5
    have hvm' : h5.get? lm = some (listOf vm nm') := hvm
    rw [y4] at hvm'
    have hdt := congrArg Obj.data (Option.some.inj hvm')
    have h2 : vm2 = vm := by injection hdt
    subst h2
    obtain ⟨_, _, ⟨_, z5⟩, _⟩ := y6 b hb
    intro q
    rw [q, hpm1] at z5
    cases z5
  have e17 : Ext [pm, dt, lb, lm] s.heap h7 := (k0.nil.trans (e5.mono (m' := [pm, dt, lb, lm]) (fun b hb => .inl (List.mem_cons_of_mem _ hb)))).trans (e7.mono (m' := [pm, dt, lb, lm]) (fun b hb => .inl (by
    simp only [List.mem_cons, List.not_mem_nil, or_false] at hb ⊢
    rcases hb with rfl | rfl
    · exact .inl rfl
    · exact .inr (.inr (.inr rfl)))))
  have Lpm := (N5 _ (.tail _ (.tail _ (.head _)))).2.1
  have gpm := N5.fresh (.tail _ (.tail _ (.head _)))
  have F7 := frExt F5 e7 (by simp [Ne.symm Lpm, Ne.symm Llm]) (by simp [gpm, glm])
  have N7 : News g L' h7 [(p, instObj 588 dp), (dp, parD q1 q2 k1 k2 (.ref pm) (.ref t))] := nwExt (allCons (N5 _ (.head _)) (allCons (N5 _ (.tail _ (.head _))) allNil)) e7 (allCons (by simp [m2, m5]) (allCons (by simp [m7, m10]) allNil))
  clear F5 N5
  k_steps
  exact hQ _ _ G lb5 xs' e17 g7 ⟨e17.keep (by simp [m2, m4, m6, m5]) hp, ⟨q1, q2, k1, k2, e17.keep (by simp [m7, m9, m11, m10]) hdp⟩, ⟨_, l7⟩, hnd5, hfr, t7, rfl, m7'⟩ (q5.imp id (fun z => z.back k0 (fun h => nomatch h)))
end PartGG
theorem restHH {M : Model} {A : Around} {s : Shared} {E : Value → Shared → Prop} {env : Env} {Q : Flow → Shared → Prop} (h : Q .next s) : wpAny M A (execs [] env) Q E s := by
  w_top off
  walk1
  w_top off
  exact h
section PartHH
local macro_rules | `(tactic| k_steps) => `(tactic| repeat' (first | ((with_reducible show wpAny _ _ (call (Value.ref _) _ _) _ _ _); walk_at "mi_pc") | ((fail_if_success (with_reducible show wpAny _ _ (call (Value.ref _) _ _) _ _ _)); (fail_if_success (with_reducible show wpAny _ _ (exec (Stmt.Raise _ _ _) _) _ _ _)); first | (k_unfold; (try dsimp only)) | (k_end; wrow_close) | walk1 | (dsimp only; walk1) | (leave1; walk_say "STEP leave1"; (try dsimp only)) | fail "no step")))
local macro_rules | `(tactic| k_ne) => `(tactic| first | assumption | exact Ne.symm (by assumption))
local macro_rules | `(tactic| walk_at "call builtin:len") => `(tactic| (k_here; (with_reducible show wpAny _ _ (call (Value.builtin "len") [Value.ref _]) _ _ _); refine PyProof.Rows.len_list (News.isList (by k_asm) (by k_mem)) (by (try simp only [Array.size_push, List.size_toArray]); omega) ?_))
local macro_rules | `(tactic| walk_at "mi_ro") => `(tactic| repeat' (first | exact ro_nil | refine ro_keep (by k_mem) ?_ | refine ro_mut (by simp) ?_))
local macro_rules | `(tactic| walk_at "mi_depth") => `(tactic| ((try simp only [PySem.Around.deeper, PySem.Around.in1_depth]); omega))
local macro_rules | `(tactic| walk_at "mi_pure") => `(tactic| exact hQ _ _ (ext_of [] hgk hsz (fo_nil (base := base)) (by assumption) (by assumption) ro_nil))
local macro_rules | `(tactic| walk_at "mi_steps") => `(tactic| repeat' ((fail_if_success (with_reducible show wpAny _ _ (exec (Stmt.For _ _ _ _ _) _) _ _ _)); first | ((with_reducible show wpAny _ _ (call (Value.ref _) _ _) _ _ _); walk_at "mi_pc") | ((fail_if_success (with_reducible show wpAny _ _ (call (Value.ref _) _ _) _ _ _)); (fail_if_success (with_reducible show wpAny _ _ (exec (Stmt.Raise _ _ _) _) _ _ _)); first | (k_unfold; (try dsimp only)) | (k_end; kc_close) | walk1 | (dsimp only; walk1) | (leave1; walk_say "STEP leave1"; (try dsimp only)) | fail "no step")))
local macro_rules | `(tactic| walk_at "subscriptTail") => `(tactic| (k_here; (with_reducible show wpAny _ _ (subscriptTail _ _ (Value.ref _) (Value.str _ _)) _ _ _); k_dflt (refine' topItem_K ?F ?X ?l ?k ?e ?_; (case F => k_asm); (case X => k_asm); (case l => first | assumption | k_is); (case k => first | assumption | k_keys); (case e => first | assumption | k_is))))
local macro_rules | `(tactic| walk_at "mi_stepsC") => `(tactic| repeat' ((fail_if_success (with_reducible show wpAny _ _ (exec (Stmt.For _ _ _ _ _) _) _ _ _)); (fail_if_success (with_reducible show wpAny _ _ (exec (Stmt.Assign [_] (Expr.ListComp _ _ _ _) _) _) _ _ _)); (fail_if_success (with_reducible show wpAny _ _ (call (Value.type "zip") _) _ _ _)); (fail_if_success (with_reducible show wpAny _ _ (exec (Stmt.Assign [_] (Expr.DictComp _ _ _ _ _) _) _) _ _ _)); first | ((with_reducible show wpAny _ _ (call (Value.ref _) _ _) _ _ _); walk_at "mi_pc") | ((fail_if_success (with_reducible show wpAny _ _ (call (Value.ref _) _ _) _ _ _)); (fail_if_success (with_reducible show wpAny _ _ (exec (Stmt.Raise _ _ _) _) _ _ _)); first | (k_unfold; (try dsimp only)) | (k_end; kc_close) | walk1 | (dsimp only; walk1) | (leave1; walk_say "STEP leave1"; (try dsimp only)) | fail "no step")))
local macro_rules | `(tactic| walk_at "mi_stepsO") => `(tactic| repeat' ((fail_if_success (with_reducible show wpAny _ _ (exec (Stmt.For _ _ _ _ _) _) _ _ _)); (fail_if_success (with_reducible show wpAny _ _ (exec (Stmt.Assign [_] (Expr.ListComp _ _ _ _) _) _) _ _ _)); (fail_if_success (with_reducible show wpAny _ _ (call (Value.type "zip") _) _ _ _)); (fail_if_success (with_reducible show wpAny _ _ (exec (Stmt.Assign [_] (Expr.DictComp _ _ _ _ _) _) _) _ _ _)); first | ((with_reducible show wpAny _ _ (call (Value.ref _) _ _) _ _ _); walk_at "mi_pc") | ((fail_if_success (with_reducible show wpAny _ _ (call (Value.ref _) _ _) _ _ _)); (fail_if_success (with_reducible show wpAny _ _ (exec (Stmt.Raise _ _ _) _) _ _ _)); first | ((with_reducible show wpAny _ _ (execs _ _) _ _ _); exfalso; omega) | (k_unfold; (try dsimp only)) | (k_end; kc_close) | walk1 | (dsimp only; walk1) | (leave1; walk_say "STEP leave1"; (try dsimp only)) | fail "no step")))
/-- the dict of a tokenizer that was fed nothing -/
abbrev tok0D (h1 h2 h3 h4 : Int) (k1 k2 k3 k4 : Tok) (st lb lm dl : Value) : Obj :=
  dictOf [⟨h1, .str (Str.ofString "_status") k1, st⟩, ⟨h2, .str (Str.ofString "_bytes") k2, lb⟩, ⟨h3, .str (Str.ofString "_messages") k3, lm⟩, ⟨h4, .str (Str.ofString "_datalen") k4, dl⟩] 4
theorem c_fb_s0 (t dt : Addr) (h1 h2 h3 h4 : Int) (k1 k2 k3 k4 : Tok) (dl v1 v2 v3 : Value) (o : Int) (to : Tok) (S : Bas w mean mg mb base) (hs : base.StaysIn s.heap) (hA : A.depth + 10 < recursionLimit) (o0 : 128 ≤ o) (o1 : o ≤ 255)
   (hfo : ∀ p ∈ [(t, instObj 517 dt), (dt, tok0D h1 h2 h3 h4 k1 k2 k3 k4 v1 v2 v3 dl)], s.heap.get? p.1 = some p.2 ∧ base.get? p.1 = none)
   (C : ∀ {A' : Around} {E' : Value → Shared → Prop} (h' : Heap) (tk : Nat), Ext [] s.heap h' → A'.depth + 6 < recursionLimit → wpAny (model prog w) A' (call (.ref 479) [.ref t, .int o to]) Q E' {s with heap := h', toks := tk}) :
   wpAny (model prog w) A (call (.ref 493) [.ref t, .int o to]) Q E s := by
  refine enterM (binds := [(Str.ofString "self", .ref t), (Str.ofString "byte", .int o to)]) _ S hs hfo (by k_is) (by k_is) (by omega) (.of_eq rfl) (locs rfl) ?_
  intro g L' h₁ hg F N X TT hgk hsz hL hgs
  k_steps
  all_goals (try (exfalso; omega))
  all_goals exact C _ _ (ext_of [] hgk hsz hfo (by assumption) (by assumption) (by walk_at "mi_ro")) (by walk_at "mi_depth")

local macro_rules | `(tactic| walk_at "newList") => `(tactic| (k_here; k_dflt (refine' newList_M ?k1 ?k2 ?_; (case k1 => k_asm); (case k2 => k_asm); k_whole); intro l' h' F' N' l1 l2; (try k_lt l1); (try k_sweep)))
local macro_rules | `(tactic| walk_at "subscriptTail") => `(tactic| (k_here; (with_reducible show wpAny _ _ (subscriptTail _ _ (Value.ref _) (Value.str _ _)) _ _ _); k_dflt (refine' topItem_K ?F ?X ?l ?k ?e ?_; (case F => k_asm); (case X => k_asm); (case l => assumption); (case k => assumption); (case e => assumption))))
local macro_rules | `(tactic| walk_at "call ref") => `(tactic| ((with_reducible show wpAny _ _ (call (Value.ref 100) _ _) _ _ _); refine pure_K (D := 4) (by assumption) (by assumption) (by assumption) (by assumption) (by walk_at "mi_depth") ?_; intro h9 tk9 F9 N9; (try dsimp only)))
local macro_rules | `(tactic| walk_at "mi_pc") => `(tactic| ((with_reducible show wpAny _ _ (call (Value.ref 100) _ _) _ _ _); refine pure_K (D := 4) (by assumption) (by assumption) (by assumption) (by assumption) (by walk_at "mi_depth") ?_; intro h9 tk9 F9 N9; (try dsimp only)))
local macro_rules | `(tactic| walk_at "call ref") => `(tactic| ((with_reducible show wpAny _ _ (call (Value.ref 93) _ _) _ _ _); refine pure_K (D := 4) (fun hs hA hQ => c_hsT _ _ (by assumption) (by assumption) hs hA hQ) (by assumption) (by assumption) (by assumption) (by walk_at "mi_depth") ?_; intro h9 tk9 F9 N9; (try dsimp only)))
local macro_rules | `(tactic| walk_at "mi_pc") => `(tactic| ((with_reducible show wpAny _ _ (call (Value.ref 93) _ _) _ _ _); refine pure_K (D := 4) (fun hs hA hQ => c_hsT _ _ (by assumption) (by assumption) hs hA hQ) (by assumption) (by assumption) (by assumption) (by walk_at "mi_depth") ?_; intro h9 tk9 F9 N9; (try dsimp only)))
local macro_rules | `(tactic| walk_at "call ref") => `(tactic| ((with_reducible show wpAny _ _ (call (Value.ref 93) _ _) _ _ _); refine pure_K (D := 4) (fun hs hA hQ => c_hsF _ _ (by assumption) (by assumption) hs hA hQ) (by assumption) (by assumption) (by assumption) (by walk_at "mi_depth") ?_; intro h9 tk9 F9 N9; (try dsimp only)))
local macro_rules | `(tactic| walk_at "mi_pc") => `(tactic| ((with_reducible show wpAny _ _ (call (Value.ref 93) _ _) _ _ _); refine pure_K (D := 4) (fun hs hA hQ => c_hsF _ _ (by assumption) (by assumption) hs hA hQ) (by assumption) (by assumption) (by assumption) (by walk_at "mi_depth") ?_; intro h9 tk9 F9 N9; (try dsimp only)))
local macro_rules | `(tactic| walk_at "call ref") => `(tactic| ((with_reducible show wpAny _ _ (call (Value.ref 100) _ _) _ _ _); refine pure_K (D := 4) (fun hs hA hQ => c_ss_246 _ (by assumption) hs hA hQ) (by assumption) (by assumption) (by assumption) (by walk_at "mi_depth") ?_; intro h9 tk9 F9 N9; (try dsimp only)))
local macro_rules | `(tactic| walk_at "mi_pc") => `(tactic| ((with_reducible show wpAny _ _ (call (Value.ref 100) _ _) _ _ _); refine pure_K (D := 4) (fun hs hA hQ => c_ss_246 _ (by assumption) hs hA hQ) (by assumption) (by assumption) (by assumption) (by walk_at "mi_depth") ?_; intro h9 tk9 F9 N9; (try dsimp only)))
theorem c_fsb50 (t dt : Addr) (h1 h2 h3 h4 : Int) (k1 k2 k3 k4 : Tok) (dl : Value) (tst : Tok) (bv mv : Value) (st : Int) (o : Int) (to : Tok) (ln : Int) (tl : Tok) (sp : Addr) (es : Array DictEntry) (nn : Nat) (S : Bas w mean mg mb base) (hs : base.StaysIn s.heap) (hA : A.depth + 6 < recursionLimit) (hln : ln ≠ 1) (ho : o ≠ 247) (h248 : o < 248) (hn : hsB o = true)
   (hss : ∀ {A : Around} {s : Shared} {Q E : Value → Shared → Prop}, base.StaysIn s.heap → A.depth + 4 < recursionLimit → (∀ h' tk, Ext [] s.heap h' → Q (.ref sp) {s with heap := h', toks := tk}) → wpAny (model prog w) A (call (.ref 100) [.int o to]) Q E s)
   (hl : (hd.heap_39 w.params).lookup sp = some ⟨.type "dict", none, .dict es nn, #[]⟩) (hk : KeysLit w.params es.toList) (he : nsIn (hd.heap_39 w.params) sp (Str.ofString "length") = some (some (.int ln tl)))
   (d1 : t ≠ dt)
   (hfo : ∀ p ∈ [(t, instObj 517 dt), (dt, tok0D h1 h2 h3 h4 k1 k2 k3 k4 (.int st tst) (bv) (mv) dl)], s.heap.get? p.1 = some p.2 ∧ base.get? p.1 = none)
   (hQ : ∀ h' tk a h5 k5, Ext [dt] s.heap h' → h'.get? dt = some (tokD h1 h2 h3 h4 h5 k1 k2 k3 k4 k5 (.int o to) (.ref a) (mv) dl (.int ln tl)) → h'.get? a = some (listOf #[.int o to] 0) → After s.heap a → Q .none {s with heap := h', toks := tk}) :
   wpAny (model prog w) A (call (.ref 479) [.ref t, .int o to]) Q E s := by
  refine enterM (binds := [(Str.ofString "self", .ref t), (Str.ofString "status", .int o to)]) _ S hs hfo (by k_is) (by k_is) (by omega) (.of_eq rfl) (locs rfl) ?_
  intro g L' h₁ hg F N X TT hgk hsz hL hgs
  k_steps
  all_goals (try (exfalso; omega))
  rename News g L' _ _ => N2
  exact hQ _ _ _ _ _ (ext_of [dt] hgk hsz hfo (by assumption) N2 (by walk_at "mi_ro")) (N2.get (.tail _ (.tail _ (.head _)))) (N2.get (.head _)) (after_of hL (by assumption))
end PartHH
theorem restII {M : Model} {A : Around} {s : Shared} {E : Value → Shared → Prop} {env : Env} {Q : Flow → Shared → Prop} (h : Q .next s) : wpAny M A (execs [] env) Q E s := by
  w_top off
  walk1
  w_top off
  exact h
section PartII
local macro_rules | `(tactic| k_steps) => `(tactic| repeat' (first | ((with_reducible show wpAny _ _ (call (Value.ref _) _ _) _ _ _); walk_at "mi_pc") | ((fail_if_success (with_reducible show wpAny _ _ (call (Value.ref _) _ _) _ _ _)); (fail_if_success (with_reducible show wpAny _ _ (exec (Stmt.Raise _ _ _) _) _ _ _)); first | (k_unfold; (try dsimp only)) | (k_end; wrow_close) | walk1 | (dsimp only; walk1) | (leave1; walk_say "STEP leave1"; (try dsimp only)) | fail "no step")))
local macro_rules | `(tactic| k_ne) => `(tactic| first | assumption | exact Ne.symm (by assumption))
local macro_rules | `(tactic| walk_at "call builtin:len") => `(tactic| (k_here; (with_reducible show wpAny _ _ (call (Value.builtin "len") [Value.ref _]) _ _ _); refine PyProof.Rows.len_list (News.isList (by k_asm) (by k_mem)) (by (try simp only [Array.size_push, List.size_toArray]); omega) ?_))
local macro_rules | `(tactic| walk_at "mi_ro") => `(tactic| repeat' (first | exact ro_nil | refine ro_keep (by k_mem) ?_ | refine ro_mut (by simp) ?_))
local macro_rules | `(tactic| walk_at "mi_depth") => `(tactic| ((try simp only [PySem.Around.deeper, PySem.Around.in1_depth]); omega))
local macro_rules | `(tactic| walk_at "mi_pure") => `(tactic| exact hQ _ _ (ext_of [] hgk hsz (fo_nil (base := base)) (by assumption) (by assumption) ro_nil))
local macro_rules | `(tactic| walk_at "mi_steps") => `(tactic| repeat' ((fail_if_success (with_reducible show wpAny _ _ (exec (Stmt.For _ _ _ _ _) _) _ _ _)); first | ((with_reducible show wpAny _ _ (call (Value.ref _) _ _) _ _ _); walk_at "mi_pc") | ((fail_if_success (with_reducible show wpAny _ _ (call (Value.ref _) _ _) _ _ _)); (fail_if_success (with_reducible show wpAny _ _ (exec (Stmt.Raise _ _ _) _) _ _ _)); first | (k_unfold; (try dsimp only)) | (k_end; kc_close) | walk1 | (dsimp only; walk1) | (leave1; walk_say "STEP leave1"; (try dsimp only)) | fail "no step")))
local macro_rules | `(tactic| walk_at "subscriptTail") => `(tactic| (k_here; (with_reducible show wpAny _ _ (subscriptTail _ _ (Value.ref _) (Value.str _ _)) _ _ _); k_dflt (refine' topItem_K ?F ?X ?l ?k ?e ?_; (case F => k_asm); (case X => k_asm); (case l => first | assumption | k_is); (case k => first | assumption | k_keys); (case e => first | assumption | k_is))))
local macro_rules | `(tactic| walk_at "mi_stepsC") => `(tactic| repeat' ((fail_if_success (with_reducible show wpAny _ _ (exec (Stmt.For _ _ _ _ _) _) _ _ _)); (fail_if_success (with_reducible show wpAny _ _ (exec (Stmt.Assign [_] (Expr.ListComp _ _ _ _) _) _) _ _ _)); (fail_if_success (with_reducible show wpAny _ _ (call (Value.type "zip") _) _ _ _)); (fail_if_success (with_reducible show wpAny _ _ (exec (Stmt.Assign [_] (Expr.DictComp _ _ _ _ _) _) _) _ _ _)); first | ((with_reducible show wpAny _ _ (call (Value.ref _) _ _) _ _ _); walk_at "mi_pc") | ((fail_if_success (with_reducible show wpAny _ _ (call (Value.ref _) _ _) _ _ _)); (fail_if_success (with_reducible show wpAny _ _ (exec (Stmt.Raise _ _ _) _) _ _ _)); first | (k_unfold; (try dsimp only)) | (k_end; kc_close) | walk1 | (dsimp only; walk1) | (leave1; walk_say "STEP leave1"; (try dsimp only)) | fail "no step")))
local macro_rules | `(tactic| walk_at "mi_stepsO") => `(tactic| repeat' ((fail_if_success (with_reducible show wpAny _ _ (exec (Stmt.For _ _ _ _ _) _) _ _ _)); (fail_if_success (with_reducible show wpAny _ _ (exec (Stmt.Assign [_] (Expr.ListComp _ _ _ _) _) _) _ _ _)); (fail_if_success (with_reducible show wpAny _ _ (call (Value.type "zip") _) _ _ _)); (fail_if_success (with_reducible show wpAny _ _ (exec (Stmt.Assign [_] (Expr.DictComp _ _ _ _ _) _) _) _ _ _)); first | ((with_reducible show wpAny _ _ (call (Value.ref _) _ _) _ _ _); walk_at "mi_pc") | ((fail_if_success (with_reducible show wpAny _ _ (call (Value.ref _) _ _) _ _ _)); (fail_if_success (with_reducible show wpAny _ _ (exec (Stmt.Raise _ _ _) _) _ _ _)); first | ((with_reducible show wpAny _ _ (execs _ _) _ _ _); exfalso; omega) | (k_unfold; (try dsimp only)) | (k_end; kc_close) | walk1 | (dsimp only; walk1) | (leave1; walk_say "STEP leave1"; (try dsimp only)) | fail "no step")))
structure Tok0At (base h : Heap) (t dt lb lm : Addr) : Prop where
  obj : h.get? t = some (instObj 517 dt)
  dict : ∃ h1 h2 h3 h4 k1 k2 k3 k4 dl tst, h.get? dt = some (tok0D h1 h2 h3 h4 k1 k2 k3 k4 (.int 0 tst) (.ref lb) (.ref lm) dl)
  bs : ∃ nb, h.get? lb = some (listOf #[] nb)
  ms : ∃ nm, h.get? lm = some (listOf #[] nm)
  ne : t ≠ dt ∧ t ≠ lb ∧ t ≠ lm ∧ dt ≠ lb ∧ dt ≠ lm ∧ lb ≠ lm
  fresh : base.get? t = none ∧ base.get? dt = none ∧ base.get? lb = none ∧ base.get? lm = none
theorem Tok0At.keep {h h' : Heap} {t dt lb lm : Addr} (x : Tok0At base h t dt lb lm) {mt : List Addr} (e : Ext mt h h') (h1 : t ∉ mt) (h2 : dt ∉ mt) (h3 : lb ∉ mt) (h4 : lm ∉ mt) : Tok0At base h' t dt lb lm := by
  obtain ⟨a, ⟨b1, b2, b3, b4, b5, b6, b7, b8, b9, b10, bd⟩, ⟨nb, c1⟩, ⟨nm, d1⟩, f, g⟩ := x
  exact ⟨e.keep h1 a, ⟨b1, b2, b3, b4, b5, b6, b7, b8, b9, b10, e.keep h2 bd⟩, ⟨nb, e.keep h3 c1⟩, ⟨nm, e.keep h4 d1⟩, f, g⟩
def TS0 : TS := ⟨0, [], none, []⟩
theorem c_fb0 {t dt lb lm : Addr} (to : Tok) (S : Bas w mean mg mb base) (hs : base.StaysIn s.heap) (hA : A.depth + 10 < recursionLimit) (x : Tok0At base s.heap t dt lb lm)
   (hQ : ∀ h' tk lb', Ext [dt] s.heap h' → After s.heap lb' → TokAt base h' t dt lb' lm (TS0.step 144) → Q .none {s with heap := h', toks := tk}) :
   wpAny (model prog w) A (call (.ref 493) [.ref t, .int 144 to]) Q E s := by
  obtain ⟨a, ⟨b1, b2, b3, b4, b5, b6, b7, b8, b9, b10, bd⟩, ⟨nb, c1⟩, ⟨nm, d1⟩, ⟨n1, n2, n3, n4, n5, n6⟩, f1, f2, f3, f4⟩ := x
  refine c_fb_s0 t dt _ _ _ _ _ _ _ _ _ _ _ _ 144 to S hs hA (by omega) (by omega) (fo2 a bd f1 f2) fun {A' E'} k tk e hd' => ?_
  have hs' : base.StaysIn k := e.stays hs (fun _ h => nomatch h)
  have q {b : Addr} {ob : Obj} (g : s.heap.get? b = some ob) : k.get? b = some ob := e.keep (fun h => nomatch h) g
  refine c_fsb50 (s := {s with heap := k, toks := tk}) t dt _ _ _ _ _ _ _ _ _ _ _ _ 0 144 to 3 _ 33 _ _ S hs' hd' (by decide) (by decide) (by decide) (by decide) (fun hs hA hQ => c_ss_144 144 _ S hs hA (by omega) (by omega) hQ) (by k_is) (by k_keys) (by k_is) n1 (fo2 (q a) (q bd) f1 f2) fun h2 tk2 r h5 k5 e2 g1 g2 g5 => ?_
  have e2' : Ext [dt] s.heap h2 := (e.mono (m' := [dt]) (fun _ h => nomatch h)).trans e2
  refine hQ h2 tk2 r e2' (g5.back e (fun h => nomatch h)) ?_
  exact ⟨e2'.keep (by simp [n1]) a, ⟨_, _, _, _, _, _, _, _, _, _, _, _, _, g1, .some _ _⟩, ⟨_, _, g2, .cons _ _ .nil⟩, ⟨#[], nm, e2'.keep (by simp [Ne.symm n5]) d1, .nil, fun _ h => nomatch h⟩, ⟨n1, Ne.symm (g5.ne (q a)), n3, Ne.symm (g5.ne (q bd)), n5, g5.ne (q d1)⟩, f1, f2, g5.base hs', f4⟩
end PartII
theorem restJJ {M : Model} {A : Around} {s : Shared} {E : Value → Shared → Prop} {env : Env} {Q : Flow → Shared → Prop} (h : Q .next s) : wpAny M A (execs [] env) Q E s := by
  w_top off
  walk1
  w_top off
  exact h
section PartJJ
local macro_rules | `(tactic| k_steps) => `(tactic| repeat' (first | ((with_reducible show wpAny _ _ (call (Value.ref _) _ _) _ _ _); walk_at "mi_pc") | ((fail_if_success (with_reducible show wpAny _ _ (call (Value.ref _) _ _) _ _ _)); (fail_if_success (with_reducible show wpAny _ _ (exec (Stmt.Raise _ _ _) _) _ _ _)); first | (k_unfold; (try dsimp only)) | (k_end; wrow_close) | walk1 | (dsimp only; walk1) | (leave1; walk_say "STEP leave1"; (try dsimp only)) | fail "no step")))
local macro_rules | `(tactic| k_ne) => `(tactic| first | assumption | exact Ne.symm (by assumption))
local macro_rules | `(tactic| walk_at "call builtin:len") => `(tactic| (k_here; (with_reducible show wpAny _ _ (call (Value.builtin "len") [Value.ref _]) _ _ _); refine PyProof.Rows.len_list (News.isList (by k_asm) (by k_mem)) (by (try simp only [Array.size_push, List.size_toArray]); omega) ?_))
local macro_rules | `(tactic| walk_at "mi_ro") => `(tactic| repeat' (first | exact ro_nil | refine ro_keep (by k_mem) ?_ | refine ro_mut (by simp) ?_))
local macro_rules | `(tactic| walk_at "mi_depth") => `(tactic| ((try simp only [PySem.Around.deeper, PySem.Around.in1_depth]); omega))
local macro_rules | `(tactic| walk_at "mi_pure") => `(tactic| exact hQ _ _ (ext_of [] hgk hsz (fo_nil (base := base)) (by assumption) (by assumption) ro_nil))
local macro_rules | `(tactic| walk_at "mi_steps") => `(tactic| repeat' ((fail_if_success (with_reducible show wpAny _ _ (exec (Stmt.For _ _ _ _ _) _) _ _ _)); first | ((with_reducible show wpAny _ _ (call (Value.ref _) _ _) _ _ _); walk_at "mi_pc") | ((fail_if_success (with_reducible show wpAny _ _ (call (Value.ref _) _ _) _ _ _)); (fail_if_success (with_reducible show wpAny _ _ (exec (Stmt.Raise _ _ _) _) _ _ _)); first | (k_unfold; (try dsimp only)) | (k_end; kc_close) | walk1 | (dsimp only; walk1) | (leave1; walk_say "STEP leave1"; (try dsimp only)) | fail "no step")))
local macro_rules | `(tactic| walk_at "subscriptTail") => `(tactic| (k_here; (with_reducible show wpAny _ _ (subscriptTail _ _ (Value.ref _) (Value.str _ _)) _ _ _); k_dflt (refine' topItem_K ?F ?X ?l ?k ?e ?_; (case F => k_asm); (case X => k_asm); (case l => first | assumption | k_is); (case k => first | assumption | k_keys); (case e => first | assumption | k_is))))
local macro_rules | `(tactic| walk_at "mi_stepsC") => `(tactic| repeat' ((fail_if_success (with_reducible show wpAny _ _ (exec (Stmt.For _ _ _ _ _) _) _ _ _)); (fail_if_success (with_reducible show wpAny _ _ (exec (Stmt.Assign [_] (Expr.ListComp _ _ _ _) _) _) _ _ _)); (fail_if_success (with_reducible show wpAny _ _ (call (Value.type "zip") _) _ _ _)); (fail_if_success (with_reducible show wpAny _ _ (exec (Stmt.Assign [_] (Expr.DictComp _ _ _ _ _) _) _) _ _ _)); first | ((with_reducible show wpAny _ _ (call (Value.ref _) _ _) _ _ _); walk_at "mi_pc") | ((fail_if_success (with_reducible show wpAny _ _ (call (Value.ref _) _ _) _ _ _)); (fail_if_success (with_reducible show wpAny _ _ (exec (Stmt.Raise _ _ _) _) _ _ _)); first | (k_unfold; (try dsimp only)) | (k_end; kc_close) | walk1 | (dsimp only; walk1) | (leave1; walk_say "STEP leave1"; (try dsimp only)) | fail "no step")))
local macro_rules | `(tactic| walk_at "mi_stepsO") => `(tactic| repeat' ((fail_if_success (with_reducible show wpAny _ _ (exec (Stmt.For _ _ _ _ _) _) _ _ _)); (fail_if_success (with_reducible show wpAny _ _ (exec (Stmt.Assign [_] (Expr.ListComp _ _ _ _) _) _) _ _ _)); (fail_if_success (with_reducible show wpAny _ _ (call (Value.type "zip") _) _ _ _)); (fail_if_success (with_reducible show wpAny _ _ (exec (Stmt.Assign [_] (Expr.DictComp _ _ _ _ _) _) _) _ _ _)); first | ((with_reducible show wpAny _ _ (call (Value.ref _) _ _) _ _ _); walk_at "mi_pc") | ((fail_if_success (with_reducible show wpAny _ _ (call (Value.ref _) _ _) _ _ _)); (fail_if_success (with_reducible show wpAny _ _ (exec (Stmt.Raise _ _ _) _) _ _ _)); first | ((with_reducible show wpAny _ _ (execs _ _) _ _ _); exfalso; omega) | (k_unfold; (try dsimp only)) | (k_end; kc_close) | walk1 | (dsimp only; walk1) | (leave1; walk_say "STEP leave1"; (try dsimp only)) | fail "no step")))
theorem c_feed0 {t dt lb lm : Addr} (data : Addr) (ns : List Int) (h144 : ns[0]? = some 144) (S : Bas w mean mg mb base) (hs : base.StaysIn s.heap) (hA : A.depth + 14 < recursionLimit) (hh : A.handled = none) (go : ∀ o ∈ ns, GoodO o) (x : Tok0At base s.heap t dt lb lm)
   (hd : IsInts s.heap data ns) (hne : data ≠ lb ∧ data ≠ lm) (hb : ns.length < 900)
   (hQ : ∀ h' tk lb', Ext [dt, lb, lm] s.heap h' → (lb' = lb ∨ After s.heap lb') → TokAt base h' t dt lb' lm (ns.foldl TS.step TS0) → Q .none {s with heap := h', toks := tk}) :
   wpAny (model prog w) A (call (.ref 500) [.ref t, .ref data]) Q E s := by
  obtain ⟨a, ⟨b1, b2, b3, b4, b5, b6, b7, b8, b9, b10, bd⟩, ⟨nb, c1⟩, ⟨nm, d1⟩, ⟨n1, n2, n3, n4, n5, n6⟩, f1, f2, f3, f4⟩ := id x
  obtain ⟨vs, nv, hd1, hd2⟩ := hd
  refine enterM (binds := [(Str.ofString "self", .ref t), (Str.ofString "data", .ref data)]) _ S hs (fo4 a bd c1 d1 f1 f2 f3 f4) (by k_is) (by k_is) (by omega) (.of_eq rfl) (locs rfl) ?_
  intro g L' h₁ hg F N X TT hgk hsz hL hgs
  walk1
  walk1
  refine wpAny_For ?_
  walk1
  have keep1 : ∀ {b : Addr} {ob : Obj}, s.heap.get? b = some ob → b ≠ t → b ≠ dt → b ≠ lb → b ≠ lm → g.get? b = some ob := fun {b ob} e z1 z2 z3 z4 => hgk b ob (by simp [z1, z2, z3, z4]) e
  have dt1 : data ≠ t := fun q => by rw [q, a] at hd1; cases hd1
  have dt2 : data ≠ dt := fun q => by rw [q, bd] at hd1; exact absurd (Value.type.inj (congrArg Obj.cls (Option.some.inj hd1))) (by decide)
  have gd := keep1 hd1 dt1 dt2 hne.1 hne.2
  refine wpAny_pyIter_list (items := vs) ⟨_, F.keep _ _ gd, rfl, _, rfl⟩ ?_
  generalize hI : h₁.objs.size = I
  have oldI : ∀ {b : Addr} {ob : Obj}, h₁.get? b = some ob → b ≠ I := fun e => old_ne e hI.symm
  have gt := N.fresh (.head _)
  have gdt := N.fresh (.tail _ (.head _))
  have glb := N.fresh (.tail _ (.tail _ (.head _)))
  have glm := N.fresh (.tail _ (.tail _ (.tail _ (.head _))))
  have gI : g.get? I = none := by
    cases q : g.get? I with
    | none => rfl
    | some ob => exact absurd rfl (oldI (F.keep _ _ q))
  have LI : L' ≠ I := by
    obtain ⟨oL, _, _, hLo, _⟩ := F.ns
    exact oldI hLo
  have k0 : ∀ {b : Addr} {ob : Obj}, s.heap.get? b = some ob → h₁.get? b = some ob := fun {b ob} e => by
    by_cases z1 : b = t
    · subst z1; rw [a] at e; cases e; exact N.get (.head _)
    by_cases z2 : b = dt
    · subst z2; rw [bd] at e; cases e; exact N.get (.tail _ (.head _))
    by_cases z3 : b = lb
    · subst z3; rw [c1] at e; cases e; exact N.get (.tail _ (.tail _ (.head _)))
    by_cases z4 : b = lm
    · subst z4; rw [d1] at e; cases e; exact N.get (.tail _ (.tail _ (.tail _ (.head _))))
    exact F.keep _ _ (keep1 e z1 z2 z3 z4)
  have e0 : Ext [] s.heap h₁ := fun b ob _ e => k0 e
  let J : Nat → Shared → Prop := fun i s' => ∃ h' tk u lb', s' = {s with heap := h', toks := tk} ∧ Fr g L' h' (fun y => if y = Str.ofString "byte" then u else List.lookup y [(Str.ofString "self", Value.ref t), (Str.ofString "data", Value.ref data)].reverse) ∧
    (if i = 0 then Tok0At base h' t dt lb' lm ∧ lb' = lb else TokAt base h' t dt lb' lm ((ns.take i).foldl TS.step TS0)) ∧ Ext [dt, lb, lm] s.heap h' ∧ (lb' = lb ∨ After s.heap lb') ∧ h'.IsListIter I data i
  refine loopL (vs := vs) (l := data) J hh ?_ ?_ ?_ ?_
  · rintro i s' ⟨h', tk, u, lb', rfl, F1, x1, e1, q1, it1⟩
    exact ⟨it1, ⟨_, F1.keep _ _ gd, rfl, _, rfl⟩⟩
  · rintro i v s' h' hx ⟨h1, tk, u, lb', rfl, F1, x1, e1, q1, it1⟩ it2 e2
    obtain ⟨o, to, rfl, ho⟩ := ia_get hd2 hx
    have F2 := frExt F1 e2 (by simpa using LI) (by simpa using gI)
    rcases Nat.eq_zero_or_pos i with hi0 | hi0
    · subst hi0
      rw [if_pos rfl] at x1
      obtain ⟨x1, rfl⟩ := x1
      have ho' : o = 144 := by rw [h144] at ho; exact (Option.some.inj ho).symm
      subst ho'
      obtain ⟨nb1, c1x⟩ := x1.bs
      have lbI : lb' ≠ I := fun q => by
        obtain ⟨ob, ho1, hc, _⟩ := it1
        rw [← q, c1x] at ho1; cases ho1
        exact absurd (Value.type.inj hc) (by decide)
      have x2 := x1.keep e2 (by simpa using oldI (k0 a)) (by simpa using oldI (k0 bd)) (by simpa using lbI) (by simpa using oldI (k0 d1))
      refine stE F2 fun h2 F3 e3 => ?_
      have F4 := frMap F3 map_twice
      have x3 := x2.keep e3 (by simpa using old_ne a hL) (by simpa using old_ne bd hL) (by simpa using old_ne c1 hL) (by simpa using old_ne d1 hL)
      have e4 : Ext [dt, lb', lm] s.heap h2 := by
        intro b ob hb e
        refine e3.keep ?_ (e2.keep ?_ (e1.keep hb e))
        · simpa using old_ne e hL
        · simpa using oldI (k0 e)
      have it3 : h2.IsListIter I data (0 + 1) := it2.at fun ob q => e3.keep (by simpa using Ne.symm LI) q
      obtain ⟨y1, ⟨z1, z2, z3, z4, z6, z7, z8, z9, z11, z12, y2⟩, _, _, _, _⟩ := id x3
      have N4 : News g L' h2 [(t, instObj 517 dt), (dt, tok0D z1 z2 z3 z4 z6 z7 z8 z9 (.int 0 z12) (.ref lb') (.ref lm) z11)] := nwCons y1 (old_ne a hL) gt (nwCons y2 (old_ne bd hL) gdt nwNil)
      clear N F F1 F2 F3
      k_steps
      refine c_fb0 (s := {s with heap := h2, toks := _}) to S (e4.stays hs (by simp [f2, f3, f4])) (by walk_at "mi_depth") x3 fun h5 tk5 lb5 e5 q5 x5 => ?_
      have F5 := frExt F4 e5 (by simpa using Ne.symm (old_ne bd hL)) (by simpa using gdt)
      have it5 : h5.IsListIter I data (0 + 1) := it3.at fun ob q => e5.keep (by simpa using Ne.symm (oldI (k0 bd))) q
      have fin : J (0 + 1) {s with heap := h5, toks := tk5} := by
        refine ⟨h5, tk5, _, lb5, rfl, F5, ?_, ?_, ?_, it5⟩
        · rw [if_neg (by decide), List.take_add_one, ho]; exact x5
        · intro b ob hb e
          refine e5.keep ?_ (e4.keep hb e)
          simp only [List.mem_cons, List.not_mem_nil, or_false, not_or] at hb ⊢
          exact hb.1
        · by_cases hbl : lb5 = lb'
          · exact .inl hbl
          · exact .inr (q5.back e4 (fun hm => by
              simp only [List.mem_cons, List.not_mem_nil, or_false] at hm
              rcases hm with rfl | rfl | rfl
              · exact q5.ne y2 rfl
              · exact hbl rfl
              · obtain ⟨nm', d1'⟩ := x3.ms
                exact q5.ne d1' rfl))
      clear_value J
      k_steps
      exact fin
    · rw [if_neg (by omega)] at x1
      have nI : ∀ r, ¬ IsInts h1 I r := fun r z => z.neIter it1 rfl
      have x2 := x1.keep2 e2 (by simpa using oldI (k0 a)) (by simpa using oldI (k0 bd)) (by simpa using oldI (k0 d1)) (by simpa using nI)
      refine stE F2 fun h2 F3 e3 => ?_
      have F4 := frMap F3 map_twice
      have x3 := x2.keep2 e3 (by simpa using old_ne a hL) (by simpa using old_ne bd hL) (by simpa using old_ne d1 hL) (by simpa using fun r (z : IsInts h' L' r) => z.neFr F2 rfl)
      have e4 : Ext [dt, lb, lm] s.heap h2 := by
        intro b ob hb e
        refine e3.keep ?_ (e2.keep ?_ (e1.keep hb e))
        · simpa using old_ne e hL
        · simpa using oldI (k0 e)
      have it3 : h2.IsListIter I data (i + 1) := it2.at fun ob q => e3.keep (by simpa using Ne.symm LI) q
      have gl : g.get? lb' = none := by
        rcases q1 with rfl | q1
        · exact glb
        · cases z : g.get? lb' with
          | none => rfl
          | some ob => 
            exact absurd rfl (q1.ne (hgs _ _ z))
      obtain ⟨y1, ⟨z1, z2, z3, z4, z5, z6, z7, z8, z9, z10, z11, z12, z13, y2, _⟩, _, _, _, _⟩ := id x3
      have N4 : News g L' h2 [(t, instObj 517 dt), (dt, tokD z1 z2 z3 z4 z5 z6 z7 z8 z9 z10 (.int _ z12) (.ref lb') (.ref lm) z11 z13)] := nwCons y1 (old_ne a hL) gt (nwCons y2 (old_ne bd hL) gdt nwNil)
      clear N F F1 F2 F3
      k_steps
      have hlen := steps_len (ns.take i) TS0
      have tz1 : TS0.bs.length = 0 := rfl
      have tz2 : TS0.ms.length = 0 := rfl
      have hi : i < ns.length := (List.getElem?_eq_some_iff.mp ho).1
      have hti : (ns.take i).length ≤ ns.length := by rw [List.length_take]; omega
      refine c_fb (s := {s with heap := h2, toks := _}) o to S (e4.stays hs (by simp [f2, f3, f4])) (by walk_at "mi_depth") (go o (List.mem_of_getElem? ho)) x3 (by rw [List.length_take] at hlen; omega) (by rw [List.length_take] at hlen; omega) fun h5 tk5 lb5 e5 q5 x5 => ?_
      have Ll : L' ≠ lb' := fun q => by
        obtain ⟨_, _, ⟨vb', nb', c1', c2'⟩, _⟩ := x3
        exact IsInts.neFr ⟨vb', nb', c1', c2'⟩ F4 q.symm
      have F5 := frExt F4 e5 (by simp [Ne.symm (old_ne bd hL), Ne.symm (old_ne d1 hL), Ll]) (by simp [gdt, gl, glm])
      have Il : I ≠ lb' := fun q => by
        obtain ⟨_, _, ⟨vb', nb', c1', c2'⟩, _⟩ := x3
        exact IsInts.neIter ⟨vb', nb', c1', c2'⟩ it3 q.symm
      have it5 : h5.IsListIter I data (i + 1) := it3.at fun ob q => e5.keep (by simp [Ne.symm (oldI (k0 bd)), Ne.symm (oldI (k0 d1)), Il]) q
      have fin : J (i + 1) {s with heap := h5, toks := tk5} := by
        refine ⟨h5, tk5, _, lb5, rfl, F5, ?_, ?_, ?_, it5⟩
        · rw [List.take_add_one, ho, List.foldl_append]; exact x5
        · intro b ob hb e
          by_cases hbl : b = lb'
          · rcases q1 with rfl | q1
            · exact absurd (by simp [hbl]) hb
            · exact absurd hbl.symm (q1.ne e)
          · refine e5.keep ?_ (e4.keep hb e)
            simp only [List.mem_cons, List.not_mem_nil, or_false, not_or] at hb ⊢
            exact ⟨hb.1, hbl, hb.2.2⟩
        · rcases q5 with rfl | q5
          · exact q1
          · by_cases hbl : lb5 = lb
            · exact .inl hbl
            · exact .inr (q5.back e4 (fun hm => by
                simp only [List.mem_cons, List.not_mem_nil, or_false] at hm
                rcases hm with rfl | rfl | rfl
                · exact q5.ne y2 rfl
                · exact hbl rfl
                · obtain ⟨_, _, _, ⟨vm', nm', d1', _⟩, _⟩ := x3
                  exact q5.ne d1' rfl))
      clear_value J
      k_steps
      exact fin
  · rintro s' h' ⟨h1, tk, u, lb', rfl, F1, x1, e1, q1, it1⟩ e2
    have F2 := frExt F1 e2 (by simpa using LI) (by simpa using gI)
    have nI : ∀ r, ¬ IsInts h1 I r := fun r z => z.neIter it1 rfl
    have hvs0 : vs.size ≠ 0 := by
      rw [ia_size hd2]
      intro q
      rw [List.eq_nil_of_length_eq_zero q] at h144
      cases h144
    rw [if_neg hvs0] at x1
    have x2 := x1.keep2 e2 (by simpa using oldI (k0 a)) (by simpa using oldI (k0 bd)) (by simpa using oldI (k0 d1)) (by simpa using nI)
    have hz : ns.take vs.size = ns := by rw [ia_size hd2]; simp
    rw [hz] at x2
    have e4 : Ext [dt, lb, lm] s.heap h' := fun b ob hb e => e2.keep (by simpa using oldI (k0 e)) (e1.keep hb e)
    clear N F F1
    k_steps
    exact hQ _ _ lb' e4 q1 x2
  · have e2 : Ext [] h₁ (h₁.push { cls := .type "list_iterator", data := .fields #[.ref data, .int 0 0] }) := ext_push _ _
    have hit : (h₁.push { cls := .type "list_iterator", data := .fields #[.ref data, .int 0 0] }).get? I = some { cls := .type "list_iterator", data := .fields #[.ref data, .int 0 0] } := by
      rw [← hI]; exact Heap.get?_push_size _ rfl
    refine ⟨_, _, none, lb, rfl, frMap (frExt F e2 (fun h => nomatch h) (fun _ h => nomatch h)) fun y => ?_, by rw [if_pos rfl]; exact ⟨(x.keep e0 (fun h => nomatch h) (fun h => nomatch h) (fun h => nomatch h) (fun h => nomatch h)).keep e2 (fun h => nomatch h) (fun h => nomatch h) (fun h => nomatch h) (fun h => nomatch h), rfl⟩, (e0.trans e2).nil, .inl rfl, ⟨_, hit, rfl, rfl⟩⟩
    by_cases hy : y = Str.ofString "byte"
    · subst hy; rfl
    · simp only [if_neg hy]
end PartJJ
theorem restKK {M : Model} {A : Around} {s : Shared} {E : Value → Shared → Prop} {env : Env} {Q : Flow → Shared → Prop} (h : Q .next s) : wpAny M A (execs [] env) Q E s := by
  w_top off
  walk1
  w_top off
  exact h
section PartKK
local macro_rules | `(tactic| k_steps) => `(tactic| repeat' (first | ((with_reducible show wpAny _ _ (call (Value.ref _) _ _) _ _ _); walk_at "mi_pc") | ((fail_if_success (with_reducible show wpAny _ _ (call (Value.ref _) _ _) _ _ _)); (fail_if_success (with_reducible show wpAny _ _ (exec (Stmt.Raise _ _ _) _) _ _ _)); first | (k_unfold; (try dsimp only)) | (k_end; wrow_close) | walk1 | (dsimp only; walk1) | (leave1; walk_say "STEP leave1"; (try dsimp only)) | fail "no step")))
local macro_rules | `(tactic| k_ne) => `(tactic| first | assumption | exact Ne.symm (by assumption))
local macro_rules | `(tactic| walk_at "call builtin:len") => `(tactic| (k_here; (with_reducible show wpAny _ _ (call (Value.builtin "len") [Value.ref _]) _ _ _); refine PyProof.Rows.len_list (News.isList (by k_asm) (by k_mem)) (by (try simp only [Array.size_push, List.size_toArray]); omega) ?_))
local macro_rules | `(tactic| walk_at "mi_ro") => `(tactic| repeat' (first | exact ro_nil | refine ro_keep (by k_mem) ?_ | refine ro_mut (by simp) ?_))
local macro_rules | `(tactic| walk_at "mi_depth") => `(tactic| ((try simp only [PySem.Around.deeper, PySem.Around.in1_depth]); omega))
local macro_rules | `(tactic| walk_at "mi_pure") => `(tactic| exact hQ _ _ (ext_of [] hgk hsz (fo_nil (base := base)) (by assumption) (by assumption) ro_nil))
local macro_rules | `(tactic| walk_at "mi_steps") => `(tactic| repeat' ((fail_if_success (with_reducible show wpAny _ _ (exec (Stmt.For _ _ _ _ _) _) _ _ _)); first | ((with_reducible show wpAny _ _ (call (Value.ref _) _ _) _ _ _); walk_at "mi_pc") | ((fail_if_success (with_reducible show wpAny _ _ (call (Value.ref _) _ _) _ _ _)); (fail_if_success (with_reducible show wpAny _ _ (exec (Stmt.Raise _ _ _) _) _ _ _)); first | (k_unfold; (try dsimp only)) | (k_end; kc_close) | walk1 | (dsimp only; walk1) | (leave1; walk_say "STEP leave1"; (try dsimp only)) | fail "no step")))
local macro_rules | `(tactic| walk_at "subscriptTail") => `(tactic| (k_here; (with_reducible show wpAny _ _ (subscriptTail _ _ (Value.ref _) (Value.str _ _)) _ _ _); k_dflt (refine' topItem_K ?F ?X ?l ?k ?e ?_; (case F => k_asm); (case X => k_asm); (case l => first | assumption | k_is); (case k => first | assumption | k_keys); (case e => first | assumption | k_is))))
local macro_rules | `(tactic| walk_at "mi_stepsC") => `(tactic| repeat' ((fail_if_success (with_reducible show wpAny _ _ (exec (Stmt.For _ _ _ _ _) _) _ _ _)); (fail_if_success (with_reducible show wpAny _ _ (exec (Stmt.Assign [_] (Expr.ListComp _ _ _ _) _) _) _ _ _)); (fail_if_success (with_reducible show wpAny _ _ (call (Value.type "zip") _) _ _ _)); (fail_if_success (with_reducible show wpAny _ _ (exec (Stmt.Assign [_] (Expr.DictComp _ _ _ _ _) _) _) _ _ _)); first | ((with_reducible show wpAny _ _ (call (Value.ref _) _ _) _ _ _); walk_at "mi_pc") | ((fail_if_success (with_reducible show wpAny _ _ (call (Value.ref _) _ _) _ _ _)); (fail_if_success (with_reducible show wpAny _ _ (exec (Stmt.Raise _ _ _) _) _ _ _)); first | (k_unfold; (try dsimp only)) | (k_end; kc_close) | walk1 | (dsimp only; walk1) | (leave1; walk_say "STEP leave1"; (try dsimp only)) | fail "no step")))
local macro_rules | `(tactic| walk_at "mi_stepsO") => `(tactic| repeat' ((fail_if_success (with_reducible show wpAny _ _ (exec (Stmt.For _ _ _ _ _) _) _ _ _)); (fail_if_success (with_reducible show wpAny _ _ (exec (Stmt.Assign [_] (Expr.ListComp _ _ _ _) _) _) _ _ _)); (fail_if_success (with_reducible show wpAny _ _ (call (Value.type "zip") _) _ _ _)); (fail_if_success (with_reducible show wpAny _ _ (exec (Stmt.Assign [_] (Expr.DictComp _ _ _ _ _) _) _) _ _ _)); first | ((with_reducible show wpAny _ _ (call (Value.ref _) _ _) _ _ _); walk_at "mi_pc") | ((fail_if_success (with_reducible show wpAny _ _ (call (Value.ref _) _ _) _ _ _)); (fail_if_success (with_reducible show wpAny _ _ (exec (Stmt.Raise _ _ _) _) _ _ _)); first | ((with_reducible show wpAny _ _ (execs _ _) _ _ _); exfalso; omega) | (k_unfold; (try dsimp only)) | (k_end; kc_close) | walk1 | (dsimp only; walk1) | (leave1; walk_say "STEP leave1"; (try dsimp only)) | fail "no step")))
structure Par0At (base h : Heap) (p dp pm t dt lb lm : Addr) : Prop where
  obj : h.get? p = some (instObj 588 dp)
  dict : ∃ q1 q2 k1 k2, h.get? dp = some (parD q1 q2 k1 k2 (.ref pm) (.ref t))
  list : ∃ n, h.get? pm = some (listOf ([] : List Value).toArray n)
  nd : [p, dp, pm, t, dt, lm, lb].Nodup
  fresh : base.get? p = none ∧ base.get? dp = none ∧ base.get? pm = none
  tok : Tok0At base h t dt lb lm
theorem c_pfeed0 (p dp pm t dt lb lm : Addr) (D : Addr) (ns : List Int) (h144 : ns[0]? = some 144) (S : Bas w mean mg mb base) (hs : base.StaysIn s.heap) (hA : A.depth + 60 < recursionLimit) (hh : A.handled = none) (hbz : base.objs.size ≤ s.heap.objs.size)
   (x : Par0At base s.heap p dp pm t dt lb lm) (go : ∀ o ∈ ns, GoodO o) (hD : IsInts s.heap D ns) (hDn : D ≠ lb ∧ D ≠ lm ∧ D ≠ pm) (hb : ns.length < 600)
   (hok : ∀ r ∈ (ns.foldl TS.step TS0).ms, RowOk r)
   (hQ : ∀ h' tk G lb' xs', Ext [pm, dt, lb, lm] s.heap h' → GExt s.gens G → ParAt prog w base h' p dp pm t dt lb' lm xs' ((ns.foldl TS.step TS0).ms) {ns.foldl TS.step TS0 with ms := []} → (lb' = lb ∨ After s.heap lb') → Q .none {s with heap := h', toks := tk, gens := G}) :
   wpAny (model prog w) A (call (.ref 550) [.ref p, .ref D]) Q E s := by
  obtain ⟨hp, ⟨q1, q2, k1, k2, hdp⟩, ⟨n0, hpm⟩, hnd, hfr, htok⟩ := x
  obtain ⟨a, ⟨b1, b2, b3, b4, b5, b6, b7, b8, b9, b10, bd⟩, ⟨nb, c1⟩, ⟨nm, d1⟩, ⟨n1, n2, n3, n4, n5, n6⟩, f1, f2, f3, f4⟩ := id htok
  have hnd' := hnd
  simp only [List.nodup_cons, List.mem_cons, List.not_mem_nil, or_false, not_or, not_false_eq_true, List.nodup_nil, and_true] at hnd
  obtain ⟨⟨m1, m2, m3, m4, m5, m6⟩, ⟨m7, m8, m9, m10, m11⟩, ⟨m12, m13, m14, m15⟩, ⟨m16, m17, m18⟩, ⟨m19, m20⟩, m21⟩ := hnd
  have hfo := fo_cons hp hfr.1 (fo_cons hdp hfr.2.1 (fo_cons hpm hfr.2.2 (fo_cons a f1 (fo_cons bd f2 (fo_cons c1 f3 (fo_cons d1 f4 (fo_nil (h := s.heap) (base := base))))))))
  refine enterM (binds := [(Str.ofString "self", .ref p), (Str.ofString "data", .ref D)]) _ S hs hfo (by k_is) (by k_is) (by omega) (.of_eq rfl) (locs rfl) ?_
  intro g L' h₁ hg F N X TT hgk hsz hL hgs
  k_steps
  have k0 : Ext [] s.heap h₁ := ext_of [] hgk hsz hfo F N (by walk_at "mi_ro")
  have hs1 : base.StaysIn h₁ := fun b o q => F.keep b o (hg b o q)
  have tok1 := htok.keep k0 (fun h => nomatch h) (fun h => nomatch h) (fun h => nomatch h) (fun h => nomatch h)
  have st : base.StaysIn (hideAll h₁ [t, dt, lb, lm]) := fun b o e => hideAll_get _ (hs1 b o e) (by
    simp only [List.mem_cons, List.not_mem_nil, or_false, not_or]
    refine ⟨fun q => ?_, fun q => ?_, fun q => ?_, fun q => ?_⟩
    · rw [q, f1] at e; cases e
    · rw [q, f2] at e; cases e
    · rw [q, f3] at e; cases e
    · rw [q, f4] at e; cases e)
  have S' : Bas w mean mg mb (hideAll h₁ [t, dt, lb, lm]) := ⟨S.X.keeps st, S.T.keeps st⟩
  have tok' : Tok0At (hideAll h₁ [t, dt, lb, lm]) h₁ t dt lb lm :=
    ⟨tok1.obj, tok1.dict, tok1.bs, tok1.ms, tok1.ne, hideAll_none _ (by simp), hideAll_none _ (by simp), hideAll_none _ (by simp), hideAll_none _ (by simp)⟩
  have sl := steps_len ns TS0
  have tz1 : TS0.bs.length = 0 := rfl
  have tz2 : TS0.ms.length = 0 := rfl
  refine c_feed0 (base := hideAll h₁ [t, dt, lb, lm]) D ns h144 S' (fun b o e => of_hideAll _ e) (by walk_at "mi_depth") hh go tok' (hD.keep k0 (fun h => nomatch h)) ⟨hDn.1, hDn.2.1⟩ (by omega) fun h5 tk5 lb5 e5 q5 x5 => ?_
  have gdt := N.fresh (.tail _ (.tail _ (.tail _ (.tail _ (.head _)))))
  have glb := N.fresh (.tail _ (.tail _ (.tail _ (.tail _ (.tail _ (.head _))))))
  have glm := N.fresh (.tail _ (.tail _ (.tail _ (.tail _ (.tail _ (.tail _ (.head _)))))))
  have Ldt := (N _ (.tail _ (.tail _ (.tail _ (.tail _ (.head _)))))).2.1
  have Llb := (N _ (.tail _ (.tail _ (.tail _ (.tail _ (.tail _ (.head _))))))).2.1
  have Llm := (N _ (.tail _ (.tail _ (.tail _ (.tail _ (.tail _ (.tail _ (.head _)))))))).2.1
  have F5 := frExt F e5 (by simp [Ne.symm Ldt, Ne.symm Llb, Ne.symm Llm]) (by simp [gdt, glb, glm])
  have N5 : News g L' h5 [(p, instObj 588 dp), (dp, parD q1 q2 k1 k2 (.ref pm) (.ref t)), (pm, listOf ([] : List Value).toArray n0)] :=
    nwExt (allCons (N _ (.head _)) (allCons (N _ (.tail _ (.head _))) (allCons (N _ (.tail _ (.tail _ (.head _)))) allNil))) e5 (allCons (by simp [m4, m6, m5]) (allCons (by simp [m9, m11, m10]) (allCons (by simp [m13, m15, m14]) allNil)))
  have tok5 := x5.weaken st
  have hnd5 : [p, dp, pm, t, dt, lm, lb5].Nodup := by
    rcases q5 with rfl | q5
    · exact hnd'
    · have r1 := q5.ne (k0.none hp)
      have r2 := q5.ne (k0.none hdp)
      have r3 := q5.ne (k0.none hpm)
      have r4 := q5.ne (k0.none a)
      have r5 := q5.ne (k0.none bd)
      have r6 := q5.ne (k0.none d1)
      simp only [List.nodup_cons, List.mem_cons, List.not_mem_nil, or_false, not_or, not_false_eq_true, List.nodup_nil, and_true]
      exact ⟨⟨m1, m2, m3, m4, m5, Ne.symm r1⟩, ⟨m7, m8, m9, m10, Ne.symm r2⟩, ⟨m12, m13, m14, Ne.symm r3⟩, ⟨m16, m17, Ne.symm r4⟩, ⟨m19, Ne.symm r5⟩, Ne.symm r6⟩
  have fgn : ∀ b ∈ [dt, lb, lm], b ∈ [p, dp, pm, t, dt, lm] ∨ Foreign h₁ b := by
    intro b hb
    simp only [List.mem_cons, List.not_mem_nil, or_false] at hb
    rcases hb with rfl | rfl | rfl
    · exact .inl (by simp)
    · refine .inr fun o ho => ?_
      rw [k0.none c1] at ho
      cases ho
      exact ⟨"list", rfl, by decide, by decide⟩
    · exact .inl (by simp)
  have hms5 : MsgsAt prog w base [p, dp, pm, t, dt, lm] h5 [] [] := .nil
  have hpm1 : (hideAll h₁ [t, dt, lb, lm]).get? pm = some (listOf ([] : List Value).toArray n0) := hideAll_get _ (k0.none hpm) (by simp [m12, m13, m15, m14])
  clear F N
  k_steps
  refine c_dec p dp pm t dt lb5 lm q1 q2 k1 k2 [] n0 [] (ns.foldl TS.step TS0) S (fun b o q => F5.keep b o (hg b o q)) (by walk_at "mi_depth") hh (Nat.le_trans hbz (Nat.le_of_lt (hL ▸ F5.ns.lt))) (N5.get (.head _)) (N5.get (.tail _ (.head _))) (N5.get (.tail _ (.tail _ (.head _)))) hnd5 hfr tok5 ?_ hok hms5 (by rw [List.length_nil]; omega) fun h7 tk7 G xs' n' e7 g7 l7 m7' t7 => ?_
  · intro vm nm' hvm b hb
    obtain ⟨_, _, _, ⟨vm2, nm2, y4, y5, y6⟩, _⟩ := x5
    have hvm' : h5.get? lm = some (listOf vm nm') := hvm
    rw [y4] at hvm'
    have hdt := congrArg Obj.data (Option.some.inj hvm')
    have h2 : vm2 = vm := by injection hdt
    subst h2
    obtain ⟨_, _, ⟨_, z5⟩, _⟩ := y6 b hb
    intro q
    rw [q, hpm1] at z5
    cases z5
  have e17 : Ext [pm, dt, lb, lm] s.heap h7 := (k0.nil.trans (e5.mono (m' := [pm, dt, lb, lm]) (fun b hb => .inl (List.mem_cons_of_mem _ hb)))).trans (e7.mono (m' := [pm, dt, lb, lm]) (fun b hb => .inl (by
    simp only [List.mem_cons, List.not_mem_nil, or_false] at hb ⊢
    rcases hb with rfl | rfl
    · exact .inl rfl
    · exact .inr (.inr (.inr rfl)))))
  have Lpm := (N5 _ (.tail _ (.tail _ (.head _)))).2.1
  have gpm := N5.fresh (.tail _ (.tail _ (.head _)))
  have F7 := frExt F5 e7 (by simp [Ne.symm Lpm, Ne.symm Llm]) (by simp [gpm, glm])
  have N7 : News g L' h7 [(p, instObj 588 dp), (dp, parD q1 q2 k1 k2 (.ref pm) (.ref t))] := nwExt (allCons (N5 _ (.head _)) (allCons (N5 _ (.tail _ (.head _))) allNil)) e7 (allCons (by simp [m2, m5]) (allCons (by simp [m7, m10]) allNil))
  clear F5 N5
  k_steps
  rw [List.nil_append] at l7 m7'
  rw [List.nil_append] at m7'
  exact hQ _ _ G lb5 xs' e17 g7 ⟨e17.keep (by simp [m2, m4, m6, m5]) hp, ⟨q1, q2, k1, k2, e17.keep (by simp [m7, m9, m11, m10]) hdp⟩, ⟨_, l7⟩, hnd5, hfr, t7, rfl, m7'⟩ (q5.imp id (fun z => z.back k0 (fun h => nomatch h)))
end PartKK
theorem restLL {M : Model} {A : Around} {s : Shared} {E : Value → Shared → Prop} {env : Env} {Q : Flow → Shared → Prop} (h : Q .next s) : wpAny M A (execs [] env) Q E s := by
  w_top off
  walk1
  w_top off
  exact h
section PartLL
local macro_rules | `(tactic| k_steps) => `(tactic| repeat' (first | ((with_reducible show wpAny _ _ (call (Value.ref _) _ _) _ _ _); walk_at "mi_pc") | ((fail_if_success (with_reducible show wpAny _ _ (call (Value.ref _) _ _) _ _ _)); (fail_if_success (with_reducible show wpAny _ _ (exec (Stmt.Raise _ _ _) _) _ _ _)); first | (k_unfold; (try dsimp only)) | (k_end; wrow_close) | walk1 | (dsimp only; walk1) | (leave1; walk_say "STEP leave1"; (try dsimp only)) | fail "no step")))
local macro_rules | `(tactic| k_ne) => `(tactic| first | assumption | exact Ne.symm (by assumption))
local macro_rules | `(tactic| walk_at "call builtin:len") => `(tactic| (k_here; (with_reducible show wpAny _ _ (call (Value.builtin "len") [Value.ref _]) _ _ _); refine PyProof.Rows.len_list (News.isList (by k_asm) (by k_mem)) (by (try simp only [Array.size_push, List.size_toArray]); omega) ?_))
local macro_rules | `(tactic| walk_at "mi_ro") => `(tactic| repeat' (first | exact ro_nil | refine ro_keep (by k_mem) ?_ | refine ro_mut (by simp) ?_))
local macro_rules | `(tactic| walk_at "mi_depth") => `(tactic| ((try simp only [PySem.Around.deeper, PySem.Around.in1_depth]); omega))
local macro_rules | `(tactic| walk_at "mi_pure") => `(tactic| exact hQ _ _ (ext_of [] hgk hsz (fo_nil (base := base)) (by assumption) (by assumption) ro_nil))
local macro_rules | `(tactic| walk_at "mi_steps") => `(tactic| repeat' ((fail_if_success (with_reducible show wpAny _ _ (exec (Stmt.For _ _ _ _ _) _) _ _ _)); first | ((with_reducible show wpAny _ _ (call (Value.ref _) _ _) _ _ _); walk_at "mi_pc") | ((fail_if_success (with_reducible show wpAny _ _ (call (Value.ref _) _ _) _ _ _)); (fail_if_success (with_reducible show wpAny _ _ (exec (Stmt.Raise _ _ _) _) _ _ _)); first | (k_unfold; (try dsimp only)) | (k_end; kc_close) | walk1 | (dsimp only; walk1) | (leave1; walk_say "STEP leave1"; (try dsimp only)) | fail "no step")))
local macro_rules | `(tactic| walk_at "subscriptTail") => `(tactic| (k_here; (with_reducible show wpAny _ _ (subscriptTail _ _ (Value.ref _) (Value.str _ _)) _ _ _); k_dflt (refine' topItem_K ?F ?X ?l ?k ?e ?_; (case F => k_asm); (case X => k_asm); (case l => first | assumption | k_is); (case k => first | assumption | k_keys); (case e => first | assumption | k_is))))
local macro_rules | `(tactic| walk_at "mi_stepsC") => `(tactic| repeat' ((fail_if_success (with_reducible show wpAny _ _ (exec (Stmt.For _ _ _ _ _) _) _ _ _)); (fail_if_success (with_reducible show wpAny _ _ (exec (Stmt.Assign [_] (Expr.ListComp _ _ _ _) _) _) _ _ _)); (fail_if_success (with_reducible show wpAny _ _ (call (Value.type "zip") _) _ _ _)); (fail_if_success (with_reducible show wpAny _ _ (exec (Stmt.Assign [_] (Expr.DictComp _ _ _ _ _) _) _) _ _ _)); first | ((with_reducible show wpAny _ _ (call (Value.ref _) _ _) _ _ _); walk_at "mi_pc") | ((fail_if_success (with_reducible show wpAny _ _ (call (Value.ref _) _ _) _ _ _)); (fail_if_success (with_reducible show wpAny _ _ (exec (Stmt.Raise _ _ _) _) _ _ _)); first | (k_unfold; (try dsimp only)) | (k_end; kc_close) | walk1 | (dsimp only; walk1) | (leave1; walk_say "STEP leave1"; (try dsimp only)) | fail "no step")))
local macro_rules | `(tactic| walk_at "mi_stepsO") => `(tactic| repeat' ((fail_if_success (with_reducible show wpAny _ _ (exec (Stmt.For _ _ _ _ _) _) _ _ _)); (fail_if_success (with_reducible show wpAny _ _ (exec (Stmt.Assign [_] (Expr.ListComp _ _ _ _) _) _) _ _ _)); (fail_if_success (with_reducible show wpAny _ _ (call (Value.type "zip") _) _ _ _)); (fail_if_success (with_reducible show wpAny _ _ (exec (Stmt.Assign [_] (Expr.DictComp _ _ _ _ _) _) _) _ _ _)); first | ((with_reducible show wpAny _ _ (call (Value.ref _) _ _) _ _ _); walk_at "mi_pc") | ((fail_if_success (with_reducible show wpAny _ _ (call (Value.ref _) _ _) _ _ _)); (fail_if_success (with_reducible show wpAny _ _ (exec (Stmt.Raise _ _ _) _) _ _ _)); first | ((with_reducible show wpAny _ _ (execs _ _) _ _ _); exfalso; omega) | (k_unfold; (try dsimp only)) | (k_end; kc_close) | walk1 | (dsimp only; walk1) | (leave1; walk_say "STEP leave1"; (try dsimp only)) | fail "no step")))
local macro_rules | `(tactic| walk_at "newList") => `(tactic| (k_here; k_dflt (refine' newList_M ?k1 ?k2 ?_; (case k1 => k_asm); (case k2 => k_asm); k_whole); intro l' h' F' N' l1 l2; (try k_lt l1); (try k_sweep)))
theorem c_Tok (S : Bas w mean mg mb base) (hs : base.StaysIn s.heap) (hA : A.depth + 6 < recursionLimit)
   (hQ : ∀ h' tk t dt lb lm, Ext [] s.heap h' → (After s.heap t ∧ After s.heap dt ∧ After s.heap lb ∧ After s.heap lm) → Tok0At base h' t dt lb lm → Q (.ref t) {s with heap := h', toks := tk}) :
   wpAny (model prog w) A (call (.ref 517) []) Q E s := by
  have Xs : (hd.heap_39 w.params).In s.heap := S.X.keeps hs
  obtain ⟨hp, gs, dr, tk, os⟩ := s
  have e1 : makesIn (hd.heap_39 w.params) 517 = true := by k_is
  have e2 : findIn (hd.heap_39 w.params) (.ref 517) "__init__" = some (some (.ref 472)) := by k_is
  have e3 : typeIn (hd.heap_39 w.params) (.ref 472) = some (.type "function") := by k_is
  refine wpAny_call (make_core (makes_of Xs e1) (looks_findIn Xs e2) (fun self => bind_fn Xs self e3) (.inl rfl) ?_)
  have hz : (hp.push emptyDict).objs.size = hp.objs.size + 1 := Heap.size_push ..
  have up : ∀ {b : Addr} {o : Obj}, hp.get? b = some o → ((hp.push emptyDict).push (instObj 517 hp.objs.size)).get? b = some o := fun e => Heap.get?_push_of_some _ (Heap.get?_push_of_some _ e)
  have f1 : After hp hp.objs.size := by
    unfold After
    cases q : hp.get? hp.objs.size with
    | none => rfl
    | some o => exact absurd (Heap.lt_size q) (Nat.lt_irrefl _)
  have f2 : After hp (hp.objs.size + 1) := by
    unfold After
    cases q : hp.get? (hp.objs.size + 1) with
    | none => rfl
    | some o => exact absurd (Heap.lt_size q) (Nat.not_lt.mpr (Nat.le_succ _))
  have gx : ((hp.push emptyDict).push (instObj 517 hp.objs.size)).get? (hp.objs.size + 1) = some (instObj 517 hp.objs.size) := hz ▸ Heap.get?_push_size _ rfl
  have gd : ((hp.push emptyDict).push (instObj 517 hp.objs.size)).get? hp.objs.size = some (dictOf [] 0) := Heap.get?_push_of_some _ (Heap.get?_push_size _ rfl)
  have hs0 : base.StaysIn hp := hs
  have hs1 : base.StaysIn ((hp.push emptyDict).push (instObj 517 hp.objs.size)) := fun b o e => up (hs b o e)
  have nn : hp.objs.size + 1 ≠ hp.objs.size := Nat.succ_ne_self _
  have bt := f2.base hs0
  have bdt := f1.base hs0
  generalize hp.objs.size + 1 = t at *
  generalize hp.objs.size = dt at *
  generalize hhp : (hp.push emptyDict).push (instObj 517 dt) = hp2 at *
  have eup : Ext [] hp hp2 := fun b o _ e => up e
  have hfo := fo_cons gx bt (fo_cons gd bdt (fo_nil (h := hp2) (base := base)))
  have Xs2 : (hd.heap_39 w.params).In hp2 := S.X.keeps hs1
  refine enterR (s := ⟨hp2, gs, dr, tk, os⟩) (binds := [(Str.ofString "self", .ref t), (Str.ofString "data", .none)]) _ S hs1 hfo (by k_is) (by k_is) (by show A.depth + 1 < recursionLimit; omega) ?bd (locs rfl) ?_
  case bd => exact binds_K (s := ⟨hp2, gs, dr, tk, os⟩) Xs2 rfl (by k_is) rfl rfl rfl
  intro g L' h₁ hg F N X TT hgk hsz hL hgs
  have ntd := nn
  k_steps
  rename Fr g L' _ _ => F2
  rename News g L' _ _ => N2
  rename (@LT.lt Nat _ _ _ ∧ @LT.lt Nat _ t _ ∧ @LT.lt Nat _ dt _) => z1
  rename (@LT.lt Nat _ t _ ∧ @LT.lt Nat _ dt _) => z0
  have gm := N2.fresh (.head _)
  have gb := N2.fresh (.tail _ (.head _))
  have am := after_none hgk gm (by simpa using ⟨Nat.ne_of_gt z1.2.1, Nat.ne_of_gt z1.2.2⟩)
  have ab := after_none hgk gb (by simpa using ⟨Nat.ne_of_gt z0.1, Nat.ne_of_gt z0.2⟩)
  refine ⟨rfl, hQ _ _ t dt _ _ (fun b o _ e => ?_) ⟨f2, f1, ab.back eup (fun h => nomatch h), am.back eup (fun h => nomatch h)⟩
    ⟨N2.get (.tail _ (.tail _ (.head _))), ⟨_, _, _, _, _, _, _, _, _, _, N2.get (.tail _ (.tail _ (.tail _ (.head _))))⟩, ⟨_, N2.get (.tail _ (.head _))⟩, ⟨_, N2.get (.head _)⟩, ⟨nn, Nat.ne_of_lt z0.1, Nat.ne_of_lt z1.2.1, Nat.ne_of_lt z0.2, Nat.ne_of_lt z1.2.2, Nat.ne_of_lt z1.1⟩, bt, bdt, base_none hg gb, base_none hg gm⟩⟩
  have e2 := up e
  have bt' : b ≠ t := f2.ne e |>.symm
  have bdt' : b ≠ dt := f1.ne e |>.symm
  exact F2.keep _ _ (hgk b o (by simpa using ⟨bt', bdt'⟩) e2)
theorem c_Par (S : Bas w mean mg mb base) (hs : base.StaysIn s.heap) (hA : A.depth + 14 < recursionLimit)
   (hQ : ∀ h' tk p dp pm t dt lb lm, Ext [] s.heap h' → (∀ b ∈ [p, dp, pm, t, dt, lm, lb], After s.heap b) → Par0At base h' p dp pm t dt lb lm → Q (.ref p) {s with heap := h', toks := tk}) :
   wpAny (model prog w) A (call (.ref 588) []) Q E s := by
  have Xs : (hd.heap_39 w.params).In s.heap := S.X.keeps hs
  obtain ⟨hp, gs, dr, tk, os⟩ := s
  have e1 : makesIn (hd.heap_39 w.params) 588 = true := by k_is
  have e2 : findIn (hd.heap_39 w.params) (.ref 588) "__init__" = some (some (.ref 536)) := by k_is
  have e3 : typeIn (hd.heap_39 w.params) (.ref 536) = some (.type "function") := by k_is
  refine wpAny_call (make_core (makes_of Xs e1) (looks_findIn Xs e2) (fun self => bind_fn Xs self e3) (.inl rfl) ?_)
  have hz : (hp.push emptyDict).objs.size = hp.objs.size + 1 := Heap.size_push ..
  have up : ∀ {b : Addr} {o : Obj}, hp.get? b = some o → ((hp.push emptyDict).push (instObj 588 hp.objs.size)).get? b = some o := fun e => Heap.get?_push_of_some _ (Heap.get?_push_of_some _ e)
  have f1 : After hp hp.objs.size := by
    unfold After
    cases q : hp.get? hp.objs.size with
    | none => rfl
    | some o => exact absurd (Heap.lt_size q) (Nat.lt_irrefl _)
  have f2 : After hp (hp.objs.size + 1) := by
    unfold After
    cases q : hp.get? (hp.objs.size + 1) with
    | none => rfl
    | some o => exact absurd (Heap.lt_size q) (Nat.not_lt.mpr (Nat.le_succ _))
  have gx : ((hp.push emptyDict).push (instObj 588 hp.objs.size)).get? (hp.objs.size + 1) = some (instObj 588 hp.objs.size) := hz ▸ Heap.get?_push_size _ rfl
  have gd : ((hp.push emptyDict).push (instObj 588 hp.objs.size)).get? hp.objs.size = some (dictOf [] 0) := Heap.get?_push_of_some _ (Heap.get?_push_size _ rfl)
  have hs0 : base.StaysIn hp := hs
  have hs1 : base.StaysIn ((hp.push emptyDict).push (instObj 588 hp.objs.size)) := fun b o e => up (hs b o e)
  have nn : hp.objs.size + 1 ≠ hp.objs.size := Nat.succ_ne_self _
  have bt := f2.base hs0
  have bdt := f1.base hs0
  generalize hp.objs.size + 1 = p at *
  generalize hp.objs.size = dp at *
  generalize hhp : (hp.push emptyDict).push (instObj 588 dp) = hp2 at *
  have eup : Ext [] hp hp2 := fun b o _ e => up e
  have hfo := fo_cons gx bt (fo_cons gd bdt (fo_nil (h := hp2) (base := base)))
  have Xs2 : (hd.heap_39 w.params).In hp2 := S.X.keeps hs1
  refine enterR (s := ⟨hp2, gs, dr, tk, os⟩) (binds := [(Str.ofString "self", .ref p), (Str.ofString "data", .none)]) _ S hs1 hfo (by k_is) (by k_is) (by show A.depth + 1 < recursionLimit; omega) ?bd (locs rfl) ?_
  case bd => exact binds_K (s := ⟨hp2, gs, dr, tk, os⟩) Xs2 rfl (by k_is) rfl rfl rfl
  intro g L' h₁ hg F N X TT hgk hsz hL hgs
  have ntd := nn
  k_steps
  rename Fr g L' _ _ => F2
  rename News g L' _ _ => N2
  rename (@LT.lt Nat _ p _ ∧ @LT.lt Nat _ dp _) => z0
  refine c_Tok S (fun b o q => F2.keep b o (hg b o q)) (by show A.depth + 1 + 1 + 6 < recursionLimit; omega) fun h6 tk6 t dt lb lm e6 aa6 tok6 => ?_
  obtain ⟨a1, a2, a3, a4⟩ := aa6
  obtain ⟨y1, ⟨b1, b2, b3, b4, b5, b6, b7, b8, b9, b10, y2⟩, ⟨nb, y3⟩, ⟨nm, y4⟩, ⟨n1, n2, n3, n4, n5, n6⟩, y6⟩ := id tok6
  have F6 := frExt F2 e6 (fun h => nomatch h) (fun _ h => nomatch h)
  have gpm := N2.fresh (.head _)
  have c1 : ∀ {b : Addr}, After _ b → b ≠ p := fun x => x.ne (N2.get (.tail _ (.head _)))
  have tp := a1.ne (N2.get (.tail _ (.head _)))
  have dtp := a2.ne (N2.get (.tail _ (.head _)))
  have lbp := a3.ne (N2.get (.tail _ (.head _)))
  have lmp := a4.ne (N2.get (.tail _ (.head _)))
  have tm := a1.ne (N2.get (.head _))
  have dtm := a2.ne (N2.get (.head _))
  have lbm := a3.ne (N2.get (.head _))
  have lmm := a4.ne (N2.get (.head _))
  have td := a1.ne (N2.get (.tail _ (.tail _ (.head _))))
  have dtd := a2.ne (N2.get (.tail _ (.tail _ (.head _))))
  have lbd := a3.ne (N2.get (.tail _ (.tail _ (.head _))))
  have lmd := a4.ne (N2.get (.tail _ (.tail _ (.head _))))
  have N6 := nwCons y1 (goneL F2 a1) (gone F2 a1) (nwCons y2 (goneL F2 a2) (gone F2 a2) (nwCons y3 (goneL F2 a3) (gone F2 a3) (nwCons y4 (goneL F2 a4) (gone F2 a4) (nwExt N2 e6 (fun _ _ h => nomatch h)))))
  have mp := Nat.ne_of_gt z0.1
  have md := Nat.ne_of_gt z0.2
  clear F2 N2 c1
  k_steps
  rename Fr g L' _ _ => F8
  rename News g L' _ _ => N8
  have am := after_none hgk gpm (by simpa using ⟨mp, md⟩)
  have f8 : ∀ {b : Addr} {o : Obj} (m : (b, o) ∈ _), b ≠ p → b ≠ dp → After hp b := fun m h1 h2 => (after_none hgk (N8.fresh m) (by simpa using ⟨h1, h2⟩)).back eup (fun h => nomatch h)
  refine ⟨rfl, hQ _ _ p dp _ t dt lb lm (fun b o _ e => ?_) ?_ ⟨N8.get (.tail _ (.tail _ (.tail _ (.tail _ (.tail _ (.head _)))))), ⟨_, _, _, _, N8.get (.tail _ (.tail _ (.tail _ (.tail _ (.tail _ (.tail _ (.head _))))))) ⟩, ⟨_, N8.get (.tail _ (.tail _ (.tail _ (.tail _ (.head _)))))⟩, ?_, ⟨bt, bdt, base_none hg gpm⟩,
    ⟨N8.get (.head _), ⟨_, _, _, _, _, _, _, _, _, _, N8.get (.tail _ (.head _))⟩, ⟨nb, N8.get (.tail _ (.tail _ (.head _)))⟩, ⟨nm, N8.get (.tail _ (.tail _ (.tail _ (.head _))))⟩, ⟨n1, n2, n3, n4, n5, n6⟩, y6⟩⟩⟩
  · have e2 := up e
    have bt' : b ≠ p := f2.ne e |>.symm
    have bdt' : b ≠ dp := f1.ne e |>.symm
    exact F8.keep _ _ (hgk b o (by simpa using ⟨bt', bdt'⟩) e2)
  · intro b hb
    simp only [List.mem_cons, List.not_mem_nil, or_false] at hb
    rcases hb with rfl | rfl | rfl | rfl | rfl | rfl | rfl
    · exact f2
    · exact f1
    · exact am.back eup (fun h => nomatch h)
    · exact f8 (.head _) tp td
    · exact f8 (.tail _ (.head _)) dtp dtd
    · exact f8 (.tail _ (.tail _ (.tail _ (.head _)))) lmp lmd
    · exact f8 (.tail _ (.tail _ (.head _))) lbp lbd
  · simp only [List.nodup_cons, List.mem_cons, List.not_mem_nil, or_false, not_or, not_false_eq_true, List.nodup_nil, and_true]
    exact ⟨⟨nn, Ne.symm mp, Ne.symm tp, Ne.symm dtp, Ne.symm lmp, Ne.symm lbp⟩, ⟨Ne.symm md, Ne.symm td, Ne.symm dtd, Ne.symm lmd, Ne.symm lbd⟩, ⟨Ne.symm tm, Ne.symm dtm, Ne.symm lmm, Ne.symm lbm⟩, ⟨n1, n3, n2⟩, ⟨n5, n4⟩, Ne.symm n6⟩
end PartLL
theorem restMM {M : Model} {A : Around} {s : Shared} {E : Value → Shared → Prop} {env : Env} {Q : Flow → Shared → Prop} (h : Q .next s) : wpAny M A (execs [] env) Q E s := by
  w_top off
  walk1
  w_top off
  exact h
section PartMM
local macro_rules | `(tactic| k_steps) => `(tactic| repeat' (first | ((with_reducible show wpAny _ _ (call (Value.ref _) _ _) _ _ _); walk_at "mi_pc") | ((fail_if_success (with_reducible show wpAny _ _ (call (Value.ref _) _ _) _ _ _)); (fail_if_success (with_reducible show wpAny _ _ (exec (Stmt.Raise _ _ _) _) _ _ _)); first | (k_unfold; (try dsimp only)) | (k_end; wrow_close) | walk1 | (dsimp only; walk1) | (leave1; walk_say "STEP leave1"; (try dsimp only)) | fail "no step")))
local macro_rules | `(tactic| k_ne) => `(tactic| first | assumption | exact Ne.symm (by assumption))
local macro_rules | `(tactic| walk_at "call builtin:len") => `(tactic| (k_here; (with_reducible show wpAny _ _ (call (Value.builtin "len") [Value.ref _]) _ _ _); refine PyProof.Rows.len_list (News.isList (by k_asm) (by k_mem)) (by (try simp only [Array.size_push, List.size_toArray]); omega) ?_))
local macro_rules | `(tactic| walk_at "mi_ro") => `(tactic| repeat' (first | exact ro_nil | refine ro_keep (by k_mem) ?_ | refine ro_mut (by simp) ?_))
local macro_rules | `(tactic| walk_at "mi_depth") => `(tactic| ((try simp only [PySem.Around.deeper, PySem.Around.in1_depth]); omega))
local macro_rules | `(tactic| walk_at "mi_pure") => `(tactic| exact hQ _ _ (ext_of [] hgk hsz (fo_nil (base := base)) (by assumption) (by assumption) ro_nil))
local macro_rules | `(tactic| walk_at "mi_steps") => `(tactic| repeat' ((fail_if_success (with_reducible show wpAny _ _ (exec (Stmt.For _ _ _ _ _) _) _ _ _)); first | ((with_reducible show wpAny _ _ (call (Value.ref _) _ _) _ _ _); walk_at "mi_pc") | ((fail_if_success (with_reducible show wpAny _ _ (call (Value.ref _) _ _) _ _ _)); (fail_if_success (with_reducible show wpAny _ _ (exec (Stmt.Raise _ _ _) _) _ _ _)); first | (k_unfold; (try dsimp only)) | (k_end; kc_close) | walk1 | (dsimp only; walk1) | (leave1; walk_say "STEP leave1"; (try dsimp only)) | fail "no step")))
local macro_rules | `(tactic| walk_at "subscriptTail") => `(tactic| (k_here; (with_reducible show wpAny _ _ (subscriptTail _ _ (Value.ref _) (Value.str _ _)) _ _ _); k_dflt (refine' topItem_K ?F ?X ?l ?k ?e ?_; (case F => k_asm); (case X => k_asm); (case l => first | assumption | k_is); (case k => first | assumption | k_keys); (case e => first | assumption | k_is))))
local macro_rules | `(tactic| walk_at "mi_stepsC") => `(tactic| repeat' ((fail_if_success (with_reducible show wpAny _ _ (exec (Stmt.For _ _ _ _ _) _) _ _ _)); (fail_if_success (with_reducible show wpAny _ _ (exec (Stmt.Assign [_] (Expr.ListComp _ _ _ _) _) _) _ _ _)); (fail_if_success (with_reducible show wpAny _ _ (call (Value.type "zip") _) _ _ _)); (fail_if_success (with_reducible show wpAny _ _ (exec (Stmt.Assign [_] (Expr.DictComp _ _ _ _ _) _) _) _ _ _)); first | ((with_reducible show wpAny _ _ (call (Value.ref _) _ _) _ _ _); walk_at "mi_pc") | ((fail_if_success (with_reducible show wpAny _ _ (call (Value.ref _) _ _) _ _ _)); (fail_if_success (with_reducible show wpAny _ _ (exec (Stmt.Raise _ _ _) _) _ _ _)); first | (k_unfold; (try dsimp only)) | (k_end; kc_close) | walk1 | (dsimp only; walk1) | (leave1; walk_say "STEP leave1"; (try dsimp only)) | fail "no step")))
local macro_rules | `(tactic| walk_at "mi_stepsO") => `(tactic| repeat' ((fail_if_success (with_reducible show wpAny _ _ (exec (Stmt.For _ _ _ _ _) _) _ _ _)); (fail_if_success (with_reducible show wpAny _ _ (exec (Stmt.Assign [_] (Expr.ListComp _ _ _ _) _) _) _ _ _)); (fail_if_success (with_reducible show wpAny _ _ (call (Value.type "zip") _) _ _ _)); (fail_if_success (with_reducible show wpAny _ _ (exec (Stmt.Assign [_] (Expr.DictComp _ _ _ _ _) _) _) _ _ _)); first | ((with_reducible show wpAny _ _ (call (Value.ref _) _ _) _ _ _); walk_at "mi_pc") | ((fail_if_success (with_reducible show wpAny _ _ (call (Value.ref _) _ _) _ _ _)); (fail_if_success (with_reducible show wpAny _ _ (exec (Stmt.Raise _ _ _) _) _ _ _)); first | ((with_reducible show wpAny _ _ (execs _ _) _ _ _); exfalso; omega) | (k_unfold; (try dsimp only)) | (k_end; kc_close) | walk1 | (dsimp only; walk1) | (leave1; walk_say "STEP leave1"; (try dsimp only)) | fail "no step")))
theorem c_pend (p dp pm : Addr) (q1 q2 : Int) (k1 k2 : Tok) (tv : Value) (xs : List Value) (n0 : Nat) (S : Bas w mean mg mb base) (hs : base.StaysIn s.heap) (hA : A.depth + 6 < recursionLimit) (hz : xs.length < 900)
   (hfo : ∀ b ∈ [(p, instObj 588 dp), (dp, parD q1 q2 k1 k2 (.ref pm) tv), (pm, listOf xs.toArray n0)], s.heap.get? b.1 = some b.2 ∧ base.get? b.1 = none)
   (hQ : ∀ h' tk tt, Ext [] s.heap h' → Q (.int xs.length tt) {s with heap := h', toks := tk}) :
   wpAny (model prog w) A (call (.ref 571) [.ref p]) Q E s := by
  have hz' : xs.toArray.size < 900 := by simpa using hz
  refine enterM (binds := [(Str.ofString "self", .ref p)]) _ S hs hfo (by k_is) (by k_is) (by omega) (.of_eq rfl) (locs rfl) ?_
  intro g L' h₁ hg F N X TT hgk hsz hL hgs
  k_steps
  rename Fr g L' _ _ => F2
  rename News g L' _ _ => N2
  have e : ((xs.toArray.size : Nat) : Int) = xs.length := by simp
  exact Eq.mp (congrArg (fun z => Q (.int z _) _) e.symm) (hQ _ _ _ (ext_of [] hgk hsz hfo F2 N2 (by walk_at "mi_ro")))
theorem c_len {R : Result → Shared → Prop} (p dp pm : Addr) (q1 q2 : Int) (k1 k2 : Tok) (tv : Value) (xs : List Value) (n0 : Nat) (S : Bas w mean mg mb base) (hs : base.StaysIn s.heap) (hA : A.depth + 10 < recursionLimit) (hz : xs.length < 900)
   (hfo : ∀ b ∈ [(p, instObj 588 dp), (dp, parD q1 q2 k1 k2 (.ref pm) tv), (pm, listOf xs.toArray n0)], s.heap.get? b.1 = some b.2 ∧ base.get? b.1 = none)
   (hQ : ∀ h' tk tt, Ext [] s.heap h' → R (.ok (.ret (.int xs.length tt))) {s with heap := h', toks := tk}) :
   codeAny (model prog w) A (.call (.ref 578) ⟨[.ref p], []⟩) R s := by
  refine enterR (binds := [(Str.ofString "self", .ref p)]) _ S hs hfo (by k_is) (by k_is) (by omega) (.of_eq rfl) (locs rfl) ?_
  intro g L' h₁ hg F N X TT hgk hsz hL hgs
  k_steps
  rename Fr g L' _ _ => F2
  rename News g L' _ _ => N2
  refine c_pend p dp pm q1 q2 k1 k2 tv xs n0 S (fun b o q => F2.keep b o (hg b o q)) (by walk_at "mi_depth") hz (fo_cons (N2.get (.head _)) (base_none hg (N2.fresh (.head _))) (fo_cons (N2.get (.tail _ (.head _))) (base_none hg (N2.fresh (.tail _ (.head _)))) (fo_cons (N2.get (.tail _ (.tail _ (.head _)))) (base_none hg (N2.fresh (.tail _ (.tail _ (.head _))))) fo_nil))) fun h6 tk6 tt e6 => ?_
  have F6 := frExt F2 e6 (fun h => nomatch h) (fun _ h => nomatch h)
  have N6 := nwExt N2 e6 (fun _ _ h => nomatch h)
  clear F2 N2
  k_steps
  exact hQ _ _ _ (ext_of [] hgk hsz hfo F6 N6 (by walk_at "mi_ro"))
theorem c_get (p dp pm : Addr) (q1 q2 : Int) (k1 k2 : Tok) (tv : Value) (xs : List Value) (n0 : Nat) (S : Bas w mean mg mb base) (hs : base.StaysIn s.heap) (hA : A.depth + 10 < recursionLimit) (hh : A.handled = none) (hbz : base.objs.size ≤ s.heap.objs.size) (hz : xs.length < 900) (hne : p ≠ dp ∧ p ≠ pm ∧ dp ≠ pm)
   (hfo : ∀ b ∈ [(p, instObj 588 dp), (dp, parD q1 q2 k1 k2 (.ref pm) tv), (pm, listOf xs.toArray n0)], s.heap.get? b.1 = some b.2 ∧ base.get? b.1 = none)
   (hnil : xs = [] → ∀ h' tk G, Ext [] s.heap h' → GExt s.gens G → Q .none {s with heap := h', toks := tk, gens := G})
   (hcons : ∀ v us h' tk G n', xs = v :: us → Ext [pm] s.heap h' → h'.get? pm = some (listOf us.toArray n') → GExt s.gens G → Q v {s with heap := h', toks := tk, gens := G}) :
   wpAny (model prog w) A (call (.ref 564) [.ref p]) Q E s := by
  refine enterM (binds := [(Str.ofString "self", .ref p)]) _ S hs hfo (by k_is) (by k_is) (by omega) (.of_eq rfl) (locs rfl) ?_
  intro g L' h₁ hg F N X TT hgk hsz hL hgs
  walk1
  walk1
  refine wpAny_For ?_
  k_steps
  refine owit_iter F X (by k_inst) (by k_is) (by k_is) ?_
  refine c_iterP p dp pm S (fun b o q => F.keep b o (hg b o q)) (by walk_at "mi_depth") (Nat.le_trans hbz (Nat.le_of_lt (hL ▸ F.ns.lt))) fun h6 tk6 Lg a6 gs e6 aL aa ig hns hbl hbare hgn => ?_
  refine wpAny_specialOf (s := {s with heap := h6, toks := tk6, gens := s.gens.push gs}) ig.typeIs slot_gen_next.lookup ?_
  dsimp only
  have F6 := frExt F e6 (fun h => nomatch h) (fun _ h => nomatch h)
  have N6 := nwExt N e6 (fun _ _ h => nomatch h)
  have k0 : Ext [] s.heap h₁ := ext_of [] hgk hsz hfo F N (by walk_at "mi_ro")
  have e06 : Ext [] s.heap h6 := k0.trans e6
  have gpm := N.fresh (.tail _ (.tail _ (.head _)))
  have Lpm := (N _ (.tail _ (.tail _ (.head _)))).2.1
  have hs6 : base.StaysIn h6 := fun b o q => F6.keep b o (hg b o q)
  refine forLoopA (fun AA n s' => s' = {s with heap := h6, toks := tk6, gens := s.gens.push gs}) ?_ 0 rfl
  rintro n s' rfl
  have hPt : ParG base p dp pm Lg {s with heap := h6, toks := tk6, gens := s.gens.push gs} xs :=
    ⟨hs6, hns, hbl, ⟨Ne.symm (aL.ne (N.get (.head _))), Ne.symm (aL.ne (N.get (.tail _ (.head _)))), Ne.symm (aL.ne (N.get (.tail _ (.tail _ (.head _)))))⟩, ⟨(hfo _ (.head _)).2, (hfo _ (.tail _ (.head _))).2, (hfo _ (.tail _ (.tail _ (.head _)))).2⟩, N6.get (.head _), ⟨_, _, _, _, _, N6.get (.tail _ (.head _))⟩, ⟨_, N6.get (.tail _ (.tail _ (.head _)))⟩, hz⟩
  refine gen_next (P := ParG base p dp pm Lg) (vs := xs) (n := 1) hh (S.T.nolimit.keeps hs6) (by walk_at "mi_depth") ig (by simp) (hgn _ 1) (fun s s' vs e h => h.heap s s' e) (fun s us vs h1 h2 => h1.uniq h2) hPt (fun h => absurd h (by decide)) ?_ ?_
  · intro hn h2 tk2 G2 e2 o2 hg2
    have F8 := frExt F6 e2 (fun h => nomatch h) (fun _ h => nomatch h)
    have N8 := nwExt N6 e2 (fun _ _ h => nomatch h)
    clear F N F6 N6
    k_steps
    exact hnil hn _ _ G2 (e06.trans e2) ((GExt.push hbare).only (Nat.le_refl _) o2 hg2 rfl)
  · intro v us h2 tk2 G2 k gs2 hvs e2 hl2 o2 hg2 hb2 hgn2
    have F8 := frExt F6 e2 (by simpa using Ne.symm Lpm) (by simpa using gpm)
    refine wpAny_assign_Name (stE F8 fun h3 F9 e3 => ?_)
    have e3' : Ext [pm] s.heap h3 := by
      intro b o hb e
      have h0 := e2.keep hb (e06.none e)
      exact e3.keep (by simpa using old_ne e hL) h0
    have hl3 : h3.get? pm = some (listOf us.toArray k) := e3.keep (by simpa using Lpm) hl2
    have N10 : News g L' h3 [] := nwNil
    clear F N F6 N6 F8
    k_steps
    exact hcons v us _ _ G2 k hvs e3' hl3 ((GExt.push hbare).only (Nat.le_refl _) o2 hg2 hb2)
end PartMM
theorem restNN {M : Model} {A : Around} {s : Shared} {E : Value → Shared → Prop} {env : Env} {Q : Flow → Shared → Prop} (h : Q .next s) : wpAny M A (execs [] env) Q E s := by
  w_top off
  walk1
  w_top off
  exact h
section PartNN
local macro_rules | `(tactic| k_steps) => `(tactic| repeat' (first | ((with_reducible show wpAny _ _ (call (Value.ref _) _ _) _ _ _); walk_at "mi_pc") | ((fail_if_success (with_reducible show wpAny _ _ (call (Value.ref _) _ _) _ _ _)); (fail_if_success (with_reducible show wpAny _ _ (exec (Stmt.Raise _ _ _) _) _ _ _)); first | (k_unfold; (try dsimp only)) | (k_end; wrow_close) | walk1 | (dsimp only; walk1) | (leave1; walk_say "STEP leave1"; (try dsimp only)) | fail "no step")))
local macro_rules | `(tactic| k_ne) => `(tactic| first | assumption | exact Ne.symm (by assumption))
local macro_rules | `(tactic| walk_at "call builtin:len") => `(tactic| (k_here; (with_reducible show wpAny _ _ (call (Value.builtin "len") [Value.ref _]) _ _ _); refine PyProof.Rows.len_list (News.isList (by k_asm) (by k_mem)) (by (try simp only [Array.size_push, List.size_toArray]); omega) ?_))
local macro_rules | `(tactic| walk_at "mi_ro") => `(tactic| repeat' (first | exact ro_nil | refine ro_keep (by k_mem) ?_ | refine ro_mut (by simp) ?_))
local macro_rules | `(tactic| walk_at "mi_depth") => `(tactic| ((try simp only [PySem.Around.deeper, PySem.Around.in1_depth]); omega))
local macro_rules | `(tactic| walk_at "mi_pure") => `(tactic| exact hQ _ _ (ext_of [] hgk hsz (fo_nil (base := base)) (by assumption) (by assumption) ro_nil))
local macro_rules | `(tactic| walk_at "mi_steps") => `(tactic| repeat' ((fail_if_success (with_reducible show wpAny _ _ (exec (Stmt.For _ _ _ _ _) _) _ _ _)); first | ((with_reducible show wpAny _ _ (call (Value.ref _) _ _) _ _ _); walk_at "mi_pc") | ((fail_if_success (with_reducible show wpAny _ _ (call (Value.ref _) _ _) _ _ _)); (fail_if_success (with_reducible show wpAny _ _ (exec (Stmt.Raise _ _ _) _) _ _ _)); first | (k_unfold; (try dsimp only)) | (k_end; kc_close) | walk1 | (dsimp only; walk1) | (leave1; walk_say "STEP leave1"; (try dsimp only)) | fail "no step")))
local macro_rules | `(tactic| walk_at "subscriptTail") => `(tactic| (k_here; (with_reducible show wpAny _ _ (subscriptTail _ _ (Value.ref _) (Value.str _ _)) _ _ _); k_dflt (refine' topItem_K ?F ?X ?l ?k ?e ?_; (case F => k_asm); (case X => k_asm); (case l => first | assumption | k_is); (case k => first | assumption | k_keys); (case e => first | assumption | k_is))))
local macro_rules | `(tactic| walk_at "mi_stepsC") => `(tactic| repeat' ((fail_if_success (with_reducible show wpAny _ _ (exec (Stmt.For _ _ _ _ _) _) _ _ _)); (fail_if_success (with_reducible show wpAny _ _ (exec (Stmt.Assign [_] (Expr.ListComp _ _ _ _) _) _) _ _ _)); (fail_if_success (with_reducible show wpAny _ _ (call (Value.type "zip") _) _ _ _)); (fail_if_success (with_reducible show wpAny _ _ (exec (Stmt.Assign [_] (Expr.DictComp _ _ _ _ _) _) _) _ _ _)); first | ((with_reducible show wpAny _ _ (call (Value.ref _) _ _) _ _ _); walk_at "mi_pc") | ((fail_if_success (with_reducible show wpAny _ _ (call (Value.ref _) _ _) _ _ _)); (fail_if_success (with_reducible show wpAny _ _ (exec (Stmt.Raise _ _ _) _) _ _ _)); first | (k_unfold; (try dsimp only)) | (k_end; kc_close) | walk1 | (dsimp only; walk1) | (leave1; walk_say "STEP leave1"; (try dsimp only)) | fail "no step")))
local macro_rules | `(tactic| walk_at "mi_stepsO") => `(tactic| repeat' ((fail_if_success (with_reducible show wpAny _ _ (exec (Stmt.For _ _ _ _ _) _) _ _ _)); (fail_if_success (with_reducible show wpAny _ _ (exec (Stmt.Assign [_] (Expr.ListComp _ _ _ _) _) _) _ _ _)); (fail_if_success (with_reducible show wpAny _ _ (call (Value.type "zip") _) _ _ _)); (fail_if_success (with_reducible show wpAny _ _ (exec (Stmt.Assign [_] (Expr.DictComp _ _ _ _ _) _) _) _ _ _)); first | ((with_reducible show wpAny _ _ (call (Value.ref _) _ _) _ _ _); walk_at "mi_pc") | ((fail_if_success (with_reducible show wpAny _ _ (call (Value.ref _) _ _) _ _ _)); (fail_if_success (with_reducible show wpAny _ _ (exec (Stmt.Raise _ _ _) _) _ _ _)); first | ((with_reducible show wpAny _ _ (execs _ _) _ _ _); exfalso; omega) | (k_unfold; (try dsimp only)) | (k_end; kc_close) | walk1 | (dsimp only; walk1) | (leave1; walk_say "STEP leave1"; (try dsimp only)) | fail "no step")))
theorem c_many (S : Bas w mean mg mb base) (hs : base.StaysIn s.heap) (hA : A.depth + 2 < recursionLimit)
   (hQ : ∀ h' tk d t1 t2 t3, Ext [] s.heap h' → After s.heap d → (d == sysModules) = false → h'.DictOf (PySem.intKind prog w) d [(241, .int 2 t1), (242, .int 3 t2), (243, .int 2 t3)] → Q (.ref d) {s with heap := h', toks := tk}) :
   wpAny (model prog w) A (call (.ref 599) []) Q E s := by
  refine enterM (binds := []) [] S hs fo_nil (by k_is) (by k_is) (by omega) (.of_eq rfl) (locs rfl) ?_
  intro g L' h₁ hg F N X TT hgk hsz hL hgs
  k_steps
  rename Fr g L' _ _ => F2
  rename News g L' _ _ => N2
  rename (_ == sysModules) = false => lo1
  rename Obj.IsDictOf _ _ _ => z
  exact hQ _ _ _ _ _ _ (ext_of [] hgk hsz (fo_nil (base := base)) F2 N2 ro_nil) (after_none hgk (N2.fresh (.head _)) (by simp)) lo1 (Heap.dictOf_iff.mpr ⟨_, N2.get (.head _), z⟩)
theorem c_at (sc : Addr) (ss : List Int) (k : Int) (tk0 : Tok) (S : Bas w mean mg mb base) (hs : base.StaysIn s.heap) (hA : A.depth + 2 < recursionLimit) (hi : IsInts s.heap sc ss) (hb : base.get? sc = none) (hk : 0 ≤ k ∧ k ≤ 100) (hlen : ss.length ≤ 63)
   (hQ : ∀ h' tk v tt, Ext [] s.heap h' → 0 ≤ v → v < 1000000007 → Q (.int v tt) {s with heap := h', toks := tk}) :
   wpAny (model prog w) A (call (.ref 606) [.ref sc, .int k tk0]) Q E s := by
  obtain ⟨vs, n, e, hv⟩ := hi
  have hz := ia_size hv
  refine enterM (binds := [(Str.ofString "script", .ref sc), (Str.ofString "k", .int k tk0)]) _ S hs (fo_cons e hb fo_nil) (by k_is) (by k_is) (by omega) (.of_eq rfl) (locs rfl) ?_
  intro g L' h₁ hg F N X TT hgk hsz hL hgs
  k_steps
  · exact hQ _ _ _ _ (ext_of [] hgk hsz (fo_cons e hb fo_nil) F N (by walk_at "mi_ro")) (Int.fmod_nonneg_of_pos _ (by decide)) (Int.fmod_lt_of_pos _ (by decide))
  · exact hQ _ _ _ _ (ext_of [] hgk hsz (fo_cons e hb fo_nil) F N (by walk_at "mi_ro")) (by omega) (by omega)
local macro_rules | `(tactic| walk_at "mi_good") => `(tactic| (repeat (refine List.forall_mem_cons.mpr ⟨(by unfold GoodO; omega), ?_⟩)) <;> exact fun _ h => nomatch h)
theorem c_piece (n : Int) (tn : Tok) (S : Bas w mean mg mb base) (hs : base.StaysIn s.heap) (hA : A.depth + 2 < recursionLimit) (hn : 0 ≤ n ∧ n < 1000000007)
   (hQ : ∀ h' tk l ns, Ext [] s.heap h' → After s.heap l → IsInts h' l ns → ns.length ≤ 3 → (∀ o ∈ ns, GoodO o) → Q (.ref l) {s with heap := h', toks := tk}) :
   wpAny (model prog w) A (call (.ref 613) [.int n tn]) Q E s := by
  refine enterM (binds := [(Str.ofString "n", .int n tn)]) [] S hs fo_nil (by k_is) (by k_is) (by omega) (.of_eq rfl) (locs rfl) ?_
  intro g L' h₁ hg F N X TT hgk hsz hL hgs
  have r1 := Int.fmod_nonneg_of_pos (n.fdiv 8) (b := 128) (by decide)
  have r2 := Int.fmod_lt_of_pos (n.fdiv 8) (b := 128) (by decide)
  have r3 := Int.fmod_nonneg_of_pos (n.fdiv 1024) (b := 128) (by decide)
  have r4 := Int.fmod_lt_of_pos (n.fdiv 1024) (b := 128) (by decide)
  have r5 := Int.fmod_nonneg_of_pos ((n.fdiv 8).fmod 128) (b := 16) (by decide)
  have r6 := Int.fmod_lt_of_pos ((n.fdiv 8).fmod 128) (b := 16) (by decide)
  k_steps
  all_goals (rename News g L' _ _ => N2; rename Fr g L' _ _ => F2)
  all_goals generalize ((n.fdiv 8).fmod 128).fmod 16 = c at *
  all_goals generalize (n.fdiv 8).fmod 128 = a at *
  all_goals generalize (n.fdiv 1024).fmod 128 = b at *
  all_goals first
    | exact hQ _ _ _ _ (ext_of [] hgk hsz (fo_nil (base := base)) F2 N2 ro_nil) (after_none hgk (N2.fresh (.head _)) (by simp)) ⟨_, _, N2.get (.head _), (.cons _ _ (.cons _ _ (.cons _ _ .nil)))⟩ (by simp only [List.length_cons, List.length_nil]; omega) (by walk_at "mi_good")
    | exact hQ _ _ _ _ (ext_of [] hgk hsz (fo_nil (base := base)) F2 N2 ro_nil) (after_none hgk (N2.fresh (.head _)) (by simp)) ⟨_, _, N2.get (.head _), (.cons _ _ (.cons _ _ .nil))⟩ (by simp only [List.length_cons, List.length_nil]; omega) (by walk_at "mi_good")
    | exact hQ _ _ _ _ (ext_of [] hgk hsz (fo_nil (base := base)) F2 N2 ro_nil) (after_none hgk (N2.fresh (.head _)) (by simp)) ⟨_, _, N2.get (.head _), (.cons _ _ .nil)⟩ (by simp only [List.length_cons, List.length_nil]; omega) (by walk_at "mi_good")
    | exact hQ _ _ _ _ (ext_of [] hgk hsz (fo_nil (base := base)) F2 N2 ro_nil) (after_none hgk (N2.fresh (.tail _ (.head _))) (by simp)) ⟨_, _, N2.get (.tail _ (.head _)), (.cons _ _ (.cons _ _ (.cons _ _ .nil)))⟩ (by simp only [List.length_cons, List.length_nil]; omega) (by walk_at "mi_good")
    | exact hQ _ _ _ _ (ext_of [] hgk hsz (fo_nil (base := base)) F2 N2 ro_nil) (after_none hgk (N2.fresh (.tail _ (.head _))) (by simp)) ⟨_, _, N2.get (.tail _ (.head _)), (.cons _ _ (.cons _ _ .nil))⟩ (by simp only [List.length_cons, List.length_nil]; omega) (by walk_at "mi_good")
    | exact hQ _ _ _ _ (ext_of [] hgk hsz (fo_nil (base := base)) F2 N2 ro_nil) (after_none hgk (N2.fresh (.tail _ (.head _))) (by simp)) ⟨_, _, N2.get (.tail _ (.head _)), (.cons _ _ .nil)⟩ (by simp only [List.length_cons, List.length_nil]; omega) (by walk_at "mi_good")
    | exact hQ _ _ _ _ (ext_of [] hgk hsz (fo_nil (base := base)) F2 N2 ro_nil) (after_none hgk (N2.fresh (.tail _ (.tail _ (.head _)))) (by simp)) ⟨_, _, N2.get (.tail _ (.tail _ (.head _))), (.cons _ _ (.cons _ _ (.cons _ _ .nil)))⟩ (by simp only [List.length_cons, List.length_nil]; omega) (by walk_at "mi_good")
    | exact hQ _ _ _ _ (ext_of [] hgk hsz (fo_nil (base := base)) F2 N2 ro_nil) (after_none hgk (N2.fresh (.tail _ (.tail _ (.head _)))) (by simp)) ⟨_, _, N2.get (.tail _ (.tail _ (.head _))), (.cons _ _ (.cons _ _ .nil))⟩ (by simp only [List.length_cons, List.length_nil]; omega) (by walk_at "mi_good")
    | exact hQ _ _ _ _ (ext_of [] hgk hsz (fo_nil (base := base)) F2 N2 ro_nil) (after_none hgk (N2.fresh (.tail _ (.tail _ (.head _)))) (by simp)) ⟨_, _, N2.get (.tail _ (.tail _ (.head _))), (.cons _ _ .nil)⟩ (by simp only [List.length_cons, List.length_nil]; omega) (by walk_at "mi_good")
    | exact hQ _ _ _ _ (ext_of [] hgk hsz (fo_nil (base := base)) F2 N2 ro_nil) (after_none hgk (N2.fresh (.tail _ (.tail _ (.tail _ (.head _))))) (by simp)) ⟨_, _, N2.get (.tail _ (.tail _ (.tail _ (.head _)))), (.cons _ _ (.cons _ _ (.cons _ _ .nil)))⟩ (by simp only [List.length_cons, List.length_nil]; omega) (by walk_at "mi_good")
    | exact hQ _ _ _ _ (ext_of [] hgk hsz (fo_nil (base := base)) F2 N2 ro_nil) (after_none hgk (N2.fresh (.tail _ (.tail _ (.tail _ (.head _))))) (by simp)) ⟨_, _, N2.get (.tail _ (.tail _ (.tail _ (.head _)))), (.cons _ _ (.cons _ _ .nil))⟩ (by simp only [List.length_cons, List.length_nil]; omega) (by walk_at "mi_good")
    | exact hQ _ _ _ _ (ext_of [] hgk hsz (fo_nil (base := base)) F2 N2 ro_nil) (after_none hgk (N2.fresh (.tail _ (.tail _ (.tail _ (.head _))))) (by simp)) ⟨_, _, N2.get (.tail _ (.tail _ (.tail _ (.head _)))), (.cons _ _ .nil)⟩ (by simp only [List.length_cons, List.length_nil]; omega) (by walk_at "mi_good")
    | exact hQ _ _ _ _ (ext_of [] hgk hsz (fo_nil (base := base)) F2 N2 ro_nil) (after_none hgk (N2.fresh (.tail _ (.tail _ (.tail _ (.tail _ (.head _)))))) (by simp)) ⟨_, _, N2.get (.tail _ (.tail _ (.tail _ (.tail _ (.head _))))), (.cons _ _ (.cons _ _ (.cons _ _ .nil)))⟩ (by simp only [List.length_cons, List.length_nil]; omega) (by walk_at "mi_good")
    | exact hQ _ _ _ _ (ext_of [] hgk hsz (fo_nil (base := base)) F2 N2 ro_nil) (after_none hgk (N2.fresh (.tail _ (.tail _ (.tail _ (.tail _ (.head _)))))) (by simp)) ⟨_, _, N2.get (.tail _ (.tail _ (.tail _ (.tail _ (.head _))))), (.cons _ _ (.cons _ _ .nil))⟩ (by simp only [List.length_cons, List.length_nil]; omega) (by walk_at "mi_good")
    | exact hQ _ _ _ _ (ext_of [] hgk hsz (fo_nil (base := base)) F2 N2 ro_nil) (after_none hgk (N2.fresh (.tail _ (.tail _ (.tail _ (.tail _ (.head _)))))) (by simp)) ⟨_, _, N2.get (.tail _ (.tail _ (.tail _ (.tail _ (.head _))))), (.cons _ _ .nil)⟩ (by simp only [List.length_cons, List.length_nil]; omega) (by walk_at "mi_good")
    | exact hQ _ _ _ _ (ext_of [] hgk hsz (fo_nil (base := base)) F2 N2 ro_nil) (after_none hgk (N2.fresh (.tail _ (.tail _ (.tail _ (.tail _ (.tail _ (.head _))))))) (by simp)) ⟨_, _, N2.get (.tail _ (.tail _ (.tail _ (.tail _ (.tail _ (.head _)))))), (.cons _ _ (.cons _ _ (.cons _ _ .nil)))⟩ (by simp only [List.length_cons, List.length_nil]; omega) (by walk_at "mi_good")
    | exact hQ _ _ _ _ (ext_of [] hgk hsz (fo_nil (base := base)) F2 N2 ro_nil) (after_none hgk (N2.fresh (.tail _ (.tail _ (.tail _ (.tail _ (.tail _ (.head _))))))) (by simp)) ⟨_, _, N2.get (.tail _ (.tail _ (.tail _ (.tail _ (.tail _ (.head _)))))), (.cons _ _ (.cons _ _ .nil))⟩ (by simp only [List.length_cons, List.length_nil]; omega) (by walk_at "mi_good")
    | exact hQ _ _ _ _ (ext_of [] hgk hsz (fo_nil (base := base)) F2 N2 ro_nil) (after_none hgk (N2.fresh (.tail _ (.tail _ (.tail _ (.tail _ (.tail _ (.head _))))))) (by simp)) ⟨_, _, N2.get (.tail _ (.tail _ (.tail _ (.tail _ (.tail _ (.head _)))))), (.cons _ _ .nil)⟩ (by simp only [List.length_cons, List.length_nil]; omega) (by walk_at "mi_good")
end PartNN
theorem restPL {M : Model} {A : Around} {s : Shared} {E : Value → Shared → Prop} {env : Env} {Q : Flow → Shared → Prop} (h : Q .next s) : wpAny M A (execs [] env) Q E s := by
  w_top off
  walk1
  w_top off
  exact h
section PartPL
local macro_rules | `(tactic| k_steps) => `(tactic| repeat' (first | ((with_reducible show wpAny _ _ (call (Value.ref _) _ _) _ _ _); walk_at "mi_pc") | ((fail_if_success (with_reducible show wpAny _ _ (call (Value.ref _) _ _) _ _ _)); (fail_if_success (with_reducible show wpAny _ _ (exec (Stmt.Raise _ _ _) _) _ _ _)); first | (k_unfold; (try dsimp only)) | (k_end; wrow_close) | walk1 | (dsimp only; walk1) | (leave1; walk_say "STEP leave1"; (try dsimp only)) | fail "no step")))
local macro_rules | `(tactic| k_ne) => `(tactic| first | assumption | exact Ne.symm (by assumption))
local macro_rules | `(tactic| walk_at "call builtin:len") => `(tactic| (k_here; (with_reducible show wpAny _ _ (call (Value.builtin "len") [Value.ref _]) _ _ _); refine PyProof.Rows.len_list (News.isList (by k_asm) (by k_mem)) (by (try simp only [Array.size_push, List.size_toArray]); omega) ?_))
local macro_rules | `(tactic| walk_at "mi_ro") => `(tactic| repeat' (first | exact ro_nil | refine ro_keep (by k_mem) ?_ | refine ro_mut (by simp) ?_))
local macro_rules | `(tactic| walk_at "mi_depth") => `(tactic| ((try simp only [PySem.Around.deeper, PySem.Around.in1_depth]); omega))
local macro_rules | `(tactic| walk_at "mi_pure") => `(tactic| exact hQ _ _ (ext_of [] hgk hsz (fo_nil (base := base)) (by assumption) (by assumption) ro_nil))
local macro_rules | `(tactic| walk_at "mi_steps") => `(tactic| repeat' ((fail_if_success (with_reducible show wpAny _ _ (exec (Stmt.For _ _ _ _ _) _) _ _ _)); first | ((with_reducible show wpAny _ _ (call (Value.ref _) _ _) _ _ _); walk_at "mi_pc") | ((fail_if_success (with_reducible show wpAny _ _ (call (Value.ref _) _ _) _ _ _)); (fail_if_success (with_reducible show wpAny _ _ (exec (Stmt.Raise _ _ _) _) _ _ _)); first | (k_unfold; (try dsimp only)) | (k_end; kc_close) | walk1 | (dsimp only; walk1) | (leave1; walk_say "STEP leave1"; (try dsimp only)) | fail "no step")))
local macro_rules | `(tactic| walk_at "subscriptTail") => `(tactic| (k_here; (with_reducible show wpAny _ _ (subscriptTail _ _ (Value.ref _) (Value.str _ _)) _ _ _); k_dflt (refine' topItem_K ?F ?X ?l ?k ?e ?_; (case F => k_asm); (case X => k_asm); (case l => first | assumption | k_is); (case k => first | assumption | k_keys); (case e => first | assumption | k_is))))
local macro_rules | `(tactic| walk_at "mi_stepsC") => `(tactic| repeat' ((fail_if_success (with_reducible show wpAny _ _ (exec (Stmt.For _ _ _ _ _) _) _ _ _)); (fail_if_success (with_reducible show wpAny _ _ (exec (Stmt.Assign [_] (Expr.ListComp _ _ _ _) _) _) _ _ _)); (fail_if_success (with_reducible show wpAny _ _ (call (Value.type "zip") _) _ _ _)); (fail_if_success (with_reducible show wpAny _ _ (exec (Stmt.Assign [_] (Expr.DictComp _ _ _ _ _) _) _) _ _ _)); first | ((with_reducible show wpAny _ _ (call (Value.ref _) _ _) _ _ _); walk_at "mi_pc") | ((fail_if_success (with_reducible show wpAny _ _ (call (Value.ref _) _ _) _ _ _)); (fail_if_success (with_reducible show wpAny _ _ (exec (Stmt.Raise _ _ _) _) _ _ _)); first | (k_unfold; (try dsimp only)) | (k_end; kc_close) | walk1 | (dsimp only; walk1) | (leave1; walk_say "STEP leave1"; (try dsimp only)) | fail "no step")))
local macro_rules | `(tactic| walk_at "mi_stepsO") => `(tactic| repeat' ((fail_if_success (with_reducible show wpAny _ _ (exec (Stmt.For _ _ _ _ _) _) _ _ _)); (fail_if_success (with_reducible show wpAny _ _ (exec (Stmt.Assign [_] (Expr.ListComp _ _ _ _) _) _) _ _ _)); (fail_if_success (with_reducible show wpAny _ _ (call (Value.type "zip") _) _ _ _)); (fail_if_success (with_reducible show wpAny _ _ (exec (Stmt.Assign [_] (Expr.DictComp _ _ _ _ _) _) _) _ _ _)); first | ((with_reducible show wpAny _ _ (call (Value.ref _) _ _) _ _ _); walk_at "mi_pc") | ((fail_if_success (with_reducible show wpAny _ _ (call (Value.ref _) _ _) _ _ _)); (fail_if_success (with_reducible show wpAny _ _ (exec (Stmt.Raise _ _ _) _) _ _ _)); first | ((with_reducible show wpAny _ _ (execs _ _) _ _ _); exfalso; omega) | (k_unfold; (try dsimp only)) | (k_end; kc_close) | walk1 | (dsimp only; walk1) | (leave1; walk_say "STEP leave1"; (try dsimp only)) | fail "no step")))
/-- what _law_rows keeps while it reads -/
structure RS where
  rows : List (List Int)
  begun : List Int
  need : Int
def needOf (o : Int) : Int := if 241 ≤ o ∧ o ≤ 243 then (if o = 242 then 3 else 2) else if o < 240 then (if 192 ≤ o ∧ o < 224 then 2 else 3) else 0
def RS.step (R : RS) (o : Int) : RS :=
  if o < 128 then
    if R.begun = [] then R else if ((R.begun.length : Int) + 1) = R.need then { R with rows := R.rows ++ [R.begun ++ [o]], begun := [] } else { R with begun := R.begun ++ [o] }
  else if o = 247 then { R with rows := if R.begun.head? = some 240 then R.rows ++ [R.begun ++ [247]] else R.rows, begun := [] }
  else if 248 ≤ o then { R with rows := if o ≠ 249 ∧ o ≠ 253 then R.rows ++ [[o]] else R.rows, begun := if R.begun.head? = some 240 then R.begun else [] }
  else if o = 246 then { R with rows := R.rows ++ [[246]], begun := [] }
  else { R with begun := [o], need := needOf o }
/-- the two readers agree -/
structure Rel (R : RS) (T : TS) : Prop where
  rows : R.rows = T.ms
  off : T.st = 0 → R.begun = []
  on : T.st ≠ 0 → R.begun = T.bs ∧ T.bs.head? = some T.st ∧ (T.ln = some R.need ∨ (T.ln = none ∧ R.need = 0))
theorem hsB_rt {o : Int} (h1 : 248 ≤ o) (h2 : o ≤ 255) : hsB o = true ↔ (o ≠ 249 ∧ o ≠ 253) := by
  have : o = 248 ∨ o = 249 ∨ o = 250 ∨ o = 251 ∨ o = 252 ∨ o = 253 ∨ o = 254 ∨ o = 255 := by omega
  rcases this with rfl | rfl | rfl | rfl | rfl | rfl | rfl | rfl <;> decide
theorem lenOf_need {o : Int} (go : GoodO o) (h : 128 ≤ o) (h7 : o ≠ 247) (h8 : o < 248) (h6 : o ≠ 246) : lenOf o = some (needOf o) ∨ (lenOf o = none ∧ needOf o = 0) := by
  unfold lenOf needOf
  rcases go with g | g | g | g | g | g | g | g | g | g | g | g
  · omega
  · left; rw [if_pos (by omega), if_neg (by omega), if_pos (by omega), if_neg (by omega)]
  · left; rw [if_pos (by omega), if_neg (by omega), if_pos (by omega), if_neg (by omega)]
  · left; rw [if_neg (by omega), if_pos (by omega), if_neg (by omega), if_pos (by omega), if_pos (by omega)]
  · left; rw [if_neg (by omega), if_neg (by omega), if_pos (by omega), if_neg (by omega), if_pos (by omega), if_neg (by omega)]
  · subst g; right; decide
  · subst g; left; decide
  · subst g; left; decide
  · subst g; left; decide
  · omega
  · omega
  · omega
theorem Rel.step {R : RS} {T : TS} (x : Rel R T) {o : Int} (go : GoodO o) : Rel (R.step o) (T.step o) := by
  obtain ⟨x1, x2, x3⟩ := x
  unfold RS.step TS.step
  by_cases h1 : o < 128
  · rw [if_pos h1, if_pos h1]
    by_cases hs : T.st = 0
    · rw [if_pos hs, if_pos (x2 hs)]; exact ⟨x1, x2, x3⟩
    · obtain ⟨y1, y2, y3⟩ := x3 hs
      have hb : T.bs ≠ [] := fun q => by rw [q] at y2; cases y2
      rw [if_neg hs, if_neg (y1 ▸ hb), y1]
      rcases y3 with y3 | ⟨y3, y4⟩
      · rw [y3]
        by_cases hn : (T.bs.length : Int) + 1 = R.need
        · rw [if_pos hn, if_pos (by rw [hn])]
          exact ⟨by simp [x1], fun _ => rfl, fun h => absurd rfl h⟩
        · rw [if_neg hn, if_neg (fun q => hn (Option.some.inj q).symm)]
          refine ⟨x1, fun h => absurd h hs, fun _ => ⟨rfl, ?_, .inl rfl⟩⟩
          cases hbs : T.bs with
          | nil => exact absurd hbs hb
          | cons z zs => rw [hbs] at y2; exact y2
      · rw [y3, y4, if_neg (by omega), if_neg (fun q => by cases q)]
        refine ⟨x1, fun h => absurd h hs, fun _ => ⟨rfl, ?_, .inr ⟨rfl, by first | rfl | exact y4⟩⟩⟩
        cases hbs : T.bs with
        | nil => exact absurd hbs hb
        | cons z zs => rw [hbs] at y2; exact y2
  · rw [if_neg h1, if_neg h1]
    have hd : R.begun.head? = some 240 ↔ T.st = 240 := by
      by_cases hs : T.st = 0
      · rw [x2 hs, hs]; simp
      · obtain ⟨y1, y2, _⟩ := x3 hs
        rw [y1, y2]; simp
    by_cases h2 : o = 247
    · rw [if_pos h2, if_pos h2]
      by_cases hs : T.st = 240
      · rw [if_pos hs, if_pos (hd.mpr hs)]
        obtain ⟨y1, y2, _⟩ := x3 (by omega)
        exact ⟨by simp [x1, y1], fun _ => rfl, fun h => absurd rfl h⟩
      · rw [if_neg hs, if_neg (fun q => hs (hd.mp q))]
        exact ⟨x1, fun _ => rfl, fun h => absurd rfl h⟩
    · rw [if_neg h2, if_neg h2]
      have h255 : o ≤ 255 := by rcases go with g | g | g | g | g | g | g | g | g | g | g | g <;> omega
      by_cases h3 : 248 ≤ o
      · rw [if_pos h3, if_pos h3]
        have hr := hsB_rt h3 h255
        by_cases hs : T.st = 240
        · obtain ⟨y1, y2, y3⟩ := x3 (by omega)
          refine ⟨?_, ?_, fun _ => ?_⟩
          · by_cases hb : hsB o = true
            · simp only [hb, hr.mp hb, if_true, x1, ne_eq, not_false_eq_true, and_self]
            · simp only [hb, if_neg (fun q => hb (hr.mpr q)), x1]; simp
          · simp only [hs, if_true]; intro q; cases q
          · simp only [hs, if_true, if_pos (hd.mpr hs)]
            exact ⟨y1, by rw [y2, hs], y3⟩
        · refine ⟨?_, ?_, ?_⟩
          · by_cases hb : hsB o = true
            · simp only [hb, hr.mp hb, if_true, x1, ne_eq, not_false_eq_true, and_self]
            · simp only [hb, if_neg (fun q => hb (hr.mpr q)), x1]; simp
          · intro _; rw [if_neg (fun q => hs (hd.mp q))]
          · simp only [if_neg hs]; intro h; exact absurd rfl h
      · rw [if_neg h3, if_neg h3]
        by_cases h4 : o = 246
        · rw [if_pos h4, if_pos h4]
          exact ⟨by simp [x1], fun _ => rfl, fun h => absurd rfl h⟩
        · rw [if_neg h4, if_neg h4]
          exact ⟨x1, fun h => by simp only at h; omega, fun _ => ⟨rfl, rfl, lenOf_need go (by omega) h2 (by omega) h4⟩⟩
theorem Rel.steps (ns : List Int) : ∀ {R : RS} {T : TS}, Rel R T → (∀ o ∈ ns, GoodO o) → Rel (ns.foldl RS.step R) (ns.foldl TS.step T) := by
  induction ns with
  | nil => intro R T x _; exact x
  | cons o ns ih => intro R T x h; exact ih (x.step (h o (.head _))) fun o ho => h o (.tail _ ho)
def lawRows (ns : List Int) : List (List Int) := (ns.foldl RS.step ⟨[], [], 0⟩).rows
theorem lawRows_eq {ns : List Int} (h : ∀ o ∈ ns, GoodO o) : lawRows ns = (ns.foldl TS.step TS0).ms :=
  (Rel.steps ns (R := ⟨[], [], 0⟩) (T := TS0) ⟨rfl, fun _ => rfl, fun h => absurd rfl h⟩ h).rows
/-- the rows made so far do not matter for what comes -/
theorem step_ms (T : TS) (o : Int) : (T.step o) = { ({ T with ms := [] } : TS).step o with ms := T.ms ++ (({ T with ms := [] } : TS).step o).ms } := by
  unfold TS.step
  repeat' split
  all_goals simp
theorem steps_ms (ns : List Int) : ∀ (T : TS), ns.foldl TS.step T = { ns.foldl TS.step { T with ms := [] } with ms := T.ms ++ (ns.foldl TS.step { T with ms := [] }).ms } := by
  induction ns with
  | nil => intro T; simp
  | cons o ns ih =>
    intro T
    simp only [List.foldl_cons]
    rw [ih (T.step o), ih (({ T with ms := [] } : TS).step o)]
    have h := step_ms T o
    have e1 : ({ T.step o with ms := [] } : TS) = { ({ T with ms := [] } : TS).step o with ms := [] } := by rw [h]
    have e2 : (T.step o).ms = T.ms ++ (({ T with ms := [] } : TS).step o).ms := by rw [h]
    rw [e1, e2]
    simp [List.append_assoc]
end PartPL
theorem restPM {M : Model} {A : Around} {s : Shared} {E : Value → Shared → Prop} {env : Env} {Q : Flow → Shared → Prop} (h : Q .next s) : wpAny M A (execs [] env) Q E s := by
  w_top off
  walk1
  w_top off
  exact h
section PartPM
local macro_rules | `(tactic| k_steps) => `(tactic| repeat' (first | ((with_reducible show wpAny _ _ (call (Value.ref _) _ _) _ _ _); walk_at "mi_pc") | ((fail_if_success (with_reducible show wpAny _ _ (call (Value.ref _) _ _) _ _ _)); (fail_if_success (with_reducible show wpAny _ _ (exec (Stmt.Raise _ _ _) _) _ _ _)); first | (k_unfold; (try dsimp only)) | (k_end; wrow_close) | walk1 | (dsimp only; walk1) | (leave1; walk_say "STEP leave1"; (try dsimp only)) | fail "no step")))
local macro_rules | `(tactic| k_ne) => `(tactic| first | assumption | exact Ne.symm (by assumption))
local macro_rules | `(tactic| walk_at "call builtin:len") => `(tactic| (k_here; (with_reducible show wpAny _ _ (call (Value.builtin "len") [Value.ref _]) _ _ _); refine PyProof.Rows.len_list (News.isList (by k_asm) (by k_mem)) (by (try simp only [Array.size_push, List.size_toArray]); omega) ?_))
local macro_rules | `(tactic| walk_at "mi_ro") => `(tactic| repeat' (first | exact ro_nil | refine ro_keep (by k_mem) ?_ | refine ro_mut (by simp) ?_))
local macro_rules | `(tactic| walk_at "mi_depth") => `(tactic| ((try simp only [PySem.Around.deeper, PySem.Around.in1_depth]); omega))
local macro_rules | `(tactic| walk_at "mi_pure") => `(tactic| exact hQ _ _ (ext_of [] hgk hsz (fo_nil (base := base)) (by assumption) (by assumption) ro_nil))
local macro_rules | `(tactic| walk_at "mi_steps") => `(tactic| repeat' ((fail_if_success (with_reducible show wpAny _ _ (exec (Stmt.For _ _ _ _ _) _) _ _ _)); first | ((with_reducible show wpAny _ _ (call (Value.ref _) _ _) _ _ _); walk_at "mi_pc") | ((fail_if_success (with_reducible show wpAny _ _ (call (Value.ref _) _ _) _ _ _)); (fail_if_success (with_reducible show wpAny _ _ (exec (Stmt.Raise _ _ _) _) _ _ _)); first | (k_unfold; (try dsimp only)) | (k_end; kc_close) | walk1 | (dsimp only; walk1) | (leave1; walk_say "STEP leave1"; (try dsimp only)) | fail "no step")))
local macro_rules | `(tactic| walk_at "subscriptTail") => `(tactic| (k_here; (with_reducible show wpAny _ _ (subscriptTail _ _ (Value.ref _) (Value.str _ _)) _ _ _); k_dflt (refine' topItem_K ?F ?X ?l ?k ?e ?_; (case F => k_asm); (case X => k_asm); (case l => first | assumption | k_is); (case k => first | assumption | k_keys); (case e => first | assumption | k_is))))
local macro_rules | `(tactic| walk_at "mi_stepsC") => `(tactic| repeat' ((fail_if_success (with_reducible show wpAny _ _ (exec (Stmt.For _ _ _ _ _) _) _ _ _)); (fail_if_success (with_reducible show wpAny _ _ (exec (Stmt.Assign [_] (Expr.ListComp _ _ _ _) _) _) _ _ _)); (fail_if_success (with_reducible show wpAny _ _ (call (Value.type "zip") _) _ _ _)); (fail_if_success (with_reducible show wpAny _ _ (exec (Stmt.Assign [_] (Expr.DictComp _ _ _ _ _) _) _) _ _ _)); first | ((with_reducible show wpAny _ _ (call (Value.ref _) _ _) _ _ _); walk_at "mi_pc") | ((fail_if_success (with_reducible show wpAny _ _ (call (Value.ref _) _ _) _ _ _)); (fail_if_success (with_reducible show wpAny _ _ (exec (Stmt.Raise _ _ _) _) _ _ _)); first | (k_unfold; (try dsimp only)) | (k_end; kc_close) | walk1 | (dsimp only; walk1) | (leave1; walk_say "STEP leave1"; (try dsimp only)) | fail "no step")))
local macro_rules | `(tactic| walk_at "mi_stepsO") => `(tactic| repeat' ((fail_if_success (with_reducible show wpAny _ _ (exec (Stmt.For _ _ _ _ _) _) _ _ _)); (fail_if_success (with_reducible show wpAny _ _ (exec (Stmt.Assign [_] (Expr.ListComp _ _ _ _) _) _) _ _ _)); (fail_if_success (with_reducible show wpAny _ _ (call (Value.type "zip") _) _ _ _)); (fail_if_success (with_reducible show wpAny _ _ (exec (Stmt.Assign [_] (Expr.DictComp _ _ _ _ _) _) _) _ _ _)); first | ((with_reducible show wpAny _ _ (call (Value.ref _) _ _) _ _ _); walk_at "mi_pc") | ((fail_if_success (with_reducible show wpAny _ _ (call (Value.ref _) _ _) _ _ _)); (fail_if_success (with_reducible show wpAny _ _ (exec (Stmt.Raise _ _ _) _) _ _ _)); first | ((with_reducible show wpAny _ _ (execs _ _) _ _ _); exfalso; omega) | (k_unfold; (try dsimp only)) | (k_end; kc_close) | walk1 | (dsimp only; walk1) | (leave1; walk_say "STEP leave1"; (try dsimp only)) | fail "no step")))
def StatOk (o : Int) : Prop := (144 ≤ o ∧ o < 160) ∨ (176 ≤ o ∧ o < 192) ∨ (192 ≤ o ∧ o < 208) ∨ (224 ≤ o ∧ o < 240) ∨ o = 240 ∨ o = 241 ∨ o = 242 ∨ o = 243
def RowShape (row : List Int) : Prop := GoodRow row ∨ ∃ ds, row = 240 :: (ds ++ [247]) ∧ ∀ x ∈ ds, 0 ≤ x ∧ x ≤ 127
structure WF (k : Nat) (T : TS) : Prop where
  on : T.st ≠ 0 → ∃ ds, T.bs = T.st :: ds ∧ (∀ d ∈ ds, 0 ≤ d ∧ d ≤ 127) ∧ T.ln = lenOf T.st ∧ StatOk T.st ∧ (∀ n, T.ln = some n → (ds.length : Int) + 1 < n) ∧ T.bs.length ≤ k
  ms : ∀ r ∈ T.ms, RowShape r ∧ r.length ≤ k
theorem row_full {st o : Int} {ds : List Int} (hs : StatOk st) (hd : ∀ d ∈ ds, 0 ≤ d ∧ d ≤ 127) (ho : 0 ≤ o ∧ o ≤ 127) (hl : lenOf st = some ((ds.length : Int) + 2)) : GoodRow (st :: ds ++ [o]) := by
  have two : ∀ {m : Int}, lenOf st = some m → m = (ds.length : Int) + 2 := fun h => by rw [hl] at h; exact (Option.some.inj h).symm
  have d1 : ds.length = 1 → ∃ d, ds = [d] := fun h => by
    match ds, h with
    | [d], _ => exact ⟨d, rfl⟩
  rcases hs with g | g | g | g | g | g | g | g
  · have := two (m := 3) (by unfold lenOf; rw [if_pos (by omega)])
    obtain ⟨d, rfl⟩ := d1 (by omega)
    exact .note_on st d o g.1 g.2 (hd d (.head _)) ho
  · have := two (m := 3) (by unfold lenOf; rw [if_pos (by omega)])
    obtain ⟨d, rfl⟩ := d1 (by omega)
    exact .control_change st d o g.1 g.2 (hd d (.head _)) ho
  · have := two (m := 2) (by unfold lenOf; rw [if_neg (by omega), if_pos (by omega)])
    have : ds = [] := List.eq_nil_of_length_eq_zero (by omega)
    subst this
    exact .program_change st o g.1 g.2 ho
  · have := two (m := 3) (by unfold lenOf; rw [if_neg (by omega), if_neg (by omega), if_pos (by omega)])
    obtain ⟨d, rfl⟩ := d1 (by omega)
    exact .pitchwheel st d o g.1 (by omega) (hd d (.head _)) ho
  · subst g; cases hl
  · subst g
    have := two (m := 2) (by decide)
    have : ds = [] := List.eq_nil_of_length_eq_zero (by omega)
    subst this
    exact .quarter_frame o ho
  · subst g
    have := two (m := 3) (by decide)
    obtain ⟨d, rfl⟩ := d1 (by omega)
    exact .songpos d o (hd d (.head _)) ho
  · subst g
    have := two (m := 2) (by decide)
    have : ds = [] := List.eq_nil_of_length_eq_zero (by omega)
    subst this
    exact .song_select o ho
theorem WF.step {k : Nat} {T : TS} (x : WF k T) {o : Int} (go : GoodO o) : WF (k + 1) (T.step o) := by
  obtain ⟨x1, x2⟩ := x
  have x2' : ∀ r ∈ T.ms, RowShape r ∧ r.length ≤ k + 1 := fun r hr => ⟨(x2 r hr).1, Nat.le_succ_of_le (x2 r hr).2⟩
  have app : ∀ {r : List Int}, RowShape r → r.length ≤ k + 1 → ∀ q ∈ T.ms ++ [r], RowShape q ∧ q.length ≤ k + 1 := fun {r} h1 h2 q hq => by
    rcases List.mem_append.mp hq with hq | hq
    · exact x2' q hq
    · rw [List.mem_singleton.mp hq]; exact ⟨h1, h2⟩
  have x1' : T.st ≠ 0 → ∃ ds, T.bs = T.st :: ds ∧ (∀ d ∈ ds, 0 ≤ d ∧ d ≤ 127) ∧ T.ln = lenOf T.st ∧ StatOk T.st ∧ (∀ n, T.ln = some n → (ds.length : Int) + 1 < n) ∧ T.bs.length ≤ k + 1 := fun h => by
    obtain ⟨ds, y1, y2, y3, y4, y5, y6⟩ := x1 h
    exact ⟨ds, y1, y2, y3, y4, y5, Nat.le_succ_of_le y6⟩
  unfold TS.step
  by_cases h1 : o < 128
  · have ho : 0 ≤ o ∧ o ≤ 127 := by rcases go with g | g | g | g | g | g | g | g | g | g | g | g <;> omega
    rw [if_pos h1]
    by_cases hs : T.st = 0
    · rw [if_pos hs]; exact ⟨x1', x2'⟩
    · rw [if_neg hs]
      obtain ⟨ds, y1, y2, y3, y4, y5, y6⟩ := x1 hs
      by_cases hn : T.ln = some ((T.bs.length : Int) + 1)
      · rw [if_pos hn]
        refine ⟨fun h => absurd rfl h, app ?_ (by rw [List.length_append]; simp; omega)⟩
        rw [y1]
        refine .inl (row_full y4 y2 ho ?_)
        rw [← y3, hn, y1]; simp; omega
      · rw [if_neg hn]
        refine ⟨fun h => ⟨ds ++ [o], by rw [y1]; rfl, ?_, y3, y4, fun n hn' => ?_, by rw [List.length_append]; simp; omega⟩, x2'⟩
        · intro d hd
          rcases List.mem_append.mp hd with hd | hd
          · exact y2 d hd
          · rw [List.mem_singleton.mp hd]; exact ho
        · have h5 := y5 n hn'
          have hn2 : T.ln = some n := hn'
          have : n ≠ (ds.length : Int) + 2 := fun q => hn (by rw [hn2, q, y1]; simp; omega)
          rw [List.length_append]; simp; omega
  · rw [if_neg h1]
    by_cases h2 : o = 247
    · rw [if_pos h2]
      by_cases hs : T.st = 240
      · rw [if_pos hs]
        obtain ⟨ds, y1, y2, y3, y4, y5, y6⟩ := x1 (by omega)
        exact ⟨fun h => absurd rfl h, app (.inr ⟨ds, by rw [y1, hs]; rfl, y2⟩) (by rw [List.length_append]; simp; omega)⟩
      · rw [if_neg hs]; exact ⟨fun h => absurd rfl h, x2'⟩
    · rw [if_neg h2]
      by_cases h3 : 248 ≤ o
      · rw [if_pos h3]
        refine ⟨?_, ?_⟩
        · by_cases hs : T.st = 240
          · simp only [hs, if_true]
            intro _
            rw [← hs]; exact x1' (by omega)
          · simp only [if_neg hs]; intro h; exact absurd rfl h
        · by_cases hb : hsB o = true
          · simp only [hb, if_true]
            refine app (.inl ?_) (by simp)
            have hr := (hsB_rt h3 (by rcases go with g | g | g | g | g | g | g | g | g | g | g | g <;> omega)).mp hb
            have : o = 248 ∨ o = 250 ∨ o = 254 ∨ o = 255 := by rcases go with g | g | g | g | g | g | g | g | g | g | g | g <;> omega
            rcases this with rfl | rfl | rfl | rfl
            · exact .clock
            · exact .start
            · exact .active_sensing
            · exact .reset
          · simp only [hb]; exact x2'
      · rw [if_neg h3]
        by_cases h4 : o = 246
        · rw [if_pos h4]
          exact ⟨fun h => absurd rfl h, app (.inl .tune_request) (by simp)⟩
        · rw [if_neg h4]
          refine ⟨fun _ => ⟨[], rfl, (by intro _ h; cases h), rfl, ?_, fun n hn => ?_, by simp⟩, x2'⟩
          · show StatOk o
            unfold StatOk; rcases go with g | g | g | g | g | g | g | g | g | g | g | g <;> omega
          · have hl := lenOf_need go (by omega) h2 (by omega) h4
            have hn' : lenOf o = some n := hn
            have h5 : n = needOf o := by
              rcases hl with hl | hl
              · rw [hn'] at hl; exact Option.some.inj hl
              · rw [hn'] at hl; cases hl.1
            have h6 : needOf o = 2 ∨ needOf o = 3 ∨ lenOf o = none := by
              rcases hl with hl | hl
              · unfold needOf
                split
                · split <;> omega
                · split
                  · split <;> omega
                  · exfalso
                    have h40 : o = 240 := by rcases go with g | g | g | g | g | g | g | g | g | g | g | g <;> omega
                    subst h40
                    cases hn'
              · exact .inr (.inr hl.1)
            rcases h6 with h6 | h6 | h6
            · simp; omega
            · simp; omega
            · rw [hn'] at h6; cases h6
theorem WF.steps (ns : List Int) : ∀ {k : Nat} {T : TS}, WF k T → (∀ o ∈ ns, GoodO o) → WF (k + ns.length) (ns.foldl TS.step T) := by
  induction ns with
  | nil => intro k T x _; exact x
  | cons o ns ih =>
    intro k T x h
    have := ih (x.step (h o (.head _))) fun o ho => h o (.tail _ ho)
    rw [List.length_cons, show k + (ns.length + 1) = k + 1 + ns.length by omega]
    exact this
theorem WF.zero : WF 0 TS0 := ⟨fun h => absurd rfl h, fun _ h => nomatch h⟩
theorem WF.reset {k : Nat} {T : TS} (x : WF k T) : WF k { T with ms := [] } := ⟨x.on, fun _ h => nomatch h⟩
theorem WF.ok {k : Nat} {T : TS} (x : WF k T) (hk : k < 700) : ∀ r ∈ T.ms, RowOk r := fun r hr => ⟨(x.ms r hr).1, by have := (x.ms r hr).2; omega⟩
end PartPM
theorem restOO {M : Model} {A : Around} {s : Shared} {E : Value → Shared → Prop} {env : Env} {Q : Flow → Shared → Prop} (h : Q .next s) : wpAny M A (execs [] env) Q E s := by
  w_top off
  walk1
  w_top off
  exact h
section PartOO
local macro_rules | `(tactic| k_steps) => `(tactic| repeat' (first | ((with_reducible show wpAny _ _ (call (Value.ref _) _ _) _ _ _); walk_at "mi_pc") | ((fail_if_success (with_reducible show wpAny _ _ (call (Value.ref _) _ _) _ _ _)); (fail_if_success (with_reducible show wpAny _ _ (exec (Stmt.Raise _ _ _) _) _ _ _)); first | (k_unfold; (try dsimp only)) | (k_end; wrow_close) | walk1 | (dsimp only; walk1) | (leave1; walk_say "STEP leave1"; (try dsimp only)) | fail "no step")))
local macro_rules | `(tactic| k_ne) => `(tactic| first | assumption | exact Ne.symm (by assumption))
local macro_rules | `(tactic| walk_at "call builtin:len") => `(tactic| (k_here; (with_reducible show wpAny _ _ (call (Value.builtin "len") [Value.ref _]) _ _ _); refine PyProof.Rows.len_list (News.isList (by k_asm) (by k_mem)) (by (try simp only [Array.size_push, List.size_toArray]); omega) ?_))
local macro_rules | `(tactic| walk_at "mi_ro") => `(tactic| repeat' (first | exact ro_nil | refine ro_keep (by k_mem) ?_ | refine ro_mut (by simp) ?_))
local macro_rules | `(tactic| walk_at "mi_depth") => `(tactic| ((try simp only [PySem.Around.deeper, PySem.Around.in1_depth]); omega))
local macro_rules | `(tactic| walk_at "mi_pure") => `(tactic| exact hQ _ _ (ext_of [] hgk hsz (fo_nil (base := base)) (by assumption) (by assumption) ro_nil))
local macro_rules | `(tactic| walk_at "mi_steps") => `(tactic| repeat' ((fail_if_success (with_reducible show wpAny _ _ (exec (Stmt.For _ _ _ _ _) _) _ _ _)); first | ((with_reducible show wpAny _ _ (call (Value.ref _) _ _) _ _ _); walk_at "mi_pc") | ((fail_if_success (with_reducible show wpAny _ _ (call (Value.ref _) _ _) _ _ _)); (fail_if_success (with_reducible show wpAny _ _ (exec (Stmt.Raise _ _ _) _) _ _ _)); first | (k_unfold; (try dsimp only)) | (k_end; kc_close) | walk1 | (dsimp only; walk1) | (leave1; walk_say "STEP leave1"; (try dsimp only)) | fail "no step")))
local macro_rules | `(tactic| walk_at "subscriptTail") => `(tactic| (k_here; (with_reducible show wpAny _ _ (subscriptTail _ _ (Value.ref _) (Value.str _ _)) _ _ _); k_dflt (refine' topItem_K ?F ?X ?l ?k ?e ?_; (case F => k_asm); (case X => k_asm); (case l => first | assumption | k_is); (case k => first | assumption | k_keys); (case e => first | assumption | k_is))))
local macro_rules | `(tactic| walk_at "mi_stepsC") => `(tactic| repeat' ((fail_if_success (with_reducible show wpAny _ _ (exec (Stmt.For _ _ _ _ _) _) _ _ _)); (fail_if_success (with_reducible show wpAny _ _ (exec (Stmt.Assign [_] (Expr.ListComp _ _ _ _) _) _) _ _ _)); (fail_if_success (with_reducible show wpAny _ _ (call (Value.type "zip") _) _ _ _)); (fail_if_success (with_reducible show wpAny _ _ (exec (Stmt.Assign [_] (Expr.DictComp _ _ _ _ _) _) _) _ _ _)); first | ((with_reducible show wpAny _ _ (call (Value.ref _) _ _) _ _ _); walk_at "mi_pc") | ((fail_if_success (with_reducible show wpAny _ _ (call (Value.ref _) _ _) _ _ _)); (fail_if_success (with_reducible show wpAny _ _ (exec (Stmt.Raise _ _ _) _) _ _ _)); first | (k_unfold; (try dsimp only)) | (k_end; kc_close) | walk1 | (dsimp only; walk1) | (leave1; walk_say "STEP leave1"; (try dsimp only)) | fail "no step")))
local macro_rules | `(tactic| walk_at "mi_stepsO") => `(tactic| repeat' ((fail_if_success (with_reducible show wpAny _ _ (exec (Stmt.For _ _ _ _ _) _) _ _ _)); (fail_if_success (with_reducible show wpAny _ _ (exec (Stmt.Assign [_] (Expr.ListComp _ _ _ _) _) _) _ _ _)); (fail_if_success (with_reducible show wpAny _ _ (call (Value.type "zip") _) _ _ _)); (fail_if_success (with_reducible show wpAny _ _ (exec (Stmt.Assign [_] (Expr.DictComp _ _ _ _ _) _) _) _ _ _)); first | ((with_reducible show wpAny _ _ (call (Value.ref _) _ _) _ _ _); walk_at "mi_pc") | ((fail_if_success (with_reducible show wpAny _ _ (call (Value.ref _) _ _) _ _ _)); (fail_if_success (with_reducible show wpAny _ _ (exec (Stmt.Raise _ _ _) _) _ _ _)); first | ((with_reducible show wpAny _ _ (execs _ _) _ _ _); exfalso; omega) | (k_unfold; (try dsimp only)) | (k_end; kc_close) | walk1 | (dsimp only; walk1) | (leave1; walk_say "STEP leave1"; (try dsimp only)) | fail "no step")))
/-- every row of a list of rows lies in a ledger -/
inductive RowsIn (rest : List (Addr × Obj)) : List Value → List (List Int) → Prop
  | nil : RowsIn rest [] []
  | cons {a : Addr} {vb : Array Value} {nb : Nat} {r : List Int} {vs : List Value} {rs : List (List Int)} : (a, listOf vb nb) ∈ rest → IntsAre vb.toList r → RowsIn rest vs rs → RowsIn rest (.ref a :: vs) (r :: rs)
theorem RowsIn.at {rest : List (Addr × Obj)} {vs : List Value} {rs : List (List Int)} {h : Heap} (x : RowsIn rest vs rs) (hn : ∀ p ∈ rest, h.get? p.1 = some p.2) : RowsAt h vs rs := by
  induction x with
  | nil => exact .nil
  | cons m i _ ih => exact .cons ⟨_, _, hn _ m, i⟩ ih
theorem RowsIn.mem {rest : List (Addr × Obj)} {vs : List Value} {rs : List (List Int)} (x : RowsIn rest vs rs) {b : Addr} (hb : Value.ref b ∈ vs) : ∃ o, (b, o) ∈ rest := by
  induction x with
  | nil => cases hb
  | cons m i _ ih =>
    rcases List.mem_cons.mp hb with h | h
    · cases h; exact ⟨_, m⟩
    · exact ih h
theorem RowsIn.more {rest : List (Addr × Obj)} {vs : List Value} {rs : List (List Int)} {p : Addr × Obj} (x : RowsIn rest vs rs) : RowsIn (p :: rest) vs rs := by
  induction x with
  | nil => exact .nil
  | cons m i _ ih => exact .cons (.tail _ m) i ih
theorem RowsIn.snoc {rest : List (Addr × Obj)} {vs : List Value} {rs : List (List Int)} {a : Addr} {vb : Array Value} {nb : Nat} {r : List Int} (x : RowsIn rest vs rs) (i : IntsAre vb.toList r) : RowsIn ((a, listOf vb nb) :: rest) (vs ++ [.ref a]) (rs ++ [r]) := by
  induction x with
  | nil => exact .cons (.head _) i .nil
  | cons m i' _ ih => exact .cons (.tail _ m) i' ih
theorem app1 {l : Addr} {x : Value} {vm : Array Value} {n : Nat} (hl : s.heap.get? l = some (listOf vm n)) (hz : vm.size < 16000)
    (h : ∀ h', h'.get? l = some (listOf (vm.push x) (n + 1)) → Ext [l] s.heap h' → Q .none {s with heap := h'}) : wpAny (model prog w) A (call (.builtin "list.append") [.ref l, x]) Q E s := by
  obtain ⟨vs⟩ := vm
  refine app0 (vs := vs) hl (by simpa using hz) fun h' e1 e2 => h h' (by simpa using e1) e2
theorem appK {g : Heap} {L R : Addr} {m : Str → Option Value} {x : Value} {vm : Array Value} {n : Nat} {pre post : List (Addr × Obj)} (F : Fr g L s.heap m) (N : News g L s.heap (pre ++ (R, listOf vm n) :: post)) (hz : vm.size < 16000)
    (h1 : ∀ p ∈ pre, p.1 ≠ R) (h2 : ∀ p ∈ post, p.1 ≠ R)
    (h : ∀ h', Fr g L h' m → News g L h' (pre ++ (R, listOf (vm.push x) (n + 1)) :: post) → Q .none {s with heap := h'}) : wpAny (model prog w) A (call (.builtin "list.append") [.ref R, x]) Q E s := by
  have q := N _ (List.mem_append_right pre (.head post))
  refine app1 q.1 hz fun h' e1 e2 => h h' (frExt F e2 (by simpa using Ne.symm q.2.1) (by simpa using q.2.2)) fun p hp => ?_
  rcases List.mem_append.mp hp with hp | hp
  · have k := N p (List.mem_append_left _ hp)
    exact ⟨e2.keep (by simpa using h1 p hp) k.1, k.2⟩
  · rcases List.mem_cons.mp hp with rfl | hp
    · exact ⟨e1, q.2⟩
    · have k := N p (List.mem_append_right pre (.tail _ hp))
      exact ⟨e2.keep (by simpa using h2 p hp) k.1, k.2⟩
theorem many_K {g : Heap} {L : Addr} {m : Str → Option Value} {news : List (Addr × Obj)} (S : Bas w mean mg mb base) (hg : base.StaysIn g) (F : Fr g L s.heap m) (N : News g L s.heap news) (hA : A.depth + 2 < recursionLimit)
   (h : ∀ h' tk d o t1 t2 t3, Fr g L h' m → News g L h' ((d, o) :: news) → (d == sysModules) = false → o.IsDictOf (PySem.intKind prog w) [(241, .int 2 t1), (242, .int 3 t2), (243, .int 2 t3)] → Q (.ref d) {s with heap := h', toks := tk}) :
   wpAny (model prog w) A (call (.ref 599) []) Q E s := by
  refine c_many S (fun b o e => F.keep b o (hg b o e)) hA fun h' tk d t1 t2 t3 x aft lo hd => ?_
  obtain ⟨o, e, z⟩ := Heap.dictOf_iff.mp hd
  exact h h' tk d o t1 t2 t3 (frExt F x (by simp) (fun _ q => nomatch q)) (nwCons e (goneL F aft) (gone F aft) (nwExt N x (fun _ _ q => nomatch q))) lo z
theorem many_in {o : Int} {t1 t2 t3 : Tok} : (valueAt [((241 : Int), Value.int 2 t1), (242, .int 3 t2), (243, .int 2 t3)] o).isSome = decide (241 ≤ o ∧ o ≤ 243) := by
  by_cases h : 241 ≤ o ∧ o ≤ 243
  · have : o = 241 ∨ o = 242 ∨ o = 243 := by omega
    rcases this with rfl | rfl | rfl <;> rfl
  · have a1 : ¬ (241 : Int) = o := by omega
    have a2 : ¬ (242 : Int) = o := by omega
    have a3 : ¬ (243 : Int) = o := by omega
    simp [valueAt, a1, a2, a3, h]
theorem many_at {o : Int} {t1 t2 t3 : Tok} (h : 241 ≤ o ∧ o ≤ 243) : ∃ t, valueAt [((241 : Int), Value.int 2 t1), (242, .int 3 t2), (243, .int 2 t3)] o = some (.int (if o = 242 then 3 else 2) t) := by
  have : o = 241 ∨ o = 242 ∨ o = 243 := by omega
  rcases this with rfl | rfl | rfl <;> exact ⟨_, rfl⟩
theorem many_item {g : Heap} {L d : Addr} {o9 : Obj} {news : List (Addr × Obj)} {o : Int} {to t1 t2 t3 : Tok} (N : News g L s.heap news) (hp : (d, o9) ∈ news) (hd : o9.IsDictOf (PySem.intKind prog w) [(241, .int 2 t1), (242, .int 3 t2), (243, .int 2 t3)]) (ho : 241 ≤ o ∧ o ≤ 243)
   (h : ∀ t, Q (.int (if o = 242 then 3 else 2) t) { s with toks := s.toks + 1 }) : wpAny (model prog w) A (getItem (.ref d) (.int o to)) Q E s := by
  obtain ⟨t, e⟩ := many_at (t1 := t1) (t2 := t2) (t3 := t3) ho
  exact wpAny_getItem_of (intKind_is _ _ _ _) (kda_dict N hp hd).mapOf e (h t)
theorem RowsIn.length {rest : List (Addr × Obj)} {vs : List Value} {rs : List (List Int)} (x : RowsIn rest vs rs) : vs.length = rs.length := by
  induction x with
  | nil => rfl
  | cons _ _ _ ih => simp [ih]
theorem hd240 {l : List Int} (h : 0 < l.length) : l.head? = some 240 ↔ l.getD (Int.toNat 0) 0 = 240 := by
  cases l with
  | nil => simp at h
  | cons a r => simp
section
variable {X : RS} {o : Int}
theorem rs1 (h : o < 128) (hb : ¬0 < X.begun.length) : X.step o = X := by
  unfold RS.step
  rw [if_pos h, if_pos (List.eq_nil_of_length_eq_zero (by omega))]
theorem rs2 (h : o < 128) (hb : 0 < X.begun.length) (hn : ((X.begun.length + 1 : Nat) : Int) = X.need) : X.step o = { X with rows := X.rows ++ [X.begun ++ [o]], begun := [] } := by
  unfold RS.step
  rw [if_pos h, if_neg (fun q => by rw [q] at hb; simp at hb), if_pos (by rw [← hn]; simp)]
theorem rs3 (h : o < 128) (hb : 0 < X.begun.length) (hn : ((X.begun.length + 1 : Nat) : Int) ≠ X.need) : X.step o = { X with begun := X.begun ++ [o] } := by
  unfold RS.step
  rw [if_pos h, if_neg (fun q => by rw [q] at hb; simp at hb), if_neg (fun q => hn (by rw [← q]; simp))]
theorem rs4 (h : o = 247) (hb : 0 < X.begun.length) (h2 : X.begun.getD (Int.toNat 0) 0 = 240) : X.step o = { X with rows := X.rows ++ [X.begun ++ [247]], begun := [] } := by
  unfold RS.step
  rw [if_neg (by omega), if_pos h, if_pos ((hd240 hb).mpr h2)]
theorem rs5 (h : o = 247) (hb : 0 < X.begun.length) (h2 : X.begun.getD (Int.toNat 0) 0 ≠ 240) : X.step o = { X with begun := [] } := by
  unfold RS.step
  rw [if_neg (by omega), if_pos h, if_neg (fun q => h2 ((hd240 hb).mp q))]
theorem rs6 (h : o = 247) (hb : ¬0 < X.begun.length) : X.step o = { X with begun := [] } := by
  have e : X.begun = [] := List.eq_nil_of_length_eq_zero (by omega)
  unfold RS.step
  rw [if_neg (by omega), if_pos h, if_neg (by rw [e]; simp)]
theorem rs7 (h1 : ¬o < 128) (h2 : o ≠ 247) (h : 248 ≤ o) (hb : 0 < X.begun.length) (h3 : X.begun.getD (Int.toNat 0) 0 ≠ 240) (h4 : o ≠ 249) (h5 : o ≠ 253) : X.step o = { X with rows := X.rows ++ [[o]], begun := [] } := by
  unfold RS.step
  rw [if_neg h1, if_neg h2, if_pos h, if_neg (fun q => h3 ((hd240 hb).mp q)), if_pos ⟨h4, h5⟩]
theorem rs8 (h1 : ¬o < 128) (h2 : o ≠ 247) (h : 248 ≤ o) (hb : 0 < X.begun.length) (h3 : X.begun.getD (Int.toNat 0) 0 ≠ 240) (h4 : o = 249 ∨ o = 253) : X.step o = { X with begun := [] } := by
  unfold RS.step
  rw [if_neg h1, if_neg h2, if_pos h, if_neg (fun q => h3 ((hd240 hb).mp q)), if_neg (fun q => h4.elim q.1 q.2)]
theorem rs9 (h1 : ¬o < 128) (h2 : o ≠ 247) (h : 248 ≤ o) (hb : 0 < X.begun.length) (h3 : X.begun.getD (Int.toNat 0) 0 = 240) (h4 : o ≠ 249) (h5 : o ≠ 253) : X.step o = { X with rows := X.rows ++ [[o]] } := by
  unfold RS.step
  rw [if_neg h1, if_neg h2, if_pos h, if_pos ((hd240 hb).mpr h3), if_pos ⟨h4, h5⟩]
theorem rs10 (h1 : ¬o < 128) (h2 : o ≠ 247) (h : 248 ≤ o) (hb : 0 < X.begun.length) (h3 : X.begun.getD (Int.toNat 0) 0 = 240) (h4 : o = 249 ∨ o = 253) : X.step o = X := by
  unfold RS.step
  rw [if_neg h1, if_neg h2, if_pos h, if_pos ((hd240 hb).mpr h3), if_neg (fun q => h4.elim q.1 q.2)]
theorem rs11 (h1 : ¬o < 128) (h2 : o ≠ 247) (h : 248 ≤ o) (hb : ¬0 < X.begun.length) (h4 : o ≠ 249) (h5 : o ≠ 253) : X.step o = { X with rows := X.rows ++ [[o]] } := by
  have e : X.begun = [] := List.eq_nil_of_length_eq_zero (by omega)
  unfold RS.step
  rw [if_neg h1, if_neg h2, if_pos h, if_pos ⟨h4, h5⟩, if_neg (by rw [e]; simp), e]
theorem rs12 (h1 : ¬o < 128) (h2 : o ≠ 247) (h : 248 ≤ o) (hb : ¬0 < X.begun.length) (h4 : o = 249 ∨ o = 253) : X.step o = X := by
  have e : X.begun = [] := List.eq_nil_of_length_eq_zero (by omega)
  unfold RS.step
  rw [if_neg h1, if_neg h2, if_pos h, if_neg (fun q => h4.elim q.1 q.2), if_neg (by rw [e]; simp)]
  cases X; simp only at e; subst e; rfl
theorem rs13 (h : o = 246) : X.step o = { X with rows := X.rows ++ [[246]], begun := [] } := by
  unfold RS.step
  rw [if_neg (by omega), if_neg (by omega), if_neg (by omega), if_pos h]
theorem rs14 (h1 : ¬o < 128) (h2 : o ≠ 247) (h3 : ¬248 ≤ o) (h4 : o ≠ 246) {z : Int} (hz : needOf o = z) : X.step o = { X with begun := [o], need := z } := by
  unfold RS.step
  rw [if_neg h1, if_neg h2, if_neg h3, if_neg h4, hz]
end
/-- while it reads, what it keeps is no longer than what it read -/
theorem rs_len (ns : List Int) : ∀ X : RS, (ns.foldl RS.step X).begun.length ≤ X.begun.length + ns.length ∧ (ns.foldl RS.step X).rows.length ≤ X.rows.length + ns.length := by
  induction ns with
  | nil => intro X; simp
  | cons o ns ih =>
    intro X
    have h := ih (X.step o)
    have h2 : (X.step o).begun.length ≤ X.begun.length + 1 ∧ (X.step o).rows.length ≤ X.rows.length + 1 := by
      unfold RS.step
      repeat' split
      all_goals simp
      all_goals (repeat' split)
      all_goals simp
    simp only [List.foldl_cons, List.length_cons]
    omega
theorem push_list {vm : Array Value} {x : Value} : (vm.push x).toList = vm.toList ++ [x] := by simp
local macro_rules | `(tactic| walk_at "call ref") => `(tactic| ((with_reducible show wpAny _ _ (call (Value.ref 599) _) _ _ _); refine many_K (by assumption) (by assumption) (by assumption) (by assumption) (by walk_at "mi_depth") ?_; intro h9 tk9 d9 o9 t91 t92 t93 F9 N9 lo9 z9; (try dsimp only)))
local macro_rules | `(tactic| walk_at "mi_pc") => `(tactic| ((with_reducible show wpAny _ _ (call (Value.ref 599) _) _ _ _); refine many_K (by assumption) (by assumption) (by assumption) (by assumption) (by walk_at "mi_depth") ?_; intro h9 tk9 d9 o9 t91 t92 t93 F9 N9 lo9 z9; (try dsimp only)))
local macro_rules | `(tactic| walk_at "mi_nes") => `(tactic| repeat' (first | exact allNil | assumption | (refine allCons ?_ ?_; (· dsimp only; first | assumption | exact Ne.symm (by assumption) | exact Nat.ne_of_gt (by omega)))))
local macro_rules | `(tactic| walk_at "call builtin:list.append") => `(tactic| ((with_reducible show wpAny _ _ (call (Value.builtin "list.append") [Value.ref _, _]) _ _ _); (first | refine appK (pre := [_, _]) (by assumption) (by assumption) (by omega) (by walk_at "mi_nes") (by walk_at "mi_nes") ?_ | refine appK (pre := [_, _, _]) (by assumption) (by assumption) (by omega) (by walk_at "mi_nes") (by walk_at "mi_nes") ?_); intro h9 F9 N9; (try simp only [List.cons_append, List.nil_append] at N9); (try dsimp only)))
local macro_rules | `(tactic| walk_at "getItem ref int") => `(tactic| (k_here; (with_reducible show wpAny _ _ (getItem (Value.ref _) (Value.int _ _)) _ _ _); (refine many_item (by assumption) (by k_mem) (by assumption) (by assumption) ?_); intro t9; (try dsimp only)))
local macro_rules | `(tactic| walk_at "mi_ne1") => `(tactic| ((try dsimp only); first | assumption | exact Ne.symm (by assumption) | exact Nat.ne_of_gt (by omega)))
local macro_rules | `(tactic| walk_at "mi_sub") => `(tactic| (first | (refine allCons (by k_mem) ?_; intro p hp; repeat (first | exact hp | refine List.mem_cons_of_mem _ ?_)) | (intro p hp; repeat (first | exact hp | refine List.mem_cons_of_mem _ ?_))))
local macro_rules | `(tactic| walk_at "compareOp In int ref") => `(tactic| (k_here; (refine kda_in (knd := PySem.intKind _ _) (by k_asm) (by k_mem) (by assumption) (by assumption) (intKind_is _ _ _ _) _ many_in ?_)))
local macro_rules | `(tactic| walk_at "mi_fm") => `(tactic| (intro y; by_cases y1 : y = Str.ofString "octet"; (· subst y1; rfl); by_cases y2 : y = Str.ofString "need"; (· subst y2; rfl); by_cases y3 : y = Str.ofString "begun"; (· subst y3; rfl); by_cases y4 : y = Str.ofString "rows"; (· subst y4; rfl); simp only [y1, y2, y3, y4, if_false]))
theorem c_rows (D : Addr) (ns : List Int) (S : Bas w mean mg mb base) (hs : base.StaysIn s.heap) (hA : A.depth + 10 < recursionLimit) (hh : A.handled = none) (hi : IsInts s.heap D ns) (hb : base.get? D = none) (hlen : ns.length < 600) (go : ∀ o ∈ ns, GoodO o)
   (hQ : ∀ h' tk l vm nm, Ext [] s.heap h' → After s.heap l → h'.get? l = some (listOf vm nm) → RowsAt h' vm.toList (lawRows ns) → (∀ b, Value.ref b ∈ vm.toList → After s.heap b) → Q (.ref l) {s with heap := h', toks := tk}) :
   wpAny (model prog w) A (call (.ref 620) [.ref D]) Q E s := by
  obtain ⟨vd, nd, e, hv⟩ := hi
  have hz := ia_size hv
  have hfo := fo_cons e hb (fo_nil (h := s.heap) (base := base))
  refine enterM (binds := [(Str.ofString "octets", .ref D)]) _ S hs hfo (by k_is) (by k_is) (by omega) (.of_eq rfl) (locs rfl) ?_
  intro g L' h₁ hg F N X TT hgk hsz hL hgs
  walk_at "mi_steps"
  refine wpAny_For ?_
  k_steps
  rename Fr g L' _ _ => F2
  rename News g L' _ _ => N2
  rename Heap => H
  rename (@LT.lt Nat _ _ _ ∧ @LT.lt Nat _ D _) => z1
  rename @LT.lt Nat _ D _ => z0
  have key : ∃ B R tn, Fr g L' H (fun y => if y = Str.ofString "octet" then none else if y = Str.ofString "need" then some (.int 0 tn) else if y = Str.ofString "begun" then some (.ref B) else if y = Str.ofString "rows" then some (.ref R) else List.lookup y [(Str.ofString "octets", Value.ref D)].reverse) ∧
     News g L' H [(B, listOf #[] 0), (R, listOf #[] 0), (D, listOf vd nd)] ∧ @LT.lt Nat _ R B ∧ @LT.lt Nat _ D R ∧ @LT.lt Nat _ D B := by
    refine' ⟨_, _, ?tn, frMap F2 ?fy, N2, z1.1, z0, z1.2⟩
    case fy =>
      intro y
      by_cases hy : y = Str.ofString "octet"
      · subst hy; rfl
      · rw [if_neg hy]
  obtain ⟨B, R, tn, F3, N3, zRB, zDR, zDB⟩ := key
  refine wpAny_pyIter_list (items := vd) ⟨_, N3.get (.tail _ (.tail _ (.head _))), rfl, _, rfl⟩ ?_
  dsimp only
  generalize hI : H.objs.size = I
  have oldI : ∀ {b : Addr} {ob : Obj}, H.get? b = some ob → b ≠ I := fun e => old_ne e hI.symm
  have gI : g.get? I = none := by
    cases q : g.get? I with
    | none => rfl
    | some ob => exact absurd rfl (oldI (F3.keep _ _ q))
  have LI : L' ≠ I := by
    obtain ⟨oL, _, _, hLo, _⟩ := F3.ns
    exact oldI hLo
  have eI : Ext [] H (H.push { cls := .type "list_iterator", data := .fields #[.ref D, .int 0 0] }) := ext_push _ _
  have hit : (H.push { cls := .type "list_iterator", data := .fields #[.ref D, .int 0 0] }).get? I = some { cls := .type "list_iterator", data := .fields #[.ref D, .int 0 0] } := by
    rw [← hI]; exact Heap.get?_push_size _ rfl
  have RI : R ≠ I := oldI (N3.get (.tail _ (.head _)))
  have DI : D ≠ I := oldI (N3.get (.tail _ (.tail _ (.head _))))
  have RD : R ≠ D := Nat.ne_of_gt zDR
  have F4 := frExt F3 eI (fun h => nomatch h) (fun _ h => nomatch h)
  have N4 := nwExt N3 eI (fun _ _ h => nomatch h)
  clear F2 N2
  obtain ⟨J, hJ⟩ : ∃ J : Nat → Shared → Prop, ∀ i s', J i s' ↔ (∃ h' tk u b tn vb nb vm nm ob rest, s' = {s with heap := h', toks := tk} ∧
     Fr g L' h' (fun y => if y = Str.ofString "octet" then u else if y = Str.ofString "need" then some (.int ((ns.take i).foldl RS.step ⟨[], [], 0⟩).need tn) else if y = Str.ofString "begun" then some (.ref b) else if y = Str.ofString "rows" then some (.ref R) else List.lookup y [(Str.ofString "octets", Value.ref D)].reverse) ∧
     News g L' h' ((I, ob) :: (R, listOf vm nm) :: (b, listOf vb nb) :: (D, listOf vd nd) :: rest) ∧ ob.cls = .type "list_iterator" ∧ ob.data = .fields #[.ref D, .int i 0] ∧ IntsAre vb.toList ((ns.take i).foldl RS.step ⟨[], [], 0⟩).begun ∧
     RowsIn rest vm.toList ((ns.take i).foldl RS.step ⟨[], [], 0⟩).rows ∧ (∀ p ∈ rest, p.1 ≠ R ∧ p.1 ≠ I ∧ p.1 ≠ D) ∧ b ≠ R ∧ b ≠ I ∧ b ≠ D) := ⟨_, fun _ _ => Iff.rfl⟩
  refine loopL (vs := vd) (l := D) J hh ?_ ?_ ?_ ?_
  · intro i s' h
    obtain ⟨h', tk, u, b, tn, vb, nb, vm, nm, ob, rest, rfl, F5, N5, c1, c2, _⟩ := (hJ _ _).mp h
    exact ⟨⟨_, N5.get (.head _), c1, c2⟩, ⟨_, N5.get (.tail _ (.tail _ (.tail _ (.head _)))), rfl, _, rfl⟩⟩
  · intro i v s' h' hx h it2 e2
    obtain ⟨h1, tk, u, b, tn', vb, nb, vm, nm, ob, rest, rfl, F5, N5, c1, c2, iv, R5, r1, r2, r3, r4⟩ := (hJ _ _).mp h
    clear h
    obtain ⟨o, to, rfl, ho⟩ := ia_get hv hx
    obtain ⟨ob2, it3, c3, c4⟩ := it2
    have hi1 : i < ns.length := (List.getElem?_eq_some_iff.mp ho).1
    have go1 := go o (List.mem_of_getElem? ho)
    have F6 := frExt F5 e2 (by simpa using LI) (by simpa using gI)
    have N6 : News g L' h' ((I, ob2) :: (R, listOf vm nm) :: (b, listOf vb nb) :: (D, listOf vd nd) :: rest) := nwCons it3 (Ne.symm LI) gI (nwExt (News.tail' N5) e2 (allCons (by simpa using RI) (allCons (by simpa using r3) (allCons (by simpa using DI) (fun p hp => by simpa using (r1 p hp).2.1)))))
    have hst : (ns.take (i + 1)).foldl RS.step ⟨[], [], 0⟩ = ((ns.take i).foldl RS.step ⟨[], [], 0⟩).step o := by
      rw [List.take_add_one, ho, List.foldl_append]; rfl
    generalize hX : (ns.take i).foldl RS.step ⟨[], [], 0⟩ = X0 at F6 iv R5 hst
    have hrl := rs_len (ns.take i) ⟨[], [], 0⟩
    rw [hX] at hrl
    have hbl : X0.begun.length < 700 := by have := hrl.1; simp only [List.length_take, List.length_nil] at this; omega
    have hml : X0.rows.length < 700 := by have := hrl.2; simp only [List.length_take, List.length_nil] at this; omega
    have hvz := ia_size iv
    have hmz : vm.size < 700 := by have := R5.length; rw [Array.length_toList] at this; omega
    clear hrl
    refine stN F6 N6 fun h2 F7 N7 => ?_
    have F8 := frMap F7 map_twice
    clear F3 N3 F4 N4 F5 N5 F6 N6 F7
    have done : ∀ {h' : Heap} {tk tn2 : Tok} {m' : Str → Option Value} {ps rr : List (Addr × Obj)} {b' : Addr} {vb' vm' : Array Value} {nb' nm' : Nat}, Fr g L' h' m' → News g L' h' ps → (I, ob2) ∈ ps → (R, listOf vm' nm') ∈ ps → (b', listOf vb' nb') ∈ ps → (D, listOf vd nd) ∈ ps → (∀ p ∈ rr, p ∈ ps) →
        IntsAre vb'.toList (X0.step o).begun → RowsIn rr vm'.toList (X0.step o).rows → (∀ p ∈ rr, p.1 ≠ R ∧ p.1 ≠ I ∧ p.1 ≠ D) → b' ≠ R → b' ≠ I → b' ≠ D →
        (∀ y, m' y = if y = Str.ofString "octet" then some (.int o to) else if y = Str.ofString "need" then some (.int (X0.step o).need tn2) else if y = Str.ofString "begun" then some (.ref b') else if y = Str.ofString "rows" then some (.ref R) else List.lookup y [(Str.ofString "octets", Value.ref D)].reverse) →
        J (i + 1) {s with heap := h', toks := tk} := by
      intro h' tk tn2 m' ps rr b' vb' vm' nb' nm' F N q1 q2 q3 q4 q5 w1 w2 w3 w4 w5 w6 hm
      refine (hJ _ _).mpr ⟨_, _, some (.int o to), b', tn2, vb', nb', vm', nm', ob2, rr, rfl, ?_, ?_, c3, c4, ?_, ?_, w3, w4, w5, w6⟩
      · rw [hst]; exact frMap F hm
      · exact allCons (N _ q1) (allCons (N _ q2) (allCons (N _ q3) (allCons (N _ q4) (fun p hp => N p (q5 p hp)))))
      · rw [hst]; exact w1
      · rw [hst]; exact w2
    have r1R : ∀ p ∈ rest, p.1 ≠ R := fun p hp => (r1 p hp).1
    k_steps
    · rename Fr g L' _ _ => Fz
      rename News g L' _ _ => Nz
      have e9 := rs2 (by assumption) (by assumption) (by assumption)
      show J (i + 1) _
      refine done (rr := (_, listOf _ 0) :: rest) Fz Nz (by k_mem) (by k_mem) (.head _) (by k_mem) ?sub (by rw [e9]; exact .nil) (by rw [e9]; (try rw [push_list]); exact R5.snoc (by assumption)) (allCons ⟨by walk_at "mi_ne1", by walk_at "mi_ne1", by walk_at "mi_ne1"⟩ r1) (by walk_at "mi_ne1") (by walk_at "mi_ne1") (by walk_at "mi_ne1") (by rw [e9]; walk_at "mi_fm")
      case sub => walk_at "mi_sub"
    · rename Fr g L' _ _ => Fz
      rename News g L' _ _ => Nz
      have e9 := rs3 (by assumption) (by assumption) (by assumption)
      show J (i + 1) _
      refine done (rr := rest) Fz Nz (by k_mem) (by k_mem) (.head _) (by k_mem) ?sub (by rw [e9]; exact (by assumption)) (by rw [e9]; exact R5) r1 (by walk_at "mi_ne1") (by walk_at "mi_ne1") (by walk_at "mi_ne1") (by rw [e9]; walk_at "mi_fm")
      case sub => walk_at "mi_sub"
    · rename Fr g L' _ _ => Fz
      rename News g L' _ _ => Nz
      have e9 := rs1 (by assumption) (by assumption)
      show J (i + 1) _
      refine done (rr := rest) Fz Nz (by k_mem) (by k_mem) (.tail _ (.tail _ (.head _))) (by k_mem) ?sub (by rw [e9]; exact iv) (by rw [e9]; exact R5) r1 r2 r3 r4 (by rw [e9]; walk_at "mi_fm")
      case sub => walk_at "mi_sub"
    · rename Fr g L' _ _ => Fz
      rename News g L' _ _ => Nz
      have e9 := rs4 (by assumption) (by assumption) (by assumption)
      show J (i + 1) _
      refine done (rr := (_, listOf _ 0) :: rest) Fz Nz (by k_mem) (by k_mem) (.head _) (by k_mem) ?sub (by rw [e9]; exact .nil) (by rw [e9]; (try rw [push_list]); exact R5.snoc (by assumption)) (allCons ⟨by walk_at "mi_ne1", by walk_at "mi_ne1", by walk_at "mi_ne1"⟩ r1) (by walk_at "mi_ne1") (by walk_at "mi_ne1") (by walk_at "mi_ne1") (by rw [e9]; walk_at "mi_fm")
      case sub => walk_at "mi_sub"
    · rename Fr g L' _ _ => Fz
      rename News g L' _ _ => Nz
      have e9 := rs5 (by assumption) (by assumption) (by assumption)
      show J (i + 1) _
      refine done (rr := rest) Fz Nz (by k_mem) (by k_mem) (.head _) (by k_mem) ?sub (by rw [e9]; exact .nil) (by rw [e9]; exact R5) r1 (by walk_at "mi_ne1") (by walk_at "mi_ne1") (by walk_at "mi_ne1") (by rw [e9]; walk_at "mi_fm")
      case sub => walk_at "mi_sub"
    · rename Fr g L' _ _ => Fz
      rename News g L' _ _ => Nz
      have e9 := rs6 (by assumption) (by assumption)
      show J (i + 1) _
      refine done (rr := rest) Fz Nz (by k_mem) (by k_mem) (.head _) (by k_mem) ?sub (by rw [e9]; exact .nil) (by rw [e9]; exact R5) r1 (by walk_at "mi_ne1") (by walk_at "mi_ne1") (by walk_at "mi_ne1") (by rw [e9]; walk_at "mi_fm")
      case sub => walk_at "mi_sub"
    · rename Fr g L' _ _ => Fz
      rename News g L' _ _ => Nz
      have e9 := rs7 (by assumption) (by assumption) (by assumption) (by assumption) (by assumption) (by assumption) (by assumption)
      show J (i + 1) _
      refine done (rr := (_, listOf _ 0) :: rest) Fz Nz (by k_mem) (by k_mem) (.tail _ (.head _)) (by k_mem) (by walk_at "mi_sub") (by rw [e9]; exact .nil) (by rw [e9]; (try rw [push_list]); exact R5.snoc (.cons _ _ .nil)) (allCons ⟨by walk_at "mi_ne1", by walk_at "mi_ne1", by walk_at "mi_ne1"⟩ r1) (by walk_at "mi_ne1") (by walk_at "mi_ne1") (by walk_at "mi_ne1") (by rw [e9]; walk_at "mi_fm")
    · rename Fr g L' _ _ => Fz
      rename News g L' _ _ => Nz
      have e9 := rs8 (by assumption) (by assumption) (by assumption) (by assumption) (by assumption) (.inr (by assumption))
      show J (i + 1) _
      refine done (rr := rest) Fz Nz (by k_mem) (by k_mem) (.head _) (by k_mem) ?sub (by rw [e9]; exact .nil) (by rw [e9]; exact R5) r1 (by walk_at "mi_ne1") (by walk_at "mi_ne1") (by walk_at "mi_ne1") (by rw [e9]; walk_at "mi_fm")
      case sub => walk_at "mi_sub"
    · rename Fr g L' _ _ => Fz
      rename News g L' _ _ => Nz
      have e9 := rs8 (by assumption) (by assumption) (by assumption) (by assumption) (by assumption) (.inl (by assumption))
      show J (i + 1) _
      refine done (rr := rest) Fz Nz (by k_mem) (by k_mem) (.head _) (by k_mem) ?sub (by rw [e9]; exact .nil) (by rw [e9]; exact R5) r1 (by walk_at "mi_ne1") (by walk_at "mi_ne1") (by walk_at "mi_ne1") (by rw [e9]; walk_at "mi_fm")
      case sub => walk_at "mi_sub"
    · rename Fr g L' _ _ => Fz
      rename News g L' _ _ => Nz
      have e9 := rs9 (by assumption) (by assumption) (by assumption) (by assumption) (by assumption) (by assumption) (by assumption)
      show J (i + 1) _
      refine done (rr := (_, listOf _ 0) :: rest) Fz Nz (by k_mem) (by k_mem) (.tail _ (.tail _ (.tail _ (.head _)))) (by k_mem) (by walk_at "mi_sub") (by rw [e9]; exact iv) (by rw [e9]; (try rw [push_list]); exact R5.snoc (.cons _ _ .nil)) (allCons ⟨by walk_at "mi_ne1", by walk_at "mi_ne1", by walk_at "mi_ne1"⟩ r1) r2 r3 r4 (by rw [e9]; walk_at "mi_fm")
    · rename Fr g L' _ _ => Fz
      rename News g L' _ _ => Nz
      have e9 := rs10 (by assumption) (by assumption) (by assumption) (by assumption) (by assumption) (.inr (by assumption))
      show J (i + 1) _
      refine done (rr := rest) Fz Nz (by k_mem) (by k_mem) (.tail _ (.tail _ (.head _))) (by k_mem) ?sub (by rw [e9]; exact iv) (by rw [e9]; exact R5) r1 r2 r3 r4 (by rw [e9]; walk_at "mi_fm")
      case sub => walk_at "mi_sub"
    · rename Fr g L' _ _ => Fz
      rename News g L' _ _ => Nz
      have e9 := rs10 (by assumption) (by assumption) (by assumption) (by assumption) (by assumption) (.inl (by assumption))
      show J (i + 1) _
      refine done (rr := rest) Fz Nz (by k_mem) (by k_mem) (.tail _ (.tail _ (.head _))) (by k_mem) ?sub (by rw [e9]; exact iv) (by rw [e9]; exact R5) r1 r2 r3 r4 (by rw [e9]; walk_at "mi_fm")
      case sub => walk_at "mi_sub"
    · rename Fr g L' _ _ => Fz
      rename News g L' _ _ => Nz
      have e9 := rs11 (by assumption) (by assumption) (by assumption) (by assumption) (by assumption) (by assumption)
      show J (i + 1) _
      refine done (rr := (_, listOf _ 0) :: rest) Fz Nz (by k_mem) (by k_mem) (.tail _ (.tail _ (.tail _ (.head _)))) (by k_mem) (by walk_at "mi_sub") (by rw [e9]; exact iv) (by rw [e9]; (try rw [push_list]); exact R5.snoc (.cons _ _ .nil)) (allCons ⟨by walk_at "mi_ne1", by walk_at "mi_ne1", by walk_at "mi_ne1"⟩ r1) r2 r3 r4 (by rw [e9]; walk_at "mi_fm")
    · rename Fr g L' _ _ => Fz
      rename News g L' _ _ => Nz
      have e9 := rs12 (by assumption) (by assumption) (by assumption) (by assumption) (.inr (by assumption))
      show J (i + 1) _
      refine done (rr := rest) Fz Nz (by k_mem) (by k_mem) (.tail _ (.tail _ (.head _))) (by k_mem) ?sub (by rw [e9]; exact iv) (by rw [e9]; exact R5) r1 r2 r3 r4 (by rw [e9]; walk_at "mi_fm")
      case sub => walk_at "mi_sub"
    · rename Fr g L' _ _ => Fz
      rename News g L' _ _ => Nz
      have e9 := rs12 (by assumption) (by assumption) (by assumption) (by assumption) (.inl (by assumption))
      show J (i + 1) _
      refine done (rr := rest) Fz Nz (by k_mem) (by k_mem) (.tail _ (.tail _ (.head _))) (by k_mem) ?sub (by rw [e9]; exact iv) (by rw [e9]; exact R5) r1 r2 r3 r4 (by rw [e9]; walk_at "mi_fm")
      case sub => walk_at "mi_sub"
    · rename Fr g L' _ _ => Fz
      rename News g L' _ _ => Nz
      have e9 := rs13 (X := X0) (by assumption)
      show J (i + 1) _
      refine done (rr := (_, listOf _ 0) :: rest) Fz Nz (by k_mem) (by k_mem) (.head _) (by k_mem) (allCons (.tail _ (.head _)) (by walk_at "mi_sub")) (by rw [e9]; exact .nil) (by rw [e9]; (try rw [push_list]); exact R5.snoc (.cons _ _ .nil)) (allCons ⟨by walk_at "mi_ne1", by walk_at "mi_ne1", by walk_at "mi_ne1"⟩ r1) (by walk_at "mi_ne1") (by walk_at "mi_ne1") (by walk_at "mi_ne1") (by rw [e9]; walk_at "mi_fm")
    · rename Fr g L' _ _ => Fz
      rename News g L' _ _ => Nz
      have e9 := rs14 (o := o) (X := X0) (by assumption) (by assumption) (by assumption) (by assumption) (z := 2) (by unfold needOf; repeat' split; all_goals omega)
      show J (i + 1) _
      refine done (rr := rest) Fz Nz (by k_mem) (by k_mem) (.tail _ (.head _)) (by k_mem) ?sub (by rw [e9]; exact .cons _ _ .nil) (by rw [e9]; exact R5) r1 (by walk_at "mi_ne1") (by walk_at "mi_ne1") (by walk_at "mi_ne1") (by rw [e9]; walk_at "mi_fm")
      case sub => walk_at "mi_sub"
    · rename Fr g L' _ _ => Fz
      rename News g L' _ _ => Nz
      have e9 := rs14 (o := o) (X := X0) (by assumption) (by assumption) (by assumption) (by assumption) (z := 3) (by unfold needOf; repeat' split; all_goals omega)
      show J (i + 1) _
      refine done (rr := rest) Fz Nz (by k_mem) (by k_mem) (.tail _ (.head _)) (by k_mem) ?sub (by rw [e9]; exact .cons _ _ .nil) (by rw [e9]; exact R5) r1 (by walk_at "mi_ne1") (by walk_at "mi_ne1") (by walk_at "mi_ne1") (by rw [e9]; walk_at "mi_fm")
      case sub => walk_at "mi_sub"
    · rename Fr g L' _ _ => Fz
      rename News g L' _ _ => Nz
      have e9 := rs14 (o := o) (X := X0) (by assumption) (by assumption) (by assumption) (by assumption) (z := 3) (by unfold needOf; repeat' split; all_goals omega)
      show J (i + 1) _
      refine done (rr := rest) Fz Nz (by k_mem) (by k_mem) (.tail _ (.head _)) (by k_mem) ?sub (by rw [e9]; exact .cons _ _ .nil) (by rw [e9]; exact R5) r1 (by walk_at "mi_ne1") (by walk_at "mi_ne1") (by walk_at "mi_ne1") (by rw [e9]; walk_at "mi_fm")
      case sub => walk_at "mi_sub"
    · rename Fr g L' _ _ => Fz
      rename News g L' _ _ => Nz
      have e9 := rs14 (o := o) (X := X0) (by assumption) (by assumption) (by assumption) (by assumption) (z := if o = 242 then 3 else 2) (by unfold needOf; repeat' split; all_goals omega)
      show J (i + 1) _
      refine done (rr := rest) Fz Nz (by k_mem) (by k_mem) (.tail _ (.tail _ (.head _))) (by k_mem) ?sub (by rw [e9]; exact .cons _ _ .nil) (by rw [e9]; exact R5) r1 (by walk_at "mi_ne1") (by walk_at "mi_ne1") (by walk_at "mi_ne1") (by rw [e9]; walk_at "mi_fm")
      case sub => walk_at "mi_sub"
    · rename Fr g L' _ _ => Fz
      rename News g L' _ _ => Nz
      have e9 := rs14 (o := o) (X := X0) (by assumption) (by assumption) (by assumption) (by assumption) (z := 0) (by unfold needOf; repeat' split; all_goals omega)
      show J (i + 1) _
      refine done (rr := rest) Fz Nz (by k_mem) (by k_mem) (.tail _ (.head _)) (by k_mem) ?sub (by rw [e9]; exact .cons _ _ .nil) (by rw [e9]; exact R5) r1 (by walk_at "mi_ne1") (by walk_at "mi_ne1") (by walk_at "mi_ne1") (by rw [e9]; walk_at "mi_fm")
      case sub => walk_at "mi_sub"
  · intro s' h' h e2
    obtain ⟨h1, tk, u, b, tn', vb, nb, vm, nm, ob, rest, rfl, F5, N5, c1, c2, iv, R5, r1, r2, r3, r4⟩ := (hJ _ _).mp h
    have hz2 : ns.take vd.size = ns := by rw [hz]; simp
    rw [hz2] at R5
    have F6 := frExt F5 e2 (by simpa using LI) (by simpa using gI)
    have N6 : News g L' h' ((R, listOf vm nm) :: (b, listOf vb nb) :: (D, listOf vd nd) :: rest) := nwExt (News.tail' N5) e2 (allCons (by simpa using RI) (allCons (by simpa using r3) (allCons (by simpa using DI) (fun p hp => by simpa using (r1 p hp).2.1))))
    clear F3 N3 F4 N4 F5 N5
    k_steps
    refine hQ _ _ R vm nm (ext_of [] hgk hsz hfo F6 N6 (by walk_at "mi_ro")) (after_none hgk (N6.fresh (.head _)) (by simpa using RD)) (N6.get (.head _)) (R5.at fun p hp => N6.get (.tail _ (.tail _ (.tail _ hp)))) fun x hx => ?_
    obtain ⟨o, ho⟩ := R5.mem hx
    exact after_none hgk (N6.fresh (.tail _ (.tail _ (.tail _ ho)))) (by simpa using (r1 _ ho).2.2)
  · refine (hJ _ _).mpr ⟨_, _, none, B, tn, #[], 0, #[], 0, _, [], rfl, F4, nwCons hit (Ne.symm LI) gI (allCons (N4 _ (.tail _ (.head _))) (allCons (N4 _ (.head _)) (allCons (N4 _ (.tail _ (.tail _ (.head _)))) allNil))), rfl, rfl, .nil, .nil, (fun _ h => nomatch h), Nat.ne_of_gt zRB, oldI (N3.get (.head _)), Nat.ne_of_gt zDB⟩
end PartOO
theorem restQA {M : Model} {A : Around} {s : Shared} {E : Value → Shared → Prop} {env : Env} {Q : Flow → Shared → Prop} (h : Q .next s) : wpAny M A (execs [] env) Q E s := by
  w_top off
  walk1
  w_top off
  exact h
section PartQA
local macro_rules | `(tactic| k_steps) => `(tactic| repeat' (first | ((with_reducible show wpAny _ _ (call (Value.ref _) _ _) _ _ _); walk_at "mi_pc") | ((fail_if_success (with_reducible show wpAny _ _ (call (Value.ref _) _ _) _ _ _)); (fail_if_success (with_reducible show wpAny _ _ (exec (Stmt.Raise _ _ _) _) _ _ _)); first | (k_unfold; (try dsimp only)) | (k_end; wrow_close) | walk1 | (dsimp only; walk1) | (leave1; walk_say "STEP leave1"; (try dsimp only)) | fail "no step")))
local macro_rules | `(tactic| k_ne) => `(tactic| first | assumption | exact Ne.symm (by assumption))
local macro_rules | `(tactic| walk_at "call builtin:len") => `(tactic| (k_here; (with_reducible show wpAny _ _ (call (Value.builtin "len") [Value.ref _]) _ _ _); refine PyProof.Rows.len_list (News.isList (by k_asm) (by k_mem)) (by (try simp only [Array.size_push, List.size_toArray]); omega) ?_))
local macro_rules | `(tactic| walk_at "mi_ro") => `(tactic| repeat' (first | exact ro_nil | refine ro_keep (by k_mem) ?_ | refine ro_mut (by simp) ?_))
local macro_rules | `(tactic| walk_at "mi_depth") => `(tactic| ((try simp only [PySem.Around.deeper, PySem.Around.in1_depth]); omega))
local macro_rules | `(tactic| walk_at "mi_pure") => `(tactic| exact hQ _ _ (ext_of [] hgk hsz (fo_nil (base := base)) (by assumption) (by assumption) ro_nil))
local macro_rules | `(tactic| walk_at "mi_steps") => `(tactic| repeat' ((fail_if_success (with_reducible show wpAny _ _ (exec (Stmt.For _ _ _ _ _) _) _ _ _)); first | ((with_reducible show wpAny _ _ (call (Value.ref _) _ _) _ _ _); walk_at "mi_pc") | ((fail_if_success (with_reducible show wpAny _ _ (call (Value.ref _) _ _) _ _ _)); (fail_if_success (with_reducible show wpAny _ _ (exec (Stmt.Raise _ _ _) _) _ _ _)); first | (k_unfold; (try dsimp only)) | (k_end; kc_close) | walk1 | (dsimp only; walk1) | (leave1; walk_say "STEP leave1"; (try dsimp only)) | fail "no step")))
local macro_rules | `(tactic| walk_at "subscriptTail") => `(tactic| (k_here; (with_reducible show wpAny _ _ (subscriptTail _ _ (Value.ref _) (Value.str _ _)) _ _ _); k_dflt (refine' topItem_K ?F ?X ?l ?k ?e ?_; (case F => k_asm); (case X => k_asm); (case l => first | assumption | k_is); (case k => first | assumption | k_keys); (case e => first | assumption | k_is))))
local macro_rules | `(tactic| walk_at "mi_stepsC") => `(tactic| repeat' ((fail_if_success (with_reducible show wpAny _ _ (exec (Stmt.For _ _ _ _ _) _) _ _ _)); (fail_if_success (with_reducible show wpAny _ _ (exec (Stmt.Assign [_] (Expr.ListComp _ _ _ _) _) _) _ _ _)); (fail_if_success (with_reducible show wpAny _ _ (call (Value.type "zip") _) _ _ _)); (fail_if_success (with_reducible show wpAny _ _ (exec (Stmt.Assign [_] (Expr.DictComp _ _ _ _ _) _) _) _ _ _)); first | ((with_reducible show wpAny _ _ (call (Value.ref _) _ _) _ _ _); walk_at "mi_pc") | ((fail_if_success (with_reducible show wpAny _ _ (call (Value.ref _) _ _) _ _ _)); (fail_if_success (with_reducible show wpAny _ _ (exec (Stmt.Raise _ _ _) _) _ _ _)); first | (k_unfold; (try dsimp only)) | (k_end; kc_close) | walk1 | (dsimp only; walk1) | (leave1; walk_say "STEP leave1"; (try dsimp only)) | fail "no step")))
local macro_rules | `(tactic| walk_at "mi_stepsO") => `(tactic| repeat' ((fail_if_success (with_reducible show wpAny _ _ (exec (Stmt.For _ _ _ _ _) _) _ _ _)); (fail_if_success (with_reducible show wpAny _ _ (exec (Stmt.Assign [_] (Expr.ListComp _ _ _ _) _) _) _ _ _)); (fail_if_success (with_reducible show wpAny _ _ (call (Value.type "zip") _) _ _ _)); (fail_if_success (with_reducible show wpAny _ _ (exec (Stmt.Assign [_] (Expr.DictComp _ _ _ _ _) _) _) _ _ _)); first | ((with_reducible show wpAny _ _ (call (Value.ref _) _ _) _ _ _); walk_at "mi_pc") | ((fail_if_success (with_reducible show wpAny _ _ (call (Value.ref _) _ _) _ _ _)); (fail_if_success (with_reducible show wpAny _ _ (exec (Stmt.Raise _ _ _) _) _ _ _)); first | ((with_reducible show wpAny _ _ (execs _ _) _ _ _); exfalso; omega) | (k_unfold; (try dsimp only)) | (k_end; kc_close) | walk1 | (dsimp only; walk1) | (leave1; walk_say "STEP leave1"; (try dsimp only)) | fail "no step")))
/-- what the first c pieces hold -/
def fl (pcs : List (List Int)) (c : Nat) : List Int := (pcs.take c).flatten
def TT (pcs : List (List Int)) (c : Nat) : TS := (fl pcs c).foldl TS.step TS0
def WW (pcs : List (List Int)) (c : Nat) : TS := { TT pcs c with ms := [] }
def rws (pcs : List (List Int)) (c : Nat) : List (List Int) := (TT pcs c).ms
structure Pcs (pcs : List (List Int)) : Prop where
  good : ∀ q ∈ pcs, ∀ o ∈ q, GoodO o
  short : ∀ q ∈ pcs, q.length ≤ 3
  few : pcs.length ≤ 9
  some : 1 ≤ pcs.length
theorem fl_zero (pcs : List (List Int)) : fl pcs 0 = [] := by simp [fl]
theorem fl_succ {pcs : List (List Int)} {c : Nat} {q : List Int} (h : pcs[c]? = some q) : fl pcs (c + 1) = fl pcs c ++ q := by
  unfold fl; rw [List.take_add_one, h]; simp
theorem fl_all (pcs : List (List Int)) : fl pcs pcs.length = pcs.flatten := by simp [fl]
theorem fl_good {pcs : List (List Int)} (P : Pcs pcs) (c : Nat) : ∀ o ∈ fl pcs c, GoodO o := by
  intro o ho
  obtain ⟨q, hq, hoq⟩ := List.mem_flatten.mp ho
  exact P.good q (List.mem_of_mem_take hq) o hoq
theorem fl_len {pcs : List (List Int)} (P : Pcs pcs) : ∀ c, c ≤ pcs.length → (fl pcs c).length ≤ 3 * c := by
  intro c
  induction c with
  | zero => intro _; rw [fl_zero]; simp
  | succ c ih =>
    intro h
    have hc : pcs[c]? = some pcs[c] := by simp [Nat.lt_of_succ_le h]
    rw [fl_succ hc, List.length_append]
    have := ih (by omega)
    have := P.short pcs[c] (List.getElem_mem _)
    omega
theorem fl_len27 {pcs : List (List Int)} (P : Pcs pcs) {c : Nat} (h : c ≤ pcs.length) : (fl pcs c).length ≤ 27 := by
  have := fl_len P c h; have := P.few; omega
theorem TT_succ {pcs : List (List Int)} {c : Nat} {q : List Int} (h : pcs[c]? = some q) : TT pcs (c + 1) = q.foldl TS.step (TT pcs c) := by
  unfold TT; rw [fl_succ h, List.foldl_append]
theorem rws_succ {pcs : List (List Int)} {c : Nat} {q : List Int} (h : pcs[c]? = some q) : rws pcs (c + 1) = rws pcs c ++ (q.foldl TS.step (WW pcs c)).ms := by
  unfold rws; rw [TT_succ h, steps_ms]; rfl
theorem WW_succ {pcs : List (List Int)} {c : Nat} {q : List Int} (h : pcs[c]? = some q) : ({ q.foldl TS.step (WW pcs c) with ms := [] } : TS) = WW pcs (c + 1) := by
  unfold WW; rw [TT_succ h]
  exact (congrArg (fun T : TS => ({ T with ms := [] } : TS)) (steps_ms q (TT pcs c))).symm
theorem rws_law {pcs : List (List Int)} (P : Pcs pcs) (c : Nat) : lawRows (fl pcs c) = rws pcs c := lawRows_eq (fl_good P c)
theorem rws_zero (pcs : List (List Int)) : rws pcs 0 = [] := by unfold rws TT; rw [fl_zero]; rfl
theorem WW_zero (pcs : List (List Int)) : WW pcs 0 = TS0 := by unfold WW TT; rw [fl_zero]; rfl
theorem WW_ms (pcs : List (List Int)) (c : Nat) : (WW pcs c).ms = [] := rfl
theorem rws_len {pcs : List (List Int)} (P : Pcs pcs) {c : Nat} (h : c ≤ pcs.length) : (rws pcs c).length ≤ 27 := by
  have h1 := (steps_len (fl pcs c) TS0).2
  have h2 := fl_len27 P h
  have h3 : TS0.ms.length = 0 := rfl
  unfold rws TT; omega
theorem WW_bs {pcs : List (List Int)} (P : Pcs pcs) {c : Nat} (h : c ≤ pcs.length) : (WW pcs c).bs.length ≤ 27 := by
  have h1 := (steps_len (fl pcs c) TS0).1
  have h2 := fl_len27 P h
  have h3 : TS0.bs.length = 0 := rfl
  unfold WW TT; show (List.foldl TS.step TS0 (fl pcs c)).bs.length ≤ 27; omega
theorem TT_wf {pcs : List (List Int)} (P : Pcs pcs) (c : Nat) : WF (fl pcs c).length (TT pcs c) := by
  have h := WF.steps (fl pcs c) WF.zero (fl_good P c)
  rw [Nat.zero_add] at h
  exact h
theorem rws_ok {pcs : List (List Int)} (P : Pcs pcs) {c : Nat} (h : c ≤ pcs.length) : ∀ r ∈ rws pcs c, RowOk r :=
  (TT_wf P c).ok (by have := fl_len27 P h; omega)
theorem new_ok {pcs : List (List Int)} (P : Pcs pcs) {c : Nat} {q : List Int} (h : pcs[c]? = some q) : ∀ r ∈ (q.foldl TS.step (WW pcs c)).ms, RowOk r := by
  have hc : c < pcs.length := (List.getElem?_eq_some_iff.mp h).1
  intro r hr
  exact rws_ok P (c := c + 1) hc r (by rw [rws_succ h]; exact List.mem_append_right _ hr)
theorem rws_prefix {pcs : List (List Int)} : ∀ {c d : Nat}, c ≤ d → d ≤ pcs.length → rws pcs c <+: rws pcs d := by
  intro c d hcd
  induction d with
  | zero => intro _; obtain rfl : c = 0 := by omega
            exact List.prefix_refl _
  | succ d ih =>
    intro hd
    rcases Nat.lt_or_ge c (d + 1) with h | h
    · have hc : pcs[d]? = some pcs[d] := by simp [Nat.lt_of_succ_le hd]
      rw [rws_succ hc]
      exact List.IsPrefix.trans (ih (by omega) (by omega)) (List.prefix_append _ _)
    · obtain rfl : c = d + 1 := by omega
      exact List.prefix_refl _
theorem rws_at {pcs : List (List Int)} {c k : Nat} {r : List Int} (hc : c ≤ pcs.length) (h : (rws pcs c)[k]? = some r) : (rws pcs pcs.length)[k]? = some r := by
  obtain ⟨t, ht⟩ := rws_prefix hc (Nat.le_refl _)
  rw [← ht]
  have hk : k < (rws pcs c).length := (List.getElem?_eq_some_iff.mp h).1
  rw [List.getElem?_append_left hk]; exact h
theorem drop_at {α : Type} {l r : List α} {x : α} {k : Nat} (h : l.drop k = x :: r) : l[k]? = some x ∧ l.drop (k + 1) = r ∧ k < l.length := by
  have hk : k < l.length := by
    rcases Nat.lt_or_ge k l.length with h1 | h1
    · exact h1
    · rw [List.drop_eq_nil_of_le h1] at h; cases h
  rw [List.drop_eq_getElem_cons hk] at h
  injection h with h1 h2
  exact ⟨by rw [← h1]; simp [hk], h2, hk⟩
theorem drop_feed {pcs : List (List Int)} {c k : Nat} {q : List Int} (h : pcs[c]? = some q) (hk : k ≤ (rws pcs c).length) : (rws pcs c).drop k ++ (q.foldl TS.step (WW pcs c)).ms = (rws pcs (c + 1)).drop k := by
  rw [rws_succ h, List.drop_append_of_le_length hk]
theorem rws_mono {pcs : List (List Int)} {c : Nat} (h : c < pcs.length) : (rws pcs c).length ≤ (rws pcs (c + 1)).length := by
  have hc : pcs[c]? = some pcs[c] := by simp [h]
  rw [rws_succ hc, List.length_append]; omega
end PartQA
theorem restQB {M : Model} {A : Around} {s : Shared} {E : Value → Shared → Prop} {env : Env} {Q : Flow → Shared → Prop} (h : Q .next s) : wpAny M A (execs [] env) Q E s := by
  w_top off
  walk1
  w_top off
  exact h
section PartQB
local macro_rules | `(tactic| k_steps) => `(tactic| repeat' (first | ((with_reducible show wpAny _ _ (call (Value.ref _) _ _) _ _ _); walk_at "mi_pc") | ((fail_if_success (with_reducible show wpAny _ _ (call (Value.ref _) _ _) _ _ _)); (fail_if_success (with_reducible show wpAny _ _ (exec (Stmt.Raise _ _ _) _) _ _ _)); first | (k_unfold; (try dsimp only)) | (k_end; wrow_close) | walk1 | (dsimp only; walk1) | (leave1; walk_say "STEP leave1"; (try dsimp only)) | fail "no step")))
local macro_rules | `(tactic| k_ne) => `(tactic| first | assumption | exact Ne.symm (by assumption))
local macro_rules | `(tactic| walk_at "call builtin:len") => `(tactic| (k_here; (with_reducible show wpAny _ _ (call (Value.builtin "len") [Value.ref _]) _ _ _); refine PyProof.Rows.len_list (News.isList (by k_asm) (by k_mem)) (by (try simp only [Array.size_push, List.size_toArray]); omega) ?_))
local macro_rules | `(tactic| walk_at "mi_ro") => `(tactic| repeat' (first | exact ro_nil | refine ro_keep (by k_mem) ?_ | refine ro_mut (by simp) ?_))
local macro_rules | `(tactic| walk_at "mi_depth") => `(tactic| ((try simp only [PySem.Around.deeper, PySem.Around.in1_depth]); omega))
local macro_rules | `(tactic| walk_at "mi_pure") => `(tactic| exact hQ _ _ (ext_of [] hgk hsz (fo_nil (base := base)) (by assumption) (by assumption) ro_nil))
local macro_rules | `(tactic| walk_at "mi_steps") => `(tactic| repeat' ((fail_if_success (with_reducible show wpAny _ _ (exec (Stmt.For _ _ _ _ _) _) _ _ _)); first | ((with_reducible show wpAny _ _ (call (Value.ref _) _ _) _ _ _); walk_at "mi_pc") | ((fail_if_success (with_reducible show wpAny _ _ (call (Value.ref _) _ _) _ _ _)); (fail_if_success (with_reducible show wpAny _ _ (exec (Stmt.Raise _ _ _) _) _ _ _)); first | (k_unfold; (try dsimp only)) | (k_end; kc_close) | walk1 | (dsimp only; walk1) | (leave1; walk_say "STEP leave1"; (try dsimp only)) | fail "no step")))
local macro_rules | `(tactic| walk_at "subscriptTail") => `(tactic| (k_here; (with_reducible show wpAny _ _ (subscriptTail _ _ (Value.ref _) (Value.str _ _)) _ _ _); k_dflt (refine' topItem_K ?F ?X ?l ?k ?e ?_; (case F => k_asm); (case X => k_asm); (case l => first | assumption | k_is); (case k => first | assumption | k_keys); (case e => first | assumption | k_is))))
local macro_rules | `(tactic| walk_at "mi_stepsC") => `(tactic| repeat' ((fail_if_success (with_reducible show wpAny _ _ (exec (Stmt.For _ _ _ _ _) _) _ _ _)); (fail_if_success (with_reducible show wpAny _ _ (exec (Stmt.Assign [_] (Expr.ListComp _ _ _ _) _) _) _ _ _)); (fail_if_success (with_reducible show wpAny _ _ (call (Value.type "zip") _) _ _ _)); (fail_if_success (with_reducible show wpAny _ _ (exec (Stmt.Assign [_] (Expr.DictComp _ _ _ _ _) _) _) _ _ _)); first | ((with_reducible show wpAny _ _ (call (Value.ref _) _ _) _ _ _); walk_at "mi_pc") | ((fail_if_success (with_reducible show wpAny _ _ (call (Value.ref _) _ _) _ _ _)); (fail_if_success (with_reducible show wpAny _ _ (exec (Stmt.Raise _ _ _) _) _ _ _)); first | (k_unfold; (try dsimp only)) | (k_end; kc_close) | walk1 | (dsimp only; walk1) | (leave1; walk_say "STEP leave1"; (try dsimp only)) | fail "no step")))
local macro_rules | `(tactic| walk_at "mi_stepsO") => `(tactic| repeat' ((fail_if_success (with_reducible show wpAny _ _ (exec (Stmt.For _ _ _ _ _) _) _ _ _)); (fail_if_success (with_reducible show wpAny _ _ (exec (Stmt.Assign [_] (Expr.ListComp _ _ _ _) _) _) _ _ _)); (fail_if_success (with_reducible show wpAny _ _ (call (Value.type "zip") _) _ _ _)); (fail_if_success (with_reducible show wpAny _ _ (exec (Stmt.Assign [_] (Expr.DictComp _ _ _ _ _) _) _) _ _ _)); first | ((with_reducible show wpAny _ _ (call (Value.ref _) _ _) _ _ _); walk_at "mi_pc") | ((fail_if_success (with_reducible show wpAny _ _ (call (Value.ref _) _ _) _ _ _)); (fail_if_success (with_reducible show wpAny _ _ (exec (Stmt.Raise _ _ _) _) _ _ _)); first | ((with_reducible show wpAny _ _ (execs _ _) _ _ _); exfalso; omega) | (k_unfold; (try dsimp only)) | (k_end; kc_close) | walk1 | (dsimp only; walk1) | (leave1; walk_say "STEP leave1"; (try dsimp only)) | fail "no step")))
/-- every object of the heap that is neither the base's nor the frame is in a ledger -/
theorem allN {g h : Heap} {L : Addr} {m : Str → Option Value} (_F : Fr g L h m) : ∃ rest, News g L h rest ∧ ∀ b o, h.get? b = some o → g.get? b = none → b ≠ L → (b, o) ∈ rest := by
  classical
  refine ⟨(List.range h.objs.size).filterMap fun b => if g.get? b = none ∧ b ≠ L then (h.get? b).map (fun o => (b, o)) else none, ?_, ?_⟩
  · intro p hp
    obtain ⟨b, _, hb⟩ := List.mem_filterMap.mp hp
    by_cases hc : g.get? b = none ∧ b ≠ L
    · rw [if_pos hc] at hb
      obtain ⟨o, ho, rfl⟩ := Option.map_eq_some_iff.mp hb
      exact ⟨ho, hc.2, hc.1⟩
    · rw [if_neg hc] at hb; cases hb
  · intro b o e n1 n2
    refine List.mem_filterMap.mpr ⟨b, List.mem_range.mpr (Heap.lt_size e), ?_⟩
    rw [if_pos ⟨n1, n2⟩, e]; rfl
theorem extAll {g h h' : Heap} {L : Addr} {m' : Str → Option Value} {news : List (Addr × Obj)} (hk : g.StaysIn h) (F' : Fr g L h' m') (N' : News g L h' news)
    (hr : ∀ b o, h.get? b = some o → g.get? b = none → b ≠ L → (b, o) ∈ news) : Ext [L] h h' := by
  intro b o hb e
  cases q : g.get? b with
  | none => exact (N' _ (hr b o e q (by simpa using hb))).1
  | some o' =>
    have := hk b o' q
    rw [e] at this
    rw [F'.keep b o' q, Option.some.inj this]
theorem stC {M : Model} {Q : Unit → Shared → Prop} {g : Heap} {L : Addr} {m : Str → Option Value} {env : Env} {x : Str} {v : Value} (F : Fr g L s.heap m)
    (h : ∀ h', Fr g L h' (fun y => if y = x then some v else m y) → Ext [L] s.heap h' → Q () { s with heap := h', toks := s.toks + 1 })
    (hL : env.locals = L) (hk : env.scope.kind = .function) (hl : env.kindOf x = some .local) : wpAny M A (storeName env x v) Q E s := by
  subst hL
  exact wpAny_storeName_local hl F.ns (fun h' hn hs => h h' (F.set hn hs) (ext_same hs)) (by rw [hk]; rfl)
section
variable {env : Env} {x : Str} {px : Pos} {body : List Stmt} {R : Result → Shared → Prop} {I : Addr} {n : Nat} {P : Nat → Value → Prop} {St : Nat → Heap → Prop}
theorem loopR (J : Nat → Shared → Prop) (W : Walks prog w A I [I] [I] n P St)
   (hit : ∀ i s', J i s' → St i s'.heap)
   (turn : ∀ i v s' h' tk, i < n → P i v → J i s' → St (i + 1) h' → Ext [I] s'.heap h' →
      wpAny (model prog w) A (storeName env x v) (fun _ s₂ => wpAny (model prog w) A (execs body env) (fun f s₃ => match f with
          | .next | .cont => J (i + 1) s₃
          | .brk => R (.ok .next) s₃
          | .ret v => R (.ok (.ret v)) s₃) (notedBy (model prog w) A env fun e s' => R (.error e) s') s₂) (notedBy (model prog w) A env fun e s' => R (.error e) s') {s' with heap := h', toks := tk})
   (done : ∀ s' h' tk, J n s' → Ext [I] s'.heap h' → R (.ok .next) {s' with heap := h', toks := tk})
   (h : J 0 s) : codeAny (model prog w) A (.forLoop (.Name x px) (.ref I) body [] env) R s := by
  refine codeAny_forLoop (fun k s' => ∃ i, i ≤ n ∧ k = n - i ∧ J i s') (fun k s' hI => ?_) (n - 0) ⟨0, Nat.zero_le _, rfl, h⟩
  obtain ⟨i, hi, rfl, hJ⟩ := hI
  by_cases hlt : i < n
  · refine W.item i s' _ _ hlt (hit i s' hJ) fun v h' tk hP hst hk => wpAny_assign_Name (wpAny_mono (turn i v s' h' tk hlt hP hJ hst hk) (fun _ s₂ h₂ => wpAny_mono h₂ (fun f s₃ h₃ => ?_) fun _ _ e => e) fun _ _ e => e)
    cases f with
    | next => exact ⟨n - (i + 1), by omega, i + 1, by omega, rfl, h₃⟩
    | cont => exact ⟨n - (i + 1), by omega, i + 1, by omega, rfl, h₃⟩
    | brk => exact h₃
    | ret v => exact h₃
  · obtain rfl : i = n := by omega
    exact W.done s' _ _ (hit _ s' hJ) fun h' tk hk => wpAny_pure (done s' h' tk hJ hk)
end
theorem item_at {value slice : PySem.Expr} {l : Addr} {vs : Array Value} {n : Nat} {k : Int} {u : Tok} {v : Value} (hl : s.heap.get? l = some (listOf vs n)) (h0 : 0 ≤ k) (hhi : k < 2 ^ 63) (hx : vs[k.toNat]? = some v) (h : Q v s)
    (hs : subscripted slice false (.ref l) (.int k u) = operate [.ref l, .int k u] (getItem (.ref l) (.int k u)) := by with_unfolding_all rfl) :
    wpAny (model prog w) A (subscriptTail value slice (.ref l) (.int k u)) Q E s :=
  have hl' : s.heap.IsList l vs := ⟨_, hl, rfl, _, rfl⟩
  tail_any hl'.typeIs slot_list_getitem.lookup (wpAny_getItem_list hl' h0 hhi hx h) hs
theorem ne_lists {a b : Addr} {ns ms : List Int} (x : IsInts s.heap a ns) (y : IsInts s.heap b ms) (hu : A.units + 64 < cLine) (h : Q (.bool (!decide (ns = ms))) s) : wpAny (model prog w) A (compareOp .NotEq (.ref a) (.ref b)) Q E s := by
  obtain ⟨⟨vs⟩, n, e, i⟩ := x
  obtain ⟨⟨us⟩, k, e2, i2⟩ := y
  exact ne_intsK ⟨_, e, rfl, _, rfl⟩ i ⟨_, e2, rfl, _, rfl⟩ i2 hu h
theorem RowsAt.get {h : Heap} {vs : List Value} {rs : List (List Int)} (x : RowsAt h vs rs) : ∀ {i : Nat} {r : List Int}, rs[i]? = some r → ∃ a, vs[i]? = some (.ref a) ∧ IsInts h a r := by
  induction x with
  | nil => intro i r e; simp at e
  | cons y _ ih =>
    intro i r e
    cases i with
    | zero =>
      have e' : some _ = some r := e
      cases e'
      exact ⟨_, rfl, y⟩
    | succ i => exact ih (i := i) e
theorem RowsAt.ofMem {h : Heap} {vs : List Value} {rs : List (List Int)} {a : Addr} (x : RowsAt h vs rs) (hm : Value.ref a ∈ vs) : ∃ r ∈ rs, IsInts h a r := by
  induction x with
  | nil => cases hm
  | cons y _ ih =>
    rcases List.mem_cons.mp hm with q | q
    · cases q; exact ⟨_, .head _, y⟩
    · obtain ⟨r, hr, z⟩ := ih q
      exact ⟨r, .tail _ hr, z⟩
/-- two lists put together -/
theorem cat_at {a b : Addr} {vs ws : List Value} {n k : Nat} (ho : s.heap.get? a = some (listOf vs.toArray n)) (ho2 : s.heap.get? b = some (listOf ws.toArray k)) (hz : vs.length + ws.length ≤ 1000)
    (h : Q (.ref s.heap.objs.size) { s with heap := s.heap.push (listOf (vs ++ ws).toArray 0) }) : wpAny (model prog w) A (binaryOp .Add (.ref a) (.ref b)) Q E s := by
  have e : vs.toArray ++ ws.toArray = (vs ++ ws).toArray := by simp
  refine concat_meets ⟨_, ho, rfl⟩ ⟨_, ho2, rfl⟩ noFill_list_add seq_list_add PySem.F.slot_list_add PySem.F.entry_list_add (PySem.F.args_list_add_2 _ _) (list_addW a b vs.toArray ws.toArray n k none none #[] #[] (by rw [List.size_toArray, List.size_toArray, PySem.sizeLine_eq]; omega)) ⟨ho, ho2, ?_⟩
  rw [e]
  exact h
theorem after_size (h : Heap) : After h h.objs.size := by
  unfold After
  cases q : h.get? h.objs.size with
  | none => rfl
  | some o => exact absurd (Heap.lt_size q) (Nat.lt_irrefl _)
theorem add_at {a b : Addr} {ns ms : List Int} (x : IsInts s.heap a ns) (y : IsInts s.heap b ms) (hz : ns.length + ms.length ≤ 1000)
    (h : ∀ h' l, Ext [] s.heap h' → After s.heap l → IsInts h' l (ns ++ ms) → Q (.ref l) { s with heap := h' }) : wpAny (model prog w) A (binaryOp .Add (.ref a) (.ref b)) Q E s := by
  obtain ⟨⟨vs⟩, n, e, i⟩ := x
  obtain ⟨⟨us⟩, k, e2, i2⟩ := y
  have i' : IntsAre vs ns := i
  have i2' : IntsAre us ms := i2
  refine cat_at e e2 (by rw [i'.length, i2'.length]; exact hz) (h _ _ (ext_push _ _) (after_size _) ⟨_, _, Heap.get?_push_size _ rfl, ?_⟩)
  exact i'.append i2'
end PartQB
theorem restQC {M : Model} {A : Around} {s : Shared} {E : Value → Shared → Prop} {env : Env} {Q : Flow → Shared → Prop} (h : Q .next s) : wpAny M A (execs [] env) Q E s := by
  w_top off
  walk1
  w_top off
  exact h
section PartQC
local macro_rules | `(tactic| k_steps) => `(tactic| repeat' (first | ((with_reducible show wpAny _ _ (call (Value.ref _) _ _) _ _ _); walk_at "mi_pc") | ((fail_if_success (with_reducible show wpAny _ _ (call (Value.ref _) _ _) _ _ _)); (fail_if_success (with_reducible show wpAny _ _ (exec (Stmt.Raise _ _ _) _) _ _ _)); first | (k_unfold; (try dsimp only)) | (k_end; wrow_close) | walk1 | (dsimp only; walk1) | (leave1; walk_say "STEP leave1"; (try dsimp only)) | fail "no step")))
local macro_rules | `(tactic| k_ne) => `(tactic| first | assumption | exact Ne.symm (by assumption))
local macro_rules | `(tactic| walk_at "call builtin:len") => `(tactic| (k_here; (with_reducible show wpAny _ _ (call (Value.builtin "len") [Value.ref _]) _ _ _); refine PyProof.Rows.len_list (News.isList (by k_asm) (by k_mem)) (by (try simp only [Array.size_push, List.size_toArray]); omega) ?_))
local macro_rules | `(tactic| walk_at "mi_ro") => `(tactic| repeat' (first | exact ro_nil | refine ro_keep (by k_mem) ?_ | refine ro_mut (by simp) ?_))
local macro_rules | `(tactic| walk_at "mi_depth") => `(tactic| ((try simp only [PySem.Around.deeper, PySem.Around.in1_depth]); omega))
local macro_rules | `(tactic| walk_at "mi_pure") => `(tactic| exact hQ _ _ (ext_of [] hgk hsz (fo_nil (base := base)) (by assumption) (by assumption) ro_nil))
local macro_rules | `(tactic| walk_at "mi_steps") => `(tactic| repeat' ((fail_if_success (with_reducible show wpAny _ _ (exec (Stmt.For _ _ _ _ _) _) _ _ _)); first | ((with_reducible show wpAny _ _ (call (Value.ref _) _ _) _ _ _); walk_at "mi_pc") | ((fail_if_success (with_reducible show wpAny _ _ (call (Value.ref _) _ _) _ _ _)); (fail_if_success (with_reducible show wpAny _ _ (exec (Stmt.Raise _ _ _) _) _ _ _)); first | (k_unfold; (try dsimp only)) | (k_end; kc_close) | walk1 | (dsimp only; walk1) | (leave1; walk_say "STEP leave1"; (try dsimp only)) | fail "no step")))
local macro_rules | `(tactic| walk_at "subscriptTail") => `(tactic| (k_here; (with_reducible show wpAny _ _ (subscriptTail _ _ (Value.ref _) (Value.str _ _)) _ _ _); k_dflt (refine' topItem_K ?F ?X ?l ?k ?e ?_; (case F => k_asm); (case X => k_asm); (case l => first | assumption | k_is); (case k => first | assumption | k_keys); (case e => first | assumption | k_is))))
local macro_rules | `(tactic| walk_at "mi_stepsC") => `(tactic| repeat' ((fail_if_success (with_reducible show wpAny _ _ (exec (Stmt.For _ _ _ _ _) _) _ _ _)); (fail_if_success (with_reducible show wpAny _ _ (exec (Stmt.Assign [_] (Expr.ListComp _ _ _ _) _) _) _ _ _)); (fail_if_success (with_reducible show wpAny _ _ (call (Value.type "zip") _) _ _ _)); (fail_if_success (with_reducible show wpAny _ _ (exec (Stmt.Assign [_] (Expr.DictComp _ _ _ _ _) _) _) _ _ _)); first | ((with_reducible show wpAny _ _ (call (Value.ref _) _ _) _ _ _); walk_at "mi_pc") | ((fail_if_success (with_reducible show wpAny _ _ (call (Value.ref _) _ _) _ _ _)); (fail_if_success (with_reducible show wpAny _ _ (exec (Stmt.Raise _ _ _) _) _ _ _)); first | (k_unfold; (try dsimp only)) | (k_end; kc_close) | walk1 | (dsimp only; walk1) | (leave1; walk_say "STEP leave1"; (try dsimp only)) | fail "no step")))
local macro_rules | `(tactic| walk_at "mi_stepsO") => `(tactic| repeat' ((fail_if_success (with_reducible show wpAny _ _ (exec (Stmt.For _ _ _ _ _) _) _ _ _)); (fail_if_success (with_reducible show wpAny _ _ (exec (Stmt.Assign [_] (Expr.ListComp _ _ _ _) _) _) _ _ _)); (fail_if_success (with_reducible show wpAny _ _ (call (Value.type "zip") _) _ _ _)); (fail_if_success (with_reducible show wpAny _ _ (exec (Stmt.Assign [_] (Expr.DictComp _ _ _ _ _) _) _) _ _ _)); first | ((with_reducible show wpAny _ _ (call (Value.ref _) _ _) _ _ _); walk_at "mi_pc") | ((fail_if_success (with_reducible show wpAny _ _ (call (Value.ref _) _ _) _ _ _)); (fail_if_success (with_reducible show wpAny _ _ (exec (Stmt.Raise _ _ _) _) _ _ _)); first | ((with_reducible show wpAny _ _ (execs _ _) _ _ _); exfalso; omega) | (k_unfold; (try dsimp only)) | (k_end; kc_close) | walk1 | (dsimp only; walk1) | (leave1; walk_say "STEP leave1"; (try dsimp only)) | fail "no step")))
def lawDef : Option Stmt := PySem.Challenge.pw_ax6006_01.main.body.getLast?
def lawBody : List Stmt := match lawDef with | some (.FunctionDef _ _ b _ _ _ _ _ _ _) => b | _ => []
def lawScope : Scope := match lawDef with | some (.FunctionDef _ _ _ _ _ _ sc _ _ _) => sc | _ => default
def forBody : Stmt → List Stmt | .For _ _ b _ _ => b | _ => []
def nth (l : List Stmt) (i : Nat) : Stmt := l.getD i (.Pass default)
def lawOuter : List Stmt := forBody (nth lawBody 9)
def lawInner : List Stmt := forBody (nth lawOuter 0)
abbrev lawEnv (L fa : Addr) (cd : Value) : Env := envOfC (Str.ofString "law") lawScope L fa cd
theorem ex_step {M : Model} {st : Stmt} {rest : List Stmt} {env : Env} {Q : Flow → Shared → Prop} (K : Shared → Prop) (h1 : wpAny M A (exec st env) (fun f s' => Shut (f = .next ∧ K s')) E s) (h2 : ∀ s', K s' → wpAny M A (execs rest env) Q E s') : wpAny M A (execs (st :: rest) env) Q E s := by
  rw [execs_cons]
  refine wpAny_bind (wpAny_mono h1 (fun f s' hf => ?_) fun _ _ e => e)
  obtain ⟨⟨rfl, hK⟩⟩ := hf
  exact h2 s' hK
theorem ex_nil {M : Model} {env : Env} {Q : Flow → Shared → Prop} (h : Q .next s) : wpAny M A (execs [] env) Q E s := wpAny_pure h
/-- the objects of the law's turns: what stands, and where -/
structure LA where
  (L P R p dp pm t dt lm : Addr)
  (vp vr : Array Value)
  (np nr : Nat)
  (pcs : List (List Int))
  (H0 B : Heap)
structure LawC (a : LA) (base : Heap) : Prop where
  pcs : Pcs a.pcs
  hP : a.H0.get? a.P = some (listOf a.vp a.np)
  rP : RowsAt a.H0 a.vp.toList a.pcs
  hR : a.H0.get? a.R = some (listOf a.vr a.nr)
  rR : RowsAt a.H0 a.vr.toList (rws a.pcs a.pcs.length)
  nPL : a.P ≠ a.L
  nRL : a.R ≠ a.L
  rPL : ∀ b, Value.ref b ∈ a.vp.toList → b ≠ a.L
  rRL : ∀ b, Value.ref b ∈ a.vr.toList → b ≠ a.L
  new : ∀ b ∈ [a.p, a.dp, a.pm, a.t, a.dt, a.lm], After a.H0 b
  bP : base.get? a.P = none
  bR : base.get? a.R = none
  hL : a.L = base.objs.size
  hB : ∀ b, a.B.get? b = none ↔ (base.get? b = none ∧ b ≠ a.L)
/-- the state between two statements of a turn: c pieces were fed, taken says k, the parser has given out j -/
structure LawSt (prog : Program) (w : World) (base : Heap) (a : LA) (h : Heap) (m : Str → Option Value) (c k j : Nat) (xs : List Value) (lb fd : Addr) : Prop where
  fr : Fr base a.L h m
  mP : m (Str.ofString "pieces") = some (.ref a.P)
  mR : m (Str.ofString "rows") = some (.ref a.R)
  mp : m (Str.ofString "parser") = some (.ref a.p)
  mf : m (Str.ofString "fed") = some (.ref fd)
  mc : ∃ tc, m (Str.ofString "count") = some (.int c tc)
  mtk : ∃ tk, m (Str.ofString "taken") = some (.int k tk)
  old : Ext [a.L] a.H0 h
  par : ParAt prog w a.B h a.p a.dp a.pm a.t a.dt lb a.lm xs ((rws a.pcs c).drop j) (WW a.pcs c)
  lbn : After a.H0 lb
  fed : IsInts h fd (fl a.pcs c)
  fdn : fd ≠ a.pm ∧ fd ≠ lb ∧ fd ≠ a.lm
  fdb : base.get? fd = none
  c1 : 1 ≤ c
  c2 : c ≤ a.pcs.length
  k2 : k ≤ (rws a.pcs c).length
/-- the frame's names, those that count first -/
abbrev lmap (a : LA) (fd : Addr) (c k : Nat) (tc tk : Tok) (m : Str → Option Value) : Str → Option Value := fun y =>
  if y = Str.ofString "pieces" then some (.ref a.P) else if y = Str.ofString "rows" then some (.ref a.R) else if y = Str.ofString "parser" then some (.ref a.p) else if y = Str.ofString "fed" then some (.ref fd)
  else if y = Str.ofString "count" then some (.int c tc) else if y = Str.ofString "taken" then some (.int k tk) else m y
theorem LawSt.frame {a : LA} {h : Heap} {m : Str → Option Value} {c k j : Nat} {xs : List Value} {lb fd : Addr} (X : LawSt prog w base a h m c k j xs lb fd) :
    ∃ tc tk, Fr base a.L h (lmap a fd c k tc tk m) := by
  obtain ⟨tc, hc⟩ := X.mc
  obtain ⟨tk, hk⟩ := X.mtk
  refine ⟨tc, tk, frMap X.fr fun y => ?_⟩
  simp only [lmap]
  by_cases h1 : y = Str.ofString "pieces"
  · rw [if_pos h1, h1, X.mP]
  rw [if_neg h1]
  by_cases h2 : y = Str.ofString "rows"
  · rw [if_pos h2, h2, X.mR]
  rw [if_neg h2]
  by_cases h3 : y = Str.ofString "parser"
  · rw [if_pos h3, h3, X.mp]
  rw [if_neg h3]
  by_cases h4 : y = Str.ofString "fed"
  · rw [if_pos h4, h4, X.mf]
  rw [if_neg h4]
  by_cases h5 : y = Str.ofString "count"
  · rw [if_pos h5, h5, hc]
  rw [if_neg h5]
  by_cases h6 : y = Str.ofString "taken"
  · rw [if_pos h6, h6, hk]
  rw [if_neg h6]
theorem push_none {g : Heap} {o : Obj} {b : Addr} (ho : o.isFreed = false) : (g.push o).get? b = none ↔ (g.get? b = none ∧ b ≠ g.objs.size) := by
  constructor
  · intro e
    refine ⟨?_, fun q => ?_⟩
    · cases q : g.get? b with
      | none => rfl
      | some ob => rw [Heap.get?_push_of_some o q] at e; cases e
    · subst q; rw [Heap.get?_push_size g ho] at e; cases e
  · rintro ⟨e, n⟩
    cases q : (g.push o).get? b with
    | none => rfl
    | some ob =>
      have h1 := Heap.lt_size q
      rw [Heap.size_push] at h1
      have h2 : b < g.objs.size := Nat.lt_of_le_of_ne (Nat.lt_succ_iff.mp h1) n
      obtain ⟨q1, q2⟩ := Heap.get?_some_iff.mp q
      have : g.get? b = some ob := Heap.get?_some_iff.mpr ⟨by
        cases g
        simp only [Heap.push] at q1
        rw [Array.getElem?_push_lt h2] at q1
        simpa [h2] using q1, q2⟩
      rw [e] at this; cases this
theorem MsgAt.dom {b2 : Heap} {av : List Addr} {h : Heap} {x : Addr} {row : List Int} (M : MsgAt prog w base av h x row) (hd : ∀ b, base.get? b = none → b2.get? b = none) : MsgAt prog w b2 av h x row := by
  obtain ⟨dx, hf, tf, d, kvs, a1, a2, a3, ⟨y1, y2, y3⟩, a5, a6, a7, a8⟩ := M
  refine ⟨dx, hf, tf, d, kvs, a1, a2, a3, ⟨hd _ y1, hd _ y2, hd _ y3⟩, a5, a6, a7, ?_⟩
  rcases a8 with z | ⟨tt, t0, tp, vd, ds, b1, b2, b3, b4, b5, b6⟩
  · exact .inl z
  · exact .inr ⟨tt, t0, tp, vd, ds, b1, b2, hd _ b3, b4, b5, b6⟩
theorem MsgAt.keepB {av : List Addr} {h h' : Heap} {x : Addr} {row : List Int} {mt : List Addr} (M : MsgAt prog w base av h x row) (e : Ext mt h h') (hm : ∀ b ∈ mt, b ∈ av ∨ base.get? b ≠ none) : MsgAt prog w base av h' x row := by
  obtain ⟨dx, hf, tf, d, kvs, a1, a2, a3, ⟨y1, y2, y3⟩, a5, ⟨x1, x2, x3⟩, a7, a8⟩ := M
  have out : ∀ {b : Addr}, base.get? b = none → b ∉ av → b ∉ mt := fun e1 n q => (hm _ q).elim n fun z => z e1
  obtain ⟨od, hod, hdk⟩ := Heap.dictOf_iff.mp a3
  refine ⟨dx, hf, tf, d, kvs, e.keep (out y1 x1) a1, e.keep (out y2 x2) a2, Heap.dictOf_iff.mpr ⟨od, e.keep (out y3 x3) hod, hdk⟩, ⟨y1, y2, y3⟩, a5, ⟨x1, x2, x3⟩, a7, ?_⟩
  rcases a8 with z | ⟨tt, t0, tp, vd, ds, b1, b2, b3, b4, b5, b6⟩
  · exact .inl z
  · exact .inr ⟨tt, t0, tp, vd, ds, b1, e.keep (out b3 b4) b2, b3, b4, b5, b6⟩
theorem MsgsAt.dom {b2 : Heap} {av : List Addr} {h : Heap} {vs : List Value} {rs : List (List Int)} (M : MsgsAt prog w base av h vs rs) (hd : ∀ b, base.get? b = none → b2.get? b = none) : MsgsAt prog w b2 av h vs rs := by
  induction M with
  | nil => exact .nil
  | cons a _ ih => exact .cons (a.dom hd) ih
theorem MsgsAt.keepB {av : List Addr} {h h' : Heap} {vs : List Value} {rs : List (List Int)} {mt : List Addr} (M : MsgsAt prog w base av h vs rs) (e : Ext mt h h') (hm : ∀ b ∈ mt, b ∈ av ∨ base.get? b ≠ none) : MsgsAt prog w base av h' vs rs := by
  induction M with
  | nil => exact .nil
  | cons a _ ih => exact .cons (a.keepB e hm) ih
theorem ParAt.dom {b2 h : Heap} {p dp pm t dt lb lm : Addr} {xs : List Value} {rs : List (List Int)} {T : TS} (x : ParAt prog w base h p dp pm t dt lb lm xs rs T) (hd : ∀ b, base.get? b = none → b2.get? b = none) :
    ParAt prog w b2 h p dp pm t dt lb lm xs rs T := by
  obtain ⟨a1, a2, a3, a4, ⟨g1, g2, g3⟩, ⟨c1, c2, c3, ⟨vm, nm, d1, d2, d3⟩, c5, f1, f2, f3, f4⟩, a7, a8⟩ := x
  refine ⟨a1, a2, a3, a4, ⟨hd _ g1, hd _ g2, hd _ g3⟩, ⟨c1, c2, c3, ⟨vm, nm, d1, d2, fun r hr => ?_⟩, c5, hd _ f1, hd _ f2, hd _ f3, hd _ f4⟩, a7, a8.dom hd⟩
  obtain ⟨z1, z2, ⟨z3, z5⟩, z4⟩ := d3 r hr
  exact ⟨z1, z2, ⟨z3, hd _ z5⟩, z4⟩
/-- what the base holds may change: the parser lies elsewhere -/
theorem ParAt.keepB {h h' : Heap} {p dp pm t dt lb lm : Addr} {xs : List Value} {rs : List (List Int)} {T : TS} {mt : List Addr} (x : ParAt prog w base h p dp pm t dt lb lm xs rs T) (e : Ext mt h h') (hm : ∀ b ∈ mt, base.get? b ≠ none) :
    ParAt prog w base h' p dp pm t dt lb lm xs rs T := by
  obtain ⟨a1, ⟨q1, q2, k1, k2, a2⟩, ⟨n, a3⟩, a4, ⟨g1, g2, g3⟩, a6, a7, a8⟩ := x
  have out : ∀ {b : Addr}, base.get? b = none → b ∉ mt := fun e1 q => hm _ q e1
  obtain ⟨f1, f2, f3, f4⟩ := a6.fresh
  exact ⟨e.keep (out g1) a1, ⟨q1, q2, k1, k2, e.keep (out g2) a2⟩, ⟨n, e.keep (out g3) a3⟩, a4, ⟨g1, g2, g3⟩, a6.keep e (out f1) (out f2) (out f3) (out f4) a7, a7, a8.keepB e fun b hb => .inr (hm b hb)⟩
/-- the law's frame as a part of the base -/
theorem LawC.both {a : LA} (C : LawC a base) {h : Heap} {m : Str → Option Value} (F : Fr base a.L h m) : ∃ g : Heap, base.StaysIn g ∧ g.StaysIn h ∧ g.objs.size ≤ h.objs.size ∧ (∀ b, a.B.get? b = none ↔ g.get? b = none) := by
  obtain ⟨o, _, _, hLo, _⟩ := F.ns
  obtain ⟨_, ho⟩ := Heap.get?_some_iff.mp hLo
  have pn : ∀ {b : Addr}, (base.push o).get? b = none ↔ (base.get? b = none ∧ b ≠ base.objs.size) := push_none ho
  refine ⟨base.push o, fun b ob e => Heap.get?_push_of_some o e, fun b ob e => ?_, ?_, fun b => ?_⟩
  · cases q : base.get? b with
    | some o2 =>
      have := Heap.get?_push_of_some o q
      rw [e] at this
      rw [Option.some.inj this]; exact F.keep b o2 q
    | none =>
      have hb : b = base.objs.size := Classical.byContradiction fun n => by rw [pn.mpr ⟨q, n⟩] at e; cases e
      subst hb
      rw [Heap.get?_push_size base ho] at e
      rw [← C.hL, hLo]; exact e
  · rw [Heap.size_push, ← C.hL]; exact F.ns.lt
  · rw [C.hB b, pn, C.hL]
end PartQC
theorem restQD {M : Model} {A : Around} {s : Shared} {E : Value → Shared → Prop} {env : Env} {Q : Flow → Shared → Prop} (h : Q .next s) : wpAny M A (execs [] env) Q E s := by
  w_top off
  walk1
  w_top off
  exact h
section PartQD
local macro_rules | `(tactic| k_steps) => `(tactic| repeat' (first | ((with_reducible show wpAny _ _ (call (Value.ref _) _ _) _ _ _); walk_at "mi_pc") | ((fail_if_success (with_reducible show wpAny _ _ (call (Value.ref _) _ _) _ _ _)); (fail_if_success (with_reducible show wpAny _ _ (exec (Stmt.Raise _ _ _) _) _ _ _)); first | (k_unfold; (try dsimp only)) | (k_end; wrow_close) | walk1 | (dsimp only; walk1) | (leave1; walk_say "STEP leave1"; (try dsimp only)) | fail "no step")))
local macro_rules | `(tactic| k_ne) => `(tactic| first | assumption | exact Ne.symm (by assumption))
local macro_rules | `(tactic| walk_at "call builtin:len") => `(tactic| (k_here; (with_reducible show wpAny _ _ (call (Value.builtin "len") [Value.ref _]) _ _ _); refine PyProof.Rows.len_list (News.isList (by k_asm) (by k_mem)) (by (try simp only [Array.size_push, List.size_toArray]); omega) ?_))
local macro_rules | `(tactic| walk_at "mi_ro") => `(tactic| repeat' (first | exact ro_nil | refine ro_keep (by k_mem) ?_ | refine ro_mut (by simp) ?_))
local macro_rules | `(tactic| walk_at "mi_depth") => `(tactic| ((try simp only [PySem.Around.deeper, PySem.Around.in1_depth]); omega))
local macro_rules | `(tactic| walk_at "mi_pure") => `(tactic| exact hQ _ _ (ext_of [] hgk hsz (fo_nil (base := base)) (by assumption) (by assumption) ro_nil))
local macro_rules | `(tactic| walk_at "mi_steps") => `(tactic| repeat' ((fail_if_success (with_reducible show wpAny _ _ (exec (Stmt.For _ _ _ _ _) _) _ _ _)); first | ((with_reducible show wpAny _ _ (call (Value.ref _) _ _) _ _ _); walk_at "mi_pc") | ((fail_if_success (with_reducible show wpAny _ _ (call (Value.ref _) _ _) _ _ _)); (fail_if_success (with_reducible show wpAny _ _ (exec (Stmt.Raise _ _ _) _) _ _ _)); first | (k_unfold; (try dsimp only)) | (k_end; kc_close) | walk1 | (dsimp only; walk1) | (leave1; walk_say "STEP leave1"; (try dsimp only)) | fail "no step")))
local macro_rules | `(tactic| walk_at "subscriptTail") => `(tactic| (k_here; (with_reducible show wpAny _ _ (subscriptTail _ _ (Value.ref _) (Value.str _ _)) _ _ _); k_dflt (refine' topItem_K ?F ?X ?l ?k ?e ?_; (case F => k_asm); (case X => k_asm); (case l => first | assumption | k_is); (case k => first | assumption | k_keys); (case e => first | assumption | k_is))))
local macro_rules | `(tactic| walk_at "mi_stepsC") => `(tactic| repeat' ((fail_if_success (with_reducible show wpAny _ _ (exec (Stmt.For _ _ _ _ _) _) _ _ _)); (fail_if_success (with_reducible show wpAny _ _ (exec (Stmt.Assign [_] (Expr.ListComp _ _ _ _) _) _) _ _ _)); (fail_if_success (with_reducible show wpAny _ _ (call (Value.type "zip") _) _ _ _)); (fail_if_success (with_reducible show wpAny _ _ (exec (Stmt.Assign [_] (Expr.DictComp _ _ _ _ _) _) _) _ _ _)); first | ((with_reducible show wpAny _ _ (call (Value.ref _) _ _) _ _ _); walk_at "mi_pc") | ((fail_if_success (with_reducible show wpAny _ _ (call (Value.ref _) _ _) _ _ _)); (fail_if_success (with_reducible show wpAny _ _ (exec (Stmt.Raise _ _ _) _) _ _ _)); first | (k_unfold; (try dsimp only)) | (k_end; kc_close) | walk1 | (dsimp only; walk1) | (leave1; walk_say "STEP leave1"; (try dsimp only)) | fail "no step")))
local macro_rules | `(tactic| walk_at "mi_stepsO") => `(tactic| repeat' ((fail_if_success (with_reducible show wpAny _ _ (exec (Stmt.For _ _ _ _ _) _) _ _ _)); (fail_if_success (with_reducible show wpAny _ _ (exec (Stmt.Assign [_] (Expr.ListComp _ _ _ _) _) _) _ _ _)); (fail_if_success (with_reducible show wpAny _ _ (call (Value.type "zip") _) _ _ _)); (fail_if_success (with_reducible show wpAny _ _ (exec (Stmt.Assign [_] (Expr.DictComp _ _ _ _ _) _) _) _ _ _)); first | ((with_reducible show wpAny _ _ (call (Value.ref _) _ _) _ _ _); walk_at "mi_pc") | ((fail_if_success (with_reducible show wpAny _ _ (call (Value.ref _) _ _) _ _ _)); (fail_if_success (with_reducible show wpAny _ _ (exec (Stmt.Raise _ _ _) _) _ _ _)); first | ((with_reducible show wpAny _ _ (execs _ _) _ _ _); exfalso; omega) | (k_unfold; (try dsimp only)) | (k_end; kc_close) | walk1 | (dsimp only; walk1) | (leave1; walk_say "STEP leave1"; (try dsimp only)) | fail "no step")))
theorem LawC.inB {a : LA} (C : LawC a base) : ∀ b ∈ [a.L], a.B.get? b ≠ none := by
  intro b hb q
  rw [List.mem_singleton.mp hb] at q
  exact ((C.hB _).mp q).2 rfl
theorem LawSt.keep0 {a : LA} {h h' : Heap} {m : Str → Option Value} {c k j : Nat} {xs : List Value} {lb fd : Addr} (X : LawSt prog w base a h m c k j xs lb fd) (e : Ext [] h h') : LawSt prog w base a h' m c k j xs lb fd :=
  { X with
    fr := frExt X.fr e (fun h => nomatch h) (fun _ h => nomatch h)
    old := X.old.trans e.nil
    par := X.par.keepB e (fun _ h => nomatch h)
    fed := X.fed.keep e (fun h => nomatch h) }
theorem LawSt.fdL {a : LA} {h : Heap} {m : Str → Option Value} {c k j : Nat} {xs : List Value} {lb fd : Addr} (X : LawSt prog w base a h m c k j xs lb fd) : fd ≠ a.L := X.fed.neFr X.fr
/-- the frame alone changed -/
theorem LawSt.store {a : LA} {h h' : Heap} {m m' : Str → Option Value} {c k k' j : Nat} {xs : List Value} {lb fd : Addr} (C : LawC a base) (X : LawSt prog w base a h m c k j xs lb fd) (F : Fr base a.L h' m') (e : Ext [a.L] h h')
    (hP : m' (Str.ofString "pieces") = some (.ref a.P)) (hR : m' (Str.ofString "rows") = some (.ref a.R)) (hp : m' (Str.ofString "parser") = some (.ref a.p)) (hf : m' (Str.ofString "fed") = some (.ref fd))
    (hc : ∃ tc, m' (Str.ofString "count") = some (.int c tc)) (hk : ∃ tk, m' (Str.ofString "taken") = some (.int k' tk)) (hk2 : k' ≤ (rws a.pcs c).length) : LawSt prog w base a h' m' c k' j xs lb fd where
  fr := F
  mP := hP
  mR := hR
  mp := hp
  mf := hf
  mc := hc
  mtk := hk
  old := X.old.trans e
  par := X.par.keepB e C.inB
  lbn := X.lbn
  fed := X.fed.keep e (by simpa using X.fdL)
  fdn := X.fdn
  fdb := X.fdb
  c1 := X.c1
  c2 := X.c2
  k2 := hk2
theorem LawC.row {a : LA} (C : LawC a base) {c k : Nat} {row : List Int} (hc : c ≤ a.pcs.length) (hrow : (rws a.pcs c)[k]? = some row) : ∃ r, a.vr[(k : Int).toNat]? = some (.ref r) ∧ IsInts a.H0 r row ∧ r ≠ a.L := by
  obtain ⟨r, hr, hi⟩ := C.rR.get (rws_at hc hrow)
  refine ⟨r, by simpa using hr, hi, C.rRL r (List.mem_of_getElem? hr)⟩
local macro_rules | `(tactic| walk_at "subscriptTail") => `(tactic| ((with_reducible show wpAny _ _ (subscriptTail _ _ (Value.ref _) (Value.int _ _)) _ _ _); refine item_at (News.get (by k_asm) (by k_mem)) (by omega) (by omega) (by assumption) ?_))
local macro_rules | `(tactic| walk_at "compareOp NotEq ref ref") => `(tactic| ((with_reducible show wpAny _ _ (compareOp CmpOp.NotEq (Value.ref _) (Value.ref _)) _ _ _); refine ne_lists (by assumption) (by assumption) (by assumption) ?_; (try simp only [decide_true, Bool.not_true])))
theorem b0 {a : LA} {m : Str → Option Value} {c k : Nat} {xs : List Value} {lb fd x fa : Addr} {cd : Value} {row : List Int} {av : List Addr}
    (S : Bas w mean mg mb base) (C : LawC a base) (hA : A.depth + 80 < recursionLimit) (hh : A.handled = none) (hU : A.units + 64 < cLine)
    (X : LawSt prog w base a s.heap m c k (k + 1) xs lb fd) (hm : m (Str.ofString "message") = some (.ref x)) (M : MsgAt prog w a.B av s.heap x row) (hrow : (rws a.pcs c)[k]? = some row) :
    wpAny (model prog w) A (exec (nth lawInner 0) (lawEnv a.L fa cd)) (fun f s' => Shut (f = .next ∧ ∃ h' tk, s' = {s with heap := h', toks := tk} ∧ LawSt prog w base a h' m c k (k + 1) xs lb fd)) E s := by
  show wpAny _ _ (exec (Stmt.If _ _ _ _) (envOfC _ (Scope.mk _ _ _ _ _) _ _ _)) _ _ _
  obtain ⟨tc, tt, F0⟩ := X.frame
  have KX := S.X
  have KT := S.T
  have F : Fr base a.L s.heap (fun y => if y = Str.ofString "message" then some (.ref x) else lmap a fd c k tc tt m y) := frMap F0 fun y => by
    by_cases h : y = Str.ofString "message"
    · rw [if_pos h, h]; exact hm
    · rw [if_neg h]
  obtain ⟨dx, hf, tf, d, kvs, a1, a2, a3, ⟨y1, y2, y3⟩, _⟩ := id M
  have zx := (C.hB x).mp y1
  have zdx := (C.hB dx).mp y2
  obtain ⟨rest, NR, _⟩ := allN F
  have N : News base a.L s.heap ((x, instObj 455 dx) :: (dx, dictOf [⟨hf, .str (Str.ofString "fields") tf, .ref d⟩] 1) :: (a.R, listOf a.vr a.nr) :: rest) := nwCons a1 zx.2 zx.1 (nwCons a2 zdx.2 zdx.1 <| nwCons (X.old.keep (by simpa using C.nRL) C.hR) C.nRL C.bR NR)
  obtain ⟨g2, s1, s2, s3, s4⟩ := C.both X.fr
  have hrok := rws_ok C.pcs X.c2 row (List.mem_of_getElem? hrow)
  obtain ⟨r, hx, hri, hrl⟩ := C.row X.c2 hrow
  have hri1 := hri.keep X.old (by simpa using hrl)
  clear F0
  k_steps
  refine c_bytes (base := g2) x ⟨S.X.keeps s1, S.T.keeps s1⟩ s2 (by walk_at "mi_depth") hh (M.dom fun b e => (s4 b).mp e) hrok.2 fun h6 tk6 l e6 a6 i6 => ?_
  have F6 := frExt F e6 (fun h => nomatch h) (fun _ h => nomatch h)
  have N6 := nwExt N e6 (fun _ _ h => nomatch h)
  have hri6 := hri1.keep e6 (fun h => nomatch h)
  have hk27 : k ≤ 27 := Nat.le_trans X.k2 (rws_len C.pcs X.c2)
  clear F N
  k_steps
  exact .mk ⟨rfl, _, _, rfl, X.keep0 e6⟩
end PartQD
theorem restQE {M : Model} {A : Around} {s : Shared} {E : Value → Shared → Prop} {env : Env} {Q : Flow → Shared → Prop} (h : Q .next s) : wpAny M A (execs [] env) Q E s := by
  w_top off
  walk1
  w_top off
  exact h
section PartQE
local macro_rules | `(tactic| k_steps) => `(tactic| repeat' (first | ((with_reducible show wpAny _ _ (call (Value.ref _) _ _) _ _ _); walk_at "mi_pc") | ((fail_if_success (with_reducible show wpAny _ _ (call (Value.ref _) _ _) _ _ _)); (fail_if_success (with_reducible show wpAny _ _ (exec (Stmt.Raise _ _ _) _) _ _ _)); first | (k_unfold; (try dsimp only)) | (k_end; wrow_close) | walk1 | (dsimp only; walk1) | (leave1; walk_say "STEP leave1"; (try dsimp only)) | fail "no step")))
local macro_rules | `(tactic| k_ne) => `(tactic| first | assumption | exact Ne.symm (by assumption))
local macro_rules | `(tactic| walk_at "call builtin:len") => `(tactic| (k_here; (with_reducible show wpAny _ _ (call (Value.builtin "len") [Value.ref _]) _ _ _); refine PyProof.Rows.len_list (News.isList (by k_asm) (by k_mem)) (by (try simp only [Array.size_push, List.size_toArray]); omega) ?_))
local macro_rules | `(tactic| walk_at "mi_ro") => `(tactic| repeat' (first | exact ro_nil | refine ro_keep (by k_mem) ?_ | refine ro_mut (by simp) ?_))
local macro_rules | `(tactic| walk_at "mi_depth") => `(tactic| ((try simp only [PySem.Around.deeper, PySem.Around.in1_depth]); omega))
local macro_rules | `(tactic| walk_at "mi_pure") => `(tactic| exact hQ _ _ (ext_of [] hgk hsz (fo_nil (base := base)) (by assumption) (by assumption) ro_nil))
local macro_rules | `(tactic| walk_at "mi_steps") => `(tactic| repeat' ((fail_if_success (with_reducible show wpAny _ _ (exec (Stmt.For _ _ _ _ _) _) _ _ _)); first | ((with_reducible show wpAny _ _ (call (Value.ref _) _ _) _ _ _); walk_at "mi_pc") | ((fail_if_success (with_reducible show wpAny _ _ (call (Value.ref _) _ _) _ _ _)); (fail_if_success (with_reducible show wpAny _ _ (exec (Stmt.Raise _ _ _) _) _ _ _)); first | (k_unfold; (try dsimp only)) | (k_end; kc_close) | walk1 | (dsimp only; walk1) | (leave1; walk_say "STEP leave1"; (try dsimp only)) | fail "no step")))
local macro_rules | `(tactic| walk_at "subscriptTail") => `(tactic| (k_here; (with_reducible show wpAny _ _ (subscriptTail _ _ (Value.ref _) (Value.str _ _)) _ _ _); k_dflt (refine' topItem_K ?F ?X ?l ?k ?e ?_; (case F => k_asm); (case X => k_asm); (case l => first | assumption | k_is); (case k => first | assumption | k_keys); (case e => first | assumption | k_is))))
local macro_rules | `(tactic| walk_at "mi_stepsC") => `(tactic| repeat' ((fail_if_success (with_reducible show wpAny _ _ (exec (Stmt.For _ _ _ _ _) _) _ _ _)); (fail_if_success (with_reducible show wpAny _ _ (exec (Stmt.Assign [_] (Expr.ListComp _ _ _ _) _) _) _ _ _)); (fail_if_success (with_reducible show wpAny _ _ (call (Value.type "zip") _) _ _ _)); (fail_if_success (with_reducible show wpAny _ _ (exec (Stmt.Assign [_] (Expr.DictComp _ _ _ _ _) _) _) _ _ _)); first | ((with_reducible show wpAny _ _ (call (Value.ref _) _ _) _ _ _); walk_at "mi_pc") | ((fail_if_success (with_reducible show wpAny _ _ (call (Value.ref _) _ _) _ _ _)); (fail_if_success (with_reducible show wpAny _ _ (exec (Stmt.Raise _ _ _) _) _ _ _)); first | (k_unfold; (try dsimp only)) | (k_end; kc_close) | walk1 | (dsimp only; walk1) | (leave1; walk_say "STEP leave1"; (try dsimp only)) | fail "no step")))
local macro_rules | `(tactic| walk_at "mi_stepsO") => `(tactic| repeat' ((fail_if_success (with_reducible show wpAny _ _ (exec (Stmt.For _ _ _ _ _) _) _ _ _)); (fail_if_success (with_reducible show wpAny _ _ (exec (Stmt.Assign [_] (Expr.ListComp _ _ _ _) _) _) _ _ _)); (fail_if_success (with_reducible show wpAny _ _ (call (Value.type "zip") _) _ _ _)); (fail_if_success (with_reducible show wpAny _ _ (exec (Stmt.Assign [_] (Expr.DictComp _ _ _ _ _) _) _) _ _ _)); first | ((with_reducible show wpAny _ _ (call (Value.ref _) _ _) _ _ _); walk_at "mi_pc") | ((fail_if_success (with_reducible show wpAny _ _ (call (Value.ref _) _ _) _ _ _)); (fail_if_success (with_reducible show wpAny _ _ (exec (Stmt.Raise _ _ _) _) _ _ _)); first | ((with_reducible show wpAny _ _ (execs _ _) _ _ _); exfalso; omega) | (k_unfold; (try dsimp only)) | (k_end; kc_close) | walk1 | (dsimp only; walk1) | (leave1; walk_say "STEP leave1"; (try dsimp only)) | fail "no step")))
theorem ext_comp {L : Addr} {h0 h h' : Heap} {mt : List Addr} (x : Ext [L] h0 h) (y : Ext mt h h') (hm : ∀ b ∈ mt, After h0 b) : Ext [L] h0 h' := fun b o hb e => y b o (fun q => absurd rfl ((hm b q).ne e)) (x b o hb e)
theorem b1 {a : LA} {m : Str → Option Value} {c k : Nat} {xs : List Value} {lb fd fa : Addr} {cd : Value} {row : List Int}
    (S : Bas w mean mg mb base) (C : LawC a base) (hA : A.depth + 80 < recursionLimit) (hh : A.handled = none)
    (X : LawSt prog w base a s.heap m c k (k + 1) xs lb fd) (hrow : (rws a.pcs c)[k]? = some row) :
    wpAny (model prog w) A (exec (nth lawInner 1) (lawEnv a.L fa cd)) (fun f s' => Shut (f = .next ∧ ∃ h' tk m', s' = {s with heap := h', toks := tk} ∧ LawSt prog w base a h' m' c (k + 1) (k + 1) xs lb fd)) E s := by
  show wpAny _ _ (exec (Stmt.Assign _ _ _) (envOfC _ (Scope.mk _ _ _ _ _) _ _ _)) _ _ _
  obtain ⟨tc, tt, F⟩ := X.frame
  have KX := S.X
  have KT := S.T
  obtain ⟨rest, N, hrest⟩ := allN F
  have hk27 : k ≤ 27 := Nat.le_trans X.k2 (rws_len C.pcs X.c2)
  have hs0 : base.StaysIn s.heap := fun b o e => X.fr.keep b o e
  k_steps
  rename Fr base a.L _ _ => F2
  rename News base a.L _ _ => N2
  exact .mk ⟨rfl, _, _, _, rfl, X.store C F2 (extAll hs0 F2 N2 hrest) rfl rfl rfl rfl ⟨_, rfl⟩ ⟨_, rfl⟩ (List.getElem?_eq_some_iff.mp hrow).1⟩
end PartQE
theorem restQF {M : Model} {A : Around} {s : Shared} {E : Value → Shared → Prop} {env : Env} {Q : Flow → Shared → Prop} (h : Q .next s) : wpAny M A (execs [] env) Q E s := by
  w_top off
  walk1
  w_top off
  exact h
section PartQF
local macro_rules | `(tactic| k_steps) => `(tactic| repeat' (first | ((with_reducible show wpAny _ _ (call (Value.ref _) _ _) _ _ _); walk_at "mi_pc") | ((fail_if_success (with_reducible show wpAny _ _ (call (Value.ref _) _ _) _ _ _)); (fail_if_success (with_reducible show wpAny _ _ (exec (Stmt.Raise _ _ _) _) _ _ _)); first | (k_unfold; (try dsimp only)) | (k_end; wrow_close) | walk1 | (dsimp only; walk1) | (leave1; walk_say "STEP leave1"; (try dsimp only)) | fail "no step")))
local macro_rules | `(tactic| k_ne) => `(tactic| first | assumption | exact Ne.symm (by assumption))
local macro_rules | `(tactic| walk_at "call builtin:len") => `(tactic| (k_here; (with_reducible show wpAny _ _ (call (Value.builtin "len") [Value.ref _]) _ _ _); refine PyProof.Rows.len_list (News.isList (by k_asm) (by k_mem)) (by (try simp only [Array.size_push, List.size_toArray]); omega) ?_))
local macro_rules | `(tactic| walk_at "mi_ro") => `(tactic| repeat' (first | exact ro_nil | refine ro_keep (by k_mem) ?_ | refine ro_mut (by simp) ?_))
local macro_rules | `(tactic| walk_at "mi_depth") => `(tactic| ((try simp only [PySem.Around.deeper, PySem.Around.in1_depth]); omega))
local macro_rules | `(tactic| walk_at "mi_pure") => `(tactic| exact hQ _ _ (ext_of [] hgk hsz (fo_nil (base := base)) (by assumption) (by assumption) ro_nil))
local macro_rules | `(tactic| walk_at "mi_steps") => `(tactic| repeat' ((fail_if_success (with_reducible show wpAny _ _ (exec (Stmt.For _ _ _ _ _) _) _ _ _)); first | ((with_reducible show wpAny _ _ (call (Value.ref _) _ _) _ _ _); walk_at "mi_pc") | ((fail_if_success (with_reducible show wpAny _ _ (call (Value.ref _) _ _) _ _ _)); (fail_if_success (with_reducible show wpAny _ _ (exec (Stmt.Raise _ _ _) _) _ _ _)); first | (k_unfold; (try dsimp only)) | (k_end; kc_close) | walk1 | (dsimp only; walk1) | (leave1; walk_say "STEP leave1"; (try dsimp only)) | fail "no step")))
local macro_rules | `(tactic| walk_at "subscriptTail") => `(tactic| (k_here; (with_reducible show wpAny _ _ (subscriptTail _ _ (Value.ref _) (Value.str _ _)) _ _ _); k_dflt (refine' topItem_K ?F ?X ?l ?k ?e ?_; (case F => k_asm); (case X => k_asm); (case l => first | assumption | k_is); (case k => first | assumption | k_keys); (case e => first | assumption | k_is))))
local macro_rules | `(tactic| walk_at "mi_stepsC") => `(tactic| repeat' ((fail_if_success (with_reducible show wpAny _ _ (exec (Stmt.For _ _ _ _ _) _) _ _ _)); (fail_if_success (with_reducible show wpAny _ _ (exec (Stmt.Assign [_] (Expr.ListComp _ _ _ _) _) _) _ _ _)); (fail_if_success (with_reducible show wpAny _ _ (call (Value.type "zip") _) _ _ _)); (fail_if_success (with_reducible show wpAny _ _ (exec (Stmt.Assign [_] (Expr.DictComp _ _ _ _ _) _) _) _ _ _)); first | ((with_reducible show wpAny _ _ (call (Value.ref _) _ _) _ _ _); walk_at "mi_pc") | ((fail_if_success (with_reducible show wpAny _ _ (call (Value.ref _) _ _) _ _ _)); (fail_if_success (with_reducible show wpAny _ _ (exec (Stmt.Raise _ _ _) _) _ _ _)); first | (k_unfold; (try dsimp only)) | (k_end; kc_close) | walk1 | (dsimp only; walk1) | (leave1; walk_say "STEP leave1"; (try dsimp only)) | fail "no step")))
local macro_rules | `(tactic| walk_at "mi_stepsO") => `(tactic| repeat' ((fail_if_success (with_reducible show wpAny _ _ (exec (Stmt.For _ _ _ _ _) _) _ _ _)); (fail_if_success (with_reducible show wpAny _ _ (exec (Stmt.Assign [_] (Expr.ListComp _ _ _ _) _) _) _ _ _)); (fail_if_success (with_reducible show wpAny _ _ (call (Value.type "zip") _) _ _ _)); (fail_if_success (with_reducible show wpAny _ _ (exec (Stmt.Assign [_] (Expr.DictComp _ _ _ _ _) _) _) _ _ _)); first | ((with_reducible show wpAny _ _ (call (Value.ref _) _ _) _ _ _); walk_at "mi_pc") | ((fail_if_success (with_reducible show wpAny _ _ (call (Value.ref _) _ _) _ _ _)); (fail_if_success (with_reducible show wpAny _ _ (exec (Stmt.Raise _ _ _) _) _ _ _)); first | ((with_reducible show wpAny _ _ (execs _ _) _ _ _); exfalso; omega) | (k_unfold; (try dsimp only)) | (k_end; kc_close) | walk1 | (dsimp only; walk1) | (leave1; walk_say "STEP leave1"; (try dsimp only)) | fail "no step")))
local macro_rules | `(tactic| walk_at "subscriptTail") => `(tactic| ((with_reducible show wpAny _ _ (subscriptTail _ _ (Value.ref _) (Value.int _ _)) _ _ _); refine item_at (News.get (by k_asm) (by k_mem)) (by omega) (by omega) (by assumption) ?_))
theorem b2 {a : LA} {m : Str → Option Value} {c k : Nat} {xs : List Value} {lb fd fa : Addr} {cd : Value}
    (S : Bas w mean mg mb base) (C : LawC a base) (hA : A.depth + 80 < recursionLimit) (hh : A.handled = none)
    (X : LawSt prog w base a s.heap m c k k xs lb fd) :
    wpAny (model prog w) A (exec (nth lawInner 2) (lawEnv a.L fa cd)) (fun f s' => Shut (f = .next ∧ ∃ h' tk G m' c' xs' lb' fd', s' = {s with heap := h', toks := tk, gens := G} ∧ GExt s.gens G ∧
      LawSt prog w base a h' m' c' k k xs' lb' fd' ∧ c' = (if c < a.pcs.length then c + 1 else c) ∧ (¬c < a.pcs.length → xs' = xs))) E s := by
  show wpAny _ _ (exec (Stmt.If _ _ _ _) (envOfC _ (Scope.mk _ _ _ _ _) _ _ _)) _ _ _
  obtain ⟨tc, tt, F⟩ := X.frame
  have KX := S.X
  have KT := S.T
  obtain ⟨rest, NR, hrest⟩ := allN F
  have hs0 : base.StaysIn s.heap := fun b o e => X.fr.keep b o e
  have hvp : a.vp.size = a.pcs.length := by have := C.rP.length; rwa [Array.length_toList] at this
  have hp9 := C.pcs.few
  have hc2 := X.c2
  have hc1 := X.c1
  obtain ⟨p1, ⟨q1, q2, k1, k2, p2⟩, ⟨n0, p3⟩, pnd, ⟨pb1, pb2, pb3⟩, ptk, _, pms⟩ := id X.par
  have zp := (C.hB _).mp pb1
  have zdp := (C.hB _).mp pb2
  have zpm := (C.hB _).mp pb3
  obtain ⟨f1, f2, f3, f4⟩ := id ptk.fresh
  have zdt := (C.hB _).mp f2
  have zlb := (C.hB _).mp f3
  have zlm := (C.hB _).mp f4
  have hP1 := X.old.keep (by simpa using C.nPL) C.hP
  have N : News base a.L s.heap ((a.P, listOf a.vp a.np) :: (a.p, instObj 588 a.dp) :: (a.dp, parD q1 q2 k1 k2 (.ref a.pm) (.ref a.t)) :: rest) := nwCons hP1 C.nPL C.bP (nwCons p1 zp.2 zp.1 (nwCons p2 zdp.2 zdp.1 NR))
  obtain ⟨g2, s1, s2, s3, s4⟩ := C.both X.fr
  by_cases hlt : c < a.pcs.length
  · have hpc : a.pcs[c]? = some a.pcs[c] := by simp [hlt]
    obtain ⟨q, hq, hqi⟩ := C.rP.get hpc
    have hx : a.vp[(c : Int).toNat]? = some (.ref q) := by simpa using hq
    have hqL : q ≠ a.L := C.rPL q (List.mem_of_getElem? hq)
    obtain ⟨vq, nq, hq0, _⟩ := id hqi
    have hq1 := hqi.keep X.old (by simpa using hqL)
    have nq1 : q ≠ lb := Ne.symm (X.lbn.ne hq0)
    have nq2 : q ≠ a.lm := Ne.symm ((C.new a.lm (by simp)).ne hq0)
    have nq3 : q ≠ a.pm := Ne.symm ((C.new a.pm (by simp)).ne hq0)
    have hcl : (c : Int) < a.vp.size := by omega
    have npm : a.P ≠ a.pm := Ne.symm ((C.new a.pm (by simp)).ne C.hP)
    have ndt : a.P ≠ a.dt := Ne.symm ((C.new a.dt (by simp)).ne C.hP)
    have nlb : a.P ≠ lb := Ne.symm (X.lbn.ne C.hP)
    have nlm : a.P ≠ a.lm := Ne.symm ((C.new a.lm (by simp)).ne C.hP)
    k_steps
    refine c_pfeed (base := g2) a.p a.dp a.pm a.t a.dt lb a.lm xs _ (WW a.pcs c) q a.pcs[c] ⟨S.X.keeps s1, S.T.keeps s1⟩ s2 (by walk_at "mi_depth") hh s3 (X.par.dom fun b e => (s4 b).mp e) (C.pcs.good _ (List.getElem_mem _)) hq1 ⟨nq1, nq2, nq3⟩
      (by have h1 := WW_bs C.pcs hc2; have h2 := C.pcs.short a.pcs[c] (List.getElem_mem _); omega)
      (by have h1 := rws_len C.pcs hc2; have h2 := C.pcs.short a.pcs[c] (List.getElem_mem _); rw [List.length_drop]; omega) (new_ok C.pcs hpc) fun h7 tk7 G lb' xs' e7 g7 par7 o7 => ?_
    rw [drop_feed hpc X.k2, WW_succ hpc] at par7
    have F7 := frExt F e7 (by simp [Ne.symm zpm.2, Ne.symm zdt.2, Ne.symm zlb.2, Ne.symm zlm.2]) (by simp [zpm.1, zdt.1, zlb.1, zlm.1])
    have N7 : News base a.L h7 [(a.P, listOf a.vp a.np)] := nwExt (allCons (N _ (.head _)) allNil) e7 (allCons (by simp [npm, ndt, nlb, nlm]) allNil)
    have hq7 := hq1.keep e7 (by
      have ndt2 : q ≠ a.dt := Ne.symm ((C.new a.dt (by simp)).ne hq0)
      simp [nq1, nq2, nq3, ndt2])
    have nfdt : fd ≠ a.dt := fun z => by
      obtain ⟨vf, nf, hf, _⟩ := X.fed
      obtain ⟨_, _, _, _, _, _, _, _, _, _, _, _, _, hd, _⟩ := ptk.dict
      rw [z, hd] at hf; exact absurd (congrArg Obj.data (Option.some.inj hf)) (by intro q; cases q)
    have hf7 := X.fed.keep e7 (by simp [X.fdn.1, nfdt, X.fdn.2.1, X.fdn.2.2])
    clear F N NR
    k_steps
    have hl27 := fl_len27 C.pcs hc2
    have hl3 := C.pcs.short a.pcs[c] (List.getElem_mem _)
    refine add_at hf7 hq7 (by omega) fun h8 l8 e8 af8 i8 => ?_
    have F8 := frExt F7 e8 (fun h => nomatch h) (fun _ h => nomatch h)
    have hs8 : base.StaysIn h8 := fun b o e => F8.keep b o e
    obtain ⟨rest8, N8, hrest8⟩ := allN F8
    have fdb8 := gone F7 af8
    have l8L : l8 ≠ a.L := i8.neFr F8
    clear F7 N7
    k_steps
    rename Fr base a.L _ _ => F9
    rename News base a.L _ _ => N9
    have e9 := extAll hs8 F9 N9 hrest8
    have parB := (par7.dom (b2 := a.B) fun b e => (s4 b).mpr e)
    have lbL : lb' ≠ a.L := ((C.hB _).mp parB.tok.fresh.2.2.1).2
    have lbn' : After a.H0 lb' := by
      rcases o7 with z | z
      · rw [z]; exact X.lbn
      · exact z.back X.old (by simpa using lbL)
    have new4 : ∀ b ∈ [a.pm, a.dt, lb, a.lm], After a.H0 b := by
      intro b hb
      simp only [List.mem_cons, List.not_mem_nil, or_false] at hb
      rcases hb with rfl | rfl | rfl | rfl
      · exact C.new _ (by simp)
      · exact C.new _ (by simp)
      · exact X.lbn
      · exact C.new _ (by simp)
    have i9 := i8.keep e9 (by simpa using l8L)
    rw [← fl_succ hpc] at i9
    obtain ⟨_, _, ⟨n7, pm7⟩, _, _, tok7, _, _⟩ := id parB
    obtain ⟨vb7, nb7, lb7, _⟩ := tok7.bs
    obtain ⟨vm7, nm7, lm7, _⟩ := tok7.ms
    exact .mk ⟨rfl, _, _, _, _, c + 1, _, lb', l8, rfl, g7,
      { fr := F9, mP := rfl, mR := rfl, mp := rfl, mf := rfl, mc := ⟨_, rfl⟩, mtk := ⟨_, rfl⟩, old := (ext_comp (ext_comp X.old e7 new4) e8 (fun _ h => nomatch h)).trans e9,
        par := (parB.keepB e8 (fun _ h => nomatch h)).keepB e9 C.inB, lbn := lbn', fed := i9, fdn := ⟨af8.ne pm7, af8.ne lb7, af8.ne lm7⟩, fdb := fdb8, c1 := by omega, c2 := hlt, k2 := Nat.le_trans X.k2 (rws_mono hlt) }, by rw [if_pos hlt], fun z => absurd hlt z⟩
  · have hcl : ¬ (c : Int) < a.vp.size := by omega
    k_steps
    exact .mk ⟨rfl, _, _, _, m, c, xs, lb, fd, rfl, .refl _, X, by rw [if_neg hlt], fun _ => rfl⟩
theorem o2 {a : LA} {m : Str → Option Value} {c k : Nat} {xs : List Value} {lb fd fa : Addr} {cd : Value}
    (S : Bas w mean mg mb base) (C : LawC a base) (hA : A.depth + 80 < recursionLimit) (hh : A.handled = none)
    (X : LawSt prog w base a s.heap m c k k xs lb fd) :
    wpAny (model prog w) A (exec (nth lawOuter 2) (lawEnv a.L fa cd)) (fun f s' => Shut (f = .next ∧ ∃ h' tk G m' c' xs' lb' fd', s' = {s with heap := h', toks := tk, gens := G} ∧ GExt s.gens G ∧
      LawSt prog w base a h' m' c' k k xs' lb' fd' ∧ c' = (if c < a.pcs.length then c + 1 else c) ∧ (¬c < a.pcs.length → xs' = xs))) E s := by
  show wpAny _ _ (exec (Stmt.If _ _ _ _) (envOfC _ (Scope.mk _ _ _ _ _) _ _ _)) _ _ _
  obtain ⟨tc, tt, F⟩ := X.frame
  have KX := S.X
  have KT := S.T
  obtain ⟨rest, NR, hrest⟩ := allN F
  have hs0 : base.StaysIn s.heap := fun b o e => X.fr.keep b o e
  have hvp : a.vp.size = a.pcs.length := by have := C.rP.length; rwa [Array.length_toList] at this
  have hp9 := C.pcs.few
  have hc2 := X.c2
  have hc1 := X.c1
  obtain ⟨p1, ⟨q1, q2, k1, k2, p2⟩, ⟨n0, p3⟩, pnd, ⟨pb1, pb2, pb3⟩, ptk, _, pms⟩ := id X.par
  have zp := (C.hB _).mp pb1
  have zdp := (C.hB _).mp pb2
  have zpm := (C.hB _).mp pb3
  obtain ⟨f1, f2, f3, f4⟩ := id ptk.fresh
  have zdt := (C.hB _).mp f2
  have zlb := (C.hB _).mp f3
  have zlm := (C.hB _).mp f4
  have hP1 := X.old.keep (by simpa using C.nPL) C.hP
  have N : News base a.L s.heap ((a.P, listOf a.vp a.np) :: (a.p, instObj 588 a.dp) :: (a.dp, parD q1 q2 k1 k2 (.ref a.pm) (.ref a.t)) :: rest) := nwCons hP1 C.nPL C.bP (nwCons p1 zp.2 zp.1 (nwCons p2 zdp.2 zdp.1 NR))
  obtain ⟨g2, s1, s2, s3, s4⟩ := C.both X.fr
  by_cases hlt : c < a.pcs.length
  · have hpc : a.pcs[c]? = some a.pcs[c] := by simp [hlt]
    obtain ⟨q, hq, hqi⟩ := C.rP.get hpc
    have hx : a.vp[(c : Int).toNat]? = some (.ref q) := by simpa using hq
    have hqL : q ≠ a.L := C.rPL q (List.mem_of_getElem? hq)
    obtain ⟨vq, nq, hq0, _⟩ := id hqi
    have hq1 := hqi.keep X.old (by simpa using hqL)
    have nq1 : q ≠ lb := Ne.symm (X.lbn.ne hq0)
    have nq2 : q ≠ a.lm := Ne.symm ((C.new a.lm (by simp)).ne hq0)
    have nq3 : q ≠ a.pm := Ne.symm ((C.new a.pm (by simp)).ne hq0)
    have hcl : (c : Int) < a.vp.size := by omega
    have npm : a.P ≠ a.pm := Ne.symm ((C.new a.pm (by simp)).ne C.hP)
    have ndt : a.P ≠ a.dt := Ne.symm ((C.new a.dt (by simp)).ne C.hP)
    have nlb : a.P ≠ lb := Ne.symm (X.lbn.ne C.hP)
    have nlm : a.P ≠ a.lm := Ne.symm ((C.new a.lm (by simp)).ne C.hP)
    k_steps
    refine c_pfeed (base := g2) a.p a.dp a.pm a.t a.dt lb a.lm xs _ (WW a.pcs c) q a.pcs[c] ⟨S.X.keeps s1, S.T.keeps s1⟩ s2 (by walk_at "mi_depth") hh s3 (X.par.dom fun b e => (s4 b).mp e) (C.pcs.good _ (List.getElem_mem _)) hq1 ⟨nq1, nq2, nq3⟩
      (by have h1 := WW_bs C.pcs hc2; have h2 := C.pcs.short a.pcs[c] (List.getElem_mem _); omega)
      (by have h1 := rws_len C.pcs hc2; have h2 := C.pcs.short a.pcs[c] (List.getElem_mem _); rw [List.length_drop]; omega) (new_ok C.pcs hpc) fun h7 tk7 G lb' xs' e7 g7 par7 o7 => ?_
    rw [drop_feed hpc X.k2, WW_succ hpc] at par7
    have F7 := frExt F e7 (by simp [Ne.symm zpm.2, Ne.symm zdt.2, Ne.symm zlb.2, Ne.symm zlm.2]) (by simp [zpm.1, zdt.1, zlb.1, zlm.1])
    have N7 : News base a.L h7 [(a.P, listOf a.vp a.np)] := nwExt (allCons (N _ (.head _)) allNil) e7 (allCons (by simp [npm, ndt, nlb, nlm]) allNil)
    have hq7 := hq1.keep e7 (by
      have ndt2 : q ≠ a.dt := Ne.symm ((C.new a.dt (by simp)).ne hq0)
      simp [nq1, nq2, nq3, ndt2])
    have nfdt : fd ≠ a.dt := fun z => by
      obtain ⟨vf, nf, hf, _⟩ := X.fed
      obtain ⟨_, _, _, _, _, _, _, _, _, _, _, _, _, hd, _⟩ := ptk.dict
      rw [z, hd] at hf; exact absurd (congrArg Obj.data (Option.some.inj hf)) (by intro q; cases q)
    have hf7 := X.fed.keep e7 (by simp [X.fdn.1, nfdt, X.fdn.2.1, X.fdn.2.2])
    clear F N NR
    k_steps
    have hl27 := fl_len27 C.pcs hc2
    have hl3 := C.pcs.short a.pcs[c] (List.getElem_mem _)
    refine add_at hf7 hq7 (by omega) fun h8 l8 e8 af8 i8 => ?_
    have F8 := frExt F7 e8 (fun h => nomatch h) (fun _ h => nomatch h)
    have hs8 : base.StaysIn h8 := fun b o e => F8.keep b o e
    obtain ⟨rest8, N8, hrest8⟩ := allN F8
    have fdb8 := gone F7 af8
    have l8L : l8 ≠ a.L := i8.neFr F8
    clear F7 N7
    k_steps
    rename Fr base a.L _ _ => F9
    rename News base a.L _ _ => N9
    have e9 := extAll hs8 F9 N9 hrest8
    have parB := (par7.dom (b2 := a.B) fun b e => (s4 b).mpr e)
    have lbL : lb' ≠ a.L := ((C.hB _).mp parB.tok.fresh.2.2.1).2
    have lbn' : After a.H0 lb' := by
      rcases o7 with z | z
      · rw [z]; exact X.lbn
      · exact z.back X.old (by simpa using lbL)
    have new4 : ∀ b ∈ [a.pm, a.dt, lb, a.lm], After a.H0 b := by
      intro b hb
      simp only [List.mem_cons, List.not_mem_nil, or_false] at hb
      rcases hb with rfl | rfl | rfl | rfl
      · exact C.new _ (by simp)
      · exact C.new _ (by simp)
      · exact X.lbn
      · exact C.new _ (by simp)
    have i9 := i8.keep e9 (by simpa using l8L)
    rw [← fl_succ hpc] at i9
    obtain ⟨_, _, ⟨n7, pm7⟩, _, _, tok7, _, _⟩ := id parB
    obtain ⟨vb7, nb7, lb7, _⟩ := tok7.bs
    obtain ⟨vm7, nm7, lm7, _⟩ := tok7.ms
    exact .mk ⟨rfl, _, _, _, _, c + 1, _, lb', l8, rfl, g7,
      { fr := F9, mP := rfl, mR := rfl, mp := rfl, mf := rfl, mc := ⟨_, rfl⟩, mtk := ⟨_, rfl⟩, old := (ext_comp (ext_comp X.old e7 new4) e8 (fun _ h => nomatch h)).trans e9,
        par := (parB.keepB e8 (fun _ h => nomatch h)).keepB e9 C.inB, lbn := lbn', fed := i9, fdn := ⟨af8.ne pm7, af8.ne lb7, af8.ne lm7⟩, fdb := fdb8, c1 := by omega, c2 := hlt, k2 := Nat.le_trans X.k2 (rws_mono hlt) }, by rw [if_pos hlt], fun z => absurd hlt z⟩
  · have hcl : ¬ (c : Int) < a.vp.size := by omega
    k_steps
    exact .mk ⟨rfl, _, _, _, m, c, xs, lb, fd, rfl, .refl _, X, by rw [if_neg hlt], fun _ => rfl⟩
end PartQF
theorem restQG {M : Model} {A : Around} {s : Shared} {E : Value → Shared → Prop} {env : Env} {Q : Flow → Shared → Prop} (h : Q .next s) : wpAny M A (execs [] env) Q E s := by
  w_top off
  walk1
  w_top off
  exact h
section PartQG
local macro_rules | `(tactic| k_steps) => `(tactic| repeat' (first | ((with_reducible show wpAny _ _ (call (Value.ref _) _ _) _ _ _); walk_at "mi_pc") | ((fail_if_success (with_reducible show wpAny _ _ (call (Value.ref _) _ _) _ _ _)); (fail_if_success (with_reducible show wpAny _ _ (exec (Stmt.Raise _ _ _) _) _ _ _)); first | (k_unfold; (try dsimp only)) | (k_end; wrow_close) | walk1 | (dsimp only; walk1) | (leave1; walk_say "STEP leave1"; (try dsimp only)) | fail "no step")))
local macro_rules | `(tactic| k_ne) => `(tactic| first | assumption | exact Ne.symm (by assumption))
local macro_rules | `(tactic| walk_at "call builtin:len") => `(tactic| (k_here; (with_reducible show wpAny _ _ (call (Value.builtin "len") [Value.ref _]) _ _ _); refine PyProof.Rows.len_list (News.isList (by k_asm) (by k_mem)) (by (try simp only [Array.size_push, List.size_toArray]); omega) ?_))
local macro_rules | `(tactic| walk_at "mi_ro") => `(tactic| repeat' (first | exact ro_nil | refine ro_keep (by k_mem) ?_ | refine ro_mut (by simp) ?_))
local macro_rules | `(tactic| walk_at "mi_depth") => `(tactic| ((try simp only [PySem.Around.deeper, PySem.Around.in1_depth]); omega))
local macro_rules | `(tactic| walk_at "mi_pure") => `(tactic| exact hQ _ _ (ext_of [] hgk hsz (fo_nil (base := base)) (by assumption) (by assumption) ro_nil))
local macro_rules | `(tactic| walk_at "mi_steps") => `(tactic| repeat' ((fail_if_success (with_reducible show wpAny _ _ (exec (Stmt.For _ _ _ _ _) _) _ _ _)); first | ((with_reducible show wpAny _ _ (call (Value.ref _) _ _) _ _ _); walk_at "mi_pc") | ((fail_if_success (with_reducible show wpAny _ _ (call (Value.ref _) _ _) _ _ _)); (fail_if_success (with_reducible show wpAny _ _ (exec (Stmt.Raise _ _ _) _) _ _ _)); first | (k_unfold; (try dsimp only)) | (k_end; kc_close) | walk1 | (dsimp only; walk1) | (leave1; walk_say "STEP leave1"; (try dsimp only)) | fail "no step")))
local macro_rules | `(tactic| walk_at "subscriptTail") => `(tactic| (k_here; (with_reducible show wpAny _ _ (subscriptTail _ _ (Value.ref _) (Value.str _ _)) _ _ _); k_dflt (refine' topItem_K ?F ?X ?l ?k ?e ?_; (case F => k_asm); (case X => k_asm); (case l => first | assumption | k_is); (case k => first | assumption | k_keys); (case e => first | assumption | k_is))))
local macro_rules | `(tactic| walk_at "mi_stepsC") => `(tactic| repeat' ((fail_if_success (with_reducible show wpAny _ _ (exec (Stmt.For _ _ _ _ _) _) _ _ _)); (fail_if_success (with_reducible show wpAny _ _ (exec (Stmt.Assign [_] (Expr.ListComp _ _ _ _) _) _) _ _ _)); (fail_if_success (with_reducible show wpAny _ _ (call (Value.type "zip") _) _ _ _)); (fail_if_success (with_reducible show wpAny _ _ (exec (Stmt.Assign [_] (Expr.DictComp _ _ _ _ _) _) _) _ _ _)); first | ((with_reducible show wpAny _ _ (call (Value.ref _) _ _) _ _ _); walk_at "mi_pc") | ((fail_if_success (with_reducible show wpAny _ _ (call (Value.ref _) _ _) _ _ _)); (fail_if_success (with_reducible show wpAny _ _ (exec (Stmt.Raise _ _ _) _) _ _ _)); first | (k_unfold; (try dsimp only)) | (k_end; kc_close) | walk1 | (dsimp only; walk1) | (leave1; walk_say "STEP leave1"; (try dsimp only)) | fail "no step")))
local macro_rules | `(tactic| walk_at "mi_stepsO") => `(tactic| repeat' ((fail_if_success (with_reducible show wpAny _ _ (exec (Stmt.For _ _ _ _ _) _) _ _ _)); (fail_if_success (with_reducible show wpAny _ _ (exec (Stmt.Assign [_] (Expr.ListComp _ _ _ _) _) _) _ _ _)); (fail_if_success (with_reducible show wpAny _ _ (call (Value.type "zip") _) _ _ _)); (fail_if_success (with_reducible show wpAny _ _ (exec (Stmt.Assign [_] (Expr.DictComp _ _ _ _ _) _) _) _ _ _)); first | ((with_reducible show wpAny _ _ (call (Value.ref _) _ _) _ _ _); walk_at "mi_pc") | ((fail_if_success (with_reducible show wpAny _ _ (call (Value.ref _) _ _) _ _ _)); (fail_if_success (with_reducible show wpAny _ _ (exec (Stmt.Raise _ _ _) _) _ _ _)); first | ((with_reducible show wpAny _ _ (execs _ _) _ _ _); exfalso; omega) | (k_unfold; (try dsimp only)) | (k_end; kc_close) | walk1 | (dsimp only; walk1) | (leave1; walk_say "STEP leave1"; (try dsimp only)) | fail "no step")))
theorem b3 {a : LA} {m : Str → Option Value} {c k : Nat} {xs : List Value} {lb fd fa : Addr} {cd : Value}
    (S : Bas w mean mg mb base) (C : LawC a base) (hA : A.depth + 80 < recursionLimit) (hh : A.handled = none)
    (X : LawSt prog w base a s.heap m c k k xs lb fd) :
    wpAny (model prog w) A (exec (nth lawInner 3) (lawEnv a.L fa cd)) (fun f s' => Shut (f = .next ∧ ∃ h' tk m' tw, s' = {s with heap := h', toks := tk} ∧ LawSt prog w base a h' m' c k k xs lb fd ∧
      m' (Str.ofString "waiting") = some (.int (((rws a.pcs c).length : Int) - (k : Int)) tw))) E s := by
  show wpAny _ _ (exec (Stmt.Assign _ _ _) (envOfC _ (Scope.mk _ _ _ _ _) _ _ _)) _ _ _
  obtain ⟨tc, tt, F⟩ := X.frame
  have KX := S.X
  have KT := S.T
  have N : News base a.L s.heap [] := nwNil
  have hk27 : k ≤ 27 := Nat.le_trans X.k2 (rws_len C.pcs X.c2)
  have hl27 := fl_len27 C.pcs X.c2
  have hr27 := rws_len C.pcs X.c2
  have hs0 : base.StaysIn s.heap := fun b o e => X.fr.keep b o e
  k_steps
  refine c_rows fd (fl a.pcs c) S hs0 (by walk_at "mi_depth") hh X.fed X.fdb (by omega) (fl_good C.pcs c) fun h6 tk6 l vm nm e6 a6 l6 r6 _ => ?_
  rw [rws_law C.pcs] at r6
  have hvm : vm.size = (rws a.pcs c).length := by have := r6.length; rwa [Array.length_toList] at this
  have X6 := X.keep0 e6
  have F6 := frExt F e6 (fun h => nomatch h) (fun _ h => nomatch h)
  obtain ⟨rest, NR, hrest⟩ := allN F6
  have N6 : News base a.L h6 ((l, listOf vm nm) :: rest) := nwCons l6 (goneL F a6) (gone F a6) NR
  have hs6 : base.StaysIn h6 := fun b o e => X6.fr.keep b o e
  clear F N
  k_steps
  rename Fr base a.L _ _ => F2
  rename News base a.L _ _ => N2
  have e2 := extAll hs6 F2 N2 (fun b o x y z => .tail _ (hrest b o x y z))
  exact .mk ⟨by first | rfl | trivial, _, _, _, _, rfl, X6.store C F2 e2 rfl rfl rfl rfl ⟨_, rfl⟩ ⟨_, rfl⟩ X.k2, rfl⟩
end PartQG
theorem restQH {M : Model} {A : Around} {s : Shared} {E : Value → Shared → Prop} {env : Env} {Q : Flow → Shared → Prop} (h : Q .next s) : wpAny M A (execs [] env) Q E s := by
  w_top off
  walk1
  w_top off
  exact h
section PartQH
local macro_rules | `(tactic| k_steps) => `(tactic| repeat' (first | ((with_reducible show wpAny _ _ (call (Value.ref _) _ _) _ _ _); walk_at "mi_pc") | ((fail_if_success (with_reducible show wpAny _ _ (call (Value.ref _) _ _) _ _ _)); (fail_if_success (with_reducible show wpAny _ _ (exec (Stmt.Raise _ _ _) _) _ _ _)); first | (k_unfold; (try dsimp only)) | (k_end; wrow_close) | walk1 | (dsimp only; walk1) | (leave1; walk_say "STEP leave1"; (try dsimp only)) | fail "no step")))
local macro_rules | `(tactic| k_ne) => `(tactic| first | assumption | exact Ne.symm (by assumption))
local macro_rules | `(tactic| walk_at "call builtin:len") => `(tactic| (k_here; (with_reducible show wpAny _ _ (call (Value.builtin "len") [Value.ref _]) _ _ _); refine PyProof.Rows.len_list (News.isList (by k_asm) (by k_mem)) (by (try simp only [Array.size_push, List.size_toArray]); omega) ?_))
local macro_rules | `(tactic| walk_at "mi_ro") => `(tactic| repeat' (first | exact ro_nil | refine ro_keep (by k_mem) ?_ | refine ro_mut (by simp) ?_))
local macro_rules | `(tactic| walk_at "mi_depth") => `(tactic| ((try simp only [PySem.Around.deeper, PySem.Around.in1_depth]); omega))
local macro_rules | `(tactic| walk_at "mi_pure") => `(tactic| exact hQ _ _ (ext_of [] hgk hsz (fo_nil (base := base)) (by assumption) (by assumption) ro_nil))
local macro_rules | `(tactic| walk_at "mi_steps") => `(tactic| repeat' ((fail_if_success (with_reducible show wpAny _ _ (exec (Stmt.For _ _ _ _ _) _) _ _ _)); first | ((with_reducible show wpAny _ _ (call (Value.ref _) _ _) _ _ _); walk_at "mi_pc") | ((fail_if_success (with_reducible show wpAny _ _ (call (Value.ref _) _ _) _ _ _)); (fail_if_success (with_reducible show wpAny _ _ (exec (Stmt.Raise _ _ _) _) _ _ _)); first | (k_unfold; (try dsimp only)) | (k_end; kc_close) | walk1 | (dsimp only; walk1) | (leave1; walk_say "STEP leave1"; (try dsimp only)) | fail "no step")))
local macro_rules | `(tactic| walk_at "subscriptTail") => `(tactic| (k_here; (with_reducible show wpAny _ _ (subscriptTail _ _ (Value.ref _) (Value.str _ _)) _ _ _); k_dflt (refine' topItem_K ?F ?X ?l ?k ?e ?_; (case F => k_asm); (case X => k_asm); (case l => first | assumption | k_is); (case k => first | assumption | k_keys); (case e => first | assumption | k_is))))
local macro_rules | `(tactic| walk_at "mi_stepsC") => `(tactic| repeat' ((fail_if_success (with_reducible show wpAny _ _ (exec (Stmt.For _ _ _ _ _) _) _ _ _)); (fail_if_success (with_reducible show wpAny _ _ (exec (Stmt.Assign [_] (Expr.ListComp _ _ _ _) _) _) _ _ _)); (fail_if_success (with_reducible show wpAny _ _ (call (Value.type "zip") _) _ _ _)); (fail_if_success (with_reducible show wpAny _ _ (exec (Stmt.Assign [_] (Expr.DictComp _ _ _ _ _) _) _) _ _ _)); first | ((with_reducible show wpAny _ _ (call (Value.ref _) _ _) _ _ _); walk_at "mi_pc") | ((fail_if_success (with_reducible show wpAny _ _ (call (Value.ref _) _ _) _ _ _)); (fail_if_success (with_reducible show wpAny _ _ (exec (Stmt.Raise _ _ _) _) _ _ _)); first | (k_unfold; (try dsimp only)) | (k_end; kc_close) | walk1 | (dsimp only; walk1) | (leave1; walk_say "STEP leave1"; (try dsimp only)) | fail "no step")))
local macro_rules | `(tactic| walk_at "mi_stepsO") => `(tactic| repeat' ((fail_if_success (with_reducible show wpAny _ _ (exec (Stmt.For _ _ _ _ _) _) _ _ _)); (fail_if_success (with_reducible show wpAny _ _ (exec (Stmt.Assign [_] (Expr.ListComp _ _ _ _) _) _) _ _ _)); (fail_if_success (with_reducible show wpAny _ _ (call (Value.type "zip") _) _ _ _)); (fail_if_success (with_reducible show wpAny _ _ (exec (Stmt.Assign [_] (Expr.DictComp _ _ _ _ _) _) _) _ _ _)); first | ((with_reducible show wpAny _ _ (call (Value.ref _) _ _) _ _ _); walk_at "mi_pc") | ((fail_if_success (with_reducible show wpAny _ _ (call (Value.ref _) _ _) _ _ _)); (fail_if_success (with_reducible show wpAny _ _ (exec (Stmt.Raise _ _ _) _) _ _ _)); first | ((with_reducible show wpAny _ _ (execs _ _) _ _ _); exfalso; omega) | (k_unfold; (try dsimp only)) | (k_end; kc_close) | walk1 | (dsimp only; walk1) | (leave1; walk_say "STEP leave1"; (try dsimp only)) | fail "no step")))
theorem b4 {a : LA} {m : Str → Option Value} {c k : Nat} {xs : List Value} {lb fd fa : Addr} {cd : Value} {tw : Tok}
    (S : Bas w mean mg mb base) (C : LawC a base) (hA : A.depth + 80 < recursionLimit) (hh : A.handled = none)
    (X : LawSt prog w base a s.heap m c k k xs lb fd) (hw : m (Str.ofString "waiting") = some (.int (((rws a.pcs c).length : Int) - (k : Int)) tw)) :
    wpAny (model prog w) A (exec (nth lawInner 4) (lawEnv a.L fa cd)) (fun f s' => Shut (f = .next ∧ ∃ h' tk, s' = {s with heap := h', toks := tk} ∧ LawSt prog w base a h' m c k k xs lb fd)) E s := by
  show wpAny _ _ (exec (Stmt.If _ _ _ _) (envOfC _ (Scope.mk _ _ _ _ _) _ _ _)) _ _ _
  obtain ⟨tc, tt, F0⟩ := X.frame
  have KX := S.X
  have KT := S.T
  have F : Fr base a.L s.heap (fun y => if y = Str.ofString "waiting" then some (.int (((rws a.pcs c).length : Int) - (k : Int)) tw) else lmap a fd c k tc tt m y) := frMap F0 fun y => by
    by_cases h : y = Str.ofString "waiting"
    · rw [if_pos h, h]; exact hw
    · rw [if_neg h]
  have hs0 : base.StaysIn s.heap := fun b o e => X.fr.keep b o e
  obtain ⟨p1, ⟨q1, q2, k1, k2, p2⟩, ⟨n0, p3⟩, pnd, ⟨pb1, pb2, pb3⟩, ptk, _, pms⟩ := id X.par
  have zp := (C.hB _).mp pb1
  have zdp := (C.hB _).mp pb2
  have zpm := (C.hB _).mp pb3
  have hfo := fo_cons p1 zp.1 (fo_cons p2 zdp.1 (fo_cons p3 zpm.1 (fo_nil (h := s.heap) (base := base))))
  have hxl : ((xs.length : Nat) : Int) = ((rws a.pcs c).length : Int) - (k : Int) := by
    have h1 := pms.length
    rw [List.length_drop] at h1
    have h2 := X.k2
    omega
  have hr27 := rws_len C.pcs X.c2
  have hx9 : xs.length < 900 := by have h2 := X.k2; omega
  have N : News base a.L s.heap [(a.p, instObj 588 a.dp), (a.dp, parD q1 q2 k1 k2 (.ref a.pm) (.ref a.t)), (a.pm, listOf xs.toArray n0)] := nwCons p1 zp.2 zp.1 (nwCons p2 zdp.2 zdp.1 (nwCons p3 zpm.2 zpm.1 nwNil))
  clear F0
  k_steps
  refine c_pend a.p a.dp a.pm q1 q2 k1 k2 (.ref a.t) xs n0 S hs0 (by walk_at "mi_depth") hx9 hfo fun h6 tk6 tt6 e6 => ?_
  have F6 := frExt F e6 (fun h => nomatch h) (fun _ h => nomatch h)
  have N6 := nwExt N e6 (fun _ _ h => nomatch h)
  have hfo6 : ∀ b ∈ [(a.p, instObj 588 a.dp), (a.dp, parD q1 q2 k1 k2 (.ref a.pm) (.ref a.t)), (a.pm, listOf xs.toArray n0)], h6.get? b.1 = some b.2 ∧ base.get? b.1 = none := fun b hb => ⟨e6.none (hfo b hb).1, (hfo b hb).2⟩
  clear F N
  k_steps
  · exfalso; omega
  refine wpAny_call (c_len a.p a.dp a.pm q1 q2 k1 k2 (.ref a.t) xs n0 S (fun b o e => F6.keep b o e) (by walk_at "mi_depth") hx9 hfo6 fun h7 tk7 tt7 e7 => ?_)
  have F7 := frExt F6 e7 (fun h => nomatch h) (fun _ h => nomatch h)
  have N7 := nwExt N6 e7 (fun _ _ h => nomatch h)
  clear F6 N6
  dsimp only [PySem.W.LenBack]
  refine ⟨⟨by omega, by omega⟩, ?_⟩
  k_steps
  all_goals (try (exfalso; omega))
  exact .mk ⟨by first | rfl | trivial, _, _, rfl, (X.keep0 e6).keep0 e7⟩
end PartQH
theorem restQI {M : Model} {A : Around} {s : Shared} {E : Value → Shared → Prop} {env : Env} {Q : Flow → Shared → Prop} (h : Q .next s) : wpAny M A (execs [] env) Q E s := by
  w_top off
  walk1
  w_top off
  exact h
section PartQI
local macro_rules | `(tactic| k_steps) => `(tactic| repeat' (first | ((with_reducible show wpAny _ _ (call (Value.ref _) _ _) _ _ _); walk_at "mi_pc") | ((fail_if_success (with_reducible show wpAny _ _ (call (Value.ref _) _ _) _ _ _)); (fail_if_success (with_reducible show wpAny _ _ (exec (Stmt.Raise _ _ _) _) _ _ _)); first | (k_unfold; (try dsimp only)) | (k_end; wrow_close) | walk1 | (dsimp only; walk1) | (leave1; walk_say "STEP leave1"; (try dsimp only)) | fail "no step")))
local macro_rules | `(tactic| k_ne) => `(tactic| first | assumption | exact Ne.symm (by assumption))
local macro_rules | `(tactic| walk_at "call builtin:len") => `(tactic| (k_here; (with_reducible show wpAny _ _ (call (Value.builtin "len") [Value.ref _]) _ _ _); refine PyProof.Rows.len_list (News.isList (by k_asm) (by k_mem)) (by (try simp only [Array.size_push, List.size_toArray]); omega) ?_))
local macro_rules | `(tactic| walk_at "mi_ro") => `(tactic| repeat' (first | exact ro_nil | refine ro_keep (by k_mem) ?_ | refine ro_mut (by simp) ?_))
local macro_rules | `(tactic| walk_at "mi_depth") => `(tactic| ((try simp only [PySem.Around.deeper, PySem.Around.in1_depth]); omega))
local macro_rules | `(tactic| walk_at "mi_pure") => `(tactic| exact hQ _ _ (ext_of [] hgk hsz (fo_nil (base := base)) (by assumption) (by assumption) ro_nil))
local macro_rules | `(tactic| walk_at "mi_steps") => `(tactic| repeat' ((fail_if_success (with_reducible show wpAny _ _ (exec (Stmt.For _ _ _ _ _) _) _ _ _)); first | ((with_reducible show wpAny _ _ (call (Value.ref _) _ _) _ _ _); walk_at "mi_pc") | ((fail_if_success (with_reducible show wpAny _ _ (call (Value.ref _) _ _) _ _ _)); (fail_if_success (with_reducible show wpAny _ _ (exec (Stmt.Raise _ _ _) _) _ _ _)); first | (k_unfold; (try dsimp only)) | (k_end; kc_close) | walk1 | (dsimp only; walk1) | (leave1; walk_say "STEP leave1"; (try dsimp only)) | fail "no step")))
local macro_rules | `(tactic| walk_at "subscriptTail") => `(tactic| (k_here; (with_reducible show wpAny _ _ (subscriptTail _ _ (Value.ref _) (Value.str _ _)) _ _ _); k_dflt (refine' topItem_K ?F ?X ?l ?k ?e ?_; (case F => k_asm); (case X => k_asm); (case l => first | assumption | k_is); (case k => first | assumption | k_keys); (case e => first | assumption | k_is))))
local macro_rules | `(tactic| walk_at "mi_stepsC") => `(tactic| repeat' ((fail_if_success (with_reducible show wpAny _ _ (exec (Stmt.For _ _ _ _ _) _) _ _ _)); (fail_if_success (with_reducible show wpAny _ _ (exec (Stmt.Assign [_] (Expr.ListComp _ _ _ _) _) _) _ _ _)); (fail_if_success (with_reducible show wpAny _ _ (call (Value.type "zip") _) _ _ _)); (fail_if_success (with_reducible show wpAny _ _ (exec (Stmt.Assign [_] (Expr.DictComp _ _ _ _ _) _) _) _ _ _)); first | ((with_reducible show wpAny _ _ (call (Value.ref _) _ _) _ _ _); walk_at "mi_pc") | ((fail_if_success (with_reducible show wpAny _ _ (call (Value.ref _) _ _) _ _ _)); (fail_if_success (with_reducible show wpAny _ _ (exec (Stmt.Raise _ _ _) _) _ _ _)); first | (k_unfold; (try dsimp only)) | (k_end; kc_close) | walk1 | (dsimp only; walk1) | (leave1; walk_say "STEP leave1"; (try dsimp only)) | fail "no step")))
local macro_rules | `(tactic| walk_at "mi_stepsO") => `(tactic| repeat' ((fail_if_success (with_reducible show wpAny _ _ (exec (Stmt.For _ _ _ _ _) _) _ _ _)); (fail_if_success (with_reducible show wpAny _ _ (exec (Stmt.Assign [_] (Expr.ListComp _ _ _ _) _) _) _ _ _)); (fail_if_success (with_reducible show wpAny _ _ (call (Value.type "zip") _) _ _ _)); (fail_if_success (with_reducible show wpAny _ _ (exec (Stmt.Assign [_] (Expr.DictComp _ _ _ _ _) _) _) _ _ _)); first | ((with_reducible show wpAny _ _ (call (Value.ref _) _ _) _ _ _); walk_at "mi_pc") | ((fail_if_success (with_reducible show wpAny _ _ (call (Value.ref _) _ _) _ _ _)); (fail_if_success (with_reducible show wpAny _ _ (exec (Stmt.Raise _ _ _) _) _ _ _)); first | ((with_reducible show wpAny _ _ (execs _ _) _ _ _); exfalso; omega) | (k_unfold; (try dsimp only)) | (k_end; kc_close) | walk1 | (dsimp only; walk1) | (leave1; walk_say "STEP leave1"; (try dsimp only)) | fail "no step")))
local macro_rules | `(tactic| walk_at "subscriptTail") => `(tactic| ((with_reducible show wpAny _ _ (subscriptTail _ _ (Value.ref _) (Value.int _ _)) _ _ _); refine item_at (News.get (by k_asm) (by k_mem)) (by omega) (by omega) (by assumption) ?_))
local macro_rules | `(tactic| walk_at "compareOp NotEq ref ref") => `(tactic| ((with_reducible show wpAny _ _ (compareOp CmpOp.NotEq (Value.ref _) (Value.ref _)) _ _ _); refine ne_lists (by assumption) (by assumption) (by assumption) ?_; (try simp only [decide_true, Bool.not_true])))
theorem MsgsAt.uncons {av : List Addr} {h : Heap} {v : Value} {us : List Value} {rs : List (List Int)} (M : MsgsAt prog w base av h (v :: us) rs) : ∃ x r rr, v = .ref x ∧ rs = r :: rr ∧ MsgAt prog w base av h x r ∧ MsgsAt prog w base av h us rr := by
  cases M with
  | cons a b => exact ⟨_, _, _, rfl, rfl, a, b⟩
/-- one message was taken out -/
theorem ParAt.pop {h h' : Heap} {p dp pm t dt lb lm : Addr} {v : Value} {us : List Value} {rs : List (List Int)} {T : TS} {n' : Nat} (x : ParAt prog w base h p dp pm t dt lb lm (v :: us) rs T) (e : Ext [pm] h h') (hl : h'.get? pm = some (listOf us.toArray n')) :
    ∃ y r rr, v = .ref y ∧ rs = r :: rr ∧ MsgAt prog w base [p, dp, pm, t, dt, lm] h' y r ∧ ParAt prog w base h' p dp pm t dt lb lm us rr T := by
  obtain ⟨a1, ⟨q1, q2, k1, k2, a2⟩, ⟨n, a3⟩, a4, a5, a6, a7, a8⟩ := x
  obtain ⟨y, r, rr, rfl, rfl, m1, m2⟩ := a8.uncons
  have nd := a4
  simp only [List.nodup_cons, List.mem_cons, List.not_mem_nil, or_false, not_or, not_false_eq_true, List.nodup_nil, and_true] at nd
  obtain ⟨⟨z1, z2, z3, z4, z5, z6⟩, ⟨z7, z8, z9, z10, z11⟩, ⟨z12, z13, z14, z15⟩, _⟩ := nd
  have hm : ∀ b ∈ [pm], b ∈ [p, dp, pm, t, dt, lm] ∨ Foreign h b := fun b hb => .inl (by rw [List.mem_singleton.mp hb]; simp)
  refine ⟨y, r, rr, rfl, rfl, m1.keep e hm, ⟨e.keep (by simpa using z2) a1, ⟨q1, q2, k1, k2, e.keep (by simpa using z7) a2⟩, ⟨_, hl⟩, a4, a5, a6.keep e (by simpa using Ne.symm z12) (by simpa using Ne.symm z13) (by simpa using Ne.symm z15) (by simpa using Ne.symm z14) a7, a7, m2.keep e hm⟩⟩
theorem b5 {a : LA} {m : Str → Option Value} {c k : Nat} {xs : List Value} {lb fd fa : Addr} {cd : Value} {tw : Tok}
    (S : Bas w mean mg mb base) (C : LawC a base) (hA : A.depth + 80 < recursionLimit) (hh : A.handled = none) (hU : A.units + 64 < cLine)
    (X : LawSt prog w base a s.heap m c k k xs lb fd) (hw : m (Str.ofString "waiting") = some (.int (((rws a.pcs c).length : Int) - (k : Int)) tw)) :
    wpAny (model prog w) A (exec (nth lawInner 5) (lawEnv a.L fa cd)) (fun f s' => Shut (f = .next ∧ ∃ h' tk G m' k' xs', s' = {s with heap := h', toks := tk, gens := G} ∧ GExt s.gens G ∧ LawSt prog w base a h' m' c k' k' xs' lb fd ∧ k ≤ k')) E s := by
  show wpAny _ _ (exec (Stmt.If _ _ _ _) (envOfC _ (Scope.mk _ _ _ _ _) _ _ _)) _ _ _
  obtain ⟨tc, tt, F0⟩ := X.frame
  have KX := S.X
  have KT := S.T
  have F : Fr base a.L s.heap (fun y => if y = Str.ofString "waiting" then some (.int (((rws a.pcs c).length : Int) - (k : Int)) tw) else lmap a fd c k tc tt m y) := frMap F0 fun y => by
    by_cases h : y = Str.ofString "waiting"
    · rw [if_pos h, h]; exact hw
    · rw [if_neg h]
  have hs0 : base.StaysIn s.heap := fun b o e => X.fr.keep b o e
  obtain ⟨p1, ⟨q1, q2, k1, k2, p2⟩, ⟨n0, p3⟩, pnd, ⟨pb1, pb2, pb3⟩, ptk, _, pms⟩ := id X.par
  have zp := (C.hB _).mp pb1
  have zdp := (C.hB _).mp pb2
  have zpm := (C.hB _).mp pb3
  have hfo := fo_cons p1 zp.1 (fo_cons p2 zdp.1 (fo_cons p3 zpm.1 (fo_nil (h := s.heap) (base := base))))
  have hxl : ((xs.length : Nat) : Int) = ((rws a.pcs c).length : Int) - (k : Int) := by
    have h1 := pms.length
    rw [List.length_drop] at h1
    have h2 := X.k2
    omega
  have hr27 := rws_len C.pcs X.c2
  have hc9 := Nat.le_trans X.c2 C.pcs.few
  have hk2 := X.k2
  have hx9 : xs.length < 900 := by omega
  have N : News base a.L s.heap [(a.p, instObj 588 a.dp), (a.dp, parD q1 q2 k1 k2 (.ref a.pm) (.ref a.t)), (a.pm, listOf xs.toArray n0)] := nwCons p1 zp.2 zp.1 (nwCons p2 zdp.2 zdp.1 (nwCons p3 zpm.2 zpm.1 nwNil))
  clear F0
  k_steps
  · have hbz : base.objs.size ≤ s.heap.objs.size := Nat.le_trans X.fr.above (Nat.le_of_lt X.fr.ns.lt)
    have nd := pnd
    simp only [List.nodup_cons, List.mem_cons, List.not_mem_nil, or_false, not_or, not_false_eq_true, List.nodup_nil, and_true] at nd
    refine c_get a.p a.dp a.pm q1 q2 k1 k2 (.ref a.t) xs n0 S hs0 (by walk_at "mi_depth") hh hbz hx9 ⟨nd.1.1, nd.1.2.1, nd.2.1.1⟩ hfo (fun z => ?_) (fun v us h6 tk6 G n' hxs e6 hl6 g6 => ?_)
    · exfalso; rw [z] at hxl; simp only [List.length_nil] at hxl; omega
    subst hxs
    obtain ⟨y, r, rr, rfl, hrs, my, par6⟩ := X.par.pop e6 hl6
    obtain ⟨hrow, hdr, hklt⟩ := drop_at hrs
    rw [← hdr] at par6
    have F6 := frExt F e6 (by simpa using Ne.symm zpm.2) (by simpa using zpm.1)
    have X6 : LawSt prog w base a h6 _ c k (k + 1) us lb fd :=
      { fr := F6, mP := rfl, mR := rfl, mp := rfl, mf := rfl, mc := ⟨_, rfl⟩, mtk := ⟨_, rfl⟩, old := ext_comp X.old e6 (fun b hb => by rw [List.mem_singleton.mp hb]; exact C.new _ (by simp)), par := par6, lbn := X.lbn, fed := X.fed.keep e6 (by simpa using X.fdn.1), fdn := X.fdn, fdb := X.fdb, c1 := X.c1, c2 := X.c2, k2 := X.k2 }
    obtain ⟨dy, hf, tf, d, kvs, y1, y2, y3, ⟨w1, w2, w3⟩, _⟩ := id my
    have zy := (C.hB y).mp w1
    have zdy := (C.hB dy).mp w2
    obtain ⟨rest6, NR6, hrest6⟩ := allN F6
    have N6 : News base a.L h6 ((y, instObj 455 dy) :: (dy, dictOf [⟨hf, .str (Str.ofString "fields") tf, .ref d⟩] 1) :: (a.R, listOf a.vr a.nr) :: rest6) := nwCons y1 zy.2 zy.1 (nwCons y2 zdy.2 zdy.1 (nwCons (X6.old.keep (by simpa using C.nRL) C.hR) C.nRL C.bR NR6))
    have hs6 : base.StaysIn h6 := fun b o e => F6.keep b o e
    have hrok := rws_ok C.pcs X.c2 r (List.mem_of_getElem? hrow)
    obtain ⟨rq, hx, hri, hrl⟩ := C.row X.c2 hrow
    clear F N
    k_steps
    rename Fr base a.L _ _ => F7
    rename News base a.L _ _ => N7
    have e7 := extAll hs6 F7 N7 (fun b o x y z => .tail _ (.tail _ (.tail _ (hrest6 b o x y z))))
    have X7 := X6.store C F7 e7 rfl rfl rfl rfl ⟨_, rfl⟩ ⟨_, rfl⟩ X.k2
    obtain ⟨g2, s1, s2, s3, s4⟩ := C.both F7
    refine c_bytes (base := g2) y ⟨S.X.keeps s1, S.T.keeps s1⟩ s2 (by walk_at "mi_depth") hh ((my.keepB e7 (fun b hb => .inr (C.inB b hb))).dom fun b e => (s4 b).mp e) hrok.2 fun h8 tk8 l e8 a8 i8 => ?_
    have F8 := frExt F7 e8 (fun h => nomatch h) (fun _ h => nomatch h)
    have X8 := X7.keep0 e8
    have hri8 := hri.keep X8.old (by simpa using hrl)
    obtain ⟨rest8, NR8, hrest8⟩ := allN F8
    have N8 : News base a.L h8 ((a.R, listOf a.vr a.nr) :: rest8) := nwCons (X8.old.keep (by simpa using C.nRL) C.hR) C.nRL C.bR NR8
    have hs8 : base.StaysIn h8 := fun b o e => F8.keep b o e
    clear F7 N7
    k_steps
    rename Fr base a.L _ _ => F9
    rename News base a.L _ _ => N9
    have e9 := extAll hs8 F9 N9 (fun b o x y z => .tail _ (hrest8 b o x y z))
    exact .mk ⟨by first | rfl | trivial, _, _, G, _, k + 1, us, rfl, g6, X8.store C F9 e9 rfl rfl rfl rfl ⟨_, rfl⟩ ⟨_, rfl⟩ hklt, Nat.le_succ _⟩
  · exact .mk ⟨by first | rfl | trivial, _, _, _, m, k, xs, rfl, .refl _, X, Nat.le_refl _⟩
  · exact .mk ⟨by first | rfl | trivial, _, _, _, m, k, xs, rfl, .refl _, X, Nat.le_refl _⟩
end PartQI
theorem restQJ {M : Model} {A : Around} {s : Shared} {E : Value → Shared → Prop} {env : Env} {Q : Flow → Shared → Prop} (h : Q .next s) : wpAny M A (execs [] env) Q E s := by
  w_top off
  walk1
  w_top off
  exact h
section PartQJ
local macro_rules | `(tactic| k_steps) => `(tactic| repeat' (first | ((with_reducible show wpAny _ _ (call (Value.ref _) _ _) _ _ _); walk_at "mi_pc") | ((fail_if_success (with_reducible show wpAny _ _ (call (Value.ref _) _ _) _ _ _)); (fail_if_success (with_reducible show wpAny _ _ (exec (Stmt.Raise _ _ _) _) _ _ _)); first | (k_unfold; (try dsimp only)) | (k_end; wrow_close) | walk1 | (dsimp only; walk1) | (leave1; walk_say "STEP leave1"; (try dsimp only)) | fail "no step")))
local macro_rules | `(tactic| k_ne) => `(tactic| first | assumption | exact Ne.symm (by assumption))
local macro_rules | `(tactic| walk_at "call builtin:len") => `(tactic| (k_here; (with_reducible show wpAny _ _ (call (Value.builtin "len") [Value.ref _]) _ _ _); refine PyProof.Rows.len_list (News.isList (by k_asm) (by k_mem)) (by (try simp only [Array.size_push, List.size_toArray]); omega) ?_))
local macro_rules | `(tactic| walk_at "mi_ro") => `(tactic| repeat' (first | exact ro_nil | refine ro_keep (by k_mem) ?_ | refine ro_mut (by simp) ?_))
local macro_rules | `(tactic| walk_at "mi_depth") => `(tactic| ((try simp only [PySem.Around.deeper, PySem.Around.in1_depth]); omega))
local macro_rules | `(tactic| walk_at "mi_pure") => `(tactic| exact hQ _ _ (ext_of [] hgk hsz (fo_nil (base := base)) (by assumption) (by assumption) ro_nil))
local macro_rules | `(tactic| walk_at "mi_steps") => `(tactic| repeat' ((fail_if_success (with_reducible show wpAny _ _ (exec (Stmt.For _ _ _ _ _) _) _ _ _)); first | ((with_reducible show wpAny _ _ (call (Value.ref _) _ _) _ _ _); walk_at "mi_pc") | ((fail_if_success (with_reducible show wpAny _ _ (call (Value.ref _) _ _) _ _ _)); (fail_if_success (with_reducible show wpAny _ _ (exec (Stmt.Raise _ _ _) _) _ _ _)); first | (k_unfold; (try dsimp only)) | (k_end; kc_close) | walk1 | (dsimp only; walk1) | (leave1; walk_say "STEP leave1"; (try dsimp only)) | fail "no step")))
local macro_rules | `(tactic| walk_at "subscriptTail") => `(tactic| (k_here; (with_reducible show wpAny _ _ (subscriptTail _ _ (Value.ref _) (Value.str _ _)) _ _ _); k_dflt (refine' topItem_K ?F ?X ?l ?k ?e ?_; (case F => k_asm); (case X => k_asm); (case l => first | assumption | k_is); (case k => first | assumption | k_keys); (case e => first | assumption | k_is))))
local macro_rules | `(tactic| walk_at "mi_stepsC") => `(tactic| repeat' ((fail_if_success (with_reducible show wpAny _ _ (exec (Stmt.For _ _ _ _ _) _) _ _ _)); (fail_if_success (with_reducible show wpAny _ _ (exec (Stmt.Assign [_] (Expr.ListComp _ _ _ _) _) _) _ _ _)); (fail_if_success (with_reducible show wpAny _ _ (call (Value.type "zip") _) _ _ _)); (fail_if_success (with_reducible show wpAny _ _ (exec (Stmt.Assign [_] (Expr.DictComp _ _ _ _ _) _) _) _ _ _)); first | ((with_reducible show wpAny _ _ (call (Value.ref _) _ _) _ _ _); walk_at "mi_pc") | ((fail_if_success (with_reducible show wpAny _ _ (call (Value.ref _) _ _) _ _ _)); (fail_if_success (with_reducible show wpAny _ _ (exec (Stmt.Raise _ _ _) _) _ _ _)); first | (k_unfold; (try dsimp only)) | (k_end; kc_close) | walk1 | (dsimp only; walk1) | (leave1; walk_say "STEP leave1"; (try dsimp only)) | fail "no step")))
local macro_rules | `(tactic| walk_at "mi_stepsO") => `(tactic| repeat' ((fail_if_success (with_reducible show wpAny _ _ (exec (Stmt.For _ _ _ _ _) _) _ _ _)); (fail_if_success (with_reducible show wpAny _ _ (exec (Stmt.Assign [_] (Expr.ListComp _ _ _ _) _) _) _ _ _)); (fail_if_success (with_reducible show wpAny _ _ (call (Value.type "zip") _) _ _ _)); (fail_if_success (with_reducible show wpAny _ _ (exec (Stmt.Assign [_] (Expr.DictComp _ _ _ _ _) _) _) _ _ _)); first | ((with_reducible show wpAny _ _ (call (Value.ref _) _ _) _ _ _); walk_at "mi_pc") | ((fail_if_success (with_reducible show wpAny _ _ (call (Value.ref _) _ _) _ _ _)); (fail_if_success (with_reducible show wpAny _ _ (exec (Stmt.Raise _ _ _) _) _ _ _)); first | ((with_reducible show wpAny _ _ (execs _ _) _ _ _); exfalso; omega) | (k_unfold; (try dsimp only)) | (k_end; kc_close) | walk1 | (dsimp only; walk1) | (leave1; walk_say "STEP leave1"; (try dsimp only)) | fail "no step")))
/-- what stands now, the parser apart, may be taken for what stands for good -/
theorem LawC.grow {a : LA} (C : LawC a base) {h : Heap} {m : Str → Option Value} {c k j : Nat} {xs : List Value} {lb fd : Addr} (X : LawSt prog w base a h m c k j xs lb fd) :
    ∃ H : Heap, LawC { a with H0 := H } base ∧ LawSt prog w base { a with H0 := H } h m c k j xs lb fd ∧ Ext [a.L] a.H0 H ∧ (∀ b o, h.get? b = some o → b ∉ [a.p, a.dp, a.pm, a.t, a.dt, a.lm, lb] → H.get? b = some o) := by
  obtain ⟨H, q1, q2, q3⟩ : ∃ H : Heap, (∀ b o, H.get? b = some o → h.get? b = some o) ∧ (∀ b ∈ [a.p, a.dp, a.pm, a.t, a.dt, a.lm, lb], H.get? b = none) ∧ (∀ b o, h.get? b = some o → b ∉ [a.p, a.dp, a.pm, a.t, a.dt, a.lm, lb] → H.get? b = some o) :=
    ⟨hideAll h [a.p, a.dp, a.pm, a.t, a.dt, a.lm, lb], fun b o e => of_hideAll _ e, fun b hb => hideAll_none _ hb, fun b o e n => hideAll_get _ e n⟩
  have nh : ∀ {b : Addr} {o : Obj}, a.H0.get? b = some o → b ∉ [a.p, a.dp, a.pm, a.t, a.dt, a.lm, lb] := fun {b o} e hb => by
    rcases List.mem_append.mp (show b ∈ [a.p, a.dp, a.pm, a.t, a.dt, a.lm] ++ [lb] from hb) with hb | hb
    · exact absurd rfl ((C.new _ hb).ne e)
    · rw [List.mem_singleton.mp hb] at e
      exact absurd rfl (X.lbn.ne e)
  have ex : Ext [a.L] a.H0 H := fun b o hb e => q3 b o (X.old b o hb e) (nh e)
  refine ⟨H, ⟨C.pcs, ex.keep (by simpa using C.nPL) C.hP, C.rP.keep ex (fun b hb => by simpa using C.rPL b hb), ex.keep (by simpa using C.nRL) C.hR, C.rR.keep ex (fun b hb => by simpa using C.rRL b hb), C.nPL, C.nRL, C.rPL, C.rRL,
    fun b hb => q2 b (List.mem_append_left [lb] hb), C.bP, C.bR, C.hL, C.hB⟩, ?_, ex, q3⟩
  exact ⟨X.fr, X.mP, X.mR, X.mp, X.mf, X.mc, X.mtk, fun b o _ e => q1 b o e, X.par, q2 lb (by simp), X.fed, X.fdn, X.fdb, X.c1, X.c2, X.k2⟩
theorem LawSt.back {a : LA} {H : Heap} {h : Heap} {m : Str → Option Value} {c k j : Nat} {xs : List Value} {lb fd : Addr} (C : LawC a base) (X : LawSt prog w base { a with H0 := H } h m c k j xs lb fd) (e : Ext [a.L] a.H0 H) : LawSt prog w base a h m c k j xs lb fd := by
  have h1 : After H lb := X.lbn
  have h2 : lb ≠ a.L := ((C.hB lb).mp X.par.tok.fresh.2.2.1).2
  exact ⟨X.fr, X.mP, X.mR, X.mp, X.mf, X.mc, X.mtk, e.trans X.old, X.par, h1.back e (by simpa using h2), X.fed, X.fdn, X.fdb, X.c1, X.c2, X.k2⟩
end PartQJ
theorem restQK {M : Model} {A : Around} {s : Shared} {E : Value → Shared → Prop} {env : Env} {Q : Flow → Shared → Prop} (h : Q .next s) : wpAny M A (execs [] env) Q E s := by
  w_top off
  walk1
  w_top off
  exact h
section PartQK
local macro_rules | `(tactic| k_steps) => `(tactic| repeat' (first | ((with_reducible show wpAny _ _ (call (Value.ref _) _ _) _ _ _); walk_at "mi_pc") | ((fail_if_success (with_reducible show wpAny _ _ (call (Value.ref _) _ _) _ _ _)); (fail_if_success (with_reducible show wpAny _ _ (exec (Stmt.Raise _ _ _) _) _ _ _)); first | (k_unfold; (try dsimp only)) | (k_end; wrow_close) | walk1 | (dsimp only; walk1) | (leave1; walk_say "STEP leave1"; (try dsimp only)) | fail "no step")))
local macro_rules | `(tactic| k_ne) => `(tactic| first | assumption | exact Ne.symm (by assumption))
local macro_rules | `(tactic| walk_at "call builtin:len") => `(tactic| (k_here; (with_reducible show wpAny _ _ (call (Value.builtin "len") [Value.ref _]) _ _ _); refine PyProof.Rows.len_list (News.isList (by k_asm) (by k_mem)) (by (try simp only [Array.size_push, List.size_toArray]); omega) ?_))
local macro_rules | `(tactic| walk_at "mi_ro") => `(tactic| repeat' (first | exact ro_nil | refine ro_keep (by k_mem) ?_ | refine ro_mut (by simp) ?_))
local macro_rules | `(tactic| walk_at "mi_depth") => `(tactic| ((try simp only [PySem.Around.deeper, PySem.Around.in1_depth]); omega))
local macro_rules | `(tactic| walk_at "mi_pure") => `(tactic| exact hQ _ _ (ext_of [] hgk hsz (fo_nil (base := base)) (by assumption) (by assumption) ro_nil))
local macro_rules | `(tactic| walk_at "mi_steps") => `(tactic| repeat' ((fail_if_success (with_reducible show wpAny _ _ (exec (Stmt.For _ _ _ _ _) _) _ _ _)); first | ((with_reducible show wpAny _ _ (call (Value.ref _) _ _) _ _ _); walk_at "mi_pc") | ((fail_if_success (with_reducible show wpAny _ _ (call (Value.ref _) _ _) _ _ _)); (fail_if_success (with_reducible show wpAny _ _ (exec (Stmt.Raise _ _ _) _) _ _ _)); first | (k_unfold; (try dsimp only)) | (k_end; kc_close) | walk1 | (dsimp only; walk1) | (leave1; walk_say "STEP leave1"; (try dsimp only)) | fail "no step")))
local macro_rules | `(tactic| walk_at "subscriptTail") => `(tactic| (k_here; (with_reducible show wpAny _ _ (subscriptTail _ _ (Value.ref _) (Value.str _ _)) _ _ _); k_dflt (refine' topItem_K ?F ?X ?l ?k ?e ?_; (case F => k_asm); (case X => k_asm); (case l => first | assumption | k_is); (case k => first | assumption | k_keys); (case e => first | assumption | k_is))))
local macro_rules | `(tactic| walk_at "mi_stepsC") => `(tactic| repeat' ((fail_if_success (with_reducible show wpAny _ _ (exec (Stmt.For _ _ _ _ _) _) _ _ _)); (fail_if_success (with_reducible show wpAny _ _ (exec (Stmt.Assign [_] (Expr.ListComp _ _ _ _) _) _) _ _ _)); (fail_if_success (with_reducible show wpAny _ _ (call (Value.type "zip") _) _ _ _)); (fail_if_success (with_reducible show wpAny _ _ (exec (Stmt.Assign [_] (Expr.DictComp _ _ _ _ _) _) _) _ _ _)); first | ((with_reducible show wpAny _ _ (call (Value.ref _) _ _) _ _ _); walk_at "mi_pc") | ((fail_if_success (with_reducible show wpAny _ _ (call (Value.ref _) _ _) _ _ _)); (fail_if_success (with_reducible show wpAny _ _ (exec (Stmt.Raise _ _ _) _) _ _ _)); first | (k_unfold; (try dsimp only)) | (k_end; kc_close) | walk1 | (dsimp only; walk1) | (leave1; walk_say "STEP leave1"; (try dsimp only)) | fail "no step")))
local macro_rules | `(tactic| walk_at "mi_stepsO") => `(tactic| repeat' ((fail_if_success (with_reducible show wpAny _ _ (exec (Stmt.For _ _ _ _ _) _) _ _ _)); (fail_if_success (with_reducible show wpAny _ _ (exec (Stmt.Assign [_] (Expr.ListComp _ _ _ _) _) _) _ _ _)); (fail_if_success (with_reducible show wpAny _ _ (call (Value.type "zip") _) _ _ _)); (fail_if_success (with_reducible show wpAny _ _ (exec (Stmt.Assign [_] (Expr.DictComp _ _ _ _ _) _) _) _ _ _)); first | ((with_reducible show wpAny _ _ (call (Value.ref _) _ _) _ _ _); walk_at "mi_pc") | ((fail_if_success (with_reducible show wpAny _ _ (call (Value.ref _) _ _) _ _ _)); (fail_if_success (with_reducible show wpAny _ _ (exec (Stmt.Raise _ _ _) _) _ _ _)); first | ((with_reducible show wpAny _ _ (execs _ _) _ _ _); exfalso; omega) | (k_unfold; (try dsimp only)) | (k_end; kc_close) | walk1 | (dsimp only; walk1) | (leave1; walk_say "STEP leave1"; (try dsimp only)) | fail "no step")))
theorem GExt.at {a b : Array GenState} (x : GExt a b) {g : Nat} {y : GenState} (h : a[g]? = some y) : b[g]? = some y := by
  have hg : g < a.size := by
    rcases Nat.lt_or_ge g a.size with h1 | h1
    · exact h1
    · rw [Array.getElem?_eq_none h1] at h; cases h
  rw [x.old g hg]; exact h
theorem allConsA {P : Addr → Prop} {q : Addr} {l : List Addr} (h : P q) (r : ∀ p ∈ l, P p) : ∀ p ∈ q :: l, P p := List.forall_mem_cons.mpr ⟨h, r⟩
theorem li {a : LA} {m : Str → Option Value} {c k : Nat} {xs : List Value} {lb fd fa : Addr} {cd : Value}
    (S : Bas w mean mg mb base) (C : LawC a base) (hA : A.depth + 100 < recursionLimit) (hh : A.handled = none) (hU : A.units + 64 < cLine)
    (X : LawSt prog w base a s.heap m c k k xs lb fd) :
    wpAny (model prog w) A (exec (nth lawOuter 0) (lawEnv a.L fa cd)) (fun f s' => Shut (f = .next ∧ ∃ h' tk G m' c' k' lb' fd', s' = {s with heap := h', toks := tk, gens := G} ∧ GExt s.gens G ∧
      LawSt prog w base a h' m' c' k' k' [] lb' fd' ∧ c ≤ c')) E s := by
  show wpAny _ _ (exec (Stmt.For _ _ _ _ _) (envOfC _ (Scope.mk _ _ _ _ _) _ _ _)) _ _ _
  obtain ⟨tc, tt, F⟩ := X.frame
  have KX := S.X
  have KT := S.T
  have hs0 : base.StaysIn s.heap := fun b o e => X.fr.keep b o e
  have hbz : base.objs.size ≤ s.heap.objs.size := Nat.le_trans X.fr.above (Nat.le_of_lt X.fr.ns.lt)
  obtain ⟨p1, ⟨q1, q2, k1, k2, p2⟩, ⟨n0, p3⟩, pnd, ⟨pb1, pb2, pb3⟩, ptk, _, pms⟩ := id X.par
  have zp := (C.hB _).mp pb1
  have zdp := (C.hB _).mp pb2
  have zpm := (C.hB _).mp pb3
  have N : News base a.L s.heap [(a.p, instObj 588 a.dp), (a.dp, parD q1 q2 k1 k2 (.ref a.pm) (.ref a.t))] := nwCons p1 zp.2 zp.1 (nwCons p2 zdp.2 zdp.1 nwNil)
  refine wpAny_For ?_
  k_steps
  refine owit_iter F KX (by k_inst) (by k_is) (by k_is) ?_
  refine c_iterP a.p a.dp a.pm S hs0 (by walk_at "mi_depth") hbz fun h6 tk6 Lg a6 gs e6 aL aa ig hns hbl hbare hgn => ?_
  refine wpAny_specialOf (s := {s with heap := h6, toks := tk6, gens := s.gens.push gs}) ig.typeIs slot_gen_next.lookup ?_
  dsimp only
  have X6 := X.keep0 e6
  obtain ⟨H, C', X6', ex, keepH⟩ := C.grow X6
  have alive : ∀ b ∈ [a.p, a.dp, a.pm, a.t, a.dt, a.lm, lb], ∃ o, s.heap.get? b = some o := by
    obtain ⟨_, _, _, _, _, _, _, _, _, _, _, _, _, d1, _⟩ := ptk.dict
    obtain ⟨_, _, d2, _⟩ := ptk.bs
    obtain ⟨_, _, d3, _⟩ := ptk.ms
    exact allConsA ⟨_, p1⟩ (allConsA ⟨_, p2⟩ (allConsA ⟨_, p3⟩ (allConsA ⟨_, ptk.obj⟩ (allConsA ⟨_, d1⟩ (allConsA ⟨_, d3⟩ (allConsA ⟨_, d2⟩ (fun _ h => nomatch h)))))))
  have nhid : ∀ {z : Addr}, After s.heap z → z ∉ [a.p, a.dp, a.pm, a.t, a.dt, a.lm, lb] := fun {z} az hz => by
    obtain ⟨o, e⟩ := alive z hz
    exact absurd rfl (az.ne e)
  have aliveL : ∃ o, s.heap.get? a.L = some o := by
    obtain ⟨o, _, _, e, _⟩ := X.fr.ns
    exact ⟨o, e⟩
  obtain ⟨oL, hoL⟩ := aliveL
  have a6L : a6 ≠ a.L := aa.ne hoL
  have LgL : Lg ≠ a.L := aL.ne hoL
  have igH : H.IsGen a6 s.gens.size := by
    obtain ⟨o, nm, qn, e, r⟩ := ig
    exact ⟨o, nm, qn, keepH _ _ e (nhid aa), r⟩
  obtain ⟨mS, hnsS, hself⟩ := hns
  have hnsH : H.Ns Lg mS := hnsS.at' fun o e => keepH _ _ e (nhid aL)
  have hne : a.p ≠ Lg ∧ a.dp ≠ Lg ∧ a.pm ≠ Lg := ⟨Ne.symm (aL.ne p1), Ne.symm (aL.ne p2), Ne.symm (aL.ne p3)⟩
  obtain ⟨J, hJ⟩ : ∃ J : Around → Nat → Shared → Prop, ∀ AA n s', J AA n s' ↔ (∃ h' tk G m' c' k' xs' lb' fd' gs', s' = {s with heap := h', toks := tk, gens := G} ∧ GExt s.gens G ∧ G[s.gens.size]? = some gs' ∧
      gnNext prog w AA.in1 (ParG base a.p a.dp a.pm Lg) a.pm n gs' ∧ LawSt prog w base { a with H0 := H } h' m' c' k' k' xs' lb' fd' ∧ c ≤ c' ∧ (rws a.pcs a.pcs.length).length ≤ k' + n) := ⟨_, fun _ _ _ => Iff.rfl⟩
  refine forLoopA J ?_ (rws a.pcs a.pcs.length).length ((hJ _ _ _).mpr ⟨h6, tk6, s.gens.push gs, m, c, k, xs, lb, fd, gs, rfl, GExt.push hbare, by simp, hgn _ _, X6', Nat.le_refl _, Nat.le_add_left _ _⟩)
  intro n s' hj
  obtain ⟨h', tk', G, m', c', k', xs', lb', fd', gs', rfl, gE, hGg, hgn', X', hcc, hn⟩ := (hJ _ _ _).mp hj
  clear hj
  obtain ⟨r1, ⟨r2, r3, r4, r5, r6⟩, ⟨r7, r8⟩, _, _, _, _, rms⟩ := id X'.par
  have hs' : base.StaysIn h' := fun b o e => X'.fr.keep b o e
  have hlen' : xs'.length ≤ 27 := by
    have h1 := rms.length
    rw [List.length_drop] at h1
    have h2 := rws_len C.pcs X'.c2
    have h3 : (rws a.pcs c').length ≤ 27 := h2
    have h4 : xs'.length = (rws a.pcs c').length - k' := h1
    omega
  have hig' : h'.IsGen a6 s.gens.size := by
    obtain ⟨o, nm, qn, e, r⟩ := igH
    exact ⟨o, nm, qn, X'.old.keep (by simpa using a6L) e, r⟩
  have hPt : ParG base a.p a.dp a.pm Lg {s with heap := h', toks := tk', gens := G} xs' :=
    ⟨hs', ⟨mS, hnsH.at' fun o e => X'.old.keep (by simpa using LgL) e, hself⟩, hbl, hne, ⟨zp.1, zdp.1, zpm.1⟩, r1, ⟨_, _, _, _, _, r6⟩, ⟨_, r8⟩, by omega⟩
  refine gen_next (P := ParG base a.p a.dp a.pm Lg) (vs := xs') (n := n) hh (S.T.nolimit.keeps hs') (by walk_at "mi_depth") hig' hGg hgn' (fun s s' vs e h => h.heap s s' e) (fun s us vs h1 h2 => h1.uniq h2) hPt ?hv ?hnil ?hcons
  case hv =>
    intro hn0
    subst hn0
    have h1 := rms.length
    rw [List.length_drop] at h1
    have h4 : xs'.length = (rws a.pcs c').length - k' := h1
    have h5 := (rws_prefix (pcs := a.pcs) X'.c2 (Nat.le_refl _)).length_le
    exact List.eq_nil_of_length_eq_zero (by have h6 : (rws a.pcs c').length ≤ (rws a.pcs a.pcs.length).length := h5; omega)
  case hnil =>
    intro hx h2 tk2 G2 e2 o2 hg2
    subst hx
    refine ex_nil (.mk ⟨rfl, _, _, G2, m', c', k', lb', fd', rfl, gE.only (Nat.le_refl _) o2 hg2 rfl, (X'.keep0 e2).back C ex, hcc⟩)
  case hcons =>
    intro v us h2 tk2 G2 kk gs2 hvs e2 hl2 o2 hg2 hb2 hgn2
    subst hvs
    obtain ⟨mm, rfl, hgn3⟩ := hgn2
    have gE2 : GExt s.gens G2 := gE.only (Nat.le_refl _) o2 hg2 hb2
    obtain ⟨y, r, rr, rfl, hrs, my, par2⟩ := X'.par.pop e2 hl2
    obtain ⟨hrow, hdr, hklt⟩ := drop_at hrs
    rw [← hdr] at par2
    have F2 : Fr base a.L h2 m' := frExt X'.fr e2 (by simpa using Ne.symm zpm.2) (by simpa using zpm.1)
    have X2 : LawSt prog w base { a with H0 := H } h2 m' c' k' (k' + 1) us lb' fd' :=
      ⟨F2, X'.mP, X'.mR, X'.mp, X'.mf, X'.mc, X'.mtk, ext_comp X'.old e2 (fun b hb => by rw [List.mem_singleton.mp hb]; exact C'.new _ (by simp)), par2, X'.lbn, X'.fed.keep e2 (by simpa using X'.fdn.1), X'.fdn, X'.fdb, X'.c1, X'.c2, X'.k2⟩
    refine wpAny_assign_Name (stC F2 (fun h3 F3 e3 => ?_) rfl rfl rfl)
    have X3 := X2.store C' F3 e3 X'.mP X'.mR X'.mp X'.mf X'.mc X'.mtk X'.k2
    have my3 := my.keepB e3 (fun b hb => .inr (C'.inB b hb))
    refine ex_step _ (b0 (a := { a with H0 := H }) (fa := fa) (cd := cd) S C' (by omega) hh hU X3 rfl my3 hrow) ?_
    rintro _ ⟨h4, tk4, rfl, X4⟩
    refine ex_step _ (b1 (a := { a with H0 := H }) (fa := fa) (cd := cd) S C' (by omega) hh X4 hrow) ?_
    rintro _ ⟨h5, tk5, m5, rfl, X5⟩
    refine ex_step _ (b2 (a := { a with H0 := H }) (fa := fa) (cd := cd) S C' (by omega) hh X5) ?_
    rintro _ ⟨h7, tk7, G7, m7, c7, xs7, lb7, fd7, rfl, g7, X7, hc7, _⟩
    refine ex_step _ (b3 (a := { a with H0 := H }) (fa := fa) (cd := cd) S C' (by omega) hh X7) ?_
    rintro _ ⟨h8, tk8, m8, tw, rfl, X8, hw8⟩
    refine ex_step _ (b4 (a := { a with H0 := H }) (fa := fa) (cd := cd) S C' (by omega) hh X8 hw8) ?_
    rintro _ ⟨h9, tk9, rfl, X9⟩
    refine ex_step _ (b5 (a := { a with H0 := H }) (fa := fa) (cd := cd) S C' (by omega) hh hU X9 hw8) ?_
    rintro _ ⟨h10, tk10, G10, m10, k10, xs10, rfl, g10, X10, hk10⟩
    refine ex_nil (.mk ⟨mm, Nat.lt_succ_self _, (hJ _ _ _).mpr ⟨h10, tk10, G10, m10, c7, k10, xs10, lb7, fd7, gs2, rfl, (gE2.trans g7).trans g10, g10.at (g7.at hg2), hgn3, X10, ?_, by omega⟩⟩)
    rw [hc7]; split <;> omega
end PartQK
theorem restQL {M : Model} {A : Around} {s : Shared} {E : Value → Shared → Prop} {env : Env} {Q : Flow → Shared → Prop} (h : Q .next s) : wpAny M A (execs [] env) Q E s := by
  w_top off
  walk1
  w_top off
  exact h
section PartQL
local macro_rules | `(tactic| k_steps) => `(tactic| repeat' (first | ((with_reducible show wpAny _ _ (call (Value.ref _) _ _) _ _ _); walk_at "mi_pc") | ((fail_if_success (with_reducible show wpAny _ _ (call (Value.ref _) _ _) _ _ _)); (fail_if_success (with_reducible show wpAny _ _ (exec (Stmt.Raise _ _ _) _) _ _ _)); first | (k_unfold; (try dsimp only)) | (k_end; wrow_close) | walk1 | (dsimp only; walk1) | (leave1; walk_say "STEP leave1"; (try dsimp only)) | fail "no step")))
local macro_rules | `(tactic| k_ne) => `(tactic| first | assumption | exact Ne.symm (by assumption))
local macro_rules | `(tactic| walk_at "call builtin:len") => `(tactic| (k_here; (with_reducible show wpAny _ _ (call (Value.builtin "len") [Value.ref _]) _ _ _); refine PyProof.Rows.len_list (News.isList (by k_asm) (by k_mem)) (by (try simp only [Array.size_push, List.size_toArray]); omega) ?_))
local macro_rules | `(tactic| walk_at "mi_ro") => `(tactic| repeat' (first | exact ro_nil | refine ro_keep (by k_mem) ?_ | refine ro_mut (by simp) ?_))
local macro_rules | `(tactic| walk_at "mi_depth") => `(tactic| ((try simp only [PySem.Around.deeper, PySem.Around.in1_depth]); omega))
local macro_rules | `(tactic| walk_at "mi_pure") => `(tactic| exact hQ _ _ (ext_of [] hgk hsz (fo_nil (base := base)) (by assumption) (by assumption) ro_nil))
local macro_rules | `(tactic| walk_at "mi_steps") => `(tactic| repeat' ((fail_if_success (with_reducible show wpAny _ _ (exec (Stmt.For _ _ _ _ _) _) _ _ _)); first | ((with_reducible show wpAny _ _ (call (Value.ref _) _ _) _ _ _); walk_at "mi_pc") | ((fail_if_success (with_reducible show wpAny _ _ (call (Value.ref _) _ _) _ _ _)); (fail_if_success (with_reducible show wpAny _ _ (exec (Stmt.Raise _ _ _) _) _ _ _)); first | (k_unfold; (try dsimp only)) | (k_end; kc_close) | walk1 | (dsimp only; walk1) | (leave1; walk_say "STEP leave1"; (try dsimp only)) | fail "no step")))
local macro_rules | `(tactic| walk_at "subscriptTail") => `(tactic| (k_here; (with_reducible show wpAny _ _ (subscriptTail _ _ (Value.ref _) (Value.str _ _)) _ _ _); k_dflt (refine' topItem_K ?F ?X ?l ?k ?e ?_; (case F => k_asm); (case X => k_asm); (case l => first | assumption | k_is); (case k => first | assumption | k_keys); (case e => first | assumption | k_is))))
local macro_rules | `(tactic| walk_at "mi_stepsC") => `(tactic| repeat' ((fail_if_success (with_reducible show wpAny _ _ (exec (Stmt.For _ _ _ _ _) _) _ _ _)); (fail_if_success (with_reducible show wpAny _ _ (exec (Stmt.Assign [_] (Expr.ListComp _ _ _ _) _) _) _ _ _)); (fail_if_success (with_reducible show wpAny _ _ (call (Value.type "zip") _) _ _ _)); (fail_if_success (with_reducible show wpAny _ _ (exec (Stmt.Assign [_] (Expr.DictComp _ _ _ _ _) _) _) _ _ _)); first | ((with_reducible show wpAny _ _ (call (Value.ref _) _ _) _ _ _); walk_at "mi_pc") | ((fail_if_success (with_reducible show wpAny _ _ (call (Value.ref _) _ _) _ _ _)); (fail_if_success (with_reducible show wpAny _ _ (exec (Stmt.Raise _ _ _) _) _ _ _)); first | (k_unfold; (try dsimp only)) | (k_end; kc_close) | walk1 | (dsimp only; walk1) | (leave1; walk_say "STEP leave1"; (try dsimp only)) | fail "no step")))
local macro_rules | `(tactic| walk_at "mi_stepsO") => `(tactic| repeat' ((fail_if_success (with_reducible show wpAny _ _ (exec (Stmt.For _ _ _ _ _) _) _ _ _)); (fail_if_success (with_reducible show wpAny _ _ (exec (Stmt.Assign [_] (Expr.ListComp _ _ _ _) _) _) _ _ _)); (fail_if_success (with_reducible show wpAny _ _ (call (Value.type "zip") _) _ _ _)); (fail_if_success (with_reducible show wpAny _ _ (exec (Stmt.Assign [_] (Expr.DictComp _ _ _ _ _) _) _) _ _ _)); first | ((with_reducible show wpAny _ _ (call (Value.ref _) _ _) _ _ _); walk_at "mi_pc") | ((fail_if_success (with_reducible show wpAny _ _ (call (Value.ref _) _ _) _ _ _)); (fail_if_success (with_reducible show wpAny _ _ (exec (Stmt.Raise _ _ _) _) _ _ _)); first | ((with_reducible show wpAny _ _ (execs _ _) _ _ _); exfalso; omega) | (k_unfold; (try dsimp only)) | (k_end; kc_close) | walk1 | (dsimp only; walk1) | (leave1; walk_say "STEP leave1"; (try dsimp only)) | fail "no step")))
theorem ParAt.keepF {h h' : Heap} {p dp pm t dt lb lm : Addr} {xs : List Value} {rs : List (List Int)} {T : TS} {mt : List Addr} (x : ParAt prog w base h p dp pm t dt lb lm xs rs T) (e : Ext mt h h')
    (h1 : p ∉ mt) (h2 : dp ∉ mt) (h3 : pm ∉ mt) (h4 : t ∉ mt) (h5 : dt ∉ mt) (h6 : lm ∉ mt) (h7 : lb ∉ mt) (h8 : ∀ b ∈ mt, Foreign h b) : ParAt prog w base h' p dp pm t dt lb lm xs rs T := by
  obtain ⟨a1, ⟨q1, q2, k1, k2, a2⟩, ⟨n, a3⟩, a4, a5, a6, a7, a8⟩ := x
  exact ⟨e.keep h1 a1, ⟨q1, q2, k1, k2, e.keep h2 a2⟩, ⟨n, e.keep h3 a3⟩, a4, a5, a6.keep e h4 h5 h7 h6 a7, a7, a8.keep e fun b hb => .inr (h8 b hb)⟩
/-- a range's own iterator goes on -/
theorem LawSt.keepI {a : LA} {h h' : Heap} {m : Str → Option Value} {c k j : Nat} {xs : List Value} {lb fd I : Addr} {x l st : Int} (X : LawSt prog w base a h m c k j xs lb fd) (e : Ext [I] h h') (hI : IsRangeIter h I x l st) (aI : After a.H0 I) (bI : base.get? I = none) (hIL : I ≠ a.L) :
    LawSt prog w base a h' m c k j xs lb fd := by
  have ne : ∀ {b : Addr} {o : Obj}, h.get? b = some o → o.cls ≠ .type "range_iterator" → b ∉ [I] := fun {b o} eb hc hb => by
    rw [List.mem_singleton.mp hb] at eb
    have hI' : h.get? I = some _ := hI
    rw [eb] at hI'
    exact hc (congrArg Obj.cls (Option.some.inj hI'))
  have par := X.par
  obtain ⟨a1, ⟨q1, q2, k1, k2, a2⟩, ⟨n, a3⟩, a4, a5, a6, a7, a8⟩ := id par
  obtain ⟨_, _, _, _, _, _, _, _, _, _, _, _, _, d1, _⟩ := a6.dict
  obtain ⟨_, _, d2, _⟩ := a6.bs
  obtain ⟨_, _, d3, _⟩ := a6.ms
  obtain ⟨_, _, f1, _⟩ := id X.fed
  exact ⟨frExt X.fr e (by simpa using Ne.symm hIL) (by simpa using bI), X.mP, X.mR, X.mp, X.mf, X.mc, X.mtk, ext_comp X.old e (fun b hb => by rw [List.mem_singleton.mp hb]; exact aI),
    par.keepF e (ne a1 (by intro q; cases q)) (ne a2 (fun q => absurd (Value.type.inj q) (by decide))) (ne a3 (fun q => absurd (Value.type.inj q) (by decide))) (ne a6.obj (by intro q; cases q)) (ne d1 (fun q => absurd (Value.type.inj q) (by decide))) (ne d3 (fun q => absurd (Value.type.inj q) (by decide))) (ne d2 (fun q => absurd (Value.type.inj q) (by decide)))
      (fun b hb o ho => by
        rw [List.mem_singleton.mp hb] at ho
        have hI' : h.get? I = some _ := hI
        rw [ho] at hI'
        refine ⟨"range_iterator", congrArg Obj.cls (Option.some.inj hI'), by decide, by decide⟩),
    X.lbn, X.fed.keep e (ne f1 (fun q => absurd (Value.type.inj q) (by decide))), X.fdn, X.fdb, X.c1, X.c2, X.k2⟩
theorem o1 {a : LA} {m : Str → Option Value} {c k : Nat} {lb fd fa : Addr} {cd : Value}
    (S : Bas w mean mg mb base) (C : LawC a base) (hA : A.depth + 80 < recursionLimit) (hh : A.handled = none)
    (X : LawSt prog w base a s.heap m c k k [] lb fd) :
    wpAny (model prog w) A (exec (nth lawOuter 1) (lawEnv a.L fa cd)) (fun f s' => Shut (f = .next ∧ ∃ h' tk, s' = {s with heap := h', toks := tk} ∧ LawSt prog w base a h' m c k k [] lb fd)) E s := by
  show wpAny _ _ (exec (Stmt.If _ _ _ _) (envOfC _ (Scope.mk _ _ _ _ _) _ _ _)) _ _ _
  obtain ⟨tc, tt, F⟩ := X.frame
  have KX := S.X
  have KT := S.T
  have hs0 : base.StaysIn s.heap := fun b o e => X.fr.keep b o e
  obtain ⟨p1, ⟨q1, q2, k1, k2, p2⟩, ⟨n0, p3⟩, pnd, ⟨pb1, pb2, pb3⟩, ptk, _, pms⟩ := id X.par
  have zp := (C.hB _).mp pb1
  have zdp := (C.hB _).mp pb2
  have zpm := (C.hB _).mp pb3
  have hfo := fo_cons p1 zp.1 (fo_cons p2 zdp.1 (fo_cons p3 zpm.1 (fo_nil (h := s.heap) (base := base))))
  have N : News base a.L s.heap [(a.p, instObj 588 a.dp), (a.dp, parD q1 q2 k1 k2 (.ref a.pm) (.ref a.t)), (a.pm, listOf ([] : List Value).toArray n0)] := nwCons p1 zp.2 zp.1 (nwCons p2 zdp.2 zdp.1 (nwCons p3 zpm.2 zpm.1 nwNil))
  k_steps
  refine c_pend a.p a.dp a.pm q1 q2 k1 k2 (.ref a.t) [] n0 S hs0 (by walk_at "mi_depth") (by simp) hfo fun h6 tk6 tt6 e6 => ?_
  have F6 := frExt F e6 (fun h => nomatch h) (fun _ h => nomatch h)
  have N6 := nwExt N e6 (fun _ _ h => nomatch h)
  clear F N
  simp only [List.length_nil]
  k_steps
  all_goals (try (exfalso; omega))
  all_goals exact .mk ⟨by first | rfl | trivial, _, _, rfl, X.keep0 e6⟩
end PartQL
theorem restQM {M : Model} {A : Around} {s : Shared} {E : Value → Shared → Prop} {env : Env} {Q : Flow → Shared → Prop} (h : Q .next s) : wpAny M A (execs [] env) Q E s := by
  w_top off
  walk1
  w_top off
  exact h
section PartQM
local macro_rules | `(tactic| k_steps) => `(tactic| repeat' (first | ((with_reducible show wpAny _ _ (call (Value.ref _) _ _) _ _ _); walk_at "mi_pc") | ((fail_if_success (with_reducible show wpAny _ _ (call (Value.ref _) _ _) _ _ _)); (fail_if_success (with_reducible show wpAny _ _ (exec (Stmt.Raise _ _ _) _) _ _ _)); first | (k_unfold; (try dsimp only)) | (k_end; wrow_close) | walk1 | (dsimp only; walk1) | (leave1; walk_say "STEP leave1"; (try dsimp only)) | fail "no step")))
local macro_rules | `(tactic| k_ne) => `(tactic| first | assumption | exact Ne.symm (by assumption))
local macro_rules | `(tactic| walk_at "call builtin:len") => `(tactic| (k_here; (with_reducible show wpAny _ _ (call (Value.builtin "len") [Value.ref _]) _ _ _); refine PyProof.Rows.len_list (News.isList (by k_asm) (by k_mem)) (by (try simp only [Array.size_push, List.size_toArray]); omega) ?_))
local macro_rules | `(tactic| walk_at "mi_ro") => `(tactic| repeat' (first | exact ro_nil | refine ro_keep (by k_mem) ?_ | refine ro_mut (by simp) ?_))
local macro_rules | `(tactic| walk_at "mi_depth") => `(tactic| ((try simp only [PySem.Around.deeper, PySem.Around.in1_depth]); omega))
local macro_rules | `(tactic| walk_at "mi_pure") => `(tactic| exact hQ _ _ (ext_of [] hgk hsz (fo_nil (base := base)) (by assumption) (by assumption) ro_nil))
local macro_rules | `(tactic| walk_at "mi_steps") => `(tactic| repeat' ((fail_if_success (with_reducible show wpAny _ _ (exec (Stmt.For _ _ _ _ _) _) _ _ _)); first | ((with_reducible show wpAny _ _ (call (Value.ref _) _ _) _ _ _); walk_at "mi_pc") | ((fail_if_success (with_reducible show wpAny _ _ (call (Value.ref _) _ _) _ _ _)); (fail_if_success (with_reducible show wpAny _ _ (exec (Stmt.Raise _ _ _) _) _ _ _)); first | (k_unfold; (try dsimp only)) | (k_end; kc_close) | walk1 | (dsimp only; walk1) | (leave1; walk_say "STEP leave1"; (try dsimp only)) | fail "no step")))
local macro_rules | `(tactic| walk_at "subscriptTail") => `(tactic| (k_here; (with_reducible show wpAny _ _ (subscriptTail _ _ (Value.ref _) (Value.str _ _)) _ _ _); k_dflt (refine' topItem_K ?F ?X ?l ?k ?e ?_; (case F => k_asm); (case X => k_asm); (case l => first | assumption | k_is); (case k => first | assumption | k_keys); (case e => first | assumption | k_is))))
local macro_rules | `(tactic| walk_at "mi_stepsC") => `(tactic| repeat' ((fail_if_success (with_reducible show wpAny _ _ (exec (Stmt.For _ _ _ _ _) _) _ _ _)); (fail_if_success (with_reducible show wpAny _ _ (exec (Stmt.Assign [_] (Expr.ListComp _ _ _ _) _) _) _ _ _)); (fail_if_success (with_reducible show wpAny _ _ (call (Value.type "zip") _) _ _ _)); (fail_if_success (with_reducible show wpAny _ _ (exec (Stmt.Assign [_] (Expr.DictComp _ _ _ _ _) _) _) _ _ _)); first | ((with_reducible show wpAny _ _ (call (Value.ref _) _ _) _ _ _); walk_at "mi_pc") | ((fail_if_success (with_reducible show wpAny _ _ (call (Value.ref _) _ _) _ _ _)); (fail_if_success (with_reducible show wpAny _ _ (exec (Stmt.Raise _ _ _) _) _ _ _)); first | (k_unfold; (try dsimp only)) | (k_end; kc_close) | walk1 | (dsimp only; walk1) | (leave1; walk_say "STEP leave1"; (try dsimp only)) | fail "no step")))
local macro_rules | `(tactic| walk_at "mi_stepsO") => `(tactic| repeat' ((fail_if_success (with_reducible show wpAny _ _ (exec (Stmt.For _ _ _ _ _) _) _ _ _)); (fail_if_success (with_reducible show wpAny _ _ (exec (Stmt.Assign [_] (Expr.ListComp _ _ _ _) _) _) _ _ _)); (fail_if_success (with_reducible show wpAny _ _ (call (Value.type "zip") _) _ _ _)); (fail_if_success (with_reducible show wpAny _ _ (exec (Stmt.Assign [_] (Expr.DictComp _ _ _ _ _) _) _) _ _ _)); first | ((with_reducible show wpAny _ _ (call (Value.ref _) _ _) _ _ _); walk_at "mi_pc") | ((fail_if_success (with_reducible show wpAny _ _ (call (Value.ref _) _ _) _ _ _)); (fail_if_success (with_reducible show wpAny _ _ (exec (Stmt.Raise _ _ _) _) _ _ _)); first | ((with_reducible show wpAny _ _ (execs _ _) _ _ _); exfalso; omega) | (k_unfold; (try dsimp only)) | (k_end; kc_close) | walk1 | (dsimp only; walk1) | (leave1; walk_say "STEP leave1"; (try dsimp only)) | fail "no step")))
theorem lOuter {a : LA} {m : Str → Option Value} {k : Nat} {xs : List Value} {lb fd fa : Addr} {cd : Value}
    (S : Bas w mean mg mb base) (C : LawC a base) (hA : A.depth + 120 < recursionLimit) (hh : A.handled = none) (hU : A.units + 64 < cLine)
    (X : LawSt prog w base a s.heap m 1 k k xs lb fd) :
    wpAny (model prog w) A (exec (nth lawBody 9) (lawEnv a.L fa cd)) (fun f s' => Shut (f = .next ∧ ∃ h' tk G m' k' lb' fd', s' = {s with heap := h', toks := tk, gens := G} ∧ GExt s.gens G ∧
      LawSt prog w base a h' m' a.pcs.length k' k' [] lb' fd')) E s := by
  show wpAny _ _ (exec (Stmt.For _ _ _ _ _) (envOfC _ (Scope.mk _ _ _ _ _) _ _ _)) _ _ _
  obtain ⟨tc, tt, F⟩ := X.frame
  have KX := S.X
  have KT := S.T
  have hs0 : base.StaysIn s.heap := fun b o e => X.fr.keep b o e
  have hvp : a.vp.size = a.pcs.length := by have := C.rP.length; rwa [Array.length_toList] at this
  have hp9 := C.pcs.few
  have hP1 := X.old.keep (by simpa using C.nPL) C.hP
  obtain ⟨rest, NR, hrest⟩ := allN F
  have N : News base a.L s.heap ((a.P, listOf a.vp a.np) :: rest) := nwCons hP1 C.nPL C.bP NR
  refine wpAny_For ?_
  k_steps
  rename IsRange _ _ _ _ _ _ _ _ => rg
  rename Fr base a.L _ _ => F2
  rename News base a.L _ _ => N2
  have e2 := extAll hs0 F2 N2 (fun b o x y z => .tail _ (hrest b o x y z))
  have X2 := X.store C F2 e2 rfl rfl rfl rfl ⟨_, rfl⟩ ⟨_, rfl⟩ X.k2
  refine wpAny_pyIter_range rg (small_one (by omega) (by omega) (by omega) (by omega)) ?_
  rename Heap => h2
  rw [show Builtin.Range.rangeSize 0 ((a.pcs.length : Int) + 1) 1 = ((a.pcs.length + 1 : Nat) : Int) by rw [rangeSize_nat]; omega]
  generalize hI : h2.objs.size = I
  have aI : After h2 I := hI ▸ after_size h2
  have aI0 : After a.H0 I := aI.back X2.old (by
    have : I ≠ a.L := by
      obtain ⟨o, _, _, e, _⟩ := X2.fr.ns
      exact aI.ne e
    simpa using this)
  have IL : I ≠ a.L := by
    obtain ⟨o, _, _, e, _⟩ := X2.fr.ns
    exact aI.ne e
  have bI : base.get? I = none := gone X2.fr aI
  have hit : IsRangeIter (h2.push { cls := .type "range_iterator", data := .fields #[rawInt 0, rawInt ((a.pcs.length + 1 : Nat) : Int), rawInt 1] }) I (0 + ((0 : Nat) : Int) * 1) (((a.pcs.length + 1 : Nat) : Int) - ((0 : Nat) : Int)) 1 := by
    have := Heap.get?_push_size h2 (o := { cls := .type "range_iterator", data := .fields #[rawInt 0, rawInt ((a.pcs.length + 1 : Nat) : Int), rawInt 1] }) rfl
    rw [hI] at this
    simpa using this
  have X3 := X2.keep0 (ext_push h2 { cls := .type "range_iterator", data := .fields #[rawInt 0, rawInt ((a.pcs.length + 1 : Nat) : Int), rawInt 1] })
  obtain ⟨J, hJ⟩ : ∃ J : Nat → Shared → Prop, ∀ i s', J i s' ↔ (∃ h' tk G m' c' k' xs' lb' fd', s' = {s with heap := h', toks := tk, gens := G} ∧ GExt s.gens G ∧ LawSt prog w base a h' m' c' k' k' xs' lb' fd' ∧
      IsRangeIter h' I (0 + (i : Nat) * 1) (((a.pcs.length + 1 : Nat) : Int) - (i : Nat)) 1 ∧ (i + 1 ≤ c' ∨ c' = a.pcs.length) ∧ (i = a.pcs.length + 1 → xs' = [])) := ⟨_, fun _ _ => Iff.rfl⟩
  refine loopR J (Walks.range hh I 0 1 (a.pcs.length + 1)) ?_ ?_ ?_ ((hJ _ _).mpr ⟨_, _, _, _, 1, k, xs, lb, fd, rfl, .refl _, X3, hit, .inl (Nat.le_refl _), fun z => by omega⟩)
  · intro i s' hj
    obtain ⟨_, _, _, _, _, _, _, _, _, rfl, _, _, hi, _⟩ := (hJ _ _).mp hj
    exact hi
  · intro i v s' h' tk hlt hv hj hst e1
    obtain ⟨h3, tk3, G3, m3, c3, k3, xs3, lb3, fd3, rfl, g3, X4, hi3, hc3, _⟩ := (hJ _ _).mp hj
    clear hj
    obtain ⟨tv, rfl⟩ := hv
    have X5 := X4.keepI e1 hi3 aI0 bI IL
    refine stC X5.fr (fun h4 F4 e4 => ?_) rfl rfl rfl
    have X6 := X5.store C F4 e4 X5.mP X5.mR X5.mp X5.mf X5.mc X5.mtk X5.k2
    have it4 : IsRangeIter h4 I (0 + ((i + 1 : Nat) : Int) * 1) (((a.pcs.length + 1 : Nat) : Int) - ((i + 1 : Nat) : Int)) 1 := e4.keep (by simpa using IL) hst
    obtain ⟨H, C', X6', ex, keepH⟩ := C.grow X6
    have itH : H.get? I = some _ := keepH I _ it4 (by
      obtain ⟨a1, ⟨q1, q2, k1, k2, a2⟩, ⟨n, a3⟩, a4, a5, a6, a7, a8⟩ := id X6.par
      obtain ⟨_, _, _, _, _, _, _, _, _, _, _, _, _, d1, _⟩ := a6.dict
      obtain ⟨_, _, d2, _⟩ := a6.bs
      obtain ⟨_, _, d3, _⟩ := a6.ms
      have ne : ∀ {b : Addr} {o : Obj}, h4.get? b = some o → o.cls ≠ .type "range_iterator" → I ≠ b := fun {b o} eb hc hb => by
        have it5 : h4.get? I = some _ := it4
        rw [hb, eb] at it5
        exact hc (congrArg Obj.cls (Option.some.inj it5))
      have n1 := ne a1 (by intro q; cases q)
      have n2 := ne a2 (fun q => absurd (Value.type.inj q) (by decide))
      have n3 := ne a3 (fun q => absurd (Value.type.inj q) (by decide))
      have n4 := ne a6.obj (by intro q; cases q)
      have n5 := ne d1 (fun q => absurd (Value.type.inj q) (by decide))
      have n6 := ne d3 (fun q => absurd (Value.type.inj q) (by decide))
      have n7 := ne d2 (fun q => absurd (Value.type.inj q) (by decide))
      simp only [List.mem_cons, List.not_mem_nil, or_false, not_or]
      exact ⟨n1, n2, n3, n4, n5, n6, n7⟩)
    refine ex_step _ (li (a := { a with H0 := H }) (fa := fa) (cd := cd) S C' (by omega) hh hU X6') ?_
    rintro _ ⟨h7, tk7, G7, m7, c7, k7, lb7, fd7, rfl, g7, X7, hc7⟩
    refine ex_step _ (o1 (a := { a with H0 := H }) (fa := fa) (cd := cd) S C' (by omega) hh X7) ?_
    rintro _ ⟨h8, tk8, rfl, X8⟩
    refine ex_step _ (o2 (a := { a with H0 := H }) (fa := fa) (cd := cd) S C' (by omega) hh X8) ?_
    rintro _ ⟨h9, tk9, G9, m9, c9, xs9, lb9, fd9, rfl, g9, X9, hc9, hx9⟩
    have hc9' : c9 = (if c7 < a.pcs.length then c7 + 1 else c7) := hc9
    have hx9' : ¬c7 < a.pcs.length → xs9 = [] := hx9
    have h7c : c7 ≤ a.pcs.length := X7.c2
    have h3c : c3 ≤ a.pcs.length := X4.c2
    refine ex_nil ((hJ _ _).mpr ⟨h9, tk9, G9, m9, c9, k7, xs9, lb9, fd9, rfl, (g3.trans g7).trans g9, X9.back C ex, X9.old.keep (by simpa using IL) itH, ?_, fun hi => hx9' (by omega)⟩)
    rw [hc9']; split <;> omega
  · intro s' h' tk hj e1
    obtain ⟨h3, tk3, G3, m3, c3, k3, xs3, lb3, fd3, rfl, g3, X4, hi3, hc3, hx3⟩ := (hJ _ _).mp hj
    obtain rfl := hx3 rfl
    have h3c : c3 ≤ a.pcs.length := X4.c2
    obtain rfl : c3 = a.pcs.length := by omega
    exact .mk ⟨rfl, _, _, _, _, k3, lb3, fd3, rfl, g3, X4.keepI e1 hi3 aI0 bI IL⟩
end PartQM
theorem restQN {M : Model} {A : Around} {s : Shared} {E : Value → Shared → Prop} {env : Env} {Q : Flow → Shared → Prop} (h : Q .next s) : wpAny M A (execs [] env) Q E s := by
  w_top off
  walk1
  w_top off
  exact h
section PartQN
local macro_rules | `(tactic| k_steps) => `(tactic| repeat' (first | ((with_reducible show wpAny _ _ (call (Value.ref _) _ _) _ _ _); walk_at "mi_pc") | ((fail_if_success (with_reducible show wpAny _ _ (call (Value.ref _) _ _) _ _ _)); (fail_if_success (with_reducible show wpAny _ _ (exec (Stmt.Raise _ _ _) _) _ _ _)); first | (k_unfold; (try dsimp only)) | (k_end; wrow_close) | walk1 | (dsimp only; walk1) | (leave1; walk_say "STEP leave1"; (try dsimp only)) | fail "no step")))
local macro_rules | `(tactic| k_ne) => `(tactic| first | assumption | exact Ne.symm (by assumption))
local macro_rules | `(tactic| walk_at "call builtin:len") => `(tactic| (k_here; (with_reducible show wpAny _ _ (call (Value.builtin "len") [Value.ref _]) _ _ _); refine PyProof.Rows.len_list (News.isList (by k_asm) (by k_mem)) (by (try simp only [Array.size_push, List.size_toArray]); omega) ?_))
local macro_rules | `(tactic| walk_at "mi_ro") => `(tactic| repeat' (first | exact ro_nil | refine ro_keep (by k_mem) ?_ | refine ro_mut (by simp) ?_))
local macro_rules | `(tactic| walk_at "mi_depth") => `(tactic| ((try simp only [PySem.Around.deeper, PySem.Around.in1_depth]); omega))
local macro_rules | `(tactic| walk_at "mi_pure") => `(tactic| exact hQ _ _ (ext_of [] hgk hsz (fo_nil (base := base)) (by assumption) (by assumption) ro_nil))
local macro_rules | `(tactic| walk_at "mi_steps") => `(tactic| repeat' ((fail_if_success (with_reducible show wpAny _ _ (exec (Stmt.For _ _ _ _ _) _) _ _ _)); first | ((with_reducible show wpAny _ _ (call (Value.ref _) _ _) _ _ _); walk_at "mi_pc") | ((fail_if_success (with_reducible show wpAny _ _ (call (Value.ref _) _ _) _ _ _)); (fail_if_success (with_reducible show wpAny _ _ (exec (Stmt.Raise _ _ _) _) _ _ _)); first | (k_unfold; (try dsimp only)) | (k_end; kc_close) | walk1 | (dsimp only; walk1) | (leave1; walk_say "STEP leave1"; (try dsimp only)) | fail "no step")))
local macro_rules | `(tactic| walk_at "subscriptTail") => `(tactic| (k_here; (with_reducible show wpAny _ _ (subscriptTail _ _ (Value.ref _) (Value.str _ _)) _ _ _); k_dflt (refine' topItem_K ?F ?X ?l ?k ?e ?_; (case F => k_asm); (case X => k_asm); (case l => first | assumption | k_is); (case k => first | assumption | k_keys); (case e => first | assumption | k_is))))
local macro_rules | `(tactic| walk_at "mi_stepsC") => `(tactic| repeat' ((fail_if_success (with_reducible show wpAny _ _ (exec (Stmt.For _ _ _ _ _) _) _ _ _)); (fail_if_success (with_reducible show wpAny _ _ (exec (Stmt.Assign [_] (Expr.ListComp _ _ _ _) _) _) _ _ _)); (fail_if_success (with_reducible show wpAny _ _ (call (Value.type "zip") _) _ _ _)); (fail_if_success (with_reducible show wpAny _ _ (exec (Stmt.Assign [_] (Expr.DictComp _ _ _ _ _) _) _) _ _ _)); first | ((with_reducible show wpAny _ _ (call (Value.ref _) _ _) _ _ _); walk_at "mi_pc") | ((fail_if_success (with_reducible show wpAny _ _ (call (Value.ref _) _ _) _ _ _)); (fail_if_success (with_reducible show wpAny _ _ (exec (Stmt.Raise _ _ _) _) _ _ _)); first | (k_unfold; (try dsimp only)) | (k_end; kc_close) | walk1 | (dsimp only; walk1) | (leave1; walk_say "STEP leave1"; (try dsimp only)) | fail "no step")))
local macro_rules | `(tactic| walk_at "mi_stepsO") => `(tactic| repeat' ((fail_if_success (with_reducible show wpAny _ _ (exec (Stmt.For _ _ _ _ _) _) _ _ _)); (fail_if_success (with_reducible show wpAny _ _ (exec (Stmt.Assign [_] (Expr.ListComp _ _ _ _) _) _) _ _ _)); (fail_if_success (with_reducible show wpAny _ _ (call (Value.type "zip") _) _ _ _)); (fail_if_success (with_reducible show wpAny _ _ (exec (Stmt.Assign [_] (Expr.DictComp _ _ _ _ _) _) _) _ _ _)); first | ((with_reducible show wpAny _ _ (call (Value.ref _) _ _) _ _ _); walk_at "mi_pc") | ((fail_if_success (with_reducible show wpAny _ _ (call (Value.ref _) _ _) _ _ _)); (fail_if_success (with_reducible show wpAny _ _ (exec (Stmt.Raise _ _ _) _) _ _ _)); first | ((with_reducible show wpAny _ _ (execs _ _) _ _ _); exfalso; omega) | (k_unfold; (try dsimp only)) | (k_end; kc_close) | walk1 | (dsimp only; walk1) | (leave1; walk_say "STEP leave1"; (try dsimp only)) | fail "no step")))
theorem lRet {a : LA} {m : Str → Option Value} {k : Nat} {lb fd fa : Addr} {cd : Value}
    (S : Bas w mean mg mb base) (C : LawC a base) (hA : A.depth + 80 < recursionLimit) (hh : A.handled = none)
    (X : LawSt prog w base a s.heap m a.pcs.length k k [] lb fd) :
    wpAny (model prog w) A (exec (nth lawBody 10) (lawEnv a.L fa cd)) (fun f s' => Shut (f = .ret (.bool true) ∧ ∃ h' tk G, s' = {s with heap := h', toks := tk, gens := G} ∧ GExt s.gens G ∧ base.StaysIn h')) E s := by
  show wpAny _ _ (exec (Stmt.Return _ _) (envOfC _ (Scope.mk _ _ _ _ _) _ _ _)) _ _ _
  obtain ⟨tc, tt, F⟩ := X.frame
  have KX := S.X
  have KT := S.T
  have hs0 : base.StaysIn s.heap := fun b o e => X.fr.keep b o e
  have hvp : a.vp.size = a.pcs.length := by have := C.rP.length; rwa [Array.length_toList] at this
  have hvr : a.vr.size = (rws a.pcs a.pcs.length).length := by have := C.rR.length; rwa [Array.length_toList] at this
  have hp9 := C.pcs.few
  have hP1 := X.old.keep (by simpa using C.nPL) C.hP
  have hR1 := X.old.keep (by simpa using C.nRL) C.hR
  obtain ⟨p1, ⟨q1, q2, k1, k2, p2⟩, ⟨n0, p3⟩, pnd, ⟨pb1, pb2, pb3⟩, ptk, _, pms⟩ := id X.par
  have hk : k = (rws a.pcs a.pcs.length).length := by
    have h1 := pms.length
    rw [List.length_drop, List.length_nil] at h1
    have h2 := X.k2
    omega
  have hr27 := rws_len C.pcs (Nat.le_refl a.pcs.length)
  have zp := (C.hB _).mp pb1
  have zdp := (C.hB _).mp pb2
  have zpm := (C.hB _).mp pb3
  have hfo := fo_cons p1 zp.1 (fo_cons p2 zdp.1 (fo_cons p3 zpm.1 (fo_nil (h := s.heap) (base := base))))
  have N : News base a.L s.heap [(a.P, listOf a.vp a.np), (a.R, listOf a.vr a.nr), (a.p, instObj 588 a.dp), (a.dp, parD q1 q2 k1 k2 (.ref a.pm) (.ref a.t)), (a.pm, listOf ([] : List Value).toArray n0)] := nwCons hP1 C.nPL C.bP (nwCons hR1 C.nRL C.bR (nwCons p1 zp.2 zp.1 (nwCons p2 zdp.2 zdp.1 (nwCons p3 zpm.2 zpm.1 nwNil))))
  have hbz : base.objs.size ≤ s.heap.objs.size := Nat.le_trans X.fr.above (Nat.le_of_lt X.fr.ns.lt)
  have nd := pnd
  simp only [List.nodup_cons, List.mem_cons, List.not_mem_nil, or_false, not_or, not_false_eq_true, List.nodup_nil, and_true] at nd
  have hkz : (k : Int) = a.vr.size := by omega
  have hcz : (a.pcs.length : Int) = a.vp.size := by omega
  k_steps
  · refine c_get a.p a.dp a.pm q1 q2 k1 k2 (.ref a.t) [] n0 S hs0 (by walk_at "mi_depth") hh hbz (by simp) ⟨nd.1.1, nd.1.2.1, nd.2.1.1⟩ hfo (fun _ h6 tk6 G e6 g6 => ?_) (fun v us h6 tk6 G n' hxs => by cases hxs)
    have F6 := frExt F e6 (fun h => nomatch h) (fun _ h => nomatch h)
    have N6 := nwExt N e6 (fun _ _ h => nomatch h)
    clear F N
    k_steps
    exact .mk ⟨by first | rfl | trivial, _, _, G, rfl, g6, fun b o e => F6.keep b o e⟩
  · exfalso; omega
  · exfalso; omega
end PartQN
theorem restQO {M : Model} {A : Around} {s : Shared} {E : Value → Shared → Prop} {env : Env} {Q : Flow → Shared → Prop} (h : Q .next s) : wpAny M A (execs [] env) Q E s := by
  w_top off
  walk1
  w_top off
  exact h
section PartQO
local macro_rules | `(tactic| k_steps) => `(tactic| repeat' (first | ((with_reducible show wpAny _ _ (call (Value.ref _) _ _) _ _ _); walk_at "mi_pc") | ((fail_if_success (with_reducible show wpAny _ _ (call (Value.ref _) _ _) _ _ _)); (fail_if_success (with_reducible show wpAny _ _ (exec (Stmt.Raise _ _ _) _) _ _ _)); first | (k_unfold; (try dsimp only)) | (k_end; wrow_close) | walk1 | (dsimp only; walk1) | (leave1; walk_say "STEP leave1"; (try dsimp only)) | fail "no step")))
local macro_rules | `(tactic| k_ne) => `(tactic| first | assumption | exact Ne.symm (by assumption))
local macro_rules | `(tactic| walk_at "call builtin:len") => `(tactic| (k_here; (with_reducible show wpAny _ _ (call (Value.builtin "len") [Value.ref _]) _ _ _); refine PyProof.Rows.len_list (News.isList (by k_asm) (by k_mem)) (by (try simp only [Array.size_push, List.size_toArray]); omega) ?_))
local macro_rules | `(tactic| walk_at "mi_ro") => `(tactic| repeat' (first | exact ro_nil | refine ro_keep (by k_mem) ?_ | refine ro_mut (by simp) ?_))
local macro_rules | `(tactic| walk_at "mi_depth") => `(tactic| ((try simp only [PySem.Around.deeper, PySem.Around.in1_depth]); omega))
local macro_rules | `(tactic| walk_at "mi_pure") => `(tactic| exact hQ _ _ (ext_of [] hgk hsz (fo_nil (base := base)) (by assumption) (by assumption) ro_nil))
local macro_rules | `(tactic| walk_at "mi_steps") => `(tactic| repeat' ((fail_if_success (with_reducible show wpAny _ _ (exec (Stmt.For _ _ _ _ _) _) _ _ _)); first | ((with_reducible show wpAny _ _ (call (Value.ref _) _ _) _ _ _); walk_at "mi_pc") | ((fail_if_success (with_reducible show wpAny _ _ (call (Value.ref _) _ _) _ _ _)); (fail_if_success (with_reducible show wpAny _ _ (exec (Stmt.Raise _ _ _) _) _ _ _)); first | (k_unfold; (try dsimp only)) | (k_end; kc_close) | walk1 | (dsimp only; walk1) | (leave1; walk_say "STEP leave1"; (try dsimp only)) | fail "no step")))
local macro_rules | `(tactic| walk_at "subscriptTail") => `(tactic| (k_here; (with_reducible show wpAny _ _ (subscriptTail _ _ (Value.ref _) (Value.str _ _)) _ _ _); k_dflt (refine' topItem_K ?F ?X ?l ?k ?e ?_; (case F => k_asm); (case X => k_asm); (case l => first | assumption | k_is); (case k => first | assumption | k_keys); (case e => first | assumption | k_is))))
local macro_rules | `(tactic| walk_at "mi_stepsC") => `(tactic| repeat' ((fail_if_success (with_reducible show wpAny _ _ (exec (Stmt.For _ _ _ _ _) _) _ _ _)); (fail_if_success (with_reducible show wpAny _ _ (exec (Stmt.Assign [_] (Expr.ListComp _ _ _ _) _) _) _ _ _)); (fail_if_success (with_reducible show wpAny _ _ (call (Value.type "zip") _) _ _ _)); (fail_if_success (with_reducible show wpAny _ _ (exec (Stmt.Assign [_] (Expr.DictComp _ _ _ _ _) _) _) _ _ _)); first | ((with_reducible show wpAny _ _ (call (Value.ref _) _ _) _ _ _); walk_at "mi_pc") | ((fail_if_success (with_reducible show wpAny _ _ (call (Value.ref _) _ _) _ _ _)); (fail_if_success (with_reducible show wpAny _ _ (exec (Stmt.Raise _ _ _) _) _ _ _)); first | (k_unfold; (try dsimp only)) | (k_end; kc_close) | walk1 | (dsimp only; walk1) | (leave1; walk_say "STEP leave1"; (try dsimp only)) | fail "no step")))
local macro_rules | `(tactic| walk_at "mi_stepsO") => `(tactic| repeat' ((fail_if_success (with_reducible show wpAny _ _ (exec (Stmt.For _ _ _ _ _) _) _ _ _)); (fail_if_success (with_reducible show wpAny _ _ (exec (Stmt.Assign [_] (Expr.ListComp _ _ _ _) _) _) _ _ _)); (fail_if_success (with_reducible show wpAny _ _ (call (Value.type "zip") _) _ _ _)); (fail_if_success (with_reducible show wpAny _ _ (exec (Stmt.Assign [_] (Expr.DictComp _ _ _ _ _) _) _) _ _ _)); first | ((with_reducible show wpAny _ _ (call (Value.ref _) _ _) _ _ _); walk_at "mi_pc") | ((fail_if_success (with_reducible show wpAny _ _ (call (Value.ref _) _ _) _ _ _)); (fail_if_success (with_reducible show wpAny _ _ (exec (Stmt.Raise _ _ _) _) _ _ _)); first | ((with_reducible show wpAny _ _ (execs _ _) _ _ _); exfalso; omega) | (k_unfold; (try dsimp only)) | (k_end; kc_close) | walk1 | (dsimp only; walk1) | (leave1; walk_say "STEP leave1"; (try dsimp only)) | fail "no step")))
theorem ex_ret {M : Model} {st : Stmt} {rest : List Stmt} {env : Env} {Q : Flow → Shared → Prop} {v : Value} (K : Shared → Prop) (h1 : wpAny M A (exec st env) (fun f s' => Shut (f = .ret v ∧ K s')) E s) (h2 : ∀ s', K s' → Q (.ret v) s') : wpAny M A (execs (st :: rest) env) Q E s := by
  rw [execs_cons]
  refine wpAny_bind (wpAny_mono h1 (fun f s' hf => ?_) fun _ _ e => e)
  obtain ⟨⟨rfl, hK⟩⟩ := hf
  exact wpAny_pure (h2 s' hK)
theorem bothG {h : Heap} {L : Addr} {m : Str → Option Value} (hL : L = base.objs.size) (F : Fr base L h m) : ∃ g : Heap, base.StaysIn g ∧ g.StaysIn h ∧ g.objs.size ≤ h.objs.size ∧ (∀ b, g.get? b = none ↔ (base.get? b = none ∧ b ≠ L)) := by
  obtain ⟨o, _, _, hLo, _⟩ := F.ns
  obtain ⟨_, ho⟩ := Heap.get?_some_iff.mp hLo
  have pn : ∀ {b : Addr}, (base.push o).get? b = none ↔ (base.get? b = none ∧ b ≠ base.objs.size) := push_none ho
  refine ⟨base.push o, fun b ob e => Heap.get?_push_of_some o e, fun b ob e => ?_, ?_, fun b => ?_⟩
  · cases q : base.get? b with
    | some o2 =>
      have := Heap.get?_push_of_some o q
      rw [e] at this
      rw [Option.some.inj this]; exact F.keep b o2 q
    | none =>
      have hb : b = base.objs.size := Classical.byContradiction fun n => by rw [pn.mpr ⟨q, n⟩] at e; cases e
      subst hb
      rw [Heap.get?_push_size base ho] at e
      rw [← hL, hLo]; exact e
  · rw [Heap.size_push, ← hL]; exact F.ns.lt
  · rw [pn, hL]
theorem Par0At.dom {b2 h : Heap} {p dp pm t dt lb lm : Addr} (x : Par0At base h p dp pm t dt lb lm) (hd : ∀ b, base.get? b = none → b2.get? b = none) : Par0At b2 h p dp pm t dt lb lm := by
  obtain ⟨a1, a2, a3, a4, ⟨g1, g2, g3⟩, c1, c2, c3, c4, c5, f1, f2, f3, f4⟩ := x
  exact ⟨a1, a2, a3, a4, ⟨hd _ g1, hd _ g2, hd _ g3⟩, c1, c2, c3, c4, c5, hd _ f1, hd _ f2, hd _ f3, hd _ f4⟩
theorem Par0At.keepB {h h' : Heap} {p dp pm t dt lb lm : Addr} {mt : List Addr} (x : Par0At base h p dp pm t dt lb lm) (e : Ext mt h h') (hm : ∀ b ∈ mt, base.get? b ≠ none) : Par0At base h' p dp pm t dt lb lm := by
  obtain ⟨a1, ⟨q1, q2, k1, k2, a2⟩, ⟨n, a3⟩, a4, ⟨g1, g2, g3⟩, a6⟩ := x
  have out : ∀ {b : Addr}, base.get? b = none → b ∉ mt := fun e1 q => hm _ q e1
  obtain ⟨_, _, _, _, _, f1, f2, f3, f4⟩ := id a6
  exact ⟨e.keep (out g1) a1, ⟨q1, q2, k1, k2, e.keep (out g2) a2⟩, ⟨n, e.keep (out g3) a3⟩, a4, ⟨g1, g2, g3⟩, a6.keep e (out f1) (out f2) (out f3) (out f4)⟩
end PartQO
theorem restQP {M : Model} {A : Around} {s : Shared} {E : Value → Shared → Prop} {env : Env} {Q : Flow → Shared → Prop} (h : Q .next s) : wpAny M A (execs [] env) Q E s := by
  w_top off
  walk1
  w_top off
  exact h
section PartQP
local macro_rules | `(tactic| k_steps) => `(tactic| repeat' (first | ((with_reducible show wpAny _ _ (call (Value.ref _) _ _) _ _ _); walk_at "mi_pc") | ((fail_if_success (with_reducible show wpAny _ _ (call (Value.ref _) _ _) _ _ _)); (fail_if_success (with_reducible show wpAny _ _ (exec (Stmt.Raise _ _ _) _) _ _ _)); first | (k_unfold; (try dsimp only)) | (k_end; wrow_close) | walk1 | (dsimp only; walk1) | (leave1; walk_say "STEP leave1"; (try dsimp only)) | fail "no step")))
local macro_rules | `(tactic| k_ne) => `(tactic| first | assumption | exact Ne.symm (by assumption))
local macro_rules | `(tactic| walk_at "call builtin:len") => `(tactic| (k_here; (with_reducible show wpAny _ _ (call (Value.builtin "len") [Value.ref _]) _ _ _); refine PyProof.Rows.len_list (News.isList (by k_asm) (by k_mem)) (by (try simp only [Array.size_push, List.size_toArray]); omega) ?_))
local macro_rules | `(tactic| walk_at "mi_ro") => `(tactic| repeat' (first | exact ro_nil | refine ro_keep (by k_mem) ?_ | refine ro_mut (by simp) ?_))
local macro_rules | `(tactic| walk_at "mi_depth") => `(tactic| ((try simp only [PySem.Around.deeper, PySem.Around.in1_depth]); omega))
local macro_rules | `(tactic| walk_at "mi_pure") => `(tactic| exact hQ _ _ (ext_of [] hgk hsz (fo_nil (base := base)) (by assumption) (by assumption) ro_nil))
local macro_rules | `(tactic| walk_at "mi_steps") => `(tactic| repeat' ((fail_if_success (with_reducible show wpAny _ _ (exec (Stmt.For _ _ _ _ _) _) _ _ _)); first | ((with_reducible show wpAny _ _ (call (Value.ref _) _ _) _ _ _); walk_at "mi_pc") | ((fail_if_success (with_reducible show wpAny _ _ (call (Value.ref _) _ _) _ _ _)); (fail_if_success (with_reducible show wpAny _ _ (exec (Stmt.Raise _ _ _) _) _ _ _)); first | (k_unfold; (try dsimp only)) | (k_end; kc_close) | walk1 | (dsimp only; walk1) | (leave1; walk_say "STEP leave1"; (try dsimp only)) | fail "no step")))
local macro_rules | `(tactic| walk_at "subscriptTail") => `(tactic| (k_here; (with_reducible show wpAny _ _ (subscriptTail _ _ (Value.ref _) (Value.str _ _)) _ _ _); k_dflt (refine' topItem_K ?F ?X ?l ?k ?e ?_; (case F => k_asm); (case X => k_asm); (case l => first | assumption | k_is); (case k => first | assumption | k_keys); (case e => first | assumption | k_is))))
local macro_rules | `(tactic| walk_at "mi_stepsC") => `(tactic| repeat' ((fail_if_success (with_reducible show wpAny _ _ (exec (Stmt.For _ _ _ _ _) _) _ _ _)); (fail_if_success (with_reducible show wpAny _ _ (exec (Stmt.Assign [_] (Expr.ListComp _ _ _ _) _) _) _ _ _)); (fail_if_success (with_reducible show wpAny _ _ (call (Value.type "zip") _) _ _ _)); (fail_if_success (with_reducible show wpAny _ _ (exec (Stmt.Assign [_] (Expr.DictComp _ _ _ _ _) _) _) _ _ _)); first | ((with_reducible show wpAny _ _ (call (Value.ref _) _ _) _ _ _); walk_at "mi_pc") | ((fail_if_success (with_reducible show wpAny _ _ (call (Value.ref _) _ _) _ _ _)); (fail_if_success (with_reducible show wpAny _ _ (exec (Stmt.Raise _ _ _) _) _ _ _)); first | (k_unfold; (try dsimp only)) | (k_end; kc_close) | walk1 | (dsimp only; walk1) | (leave1; walk_say "STEP leave1"; (try dsimp only)) | fail "no step")))
local macro_rules | `(tactic| walk_at "mi_stepsO") => `(tactic| repeat' ((fail_if_success (with_reducible show wpAny _ _ (exec (Stmt.For _ _ _ _ _) _) _ _ _)); (fail_if_success (with_reducible show wpAny _ _ (exec (Stmt.Assign [_] (Expr.ListComp _ _ _ _) _) _) _ _ _)); (fail_if_success (with_reducible show wpAny _ _ (call (Value.type "zip") _) _ _ _)); (fail_if_success (with_reducible show wpAny _ _ (exec (Stmt.Assign [_] (Expr.DictComp _ _ _ _ _) _) _) _ _ _)); first | ((with_reducible show wpAny _ _ (call (Value.ref _) _ _) _ _ _); walk_at "mi_pc") | ((fail_if_success (with_reducible show wpAny _ _ (call (Value.ref _) _ _) _ _ _)); (fail_if_success (with_reducible show wpAny _ _ (exec (Stmt.Raise _ _ _) _) _ _ _)); first | ((with_reducible show wpAny _ _ (execs _ _) _ _ _); exfalso; omega) | (k_unfold; (try dsimp only)) | (k_end; kc_close) | walk1 | (dsimp only; walk1) | (leave1; walk_say "STEP leave1"; (try dsimp only)) | fail "no step")))
local macro_rules | `(tactic| walk_at "subscriptTail") => `(tactic| ((with_reducible show wpAny _ _ (subscriptTail _ _ (Value.ref _) (Value.int _ _)) _ _ _); refine item_at (News.get (by k_asm) (by k_mem)) (by omega) (by omega) (by assumption) ?_))
theorem lTail {L fa P wh : Addr} {cd : Value} {m : Str → Option Value} {pcs : List (List Int)} {vp : Array Value} {np : Nat} {Q : Flow → Shared → Prop}
    (S : Bas w mean mg mb base) (hLb : L = base.objs.size) (hA : A.depth + 140 < recursionLimit) (hh : A.handled = none) (hU : A.units + 64 < cLine)
    (F : Fr base L s.heap m) (mP : m (Str.ofString "pieces") = some (.ref P)) (mW : m (Str.ofString "whole") = some (.ref wh)) (hP : s.heap.get? P = some (listOf vp np)) (rP : RowsAt s.heap vp.toList pcs) (pc : Pcs pcs) (h0 : ∃ x, pcs[0]? = some [144, x, 9])
    (bP : base.get? P = none) (rPL : ∀ b, Value.ref b ∈ vp.toList → b ≠ L ∧ base.get? b = none) (hW : IsInts s.heap wh pcs.flatten) (bW : base.get? wh = none)
    (hQ : ∀ h' tk G, base.StaysIn h' → GExt s.gens G → Q (.ret (.bool true)) {s with heap := h', toks := tk, gens := G}) :
    wpAny (model prog w) A (execs (lawBody.drop 3) (lawEnv L fa cd)) Q E s := by
  show wpAny _ _ (execs (_ :: _ :: _ :: _ :: _ :: _ :: _ :: _ :: []) (envOfC _ (Scope.mk _ _ _ _ _) _ _ _)) _ _ _
  have KX := S.X
  have KT := S.T
  have hs0 : base.StaysIn s.heap := fun b o e => F.keep b o e
  have F1 : Fr base L s.heap (fun y => if y = Str.ofString "pieces" then some (.ref P) else if y = Str.ofString "whole" then some (.ref wh) else m y) := frMap F fun y => by
    by_cases h1 : y = Str.ofString "pieces"
    · rw [if_pos h1, h1]; exact mP
    rw [if_neg h1]
    by_cases h2 : y = Str.ofString "whole"
    · rw [if_pos h2, h2]; exact mW
    rw [if_neg h2]
  have nPL : P ≠ L := frNe F hP (fun _ _ z => by cases z)
  have hvp : vp.size = pcs.length := by have := rP.length; rwa [Array.length_toList] at this
  have hp9 := pc.few
  have hp1 := pc.some
  have hfl : pcs.flatten = fl pcs pcs.length := (fl_all pcs).symm
  have hl27 : pcs.flatten.length ≤ 27 := by rw [hfl]; exact fl_len27 pc (Nat.le_refl _)
  obtain ⟨oL, _, _, hoL, _⟩ := F.ns
  have N : News base L s.heap [] := nwNil
  clear F
  k_steps
  refine c_rows wh pcs.flatten S hs0 (by walk_at "mi_depth") hh hW bW (by omega) (by rw [hfl]; exact fl_good pc _) fun h6 tk6 R vr nr e6 a6 l6 r6 rR6 => ?_
  rw [hfl, rws_law pc] at r6
  have F6 := frExt F1 e6 (fun h => nomatch h) (fun _ h => nomatch h)
  have hs6 : base.StaysIn h6 := fun b o e => F6.keep b o e
  have RL : R ≠ L := a6.ne hoL
  have bR : base.get? R = none := gone F1 a6
  have rRL : ∀ b, Value.ref b ∈ vr.toList → b ≠ L := fun b hb => (rR6 b hb).ne hoL
  have hP6 := e6.none hP
  have rP6 := rP.keep e6 (fun _ _ h => nomatch h)
  obtain ⟨rest6, N6, hrest6⟩ := allN F6
  clear F1 N
  k_steps
  rename Fr base L _ _ => F7
  rename News base L _ _ => N7
  rename Heap => h7
  have e7 := extAll hs6 F7 N7 hrest6
  have hP7 := e7.keep (by simpa using nPL) hP6
  have rP7 := rP6.keep e7 (fun b hb => by simpa using (rPL b hb).1)
  have hR7 := e7.keep (by simpa using RL) l6
  have rR7 := r6.keep e7 (fun b hb => by simpa using rRL b hb)
  obtain ⟨g7, s1, s2, s3, s4⟩ := bothG hLb F7
  refine c_Par (base := g7) ⟨S.X.keeps s1, S.T.keeps s1⟩ s2 (by walk_at "mi_depth") fun h8 tk8 p dp pm t dt lb lm e8 a8 par8 => ?_
  have hs7 : base.StaysIn h7 := fun b o e => F7.keep b o e
  have F8 := frExt F7 e8 (fun h => nomatch h) (fun _ h => nomatch h)
  have hs8 : base.StaysIn h8 := fun b o e => F8.keep b o e
  obtain ⟨p1, ⟨q1, q2, k1, k2, p2⟩, ⟨n0, p3⟩, pnd, ⟨pb1, pb2, pb3⟩, ptk⟩ := id par8
  have zp := (s4 _).mp pb1
  have zdp := (s4 _).mp pb2
  have hP8 := e8.none hP7
  obtain ⟨rest8, NR8, hrest8⟩ := allN F8
  have N8 : News base L h8 ((P, listOf vp np) :: (p, instObj 588 dp) :: (dp, parD q1 q2 k1 k2 (.ref pm) (.ref t)) :: rest8) := nwCons hP8 nPL bP (nwCons p1 zp.2 zp.1 (nwCons p2 zdp.2 zdp.1 NR8))
  obtain ⟨x0, hx0⟩ := h0
  obtain ⟨q, hq, hqi⟩ := rP7.get hx0
  have hx : vp[(0 : Int).toNat]? = some (.ref q) := by simpa using hq
  have hqL := rPL q (List.mem_of_getElem? hq)
  clear F7 N7
  k_steps
  rename Fr base L _ _ => F9
  rename News base L _ _ => N9
  rename Heap => h9
  have e9 := extAll hs8 F9 N9 (fun b o x y z => .tail _ (.tail _ (.tail _ (hrest8 b o x y z))))
  obtain ⟨g9, u1, u2, u3, u4⟩ := bothG hLb F9
  have inB : ∀ b ∈ [L], g7.get? b ≠ none := fun b hb z => by
    rw [List.mem_singleton.mp hb] at z
    exact ((s4 _).mp z).2 rfl
  have par9 := (par8.keepB e9 inB).dom (b2 := g9) fun b z => (u4 b).mpr ((s4 b).mp z)
  have e79 : Ext [L] h7 h9 := e8.nil.trans e9
  obtain ⟨vq, nq, hq0, _⟩ := id hqi
  have hqi9 := hqi.keep e79 (by simpa using hqL.1)
  have hpc0 : pcs[0]? = some pcs[0] := by simp [hp1]
  have hx0' : pcs[0] = [144, x0, 9] := by rw [hpc0] at hx0; exact Option.some.inj hx0
  have good0 : ∀ o ∈ ([144, x0, 9] : List Int), GoodO o := pc.good _ (List.mem_of_getElem? hx0)
  have nq1 : q ≠ lb := Ne.symm ((a8 lb (by simp)).ne hq0)
  have nq2 : q ≠ lm := Ne.symm ((a8 lm (by simp)).ne hq0)
  have nq3 : q ≠ pm := Ne.symm ((a8 pm (by simp)).ne hq0)
  have nq4 : q ≠ dt := Ne.symm ((a8 dt (by simp)).ne hq0)
  have npm : P ≠ pm := Ne.symm ((a8 pm (by simp)).ne hP7)
  have ndt : P ≠ dt := Ne.symm ((a8 dt (by simp)).ne hP7)
  have nlb : P ≠ lb := Ne.symm ((a8 lb (by simp)).ne hP7)
  have nlm : P ≠ lm := Ne.symm ((a8 lm (by simp)).ne hP7)
  obtain ⟨_, _, _, _, _, f1, f2, f3, f4⟩ := id ptk
  have zpm := (s4 _).mp pb3
  have zdt := (s4 _).mp f2
  have zlb := (s4 _).mp f3
  have zlm := (s4 _).mp f4
  have hok0 : ∀ r ∈ (([144, x0, 9] : List Int).foldl TS.step TS0).ms, RowOk r := by
    have := new_ok pc hx0
    rw [WW_zero] at this
    exact this
  refine c_pfeed0 (base := g9) p dp pm t dt lb lm q [144, x0, 9] rfl ⟨S.X.keeps u1, S.T.keeps u1⟩ u2 (by walk_at "mi_depth") hh u3 par9 good0 hqi9 ⟨nq1, nq2, nq3⟩ (by simp) hok0 fun h10 tk10 G lb' xs' e10 g10 par10 o10 => ?_
  have F10 := frExt F9 e10 (by simp [Ne.symm zpm.2, Ne.symm zdt.2, Ne.symm zlb.2, Ne.symm zlm.2]) (by simp [zpm.1, zdt.1, zlb.1, zlm.1])
  have hs10 : base.StaysIn h10 := fun b o e => F10.keep b o e
  have hP9 := (N9 _ (.head _)).1
  have hP10 := e10.keep (by simp [npm, ndt, nlb, nlm]) hP9
  have hqi10 := hqi9.keep e10 (by simp [nq1, nq2, nq3, nq4])
  obtain ⟨rest10, NR10, hrest10⟩ := allN F10
  have N10 : News base L h10 ((P, listOf vp np) :: rest10) := nwCons hP10 nPL bP NR10
  clear F9 N9
  walk_at "mi_steps"
  rename Fr base L _ _ => F11
  rename News base L _ _ => N11
  rename Heap => h11
  have e11 := extAll hs10 F11 N11 (fun b o x y z => .tail _ (hrest10 b o x y z))
  have fl1 : fl pcs 1 = [144, x0, 9] := by
    have := fl_succ hx0
    rw [fl_zero, List.nil_append] at this
    exact this
  have rw1 : rws pcs 1 = (([144, x0, 9] : List Int).foldl TS.step TS0).ms := by unfold rws TT; rw [fl1]
  have ww1 : WW pcs 1 = { ([144, x0, 9] : List Int).foldl TS.step TS0 with ms := [] } := by unfold WW TT; rw [fl1]
  obtain ⟨a, ha⟩ : ∃ a : LA, a = ⟨L, P, R, p, dp, pm, t, dt, lm, vp, vr, np, nr, pcs, h7, g7⟩ := ⟨_, rfl⟩
  have C : LawC a base := by
    rw [ha]
    exact ⟨pc, hP7, rP7, hR7, rR7, nPL, RL, fun b hb => (rPL b hb).1, rRL, fun b hb => a8 b (by
      simp only [List.mem_cons, List.not_mem_nil, or_false] at hb ⊢
      rcases hb with z | z | z | z | z | z <;> simp [z]), bP, bR, hLb, fun b => s4 b⟩
  have parB : ParAt prog w g7 h10 p dp pm t dt lb' lm xs' (([144, x0, 9] : List Int).foldl TS.step TS0).ms { ([144, x0, 9] : List Int).foldl TS.step TS0 with ms := [] } := par10.dom fun b z => (s4 b).mpr ((u4 b).mp z)
  have lbL : lb' ≠ L := ((s4 _).mp parB.tok.fresh.2.2.1).2
  have lbn : After h7 lb' := by
    rcases o10 with z | z
    · rw [z]; exact a8 lb (by simp)
    · exact z.back e79 (by simpa using lbL)
  have new4 : ∀ b ∈ [pm, dt, lb, lm], After h7 b := fun b hb => a8 b (by
    simp only [List.mem_cons, List.not_mem_nil, or_false] at hb ⊢
    rcases hb with z | z | z | z <;> simp [z])
  have nqb : q ≠ lb' := Ne.symm (lbn.ne hq0)
  obtain ⟨m11, X⟩ : ∃ m11, LawSt prog w base a h11 m11 1 0 0 xs' lb' q := by
    rw [ha]
    exact ⟨_, ⟨F11, rfl, rfl, rfl, rfl, ⟨_, rfl⟩, ⟨_, rfl⟩, (ext_comp e79 e10 new4).trans e11, by
      show ParAt prog w g7 h11 p dp pm t dt lb' lm xs' ((rws pcs 1).drop 0) (WW pcs 1)
      rw [rw1, ww1, List.drop_zero]
      exact parB.keepB e11 inB, lbn, by
      show IsInts h11 q (fl pcs 1)
      rw [fl1]
      exact hqi10.keep e11 (by simpa using hqL.1), ⟨nq3, nqb, nq2⟩, hqL.2, Nat.le_refl _, hp1, Nat.zero_le _⟩⟩
  obtain rfl : a.L = L := by rw [ha]
  refine wpAny_mono (lOuter (a := a) (fa := fa) (cd := cd) S C (by omega) hh hU X) (fun f s' hf => ?_) (fun _ _ e => e)
  obtain ⟨⟨rfl, h12, tk12, G12, m12, k12, lb12, fd12, rfl, g12, X12⟩⟩ := hf
  dsimp only
  refine ex_ret _ (lRet (a := a) (fa := fa) (cd := cd) S C (by omega) hh X12) ?_
  rintro _ ⟨h13, tk13, G13, rfl, g13, k13⟩
  exact hQ _ _ _ k13 ((g10.trans g12).trans g13)
end PartQP
theorem restQQ {M : Model} {A : Around} {s : Shared} {E : Value → Shared → Prop} {env : Env} {Q : Flow → Shared → Prop} (h : Q .next s) : wpAny M A (execs [] env) Q E s := by
  w_top off
  walk1
  w_top off
  exact h
section PartQQ
local macro_rules | `(tactic| k_steps) => `(tactic| repeat' (first | ((with_reducible show wpAny _ _ (call (Value.ref _) _ _) _ _ _); walk_at "mi_pc") | ((fail_if_success (with_reducible show wpAny _ _ (call (Value.ref _) _ _) _ _ _)); (fail_if_success (with_reducible show wpAny _ _ (exec (Stmt.Raise _ _ _) _) _ _ _)); first | (k_unfold; (try dsimp only)) | (k_end; wrow_close) | walk1 | (dsimp only; walk1) | (leave1; walk_say "STEP leave1"; (try dsimp only)) | fail "no step")))
local macro_rules | `(tactic| k_ne) => `(tactic| first | assumption | exact Ne.symm (by assumption))
local macro_rules | `(tactic| walk_at "call builtin:len") => `(tactic| (k_here; (with_reducible show wpAny _ _ (call (Value.builtin "len") [Value.ref _]) _ _ _); refine PyProof.Rows.len_list (News.isList (by k_asm) (by k_mem)) (by (try simp only [Array.size_push, List.size_toArray]); omega) ?_))
local macro_rules | `(tactic| walk_at "mi_ro") => `(tactic| repeat' (first | exact ro_nil | refine ro_keep (by k_mem) ?_ | refine ro_mut (by simp) ?_))
local macro_rules | `(tactic| walk_at "mi_depth") => `(tactic| ((try simp only [PySem.Around.deeper, PySem.Around.in1_depth]); omega))
local macro_rules | `(tactic| walk_at "mi_pure") => `(tactic| exact hQ _ _ (ext_of [] hgk hsz (fo_nil (base := base)) (by assumption) (by assumption) ro_nil))
local macro_rules | `(tactic| walk_at "mi_steps") => `(tactic| repeat' ((fail_if_success (with_reducible show wpAny _ _ (exec (Stmt.For _ _ _ _ _) _) _ _ _)); first | ((with_reducible show wpAny _ _ (call (Value.ref _) _ _) _ _ _); walk_at "mi_pc") | ((fail_if_success (with_reducible show wpAny _ _ (call (Value.ref _) _ _) _ _ _)); (fail_if_success (with_reducible show wpAny _ _ (exec (Stmt.Raise _ _ _) _) _ _ _)); first | (k_unfold; (try dsimp only)) | (k_end; kc_close) | walk1 | (dsimp only; walk1) | (leave1; walk_say "STEP leave1"; (try dsimp only)) | fail "no step")))
local macro_rules | `(tactic| walk_at "subscriptTail") => `(tactic| (k_here; (with_reducible show wpAny _ _ (subscriptTail _ _ (Value.ref _) (Value.str _ _)) _ _ _); k_dflt (refine' topItem_K ?F ?X ?l ?k ?e ?_; (case F => k_asm); (case X => k_asm); (case l => first | assumption | k_is); (case k => first | assumption | k_keys); (case e => first | assumption | k_is))))
local macro_rules | `(tactic| walk_at "mi_stepsC") => `(tactic| repeat' ((fail_if_success (with_reducible show wpAny _ _ (exec (Stmt.For _ _ _ _ _) _) _ _ _)); (fail_if_success (with_reducible show wpAny _ _ (exec (Stmt.Assign [_] (Expr.ListComp _ _ _ _) _) _) _ _ _)); (fail_if_success (with_reducible show wpAny _ _ (call (Value.type "zip") _) _ _ _)); (fail_if_success (with_reducible show wpAny _ _ (exec (Stmt.Assign [_] (Expr.DictComp _ _ _ _ _) _) _) _ _ _)); first | ((with_reducible show wpAny _ _ (call (Value.ref _) _ _) _ _ _); walk_at "mi_pc") | ((fail_if_success (with_reducible show wpAny _ _ (call (Value.ref _) _ _) _ _ _)); (fail_if_success (with_reducible show wpAny _ _ (exec (Stmt.Raise _ _ _) _) _ _ _)); first | (k_unfold; (try dsimp only)) | (k_end; kc_close) | walk1 | (dsimp only; walk1) | (leave1; walk_say "STEP leave1"; (try dsimp only)) | fail "no step")))
local macro_rules | `(tactic| walk_at "mi_stepsO") => `(tactic| repeat' ((fail_if_success (with_reducible show wpAny _ _ (exec (Stmt.For _ _ _ _ _) _) _ _ _)); (fail_if_success (with_reducible show wpAny _ _ (exec (Stmt.Assign [_] (Expr.ListComp _ _ _ _) _) _) _ _ _)); (fail_if_success (with_reducible show wpAny _ _ (call (Value.type "zip") _) _ _ _)); (fail_if_success (with_reducible show wpAny _ _ (exec (Stmt.Assign [_] (Expr.DictComp _ _ _ _ _) _) _) _ _ _)); first | ((with_reducible show wpAny _ _ (call (Value.ref _) _ _) _ _ _); walk_at "mi_pc") | ((fail_if_success (with_reducible show wpAny _ _ (call (Value.ref _) _ _) _ _ _)); (fail_if_success (with_reducible show wpAny _ _ (exec (Stmt.Raise _ _ _) _) _ _ _)); first | ((with_reducible show wpAny _ _ (execs _ _) _ _ _); exfalso; omega) | (k_unfold; (try dsimp only)) | (k_end; kc_close) | walk1 | (dsimp only; walk1) | (leave1; walk_say "STEP leave1"; (try dsimp only)) | fail "no step")))
theorem lWhole {L fa P : Addr} {cd : Value} {m : Str → Option Value} {pcs : List (List Int)} {vp : Array Value} {np : Nat} {Q : Flow → Shared → Prop}
    (S : Bas w mean mg mb base) (hLb : L = base.objs.size) (hA : A.depth + 140 < recursionLimit) (hh : A.handled = none) (hU : A.units + 64 < cLine)
    (F : Fr base L s.heap m) (mP : m (Str.ofString "pieces") = some (.ref P)) (hP : s.heap.get? P = some (listOf vp np)) (rP : RowsAt s.heap vp.toList pcs) (pc : Pcs pcs) (h0 : ∃ x, pcs[0]? = some [144, x, 9])
    (bP : base.get? P = none) (rPL : ∀ b, Value.ref b ∈ vp.toList → b ≠ L ∧ base.get? b = none)
    (hQ : ∀ h' tk G, base.StaysIn h' → GExt s.gens G → Q (.ret (.bool true)) {s with heap := h', toks := tk, gens := G}) :
    wpAny (model prog w) A (execs (lawBody.drop 1) (lawEnv L fa cd)) Q E s := by
  show wpAny _ _ (execs (_ :: _ :: _ :: _ :: _ :: _ :: _ :: _ :: _ :: _ :: []) (envOfC _ (Scope.mk _ _ _ _ _) _ _ _)) _ _ _
  have KX := S.X
  have KT := S.T
  have hs0 : base.StaysIn s.heap := fun b o e => F.keep b o e
  have F1 : Fr base L s.heap (fun y => if y = Str.ofString "pieces" then some (.ref P) else m y) := frMap F fun y => by
    by_cases h1 : y = Str.ofString "pieces"
    · rw [if_pos h1, h1]; exact mP
    rw [if_neg h1]
  have nPL : P ≠ L := frNe F hP (fun _ _ z => by cases z)
  have hvp : vp.size = pcs.length := by have := rP.length; rwa [Array.length_toList] at this
  have hp9 := pc.few
  obtain ⟨rest, NR, hrest⟩ := allN F1
  have N : News base L s.heap ((P, listOf vp np) :: rest) := nwCons hP nPL bP NR
  clear F
  walk_at "mi_steps"
  rename Fr base L _ _ => F2
  rename News base L _ _ => N2
  rename Heap => h2
  have e2 := extAll hs0 F2 N2 (fun b o x y z => .tail _ (.tail _ (hrest b o x y z)))
  have hw0 := (N2 _ (.head _)).1
  have bw0 := N2.fresh (.head _)
  have hP2 := e2.keep (by simpa using nPL) hP
  have rP2 := rP.keep e2 (fun b hb => by simpa using (rPL b hb).1)
  have N3 : News base L h2 [(P, listOf vp np)] := nwCons hP2 nPL bP nwNil
  clear N2
  refine wpAny_For ?_
  k_steps
  refine wpAny_pyIter_list (items := vp) ⟨_, hP2, rfl, _, rfl⟩ ?_
  dsimp only
  generalize hI : h2.objs.size = I
  have aI : After h2 I := hI ▸ after_size h2
  have PI : P ≠ I := Ne.symm (aI.ne hP2)
  have LI : L ≠ I := by
    obtain ⟨o, _, _, e, _⟩ := F2.ns
    exact Ne.symm (aI.ne e)
  have bI : base.get? I = none := gone F2 aI
  have eI : Ext [L, I] h2 (h2.push { cls := .type "list_iterator", data := .fields #[.ref P, .int 0 0] }) := (ext_push _ _).nil
  have hit : (h2.push { cls := .type "list_iterator", data := .fields #[.ref P, .int 0 0] }).IsListIter I P 0 := ⟨_, hI ▸ Heap.get?_push_size _ rfl, rfl, rfl⟩
  have F4 := frExt F2 (ext_push h2 { cls := .type "list_iterator", data := .fields #[.ref P, .int 0 0] }) (fun h => nomatch h) (fun _ h => nomatch h)
  obtain ⟨J, hJ⟩ : ∃ J : Nat → Shared → Prop, ∀ i s', J i s' ↔ (∃ h' tk m' wq, s' = {s with heap := h', toks := tk} ∧ Fr base L h' m' ∧ m' (Str.ofString "pieces") = some (.ref P) ∧ m' (Str.ofString "whole") = some (.ref wq) ∧ Ext [L, I] h2 h' ∧ IsInts h' wq (fl pcs i) ∧ base.get? wq = none ∧ h'.IsListIter I P i) := ⟨_, fun _ _ => Iff.rfl⟩
  refine loopL (vs := vp) (l := P) J hh ?_ ?_ ?_ ((hJ _ _).mpr ⟨_, _, _, _, rfl, F4, rfl, rfl, eI, ⟨_, _, Heap.get?_push_of_some _ hw0, .nil⟩, bw0, hit⟩)
  · intro i s' hj
    obtain ⟨h', tk, m', wq, rfl, F5, _, _, e5, _, _, it5⟩ := (hJ _ _).mp hj
    exact ⟨it5, ⟨_, e5.keep (by simp [nPL, PI]) hP2, rfl, _, rfl⟩⟩
  · intro i v s' h' hx hj it2 e6
    obtain ⟨h5, tk, m', wq, rfl, F5, q1, q2, e5, w5, bw5, it5⟩ := (hJ _ _).mp hj
    clear hj
    have hip : i < pcs.length := by rw [← hvp]; exact (Array.getElem?_eq_some_iff.mp hx).1
    have hpi : pcs[i]? = some pcs[i] := by simp [hip]
    obtain ⟨q, hq, hqi⟩ := rP2.get hpi
    obtain rfl : v = .ref q := by
      have : vp.toList[i]? = some v := by simpa using hx
      rw [hq] at this; exact (Option.some.inj this).symm
    have hqL := rPL q (List.mem_of_getElem? hq)
    have F6 := frExt F5 e6 (by simpa using LI) (by simpa using bI)
    have w6 := w5.keep e6 (by simpa using w5.neIter it5)
    refine stC F6 (fun h7 F7 e7 => ?_) rfl rfl rfl
    have F8 : Fr base L h7 (fun y => if y = Str.ofString "piece" then some (.ref q) else if y = Str.ofString "pieces" then some (.ref P) else if y = Str.ofString "whole" then some (.ref wq) else m' y) := frMap F7 fun y => by
      by_cases h1 : y = Str.ofString "piece"
      · rw [if_pos h1, if_pos h1]
      rw [if_neg h1, if_neg h1]
      by_cases h2 : y = Str.ofString "pieces"
      · rw [if_pos h2, h2]; exact q1
      rw [if_neg h2]
      by_cases h3 : y = Str.ofString "whole"
      · rw [if_pos h3, h3]; exact q2
      rw [if_neg h3]
    have e57 : Ext [L, I] h5 h7 := (e6.mono (m' := [L, I]) (fun b hb => .inl (by rw [List.mem_singleton.mp hb]; simp))).trans (e7.mono (m' := [L, I]) (fun b hb => .inl (by rw [List.mem_singleton.mp hb]; simp)))
    have e27 := e5.trans e57
    have w7 := w6.keep e7 (by simpa using w6.neFr F6)
    have hq7 := hqi.keep e27 (by
      have : q ≠ I := by
        obtain ⟨_, _, z, _⟩ := id hqi
        exact Ne.symm (aI.ne z)
      simp [hqL.1, this])
    have it7 : h7.IsListIter I P (i + 1) := by
      obtain ⟨o, z, r⟩ := it2
      exact ⟨o, e7.keep (by simpa using Ne.symm LI) z, r⟩
    have N8 : News base L h7 [] := nwNil
    have hl27 := fl_len27 pc (Nat.le_of_lt hip)
    have hl3 := pc.short pcs[i] (List.getElem_mem _)
    clear F5 F6 F7 N3 F4 F2
    k_steps
    refine add_at w7 hq7 (by omega) fun h9 l9 e9 a9 i9 => ?_
    have F9 := frExt F8 e9 (fun h => nomatch h) (fun _ h => nomatch h)
    have hs9 : base.StaysIn h9 := fun b o e => F9.keep b o e
    obtain ⟨rest9, N9, hrest9⟩ := allN F9
    have b9 := gone F8 a9
    have l9L : l9 ≠ L := i9.neFr F9
    clear F8 N8
    k_steps
    rename Fr base L _ _ => F10
    rename News base L _ _ => N10
    have e10 := extAll hs9 F10 N10 hrest9
    show J (i + 1) _
    rw [← fl_succ hpi] at i9
    refine (hJ _ _).mpr ⟨_, _, _, l9, rfl, F10, rfl, rfl, (e27.trans e9.nil).trans (e10.mono (m' := [L, I]) (fun b hb => .inl (by rw [List.mem_singleton.mp hb]; simp))), i9.keep e10 (by simpa using l9L), b9, ?_⟩
    obtain ⟨o, z, r⟩ := it7
    exact ⟨o, e10.keep (by simpa using Ne.symm LI) (e9.none z), r⟩
  · intro s' h' hj e6
    obtain ⟨h5, tk, m', wq, rfl, F5, q1, q2, e5, w5, bw5, it5⟩ := (hJ _ _).mp hj
    clear hj
    have F6 := frExt F5 e6 (by simpa using LI) (by simpa using bI)
    have w6 := w5.keep e6 (by simpa using w5.neIter it5)
    rw [hvp, fl_all] at w6
    have e26 : Ext [L, I] h2 h' := e5.trans (e6.mono (m' := [L, I]) (fun b hb => .inl (by rw [List.mem_singleton.mp hb]; simp)))
    have nI : ∀ b, Value.ref b ∈ vp.toList → b ≠ I := fun b hb => by
      obtain ⟨o, z⟩ := rP2.old b hb
      exact Ne.symm (aI.ne z)
    dsimp only
    exact lTail (s := {s with heap := h', toks := tk}) S hLb hA hh hU F6 q1 q2 (e26.keep (by simp [nPL, PI]) hP2) (rP2.keep e26 (fun b hb => by simp [(rPL b hb).1, nI b hb])) pc h0 bP rPL w6 bw5 hQ
end PartQQ
theorem restQR {M : Model} {A : Around} {s : Shared} {E : Value → Shared → Prop} {env : Env} {Q : Flow → Shared → Prop} (h : Q .next s) : wpAny M A (execs [] env) Q E s := by
  w_top off
  walk1
  w_top off
  exact h
section PartQR
local macro_rules | `(tactic| k_steps) => `(tactic| repeat' (first | ((with_reducible show wpAny _ _ (call (Value.ref _) _ _) _ _ _); walk_at "mi_pc") | ((fail_if_success (with_reducible show wpAny _ _ (call (Value.ref _) _ _) _ _ _)); (fail_if_success (with_reducible show wpAny _ _ (exec (Stmt.Raise _ _ _) _) _ _ _)); first | (k_unfold; (try dsimp only)) | (k_end; wrow_close) | walk1 | (dsimp only; walk1) | (leave1; walk_say "STEP leave1"; (try dsimp only)) | fail "no step")))
local macro_rules | `(tactic| k_ne) => `(tactic| first | assumption | exact Ne.symm (by assumption))
local macro_rules | `(tactic| walk_at "call builtin:len") => `(tactic| (k_here; (with_reducible show wpAny _ _ (call (Value.builtin "len") [Value.ref _]) _ _ _); refine PyProof.Rows.len_list (News.isList (by k_asm) (by k_mem)) (by (try simp only [Array.size_push, List.size_toArray]); omega) ?_))
local macro_rules | `(tactic| walk_at "mi_ro") => `(tactic| repeat' (first | exact ro_nil | refine ro_keep (by k_mem) ?_ | refine ro_mut (by simp) ?_))
local macro_rules | `(tactic| walk_at "mi_depth") => `(tactic| ((try simp only [PySem.Around.deeper, PySem.Around.in1_depth]); omega))
local macro_rules | `(tactic| walk_at "mi_pure") => `(tactic| exact hQ _ _ (ext_of [] hgk hsz (fo_nil (base := base)) (by assumption) (by assumption) ro_nil))
local macro_rules | `(tactic| walk_at "mi_steps") => `(tactic| repeat' ((fail_if_success (with_reducible show wpAny _ _ (exec (Stmt.For _ _ _ _ _) _) _ _ _)); first | ((with_reducible show wpAny _ _ (call (Value.ref _) _ _) _ _ _); walk_at "mi_pc") | ((fail_if_success (with_reducible show wpAny _ _ (call (Value.ref _) _ _) _ _ _)); (fail_if_success (with_reducible show wpAny _ _ (exec (Stmt.Raise _ _ _) _) _ _ _)); first | (k_unfold; (try dsimp only)) | (k_end; kc_close) | walk1 | (dsimp only; walk1) | (leave1; walk_say "STEP leave1"; (try dsimp only)) | fail "no step")))
local macro_rules | `(tactic| walk_at "subscriptTail") => `(tactic| (k_here; (with_reducible show wpAny _ _ (subscriptTail _ _ (Value.ref _) (Value.str _ _)) _ _ _); k_dflt (refine' topItem_K ?F ?X ?l ?k ?e ?_; (case F => k_asm); (case X => k_asm); (case l => first | assumption | k_is); (case k => first | assumption | k_keys); (case e => first | assumption | k_is))))
local macro_rules | `(tactic| walk_at "mi_stepsC") => `(tactic| repeat' ((fail_if_success (with_reducible show wpAny _ _ (exec (Stmt.For _ _ _ _ _) _) _ _ _)); (fail_if_success (with_reducible show wpAny _ _ (exec (Stmt.Assign [_] (Expr.ListComp _ _ _ _) _) _) _ _ _)); (fail_if_success (with_reducible show wpAny _ _ (call (Value.type "zip") _) _ _ _)); (fail_if_success (with_reducible show wpAny _ _ (exec (Stmt.Assign [_] (Expr.DictComp _ _ _ _ _) _) _) _ _ _)); first | ((with_reducible show wpAny _ _ (call (Value.ref _) _ _) _ _ _); walk_at "mi_pc") | ((fail_if_success (with_reducible show wpAny _ _ (call (Value.ref _) _ _) _ _ _)); (fail_if_success (with_reducible show wpAny _ _ (exec (Stmt.Raise _ _ _) _) _ _ _)); first | (k_unfold; (try dsimp only)) | (k_end; kc_close) | walk1 | (dsimp only; walk1) | (leave1; walk_say "STEP leave1"; (try dsimp only)) | fail "no step")))
local macro_rules | `(tactic| walk_at "mi_stepsO") => `(tactic| repeat' ((fail_if_success (with_reducible show wpAny _ _ (exec (Stmt.For _ _ _ _ _) _) _ _ _)); (fail_if_success (with_reducible show wpAny _ _ (exec (Stmt.Assign [_] (Expr.ListComp _ _ _ _) _) _) _ _ _)); (fail_if_success (with_reducible show wpAny _ _ (call (Value.type "zip") _) _ _ _)); (fail_if_success (with_reducible show wpAny _ _ (exec (Stmt.Assign [_] (Expr.DictComp _ _ _ _ _) _) _) _ _ _)); first | ((with_reducible show wpAny _ _ (call (Value.ref _) _ _) _ _ _); walk_at "mi_pc") | ((fail_if_success (with_reducible show wpAny _ _ (call (Value.ref _) _ _) _ _ _)); (fail_if_success (with_reducible show wpAny _ _ (exec (Stmt.Raise _ _ _) _) _ _ _)); first | ((with_reducible show wpAny _ _ (execs _ _) _ _ _); exfalso; omega) | (k_unfold; (try dsimp only)) | (k_end; kc_close) | walk1 | (dsimp only; walk1) | (leave1; walk_say "STEP leave1"; (try dsimp only)) | fail "no step")))
theorem c_atB (sc : Addr) (ss : List Int) (vs : List Value) (k : Int) (tk0 : Tok) (S : Bas w mean mg mb base) (hs : base.StaysIn s.heap) (hA : A.depth + 2 < recursionLimit) (hl : base.IsList sc vs.toArray) (hv : IntsAre vs ss) (hk : 0 ≤ k ∧ k ≤ 100) (hlen : ss.length ≤ 63)
   (hQ : ∀ h' tk v tt, Ext [] s.heap h' → 0 ≤ v → v < 1000000007 → Q (.int v tt) {s with heap := h', toks := tk}) :
   wpAny (model prog w) A (call (.ref 606) [.ref sc, .int k tk0]) Q E s := by
  have hz := hv.length
  refine enterM (binds := [(Str.ofString "script", .ref sc), (Str.ofString "k", .int k tk0)]) [] S hs fo_nil (by k_is) (by k_is) (by omega) (.of_eq rfl) (locs rfl) ?_
  intro g L' h₁ hg F N X TT hgk hsz hL hgs
  have hl2 : g.IsList sc vs.toArray := by obtain ⟨o, e, r⟩ := hl; exact ⟨o, hg _ _ e, r⟩
  clear hl
  k_steps
  · exact hQ _ _ _ _ (ext_of [] hgk hsz (fo_nil (base := base)) F N ro_nil) (Int.fmod_nonneg_of_pos _ (by decide)) (Int.fmod_lt_of_pos _ (by decide))
  · exact hQ _ _ _ _ (ext_of [] hgk hsz (fo_nil (base := base)) F N ro_nil) (by omega) (by omega)
end PartQR
theorem restQS {M : Model} {A : Around} {s : Shared} {E : Value → Shared → Prop} {env : Env} {Q : Flow → Shared → Prop} (h : Q .next s) : wpAny M A (execs [] env) Q E s := by
  w_top off
  walk1
  w_top off
  exact h
section PartQS
local macro_rules | `(tactic| k_steps) => `(tactic| repeat' (first | ((with_reducible show wpAny _ _ (call (Value.ref _) _ _) _ _ _); walk_at "mi_pc") | ((fail_if_success (with_reducible show wpAny _ _ (call (Value.ref _) _ _) _ _ _)); (fail_if_success (with_reducible show wpAny _ _ (exec (Stmt.Raise _ _ _) _) _ _ _)); first | (k_unfold; (try dsimp only)) | (k_end; wrow_close) | walk1 | (dsimp only; walk1) | (leave1; walk_say "STEP leave1"; (try dsimp only)) | fail "no step")))
local macro_rules | `(tactic| k_ne) => `(tactic| first | assumption | exact Ne.symm (by assumption))
local macro_rules | `(tactic| walk_at "call builtin:len") => `(tactic| (k_here; (with_reducible show wpAny _ _ (call (Value.builtin "len") [Value.ref _]) _ _ _); refine PyProof.Rows.len_list (News.isList (by k_asm) (by k_mem)) (by (try simp only [Array.size_push, List.size_toArray]); omega) ?_))
local macro_rules | `(tactic| walk_at "mi_ro") => `(tactic| repeat' (first | exact ro_nil | refine ro_keep (by k_mem) ?_ | refine ro_mut (by simp) ?_))
local macro_rules | `(tactic| walk_at "mi_depth") => `(tactic| ((try simp only [PySem.Around.deeper, PySem.Around.in1_depth]); omega))
local macro_rules | `(tactic| walk_at "mi_pure") => `(tactic| exact hQ _ _ (ext_of [] hgk hsz (fo_nil (base := base)) (by assumption) (by assumption) ro_nil))
local macro_rules | `(tactic| walk_at "mi_steps") => `(tactic| repeat' ((fail_if_success (with_reducible show wpAny _ _ (exec (Stmt.For _ _ _ _ _) _) _ _ _)); first | ((with_reducible show wpAny _ _ (call (Value.ref _) _ _) _ _ _); walk_at "mi_pc") | ((fail_if_success (with_reducible show wpAny _ _ (call (Value.ref _) _ _) _ _ _)); (fail_if_success (with_reducible show wpAny _ _ (exec (Stmt.Raise _ _ _) _) _ _ _)); first | (k_unfold; (try dsimp only)) | (k_end; kc_close) | walk1 | (dsimp only; walk1) | (leave1; walk_say "STEP leave1"; (try dsimp only)) | fail "no step")))
local macro_rules | `(tactic| walk_at "subscriptTail") => `(tactic| (k_here; (with_reducible show wpAny _ _ (subscriptTail _ _ (Value.ref _) (Value.str _ _)) _ _ _); k_dflt (refine' topItem_K ?F ?X ?l ?k ?e ?_; (case F => k_asm); (case X => k_asm); (case l => first | assumption | k_is); (case k => first | assumption | k_keys); (case e => first | assumption | k_is))))
local macro_rules | `(tactic| walk_at "mi_stepsC") => `(tactic| repeat' ((fail_if_success (with_reducible show wpAny _ _ (exec (Stmt.For _ _ _ _ _) _) _ _ _)); (fail_if_success (with_reducible show wpAny _ _ (exec (Stmt.Assign [_] (Expr.ListComp _ _ _ _) _) _) _ _ _)); (fail_if_success (with_reducible show wpAny _ _ (call (Value.type "zip") _) _ _ _)); (fail_if_success (with_reducible show wpAny _ _ (exec (Stmt.Assign [_] (Expr.DictComp _ _ _ _ _) _) _) _ _ _)); first | ((with_reducible show wpAny _ _ (call (Value.ref _) _ _) _ _ _); walk_at "mi_pc") | ((fail_if_success (with_reducible show wpAny _ _ (call (Value.ref _) _ _) _ _ _)); (fail_if_success (with_reducible show wpAny _ _ (exec (Stmt.Raise _ _ _) _) _ _ _)); first | (k_unfold; (try dsimp only)) | (k_end; kc_close) | walk1 | (dsimp only; walk1) | (leave1; walk_say "STEP leave1"; (try dsimp only)) | fail "no step")))
local macro_rules | `(tactic| walk_at "mi_stepsO") => `(tactic| repeat' ((fail_if_success (with_reducible show wpAny _ _ (exec (Stmt.For _ _ _ _ _) _) _ _ _)); (fail_if_success (with_reducible show wpAny _ _ (exec (Stmt.Assign [_] (Expr.ListComp _ _ _ _) _) _) _ _ _)); (fail_if_success (with_reducible show wpAny _ _ (call (Value.type "zip") _) _ _ _)); (fail_if_success (with_reducible show wpAny _ _ (exec (Stmt.Assign [_] (Expr.DictComp _ _ _ _ _) _) _) _ _ _)); first | ((with_reducible show wpAny _ _ (call (Value.ref _) _ _) _ _ _); walk_at "mi_pc") | ((fail_if_success (with_reducible show wpAny _ _ (call (Value.ref _) _ _) _ _ _)); (fail_if_success (with_reducible show wpAny _ _ (exec (Stmt.Raise _ _ _) _) _ _ _)); first | ((with_reducible show wpAny _ _ (execs _ _) _ _ _); exfalso; omega) | (k_unfold; (try dsimp only)) | (k_end; kc_close) | walk1 | (dsimp only; walk1) | (leave1; walk_say "STEP leave1"; (try dsimp only)) | fail "no step")))
theorem RowsIn.app {l1 : List (Addr × Obj)} {vs : List Value} {rs : List (List Int)} {a : Addr} {vb : Array Value} {nb : Nat} {r : List Int} (x : RowsIn l1 vs rs) (i : IntsAre vb.toList r) : RowsIn ((a, listOf vb nb) :: l1) (vs ++ [.ref a]) (rs ++ [r]) := x.snoc i
section
variable {L : Addr} {m : Str → Option Value} {env : Env} {elt : Expr} {x : Str} {scope : Scope} {cl : List (Str × Addr)} {Fin : List Value → List (Addr × Obj) → Prop}
theorem comp_rows {n : Nat} {news0 : List (Addr × Obj)} {a0 : Int}
    (turn : ∀ (i : Nat) t I oI C oC D m₂ ys news h tk (E' : Value → Shared → Prop), i < n → LCg.NsObj oC m₂ → m₂ x = some (.int (a0 + (i : Int)) t) → Fr base L h m → News base L h ((I, oI) :: (C, oC) :: (D, LCg.lst ys) :: news) → (∀ p ∈ news0, p ∈ news) →
      wpAny (model prog w) A (eval elt (compEnvC scope cl C env)) (fun y s' => Shut (∃ h' tk' l q, y = .ref l ∧ s' = {s with heap := h', toks := tk'} ∧ Ext [] h h' ∧ After h l ∧ IsInts h' l q ∧ q.length ≤ 3 ∧ ∀ o ∈ q, GoodO o)) E' {s with heap := h, toks := tk})
    (fin : ∀ ys extra rs, RowsIn extra ys rs → rs.length = n → (∀ q ∈ rs, q.length ≤ 3 ∧ ∀ o ∈ q, GoodO o) → Fin ys (extra ++ news0)) :
    LCg.CompRest prog w A base L m env elt x scope cl s (fun _ => True) (fun i v => ∃ t, v = .int (a0 + (i : Int)) t) Fin n 0 [] news0 := by
  have key : ∀ (j i : Nat) (ys : List Value) (extra : List (Addr × Obj)) (rs : List (List Int)), i + j = n → RowsIn extra ys rs → rs.length = i → (∀ q ∈ rs, q.length ≤ 3 ∧ ∀ o ∈ q, GoodO o) →
      LCg.CompRest prog w A base L m env elt x scope cl s (fun _ => True) (fun i v => ∃ t, v = .int (a0 + (i : Int)) t) Fin j i ys (extra ++ news0) := by
    intro j
    induction j with
    | zero =>
      intro i ys extra rs hi hR hl hg
      exact LCg.CompRest.zero (fin ys extra rs hR (by omega) hg)
    | succ j ih =>
      intro i ys extra rs hi hR hl hg
      refine LCg.CompRest.succ ?_
      intro v I oI C oC D m₂ h tk E' hv hC hx F N off ne
      obtain ⟨t, rfl⟩ := hv
      refine wpAny_mono (turn i t I oI C oC D m₂ ys (extra ++ news0) h tk E' (by omega) hC hx F N (fun p hp => List.mem_append_right _ hp)) (fun y s' hs => ?_) fun _ _ e => e
      obtain ⟨⟨h', tk', l, q, rfl, rfl, e, al, ⟨vb, nb, lq, iq⟩, q3, qg⟩⟩ := hs
      have lI := al.ne (N _ (.head _)).1
      have lC := al.ne (N _ (.tail _ (.head _))).1
      have lD := al.ne (N _ (.tail _ (.tail _ (.head _)))).1
      have N' := nwExt N e (fun _ _ h => nomatch h)
      refine ⟨h', tk', (l, listOf vb nb) :: (extra ++ news0), rfl, frExt F e (fun h => nomatch h) (fun _ h => nomatch h), ?_, ⟨⟨lI, lC, lD⟩, off⟩, trivial, ?_⟩
      · exact allCons (N' _ (.head _)) (allCons (N' _ (.tail _ (.head _))) (allCons (N' _ (.tail _ (.tail _ (.head _)))) (allCons ⟨lq, goneL F al, gone F al⟩ fun p hp => N' p (.tail _ (.tail _ (.tail _ hp))))))
      · refine ih (i + 1) (ys ++ [.ref l]) ((l, listOf vb nb) :: extra) (rs ++ [q]) (by omega) (hR.app iq) (by rw [List.length_append, List.length_singleton, hl]) fun r hr => ?_
        rcases List.mem_append.mp hr with hr | hr
        · exact hg r hr
        · rw [List.mem_singleton.mp hr]; exact ⟨q3, qg⟩
  exact key n 0 [] [] [] (by omega) .nil rfl (fun _ h => nomatch h)
end
theorem allConsI {P : Int → Prop} {q : Int} {l : List Int} (h : P q) (r : ∀ p ∈ l, P p) : ∀ p ∈ q :: l, P p := List.forall_mem_cons.mpr ⟨h, r⟩
theorem lPieces {L fa sc : Addr} {cd : Value} {m : Str → Option Value} {ss : List Int} {vs : List Value} {ocl : Obj}
    (S : Bas w mean mg mb base) (hLb : L = base.objs.size) (hA : A.depth + 140 < recursionLimit) (hh : A.handled = none)
    (F : Fr base L s.heap m) (N : News base L s.heap [(L + 1, ocl)]) (hocl : ocl.data = .cell (some (.ref sc))) (hl : base.IsList sc vs.toArray) (hv : IntsAre vs ss) (hlen : ss.length ≤ 63) :
    wpAny (model prog w) A (exec (nth lawBody 0) (lawEnv L fa cd)) (fun f s' => Shut (f = .next ∧ ∃ h' tk m' P vp np pcs, s' = {s with heap := h', toks := tk} ∧ Fr base L h' m' ∧ m' (Str.ofString "pieces") = some (.ref P) ∧ h'.get? P = some (listOf vp np) ∧ RowsAt h' vp.toList pcs ∧
      Pcs pcs ∧ (∃ x, pcs[0]? = some [144, x, 9]) ∧ base.get? P = none ∧ (∀ b, Value.ref b ∈ vp.toList → b ≠ L ∧ base.get? b = none))) E s := by
  show wpAny _ _ (exec (Stmt.Assign _ _ _) (envOfC _ (Scope.mk _ _ _ _ _) _ _ _)) _ _ _
  have KX := S.X
  have KT := S.T
  have hs0 : base.StaysIn s.heap := fun b o e => F.keep b o e
  k_steps
  refine c_atB sc ss vs 1 _ S hs0 (by walk_at "mi_depth") hl hv (by omega) hlen fun h2 tk2 v2 t2 e2 p2 p2' => ?_
  have F2 := frExt F e2 (fun h => nomatch h) (fun _ h => nomatch h)
  have N2 := nwExt N e2 (fun _ _ h => nomatch h)
  have hs2 : base.StaysIn h2 := fun b o e => F2.keep b o e
  clear F N
  k_steps
  rename Fr base L _ _ => F3
  rename News base L _ _ => N3
  rename_i l1 hx1 lt1 l2 hx2 lt2
  refine LCg.ListComp_U (F₀ := F3) (by with_unfolding_all rfl) (by decide) (by rfl) (by decide) (by rfl) ?_
  k_steps
  refine c_atB sc ss vs 0 _ S (fun b o e => F3.keep b o e) (by walk_at "mi_depth") hl hv (by omega) hlen fun h5 tk5 v5 t5 e5 p5 p5' => ?_
  have F5 := frExt F3 e5 (fun h => nomatch h) (fun _ h => nomatch h)
  have N5 := nwExt N3 e5 (fun _ _ h => nomatch h)
  have r0 := Int.fmod_nonneg_of_pos v5 (b := 7) (by decide)
  have r6 := Int.fmod_lt_of_pos v5 (b := 7) (by decide)
  clear F3 N3
  k_steps
  rename IsRange _ _ _ _ _ _ _ _ => rg
  rename Fr base L _ _ => F6
  rename News base L _ _ => N6
  refine LCg.CompSrc.range hh F6 N6 rg (small_one (by omega) (by omega) (by omega) (by omega)) (rangeSize_nat _ _) (by rw [PySem.sizeLine_eq]; omega) ?_
  intro g'
  refine comp_rows (a0 := 0) ?_ ?_
  · intro i t I oI C oC D m₂ ys news h tk E' hi hC hx F N hsub
    have NC : News base L h [(C, oC), (L + 1, ocl)] := allCons (N _ (.tail _ (.head _))) (allCons (N _ (.tail _ (.tail _ (.tail _ (hsub _ (by k_mem)))))) allNil)
    clear N F6 N6 rg
    k_steps
    refine c_atB sc ss vs _ _ S (fun b o e => F.keep b o e) (by walk_at "mi_depth") hl hv (by omega) hlen fun h7 tk7 v7 t7 e7 p7 p7' => ?_
    have F7 := frExt F e7 (fun h => nomatch h) (fun _ h => nomatch h)
    have N7 := nwExt NC e7 (fun _ _ h => nomatch h)
    clear F NC
    k_steps
    refine c_piece v7 _ S (fun b o e => F7.keep b o e) (by walk_at "mi_depth") ⟨p7, p7'⟩ fun h8 tk8 l q e8 a8 i8 q3 qg => ?_
    exact .mk ⟨_, _, l, q, rfl, rfl, e7.trans e8, a8.back e7 (fun h => nomatch h), i8, q3, qg⟩
  · intro ys extra rs hR hn hg
    intro D h tk FD ND o1
    have mD := ND _ (.head _)
    have m2 := ND _ (.tail _ (List.mem_append_right _ (.head _)))
    have m1 := ND _ (.tail _ (List.mem_append_right _ (.tail _ (.head _))))
    have hys := hR.length
    have rows : RowsAt h ys rs := hR.at fun p hp => (ND _ (.tail _ (List.mem_append_left _ hp))).1
    have refs : ∀ b, Value.ref b ∈ ys → b ≠ L ∧ base.get? b = none := fun b hb => by
      obtain ⟨o, ho⟩ := hR.mem hb
      exact (ND _ (.tail _ (List.mem_append_left _ ho))).2
    clear F6 N6 rg ND hR
    refine cat_at (vs := [.ref l1]) (ws := ys) (n := 0) (k := ys.length) m2.1 mD.1 (by simp only [List.length_cons, List.length_nil]; omega) ?_
    have eP := ext_push h (listOf ([Value.ref l1] ++ ys).toArray 0)
    have gP := Heap.get?_push_size h (o := listOf ([Value.ref l1] ++ ys).toArray 0) rfl
    have aP := after_size h
    have F9 := frExt FD eP (fun h => nomatch h) (fun _ h => nomatch h)
    have rows9 := rows.keep eP (fun _ _ h => nomatch h)
    have m19 := eP.none m1.1
    generalize h.push (listOf ([Value.ref l1] ++ ys).toArray 0) = h9 at eP gP F9 rows9 m19 ⊢
    have hs9 : base.StaysIn h9 := fun b o e => F9.keep b o e
    have PL := goneL FD aP
    have bP := gone FD aP
    obtain ⟨rest9, N9, hrest9⟩ := allN F9
    generalize h.objs.size = P at gP aP PL bP ⊢
    clear FD m2 mD
    k_steps
    rename Fr base L _ _ => F10
    rename News base L _ _ => N10
    have e10 := extAll hs9 F10 N10 hrest9
    have q0 := Int.fmod_nonneg_of_pos v2 (b := 128) (by decide)
    have q1 := Int.fmod_lt_of_pos v2 (b := 128) (by decide)
    have gz : ∀ o ∈ ([144, v2.fmod 128, 9] : List Int), GoodO o := allConsI (by unfold GoodO; omega) (allConsI (by unfold GoodO; omega) (allConsI (by unfold GoodO; omega) (fun _ h => nomatch h)))
    refine .mk ⟨by first | rfl | trivial, _, _, _, P, _, 0, [144, v2.fmod 128, 9] :: rs, rfl, F10, rfl, e10.keep (by simpa using PL) gP, .cons ⟨_, _, e10.keep (by simpa using m1.2.1) m19, .cons _ _ (.cons _ _ (.cons _ _ .nil))⟩ (rows9.keep e10 (fun b hb => by simpa using (refs b hb).1)), ⟨?_, ?_, ?_, ?_⟩, ⟨_, rfl⟩, bP, ?_⟩
    · intro q hq
      rcases List.mem_cons.mp hq with rfl | hq
      · exact gz
      · exact (hg q hq).2
    · intro q hq
      rcases List.mem_cons.mp hq with rfl | hq
      · simp
      · exact (hg q hq).1
    · rw [List.length_cons]; omega
    · simp
    · intro b hb
      rcases List.mem_cons.mp hb with hb | hb
      · cases hb; exact m1.2
      · exact refs b hb
end PartQS
theorem restQT {M : Model} {A : Around} {s : Shared} {E : Value → Shared → Prop} {env : Env} {Q : Flow → Shared → Prop} (h : Q .next s) : wpAny M A (execs [] env) Q E s := by
  w_top off
  walk1
  w_top off
  exact h
section PartQT
local macro_rules | `(tactic| k_steps) => `(tactic| repeat' (first | ((with_reducible show wpAny _ _ (call (Value.ref _) _ _) _ _ _); walk_at "mi_pc") | ((fail_if_success (with_reducible show wpAny _ _ (call (Value.ref _) _ _) _ _ _)); (fail_if_success (with_reducible show wpAny _ _ (exec (Stmt.Raise _ _ _) _) _ _ _)); first | (k_unfold; (try dsimp only)) | (k_end; wrow_close) | walk1 | (dsimp only; walk1) | (leave1; walk_say "STEP leave1"; (try dsimp only)) | fail "no step")))
local macro_rules | `(tactic| k_ne) => `(tactic| first | assumption | exact Ne.symm (by assumption))
local macro_rules | `(tactic| walk_at "call builtin:len") => `(tactic| (k_here; (with_reducible show wpAny _ _ (call (Value.builtin "len") [Value.ref _]) _ _ _); refine PyProof.Rows.len_list (News.isList (by k_asm) (by k_mem)) (by (try simp only [Array.size_push, List.size_toArray]); omega) ?_))
local macro_rules | `(tactic| walk_at "mi_ro") => `(tactic| repeat' (first | exact ro_nil | refine ro_keep (by k_mem) ?_ | refine ro_mut (by simp) ?_))
local macro_rules | `(tactic| walk_at "mi_depth") => `(tactic| ((try simp only [PySem.Around.deeper, PySem.Around.in1_depth]); omega))
local macro_rules | `(tactic| walk_at "mi_pure") => `(tactic| exact hQ _ _ (ext_of [] hgk hsz (fo_nil (base := base)) (by assumption) (by assumption) ro_nil))
local macro_rules | `(tactic| walk_at "mi_steps") => `(tactic| repeat' ((fail_if_success (with_reducible show wpAny _ _ (exec (Stmt.For _ _ _ _ _) _) _ _ _)); first | ((with_reducible show wpAny _ _ (call (Value.ref _) _ _) _ _ _); walk_at "mi_pc") | ((fail_if_success (with_reducible show wpAny _ _ (call (Value.ref _) _ _) _ _ _)); (fail_if_success (with_reducible show wpAny _ _ (exec (Stmt.Raise _ _ _) _) _ _ _)); first | (k_unfold; (try dsimp only)) | (k_end; kc_close) | walk1 | (dsimp only; walk1) | (leave1; walk_say "STEP leave1"; (try dsimp only)) | fail "no step")))
local macro_rules | `(tactic| walk_at "subscriptTail") => `(tactic| (k_here; (with_reducible show wpAny _ _ (subscriptTail _ _ (Value.ref _) (Value.str _ _)) _ _ _); k_dflt (refine' topItem_K ?F ?X ?l ?k ?e ?_; (case F => k_asm); (case X => k_asm); (case l => first | assumption | k_is); (case k => first | assumption | k_keys); (case e => first | assumption | k_is))))
local macro_rules | `(tactic| walk_at "mi_stepsC") => `(tactic| repeat' ((fail_if_success (with_reducible show wpAny _ _ (exec (Stmt.For _ _ _ _ _) _) _ _ _)); (fail_if_success (with_reducible show wpAny _ _ (exec (Stmt.Assign [_] (Expr.ListComp _ _ _ _) _) _) _ _ _)); (fail_if_success (with_reducible show wpAny _ _ (call (Value.type "zip") _) _ _ _)); (fail_if_success (with_reducible show wpAny _ _ (exec (Stmt.Assign [_] (Expr.DictComp _ _ _ _ _) _) _) _ _ _)); first | ((with_reducible show wpAny _ _ (call (Value.ref _) _ _) _ _ _); walk_at "mi_pc") | ((fail_if_success (with_reducible show wpAny _ _ (call (Value.ref _) _ _) _ _ _)); (fail_if_success (with_reducible show wpAny _ _ (exec (Stmt.Raise _ _ _) _) _ _ _)); first | (k_unfold; (try dsimp only)) | (k_end; kc_close) | walk1 | (dsimp only; walk1) | (leave1; walk_say "STEP leave1"; (try dsimp only)) | fail "no step")))
local macro_rules | `(tactic| walk_at "mi_stepsO") => `(tactic| repeat' ((fail_if_success (with_reducible show wpAny _ _ (exec (Stmt.For _ _ _ _ _) _) _ _ _)); (fail_if_success (with_reducible show wpAny _ _ (exec (Stmt.Assign [_] (Expr.ListComp _ _ _ _) _) _) _ _ _)); (fail_if_success (with_reducible show wpAny _ _ (call (Value.type "zip") _) _ _ _)); (fail_if_success (with_reducible show wpAny _ _ (exec (Stmt.Assign [_] (Expr.DictComp _ _ _ _ _) _) _) _ _ _)); first | ((with_reducible show wpAny _ _ (call (Value.ref _) _ _) _ _ _); walk_at "mi_pc") | ((fail_if_success (with_reducible show wpAny _ _ (call (Value.ref _) _ _) _ _ _)); (fail_if_success (with_reducible show wpAny _ _ (exec (Stmt.Raise _ _ _) _) _ _ _)); first | ((with_reducible show wpAny _ _ (execs _ _) _ _ _); exfalso; omega) | (k_unfold; (try dsimp only)) | (k_end; kc_close) | walk1 | (dsimp only; walk1) | (leave1; walk_say "STEP leave1"; (try dsimp only)) | fail "no step")))
theorem lawGo {L fa sc : Addr} {cd : Value} {m : Str → Option Value} {ss : List Int} {vs : List Value} {ocl : Obj} {Q : Flow → Shared → Prop}
    (S : Bas w mean mg mb base) (hLb : L = base.objs.size) (hA : A.depth + 140 < recursionLimit) (hh : A.handled = none) (hU : A.units + 64 < cLine)
    (F : Fr base L s.heap m) (N : News base L s.heap [(L + 1, ocl)]) (hocl : ocl.data = .cell (some (.ref sc))) (hl : base.IsList sc vs.toArray) (hv : IntsAre vs ss) (hlen : ss.length ≤ 63)
    (hQ : ∀ h' tk G, base.StaysIn h' → GExt s.gens G → Q (.ret (.bool true)) {s with heap := h', toks := tk, gens := G}) :
    wpAny (model prog w) A (execs lawBody (lawEnv L fa cd)) Q E s := by
  show wpAny _ _ (execs (_ :: _) _) _ _ _
  refine ex_step _ (lPieces (fa := fa) (cd := cd) S hLb hA hh F N hocl hl hv hlen) ?_
  rintro _ ⟨h', tk, m', P, vp, np, pcs, rfl, F', mP, hP, rP, pc, h0, bP, rPL⟩
  exact lWhole (fa := fa) (cd := cd) (s := {s with heap := h', toks := tk}) S hLb hA hh hU F' mP hP rP pc h0 bP rPL hQ
end PartQT
theorem restEnd {M : Model} {A : Around} {s : Shared} {E : Value → Shared → Prop} {env : Env} {Q : Flow → Shared → Prop} (h : Q .next s) : wpAny M A (execs [] env) Q E s := by
  w_top off
  walk1
  w_top off
  exact h
end Mi
theorem PySem.Challenge.cw_ax6006_01_holds : PySem.Challenge.rw_ax6006_01.Holds := by
  refine Mi.hd ?_
  k_fill
  intro w s₀ s₁ mg mb G Y fa o pm cd doc dV kV ho hd hcd hD hmg hg args vals as hpre hlay hrd hwl hlo
  have KX := kIn_of Y
  have X := (Ground.X G).1
  have V := (Ground.X G).2
  refine Ground.open G ?_
  intro T B D TE TW
  try (refine guard_noD D (by decide +kernel) ?_; clear D)
  obtain ⟨_, _, M⟩ := bmod_of_top T
  have TA := at_of_top T
  try (obtain ⟨_, _, he, B0⟩ := based_of_top T rfl hmg ho hd; have he' : cd = _ := he; subst he'; clear he)
  clear hmg
  wrow_args hpre hlay hrd hwl hlo
  all_goals (
    first | refine callC_kw (enter_call ?_) | refine enter_call ?_
    w_top on
    have K0 := below_caller (Top.heap T)
    w_call any ho hd hcd hD T F
    clear hd TA
    k_drop)
  rename Heap.IsList _ _ _ => hl
  rename IntsAre _ _ => hv
  rename Fr _ _ _ _ => F0
  rename News _ _ _ _ => N0
  rename _ = Data.cell _ => hocl
  rename ¬ _ < _ => hlen
  refine Mi.lawGo (base := s₁.heap) ⟨KX, T⟩ rfl (by simp only [PySem.Around.deeper, depth_caller]; decide) rfl (by simp only [units_deeper, units_caller]; decide) F0 N0 hocl hl hv (by omega) fun h' tk G9 k9 g9 => ?_
  refine ⟨.inl ⟨.bool true, .bool true, [], rfl, fun _ => rfl, .bool true, ?_, fun _ => ⟨.nil, fun _ h => nomatch h⟩⟩, .of_keep fun b o e => k9 b o e, rfl, g9.bare (.of_eq hg)⟩
  wrow_post

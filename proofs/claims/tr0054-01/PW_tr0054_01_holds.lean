import PyProof.Rows.All
import Wide.All
import OpenK.AllK
import Wide.FinOn
import PySem.Challenge.RW_tr0054_01
open PySem PySem.W PySem.Spec PySem.Calls PyProof.Rows
set_option Elab.async false
set_option maxRecDepth 100000
set_option compiler.extract_closed false
set_option maxHeartbeats 16000000
set_option linter.unusedVariables false
namespace Mine
-- lemmas for the quick rules (QUICK.in)
theorem q_u0 {u a n : Nat} (h : u + a < n) : u < n := Nat.lt_of_le_of_lt (Nat.le_add_right _ _) h
theorem q_u1 {u a b n : Nat} (h : u + a < n) (k : b ≤ a) : u + b < n := Nat.lt_of_le_of_lt (Nat.add_le_add_left k _) h
theorem q_u2 {u a b c n : Nat} (h : u + a < n) (k : b + c ≤ a) : u + b + c < n := by omega
theorem q_u3 {u a b c d n : Nat} (h : u + a < n) (k : b + c + d ≤ a) : u + b + c + d < n := by omega
theorem q_le {a k n : Nat} (h : a ≤ k) (d : k ≤ n) : a ≤ n := Nat.le_trans h d
theorem q_lt {a k n : Nat} (h : a ≤ k) (d : k < n) : a < n := Nat.lt_of_le_of_lt h d
theorem q_ltl {a k n : Nat} (h : a < k) (d : k ≤ n) : a < n := Nat.lt_of_lt_of_le h d
theorem q_lle {a k n : Nat} (h : a < k) (d : k ≤ n + 1) : a ≤ n := by omega
theorem q_add {a k c n : Nat} (h : a ≤ k) (d : k + c ≤ n) : a + c ≤ n := by omega
theorem q_mul {a k c n : Nat} (h : a ≤ k) (d : c * k ≤ n) : c * a ≤ n := Nat.le_trans (Nat.mul_le_mul_left c h) d
theorem q_ele {a b k n : Nat} (e : a = b) (h : b ≤ k) (d : k ≤ n) : a ≤ n := by omega
theorem q_elt {a b k n : Nat} (e : a = b) (h : b ≤ k) (d : k < n) : a < n := by omega
theorem q_eq_le {a k n : Nat} (e : a = k) (d : k ≤ n) : a ≤ n := by omega
theorem q_eq_lt {a k n : Nat} (e : a = k) (d : k < n) : a < n := by omega
theorem q_ilt {x k : Nat} {n : Int} (h : x < k) (d : (k : Int) ≤ n) : (x : Int) < n := by omega
theorem q_ile {x k : Nat} {n : Int} (h : x ≤ k) (d : (k : Int) < n) : (x : Int) < n := by omega
theorem q_ieq {x k : Nat} {n : Int} (e : x = k) (d : (k : Int) < n) : (x : Int) < n := by omega
theorem q_igt {x k : Nat} {n : Int} (e : x = k) (d : n < (k : Int)) : n < (x : Int) := by omega
theorem q_iee {x y k : Nat} {n : Int} (e : x = y) (h : y ≤ k) (d : (k : Int) < n) : (x : Int) < n := by omega
theorem q_ige {x : Nat} {n : Int} (d : n ≤ 0) : n ≤ (x : Int) := by omega
theorem q_neg {x : Nat} {n : Int} (d : 0 ≤ n) : -(x : Int) ≤ n := by omega
theorem q_negc {x : Nat} {n : Int} (d : -1 ≤ n) : -1 - (x : Int) < n + 1 := by omega
theorem q_ine {x k : Nat} {n : Int} (h : x ≠ k) (d : n = (k : Int)) : (x : Int) ≠ n := by omega
theorem q_ab {a b : Nat} (h : a < b) (e : a = b) : False := Nat.lt_irrefl _ (e ▸ h)
theorem q_ilti {x k n : Int} (h : x < k) (d : k ≤ n) : x < n := Int.lt_of_lt_of_le h d
theorem q_igti {x k n : Int} (h : k ≤ x) (d : n < k) : n < x := Int.lt_of_lt_of_le d h
theorem q_addlt {a k c n : Nat} (h : a ≤ k) (d : k + c < n) : a + c < n := by omega
theorem q_sl {n k j m c : Nat} (h : n ≤ m) (d : m + m ≤ c) : n - k + min j n ≤ c := by omega
theorem q_nat {n m c : Nat} (h : n ≤ m) (d : m ≤ c) : ((n : Int) - 0).toNat ≤ c := by omega
theorem q_ne0 {a : Nat} (h : 0 < a) (e : a = 0) {P : Prop} : P := by omega
theorem le8_of {a d f : Nat} (e : a + d = f) (h : f ≤ 8) : d ≤ 8 := by omega
theorem ents24 {v e d : Nat} (a : v = e) (b : v ≤ 3 * d) (c : d ≤ 8) : e ≤ 24 := by omega
theorem last_len {w d f r : Nat} (a : w + d = f) (b : r = w) (c : r = 1) : d + 1 = f := by omega
theorem sum_le {t e : Nat} (a : t = e) (b : e ≤ 24) : 2 * t + t ≤ 1000 := by omega
theorem neg_lo {i b n : Nat} (h : b + 1 + i = n) : -(n : Int) ≤ -1 - (i : Int) := by omega
theorem neg_hi (i : Nat) : -1 - (i : Int) < 0 := by omega
theorem neg_at {i b n : Nat} (h : b + 1 + i = n) : (-1 - (i : Int) + (n : Int)).toNat = b := by omega
theorem z_of {i : Nat} (h : (i : Int) = 0) : i = 0 := by omega
theorem nz_of {i : Nat} (h : (i : Int) ≠ 0) : i ≠ 0 := by omega
theorem last_of {i n : Nat} (h : (i : Int) = (n : Int) - 1) : i + 1 = n := by omega
theorem nlast_of {i n : Nat} (h : (i : Int) ≠ (n : Int) - 1) : i + 1 ≠ n := by omega
theorem list3 {α : Type} {l : List α} (h : l.length = 3) : ∃ x y z, l = [x, y, z] := by
  cases l with
  | nil => cases h
  | cons x l => cases l with
    | nil => cases h
    | cons y l => cases l with
      | nil => cases h
      | cons z l => cases l with
        | nil => exact ⟨x, y, z, rfl⟩
        | cons _ _ => simp at h
theorem lt3 {i : Nat} (h : i < 3) : i = 0 ∨ i = 1 ∨ i = 2 := by omega
theorem all8 {P : Nat → Prop} (h : ∀ i : Fin 9, P i.1) : ∀ n, n ≤ 8 → P n := fun n hn => h ⟨n, Nat.lt_succ_of_le hn⟩
theorem or_le8 {n : Nat} (h : n = 6 ∨ n = 8) : n ≤ 8 := by omega
theorem or_pos {n : Nat} (h : n = 6 ∨ n = 8) : 0 < n := by omega
theorem half_le8 {n : Nat} (h : n ≤ 8) : n / 2 - 1 ≤ 8 := by omega
theorem neg1_lo {n : Nat} (h : 0 < n) : -(n : Int) ≤ -1 := by omega
theorem neg1_at {n : Nat} (h : 0 < n) : (-1 + (n : Int)).toNat = n - 1 := by omega
theorem turn_to {i k n : Nat} (h : i + (k + 1) = n) : i + 1 + k = n := by omega
theorem turn_lt {i k n : Nat} (h : i + (k + 1) = n) : i < n := by omega
theorem len_pos {n i : Nat} (h : n = 4 + 2 * i) : 0 < n := by omega
theorem len_le8 {n i : Nat} (h : n = 4 + 2 * i) (k : i < 2) : n ≤ 8 := by omega
theorem stack_le {n : Nat} (h : n ≤ 8) : n - 1 + 3 ≤ 1000 := by omega
theorem abs_lt {n : Nat} (h : n ≤ 8) : ((n : Nat) : Int).natAbs < 1073741824 := by omega
theorem cast_pos {n : Nat} (h : 0 < n) : ((n : Nat) : Int) ≠ 0 := by omega
theorem one_two {n i : Nat} (h : n = 1 ∨ n = 2) (k : i < n) : i < 2 := by omega
theorem cut_ten {c s : Nat} (h : c = min 10 s) : c ≤ 10 := by omega
theorem fill_ten {c : Nat} (h : c ≤ 10) : c + (10 - c) = 10 := by omega
local macro_rules | `(tactic| k_ne) => `(tactic| (refine neN ?_; (try dsimp only); with_reducible first | assumption | (apply Ne.symm; assumption) | (apply Nat.ne_of_lt; first | assumption | (apply And.left; (iterate 11 (try first | assumption | apply And.right)); done) | (apply And.right; (iterate 11 (try first | assumption | apply And.right)); done)) | (apply Nat.ne_of_gt; first | assumption | (apply And.left; (iterate 11 (try first | assumption | apply And.right)); done) | (apply And.right; (iterate 11 (try first | assumption | apply And.right)); done)) | exact Nat.ne_of_lt (Nat.lt_succ_self _) | exact Nat.ne_of_gt (Nat.lt_succ_self _) | exact Nat.ne_of_lt (Nat.lt_succ_of_lt (Nat.lt_succ_self _)) | exact Nat.ne_of_gt (Nat.lt_succ_of_lt (Nat.lt_succ_self _)) | (apply Nat.ne_of_lt; apply Nat.lt_of_succ_lt; assumption) | (apply Nat.ne_of_lt; apply Nat.lt_of_succ_lt; apply Nat.lt_of_succ_lt; assumption) | (apply Nat.ne_of_gt; apply Nat.lt_of_succ_lt; assumption) | (apply Nat.ne_of_gt; apply Nat.lt_of_succ_lt; apply Nat.lt_of_succ_lt; assumption) | (first | assumption | (apply And.left; (iterate 11 (try first | assumption | apply And.right)); done) | (apply And.right; (iterate 11 (try first | assumption | apply And.right)); done)) | (apply Ne.symm; first | assumption | (apply And.left; (iterate 11 (try first | assumption | apply And.right)); done) | (apply And.right; (iterate 11 (try first | assumption | apply And.right)); done))))
local macro_rules | `(tactic| omega) => `(tactic| first | (with_reducible first | assumption | (apply q_u2; assumption; decide) | (apply q_u1; assumption; decide) | (apply q_u3; assumption; decide) | (apply q_u0; assumption) | decide | (apply q_le; assumption; decide) | (apply q_lt; assumption; decide) | (apply q_ltl; assumption; decide) | (apply q_lle; assumption; decide) | (apply q_add; assumption; decide) | (apply q_mul; assumption; decide) | (apply q_eq_le; assumption; decide) | (apply q_eq_lt; assumption; decide) | (apply q_ilt; assumption; decide) | (apply q_ile; assumption; decide) | (apply q_ieq; assumption; decide) | (apply q_igt; assumption; decide) | (apply q_ilti; assumption; decide) | (apply q_igti; assumption; decide) | (apply q_addlt; assumption; decide) | (apply q_sl; assumption; decide) | (apply q_nat; assumption; decide) | (apply q_ele; assumption; assumption; decide) | (apply q_elt; assumption; assumption; decide) | (apply q_iee; assumption; assumption; decide) | (apply q_ige; decide) | (apply q_neg; decide) | (apply q_negc; decide) | (apply Int.ofNat_lt.mpr; assumption) | (apply Int.ofNat_le.mpr; assumption) | (apply Nat.lt_succ_of_le; assumption) | (apply Eq.trans; assumption; assumption) | (apply Nat.lt_of_lt_of_eq; assumption; assumption) | (apply q_ne0; assumption; assumption) | (apply Eq.trans; assumption; apply Eq.symm; assumption) | (apply Nat.lt_of_lt_of_eq; assumption; apply Eq.symm; assumption)) | omega (config := {}))
local macro_rules | `(tactic| k_qdec) => `(tactic| decide +kernel)
local macro_rules | `(tactic| walk_at "execs cons") => `(tactic| ((with_reducible rename Fr _ _ _ _ => kFr); dsimp only at kFr; walk1))
-- part: HeadT
section
def pickB {α : Type} : List α → List Bool → List α
  | x :: l, true :: bs => x :: pickB l bs
  | _ :: l, false :: bs => pickB l bs
  | _, _ => []
def keeps : List Bool := [true, true, false, true, false, true, true, true, true, false, true, true, true, false, true, false, true, true, true, true, true, true, true]
def qv : Program := { PySem.Challenge.rw_tr0054_01.prog with main := { PySem.Challenge.rw_tr0054_01.prog.main with body := pickB PySem.Challenge.rw_tr0054_01.prog.main.body keeps } }
abbrev loose4 : List PySem.Str := [Str.ofString "tspecials", Str.ofString "_name_disallowed_re", Str.ofString "_value_disallowed_re", Str.ofString "_formatparam"]
open PySem.W.Fast in
noncomputable def fencedQ (p : Program) (w : World) (N : Nat) : Option Shared :=
  (tw10274390034422433532 tw14364793385576792824 (opening p) w N (tw1435165496053646825 (opening p)).1 (tw1435165496053646825 (opening p)).2).bind (tw14289696077712309145 p)
open PySem.W.Fast in
noncomputable def topFromQ (p : Program) (w : World) (N : Nat) (s₀ : Shared) : Option Shared :=
  match s₀.heap.isNs mainGlobals && s₀.gens.size == 0 with
  | true => (tw14082659384304107361 tw14364793385576792824 p w s₀.heap.objs.size (tw8920871248978507458 s₀.heap mainGlobals "__annotations__") N s₀ (topStub p)).bind fun s₁ => match staticsOk (tw5923862056798008813 p.main.body) s₀.heap s₁.heap && namesBound p s₁.heap && gensDone s₁ && laidKept s₀.heap s₁.heap with
      | true => some s₁
      | false => none
  | false => none
open PySem.W.Fast in
theorem fencedQ_eq : fencedOpening treeTable = fencedQ := by
  funext p w N
  unfold fencedOpening fencedQ
  rw [te10274390034422433532, te14364793385576792824, te1435165496053646825, te14289696077712309145]
open PySem.W.Fast in
theorem topFromQ_eq : topFrom treeTable = topFromQ := by
  funext p w N s
  unfold topFrom topFromQ
  rw [te14082659384304107361, te14364793385576792824, te8920871248978507458, te5923862056798008813]
  rfl
open PySem.W.Fast in
theorem left_quick {p q : Program} {loose : List PySem.Str} {Xt : Shared → Bool} {α : Type} {Yf : Shared → α} {Ya : World → α} {N : Nat}
    (h : ∀ w, ((fencedQ p w N).bind (topFromQ p w N)).map (fun s => (tw4187177175401517315 q loose (tw5923862056798008813 p.main.body) Xt true s, Yf s)) = some (openGood q loose, Ya w)) : LeftO p q loose Xt Yf Ya N := fun w => by
  unfold openEnds
  rw [fencedQ_eq, topFromQ_eq, te4187177175401517315, te5923862056798008813]
  exact h w
theorem said_ok : OpenLaw.wellSaid PySem.Challenge.rw_tr0054_01 = true := (congrFun PySem.W.Fast.te9446332074065402090 _).trans (by kernel_rfl)
local macro_rules | `(tactic| o_head $H) => `(tactic| (
  refine holds_open (q := qv) (loose := loose4) (Xt := fun s => xlAt qv [] s && recOk (RowW.records (OpenRow.toRowW (OpenLaw.row PySem.Challenge.rw_tr0054_01))) s) (XP := XL qv []) (Yf := Hook.obs $H) (Ya := Hook.val $H) (YP := Hook.says $H) (N := 3988) ?hl (Hook.of $H) (Hook.keeps $H) (fun s e => xl_of s (Bool.and_eq_true_iff.mp e).1) XL.keeps (by rfl) (by rfl) (by rfl) (fun s e => recFacts_of (Bool.and_eq_true_iff.mp e).2) (by rfl) (by first | assumption | decide +kernel) (by decide +kernel) ⟨rfl, rfl, rfl, rfl, rfl, by decide +kernel⟩ ?hw ?hc
  (case hl => exact left_quick (by intro w; kernel_rfl))
  all_goals (try (rename_i sd; clear sd))))
local macro_rules | `(tactic| o_law) => `(tactic| (refine holds_law said_ok fun said => ?_))
local macro_rules | `(tactic| k_qdec) => `(tactic| decide +kernel)
open_top hd for PySem.Challenge.rw_tr0054_01
end
-- part: MBase
section
theorem off_MBase : True := by w_top off; exact trivial
noncomputable abbrev looseL : List PySem.Str := looseW qv loose4

theorem enterG {K : Frag} {p : Program} {loose : List PySem.Str} {mean : ExcName → Option Value} {mg mb : PySem.Str → Option Value} {prog : Program} {w : World} {A : Around} {outer : List Env} {base g : Heap} {s : Shared} {news : List (Addr × Obj)}
    {R : Result → Shared → Prop} {name qual : PySem.Str} {params : PySem.Arguments} {body : List PySem.Stmt} {scope : PySem.Scope} {dV kV doc pm cdv ct oc : Value} {an od : Option Addr} {osl : Array (Option Value)} {f : Addr} {args : PySem.Args} {binds : List (PySem.Str × Value)}
    (B : Below A base outer g) (kg : ∀ b o, g.get? b = some o → s.heap.get? b = some o) (sz : g.objs.size ≤ s.heap.objs.size) (X₀ : K.In g) (T : Top p loose mean mg mb g)
    (N : ∀ q ∈ news, s.heap.get? q.1 = some q.2 ∧ g.get? q.1 = none)
    (ho : K.lookup f = some ⟨oc, od, .func (fnOf name qual params body scope dV kV doc pm an cdv ct), osl⟩) (hcd : codeIn K cdv qual = true) (hroom : A.depth < recursionLimit)
    (hbind : BindsTo s (fnOf name qual params body scope dV kV doc pm an cdv ct) args binds) (hloc : ∀ y ∈ binds, scope.names.lookup y.1 = some .local)
    (h : ∀ L' h₁, Fr g L' h₁ (fun y => binds.reverse.lookup y) → News g L' h₁ news → (∀ q ∈ news, q.1 < L') →
      wpAny (model prog w) (A.deeper (envOf qual scope L' f cdv)) (execs body (envOf qual scope L' f cdv))
        (fun fl s' => R (.ok (.ret (match fl with | .ret v => v | _ => .none))) s')
        (fun e s' => wpAny (model prog w) (A.deeper (envOf qual scope L' f cdv)) (leaving (envOf qual scope L' f cdv) e) (fun _ s'' => R (.error e) s'') (fun e' s'' => R (.error e') s'') s')
        { s with heap := h₁, toks := s.toks + binds.length })
    (hco : scope.isCoroutine = false) (hgen : scope.isGenerator = false) (hk : scope.kind = .function)
    (hcell : ∀ x ∈ scope.names, x.2 ≠ .cell) : codeAny (model prog w) A (.call (.ref f) args) R s := by
  refine codeAny_call_def (fd := fnOf name qual params body scope dV kV doc pm an cdv ct) (body := body) (binds := binds) hroom (kg _ _ (X₀ _ _ ho)) rfl ((T.nolimit).keeps kg) (codeRec_of (X₀.keeps kg) hcd) rfl hbind hcell hloc (fun h₁ hns hk₁ => ?_) hco hgen hk
  refine h s.heap.objs.size h₁ ⟨hns, fun b o e => hk₁ b o (kg b o e), sz⟩ (fun q hq => ⟨hk₁ _ _ (N q hq).1, Nat.ne_of_lt (Heap.lt_size (N q hq).1), (N q hq).2⟩) fun q hq => Heap.lt_size (N q hq).1


theorem enterGC {K : Frag} {p : Program} {loose : List PySem.Str} {mean : ExcName → Option Value} {mg mb : PySem.Str → Option Value} {prog : Program} {w : World} {A : Around} {outer : List Env} {base g : Heap} {s : Shared} {news : List (Addr × Obj)}
    {R : Result → Shared → Prop} {name qual : PySem.Str} {params : PySem.Arguments} {body : List PySem.Stmt} {scope : PySem.Scope} {dV kV doc pm cdv ct oc : Value} {an od : Option Addr} {osl : Array (Option Value)} {f : Addr} {args : PySem.Args} {binds : List (PySem.Str × Value)}
    (B : Below A base outer g) (kg : ∀ b o, g.get? b = some o → s.heap.get? b = some o) (sz : g.objs.size ≤ s.heap.objs.size) (X₀ : K.In g) (T : Top p loose mean mg mb g)
    (N : ∀ q ∈ news, s.heap.get? q.1 = some q.2 ∧ g.get? q.1 = none)
    (ho : K.lookup f = some ⟨oc, od, .func (fnOf name qual params body scope dV kV doc pm an cdv ct), osl⟩) (hcd : codeIn K cdv qual = true) (hroom : A.depth < recursionLimit)
    (hbind : BindsTo s (fnOf name qual params body scope dV kV doc pm an cdv ct) args binds) (hkind : (binds.all fun y => scope.names.lookup y.1 == some .local || scope.names.lookup y.1 == some .cell) = true)
    (hnd : ((cellsFrom 0 scope.names []).map (·.1)).Nodup)
    (h : ∀ L' h₁ tk cells, Fr g L' h₁ (bindL (envOfC qual scope L' f cdv).kindOf binds fun _ => none) → News g L' h₁ (cells ++ news) →
      CellsAre (bindC (envOfC qual scope L' f cdv).kindOf binds fun _ => none) (cellsFrom (L' + 1) scope.names []) cells → (∀ q ∈ news, q.1 < L') →
      wpAny (model prog w) (A.deeper (envOfC qual scope L' f cdv)) (execs body (envOfC qual scope L' f cdv))
        (fun fl s' => R (.ok (.ret (match fl with | .ret v => v | _ => .none))) s')
        (fun e s' => wpAny (model prog w) (A.deeper (envOfC qual scope L' f cdv)) (leaving (envOfC qual scope L' f cdv) e) (fun _ s'' => R (.error e) s'') (fun e' s'' => R (.error e') s'') s')
        { s with heap := h₁, toks := tk })
    (hco : scope.isCoroutine = false) (hgen : scope.isGenerator = false) (hk : scope.kind = .function) : codeAny (model prog w) A (.call (.ref f) args) R s := by
  have hlim := T.nolimit
  refine codeAny_call_function (fd := fnOf name qual params body scope dV kV doc pm an cdv ct) hroom (kg _ _ (X₀ _ _ ho)) rfl hco hgen rfl (codeRec_of (X₀.keeps kg) hcd) (hbind _ _ _ _ ?_)
  refine wpAny_newFunctionEnv_cells hk (kindsX hkind _) fun env' he s' x => ?_
  subst he
  refine ⟨(hlim.keeps kg).keeps x.toInCall.keep, codeAny_func ?_⟩
  obtain ⟨h₁, tk, rfl, _⟩ := x.done
  have hk₁ := x.toInCall.keep
  obtain ⟨cells, NC, Y⟩ := Cl.news (h₀ := s.heap) (Nat.le_refl _) fun n c hm => ⟨x.cell n c (lookup_of_mem_nodup (cellsFrom_names scope.names 0 (s.heap.objs.size + 1) [] [] rfl ▸ hnd) hm), x.above n c hm⟩
  refine h s.heap.objs.size h₁ tk cells ⟨x.toInCall.ns, fun b o e => hk₁ b o (kg b o e), sz⟩ (fun p hp => ?_) Y fun q hq => Heap.lt_size (N q hq).1
  rcases List.mem_append.mp hp with hp | hp
  · refine ⟨(NC p hp).1, (NC p hp).2.1, ?_⟩
    cases q : g.get? p.1 with
    | none => rfl
    | some o => have := kg _ _ q; rw [(NC p hp).2.2] at this; cases this
  · exact ⟨hk₁ _ _ (N p hp).1, Nat.ne_of_lt (Heap.lt_size (N p hp).1), (N p hp).2⟩
end
-- part: MParse
section
theorem off_MParse : True := by w_top off; exact trivial
/-- a bne that the facts refute -/
theorem bne_no {a b : PySem.Str} {P : Prop} (h : (a != b) = true) (e : a = b) : P := by subst e; simp at h
theorem split_are {prog : Program} {w : World} {A : Around} {E : Value → Shared → Prop} {s : Shared} {h₀ : Heap} {L : Addr} {m : PySem.Str → Option Value} {news : List (Addr × Obj)} {Q : Value → Shared → Prop} {x y : PySem.Str} {t u : Tok} {parts : List PySem.Str}
    (hF : Fr h₀ L s.heap m) (hN : News h₀ L s.heap news) (e : Txt.split x y = parts) (hy : (y.length == 0) = false)
    (h : ∀ vs h' k, StrsAre vs parts → Fr h₀ L h' m → News h₀ L h' ((s.heap.objs.size, { cls := .type "list", data := .seq vs.toArray }) :: news) → Q (.ref s.heap.objs.size) { s with heap := h', toks := k }) (hsz : x.length + 2 ≤ sizeLine := by size_fits) :
    wpAny (model prog w) A (call (.builtin "str.split") [.str x t, .str y u]) Q E s :=
  splitN1A hF hN hy (fun l h' k e1 h2 _ _ F N => h (strValues l) h' k (by rw [e1, e] at h2; exact h2) F N) hsz
local macro_rules | `(tactic| walk_at "call builtin:str.split") => `(tactic| (k_here; (with_reducible rename Fr _ _ _ _ => F'); (with_reducible rename News _ _ _ _ => N'); (refine split_are (hsz := ?hsz) F' N' (by assumption) (by first | rfl | decide | (rw [beq_eq_false_iff_ne]; omega)) ?_); (case hsz => size_fits); intro _ _ _ _ _ _))

/-- what parse229 sees in a 229 reply -/
structure Seen229 (x : PySem.Str) (r : Int) (parts : List PySem.Str) : Prop where
  len : x.length < 1000
  len9 : 9 < x.length
  head : Txt.slice x none (some 3) = Str.ofString "229"
  left : Txt.find x (Str.ofString "(") = 7
  right : Txt.find3 x (Str.ofString ")") (Txt.find x (Str.ofString "(") + 1) = r
  r9 : 9 < r
  rlen : r < x.length
  mark : Txt.item x (Txt.find x (Str.ofString "(") + 1) = Txt.item x (Txt.find3 x (Str.ofString ")") (Txt.find x (Str.ofString "(") + 1) - 1)
  cut : Txt.split (Txt.slice x (some (Txt.find x (Str.ofString "(") + 1)) (some (Txt.find3 x (Str.ofString ")") (Txt.find x (Str.ofString "(") + 1)))) (Txt.item x (Txt.find x (Str.ofString "(") + 1)) = parts

theorem parse_ok : ∀ {w : World} {dp un : Nat} {gd : Option (List Code)} {outer : List Env} {base g : Heap} {s : Shared} {mean : ExcName → Option Value} {mg mb : PySem.Str → Option Value} {R : Result → Shared → Prop} (_ : Below ({ handled := none, depth := dp, frames := some outer, guards := gd, units := un } : Around) base outer g) (_ : ∀ b o, g.get? b = some o → s.heap.get? b = some o) (_ : g.objs.size ≤ s.heap.objs.size) (_ : (hd.heap_1 w.params).In g) (_ : Top qv looseL mean mg mb g) (_ : ({ handled := none, depth := dp, frames := some outer, guards := gd, units := un } : Around).handled = none) (_ : dp + 1 < recursionLimit) (_ : un + 8 < cLine)
    {x : PySem.Str} {t : Tok} {p : Addr} {f : PySem.Str} {u v : Tok} {r : Int} {parts : List PySem.Str} {num : Int} (_ : IsTup g p [.str f u, .int 21 v].toArray) (_ : Seen229 x r parts)
    (_ : parts.length = 5) (_ : PySem.intText? (parts.getD (Int.toNat 3) Str.empty) = some num) (_ : (parts.getD (Int.toNat 3) Str.empty).length ≤ 5)
    (_ : ∀ l h' tk' ta tb, (∀ b o, g.get? b = some o → h'.get? b = some o) → g.get? l = none → h'.get? l = some { cls := .type "tuple", data := .seq #[.str f ta, .int num tb] } → R (.ok (.ret (.ref l))) { s with heap := h', toks := tk' }),
    codeAny (model PySem.Challenge.rw_tr0054_01.prog w) ({ handled := none, depth := dp, frames := some outer, guards := gd, units := un } : Around) (.call (.ref 89) ⟨[.str x t, .ref p], []⟩) R s := by
  k_fill
  intro w dp un gd outer base g s mean mg mb R B kg sz X T hh hd hu x t p f u v r parts num hp hS h8 h9 h10 ret
  obtain ⟨hx, hx2, h1, h2, h3, h4, h5, h6, h7⟩ := hS
  have N0 : ∀ q ∈ ([] : List (Addr × Obj)), s.heap.get? q.1 = some q.2 ∧ g.get? q.1 = none := fun _ h => nomatch h
  k_dflt (first | (refine' enterG ?k1 ?k2 ?k3 ?k4 ?k5 ?k6 ?k7 ?k8 ?k9 ?kb ?kB ?_ ?c2 ?c3 ?c4 ?c5; (case k1 => k_asm); (case k2 => k_asm); (case k3 => k_asm); (case k4 => k_asm); (case k5 => k_asm); (case k6 => k_asm); (case k7 => k_is); (case k8 => k_is); (case k9 => ktr_room); (case kb => first | exact BindsTo.of_eq rfl | exact binds_K (by k_in) rfl (by k_is) rfl rfl rfl); (case c5 => decide); (case kB => exact locs rfl); (case c2 => exact rfl); (case c3 => exact rfl); (case c4 => exact rfl); k_whole; intro L' h' F' N' l1; (try k_lt l1); (try dsimp only); (try k_fold)) | (refine' enterGC ?k1 ?k2 ?k3 ?k4 ?k5 ?k6 ?k7 ?k8 ?k9 ?kb ?kB ?kD ?_ ?c2 ?c3 ?c4; (case k1 => k_asm); (case k2 => k_asm); (case k3 => k_asm); (case k4 => k_asm); (case k5 => k_asm); (case k6 => k_asm); (case k7 => k_is); (case k8 => k_is); (case k9 => ktr_room); (case kb => first | exact BindsTo.of_eq rfl | exact binds_K (by k_in) rfl (by k_is) rfl rfl rfl); (case kB => exact rfl); (case kD => decide +kernel); (case c2 => exact rfl); (case c3 => exact rfl); (case c4 => exact rfl); k_whole; intro L' h' tk' cells' F' N' Y' l1; (try k_lt l1); k_cells Y'; (try simp only [List.cons_append, List.nil_append] at N'); (try dsimp only); (try k_fold)))
  k_steps
  all_goals first
    | exact bne_no (by assumption) h1
    | exact bne_no (by assumption) h6
    | (exfalso; omega)
    | ((with_reducible rename Fr _ _ _ _ => fX); (with_reducible rename News _ _ _ _ => nX); exact ret _ _ _ _ _ fX.keep (nX _ (.head _)).2.2 (nX _ (.head _)).1)

theorem parse_ill : ∀ {w : World} {dp un : Nat} {gd : Option (List Code)} {outer : List Env} {base g : Heap} {s : Shared} {mean : ExcName → Option Value} {mg mb : PySem.Str → Option Value} {R : Result → Shared → Prop} (_ : Below ({ handled := none, depth := dp, frames := some outer, guards := gd, units := un } : Around) base outer g) (_ : ∀ b o, g.get? b = some o → s.heap.get? b = some o) (_ : g.objs.size ≤ s.heap.objs.size) (_ : (hd.heap_1 w.params).In g) (_ : Top qv looseL mean mg mb g) (_ : ({ handled := none, depth := dp, frames := some outer, guards := gd, units := un } : Around).handled = none) (_ : (hd.heap_1 w.params).In base) (_ : Top qv looseL mean mg mb base) (_ : KtsDicts (outer.filterMap (·.frame)) g) (_ : dp + 1 < recursionLimit) (_ : un + 8 < cLine)
    {x : PySem.Str} {t : Tok} {p : Addr} {f : PySem.Str} {u v : Tok} {r : Int} {parts : List PySem.Str} (_ : IsTup g p [.str f u, .int 21 v].toArray) (_ : Seen229 x r parts)
    (_ : parts.length ≠ 5) (_ : parts.length < 100)
    (_ : ∀ e ta tk' h' news, RaisedS base g outer e (.ref 80) ta [.str x t] news h' → g.UpToSlots h' → R (.error (.ref e)) { s with heap := h', toks := tk' }),
    codeAny (model PySem.Challenge.rw_tr0054_01.prog w) ({ handled := none, depth := dp, frames := some outer, guards := gd, units := un } : Around) (.call (.ref 89) ⟨[.str x t, .ref p], []⟩) R s := by
  k_fill
  intro w dp un gd outer base g s mean mg mb R B kg sz X T hh XB TB D hd hu x t p f u v r parts hp hS h8 h9 ret
  obtain ⟨hx, hx2, h1, h2, h3, h4, h5, h6, h7⟩ := hS
  have N0 : ∀ q ∈ ([] : List (Addr × Obj)), s.heap.get? q.1 = some q.2 ∧ g.get? q.1 = none := fun _ h => nomatch h
  k_dflt (first | (refine' enterG ?k1 ?k2 ?k3 ?k4 ?k5 ?k6 ?k7 ?k8 ?k9 ?kb ?kB ?_ ?c2 ?c3 ?c4 ?c5; (case k1 => k_asm); (case k2 => k_asm); (case k3 => k_asm); (case k4 => k_asm); (case k5 => k_asm); (case k6 => k_asm); (case k7 => k_is); (case k8 => k_is); (case k9 => ktr_room); (case kb => first | exact BindsTo.of_eq rfl | exact binds_K (by k_in) rfl (by k_is) rfl rfl rfl); (case c5 => decide); (case kB => exact locs rfl); (case c2 => exact rfl); (case c3 => exact rfl); (case c4 => exact rfl); k_whole; intro L' h' F' N' l1; (try k_lt l1); (try dsimp only); (try k_fold)) | (refine' enterGC ?k1 ?k2 ?k3 ?k4 ?k5 ?k6 ?k7 ?k8 ?k9 ?kb ?kB ?kD ?_ ?c2 ?c3 ?c4; (case k1 => k_asm); (case k2 => k_asm); (case k3 => k_asm); (case k4 => k_asm); (case k5 => k_asm); (case k6 => k_asm); (case k7 => k_is); (case k8 => k_is); (case k9 => ktr_room); (case kb => first | exact BindsTo.of_eq rfl | exact binds_K (by k_in) rfl (by k_is) rfl rfl rfl); (case kB => exact rfl); (case kD => decide +kernel); (case c2 => exact rfl); (case c3 => exact rfl); (case c4 => exact rfl); k_whole; intro L' h' tk' cells' F' N' Y' l1; (try k_lt l1); k_cells Y'; (try simp only [List.cons_append, List.nil_append] at N'); (try dsimp only); (try k_fold)))
  k_steps
  all_goals first
    | exact bne_no (by assumption) h1
    | exact bne_no (by assumption) h6
    | (exfalso; omega)
    | ((rename RaisedS _ _ _ _ _ _ _ _ _ => rX); exact ret _ _ _ _ _ rX (by assumption))

theorem parse_reply : ∀ {w : World} {dp un : Nat} {gd : Option (List Code)} {outer : List Env} {base g : Heap} {s : Shared} {mean : ExcName → Option Value} {mg mb : PySem.Str → Option Value} {R : Result → Shared → Prop} (_ : Below ({ handled := none, depth := dp, frames := some outer, guards := gd, units := un } : Around) base outer g) (_ : ∀ b o, g.get? b = some o → s.heap.get? b = some o) (_ : g.objs.size ≤ s.heap.objs.size) (_ : (hd.heap_1 w.params).In g) (_ : Top qv looseL mean mg mb g) (_ : ({ handled := none, depth := dp, frames := some outer, guards := gd, units := un } : Around).handled = none) (_ : (hd.heap_1 w.params).In base) (_ : Top qv looseL mean mg mb base) (_ : KtsDicts (outer.filterMap (·.frame)) g) (_ : dp + 1 < recursionLimit) (_ : un + 8 < cLine)
    {x : PySem.Str} {t : Tok} {p : Value} (_ : x.length < 1000) (_ : Txt.slice x none (some 3) ≠ Str.ofString "229")
    (_ : ∀ e ta tk' h' news, RaisedS base g outer e (.ref 68) ta [.str x t] news h' → g.UpToSlots h' → R (.error (.ref e)) { s with heap := h', toks := tk' }),
    codeAny (model PySem.Challenge.rw_tr0054_01.prog w) ({ handled := none, depth := dp, frames := some outer, guards := gd, units := un } : Around) (.call (.ref 89) ⟨[.str x t, p], []⟩) R s := by
  k_fill
  intro w dp un gd outer base g s mean mg mb R B kg sz X T hh XB TB D hd hu x t p hx h1 ret
  have N0 : ∀ q ∈ ([] : List (Addr × Obj)), s.heap.get? q.1 = some q.2 ∧ g.get? q.1 = none := fun _ h => nomatch h
  have h1' : (Txt.slice x none (some 3) != Str.ofString "229") = true := by simpa using h1
  k_dflt (first | (refine' enterG ?k1 ?k2 ?k3 ?k4 ?k5 ?k6 ?k7 ?k8 ?k9 ?kb ?kB ?_ ?c2 ?c3 ?c4 ?c5; (case k1 => k_asm); (case k2 => k_asm); (case k3 => k_asm); (case k4 => k_asm); (case k5 => k_asm); (case k6 => k_asm); (case k7 => k_is); (case k8 => k_is); (case k9 => ktr_room); (case kb => first | exact BindsTo.of_eq rfl | exact binds_K (by k_in) rfl (by k_is) rfl rfl rfl); (case c5 => decide); (case kB => exact locs rfl); (case c2 => exact rfl); (case c3 => exact rfl); (case c4 => exact rfl); k_whole; intro L' h' F' N' l1; (try k_lt l1); (try dsimp only); (try k_fold)) | (refine' enterGC ?k1 ?k2 ?k3 ?k4 ?k5 ?k6 ?k7 ?k8 ?k9 ?kb ?kB ?kD ?_ ?c2 ?c3 ?c4; (case k1 => k_asm); (case k2 => k_asm); (case k3 => k_asm); (case k4 => k_asm); (case k5 => k_asm); (case k6 => k_asm); (case k7 => k_is); (case k8 => k_is); (case k9 => ktr_room); (case kb => first | exact BindsTo.of_eq rfl | exact binds_K (by k_in) rfl (by k_is) rfl rfl rfl); (case kB => exact rfl); (case kD => decide +kernel); (case c2 => exact rfl); (case c3 => exact rfl); (case c4 => exact rfl); k_whole; intro L' h' tk' cells' F' N' Y' l1; (try k_lt l1); k_cells Y'; (try simp only [List.cons_append, List.nil_append] at N'); (try dsimp only); (try k_fold)))
  k_steps
  all_goals ((rename RaisedS _ _ _ _ _ _ _ _ _ => rX); exact ret _ _ _ _ _ rX (by assumption))
end
-- part: MComp
section
theorem off_MComp : True := by w_top off; exact trivial
section comp
open LCg
/-- the source of a comprehension, walked: any walk -/
def SrcG (prog : Program) (w : World) (A : Around) (h₀ : Heap) (L : Addr) (m : PySem.Str → Option Value) (env : Env) (elt : PySem.Expr) (x : PySem.Str) (scope : PySem.Scope) (cl : List (PySem.Str × Addr)) (Fin : Shared → List Value → List (Addr × Obj) → Prop) (it : Value) (s₂ : Shared) : Prop :=
  ∃ I fp n P St S news, it = .ref I ∧ Walks prog w A I fp [I] n P St ∧ n ≤ sizeLine ∧ (∀ i h, St i h → ∃ o, h.get? I = some o) ∧
    (∀ i h h' o nw, St i h → h.get? I = some o → h'.get? I = some o → (∀ b o, h₀.get? b = some o → h'.get? b = some o) → News h₀ L h' nw → S nw → St i h') ∧
    St 0 s₂.heap ∧ (∀ b ∈ fp, b < s₂.heap.objs.size) ∧ Fr h₀ L s₂.heap m ∧ News h₀ L s₂.heap news ∧ L ≠ I ∧ h₀.get? I = none ∧ (∀ p ∈ news, p.1 ≠ I) ∧ S news ∧
    CompRest prog w A h₀ L m env elt x scope cl s₂ S P (Fin s₂) n 0 [] news
def SrcGT (prog : Program) (w : World) (A : Around) (h₀ : Heap) (L : Addr) (m : PySem.Str → Option Value) (env : Env) (ct elt : PySem.Expr) (x : PySem.Str) (scope : PySem.Scope) (cl : List (PySem.Str × Addr)) (Fin : Shared → List Value → List (Addr × Obj) → Prop) (it : Value) (s₂ : Shared) : Prop :=
  ∃ I fp n P St S news, it = .ref I ∧ Walks prog w A I fp [I] n P St ∧ n ≤ sizeLine ∧ (∀ i h, St i h → ∃ o, h.get? I = some o) ∧
    (∀ i h h' o nw, St i h → h.get? I = some o → h'.get? I = some o → (∀ b o, h₀.get? b = some o → h'.get? b = some o) → News h₀ L h' nw → S nw → St i h') ∧
    St 0 s₂.heap ∧ (∀ b ∈ fp, b < s₂.heap.objs.size) ∧ Fr h₀ L s₂.heap m ∧ News h₀ L s₂.heap news ∧ L ≠ I ∧ h₀.get? I = none ∧ (∀ p ∈ news, p.1 ≠ I) ∧ S news ∧
    LCt.CompRestT prog w A h₀ L m env ct elt x scope cl s₂ S P (Fin s₂) n 0 [] news

variable {prog : Program} {w : World} {A : Around} {E : Value → Shared → Prop} {s : Shared} {h₀ : Heap} {L : Addr} {m : PySem.Str → Option Value} {env : Env}
theorem fin_end {Q : Value → Shared → Prop} {s₂ : Shared} {D C : Addr} {h : Heap} {tk : Nat} {m' : PySem.Str → Option Value} {ys : List Value} {news' : List (Addr × Obj)} (F' : Fr h₀ L h m) (N' : News h₀ L h ((D, lst ys) :: news')) (o1 : Off1 D news') (hn : h.Ns C m') (hC₀ : h₀.get? C = none) (hD₀ : h₀.get? D = none) (hCL : C ≠ L) (hDL : D ≠ L) (hCD : C ≠ D) (offC : ∀ p ∈ news', p.1 ≠ C)
    (fin : FinE h₀ L m s₂ Q ys news') : ∃ m, h.Ns C m ∧ ∀ h', Heap.SameBut C h h' → Q (.ref D) { s₂ with heap := h', toks := tk } :=
  ⟨m', hn, fun h'' hs'' => fin D h'' tk (F'.change hs'' hCL hC₀) (fun p hp => by
    refine ⟨hs''.extBut _ _ ?_ (N' p hp).1, (N' p hp).2⟩
    rcases List.mem_cons.mp hp with rfl | hp
    · exact Ne.symm hCD
    · exact offC p hp) o1⟩

theorem ListComp_G {elt iter : PySem.Expr} {x : PySem.Str} {px : Pos} {scope : PySem.Scope} {cl : List (PySem.Str × Addr)} {pos : Pos} {Q : Value → Shared → Prop}
    (F₀ : Fr h₀ L s.heap m)
    (hclos : closureFor scope env = pure cl) (hcell : ∀ y ∈ scope.names, y.2 ≠ .cell) (hkind : scope.kind = .function)
    (hnames : ∀ y ∈ scope.names, y.2 = .local → scope.names.lookup y.1 = some .local) (hx : scope.names.lookup x = some .local)
    (h : wpAny (model prog w) A (eval iter env) (fun xv s₁ => wpAny (model prog w) A (pyIter xv) (SrcG prog w A h₀ L m env elt x scope cl (fun s₂ => FinE h₀ L m s₂ Q)) E s₁) E s)
    (hs : ∀ x, foldedSetIterable iter env x = pure x := by intro _; rfl) :
    wpAny (model prog w) A (eval (.ListComp elt [⟨.Name x px, iter, [], 0⟩] scope pos) env) Q E s := by
  rw [eval_ListComp]
  refine wpAny_comprehension_free (use := none) rfl hs hclos hkind hnames (wpAny_mono h (fun xv s₁ h₁ => wpAny_mono h₁ (fun it s₂ h₂ => ?_) fun _ _ e => e) fun _ _ e => e)
  obtain ⟨I, fp, n, P, St, S, news, rfl, W, hsz, hIo, hSt, hst, hfp, F, N, hIL, hI₀, off, hS, R⟩ := h₂
  refine block_U W hsz hIo hSt hcell hkind hx hst hfp F N hIL hI₀ off hS R ?_
  intro D C h tk m' ys news' F' N' o1 hn hC₀ hD₀ hCL hDL hCD offC fin
  exact fin_end F' N' o1 hn hC₀ hD₀ hCL hDL hCD offC fin

theorem ListComp_GT {ct elt iter : PySem.Expr} {x : PySem.Str} {px : Pos} {scope : PySem.Scope} {cl : List (PySem.Str × Addr)} {pos : Pos} {Q : Value → Shared → Prop}
    (F₀ : Fr h₀ L s.heap m)
    (hclos : closureFor scope env = pure cl) (hcell : ∀ y ∈ scope.names, y.2 ≠ .cell) (hkind : scope.kind = .function)
    (hnames : ∀ y ∈ scope.names, y.2 = .local → scope.names.lookup y.1 = some .local) (hx : scope.names.lookup x = some .local)
    (h : wpAny (model prog w) A (eval iter env) (fun xv s₁ => wpAny (model prog w) A (pyIter xv) (SrcGT prog w A h₀ L m env ct elt x scope cl (fun s₂ => FinE h₀ L m s₂ Q)) E s₁) E s)
    (hs : ∀ x, foldedSetIterable iter env x = pure x := by intro _; rfl) :
    wpAny (model prog w) A (eval (.ListComp elt [⟨.Name x px, iter, [ct], 0⟩] scope pos) env) Q E s := by
  rw [eval_ListComp]
  refine wpAny_comprehension_free (use := none) rfl hs hclos hkind hnames (wpAny_mono h (fun xv s₁ h₁ => wpAny_mono h₁ (fun it s₂ h₂ => ?_) fun _ _ e => e) fun _ _ e => e)
  obtain ⟨I, fp, n, P, St, S, news, rfl, W, hsz, hIo, hSt, hst, hfp, F, N, hIL, hI₀, off, hS, R⟩ := h₂
  refine LCt.block_T W hsz hIo hSt hcell hkind hx hst hfp F N hIL hI₀ off hS R ?_
  intro D C h tk m' ys news' F' N' o1 hn hC₀ hD₀ hCL hDL hCD offC fin
  exact fin_end F' N' o1 hn hC₀ hD₀ hCL hDL hCD offC fin

/-- a tuple or a list that the ground or the ledger bears -/
def SeqAt (ty : String) (h₀ : Heap) (ax : Addr) (its : Array Value) (news : List (Addr × Obj)) : Prop :=
  (∃ o, h₀.get? ax = some o ∧ o.cls = .type ty ∧ ∃ n, o.data = .seq its n) ∨ ∃ o, (ax, o) ∈ news ∧ o.cls = .type ty ∧ ∃ n, o.data = .seq its n
theorem SeqAt.here {ty : String} {h : Heap} {ax : Addr} {its : Array Value} {news : List (Addr × Obj)} (x : SeqAt ty h₀ ax its news) (k : ∀ b o, h₀.get? b = some o → h.get? b = some o) (N : News h₀ L h news) :
    ∃ o, h.get? ax = some o ∧ o.cls = .type ty ∧ ∃ n, o.data = .seq its n := by
  rcases x with ⟨o, e, r⟩ | ⟨o, hm, r⟩
  · exact ⟨o, k _ _ e, r⟩
  · exact ⟨o, (N _ hm).1, r⟩
theorem tup_st {ax I : Addr} {its : Array Value} : ∀ i (h h' : Heap) (o : Obj) (nw : List (Addr × Obj)), (h.IsTupleIter I ax i ∧ h.IsTuple ax its) → h.get? I = some o → h'.get? I = some o → (∀ b o, h₀.get? b = some o → h'.get? b = some o) → News h₀ L h' nw → SeqAt "tuple" h₀ ax its nw → (h'.IsTupleIter I ax i ∧ h'.IsTuple ax its) :=
  fun i h h' o nw st e e' k N S => ⟨by obtain ⟨o', q, r⟩ := st.1; rw [e] at q; cases q; exact ⟨o, e', r⟩, S.here k N⟩
theorem lst_st {ax I : Addr} {its : Array Value} : ∀ i (h h' : Heap) (o : Obj) (nw : List (Addr × Obj)), (h.IsListIter I ax i ∧ h.IsList ax its) → h.get? I = some o → h'.get? I = some o → (∀ b o, h₀.get? b = some o → h'.get? b = some o) → News h₀ L h' nw → SeqAt "list" h₀ ax its nw → (h'.IsListIter I ax i ∧ h'.IsList ax its) :=
  fun i h h' o nw st e e' k N S => ⟨by obtain ⟨o', q, r⟩ := st.1; rw [e] at q; cases q; exact ⟨o, e', r⟩, S.here k N⟩
theorem str_st {I : Addr} {x : PySem.Str} {t : Tok} {ty : String} : ∀ i (h h' : Heap) (o : Obj) (nw : List (Addr × Obj)), h.IsStrIter I ty x t i → h.get? I = some o → h'.get? I = some o → (∀ b o, h₀.get? b = some o → h'.get? b = some o) → News h₀ L h' nw → True → h'.IsStrIter I ty x t i :=
  fun i h h' o nw st e e' _ _ _ => by obtain ⟨o', q, r⟩ := st; rw [e] at q; cases q; exact ⟨o, e', r⟩

section src
variable {ct elt : PySem.Expr} {x : PySem.Str} {scope : PySem.Scope} {cl : List (PySem.Str × Addr)} {Fin : Shared → List Value → List (Addr × Obj) → Prop} {ax : Addr} {its : Array Value} {news : List (Addr × Obj)}
theorem srcTup (hh : A.handled = none) (F : Fr h₀ L s.heap m) (N : News h₀ L s.heap news) (ht : SeqAt "tuple" h₀ ax its news) (hsz : its.size ≤ sizeLine)
    (h : ∀ g, CompRest prog w A h₀ L m env elt x scope cl { s with heap := g } (SeqAt "tuple" h₀ ax its) (fun i v => its[i]? = some v) (Fin { s with heap := g }) its.size 0 [] news) :
    wpAny (model prog w) A (pyIter (.ref ax)) (SrcG prog w A h₀ L m env elt x scope cl Fin) E s := by
  have hl : s.heap.IsTuple ax its := ht.here F.keep N
  have hlt : ax < s.heap.objs.size := by obtain ⟨_, e, _⟩ := hl; exact Heap.lt_size e
  have up : ∀ b o, s.heap.get? b = some o → (s.heap.push { cls := .type "tuple_iterator", data := .fields #[.ref ax, .int 0 0] }).get? b = some o := fun b o e => Heap.get?_push_of_some _ e
  refine wpAny_pyIter_tuple hl ⟨_, _, _, _, _, _, news, rfl, Walks.tuple hh s.heap.objs.size ax (Nat.ne_of_lt hlt) its, hsz, fun i h st => by obtain ⟨o, e, _⟩ := st.1; exact ⟨o, e⟩, tup_st, ⟨⟨_, Heap.get?_push_size _ rfl, rfl, rfl⟩, hl.at fun o e => up _ o e⟩, fun b hb => ?_,
    F.keeps up, N.grown up, Nat.ne_of_lt F.ns.lt, next_is_new F, fun p hp => Nat.ne_of_lt (Heap.lt_size (N p hp).1), ht, h _⟩
  show b < (s.heap.push _).objs.size
  rw [Heap.size_push]
  rcases List.mem_cons.mp hb with rfl | hb
  · exact Nat.lt_succ_self _
  · rw [List.mem_singleton.mp hb]; exact Nat.lt_succ_of_lt hlt
theorem srcLst (hh : A.handled = none) (F : Fr h₀ L s.heap m) (N : News h₀ L s.heap news) (ht : SeqAt "list" h₀ ax its news) (hsz : its.size ≤ sizeLine)
    (h : ∀ g, CompRest prog w A h₀ L m env elt x scope cl { s with heap := g } (SeqAt "list" h₀ ax its) (fun i v => its[i]? = some v) (Fin { s with heap := g }) its.size 0 [] news) :
    wpAny (model prog w) A (pyIter (.ref ax)) (SrcG prog w A h₀ L m env elt x scope cl Fin) E s := by
  have hl : s.heap.IsList ax its := ht.here F.keep N
  have hlt : ax < s.heap.objs.size := by obtain ⟨_, e, _⟩ := hl; exact Heap.lt_size e
  have up : ∀ b o, s.heap.get? b = some o → (s.heap.push { cls := .type "list_iterator", data := .fields #[.ref ax, .int 0 0] }).get? b = some o := fun b o e => Heap.get?_push_of_some _ e
  refine wpAny_pyIter_list hl ⟨_, _, _, _, _, _, news, rfl, Walks.list hh s.heap.objs.size ax (Nat.ne_of_lt hlt) its, hsz, fun i h st => by obtain ⟨o, e, _⟩ := st.1; exact ⟨o, e⟩, lst_st, ⟨⟨_, Heap.get?_push_size _ rfl, rfl, rfl⟩, hl.at fun o e => up _ o e⟩, fun b hb => ?_,
    F.keeps up, N.grown up, Nat.ne_of_lt F.ns.lt, next_is_new F, fun p hp => Nat.ne_of_lt (Heap.lt_size (N p hp).1), ht, h _⟩
  show b < (s.heap.push _).objs.size
  rw [Heap.size_push]
  rcases List.mem_cons.mp hb with rfl | hb
  · exact Nat.lt_succ_self _
  · rw [List.mem_singleton.mp hb]; exact Nat.lt_succ_of_lt hlt
theorem srcLstT (hh : A.handled = none) (F : Fr h₀ L s.heap m) (N : News h₀ L s.heap news) (ht : SeqAt "list" h₀ ax its news) (hsz : its.size ≤ sizeLine)
    (h : ∀ g, LCt.CompRestT prog w A h₀ L m env ct elt x scope cl { s with heap := g } (SeqAt "list" h₀ ax its) (fun i v => its[i]? = some v) (Fin { s with heap := g }) its.size 0 [] news) :
    wpAny (model prog w) A (pyIter (.ref ax)) (SrcGT prog w A h₀ L m env ct elt x scope cl Fin) E s := by
  have hl : s.heap.IsList ax its := ht.here F.keep N
  have hlt : ax < s.heap.objs.size := by obtain ⟨_, e, _⟩ := hl; exact Heap.lt_size e
  have up : ∀ b o, s.heap.get? b = some o → (s.heap.push { cls := .type "list_iterator", data := .fields #[.ref ax, .int 0 0] }).get? b = some o := fun b o e => Heap.get?_push_of_some _ e
  refine wpAny_pyIter_list hl ⟨_, _, _, _, _, _, news, rfl, Walks.list hh s.heap.objs.size ax (Nat.ne_of_lt hlt) its, hsz, fun i h st => by obtain ⟨o, e, _⟩ := st.1; exact ⟨o, e⟩, lst_st, ⟨⟨_, Heap.get?_push_size _ rfl, rfl, rfl⟩, hl.at fun o e => up _ o e⟩, fun b hb => ?_,
    F.keeps up, N.grown up, Nat.ne_of_lt F.ns.lt, next_is_new F, fun p hp => Nat.ne_of_lt (Heap.lt_size (N p hp).1), ht, h _⟩
  show b < (s.heap.push _).objs.size
  rw [Heap.size_push]
  rcases List.mem_cons.mp hb with rfl | hb
  · exact Nat.lt_succ_self _
  · rw [List.mem_singleton.mp hb]; exact Nat.lt_succ_of_lt hlt
theorem srcStrT {y : PySem.Str} {t : Tok} (hh : A.handled = none) (F : Fr h₀ L s.heap m) (N : News h₀ L s.heap news) (hsz : y.cps.size ≤ sizeLine)
    (h : ∀ g, LCt.CompRestT prog w A h₀ L m env ct elt x scope cl { s with heap := g } (fun _ => True) (SignAt y) (Fin { s with heap := g }) y.cps.size 0 [] news) :
    wpAny (model prog w) A (pyIter (.str y t)) (SrcGT prog w A h₀ L m env ct elt x scope cl Fin) E s := by
  have go : ∀ ty, Walks prog w A s.heap.objs.size [s.heap.objs.size] [s.heap.objs.size] y.cps.size (SignAt y) (fun i h => h.IsStrIter s.heap.objs.size ty y t i) →
      SrcGT prog w A h₀ L m env ct elt x scope cl Fin (.ref s.heap.objs.size) { s with heap := s.heap.push { cls := .type ty, data := .fields #[.str y t, .int 0 0] } } := fun ty W => by
    have up : ∀ b o, s.heap.get? b = some o → (s.heap.push { cls := .type ty, data := .fields #[.str y t, .int 0 0] }).get? b = some o := fun b o e => Heap.get?_push_of_some _ e
    refine ⟨_, _, _, _, _, _, news, rfl, W, hsz, fun i h st => by obtain ⟨o, e, _⟩ := st; exact ⟨o, e⟩, str_st, ⟨_, Heap.get?_push_size _ rfl, rfl, rfl⟩, fun b hb => ?_,
      F.keeps up, N.grown up, Nat.ne_of_lt F.ns.lt, next_is_new F, fun p hp => Nat.ne_of_lt (Heap.lt_size (N p hp).1), trivial, h _⟩
    show b < (s.heap.push _).objs.size
    rw [Heap.size_push, List.mem_singleton.mp hb]
    exact Nat.lt_succ_self _
  cases ha : y.cps.all (· < 128)
  · exact wpAny_pyIter_wide ha (go _ (Walks.strWide hh _ y t))
  · exact wpAny_pyIter_ascii ha (go _ (Walks.strAscii hh _ y t))
end src
end comp
end
-- part: MCover
section
theorem off_MCover : True := by w_top off; exact trivial

local macro_rules | `(tactic| walk_at "eval ListComp") => `(tactic| (k_here; k_dflt (refine ListComp_G (by k_asm) (by with_unfolding_all rfl) (by decide) (by rfl) (by decide) (by rfl) ?_)))
local macro_rules | `(tactic| walk_at "pyIter ref") => `(tactic| (k_here; (with_reducible show wpAny _ _ (pyIter _) (SrcG _ _ _ _ _ _ _ _ _ _ _ _) _ _); (with_reducible rename Fr _ _ _ _ => kF); (with_reducible rename News _ _ _ _ => kN); refine srcTup (by assumption) kF kN (.inr ⟨_, .head _, rfl, _, rfl⟩) (by simp [sizeLine_eq]) ?_; intro g'; lcg_lit))
def cnt3 (b0 b1 b2 : Bool) : Int := (if b0 then 1 else 0) + (if b1 then 1 else 0) + (if b2 then 1 else 0)
theorem count_bools3 {prog : Program} {w : World} {A : Around} {E : Value → Shared → Prop} {s : Shared} {l : Addr} {b0 b1 b2 : Bool} {Q : Value → Shared → Prop} (hl : s.heap.IsList l [Value.bool b0, .bool b1, .bool b2].toArray)
    (h : Q (.int (cnt3 b0 b1 b2) s.toks) { s with toks := s.toks + 1 }) : wpAny (model prog w) A (call (.builtin "list.count") [.ref l, .bool true]) Q E s := by
  refine count_list_bools (hp := s.heap) (xs := [.bool b0, .bool b1, .bool b2]) hl (ReadsAll.cons (Reads.bool b0) (ReadsAll.cons (Reads.bool b1) (ReadsAll.cons (Reads.bool b2) ReadsAll.nil))) (by rfl) ?_
  have e : countIn (.bool true) [PyData.bool b0, .bool b1, .bool b2] = cnt3 b0 b1 b2 := by cases b0 <;> cases b1 <;> cases b2 <;> decide +kernel
  rw [e]; exact h
def inNames (names : List PySem.Str) (a b : Nat) : Bool := names.any (· == ⟨#[a, b]⟩)
theorem cover_spec : ∀ {w : World} {dp un : Nat} {gd : Option (List Code)} {outer : List Env} {base g : Heap} {s : Shared} {mean : ExcName → Option Value} {mg mb : PySem.Str → Option Value} {R : Result → Shared → Prop} (_ : Below ({ handled := none, depth := dp, frames := some outer, guards := gd, units := un } : Around) base outer g) (_ : ∀ b o, g.get? b = some o → s.heap.get? b = some o) (_ : g.objs.size ≤ s.heap.objs.size) (_ : (hd.heap_1 w.params).In g) (_ : Top qv looseL mean mg mb g) (_ : ({ handled := none, depth := dp, frames := some outer, guards := gd, units := un } : Around).handled = none) (_ : dp + 1 < recursionLimit) (_ : un + 8 < cLine)
    {n : Addr} {vs : List Value} {names : List PySem.Str} (_ : g.IsList n vs.toArray) (_ : StrsAre vs names) {a b c : Nat} {t : Tok}
    (_ : ∀ l h' tk', (∀ b o, g.get? b = some o → h'.get? b = some o) → g.get? l = none → h'.get? l = some (listOf #[.bool (inNames names b a), .bool (inNames names c b), .bool (inNames names a c)] 3) → R (.ok (.ret (.ref l))) { s with heap := h', toks := tk' }),
    codeAny (model PySem.Challenge.rw_tr0054_01.prog w) ({ handled := none, depth := dp, frames := some outer, guards := gd, units := un } : Around) (.call (.ref 249) ⟨[.ref n, .str ⟨#[a, b, c]⟩ t], []⟩) R s := by
  k_fill
  intro w dp un gd outer base g s mean mg mb R B kg sz X T hh hd hu n vs names hl hs a b c t ret
  have N0 : ∀ q ∈ ([] : List (Addr × Obj)), s.heap.get? q.1 = some q.2 ∧ g.get? q.1 = none := fun _ h => nomatch h
  k_dflt (first | (refine' enterG ?k1 ?k2 ?k3 ?k4 ?k5 ?k6 ?k7 ?k8 ?k9 ?kb ?kB ?_ ?c2 ?c3 ?c4 ?c5; (case k1 => k_asm); (case k2 => k_asm); (case k3 => k_asm); (case k4 => k_asm); (case k5 => k_asm); (case k6 => k_asm); (case k7 => k_is); (case k8 => k_is); (case k9 => ktr_room); (case kb => first | exact BindsTo.of_eq rfl | exact binds_K (by k_in) rfl (by k_is) rfl rfl rfl); (case c5 => decide); (case kB => exact locs rfl); (case c2 => exact rfl); (case c3 => exact rfl); (case c4 => exact rfl); k_whole; intro L' h' F' N' l1; (try k_lt l1); (try dsimp only); (try k_fold)) | (refine' enterGC ?k1 ?k2 ?k3 ?k4 ?k5 ?k6 ?k7 ?k8 ?k9 ?kb ?kB ?kD ?_ ?c2 ?c3 ?c4; (case k1 => k_asm); (case k2 => k_asm); (case k3 => k_asm); (case k4 => k_asm); (case k5 => k_asm); (case k6 => k_asm); (case k7 => k_is); (case k8 => k_is); (case k9 => ktr_room); (case kb => first | exact BindsTo.of_eq rfl | exact binds_K (by k_in) rfl (by k_is) rfl rfl rfl); (case kB => exact rfl); (case kD => decide +kernel); (case c2 => exact rfl); (case c3 => exact rfl); (case c4 => exact rfl); k_whole; intro L' h' tk' cells' F' N' Y' l1; (try k_lt l1); k_cells Y'; (try simp only [List.cons_append, List.nil_append] at N'); (try dsimp only); (try k_fold)))
  k_steps
  (with_reducible rename Fr _ _ _ _ => fX); (with_reducible rename News _ _ _ _ => nX)
  exact ret _ _ _ fX.keep (nX _ (.head _)).2.2 (nX _ (.head _)).1
end
-- part: MCatch
section
theorem off_MCatch : True := by w_top off; exact trivial
section
variable {prog : Program} {w : World} {A₀ : Around} {E : Value → Shared → Prop} {s' : Shared} {base g G : Heap} {outer : List Env} {L a e t : Addr} {m : PySem.Str → Option Value} {name x : PySem.Str} {scope : PySem.Scope} {cd cls c : Value} {cl : List (PySem.Str × Addr)}
  {vs : List Value} {b₀ : PySem.Stmt} {suite body : List PySem.Stmt} {pos np : Pos} {rest hs : List PySem.ExceptHandler} {nm : Option PySem.Str} {Q : Flow → Shared → Prop} {news : List (Addr × Obj)} {KF : Frag}
  {p : Program} {loose : List PySem.Str} {mean : ExcName → Option Value} {mg mb : PySem.Str → Option Value}
theorem lookE (R : RaisedS base G (envX name scope L a cd cl :: outer) e cls t vs news s'.heap) (K : Below A₀ base outer g) (hsm : G.UpToSlots s'.heap)
    (k : ∀ h', RaisedS base G (envX name scope L a cd cl :: outer) e cls t vs news h' → G.UpToSlots h' → wpAny (model prog w) (A₀.deeper (envX name scope L a cd cl)) (handleBy (.ref e) (envX name scope L a cd cl) hs) Q E { s' with heap := h' }) :
    wpAny (model prog w) (A₀.deeper (envX name scope L a cd cl)) (noteFrame (.ref e) (envX name scope L a cd cl))
      (fun _ s₂ => wpAny (model prog w) (A₀.deeper (envX name scope L a cd cl)) (setFlight (.ref e) none) (fun _ s₃ =>
        wpAny (model prog w) (A₀.deeper (envX name scope L a cd cl)) (handleBy (.ref e) (envX name scope L a cd cl) hs) Q E s₃) E s₂) E s' := by
  obtain ⟨⟨B, hB, hBG, hl, hfl, hnew⟩, htup⟩ := R
  refine wpAny_looks_onW (Around.frames_deeper K.stack) rfl hfl fun h₄ hheld₄ hsm₄ => ?_
  refine wpAny_landsW hheld₄ fun h₅ hheld hsm₅' => ?_
  exact k h₅ ⟨⟨B, hB, hBG, hl, hheld, hnew⟩, htup.of_slots (hsm₄.trans hsm₅')⟩ (hsm.trans (hsm₄.trans hsm₅'))
theorem groundE {B h₅ : Heap} (K : Below A₀ base outer g) (F : Fr g L G m) (hBG : ∀ b o, G.get? b = some o → b ∉ (envX name scope L a cd cl :: outer).filterMap (·.frame) → B.get? b = some o) (hBh : B.StaysIn h₅) (hsm : G.UpToSlots h₅) :
    ∃ g', KtsTurn (outer.filterMap (·.frame)) g g' ∧ Fr g' L h₅ m ∧ Below A₀ base outer g' :=
  kts_ground (name := name) (scope := scope) (a := a) (cd := cd) K F hBG hBh hsm
theorem passE (R : RaisedS base G (envX name scope L a cd cl :: outer) e cls t vs news s'.heap) (F : Fr g L G m) (K : Below A₀ base outer g) (hsm : G.UpToSlots s'.heap) (XB : KF.In base) (TB : Top p loose mean mg mb base)
    (ex : nsIn KF mainGlobals x = some (some c)) (he : exmOne KF cls c = some false)
    (k : wpAny (model prog w) (A₀.deeper (envX name scope L a cd cl)) (handleBy (.ref e) (envX name scope L a cd cl) rest) Q E s')
    (hk : scope.kind = .function := by rfl) (hx : (envX name scope L a cd cl).kindOf x = some .globalImplicit := by rfl) (hd : (x == ("__debug__" : PySem.Str)) = false := by decide) :
    wpAny (model prog w) (A₀.deeper (envX name scope L a cd cl)) (handleBy (.ref e) (envX name scope L a cd cl) (.ExceptHandler (some (.Name x np)) nm body pos :: rest)) Q E s' := by
  have R' := R
  obtain ⟨⟨B, hB, hBG, hl, hfl, hnew⟩, htup⟩ := R'
  obtain ⟨g₅, T₅, F₅, K₅⟩ := groundE K F hBG hfl.1 hsm
  have X₅ := XB.keeps K₅.stays
  refine wpAny_handleBy_cons (codeAny_handlers_test (nameX_K F₅ X₅ (topRead_of (TB.keeps K₅.stays)) ex ?_ hk hx hd)) (by intro q; cases q)
  exact (exm_one (X₅.keeps F₅.keep) R.toSN.ty he).here k
theorem hitE (R : RaisedS base G (envX name scope L a cd cl :: outer) e cls t vs news s'.heap) (F : Fr g L G m) (K : Below A₀ base outer g) (hsm : G.UpToSlots s'.heap) (XB : KF.In base) (TB : Top p loose mean mg mb base)
    (ex : nsIn KF mainGlobals x = some (some c)) (he : exmOne KF cls c = some true)
    (k : ∀ h' g', KtsTurn (outer.filterMap (·.frame)) g g' → Fr g' L h' m →
      wpAny (model prog w) ((A₀.deeper (envX name scope L a cd cl)).mark (some (.ref e))) (execs (b₀ :: suite) (envX name scope L a cd cl)) Q (fun _ _ => False) { s' with heap := h' })
    (hk : scope.kind = .function := by rfl) (hx : (envX name scope L a cd cl).kindOf x = some .globalImplicit := by rfl) (hd : (x == ("__debug__" : PySem.Str)) = false := by decide) :
    wpAny (model prog w) (A₀.deeper (envX name scope L a cd cl)) (handleBy (.ref e) (envX name scope L a cd cl) (.ExceptHandler (some (.Name x np)) none (b₀ :: suite) pos :: rest)) Q E s' := by
  have R' := R
  obtain ⟨⟨B, hB, hBG, hl, hfl, hnew⟩, htup⟩ := R'
  obtain ⟨g₅, T₅, F₅, K₅⟩ := groundE K F hBG hfl.1 hsm
  have X₅ := XB.keeps K₅.stays
  refine wpAny_handleBy_cons (codeAny_handlers_test (nameX_K F₅ X₅ (topRead_of (TB.keeps K₅.stays)) ex ?_ hk hx hd)) (by intro q; cases q)
  refine (exm_one (X₅.keeps F₅.keep) R.toSN.ty he).here (codeAny_handlers_suite ?_)
  refine lands_againW hfl fun h₆ hfl₆ hsm₆ => ?_
  obtain ⟨g₆, T₆, F₆, K₆⟩ := groundE K F hBG hfl₆.1 (hsm.trans hsm₆)
  exact wpAny_mono (k h₆ g₆ T₆ F₆) (fun _ _ q => q) fun _ _ q => q.elim
end
end
-- part: MReply
section
theorem off_MReply : True := by w_top off; exact trivial
def marks : List PySem.Str := [⟨#[124]⟩, ⟨#[33]⟩, ⟨#[47]⟩, ⟨#[35]⟩]
def replyOf (head : String) (mark : PySem.Str) (k num : Int) : PySem.Str :=
  Str.ofString head ++ Str.ofString " at (" ++ Txt.mul mark k ++ Str.ofString (toString num) ++ mark ++ Str.ofString ")"
def partsOf (k : Nat) (num : Int) : List PySem.Str := List.replicate k Str.empty ++ [Str.ofString (toString num), Str.empty]
def seenB (x : PySem.Str) (r : Int) (parts : List PySem.Str) : Bool :=
  decide (x.length < 1000) && decide (9 < x.length) && decide (Txt.slice x none (some 3) = Str.ofString "229") && decide (Txt.find x (Str.ofString "(") = 7)
  && decide (Txt.find3 x (Str.ofString ")") (Txt.find x (Str.ofString "(") + 1) = r) && decide (9 < r) && decide (r < x.length)
  && decide (Txt.item x (Txt.find x (Str.ofString "(") + 1) = Txt.item x (Txt.find3 x (Str.ofString ")") (Txt.find x (Str.ofString "(") + 1) - 1))
  && decide (Txt.split (Txt.slice x (some (Txt.find x (Str.ofString "(") + 1)) (some (Txt.find3 x (Str.ofString ")") (Txt.find x (Str.ofString "(") + 1)))) (Txt.item x (Txt.find x (Str.ofString "(") + 1)) = parts)
theorem seen_of {x : PySem.Str} {r : Int} {parts : List PySem.Str} (h : seenB x r parts = true) : Seen229 x r parts := by
  simp only [seenB, Bool.and_eq_true, decide_eq_true_eq] at h
  obtain ⟨⟨⟨⟨⟨⟨⟨⟨a, b⟩, c⟩, d⟩, e⟩, f⟩, g⟩, i⟩, j⟩ := h
  exact ⟨a, b, c, d, e, f, g, i, j⟩
theorem seen_all : (marks.all fun mark => [2, 3, 4].all fun k : Nat => (List.range 8).all fun d => seenB (replyOf "229" mark k d) (10 + k) (partsOf k d)) = true := by decide +kernel
theorem miss_all : (marks.all fun mark => [2, 3, 4, 5].all fun k : Nat => (List.range 8).all fun d => decide (Txt.slice (replyOf "226" mark k d) none (some 3) ≠ Str.ofString "229") && decide ((replyOf "226" mark k d).length < 1000)) = true := by decide +kernel
theorem num_all : ((List.range 8).all fun d => decide (PySem.intText? ((partsOf 3 d).getD (Int.toNat 3) Str.empty) = some (d : Int)) && decide (((partsOf 3 d).getD (Int.toNat 3) Str.empty).length ≤ 5)) = true := by decide +kernel
theorem seen_reply {mark : PySem.Str} {k num : Int} (hm : mark ∈ marks) (h0 : 0 ≤ num) (h8 : num < 8) (k2 : 2 ≤ k) (k4 : k ≤ 4) : Seen229 (replyOf "229" mark k num) (10 + k) (partsOf k.toNat num) := by
  obtain ⟨d, rfl⟩ := Int.eq_ofNat_of_zero_le h0
  obtain ⟨j, rfl⟩ := Int.eq_ofNat_of_zero_le (by omega : 0 ≤ k)
  have q := List.all_eq_true.mp (List.all_eq_true.mp (List.all_eq_true.mp seen_all mark hm) j (by simp; omega)) d (List.mem_range.mpr (by omega))
  exact seen_of q
theorem miss_reply {mark : PySem.Str} {k num : Int} (hm : mark ∈ marks) (h0 : 0 ≤ num) (h8 : num < 8) (k2 : 2 ≤ k) (k5 : k ≤ 5) : Txt.slice (replyOf "226" mark k num) none (some 3) ≠ Str.ofString "229" ∧ (replyOf "226" mark k num).length < 1000 := by
  obtain ⟨d, rfl⟩ := Int.eq_ofNat_of_zero_le h0
  obtain ⟨j, rfl⟩ := Int.eq_ofNat_of_zero_le (by omega : 0 ≤ k)
  have q := List.all_eq_true.mp (List.all_eq_true.mp (List.all_eq_true.mp miss_all mark hm) j (by simp; omega)) d (List.mem_range.mpr (by omega))
  rw [Bool.and_eq_true, decide_eq_true_eq, decide_eq_true_eq] at q
  exact q
theorem num_reply {num : Int} (h0 : 0 ≤ num) (h8 : num < 8) : PySem.intText? ((partsOf 3 num).getD (Int.toNat 3) Str.empty) = some num ∧ ((partsOf 3 num).getD (Int.toNat 3) Str.empty).length ≤ 5 := by
  obtain ⟨d, rfl⟩ := Int.eq_ofNat_of_zero_le h0
  have q := List.all_eq_true.mp num_all d (List.mem_range.mpr (by omega))
  rw [Bool.and_eq_true, decide_eq_true_eq, decide_eq_true_eq] at q
  exact q
theorem mul_short {mark : PySem.Str} {k : Int} (hm : mark ∈ marks) (k0 : 0 ≤ k) (hk : k ≤ 5) : (Txt.mul mark k).length ≤ 5 := by
  obtain ⟨j, rfl⟩ := Int.eq_ofNat_of_zero_le k0
  have q : (marks.all fun mark => (List.range 6).all fun j => decide ((Txt.mul mark (j : Nat)).length ≤ 5)) = true := by decide +kernel
  exact decide_eq_true_eq.mp (List.all_eq_true.mp (List.all_eq_true.mp q mark hm) j (List.mem_range.mpr (by omega)))
theorem mark_one {mark : PySem.Str} (hm : mark ∈ marks) : mark.length = 1 := by
  have q : (marks.all fun mark => decide (mark.length = 1)) = true := by decide +kernel
  exact decide_eq_true_eq.mp (List.all_eq_true.mp q mark hm)
end
-- part: MAnswer
section
theorem off_MAnswer : True := by w_top off; exact trivial
def Stop (P : Prop) : Prop := P
theorem stop_intro {P : Prop} (h : Stop P) : P := h

section restT
open LCg LCt
variable {prog : Program} {w : World} {A : Around} {s : Shared} {h₀ : Heap} {L : Addr} {m : PySem.Str → Option Value} {env : Env}
/-- a comprehension with one test that hands on its own letter: the items that the test takes -/
theorem restT_self {ct : PySem.Expr} {x : PySem.Str} {px : Pos} {scope : PySem.Scope} {cl : List (PySem.Str × Addr)} {S : List (Addr × Obj) → Prop} {P : Nat → Value → Prop} {Fin : List Value → List (Addr × Obj) → Prop} (p : Value → Bool) {news : List (Addr × Obj)} (hS : S news) (n : Nat)
    (turn : ∀ i v I oI C oC D m₂ h tk (E' : Value → Shared → Prop) ys, i < n → P i v → NsObj oC m₂ → m₂ x = some v → Fr h₀ L h m → News h₀ L h ((I, oI) :: (C, oC) :: (D, lst ys) :: news) → Off3 I C D news → ((@Ne Nat I C) ∧ (@Ne Nat I D) ∧ (@Ne Nat C D)) →
      wpAny (model prog w) A (isTrue ct (compEnvC scope cl C env) (eval ct (compEnvC scope cl C env))) (fun ok s' => ok = p v ∧ ∃ h' tk', s' = { s with heap := h', toks := tk' } ∧ Fr h₀ L h' m ∧ News h₀ L h' ((I, oI) :: (C, oC) :: (D, lst ys) :: news)) E' { s with heap := h, toks := tk })
    (hk : ∀ C, (compEnvC scope cl C env).scope.kind = .function) (hl : ∀ C, (compEnvC scope cl C env).kindOf x = some .local) (hd : (x == ("__debug__" : PySem.Str)) = false)
    (fin : ∀ vs : List Value, vs.length = n → (∀ j v, vs[j]? = some v → P j v) → Fin (vs.filter p) news) :
    CompRestT prog w A h₀ L m env ct (.Name x px) x scope cl s S P Fin n 0 [] news := by
  have go : ∀ k i (vs : List Value), i + k = n → vs.length = i → (∀ j v, vs[j]? = some v → P j v) → CompRestT prog w A h₀ L m env ct (.Name x px) x scope cl s S P Fin k i (vs.filter p) news := by
    intro k
    induction k with
    | zero =>
      intro i vs hi hl hP
      exact CompRestT.zero (fin vs (by omega) hP)
    | succ k ih =>
      intro i vs hi hlen hP
      refine CompRestT.succ fun v I oI C oC D m₂ h tk E' hv hC hx F N off ne => ?_
      refine wpAny_mono (turn i v I oI C oC D m₂ h tk E' _ (by omega) hv hC hx F N off ne) (fun ok s' h' => ?_) fun _ _ e => e
      obtain ⟨rfl, h₁, tk₁, rfl, F₁, N₁⟩ := h'
      have hP' : ∀ j u, (vs ++ [v])[j]? = some u → P j u := fun j u hj => by
        rcases Nat.lt_trichotomy j vs.length with q | q | q
        · exact hP j u (by rwa [List.getElem?_append_left q] at hj)
        · subst q; simp at hj; subst hj; rw [hlen]; exact hv
        · have hnone : (vs ++ [v])[j]? = none := List.getElem?_eq_none (by rw [List.length_append, List.length_singleton]; omega)
          rw [hnone] at hj; cases hj
      have ih' := ih (i + 1) (vs ++ [v]) (by omega) (by rw [List.length_append, List.length_singleton, hlen]) hP'
      rw [List.filter_append] at ih'
      cases hp : p v with
      | true =>
        rw [List.filter_cons, hp] at ih'
        simp only [if_true]
        refine ldVarK (hC.ns (N₁ _ (.tail _ (.head _))).1) hx ?_ (hk C) (hl C) hd
        exact CompEnd.intro F₁ N₁ news (fun _ q => q) off hS ih'
      | false =>
        rw [List.filter_cons, hp] at ih'
        simp only [Bool.false_eq_true, if_false, List.filter_nil, List.append_nil] at ih' ⊢
        exact CompEnd.intro F₁ N₁ news (fun _ q => q) off hS ih'
  exact go n 0 [] (by omega) rfl (fun j v h => by simp at h)
end restT

def joined (names : List PySem.Str) : PySem.Str := Txt.join (Str.ofString "") names
theorem off1_of {l : Addr} : ∀ {news : List (Addr × Obj)}, (∀ p ∈ news, p.1 ≠ l) → LCg.Off1 l news
  | [], _ => trivial
  | _ :: _, h => ⟨h _ (.head _), off1_of fun p hp => h p (.tail _ hp)⟩
theorem fresh_off {h : Heap} {l a : Addr} {o : Obj} (k : h.get? l = none) (e : h.get? a = some o) : a ≠ l := fun q => by rw [q, k] at e; cases e
theorem fresh_ne {g h : Heap} {L l : Addr} {m : PySem.Str → Option Value} (F : Fr g L h m) (k : h.get? l = none) : l ≠ L := fun q => by
  obtain ⟨oL, _, _, ho, _⟩ := F.ns
  rw [q] at k; rw [k] at ho; cases ho
theorem fresh_g {g h : Heap} {L l : Addr} {m : PySem.Str → Option Value} (F : Fr g L h m) (k : h.get? l = none) : g.get? l = none := by
  cases e : g.get? l with
  | none => rfl
  | some o => have := F.keep _ _ e; rw [k] at this; cases this
theorem cover_use {w : World} {dp un : Nat} {gd : Option (List Code)} {A₀ : Around} {E : Value → Shared → Prop} {env : Env} {outer : List Env} {base g : Heap} {L : Addr} {m : PySem.Str → Option Value} {news : List (Addr × Obj)} {s : Shared} {mean : ExcName → Option Value} {mg mb : PySem.Str → Option Value} {Q : Value → Shared → Prop}
    (B : Below A₀ base outer g) (F : Fr g L s.heap m) (X : (hd.heap_1 w.params).In g) (N : News g L s.heap news) (T : Top qv looseL mean mg mb g) (hf : env.frame = some L) (hke : env.scope.kind = .function) (hd : dp + 1 < recursionLimit) (hu : un + 8 < cLine)
    {n : Addr} {vs : List Value} {names : List PySem.Str} (hl : s.heap.IsList n vs.toArray) (hs : StrsAre vs names) {a b c : Nat} {t : Tok}
    (ret : ∀ l h' tk', Fr g L h' m → News g L h' ((l, listOf #[.bool (inNames names b a), .bool (inNames names c b), .bool (inNames names a c)] 3) :: news) → LCg.Off1 l news → Q (.ref l) { s with heap := h', toks := tk' }) :
    wpAny (model PySem.Challenge.rw_tr0054_01.prog w) { handled := none, depth := dp, frames := some (env :: outer), guards := gd, units := un } (call (.ref 249) [.ref n, .str ⟨#[a, b, c]⟩ t]) Q E s := by
  have B' := pushX B F hf hke
  have B'' : Below ({ handled := none, depth := dp, frames := some (env :: outer), guards := gd, units := un } : Around) base (env :: outer) s.heap := ⟨rfl, B'.stays, B'.frames⟩
  refine wpAny_call (cover_spec B'' (fun _ _ e => e) (Nat.le_refl _) (X.keeps F.keep) (T.keeps F.keep) rfl hd hu hl hs fun l h' tk' k1 k2 k3 => ?_)
  refine ret l h' tk' (F.grownK k1) (fun p hp => ?_) (off1_of fun p hp => fresh_off k2 (N p hp).1)
  · rcases List.mem_cons.mp hp with rfl | hp
    · exact ⟨k3, fresh_ne F k2, fresh_g F k2⟩
    · exact ⟨k1 _ _ (N p hp).1, (N p hp).2⟩

local macro_rules | `(tactic| walk_at "call ref") => `(tactic| ((with_reducible show wpAny _ _ (call (Value.ref 89) _ _) _ _ _); refine stop_intro ?_))
local macro_rules | `(tactic| walk_at "exec Try") => `(tactic| (k_here; refine wpAny_Try_except ?_))
local macro_rules | `(tactic| walk_at "call ref") => `(tactic| ((with_reducible show wpAny _ _ (call (Value.ref 249) _ _) _ _ _); k_dflt (refine' cover_use ?b1 ?b2 ?b3 ?b4 ?b5 ?b7 ?b8 ?b10 ?b11 ?b12 ?b13 ?_; (case b1 => k_asm); (case b2 => k_asm); (case b3 => k_asm); (case b4 => k_asm); (case b5 => k_asm); (case b7 => rfl); (case b8 => rfl); (case b10 => ktr_room); (case b11 => ktr_units); (case b12 => exact Fr.lst (by assumption) (by assumption)); (case b13 => assumption)); intro D' h' tk' F' N' o1'; (try simp only [LCg.Off1, and_true] at o1')))
local macro_rules | `(tactic| walk_at "call builtin:list.count") => `(tactic| (k_here; (with_reducible show wpAny _ _ (call (Value.builtin _) [Value.ref _, Value.bool _]) _ _ _); k_dflt (refine count_bools3 (by is_list) ?_)))
local macro_rules | `(tactic| walk_at "eval ListComp") => `(tactic| (k_here; k_dflt (refine ListComp_GT (by k_asm) (by with_unfolding_all rfl) (by decide) (by rfl) (by decide) (by rfl) ?_)))
local macro_rules | `(tactic| walk_at "pyIter str") => `(tactic| (k_here; (with_reducible show wpAny _ _ (pyIter _) (SrcGT _ _ _ _ _ _ _ _ _ _ _ _ _) _ _); (with_reducible rename Fr _ _ _ _ => kF); (with_reducible rename News _ _ _ _ => kN); refine srcStrT (by rfl) kF kN (by simp [sizeLine_eq]) ?_; intro g'; refine stop_intro ?_))
def takenBy (J : PySem.Str) (v : Value) : Bool := match v with | .str x _ => !(Builtin.Str.occurrences J x 0 J.length 1).isEmpty | _ => false
def hit (J : PySem.Str) (c : Nat) : Bool := decide (c ∈ J.cps.toList)
def touch3 (J : PySem.Str) (a b c : Nat) : Int := cnt3 (hit J a) (hit J b) (hit J c)
theorem three_taken {J : PySem.Str} {a b c : Nat} {vs : List Value} (hl : vs.length = (⟨#[a, b, c]⟩ : PySem.Str).cps.size) (hP : ∀ j v, vs[j]? = some v → SignAt ⟨#[a, b, c]⟩ j v) : ((vs.filter (takenBy J)).length : Int) = touch3 J a b c := by
  obtain ⟨x, y, z, rfl⟩ := list3 hl
  · skip
    obtain ⟨c1, u1, h1, rfl⟩ := hP 0 x rfl
    obtain ⟨c2, u2, h2, rfl⟩ := hP 1 y rfl
    obtain ⟨c3, u3, h3, rfl⟩ := hP 2 z rfl
    have e1 : c1 = a := (Option.some.inj h1).symm
    have e2 : c2 = b := (Option.some.inj h2).symm
    have e3 : c3 = c := (Option.some.inj h3).symm
    subst e1 e2 e3
    have e : ∀ c u, takenBy J (.str ⟨#[c]⟩ u) = hit J c := fun c u => by
      show (!(Builtin.Str.occurrences J ⟨#[c]⟩ 0 J.length 1).isEmpty) = _
      rw [StrLaws.found_one]; rfl
    unfold touch3 cnt3
    rw [List.filter_cons, e, List.filter_cons, e, List.filter_cons, e, List.filter_nil]
    generalize hit J c1 = x1
    generalize hit J c2 = x2
    generalize hit J c3 = x3
    cases x1 <;> cases x2 <;> cases x3 <;> rfl
theorem len_taken {prog : Program} {w : World} {A : Around} {E : Value → Shared → Prop} {s : Shared} {l : Addr} {vs : List Value} {k : Int} {Q : Value → Shared → Prop} (hl : s.heap.IsList l vs.toArray) (e : (vs.length : Int) = k) (hk : k ≤ 100)
    (h : Q (.int k (s.toks + 1)) { s with toks := s.toks + 1 + 1 }) : wpAny (model prog w) A (call (.builtin "len") [.ref l]) Q E s := by
  subst e
  refine len_list hl (by rw [List.size_toArray]; omega) ?_
  rw [List.size_toArray]; exact h
theorem cnt3_in (x y z : Bool) : 0 ≤ cnt3 x y z ∧ cnt3 x y z ≤ 3 := by cases x <;> cases y <;> cases z <;> decide
theorem touch3_in (J : PySem.Str) (a b c : Nat) : 0 ≤ touch3 J a b c ∧ touch3 J a b c ≤ 3 := cnt3_in _ _ _
theorem touch3_le (J : PySem.Str) (a b c : Nat) : touch3 J a b c ≤ 100 := by unfold touch3 cnt3; (repeat' split) <;> omega
local macro_rules | `(tactic| walk_at "call builtin:str.join") => `(tactic| (k_here; refine join_listW (by first | exact Fr.lst (by assumption) (by assumption) | is_list) (by assumption) (by decide) (by omega) ?_; intro _ _))
local macro_rules | `(tactic| walk_at "call builtin:len") => `(tactic| (k_here; refine len_taken (by is_list) (three_taken (by assumption) (by assumption)) (touch3_le _ _ _ _) ?_))
theorem dictsX {g h : Heap} {L : Addr} {m : PySem.Str → Option Value} {fs : List Addr} (D : KtsDicts fs g) (F : Fr g L h m) : KtsDicts (L :: fs) h := fun b hb => by
  rcases List.mem_cons.mp hb with rfl | hb
  · obtain ⟨o, es, n, ho, hd, _⟩ := F.ns
    exact ⟨o, es, n, ho, hd⟩
  · obtain ⟨o, es, n, ho, hd⟩ := D b hb
    exact ⟨o, es, n, F.keep _ _ ho, hd⟩
section
variable {w : World} {dp un : Nat} {gd : Option (List Code)} {A₀ : Around} {E : Value → Shared → Prop} {outer : List Env} {base g : Heap} {L a : Addr} {m : PySem.Str → Option Value} {s : Shared} {mean : ExcName → Option Value} {mg mb : PySem.Str → Option Value} {Q : Value → Shared → Prop}
  {name : PySem.Str} {scope : PySem.Scope} {cd : Value} {cl : List (PySem.Str × Addr)}
theorem parse_use_reply (B : Below A₀ base outer g) (F : Fr g L s.heap m) (X : (hd.heap_1 w.params).In g) (T : Top qv looseL mean mg mb g) (XB : (hd.heap_1 w.params).In base) (TB : Top qv looseL mean mg mb base) (D : KtsDicts (outer.filterMap (·.frame)) g) (hd : dp + 1 < recursionLimit) (hu : un + 8 < cLine)
    {x : PySem.Str} {t : Tok} {p : Value} (hx : x.length < 1000) (hne : Txt.slice x none (some 3) ≠ Str.ofString "229")
    (ret : ∀ e ta tk' h' news, RaisedS base s.heap (envX name scope L a cd cl :: outer) e (.ref 68) ta [.str x t] news h' → s.heap.UpToSlots h' → E (.ref e) { s with heap := h', toks := tk' }) (hke : scope.kind = .function := by rfl) :
    wpAny (model PySem.Challenge.rw_tr0054_01.prog w) { handled := none, depth := dp, frames := some (envX name scope L a cd cl :: outer), guards := gd, units := un } (call (.ref 89) [.str x t, p]) Q E s := by
  have B' := pushX (env := envX name scope L a cd cl) B F rfl hke
  have B'' : Below ({ handled := none, depth := dp, frames := some (envX name scope L a cd cl :: outer), guards := gd, units := un } : Around) base (envX name scope L a cd cl :: outer) s.heap := ⟨rfl, B'.stays, B'.frames⟩
  exact wpAny_call (parse_reply B'' (fun _ _ e => e) (Nat.le_refl _) (X.keeps F.keep) (T.keeps F.keep) rfl XB TB (dictsX D F) hd hu hx hne ret)
theorem parse_use_ill (B : Below A₀ base outer g) (F : Fr g L s.heap m) (X : (hd.heap_1 w.params).In g) (T : Top qv looseL mean mg mb g) (XB : (hd.heap_1 w.params).In base) (TB : Top qv looseL mean mg mb base) (D : KtsDicts (outer.filterMap (·.frame)) g) (hd : dp + 1 < recursionLimit) (hu : un + 8 < cLine)
    {x : PySem.Str} {t : Tok} {p : Addr} {f : PySem.Str} {u v : Tok} {r : Int} {parts : List PySem.Str} (hp : IsTup s.heap p [.str f u, .int 21 v].toArray) (hs : Seen229 x r parts) (h5 : parts.length ≠ 5) (h9 : parts.length < 100)
    (ret : ∀ e ta tk' h' news, RaisedS base s.heap (envX name scope L a cd cl :: outer) e (.ref 80) ta [.str x t] news h' → s.heap.UpToSlots h' → E (.ref e) { s with heap := h', toks := tk' }) (hke : scope.kind = .function := by rfl) :
    wpAny (model PySem.Challenge.rw_tr0054_01.prog w) { handled := none, depth := dp, frames := some (envX name scope L a cd cl :: outer), guards := gd, units := un } (call (.ref 89) [.str x t, .ref p]) Q E s := by
  have B' := pushX (env := envX name scope L a cd cl) B F rfl hke
  have B'' : Below ({ handled := none, depth := dp, frames := some (envX name scope L a cd cl :: outer), guards := gd, units := un } : Around) base (envX name scope L a cd cl :: outer) s.heap := ⟨rfl, B'.stays, B'.frames⟩
  exact wpAny_call (parse_ill B'' (fun _ _ e => e) (Nat.le_refl _) (X.keeps F.keep) (T.keeps F.keep) rfl XB TB (dictsX D F) hd hu hp hs h5 h9 ret)
theorem parse_use_ok (B : Below A₀ base outer g) (F : Fr g L s.heap m) (X : (hd.heap_1 w.params).In g) (T : Top qv looseL mean mg mb g) (hd : dp + 1 < recursionLimit) (hu : un + 8 < cLine)
    {x : PySem.Str} {t : Tok} {p : Addr} {f : PySem.Str} {u v : Tok} {r : Int} {parts : List PySem.Str} {num : Int} (hp : IsTup s.heap p [.str f u, .int 21 v].toArray) (hs : Seen229 x r parts) (h5 : parts.length = 5) (hn : PySem.intText? (parts.getD (Int.toNat 3) Str.empty) = some num) (hl : (parts.getD (Int.toNat 3) Str.empty).length ≤ 5)
    (ret : ∀ l h' tk' ta tb, Fr g L h' m → g.get? l = none → h'.get? l = some { cls := .type "tuple", data := .seq #[.str f ta, .int num tb] } → Q (.ref l) { s with heap := h', toks := tk' }) (hke : scope.kind = .function := by rfl) :
    wpAny (model PySem.Challenge.rw_tr0054_01.prog w) { handled := none, depth := dp, frames := some (envX name scope L a cd cl :: outer), guards := gd, units := un } (call (.ref 89) [.str x t, .ref p]) Q E s := by
  have B' := pushX (env := envX name scope L a cd cl) B F rfl hke
  have B'' : Below ({ handled := none, depth := dp, frames := some (envX name scope L a cd cl :: outer), guards := gd, units := un } : Around) base (envX name scope L a cd cl :: outer) s.heap := ⟨rfl, B'.stays, B'.frames⟩
  exact wpAny_call (parse_ok B'' (fun _ _ e => e) (Nat.le_refl _) (X.keeps F.keep) (T.keeps F.keep) rfl hd hu hp hs h5 hn hl fun l h' tk' ta tb k1 k2 k3 => ret l h' tk' ta tb (F.grownK k1) (fresh_g F k2) k3)
end
def sharedOf (names : List PySem.Str) (a b c : Nat) : Int := cnt3 (inNames names b a) (inNames names c b) (inNames names a c)
def touchOf (names : List PySem.Str) (a b c : Nat) : Int := touch3 (Txt.join (Str.ofString "") names) a b c
theorem join_nil_toList (names : List PySem.Str) : (Txt.join (Str.ofString "") names).cps.toList = names.flatMap (·.cps.toList) := by
  have e : Txt.join (Str.ofString "") names = Str.join (Str.ofString "") names := StrLaws.glued_eq_join _ _
  rw [e]
  have g : ∀ l : List PySem.Str, (Str.join (Str.ofString "") l).cps.toList = l.flatMap (·.cps.toList) := fun l => by
    induction l with
    | nil => rfl
    | cons x r ih =>
      cases r with
      | nil => simp [Str.join]
      | cons y r =>
        show ((x ++ Str.ofString "") ++ Str.join (Str.ofString "") (y :: r)).cps.toList = _
        rw [Str.cps_append, Str.cps_append, Array.toList_append, Array.toList_append, ih, List.flatMap_cons]
        have : (Str.ofString "").cps.toList = [] := rfl
        rw [this, List.append_nil, List.flatMap_cons, List.flatMap_cons]
  exact g names
theorem in_touch {names : List PySem.Str} {a b : Nat} (h : inNames names a b = true) : hit (Txt.join (Str.ofString "") names) a = true ∧ hit (Txt.join (Str.ofString "") names) b = true := by
  obtain ⟨n, hn, e⟩ := List.any_eq_true.mp h
  rw [beq_iff_eq] at e
  subst e
  unfold hit
  rw [decide_eq_true_eq, decide_eq_true_eq, join_nil_toList, List.mem_flatMap, List.mem_flatMap]
  exact ⟨⟨_, hn, by simp⟩, ⟨_, hn, by simp⟩⟩
theorem shared_touch (names : List PySem.Str) (a b c : Nat) : (sharedOf names a b c = 1 → 2 ≤ touchOf names a b c) ∧ (2 ≤ sharedOf names a b c → 3 ≤ touchOf names a b c) := by
  unfold sharedOf touchOf touch3 cnt3
  have h1 := @in_touch names b a
  have h2 := @in_touch names c b
  have h3 := @in_touch names a c
  generalize inNames names b a = x at *
  generalize inNames names c b = y at *
  generalize inNames names a c = z at *
  generalize hit (Txt.join (Str.ofString "") names) a = p at *
  generalize hit (Txt.join (Str.ofString "") names) b = q at *
  generalize hit (Txt.join (Str.ofString "") names) c = r at *
  revert h1 h2 h3
  revert x y z p q r
  decide
theorem answer_spec : ∀ {w : World} {dp un : Nat} {gd : Option (List Code)} {outer : List Env} {base g : Heap} {s : Shared} {mean : ExcName → Option Value} {mg mb : PySem.Str → Option Value} {R : Result → Shared → Prop} (_ : Below ({ handled := none, depth := dp, frames := some outer, guards := gd, units := un } : Around) base outer g) (_ : ∀ b o, g.get? b = some o → s.heap.get? b = some o) (_ : g.objs.size ≤ s.heap.objs.size) (_ : (hd.heap_1 w.params).In g) (_ : Top qv looseL mean mg mb g) (_ : ({ handled := none, depth := dp, frames := some outer, guards := gd, units := un } : Around).handled = none) (_ : (hd.heap_1 w.params).In base) (_ : Top qv looseL mean mg mb base) (_ : KtsDicts (outer.filterMap (·.frame)) g) (_ : dp + 2 < recursionLimit) (_ : un + 16 < cLine)
    {n : Addr} {vs : List Value} {names : List PySem.Str} (_ : g.IsList n vs.toArray) (_ : StrsAre vs names) {a b c : Nat} {num : Int} {mark : PySem.Str} {t u v : Tok} (_ : (names.map (·.length)).sum + names.length ≤ 1000) (_ : 0 ≤ num) (_ : num < 8) (_ : mark ∈ marks)
    (_ : sharedOf names a b c = 0 → ∀ t' h' tk' g', KtsTurn (outer.filterMap (·.frame)) g g' → (∀ b o, g'.get? b = some o → h'.get? b = some o) → R (.ok (.ret (.str (Str.ofString "none") t'))) { s with heap := h', toks := tk' })
    (_ : 0 < sharedOf names a b c → touchOf names a b c + 2 - sharedOf names a b c ≠ 3 → ∀ t' h' tk' g', KtsTurn (outer.filterMap (·.frame)) g g' → (∀ b o, g'.get? b = some o → h'.get? b = some o) → R (.ok (.ret (.str (Str.ofString "ill") t'))) { s with heap := h', toks := tk' })
    (_ : 0 < sharedOf names a b c → touchOf names a b c + 2 - sharedOf names a b c = 3 → ∀ l h' tk' ta tb, (∀ b o, g.get? b = some o → h'.get? b = some o) → g.get? l = none → h'.get? l = some { cls := .type "tuple", data := .seq #[.str ⟨#[a, b, c]⟩ ta, .int num tb] } → R (.ok (.ret (.ref l))) { s with heap := h', toks := tk' }),
    codeAny (model PySem.Challenge.rw_tr0054_01.prog w) ({ handled := none, depth := dp, frames := some outer, guards := gd, units := un } : Around) (.call (.ref 254) ⟨[.ref n, .str ⟨#[a, b, c]⟩ t, .int num u, .str mark v], []⟩) R s := by
  k_fill
  intro w dp un gd outer base g s mean mg mb R B kg sz X T hh XB TB D hd hu n vs names hl hs a b c num mark t u v hw h0 h8 hm none ill ok
  have N0 : ∀ q ∈ ([] : List (Addr × Obj)), s.heap.get? q.1 = some q.2 ∧ g.get? q.1 = Option.none := fun _ h => nomatch h
  have q1 := cnt3_in (inNames names b a) (inNames names c b) (inNames names a c)
  have q2 := touch3_in (Txt.join (Str.ofString "") names) a b c
  have q4 : touch3 (Txt.join (Str.ofString "") names) a b c + 2 - cnt3 (inNames names b a) (inNames names c b) (inNames names a c) ≤ 5 := by omega
  have q5 := shared_touch names a b c
  have q6 : sharedOf names a b c = cnt3 (inNames names b a) (inNames names c b) (inNames names a c) := rfl
  have q7 : touchOf names a b c = touch3 (Txt.join (Str.ofString "") names) a b c := rfl
  have q3 : (Txt.mul mark (touch3 (Txt.join (Str.ofString "") names) a b c + 2 - cnt3 (inNames names b a) (inNames names c b) (inNames names a c))).length ≤ 5 := mul_short hm (by omega) (by omega)
  have hm1 := mark_one hm
  have h10 : num < 10 := by omega
  k_dflt (first | (refine' enterG ?k1 ?k2 ?k3 ?k4 ?k5 ?k6 ?k7 ?k8 ?k9 ?kb ?kB ?_ ?c2 ?c3 ?c4 ?c5; (case k1 => k_asm); (case k2 => k_asm); (case k3 => k_asm); (case k4 => k_asm); (case k5 => k_asm); (case k6 => k_asm); (case k7 => k_is); (case k8 => k_is); (case k9 => ktr_room); (case kb => first | exact BindsTo.of_eq rfl | exact binds_K (by k_in) rfl (by k_is) rfl rfl rfl); (case c5 => decide); (case kB => exact locs rfl); (case c2 => exact rfl); (case c3 => exact rfl); (case c4 => exact rfl); k_whole; intro L' h' F' N' l1; (try k_lt l1); (try dsimp only); (try k_fold)) | (refine' enterGC ?k1 ?k2 ?k3 ?k4 ?k5 ?k6 ?k7 ?k8 ?k9 ?kb ?kB ?kD ?_ ?c2 ?c3 ?c4; (case k1 => k_asm); (case k2 => k_asm); (case k3 => k_asm); (case k4 => k_asm); (case k5 => k_asm); (case k6 => k_asm); (case k7 => k_is); (case k8 => k_is); (case k9 => ktr_room); (case kb => first | exact BindsTo.of_eq rfl | exact binds_K (by k_in) rfl (by k_is) rfl rfl rfl); (case kB => exact rfl); (case kD => decide +kernel); (case c2 => exact rfl); (case c3 => exact rfl); (case c4 => exact rfl); k_whole; intro L' h' tk' cells' F' N' Y' l1; (try k_lt l1); k_cells Y'; (try simp only [List.cons_append, List.nil_append] at N'); (try dsimp only); (try k_fold)))
  k_steps
  unfold Stop
  refine restT_self (takenBy (Txt.join (Str.ofString "") names)) trivial _ ?turn (fun _ => rfl) (fun _ => rfl) (by decide) ?fin
  case turn =>
    intro i v I oI C oC D m₂ h tk E' ys hi hv hC hx F N off ne
    obtain ⟨cc, u', hc, rfl⟩ := hv
    simp only [LCg.Off3, and_true] at off
    k_steps
    all_goals assumption
  case fin =>
    intro vs hvl hvP D' h' tk' F' N' o1'
    simp only [LCg.Off1, and_true] at o1'
    (try dsimp only)
    k_steps
    all_goals unfold Stop
    · rename 0 < _ => hpos
      by_cases h3 : touchOf names a b c + 2 - sharedOf names a b c = 3
      · have sn := seen_reply (k := touchOf names a b c + 2 - sharedOf names a b c) hm h0 h8 (by omega) (by omega)
        (with_reducible rename Fr _ _ _ _ => fX); (with_reducible rename News _ _ _ _ => nX)
        refine parse_use_ok B fX X T (by ktr_room) (by ktr_units) ⟨_, (nX _ (.head _)).1, rfl, _, rfl⟩ sn ?_ ?_ ?_ fun l h' tk' ta tb F₂ hn hl => ok hpos h3 l h' tk' ta tb F₂.keep hn hl
        all_goals (rw [h3])
        · rfl
        · exact (num_reply h0 h8).1
        · exact (num_reply h0 h8).2
      · have sn := seen_reply (k := touchOf names a b c + 2 - sharedOf names a b c) hm h0 h8 (by omega) (by omega)
        (with_reducible rename Fr _ _ _ _ => fX); (with_reducible rename News _ _ _ _ => nX)
        refine parse_use_ill B fX X T XB TB D (by ktr_room) (by ktr_units) ⟨_, (nX _ (.head _)).1, rfl, _, rfl⟩ sn (by unfold partsOf; simp; omega) (by unfold partsOf; simp; omega) fun e ta tk' h' nw rX uX => ?_
        refine lookE rX B uX fun h₂ rY uY => ?_
        refine passE rY fX B uY XB TB (c := .ref 68) ?pn ?pt ?_
        case pn => k_is
        case pt => kts_exm
        refine hitE rY fX B uY XB TB (c := .ref 80) ?pn ?pt ?_
        case pn => k_is
        case pt => kts_exm
        intro h₃ g' T' F'
        k_steps
        all_goals exact ill hpos h3 _ _ _ g' T' F'.keep
    · have h00 : sharedOf names a b c = 0 := by omega
      have sn := miss_reply (k := touchOf names a b c + 2 - sharedOf names a b c) hm h0 h8 (by omega) (by omega)
      (with_reducible rename Fr _ _ _ _ => fX)
      refine parse_use_reply B fX X T XB TB D (by ktr_room) (by ktr_units) sn.2 sn.1 fun e ta tk' h' nw rX uX => ?_
      refine lookE rX B uX fun h₂ rY uY => ?_
      refine hitE rY fX B uY XB TB (c := .ref 68) ?pn ?pt ?_
      case pn => k_is
      case pt => kts_exm
      intro h₃ g' T' F'
      k_steps
      all_goals exact none h00 _ _ _ g' T' F'.keep
end
-- part: MRe
section
theorem off_MRe : True := by w_top off; exact trivial
section
theorem re_plain : PlainAttrs "re.Pattern" :=
  ⟨⟨"object.__getattribute__", by rw [typeLookup_type, builtinLookup_eq_fast]; kernel_rfl, by decide +kernel⟩, by rw [typeLookup_type, builtinLookup_eq_fast]; kernel_rfl⟩
theorem re_slot : Slot "re.Pattern" "search" "re.Pattern.search" :=
  .of (owner := "re.Pattern") (n := "search") (by rw [typeLookup_type, builtinLookup_eq_fast]; kernel_rfl) (by decide +kernel) (by decide +kernel) (by decide +kernel)
    (by first | exact .inl (by decide +kernel) | exact .inr (by decide +kernel)) (by rw [isSubtype_type]; kernel_rfl)
theorem re_type : typeOf (.builtin "re.Pattern.search") = pure (.type "method_descriptor") := by show builtinType _ = _; rw [builtinType_eq_fast]; kernel_rfl
theorem re_entry : entryFor table "re.Pattern.search" = some Builtin.«re.Pattern.search» := entryFor_of_tree (by kernel_rfl)
theorem re_owner : Manifest.owners.lookup (String.ofList ['n', 'r', 'e', 't', 't', 'a', 'P', '.', 'e', 'r'].reverse) = some Manifest.sig_re_Pattern := by kernel_rfl
theorem re_args (a b : Value) : argsOk "re.Pattern.search" ⟨[a, b], []⟩ := by
  unfold argsOk; rw [signature?_of (id := "re.Pattern.search") (n := ['h', 'c', 'r', 'a', 'e', 's']) (o := ['n', 'r', 'e', 't', 't', 'a', 'P', '.', 'e', 'r']) (by kernel_rfl) re_owner]; kernel_rfl
end
def letters : List Nat := [97, 98, 99, 100, 101, 102, 65, 66, 67, 68, 69, 70]
def reA : Array Nat := #[14, 10, 4, 1, 1, 22, 0, 31, 16, 127, 0, 13, 7, 22, 0, 31, 16, 127, 0, 1]
def reB : Array Nat := #[14, 14, 4, 1, 1, 9, 4294966783, 0, 0, 2147483648, 0, 0, 0, 0, 0, 13, 11, 9, 4294966783, 0, 0, 2147483648, 0, 0, 0, 0, 0, 1]
def NoSet (code : Array Nat) : Prop := ∀ c ∈ letters, ∀ seen, ∃ seen', Sre.inSet code c code.size 5 true seen = .ok (false, seen')
theorem noA : NoSet reA := fun c hc seen => by
  simp only [letters, List.mem_cons, List.not_mem_nil, or_false] at hc
  rcases hc with rfl | rfl | rfl | rfl | rfl | rfl | rfl | rfl | rfl | rfl | rfl | rfl <;> exact ⟨_, rfl⟩
theorem noB : NoSet reB := fun c hc seen => by
  simp only [letters, List.mem_cons, List.not_mem_nil, or_false] at hc
  rcases hc with rfl | rfl | rfl | rfl | rfl | rfl | rfl | rfl | rfl | rfl | rfl | rfl <;> exact ⟨_, rfl⟩
theorem admitted_none {m : Sre.M} (hN : NoSet m.code) (ht : ∀ i, i < m.lim → m.text.getD i 0 ∈ letters) : ∀ (fuel s : Nat) (seen : Sre.Seen), ∃ seen', m.admitted fuel s seen = .ok (none, seen')
  | 0, _, seen => ⟨seen, rfl⟩
  | fuel + 1, s, seen => by
    unfold Sre.M.admitted
    by_cases h : s ≥ m.lim
    · exact ⟨seen, if_pos h⟩
    · rw [if_neg h]
      obtain ⟨seen', e⟩ := hN _ (ht s (by omega)) seen
      rw [e]
      exact admitted_none hN ht fuel (s + 1) seen'
theorem attempt_say {code text : Array Nat} (hc : code = reA ∨ code = reB) (ht : ∀ i, i < text.size → text.getD i 0 ∈ letters) {m : Sre.M} (e1 : m.code = code) (e2 : m.text = text) (e3 : m.lim = text.size) (e4 : m.outcome = none) (e5 : m.frames = []) :
    ∃ m0 : Sre.M, m.attemptFrom 0 true = m0.say false ∧ m0.outcome = none ∧ m0.frames = [] := by
  have hN : NoSet code := by rcases hc with rfl | rfl; exact noA; exact noB
  have hf : m.hasFirstSet = true := by
    unfold Sre.M.hasFirstSet
    rw [e1]
    rcases hc with rfl | rfl <;> rfl
  unfold Sre.M.attemptFrom
  rw [hf]
  obtain ⟨seen', e⟩ := admitted_none (m := m) (by rw [e1]; exact hN) (by rw [e2, e3]; exact ht) (m.lim + 1 - 0) 0 m.seen
  rw [e]
  exact ⟨{ m with seen := seen' }, rfl, e4, e5⟩
theorem search_say {code text : Array Nat} (hc : code = reA ∨ code = reB) (h1 : 1 ≤ text.size) (ht : ∀ i, i < text.size → text.getD i 0 ∈ letters) :
    ∃ m0 : Sre.M, Sre.forSearch code text 0 0 text.size false = m0.say false ∧ m0.outcome = none ∧ m0.frames = [] := by
  have hh : (Sre.header code).1 = 1 := by rcases hc with rfl | rfl <;> rfl
  unfold Sre.forSearch
  rw [hh]
  have hn : ¬((decide (0 > text.size) || decide (text.size - 0 < 1)) = true) := by rw [Bool.or_eq_true, decide_eq_true_eq, decide_eq_true_eq]; omega
  simp only [if_neg hn]
  exact attempt_say hc ht rfl rfl rfl rfl rfl
theorem search_fails {code text : Array Nat} (hc : code = reA ∨ code = reB) (h1 : 1 ≤ text.size) (ht : ∀ i, i < text.size → text.getD i 0 ∈ letters) :
    ((Sre.forSearch code text 0 0 text.size false).runFor 4).outcome = some .failed := by
  obtain ⟨m0, e, ho, hf⟩ := search_say hc h1 ht
  rw [e]
  have s1 : (m0.say false).step = { m0.say false with outcome := some .failed } := by
    unfold Sre.M.step Sre.M.say
    simp only [ho, hf]
    rfl
  unfold Sre.M.runFor
  have ho' : (m0.say false).outcome = none := ho
  rw [ho', s1]
  rfl

theorem rules_for {M : Model} {A : Around} {E : Value → Shared → Prop} {s : Shared} {Q : PUnit → Shared → Prop} (p : Nat → Bool) (f : Nat → String) : ∀ (l : List Nat) (_ : Q PUnit.unit s),
    wpAny M A (forIn l PUnit.unit (fun i _ => (if p i = true then (do rule (f i); pure (ForInStep.yield PUnit.unit)) else pure (ForInStep.yield PUnit.unit) : Sem (ForInStep PUnit)))) Q E s
  | [], h => wpAny_pure h
  | i :: r, h => by
    rw [List.forIn_cons]
    refine wpAny_bind ?_
    by_cases hp : p i = true
    · rw [if_pos hp]
      exact wpAny_bind (wpAny_rule (wpAny_pure (rules_for p f r h)))
    · rw [if_neg hp]
      exact wpAny_pure (rules_for p f r h)
theorem run_none {M : Model} {A : Around} {E : Value → Shared → Prop} {s : Shared} {Q : Option Sre.M → Shared → Prop} {m : Sre.M} (h : (m.runFor 4).outcome = some .failed) (q : Q none s) :
    wpAny M A (Builtin.Re.reRunToEnd m) Q E s := by
  unfold Builtin.Re.reRunToEnd
  have e : (2 : Nat) ^ 64 = 18446744073709551615 + 1 := rfl
  rw [e]
  unfold Builtin.Re.reDrive
  have h' : ((m.runFor Builtin.Re.reTurnSteps).outcome.isSome) = true := by
    show (m.runFor 4).outcome.isSome = true
    rw [h]; rfl
  simp only [h', if_true]
  refine wpAny_bind (wpAny_pure ?_)
  refine wpAny_bind ?_
  refine rules_for _ _ _ ?_
  have h'' : (m.runFor Builtin.Re.reTurnSteps).outcome = some .failed := h
  rw [h'']
  exact wpAny_pure q

def PatAt (h : Heap) (a : Addr) (code : Array Nat) : Prop := ∃ (o co : Obj) (vs : Array Value) (its : Array Value) (c n : Nat), h.get? a = some o ∧ o.data = .fields vs ∧ o.cls = .type "re.Pattern" ∧ o.dict = none ∧ Builtin.Re.reRawNat (vs.getD 6 .none) = 0 ∧ Builtin.Re.reRawNat (vs.getD 2 .none) = 0 ∧ vs.getD 5 .none = .ref c ∧
  h.get? c = some co ∧ co.data = .seq its n ∧ (its.map Builtin.Re.reRawOf).map (·.toNat) = code
theorem meets_search {a : Addr} {x : PySem.Str} {t : Tok} {code : Array Nat} (hc : code = reA ∨ code = reB) (h1 : 1 ≤ x.cps.size) (h9 : x.cps.size ≤ 1000) (ht : ∀ i, i < x.cps.size → x.cps.getD i 0 ∈ letters) :
    Meets (Builtin.«re.Pattern.search» ⟨[.ref a, .str x t], []⟩) (fun _ R s => PatAt s.heap a code ∧ R (.ok (.ret .none)) s) := by
  intro prog w A R s h
  obtain ⟨⟨o, co, vs, its, c, n, ho, hd, hcl, hdi, h6, h2, h5, hco, hcd, hcode⟩, hR⟩ := h
  unfold Builtin.«re.Pattern.search» Builtin.Re.reTarget
  have hn : Builtin.Re.reNamed "re.Pattern.search" "search" ["string", "pos", "endpos"] 1 [.str x t] [] = pure [some (.str x t), none, none] := rfl
  dsimp only
  rw [hn]
  refine wpAny_bind (wpAny_bind (wpAny_pure ?_))
  (try dsimp only)
  refine wpAny_bind (wpAny_pure ?_)
  (try dsimp only)
  refine wpAny_bind (wpAny_pure ?_)
  refine wpAny_bind (wpAny_fieldsOf ho hd ?_)
  have hx : Builtin.Re.reTextOf (.str x t) = pure (x.cps, 0) := rfl
  rw [hx]
  refine wpAny_bind (wpAny_pure ?_)
  (try dsimp only)
  (try rw [h6])
  rw [if_neg (by decide), if_neg (by decide)]
  refine wpAny_bind ?_
  have hy : Builtin.Re.reNoCollectionInside (.str x t) 0 = pure () := rfl
  rw [hy]
  refine wpAny_pure ?_
  rw [h5]
  refine wpAny_bind ?_
  unfold Builtin.Re.reRawItems
  refine wpAny_bind ?_
  unfold seqItems?
  (try dsimp only)
  refine wpAny_bind (wpAny_load hco ?_)
  rw [hcd]
  (try dsimp only)
  refine wpAny_pure (wpAny_pure (wpAny_pure ?_))
  (try dsimp only)
  rw [Option.getD_some, hcode, h2]
  have hp : min (0 : Int).toNat x.cps.size = 0 := by simp
  have hl : min ((2 : Int) ^ 63 - 1).toNat x.cps.size = x.cps.size := Nat.min_eq_right (by
    have : ((2 : Int) ^ 63 - 1).toNat = 9223372036854775807 := rfl
    omega)
  rw [hp, hl]
  unfold Builtin.Re.reAnswer
  refine wpAny_bind (run_none (search_fails hc h1 ht) ?_)
  exact wpAny_pure hR
end
-- part: MConv
section
theorem off_MConv : True := by w_top off; exact trivial
structure Word (x : PySem.Str) : Prop where
  one : 1 ≤ x.cps.size
  small : x.cps.size ≤ 10
  all : ∀ i, i < x.cps.size → x.cps.getD i 0 ∈ letters
theorem PatAt.keeps {g h : Heap} {a : Addr} {code : Array Nat} (P : PatAt g a code) (k : ∀ b o, g.get? b = some o → h.get? b = some o) : PatAt h a code := by
  obtain ⟨o, co, vs, its, c, n, ho, hd, hcl, hdi, h6, h2, h5, hco, hcd, hcode⟩ := P
  exact ⟨o, co, vs, its, c, n, k _ _ ho, hd, hcl, hdi, h6, h2, h5, k _ _ hco, hcd, hcode⟩
section
variable {prog : Program} {w : World} {A : Around} {E : Value → Shared → Prop} {s : Shared} {g : Heap} {L a : Addr} {m : PySem.Str → Option Value} {code : Array Nat}
theorem re_method {Q : Value × List Value → Shared → Prop} {pl : Sem Bool} (P : PatAt g a code) (F : Fr g L s.heap m) (h : Q (.builtin "re.Pattern.search", [.ref a]) s) : wpAny (model prog w) A (getMethod (.ref a) (Str.ofString "search") pl) Q E s := by
  obtain ⟨o, co, vs, its, c, n, ho, hd, hcl, hdi, h6, h2, h5, hco, hcd, hcode⟩ := P.keeps F.keep
  exact getMethod_builtin ⟨o, ho, hcl⟩ re_plain re_slot re_type (fun a e => by cases e; exact ⟨o, ho, hdi⟩) h
theorem re_call {Q : Value → Shared → Prop} {x : PySem.Str} {t : Tok} (P : PatAt g a code) (F : Fr g L s.heap m) (hc : code = reA ∨ code = reB) (W : Word x) (h : Q .none s) : wpAny (model prog w) A (call (.builtin "re.Pattern.search") [.ref a, .str x t]) Q E s := by
  have P' := P.keeps F.keep
  have P'' := P'
  obtain ⟨o, co, vs, its, c, n, ho, hd, hcl, hdi, h6, h2, h5, hco, hcd, hcode⟩ := P'
  exact call_meets re_slot ⟨o, ho, hcl⟩ re_entry (re_args _ _) (meets_search hc W.one (Nat.le_trans W.small (by decide)) W.all) ⟨P'', h⟩
end
theorem patOf {K : Frag} {g : Heap} {a c n : Nat} {o co : Obj} {vs its : Array Value} {code : Array Nat} (X : K.In g) (ho : K.lookup a = some o) (hco : K.lookup c = some co) (hd : o.data = .fields vs) (hcd : co.data = .seq its n) (hcl : o.cls = .type "re.Pattern") (hdi : o.dict = none)
    (h6 : Builtin.Re.reRawNat (vs.getD 6 .none) = 0) (h2 : Builtin.Re.reRawNat (vs.getD 2 .none) = 0) (h5 : vs.getD 5 .none = .ref c) (hcode : (its.map Builtin.Re.reRawOf).map (·.toNat) = code) : PatAt g a code :=
  ⟨o, co, vs, its, c, n, X _ _ ho, hd, hcl, hdi, h6, h2, h5, X _ _ hco, hcd, hcode⟩
theorem pat99 {w : World} {g : Heap} : (model PySem.Challenge.rw_tr0054_01.prog w) = (model PySem.Challenge.rw_tr0054_01.prog w) → (hd.heap_1 w.params).In g → PatAt g 99 reA := by
  k_fill
  intro _ X
  refine' patOf (c := 98) X ?p ?q ?x1 ?x2 ?x3 ?x4 ?x5 ?x6 ?x7 ?x8
  case p => k_is
  case q => k_is
  case x1 => rfl
  case x2 => rfl
  case x3 => rfl
  case x4 => rfl
  case x5 => rfl
  case x6 => rfl
  case x7 => rfl
  case x8 => simp [Builtin.Re.reRawOf, reA, reB]
theorem pat104 {w : World} {g : Heap} : (model PySem.Challenge.rw_tr0054_01.prog w) = (model PySem.Challenge.rw_tr0054_01.prog w) → (hd.heap_1 w.params).In g → PatAt g 104 reB := by
  k_fill
  intro _ X
  refine' patOf (c := 103) X ?p ?q ?x1 ?x2 ?x3 ?x4 ?x5 ?x6 ?x7 ?x8
  case p => k_is
  case q => k_is
  case x1 => rfl
  case x2 => rfl
  case x3 => rfl
  case x4 => rfl
  case x5 => rfl
  case x6 => rfl
  case x7 => rfl
  case x8 => simp [Builtin.Re.reRawOf, reA, reB]
local macro_rules | `(tactic| walk_at "getMethod ref") => `(tactic| ((with_reducible show wpAny _ _ (getMethod (Value.ref _) (Str.ofString "search") _) _ _ _); (with_reducible rename Fr _ _ _ _ => kF); refine re_method (by assumption) kF ?_))
local macro_rules | `(tactic| walk_at "call builtin:re.Pattern.search") => `(tactic| ((with_reducible rename Fr _ _ _ _ => kF); refine re_call (by assumption) kF (by first | exact .inl rfl | exact .inr rfl) (by assumption) ?_))
theorem conv_spec : ∀ {w : World} {dp un : Nat} {gd : Option (List Code)} {outer : List Env} {base g : Heap} {s : Shared} {mean : ExcName → Option Value} {mg mb : PySem.Str → Option Value} {R : Result → Shared → Prop} (_ : Below ({ handled := none, depth := dp, frames := some outer, guards := gd, units := un } : Around) base outer g) (_ : ∀ b o, g.get? b = some o → s.heap.get? b = some o) (_ : g.objs.size ≤ s.heap.objs.size) (_ : (hd.heap_1 w.params).In g) (_ : Top qv looseL mean mg mb g) (_ : ({ handled := none, depth := dp, frames := some outer, guards := gd, units := un } : Around).handled = none) (_ : dp + 1 < recursionLimit) (_ : un + 8 < cLine)
    {self : Value} {x : PySem.Str} {t : Tok} {nm : Bool} (_ : Word x)
    (_ : ∀ h' tk' t', (∀ b o, g.get? b = some o → h'.get? b = some o) → R (.ok (.ret (.str x t'))) { s with heap := h', toks := tk' }),
    codeAny (model PySem.Challenge.rw_tr0054_01.prog w) ({ handled := none, depth := dp, frames := some outer, guards := gd, units := un } : Around) (.call (.ref 134) ⟨[self, .str x t], [(Str.ofString "name", .bool nm)]⟩) R s := by
  k_fill
  intro w dp un gd outer base g s mean mg mb R B kg sz X T hh hd hu self x t nm W ret
  have p1 := pat99 rfl X
  have p2 := pat104 rfl X
  have N0 : ∀ q ∈ ([] : List (Addr × Obj)), s.heap.get? q.1 = some q.2 ∧ g.get? q.1 = none := fun _ h => nomatch h
  k_dflt (first | (refine' enterG ?k1 ?k2 ?k3 ?k4 ?k5 ?k6 ?k7 ?k8 ?k9 ?kb ?kB ?_ ?c2 ?c3 ?c4 ?c5; (case k1 => k_asm); (case k2 => k_asm); (case k3 => k_asm); (case k4 => k_asm); (case k5 => k_asm); (case k6 => k_asm); (case k7 => k_is); (case k8 => k_is); (case k9 => ktr_room); (case kb => first | exact BindsTo.of_eq rfl | exact binds_K (by k_in) rfl (by k_is) rfl rfl rfl); (case c5 => decide); (case kB => exact locs rfl); (case c2 => exact rfl); (case c3 => exact rfl); (case c4 => exact rfl); k_whole; intro L' h' F' N' l1; (try k_lt l1); (try dsimp only); (try k_fold)) | (refine' enterGC ?k1 ?k2 ?k3 ?k4 ?k5 ?k6 ?k7 ?k8 ?k9 ?kb ?kB ?kD ?_ ?c2 ?c3 ?c4; (case k1 => k_asm); (case k2 => k_asm); (case k3 => k_asm); (case k4 => k_asm); (case k5 => k_asm); (case k6 => k_asm); (case k7 => k_is); (case k8 => k_is); (case k9 => ktr_room); (case kb => first | exact BindsTo.of_eq rfl | exact binds_K (by k_in) rfl (by k_is) rfl rfl rfl); (case kB => exact rfl); (case kD => decide +kernel); (case c2 => exact rfl); (case c3 => exact rfl); (case c4 => exact rfl); k_whole; intro L' h' tk' cells' F' N' Y' l1; (try k_lt l1); k_cells Y'; (try simp only [List.cons_append, List.nil_append] at N'); (try dsimp only); (try k_fold)))
  k_steps
  all_goals ((with_reducible rename Fr _ _ _ _ => fX); exact ret _ _ _ fX.keep)
end
-- part: MTab
section
theorem off_MTab : True := by w_top off; exact trivial
local macro_rules | `(tactic| k_room) => `(tactic| ktr_room)
/-- a table's row: the header's name and its word -/
abbrev Ent := PySem.Str × PySem.Str
def PairAt (tups : List (Addr × Obj)) (v : Value) (e : Ent) : Prop := ∃ (p : Addr) (tk tw : Tok) (nt : Nat), v = .ref p ∧ (p, ({ cls := .type "tuple", data := .seq #[.str e.1 tk, .str e.2 tw] nt } : Obj)) ∈ tups
inductive PairsAre (tups : List (Addr × Obj)) : List Value → List Ent → Prop
  | nil : PairsAre tups [] []
  | cons {v : Value} {e : Ent} {vs : List Value} {ents : List Ent} (h : PairAt tups v e) (r : PairsAre tups vs ents) : PairsAre tups (v :: vs) (e :: ents)
theorem PairsAre.len {tups : List (Addr × Obj)} {vs : List Value} {ents : List Ent} (h : PairsAre tups vs ents) : vs.length = ents.length := by
  induction h with
  | nil => rfl
  | cons _ _ ih => exact congrArg (· + 1) ih
theorem PairsAre.at {tups : List (Addr × Obj)} {vs : List Value} {ents : List Ent} (h : PairsAre tups vs ents) {i : Nat} {v : Value} (e : vs[i]? = some v) : ∃ e, ents[i]? = some e ∧ PairAt tups v e := by
  induction h generalizing i with
  | nil => cases e
  | cons h _ ih => cases i with
    | zero => cases e; exact ⟨_, rfl, h⟩
    | succ i => exact ih e
theorem PairsAre.more {tups tups' : List (Addr × Obj)} (k : ∀ p ∈ tups, p ∈ tups') {vs : List Value} {ents : List Ent} (h : PairsAre tups vs ents) : PairsAre tups' vs ents := by
  induction h with
  | nil => exact .nil
  | cons h _ ih => obtain ⟨p, tk, tw, nt, e, m⟩ := h; exact .cons ⟨p, tk, tw, nt, e, k _ m⟩ ih
theorem PairsAre.append {tups : List (Addr × Obj)} {vs vs' : List Value} {ents ents' : List Ent} (h : PairsAre tups vs ents) (r : PairsAre tups vs' ents') : PairsAre tups (vs ++ vs') (ents ++ ents') := by
  induction h with
  | nil => exact r
  | cons h _ ih => exact .cons h ih
theorem strs_snoc {vs : List Value} {xs : List PySem.Str} (h : StrsAre vs xs) (x : PySem.Str) (t : Tok) : StrsAre (vs ++ [.str x t]) (xs ++ [x]) := StrsAre.append' h (StrsAre.cons x t StrsAre.nil)
theorem take_snoc {α : Type} {l : List α} {i : Nat} {a : α} (h : l[i]? = some a) : l.take (i + 1) = l.take i ++ [a] := by
  rw [List.take_add_one, h]; rfl
theorem off1_ne {l : Addr} : ∀ {news : List (Addr × Obj)}, LCg.Off1 l news → ∀ p ∈ news, p.1 ≠ l
  | [], _, _, h => nomatch h
  | _ :: _, o, p, h => by
    rcases List.mem_cons.mp h with rfl | h
    · exact o.1
    · exact off1_ne o.2 p h
section
open LCg LCp
variable {prog : Program} {w : World} {A : Around} {s : Shared} {h₀ : Heap} {L : Addr} {m : PySem.Str → Option Value} {env : Env}
theorem restP_key {x x₂ : PySem.Str} {px : Pos} {scope : PySem.Scope} {cl : List (PySem.Str × Addr)} {S : List (Addr × Obj) → Prop} {Fin : List Value → List (Addr × Obj) → Prop} {vs : List Value} {ents : List Ent} {tups news : List (Addr × Obj)}
    (hP : PairsAre tups vs ents) (hsub : ∀ p ∈ tups, p ∈ news) (hS : S news)
    (hk : ∀ C, (compEnvC scope cl C env).scope.kind = .function) (hl : ∀ C, (compEnvC scope cl C env).kindOf x = some .local) (hd : (x == ("__debug__" : PySem.Str)) = false)
    (fin : ∀ ys : List Value, StrsAre ys (ents.map (·.1)) → Fin ys news) :
    CompRestP prog w A h₀ L m env (.Name x px) x x₂ scope cl s S (fun i v => vs.toArray[i]? = some v) Fin vs.length 0 [] news := by
  have go : ∀ k i (ys : List Value), i + k = vs.length → StrsAre ys ((ents.take i).map (·.1)) → CompRestP prog w A h₀ L m env (.Name x px) x x₂ scope cl s S (fun i v => vs.toArray[i]? = some v) Fin k i ys news := by
    intro k
    induction k with
    | zero =>
      intro i ys hi hy
      refine CompRestP.zero (fin ys ?_)
      rw [List.take_of_length_le (by rw [← hP.len]; omega)] at hy
      exact hy
    | succ k ih =>
      intro i ys hi hy
      refine CompRestP.succ fun v hv => ?_
      obtain ⟨e, he, p, tk, tw, nt, rfl, hm⟩ := hP.at (by rw [← List.getElem?_toArray]; exact hv)
      refine ⟨p, _, _, _, nt, rfl, hsub _ hm, rfl, rfl, fun I oI C oC D m₂ h tk' E' hC hx hx₂ F N off ne => ?_⟩
      refine ldVarK (hC.ns (N _ (.tail _ (.head _))).1) hx ?_ (hk C) (hl C) hd
      refine CompEnd.intro F N news (fun _ q => q) off hS (ih (i + 1) _ (by omega) ?_)
      rw [take_snoc he, List.map_append]
      exact strs_snoc hy _ _
  exact go vs.length 0 [] (by omega) .nil
end
local macro_rules | `(tactic| walk_at "eval ListComp") => `(tactic| (k_here; lcp_look; k_dflt (refine LCp.ListComp_P (F₀ := by k_asm) (by with_unfolding_all rfl) (by decide) (by rfl) (by decide) (by rfl) (by rfl) (by decide) ?_); k_dflt lcp_toSrc))
local macro_rules | `(tactic| walk_at "SrcLP") => `(tactic| (k_here; refine stop_intro ?_))
theorem keys_spec : ∀ {w : World} {dp un : Nat} {gd : Option (List Code)} {outer : List Env} {base g : Heap} {s : Shared} {mean : ExcName → Option Value} {mg mb : PySem.Str → Option Value} {R : Result → Shared → Prop} (_ : Below ({ handled := none, depth := dp, frames := some outer, guards := gd, units := un } : Around) base outer g) (_ : ∀ b o, g.get? b = some o → s.heap.get? b = some o) (_ : g.objs.size ≤ s.heap.objs.size) (_ : (hd.heap_1 w.params).In g) (_ : Top qv looseL mean mg mb g) (_ : ({ handled := none, depth := dp, frames := some outer, guards := gd, units := un } : Around).handled = none) (_ : dp + 2 < recursionLimit) (_ : un + 16 < cLine)
    {T D H : Addr} {hsh : Int} {t : Tok} {vs : List Value} {n : Nat} {tups : List (Addr × Obj)} {ents : List Ent} (_ : ∀ q ∈ (H, W.listOf vs.toArray n) :: (T, instObj 235 D) :: (D, dictOf [⟨hsh, .str (Str.ofString "_headers") t, .ref H⟩] 1) :: tups, s.heap.get? q.1 = some q.2 ∧ g.get? q.1 = none)
    (_ : PairsAre tups vs ents) (_ : vs.length ≤ 1000)
    (_ : ∀ l ys h' tk', (∀ b o, g.get? b = some o → h'.get? b = some o) → (∀ q ∈ (H, W.listOf vs.toArray n) :: (T, instObj 235 D) :: (D, dictOf [⟨hsh, .str (Str.ofString "_headers") t, .ref H⟩] 1) :: tups, h'.get? q.1 = some q.2) → g.get? l = none → (∀ q ∈ (H, W.listOf vs.toArray n) :: (T, instObj 235 D) :: (D, dictOf [⟨hsh, .str (Str.ofString "_headers") t, .ref H⟩] 1) :: tups, q.1 ≠ l) → h'.get? l = some (LCg.lst ys) → StrsAre ys (ents.map (·.1)) → R (.ok (.ret (.ref l))) { s with heap := h', toks := tk' }),
    codeAny (model PySem.Challenge.rw_tr0054_01.prog w) ({ handled := none, depth := dp, frames := some outer, guards := gd, units := un } : Around) (.call (.ref 187) ⟨[.ref T], []⟩) R s := by
  k_fill
  intro w dp un gd outer base g s mean mg mb R B kg sz X T hh hdp hu T' D H hsh t vs n tups ents N0 hP hlen ret
  k_dflt (first | (refine' enterG ?k1 ?k2 ?k3 ?k4 ?k5 ?k6 ?k7 ?k8 ?k9 ?kb ?kB ?_ ?c2 ?c3 ?c4 ?c5; (case k1 => k_asm); (case k2 => k_asm); (case k3 => k_asm); (case k4 => k_asm); (case k5 => k_asm); (case k6 => k_asm); (case k7 => k_is); (case k8 => k_is); (case k9 => ktr_room); (case kb => first | exact BindsTo.of_eq rfl | exact binds_K (by k_in) rfl (by k_is) rfl rfl rfl); (case c5 => decide); (case kB => exact locs rfl); (case c2 => exact rfl); (case c3 => exact rfl); (case c4 => exact rfl); k_whole; intro L' h' F' N' l1; (try k_lt l1); (try dsimp only); (try k_fold)) | (refine' enterGC ?k1 ?k2 ?k3 ?k4 ?k5 ?k6 ?k7 ?k8 ?k9 ?kb ?kB ?kD ?_ ?c2 ?c3 ?c4; (case k1 => k_asm); (case k2 => k_asm); (case k3 => k_asm); (case k4 => k_asm); (case k5 => k_asm); (case k6 => k_asm); (case k7 => k_is); (case k8 => k_is); (case k9 => ktr_room); (case kb => first | exact BindsTo.of_eq rfl | exact binds_K (by k_in) rfl (by k_is) rfl rfl rfl); (case kB => exact rfl); (case kD => decide +kernel); (case c2 => exact rfl); (case c3 => exact rfl); (case c4 => exact rfl); k_whole; intro L' h' tk' cells' F' N' Y' l1; (try k_lt l1); k_cells Y'; (try simp only [List.cons_append, List.nil_append] at N'); (try dsimp only); (try k_fold)))
  k_steps
  all_goals unfold Stop
  (with_reducible rename Fr _ _ _ _ => fX); (with_reducible rename News _ _ _ _ => nX)
  refine LCp.SrcLP.ledger (by rfl) fX nX (.head _) (by size_fits) ?_
  intro g'
  refine restP_key hP (fun p hp => .tail _ (.tail _ (.tail _ hp))) ?_ (fun _ => rfl) (fun _ => rfl) (by decide) ?_
  · exact .inr ⟨_, .head _, rfl, _, rfl⟩
  · intro ys hy l h' tk' F' N' o1
    exact ret l ys h' tk' F'.keep (fun q hq => (N' q (.tail _ hq)).1) (N' _ (.head _)).2.2 (fun q hq => off1_ne o1 q hq) (N' _ (.head _)).1 hy
end
-- part: MSet
section
theorem off_MSet : True := by w_top off; exact trivial
theorem set_whole {prog : Program} {w : World} {A : Around} {E : Value → Shared → Prop} {s : Shared} {l sl l2 : Addr} {xs ys : Array Value} {n n2 : Nat} {Q : Unit → Shared → Prop} (hl : s.heap.get? l = some (W.listOf xs n)) (hs : s.heap.IsSliceOf sl .none .none .none) (h2 : s.heap.get? l2 = some (W.listOf ys n2)) (hne : l ≠ l2)
    (hx : xs.size ≤ 1000) (hy : ys.size ≤ 1000)
    (h : ∀ h' n', Heap.SameBut l s.heap h' → h'.get? l = some (W.listOf ys n') → Q () { s with heap := h' }) : wpAny (model prog w) A (setItem (.ref l) (.ref sl) (.ref l2)) Q E s := by
  have hT : s.TypeIs (.ref l) "list" := ⟨_, hl, rfl⟩
  have hTs : s.TypeIs (.ref sl) "slice" := let ⟨os, hos, hcs, _⟩ := hs; ⟨os, hos, hcs⟩
  have hT2 : s.TypeIs (.ref l2) "list" := ⟨_, h2, rfl⟩
  obtain ⟨os, hos, hcs, hds⟩ := id hs
  unfold setItem
  try with_reducible refine wpAny_holding ?_
  first | refine wpAny_bind (wpAny_pure ?_) | skip
  refine wpAny_bind (wpAny_sequenceKey hT (by decide) ?_)
  refine wpAny_bind (wpAny_callSpecial?_slot (name := Str.ofString "__setitem__") hT PySem.slot_list_setitem
    (wpAny_call_entry PySem.slot_list_setitem hT PySem.entry_list_setitem ?_ (PySem.args_list_setitem _ _ _)))
  show wpAny _ _ (Builtin.List.listSubscript? (.ref sl) >>= _) _ _ s
  refine wpAny_bind ?_
  unfold Builtin.List.listSubscript?
  refine wpAny_bind (wpAny_specialOf hTs PySem.slice_no_index ?_)
  simp only [Option.isNone_none, if_true]
  refine wpAny_pure ?_
  show wpAny _ _ (typeOf (.ref sl) >>= _) _ _ s
  refine wpAny_bind (wpAny_typeOf hTs ?_)
  rw [if_neg (by decide)]
  rw [PySem.listSliceParts_eq]
  refine wpAny_bind (wpAny_bind (wpAny_field hos hds (x := .none) rfl (wpAny_bind (wpAny_listPart .none ?_))))
  rw [if_neg (show ¬ ((rawPart none == rawInt 0) = true) from Bool.false_ne_true)]
  refine wpAny_bind (wpAny_field hos hds (x := .none) rfl (wpAny_bind (wpAny_listPart .none ?_)))
  refine wpAny_bind (wpAny_field hos hds (x := .none) rfl (wpAny_bind (wpAny_listPart .none (wpAny_pure ?_))))
  have hsr : Builtin.List.listSameRef (.ref l) (.ref l2) = false := by show (l == l2) = false; exact beq_false_of_ne hne
  simp only [hsr, Bool.false_eq_true, if_false]
  refine wpAny_bind (m := Builtin.List.listAllItems _ _) ?_
  unfold Builtin.List.listAllItems
  refine wpAny_bind (wpAny_typeOf hT2 ?_)
  rw [if_pos (by rfl)]
  unfold Builtin.List.listItems
  refine wpAny_bind (wpAny_seqItems h2 rfl (wpAny_pure ?_))
  refine wpAny_bind (m := Builtin.List.listItems (.ref l)) ?_
  unfold Builtin.List.listItems
  refine wpAny_bind (wpAny_seqItems hl rfl (wpAny_pure ?_))
  refine wpAny_bind (wpAny_of_eq (sliceIndices_raw none none none xs.size (by simp)) ?_)
  have hb : sliceBounds none none none xs.size = (0, (xs.size : Int), 1) := rfl
  rw [hb]
  dsimp only
  rw [if_pos (by rfl)]
  refine wpAny_bind (wpAny_rule ?_)
  rw [if_neg (by simp [Builtin.List.listTooLong, sizeLine_eq]; omega)]
  have hf : ∀ zs : Array Value, zs = xs → (zs.extract 0 (0 : Int).toNat ++ ys ++ zs.extract (max 0 (xs.size : Int)).toNat) = ys := fun zs e => by
    subst e
    have : (max 0 (zs.size : Int)).toNat = zs.size := by omega
    rw [this]
    simp
  have hmap : Obj.mapSeq (fun zs : Array Value => zs.extract 0 (0 : Int).toNat ++ ys ++ zs.extract (max 0 (xs.size : Int)).toNat) (W.listOf xs n) = W.listOf ys (if ys.size == xs.size then n else n + 1) := by
    show ({ cls := .type "list", data := .seq (xs.extract 0 (0 : Int).toNat ++ ys ++ xs.extract (max 0 (xs.size : Int)).toNat) (if (xs.extract 0 (0 : Int).toNat ++ ys ++ xs.extract (max 0 (xs.size : Int)).toNat).size == xs.size then n else n + 1) } : Obj) = _
    rw [hf _ rfl]
  unfold Builtin.List.listUpdate
  refine wpAny_bind (wpAny_updateSeq hl rfl ?_ (by simp [sizeLine_eq]; omega) (by rw [hf _ rfl]; simp [sizeLine_eq]; omega))
  refine wpAny_bind (wpAny_letGo ?_)
  show wpAny _ _ (pure (Fin.done (.ret .none))) _ _ _
  refine wpAny_pure ⟨_, rfl, wpAny_pure (h _ (if ys.size == xs.size then n else n + 1) (Heap.SameBut.update ..) ?_)⟩
  rw [Heap.get?_update_self _ hl (by rw [hmap]; rfl), hmap]
end
-- part: MDel
section
theorem off_MDel : True := by w_top off; exact trivial
local macro_rules | `(tactic| k_room) => `(tactic| ktr_room)
theorem conv_use {w : World} {dp un : Nat} {gd : Option (List Code)} {A₀ : Around} {E : Value → Shared → Prop} {env : Env} {outer : List Env} {base g : Heap} {L : Addr} {m : PySem.Str → Option Value} {news : List (Addr × Obj)} {s : Shared} {mean : ExcName → Option Value} {mg mb : PySem.Str → Option Value} {Q : Value → Shared → Prop}
    (B : Below A₀ base outer g) (F : Fr g L s.heap m) (X : (hd.heap_1 w.params).In g) (N : News g L s.heap news) (T : Top qv looseL mean mg mb g) (hf : env.frame = some L) (hke : env.scope.kind = .function) (hdp : dp + 1 < recursionLimit) (hu : un + 8 < cLine)
    {self : Value} {x : PySem.Str} {t : Tok} {nm : Bool} (W : Word x)
    (ret : ∀ h' tk' t', Fr g L h' m → News g L h' news → Q (.str x t') { s with heap := h', toks := tk' }) :
    wpAny (model PySem.Challenge.rw_tr0054_01.prog w) { handled := none, depth := dp, frames := some (env :: outer), guards := gd, units := un } (call (.ref 134) [self, .str x t] [(Str.ofString "name", .bool nm)]) Q E s := by
  have B' := pushX B F hf hke
  have B'' : Below ({ handled := none, depth := dp, frames := some (env :: outer), guards := gd, units := un } : Around) base (env :: outer) s.heap := ⟨rfl, B'.stays, B'.frames⟩
  refine wpAny_call (conv_spec B'' (fun _ _ e => e) (Nat.le_refl _) (X.keeps F.keep) (T.keeps F.keep) rfl hdp hu W fun h' tk' t' k1 => ?_)
  exact ret h' tk' t' (F.grownK k1) (fun p hp => ⟨k1 _ _ (N p hp).1, (N p hp).2⟩)
local macro_rules | `(tactic| walk_at "call ref") => `(tactic| ((with_reducible show wpAny _ _ (call (Value.ref 134) _ _) _ _ _); k_dflt (refine' conv_use ?b1 ?b2 ?b3 ?b4 ?b5 ?b7 ?b8 ?b10 ?b11 ?b12 ?_; (case b1 => k_asm); (case b2 => k_asm); (case b3 => k_asm); (case b4 => k_asm); (case b5 => k_asm); (case b7 => rfl); (case b8 => rfl); (case b10 => ktr_room); (case b11 => ktr_units); (case b12 => assumption)); intro h' tk' t' F' N'))
section
open LCg LCt
variable {prog : Program} {w : World} {A : Around} {s : Shared} {h₀ : Heap} {L : Addr} {m : PySem.Str → Option Value} {env : Env}
theorem restT_pairs {ct : PySem.Expr} {x : PySem.Str} {px : Pos} {scope : PySem.Scope} {cl : List (PySem.Str × Addr)} {S : List (Addr × Obj) → Prop} {Fin : List Value → List (Addr × Obj) → Prop} {vs : List Value} {ents : List Ent} {tups : List (Addr × Obj)}
    (p : Ent → Bool) {news : List (Addr × Obj)} (hP : PairsAre tups vs ents) (hS : S news)
    (turn : ∀ v e I oI C oC D m₂ h tk (E' : Value → Shared → Prop) ys, e ∈ ents → PairAt tups v e → NsObj oC m₂ → m₂ x = some v → Fr h₀ L h m → News h₀ L h ((I, oI) :: (C, oC) :: (D, lst ys) :: news) → Off3 I C D news → ((@Ne Nat I C) ∧ (@Ne Nat I D) ∧ (@Ne Nat C D)) →
      wpAny (model prog w) A (isTrue ct (compEnvC scope cl C env) (eval ct (compEnvC scope cl C env))) (fun ok s' => ok = p e ∧ ∃ h' tk', s' = { s with heap := h', toks := tk' } ∧ Fr h₀ L h' m ∧ News h₀ L h' ((I, oI) :: (C, oC) :: (D, lst ys) :: news)) E' { s with heap := h, toks := tk })
    (hk : ∀ C, (compEnvC scope cl C env).scope.kind = .function) (hl : ∀ C, (compEnvC scope cl C env).kindOf x = some .local) (hd : (x == ("__debug__" : PySem.Str)) = false)
    (fin : ∀ ys : List Value, PairsAre tups ys (ents.filter p) → Fin ys news) :
    CompRestT prog w A h₀ L m env ct (.Name x px) x scope cl s S (fun i v => vs.toArray[i]? = some v) Fin vs.length 0 [] news := by
  have go : ∀ k i (ys : List Value), i + k = vs.length → PairsAre tups ys ((ents.take i).filter p) → CompRestT prog w A h₀ L m env ct (.Name x px) x scope cl s S (fun i v => vs.toArray[i]? = some v) Fin k i ys news := by
    intro k
    induction k with
    | zero =>
      intro i ys hi hy
      refine CompRestT.zero (fin ys ?_)
      rw [List.take_of_length_le (by rw [← hP.len]; omega)] at hy
      exact hy
    | succ k ih =>
      intro i ys hi hy
      refine CompRestT.succ fun v I oI C oC D m₂ h tk E' hv hC hx F N off ne => ?_
      obtain ⟨e, he, hpe⟩ := hP.at (by rw [← List.getElem?_toArray]; exact hv)
      refine wpAny_mono (turn v e I oI C oC D m₂ h tk E' _ (List.mem_of_getElem? he) hpe hC hx F N off ne) (fun ok s' h' => ?_) fun _ _ e => e
      obtain ⟨rfl, h₁, tk₁, rfl, F₁, N₁⟩ := h'
      have ih' := ih (i + 1)
      rw [take_snoc he, List.filter_append] at ih'
      cases hp : p e with
      | true =>
        rw [List.filter_cons, hp] at ih'
        simp only [if_true]
        refine ldVarK (hC.ns (N₁ _ (.tail _ (.head _))).1) hx ?_ (hk C) (hl C) hd
        exact CompEnd.intro F₁ N₁ news (fun _ q => q) off hS (ih' _ (by omega) (hy.append (.cons hpe .nil)))
      | false =>
        rw [List.filter_cons, hp] at ih'
        simp only [Bool.false_eq_true, if_false, List.filter_nil, List.append_nil] at ih' ⊢
        exact CompEnd.intro F₁ N₁ news (fun _ q => q) off hS (ih' _ (by omega) hy)
  exact go vs.length 0 [] (by omega) .nil
end
local macro_rules | `(tactic| walk_at "eval ListComp") => `(tactic| (k_here; k_dflt (refine ListComp_GT (by k_asm) (by with_unfolding_all rfl) (by decide) (by rfl) (by decide) (by rfl) ?_)))
local macro_rules | `(tactic| walk_at "pyIter ref") => `(tactic| (k_here; (with_reducible show wpAny _ _ (pyIter _) (SrcGT _ _ _ _ _ _ _ _ _ _ _ _ _) _ _); (with_reducible rename Fr _ _ _ _ => kF); (with_reducible rename News _ _ _ _ => kN); refine srcLstT (by rfl) kF kN (.inr ⟨_, by k_mem, rfl, _, rfl⟩) (by simp [sizeLine_eq]; omega) ?_; intro g'; refine stop_intro ?_))
theorem allLt_mem {d : Addr} : ∀ {l : List (Addr × Obj)}, AllLt d l → ∀ p ∈ l, p.1 < d
  | [], _, _, h => nomatch h
  | _ :: _, o, p, h => by
    rcases List.mem_cons.mp h with rfl | h
    · exact o.1
    · exact allLt_mem o.2 p h
local macro_rules | `(tactic| k_all) => `(tactic| (refine List.forall_mem_cons.mpr ⟨by k_ne, List.forall_mem_cons.mpr ⟨by k_ne, List.forall_mem_cons.mpr ⟨by k_ne, ?_⟩⟩⟩; assumption))
theorem item0_str {prog : Program} {w : World} {A : Around} {E : Value → Shared → Prop} {s : Shared} {value slice : PySem.Expr} {t : Addr} {u : Tok} {a b : Value} {Q : Value → Shared → Prop} (ht : IsTup s.heap t #[a, b]) (h : Q a s)
    (hs : subscripted slice false (.ref t) (.int 0 u) = operate [.ref t, .int 0 u] (getItem (.ref t) (.int 0 u)) := by with_unfolding_all rfl) (hg : ∀ r, letTemporaryGo value (.ref t) r = pure () := by intro _; with_unfolding_all rfl) :
    wpAny (model prog w) A (subscriptTail value slice (.ref t) (.int 0 u)) Q E s := item_tuple ht (by decide) (by decide) (by rfl) (by rfl) h hs hg
local macro_rules | `(tactic| walk_at "subscriptTail") => `(tactic| ((with_reducible show wpAny _ _ (subscriptTail _ _ (Value.ref _) (Value.int 0 _)) _ _ _); refine item0_str (by assumption) ?_))
def TupsOk (tups : List (Addr × Obj)) : Prop := ∀ q ∈ tups, q.2.cls = .type "tuple"
theorem del_spec : ∀ {w : World} {dp un : Nat} {gd : Option (List Code)} {outer : List Env} {base g : Heap} {s : Shared} {mean : ExcName → Option Value} {mg mb : PySem.Str → Option Value} {R : Result → Shared → Prop} (_ : Below ({ handled := none, depth := dp, frames := some outer, guards := gd, units := un } : Around) base outer g) (_ : ∀ b o, g.get? b = some o → s.heap.get? b = some o) (_ : g.objs.size ≤ s.heap.objs.size) (_ : (hd.heap_1 w.params).In g) (_ : Top qv looseL mean mg mb g) (_ : ({ handled := none, depth := dp, frames := some outer, guards := gd, units := un } : Around).handled = none) (_ : dp + 3 < recursionLimit) (_ : un + 24 < cLine)
    {T D H : Addr} {hsh : Int} {t : Tok} {vs : List Value} {n : Nat} {tups : List (Addr × Obj)} {ents : List Ent} {nm : PySem.Str} {u : Tok} (_ : ∀ q ∈ (H, W.listOf vs.toArray n) :: (T, instObj 235 D) :: (D, dictOf [⟨hsh, .str (Str.ofString "_headers") t, .ref H⟩] 1) :: tups, s.heap.get? q.1 = some q.2 ∧ g.get? q.1 = none)
    (_ : PairsAre tups vs ents) (_ : vs.length ≤ 1000) (_ : Word (Txt.lower nm)) (_ : nm.length ≤ 10) (_ : ∀ e ∈ ents, e.1.length ≤ 10) (_ : TupsOk tups)
    (_ : ∀ ys n' h' tk', (∀ b o, g.get? b = some o → h'.get? b = some o) → (∀ q ∈ (H, W.listOf ys.toArray n') :: (T, instObj 235 D) :: (D, dictOf [⟨hsh, .str (Str.ofString "_headers") t, .ref H⟩] 1) :: tups, h'.get? q.1 = some q.2) → PairsAre tups ys (ents.filter fun e => Txt.lower e.1 != Txt.lower nm) → R (.ok (.ret .none)) { s with heap := h', toks := tk' }),
    codeAny (model PySem.Challenge.rw_tr0054_01.prog w) ({ handled := none, depth := dp, frames := some outer, guards := gd, units := un } : Around) (.call (.ref 153) ⟨[.ref T, .str nm u], []⟩) R s := by
  k_fill
  intro w dp un gd outer base g s mean mg mb R B kg sz X T hh hdp hu T' D H hsh t vs n tups ents nm u N0 hP hlen hW hn he hTO ret
  k_dflt (first | (refine' enterG ?k1 ?k2 ?k3 ?k4 ?k5 ?k6 ?k7 ?k8 ?k9 ?kb ?kB ?_ ?c2 ?c3 ?c4 ?c5; (case k1 => k_asm); (case k2 => k_asm); (case k3 => k_asm); (case k4 => k_asm); (case k5 => k_asm); (case k6 => k_asm); (case k7 => k_is); (case k8 => k_is); (case k9 => ktr_room); (case kb => first | exact BindsTo.of_eq rfl | exact binds_K (by k_in) rfl (by k_is) rfl rfl rfl); (case c5 => decide); (case kB => exact locs rfl); (case c2 => exact rfl); (case c3 => exact rfl); (case c4 => exact rfl); k_whole; intro L' h' F' N' l1; (try k_lt l1); (try dsimp only); (try k_fold)) | (refine' enterGC ?k1 ?k2 ?k3 ?k4 ?k5 ?k6 ?k7 ?k8 ?k9 ?kb ?kB ?kD ?_ ?c2 ?c3 ?c4; (case k1 => k_asm); (case k2 => k_asm); (case k3 => k_asm); (case k4 => k_asm); (case k5 => k_asm); (case k6 => k_asm); (case k7 => k_is); (case k8 => k_is); (case k9 => ktr_room); (case kb => first | exact BindsTo.of_eq rfl | exact binds_K (by k_in) rfl (by k_is) rfl rfl rfl); (case kB => exact rfl); (case kD => decide +kernel); (case c2 => exact rfl); (case c3 => exact rfl); (case c4 => exact rfl); k_whole; intro L' h' tk' cells' F' N' Y' l1; (try k_lt l1); k_cells Y'; (try simp only [List.cons_append, List.nil_append] at N'); (try dsimp only); (try k_fold)))
  have hT : ∀ p ∈ tups, p.1 ≠ L' + 1 := fun p hp => Nat.ne_of_lt (Nat.lt_succ_of_lt (allLt_mem l1.2.2.2 p hp))
  k_steps
  all_goals unfold Stop
  refine restT_pairs (fun e => Txt.lower e.1 != Txt.lower nm) hP ?_ ?turn (fun _ => rfl) (fun _ => rfl) (by decide) ?fin
  · exact .inr ⟨_, .tail _ (.head _), rfl, _, rfl⟩
  case turn =>
    intro v e I oI C oC D m₂ h tk E' ys hmem hpe hC hx F N off ne
    obtain ⟨pp, tk1, tw1, nt1, rfl, hm⟩ := hpe
    have hlen2 := he e hmem
    have hIs : IsTup h pp #[.str e.1 tk1, .str e.2 tw1] := ⟨_, (N _ (.tail _ (.tail _ (.tail _ (.tail _ (.tail _ (.tail _ (.tail _ hm)))))))).1, rfl, _, rfl⟩
    simp only [LCg.Off3, and_true] at off
    k_steps
    all_goals assumption
  case fin =>
    intro ys hy D' h' tk' F' N' o1'
    (try dsimp only)
    have e2 := (N' _ (.head _)).1
    have e1 := (N' _ (.tail _ (.tail _ (.head _)))).1
    have hDH : H ≠ D' := (off1_ne o1' _ (.tail _ (.head _)))
    have hyl : ys.length ≤ 1000 := by rw [hy.len]; exact Nat.le_trans (List.length_filter_le ..) (by rw [← hP.len]; exact hlen)
    k_steps
    refine set_whole (Heap.get?_push_of_some _ e1) (Heap.IsSliceOf.new ..) (Heap.get?_push_of_some _ e2) hDH (by simpa using hlen) (by simpa using hyl) fun h₂ n' sb hH => ?_
    k_steps
    have up : ∀ b o, b ≠ H → h'.get? b = some o → h₂.get? b = some o := fun b o ne e => sb.extBut b o ne (Heap.get?_push_of_some _ e)
    have gH : g.get? H = none := (N' _ (.tail _ (.tail _ (.head _)))).2.2
    refine ret ys n' _ _ (fun b o e => up b o (fun q => by rw [q, gH] at e; cases e) (F'.keep b o e)) (fun q hq => ?_) hy
    rcases List.mem_cons.mp hq with rfl | hq
    · exact hH
    · refine up _ _ (fun z => ?_) (N' q (.tail _ (.tail _ (.tail _ hq)))).1
      have y := (N' q (.tail _ (.tail _ (.tail _ hq)))).1
      rw [z, e1] at y
      have y := Option.some.inj y
      rcases List.mem_cons.mp hq with rfl | hq
      · cases y
      · rcases List.mem_cons.mp hq with rfl | hq
        · exact absurd (congrArg Obj.cls y) (by simp)
        · have := hTO q hq
          rw [← y] at this
          simp at this
end
-- part: MAdd
section
theorem off_MAdd : True := by w_top off; exact trivial
local macro_rules | `(tactic| k_room) => `(tactic| ktr_room)
local macro_rules | `(tactic| walk_at "call ref") => `(tactic| ((with_reducible show wpAny _ _ (call (Value.ref 134) _ _) _ _ _); k_dflt (refine' conv_use ?b1 ?b2 ?b3 ?b4 ?b5 ?b7 ?b8 ?b10 ?b11 ?b12 ?_; (case b1 => k_asm); (case b2 => k_asm); (case b3 => k_asm); (case b4 => k_asm); (case b5 => k_asm); (case b7 => rfl); (case b8 => rfl); (case b10 => ktr_room); (case b11 => ktr_units); (case b12 => assumption)); intro h' tk' t' F' N'))
theorem enterKw {K : Frag} {p : Program} {loose : List PySem.Str} {mean : ExcName → Option Value} {mg mb : PySem.Str → Option Value} {prog : Program} {w : World} {A : Around} {outer : List Env} {base g : Heap} {s : Shared} {news : List (Addr × Obj)}
    {R : Result → Shared → Prop} {name qual kwn : PySem.Str} {params : PySem.Arguments} {body : List PySem.Stmt} {scope : PySem.Scope} {dV kV doc pm cdv ct oc : Value} {an od : Option Addr} {osl : Array (Option Value)} {f : Addr} {args : PySem.Args} {front : List (PySem.Str × Value)}
    (B : Below A base outer g) (kg : ∀ b o, g.get? b = some o → s.heap.get? b = some o) (sz : g.objs.size ≤ s.heap.objs.size) (X₀ : K.In g) (T : Top p loose mean mg mb g)
    (N : ∀ q ∈ news, s.heap.get? q.1 = some q.2 ∧ g.get? q.1 = none)
    (ho : K.lookup f = some ⟨oc, od, .func (fnOf name qual params body scope dV kV doc pm an cdv ct), osl⟩) (hcd : codeIn K cdv qual = true) (hroom : A.depth < recursionLimit)
    (hbind : bindArgs (fnOf name qual params body scope dV kV doc pm an cdv ct) args = (do let d ← alloc { cls := .type "dict", data := .dict #[] }; pure (front ++ [(kwn, .ref d)]))) (hloc : ∀ d : Addr, ∀ y ∈ front ++ [(kwn, Value.ref d)], scope.names.lookup y.1 = some .local)
    (h : ∀ L' h₁ d o, (d == sysModules) = false → o.IsDictOf (strKind prog w) [] → PyProof.V.FlatPairs PyData.str [] [] → d < L' → (∀ q ∈ news, q.1 < d) → Fr g L' h₁ (fun y => (front ++ [(kwn, Value.ref d)]).reverse.lookup y) → News g L' h₁ ((d, o) :: news) → (∀ q ∈ news, q.1 < L') →
      wpAny (model prog w) (A.deeper (envOf qual scope L' f cdv)) (execs body (envOf qual scope L' f cdv))
        (fun fl s' => R (.ok (.ret (match fl with | .ret v => v | _ => .none))) s')
        (fun e s' => wpAny (model prog w) (A.deeper (envOf qual scope L' f cdv)) (leaving (envOf qual scope L' f cdv) e) (fun _ s'' => R (.error e) s'') (fun e' s'' => R (.error e') s'') s')
        { s with heap := h₁, toks := s.toks + (front ++ [(kwn, Value.ref d)]).length })
    (hco : scope.isCoroutine = false) (hgen : scope.isGenerator = false) (hk : scope.kind = .function)
    (hcell : ∀ x ∈ scope.names, x.2 ≠ .cell) : codeAny (model prog w) A (.call (.ref f) args) R s := by
  refine codeAny_call_function (fd := fnOf name qual params body scope dV kV doc pm an cdv ct) hroom (kg _ _ (X₀ _ _ ho)) rfl hco hgen rfl (codeRec_of (X₀.keeps kg) hcd) ?_
  rw [hbind]
  refine wpAny_bind (wpAny_alloc (wpAny_pure ?_))
  have up : ∀ b o, s.heap.get? b = some o → (s.heap.push { cls := .type "dict", data := .dict #[] }).get? b = some o := fun b o e => Heap.get?_push_of_some _ e
  have hlim : (s.heap.push { cls := .type "dict", data := .dict #[] }).NoLimit := ((T.nolimit).keeps kg).keeps up
  refine wpAny_newFunctionEnv hcell (hloc _) (fun h₁ hns₁ hsb₁ => ⟨hlim.fresh _ hsb₁, codeAny_func ?_⟩) hk
  have up₁ : ∀ b o, (s.heap.push { cls := .type "dict", data := .dict #[] }).get? b = some o → h₁.get? b = some o := fun b o e => hsb₁.extBut b o (Nat.ne_of_lt (Heap.lt_size e)) (Heap.get?_push_of_some _ e)
  have hs : (s.heap.push { cls := .type "dict", data := .dict #[] }).objs.size = s.heap.objs.size + 1 := Heap.size_push ..
  have hd : h₁.get? s.heap.objs.size = some (dictOf [] 0) := up₁ _ _ (Heap.get?_push_size _ rfl)
  have lt : ∀ q ∈ news, q.1 < s.heap.objs.size := fun q hq => Heap.lt_size (N q hq).1
  have gd : g.get? s.heap.objs.size = none := by
    cases e : g.get? s.heap.objs.size with
    | none => rfl
    | some o => exact absurd (Heap.lt_size (kg _ _ e)) (Nat.lt_irrefl _)
  refine h _ h₁ s.heap.objs.size (dictOf [] 0) (beq_false_of_ne fun q => ?_) (kp_isDict (ex := []) 0 0 .nil) .nil (by rw [hs]; exact Nat.lt_succ_self _) lt ⟨hns₁, fun b o e => up₁ b o (up b o (kg b o e)), by rw [hs]; exact Nat.le_succ_of_le sz⟩ (fun q hq => ?_) fun q hq => by rw [hs]; exact Nat.lt_succ_of_lt (lt q hq)
  · have := modules_low T.nolimit
    have q' : s.heap.objs.size = sysModules := q
    rw [← q'] at this
    exact Nat.lt_irrefl _ (Nat.lt_of_lt_of_le this sz)
  rcases List.mem_cons.mp hq with rfl | hq
  · exact ⟨hd, (by rw [hs]; exact Nat.ne_of_lt (Nat.lt_succ_self _)), gd⟩
  · exact ⟨up₁ _ _ (up _ _ (N q hq).1), (by rw [hs]; exact Nat.ne_of_lt (Nat.lt_succ_of_lt (lt q hq))), (N q hq).2⟩
theorem join_one {prog : Program} {w : World} {A : Around} {E : Value → Shared → Prop} {s : Shared} {h₀ : Heap} {L D : Addr} {m : PySem.Str → Option Value} {news : List (Addr × Obj)} {its : Array Value} {k : Nat} {x val : PySem.Str} {t t' : Tok} {Q : Value → Shared → Prop} (N : News h₀ L s.heap news) (hm : (D, W.listOf its k) ∈ news)
    (e : its = #[.str val t']) (hx : x.length ≤ 16) (hl : val.length ≤ 1000) (h : ∀ t' k, Q (.str val t') { s with toks := k }) : wpAny (model prog w) A (call (.builtin "str.join") [.str x t, .ref D]) Q E s := by
  subst e
  exact join_listW (items := #[.str val t']) (ys := [val]) ⟨_, (N _ hm).1, rfl, _, rfl⟩ (.cons _ _ .nil) hx (by simp; omega) h
local macro_rules | `(tactic| walk_at "call builtin:str.join") => `(tactic| (k_here; k_dflt (refine' join_one ?a1 ?a2 ?a3 ?a4 ?a5 ?_; (case a1 => k_asm); (case a2 => k_mem); (case a3 => exact rfl); (case a4 => decide); (case a5 => exact hlv)); intro _ _))
theorem add_spec : ∀ {w : World} {dp un : Nat} {gd : Option (List Code)} {outer : List Env} {base g : Heap} {s : Shared} {mean : ExcName → Option Value} {mg mb : PySem.Str → Option Value} {R : Result → Shared → Prop} (_ : Below ({ handled := none, depth := dp, frames := some outer, guards := gd, units := un } : Around) base outer g) (_ : ∀ b o, g.get? b = some o → s.heap.get? b = some o) (_ : g.objs.size ≤ s.heap.objs.size) (_ : (hd.heap_1 w.params).In g) (_ : Top qv looseL mean mg mb g) (_ : ({ handled := none, depth := dp, frames := some outer, guards := gd, units := un } : Around).handled = none) (_ : dp + 3 < recursionLimit) (_ : un + 24 < cLine)
    {T D H : Addr} {hsh : Int} {t : Tok} {vs : List Value} {n : Nat} {tups : List (Addr × Obj)} {nm val : PySem.Str} {u v : Tok} (_ : ∀ q ∈ (H, W.listOf vs.toArray n) :: (T, instObj 235 D) :: (D, dictOf [⟨hsh, .str (Str.ofString "_headers") t, .ref H⟩] 1) :: tups, s.heap.get? q.1 = some q.2 ∧ g.get? q.1 = none)
    (_ : vs.length ≤ 1000) (_ : Word nm) (_ : Word val) (_ : TupsOk tups)
    (_ : ∀ p n' ta tb nt h' tk', (∀ b o, g.get? b = some o → h'.get? b = some o) → (∀ q ∈ (H, W.listOf (vs ++ [Value.ref p]).toArray n') :: (T, instObj 235 D) :: (D, dictOf [⟨hsh, .str (Str.ofString "_headers") t, .ref H⟩] 1) :: tups, h'.get? q.1 = some q.2) → h'.get? p = some { cls := .type "tuple", data := .seq #[.str nm ta, .str val tb] nt } → g.get? p = none → R (.ok (.ret .none)) { s with heap := h', toks := tk' }),
    codeAny (model PySem.Challenge.rw_tr0054_01.prog w) ({ handled := none, depth := dp, frames := some outer, guards := gd, units := un } : Around) (.call (.ref 232) ⟨[.ref T, .str nm u, .str val v], []⟩) R s := by
  k_fill
  intro w dp un gd outer base g s mean mg mb R B kg sz X T hh hdp hu T' D H hsh t vs n tups nm val u v N0 hlen hW hW2 hTO ret
  have hv := hW2.small
  have hlv : val.length ≤ 1000 := Nat.le_trans hW2.small (by decide)
  refine' enterKw (kwn := Str.ofString "_params") (front := [(Str.ofString "self", .ref T'), (Str.ofString "_name", .str nm u), (Str.ofString "_value", .str val v)]) ?k1 ?k2 ?k3 ?k4 ?k5 ?k6 ?k7 ?k8 ?k9 ?kb ?kB ?_ ?c2 ?c3 ?c4 ?c5
  case k1 => k_asm
  case k2 => k_asm
  case k3 => k_asm
  case k4 => k_asm
  case k5 => k_asm
  case k6 => k_asm
  case k7 => k_is
  case k8 => k_is
  case k9 => ktr_room
  case kb => rfl
  case kB => intro d y hy; simp at hy; rcases hy with rfl | rfl | rfl | rfl <;> rfl
  case c2 => rfl
  case c3 => rfl
  case c4 => rfl
  case c5 => decide
  intro L' h' d' o' lo' hs' fs' l0 l2 F' N' l1
  k_lt l1
  k_lt l2
  (try dsimp only)
  k_steps
  (with_reducible rename Fr _ _ _ _ => fX); (with_reducible rename News _ _ _ _ => nX)
  have eP := (nX _ (.head _)).1
  have gP := (nX _ (.head _)).2.2
  have kk : ∀ q ∈ (H, W.listOf vs.toArray n) :: (T', instObj 235 D) :: (D, dictOf [⟨hsh, .str (Str.ofString "_headers") t, .ref H⟩] 1) :: tups, _ := fun q hq => nX q (.tail _ (.tail _ (.tail _ (.tail _ hq))))
  have eH := (kk _ (.head _)).1
  have gH := (kk _ (.head _)).2.2
  refine wpAny_list_append_plain (items := vs.toArray) ⟨n, eH⟩ (fun h₂ hH sb => ?_) (by simp [sizeLine_eq]; omega)
  obtain ⟨n', hH⟩ := hH
  k_steps
  have up : ∀ b o, b ≠ H → _ → h₂.get? b = some o := fun b o ne e => sb.extBut b o ne e
  refine ret _ n' _ _ _ _ _ (fun b o e => up b o (fun q => by rw [q, gH] at e; cases e) (fX.keep b o e)) (fun q hq => ?_) (up _ _ (fun z => ?_) eP) gP
  · rcases List.mem_cons.mp hq with rfl | hq
    · simpa using hH
    · have y := (kk q (.tail _ hq)).1
      refine up _ _ (fun z => ?_) y
      rw [z, eH] at y
      have y := Option.some.inj y
      rcases List.mem_cons.mp hq with rfl | hq
      · cases y
      · rcases List.mem_cons.mp hq with rfl | hq
        · exact absurd (congrArg Obj.cls y) (by simp)
        · have := hTO q hq
          rw [← y] at this
          simp at this
  · rw [z, eH] at eP
    exact absurd (congrArg Obj.cls (Option.some.inj eP)) (by simp)
end
-- part: MRgb
section
theorem off_MRgb : True := by w_top off; exact trivial
section
open PySem.Flt
theorem max_three_num {prog : Program} {w : World} {A : Around} {E : Value → Shared → Prop} {s : Shared} {Q : Value → Shared → Prop} {a b c : Value} (hh : A.handled = none) (ha : NumV a) (hb : NumV b) (hc : NumV c)
    (h : ∀ h' tk, (∀ d o, s.heap.get? d = some o → h'.get? d = some o) → Q (if ltV a b then (if ltV b c then c else b) else (if ltV a c then c else a)) { s with heap := h', toks := tk }) :
    wpAny (model prog w) A (call (.builtin "max") [a, b, c]) Q E s := by
  have hT : (s.heap.push { cls := .type "tuple", data := .seq #[a, b, c] }).IsTuple s.heap.objs.size #[a, b, c] := ⟨_, Heap.get?_push_size _ rfl, rfl, 0, rfl⟩
  refine call_max_three (wpAny_pyIter_tuple hT ?_)
  have hsz : (s.heap.push { cls := .type "tuple", data := .seq #[a, b, c] }).objs.size = s.heap.objs.size + 1 := Heap.size_push ..
  refine ⟨_, [_, s.heap.objs.size], [_], _, _, _, _, rfl, Walks.tuple (A := A.in1) hh _ s.heap.objs.size (by rw [hsz]; exact Nat.ne_of_lt (Nat.lt_succ_self _)) #[a, b, c],
    ⟨⟨_, Heap.get?_push_size _ rfl, rfl, rfl⟩, hT.push _⟩, fun d hd => ?_, by simp, cmpOf_gt #[a, b, c] (by simp [ha, hb, hc]), fun v h' tk hP hk => ?_⟩
  · show d < ((s.heap.push _).push _).objs.size
    rw [Heap.size_push, hsz]
    rcases List.mem_cons.mp hd with rfl | hd
    · rw [hsz]; exact Nat.lt_succ_self _
    · rcases List.mem_cons.mp hd with rfl | hd
      · exact Nat.lt_succ_of_lt (Nat.lt_succ_self _)
      · cases hd
  · have hold : ∀ d o, s.heap.get? d = some o → h'.get? d = some o := fun d o e => by
      refine hk d o (fun hm => ?_) (Heap.get?_push_of_some _ (Heap.get?_push_of_some _ e))
      rcases List.mem_cons.mp hm with e1 | hm
      · have := Heap.lt_size e; rw [e1, hsz] at this; exact Nat.lt_irrefl _ (Nat.lt_of_succ_lt this)
      · cases hm
    have := h h' tk hold
    have hv : v = if ltV a b then (if ltV b c then c else b) else (if ltV a c then c else a) := by
      cases h1 : ltV a b <;> cases h2 : ltV b c <;> cases h3 : ltV a c <;> simp [argBest, h1, h2, h3] at hP <;> simp [hP]
    rw [hv]; exact this
theorem min_three_num {prog : Program} {w : World} {A : Around} {E : Value → Shared → Prop} {s : Shared} {Q : Value → Shared → Prop} {a b c : Value} (hh : A.handled = none) (ha : NumV a) (hb : NumV b) (hc : NumV c)
    (h : ∀ h' tk, (∀ d o, s.heap.get? d = some o → h'.get? d = some o) → Q (if ltV b a then (if ltV c b then c else b) else (if ltV c a then c else a)) { s with heap := h', toks := tk }) :
    wpAny (model prog w) A (call (.builtin "min") [a, b, c]) Q E s := by
  have hT : (s.heap.push { cls := .type "tuple", data := .seq #[a, b, c] }).IsTuple s.heap.objs.size #[a, b, c] := ⟨_, Heap.get?_push_size _ rfl, rfl, 0, rfl⟩
  refine call_min_three (wpAny_pyIter_tuple hT ?_)
  have hsz : (s.heap.push { cls := .type "tuple", data := .seq #[a, b, c] }).objs.size = s.heap.objs.size + 1 := Heap.size_push ..
  refine ⟨_, [_, s.heap.objs.size], [_], _, _, _, _, rfl, Walks.tuple (A := A.in1) hh _ s.heap.objs.size (by rw [hsz]; exact Nat.ne_of_lt (Nat.lt_succ_self _)) #[a, b, c],
    ⟨⟨_, Heap.get?_push_size _ rfl, rfl, rfl⟩, hT.push _⟩, fun d hd => ?_, by simp, cmpOf_lt #[a, b, c] (by simp [ha, hb, hc]), fun v h' tk hP hk => ?_⟩
  · show d < ((s.heap.push _).push _).objs.size
    rw [Heap.size_push, hsz]
    rcases List.mem_cons.mp hd with rfl | hd
    · rw [hsz]; exact Nat.lt_succ_self _
    · rcases List.mem_cons.mp hd with rfl | hd
      · exact Nat.lt_succ_of_lt (Nat.lt_succ_self _)
      · cases hd
  · have hold : ∀ d o, s.heap.get? d = some o → h'.get? d = some o := fun d o e => by
      refine hk d o (fun hm => ?_) (Heap.get?_push_of_some _ (Heap.get?_push_of_some _ e))
      rcases List.mem_cons.mp hm with e1 | hm
      · have := Heap.lt_size e; rw [e1, hsz] at this; exact Nat.lt_irrefl _ (Nat.lt_of_succ_lt this)
      · cases hm
    have := h h' tk hold
    have hv : v = if ltV b a then (if ltV c b then c else b) else (if ltV c a then c else a) := by
      cases h1 : ltV b a <;> cases h2 : ltV c b <;> cases h3 : ltV c a <;> simp [argBest, h1, h2, h3] at hP <;> simp [hP]
    rw [hv]; exact this
end
def fl (b : Bool) : UInt64 := if b then 4607182418800017408 else 0
section
open PySem.Flt
theorem ltf (a b : Bool) (t u : Tok) : ltV (.float (fl a) t) (.float (fl b) u) = (!a && b) := by
  show (Float64.cmp (fl a) (fl b) == some .lt) = (!a && b)
  cases a <;> cases b <;> decide +kernel
theorem max3b {prog : Program} {w : World} {A : Around} {E : Value → Shared → Prop} {s : Shared} {Q : Value → Shared → Prop} {a b c : Bool} {x y z r : UInt64} {t u v : Tok} {h₀ : Heap} {L : Addr} {m : PySem.Str → Option Value} {news : List (Addr × Obj)} (hh : A.handled = none) (F : Fr h₀ L s.heap m) (N : News h₀ L s.heap news)
    (hx : x = fl a) (hy : y = fl b) (hz : z = fl c) (hr : fl (a || b || c) = r) (h : ∀ h' tk v, Fr h₀ L h' m → News h₀ L h' news → Q (.float r v) { s with heap := h', toks := tk }) : wpAny (model prog w) A (call (.builtin "max") [.float x t, .float y u, .float z v]) Q E s := by
  subst hx hy hz hr
  refine max_three_num hh (.float _ _) (.float _ _) (.float _ _) fun h' tk kp => ?_
  have key := fun v => h h' tk v (F.grownK kp) (N.grown kp)
  simp only [ltf]
  cases a <;> cases b <;> cases c <;> exact key _
theorem min3b {prog : Program} {w : World} {A : Around} {E : Value → Shared → Prop} {s : Shared} {Q : Value → Shared → Prop} {a b c : Bool} {x y z r : UInt64} {t u v : Tok} {h₀ : Heap} {L : Addr} {m : PySem.Str → Option Value} {news : List (Addr × Obj)} (hh : A.handled = none) (F : Fr h₀ L s.heap m) (N : News h₀ L s.heap news)
    (hx : x = fl a) (hy : y = fl b) (hz : z = fl c) (hr : fl (a && b && c) = r) (h : ∀ h' tk v, Fr h₀ L h' m → News h₀ L h' news → Q (.float r v) { s with heap := h', toks := tk }) : wpAny (model prog w) A (call (.builtin "min") [.float x t, .float y u, .float z v]) Q E s := by
  subst hx hy hz hr
  refine min_three_num hh (.float _ _) (.float _ _) (.float _ _) fun h' tk kp => ?_
  have key := fun v => h h' tk v (F.grownK kp) (N.grown kp)
  simp only [ltf]
  cases a <;> cases b <;> cases c <;> exact key _
end
def paintBits : Bool → Bool → Bool → UInt64 × UInt64 × UInt64
  | false, false, false => (0, 0, 0)
  | false, false, true => (4604180019048437077, 4602678819172646912, 4607182418800017408)
  | false, true, false => (4599676419421066581, 4602678819172646912, 4607182418800017408)
  | false, true, true => (4602678819172646912, 4602678819172646912, 4607182418800017408)
  | true, false, false => (0, 4602678819172646912, 4607182418800017408)
  | true, false, true => (4605681218924227243, 4602678819172646912, 4607182418800017408)
  | true, true, false => (4595172819793696085, 4602678819172646912, 4607182418800017408)
  | true, true, true => (0, 4607182418800017408, 0)
theorem ite_t {c : Prop} [Decidable c] {P Q : Prop} (h : c) (p : P) : if c then P else Q := by rw [if_pos h]; exact p
theorem ite_f {c : Prop} [Decidable c] {P Q : Prop} (h : ¬c) (p : Q) : if c then P else Q := by rw [if_neg h]; exact p
local macro_rules | `(tactic| walk_at "ite") => `(tactic| (first | refine ite_t (by decide +kernel) ?_ | refine ite_f (by decide +kernel) ?_))
local macro_rules | `(tactic| walk_at "call builtin:max") => `(tactic| (k_here; (with_reducible rename Fr _ _ _ _ => kF); (with_reducible rename News _ _ _ _ => kN); refine max3b (by rfl) kF kN rfl rfl rfl rfl ?_; clear kN; intro _ _ _ _ _))
local macro_rules | `(tactic| walk_at "call builtin:min") => `(tactic| (k_here; (with_reducible rename Fr _ _ _ _ => kF); (with_reducible rename News _ _ _ _ => kN); refine min3b (by rfl) kF kN rfl rfl rfl rfl ?_; clear kN; intro _ _ _ _ _))
theorem gen_toks {α : Type} {M : Model} {A : Around} {c : Sem α} {Q : α → Shared → Prop} {E : Value → Shared → Prop} {h : Heap} {gs : Array GenState} {dr : Drawn} {o : OsState} {X : Nat} (hX : 0 < X) (k : ∀ tk, 0 < tk → wpAny M A c Q E ⟨h, gs, dr, tk, o⟩) : wpAny M A c Q E ⟨h, gs, dr, X, o⟩ := k X hX
local macro_rules | `(tactic| walk_at "execs cons") => `(tactic| (k_here; (fail_if_success (refine gen_toks (by with_reducible assumption) ?_)); refine gen_toks (Nat.succ_pos _) ?_; intro tk htk))
local macro_rules | `(tactic| walk_at "execs nil") => `(tactic| (k_here; (fail_if_success (refine gen_toks (by with_reducible assumption) ?_)); refine gen_toks (Nat.succ_pos _) ?_; intro tk htk))
local macro_rules | `(tactic| walk_at "exec If") => `(tactic| ((with_reducible show wpAny _ _ (exec (PySem.Stmt.If (PySem.Expr.Compare (PySem.Expr.Name (PySem.Str.ofString "minc") _) _ _ _) _ _ _) _) _ _ _); refine stop_intro ?_))
local macro_rules | `(tactic| walk_at "exec If") => `(tactic| ((with_reducible show wpAny _ _ (exec (PySem.Stmt.If (PySem.Expr.Compare (PySem.Expr.Name (PySem.Str.ofString "r") _) _ _ _) _ _ _) _) _ _ _); refine stop_intro ?_))
theorem all_or {a b c : Bool} (h : ¬(a = b ∧ b = c)) : (a || b || c) = true ∧ (a && b && c) = false := by
  revert h; cases a <;> cases b <;> cases c <;> decide
theorem rgb_spec : ∀ {w : World} {dp un : Nat} {gd : Option (List Code)} {outer : List Env} {base g : Heap} {s : Shared} {mean : ExcName → Option Value} {mg mb : PySem.Str → Option Value} {R : Result → Shared → Prop} (_ : Below ({ handled := none, depth := dp, frames := some outer, guards := gd, units := un } : Around) base outer g) (_ : ∀ b o, g.get? b = some o → s.heap.get? b = some o) (_ : g.objs.size ≤ s.heap.objs.size) (_ : (hd.heap_1 w.params).In g) (_ : Top qv looseL mean mg mb g) (_ : ({ handled := none, depth := dp, frames := some outer, guards := gd, units := un } : Around).handled = none) (_ : dp + 2 < recursionLimit) (_ : un + 16 < cLine) {r' g' b' : Bool} {t u v : Tok}
    (_ : ∀ l h' tk' ta tb tc, (0 < tb ∧ 0 < tc) → (∀ b o, g.get? b = some o → h'.get? b = some o) → g.get? l = none → h'.get? l = some { cls := .type "tuple", data := .seq #[.float (paintBits r' g' b').1 ta, .float (paintBits r' g' b').2.1 tb, .float (paintBits r' g' b').2.2 tc] } → R (.ok (.ret (.ref l))) { s with heap := h', toks := tk' }),
    codeAny (model PySem.Challenge.rw_tr0054_01.prog w) ({ handled := none, depth := dp, frames := some outer, guards := gd, units := un } : Around) (.call (.ref 45) ⟨[.float (fl r') t, .float (fl g') u, .float (fl b') v], []⟩) R s := by
  k_fill
  intro w dp un gd outer base g s mean mg mb R B kg sz X T hh hdp hu r' g' b' t u v ret
  have N0 : ∀ q ∈ ([] : List (Addr × Obj)), s.heap.get? q.1 = some q.2 ∧ g.get? q.1 = Option.none := fun _ h => nomatch h
  have fin : ∀ {l h' tk' ta tb tc x y z}, (0 < tb ∧ 0 < tc) → (∀ b o, g.get? b = some o → h'.get? b = some o) → g.get? l = none → h'.get? l = some { cls := .type "tuple", data := .seq #[.float x ta, .float y tb, .float z tc] } → paintBits r' g' b' = (x, y, z) → R (.ok (.ret (.ref l))) { s with heap := h', toks := tk' } :=
    fun z a b c e => ret _ _ _ _ _ _ z a b (by rw [e]; exact c)
  k_dflt (first | (refine' enterG ?k1 ?k2 ?k3 ?k4 ?k5 ?k6 ?k7 ?k8 ?k9 ?kb ?kB ?_ ?c2 ?c3 ?c4 ?c5; (case k1 => k_asm); (case k2 => k_asm); (case k3 => k_asm); (case k4 => k_asm); (case k5 => k_asm); (case k6 => k_asm); (case k7 => k_is); (case k8 => k_is); (case k9 => ktr_room); (case kb => first | exact BindsTo.of_eq rfl | exact binds_K (by k_in) rfl (by k_is) rfl rfl rfl); (case c5 => decide); (case kB => exact locs rfl); (case c2 => exact rfl); (case c3 => exact rfl); (case c4 => exact rfl); k_whole; intro L' h' F' N' l1; (try k_lt l1); (try dsimp only); (try k_fold)) | (refine' enterGC ?k1 ?k2 ?k3 ?k4 ?k5 ?k6 ?k7 ?k8 ?k9 ?kb ?kB ?kD ?_ ?c2 ?c3 ?c4; (case k1 => k_asm); (case k2 => k_asm); (case k3 => k_asm); (case k4 => k_asm); (case k5 => k_asm); (case k6 => k_asm); (case k7 => k_is); (case k8 => k_is); (case k9 => ktr_room); (case kb => first | exact BindsTo.of_eq rfl | exact binds_K (by k_in) rfl (by k_is) rfl rfl rfl); (case kB => exact rfl); (case kD => decide +kernel); (case c2 => exact rfl); (case c3 => exact rfl); (case c4 => exact rfl); k_whole; intro L' h' tk' cells' F' N' Y' l1; (try k_lt l1); k_cells Y'; (try simp only [List.cons_append, List.nil_append] at N'); (try dsimp only); (try k_fold)))
  k_steps
  unfold Stop
  by_cases hq : r' = g' ∧ g' = b'
  · obtain ⟨rfl, rfl⟩ := hq
    cases r'
    all_goals refine wpAny_If ?_
    all_goals k_steps
    all_goals ((with_reducible rename Fr _ _ _ _ => fX); (with_reducible rename News _ _ _ _ => nX); exact fin (by constructor <;> first | exact Nat.succ_pos _ | assumption) fX.keep (nX _ (.head _)).2.2 (nX _ (.head _)).1 (by decide +kernel))
  · have ho := all_or hq
    (with_reducible rename Fr _ _ _ _ => fX)
    rw [ho.1, ho.2] at fX
    refine wpAny_If ?_
    k_steps
    all_goals unfold Stop
    cases r' <;> cases g' <;> cases b'
    all_goals first | exact absurd ⟨rfl, rfl⟩ hq | skip
    all_goals refine wpAny_If ?_
    all_goals k_steps
    all_goals ((with_reducible rename Fr _ _ _ _ => fX); (with_reducible rename News _ _ _ _ => nX); exact fin (by constructor <;> first | exact Nat.succ_pos _ | assumption) fX.keep (nX _ (.head _)).2.2 (nX _ (.head _)).1 (by decide +kernel))
end
-- part: MLay
section
theorem off_MLay : True := by w_top off; exact trivial
local macro_rules | `(tactic| k_room) => `(tactic| ktr_room)
local macro_rules | `(tactic| walk_at "call ref") => `(tactic| ((with_reducible show wpAny _ _ (call (Value.ref 249) _ _) _ _ _); k_dflt (refine' cover_use ?b1 ?b2 ?b3 ?b4 ?b5 ?b7 ?b8 ?b10 ?b11 ?b12 ?b13 ?_; (case b1 => k_asm); (case b2 => k_asm); (case b3 => k_asm); (case b4 => k_asm); (case b5 => k_asm); (case b7 => rfl); (case b8 => rfl); (case b10 => ktr_room); (case b11 => ktr_units); (case b12 => exact Fr.lst (by assumption) (by assumption)); (case b13 => assumption)); intro D' h' tk' F' N' o1'; (try simp only [LCg.Off1, and_true] at o1')))
theorem face0 {prog : Program} {w : World} {A : Around} {E : Value → Shared → Prop} {s : Shared} {value slice : PySem.Expr} {a b c : Nat} {t u : Tok} {i : Int} {Q : Value → Shared → Prop} (hi : i = 0) (h : ∀ t' k, Q (.str ⟨#[a]⟩ t') { s with toks := k })
    (hs : subscripted slice false (.str ⟨#[a, b, c]⟩ t) (.int i u) = operate [.str ⟨#[a, b, c]⟩ t, .int i u] (getItem (.str ⟨#[a, b, c]⟩ t) (.int i u)) := by with_unfolding_all rfl) (hg : ∀ r, letTemporaryGo value (.str ⟨#[a, b, c]⟩ t) r = pure () := by intro _; with_unfolding_all rfl) :
    wpAny (model prog w) A (subscriptTail value slice (.str ⟨#[a, b, c]⟩ t) (.int i u)) Q E s := by
  subst hi
  exact item_str (by decide) (by show -(3 : Int) ≤ _; decide) (by show _ < (3 : Int); decide) (fun _ => h _ _) hs hg
theorem face1 {prog : Program} {w : World} {A : Around} {E : Value → Shared → Prop} {s : Shared} {value slice : PySem.Expr} {a b c : Nat} {t u : Tok} {i : Int} {Q : Value → Shared → Prop} (hi : i = 1) (h : ∀ t' k, Q (.str ⟨#[b]⟩ t') { s with toks := k })
    (hs : subscripted slice false (.str ⟨#[a, b, c]⟩ t) (.int i u) = operate [.str ⟨#[a, b, c]⟩ t, .int i u] (getItem (.str ⟨#[a, b, c]⟩ t) (.int i u)) := by with_unfolding_all rfl) (hg : ∀ r, letTemporaryGo value (.str ⟨#[a, b, c]⟩ t) r = pure () := by intro _; with_unfolding_all rfl) :
    wpAny (model prog w) A (subscriptTail value slice (.str ⟨#[a, b, c]⟩ t) (.int i u)) Q E s := by
  subst hi
  exact item_str (by decide) (by show -(3 : Int) ≤ _; decide) (by show _ < (3 : Int); decide) (fun _ => h _ _) hs hg
theorem face2 {prog : Program} {w : World} {A : Around} {E : Value → Shared → Prop} {s : Shared} {value slice : PySem.Expr} {a b c : Nat} {t u : Tok} {i : Int} {Q : Value → Shared → Prop} (hi : i = 2) (h : ∀ t' k, Q (.str ⟨#[c]⟩ t') { s with toks := k })
    (hs : subscripted slice false (.str ⟨#[a, b, c]⟩ t) (.int i u) = operate [.str ⟨#[a, b, c]⟩ t, .int i u] (getItem (.str ⟨#[a, b, c]⟩ t) (.int i u)) := by with_unfolding_all rfl) (hg : ∀ r, letTemporaryGo value (.str ⟨#[a, b, c]⟩ t) r = pure () := by intro _; with_unfolding_all rfl) :
    wpAny (model prog w) A (subscriptTail value slice (.str ⟨#[a, b, c]⟩ t) (.int i u)) Q E s := by
  subst hi
  exact item_str (by decide) (by show -(3 : Int) ≤ _; decide) (by show _ < (3 : Int); decide) (fun _ => h _ _) hs hg
theorem edge0 {prog : Program} {w : World} {A : Around} {E : Value → Shared → Prop} {s : Shared} {value slice : PySem.Expr} {a b : Nat} {t u : Tok} {i : Int} {Q : Value → Shared → Prop} (hi : i = 0) (h : ∀ t' k, Q (.str ⟨#[a]⟩ t') { s with toks := k })
    (hs : subscripted slice false (.str (⟨#[a]⟩ ++ ⟨#[b]⟩) t) (.int i u) = operate [.str (⟨#[a]⟩ ++ ⟨#[b]⟩) t, .int i u] (getItem (.str (⟨#[a]⟩ ++ ⟨#[b]⟩) t) (.int i u)) := by with_unfolding_all rfl) (hg : ∀ r, letTemporaryGo value (.str (⟨#[a]⟩ ++ ⟨#[b]⟩) t) r = pure () := by intro _; with_unfolding_all rfl) :
    wpAny (model prog w) A (subscriptTail value slice (.str (⟨#[a]⟩ ++ ⟨#[b]⟩) t) (.int i u)) Q E s := by
  subst hi
  exact item_str (by decide) (by show -(2 : Int) ≤ _; decide) (by show _ < (2 : Int); decide) (fun _ => h _ _) hs hg
theorem edge1 {prog : Program} {w : World} {A : Around} {E : Value → Shared → Prop} {s : Shared} {value slice : PySem.Expr} {a b : Nat} {t u : Tok} {i : Int} {Q : Value → Shared → Prop} (hi : i = 1) (h : ∀ t' k, Q (.str ⟨#[b]⟩ t') { s with toks := k })
    (hs : subscripted slice false (.str (⟨#[a]⟩ ++ ⟨#[b]⟩) t) (.int i u) = operate [.str (⟨#[a]⟩ ++ ⟨#[b]⟩) t, .int i u] (getItem (.str (⟨#[a]⟩ ++ ⟨#[b]⟩) t) (.int i u)) := by with_unfolding_all rfl) (hg : ∀ r, letTemporaryGo value (.str (⟨#[a]⟩ ++ ⟨#[b]⟩) t) r = pure () := by intro _; with_unfolding_all rfl) :
    wpAny (model prog w) A (subscriptTail value slice (.str (⟨#[a]⟩ ++ ⟨#[b]⟩) t) (.int i u)) Q E s := by
  subst hi
  exact item_str (by decide) (by show -(2 : Int) ≤ _; decide) (by show _ < (2 : Int); decide) (fun _ => h _ _) hs hg
local macro_rules | `(tactic| walk_at "subscriptTail") => `(tactic| ((with_reducible show wpAny _ _ (subscriptTail _ _ (Value.str ⟨#[_, _, _]⟩ _) (Value.int _ _)) _ _ _); (first | refine face0 (by decide) ?_ | refine face1 (by decide) ?_ | refine face2 (by decide) ?_); intro _ _))
local macro_rules | `(tactic| walk_at "subscriptTail Name Name str int") => `(tactic| ((with_reducible show wpAny _ _ (subscriptTail _ _ (Value.str ⟨#[_, _, _]⟩ _) (Value.int _ _)) _ _ _); (first | refine face0 (by decide) ?_ | refine face1 (by decide) ?_ | refine face2 (by decide) ?_); intro _ _))
local macro_rules | `(tactic| walk_at "subscriptTail") => `(tactic| ((with_reducible show wpAny _ _ (subscriptTail _ _ (Value.str (HAppend.hAppend _ _) _) (Value.int _ _)) _ _ _); (first | refine edge0 (by decide) ?_ | refine edge1 (by decide) ?_); intro _ _))
local macro_rules | `(tactic| walk_at "subscriptTail Name Constant str int") => `(tactic| ((with_reducible show wpAny _ _ (subscriptTail _ _ (Value.str (HAppend.hAppend _ _) _) (Value.int _ _)) _ _ _); (first | refine edge0 (by decide) ?_ | refine edge1 (by decide) ?_); intro _ _))
local macro_rules | `(tactic| walk_at "subscriptTail Name Name str int") => `(tactic| ((with_reducible show wpAny _ _ (subscriptTail _ _ (Value.str (HAppend.hAppend _ _) _) (Value.int _ _)) _ _ _); (first | refine edge0 (by decide) ?_ | refine edge1 (by decide) ?_); intro _ _))
/-- a table's row as the heap holds it: a pair of texts -/
def PairObj (o : Obj) : Prop := ∃ (x : PySem.Str) (tx : Tok) (y : PySem.Str) (ty : Tok) (nt : Nat), o.data = .seq #[.str x tx, .str y ty] nt
structure TabOk (tups : List (Addr × Obj)) (vs : List Value) (ents : List Ent) (k : Nat) : Prop where
  pairs : PairsAre tups vs ents
  tuple : TupsOk tups
  short : ∀ e ∈ ents, e.1.length ≤ 10
  len : vs.length ≤ k
  pobj : ∀ q ∈ tups, PairObj q.2
theorem off_tab {h : Heap} {T D H : Addr} {o1 o2 o3 : Obj} {tups : List (Addr × Obj)} {r : Addr × Obj} (hr : h.get? r.1 = some r.2) (ht : ∀ q ∈ tups, h.get? q.1 = some q.2) (hTO : TupsOk tups) (hc : r.2.cls ≠ .type "tuple") (a : r.1 ≠ H) (b : r.1 ≠ T) (c : r.1 ≠ D) :
    r.1 ∉ ((H, o1) :: (T, o2) :: (D, o3) :: tups).map (·.1) := fun hm => by
  obtain ⟨q, hq, e⟩ := List.mem_map.mp hm
  rcases List.mem_cons.mp hq with rfl | hq
  · exact a e.symm
  · rcases List.mem_cons.mp hq with rfl | hq
    · exact b e.symm
    · rcases List.mem_cons.mp hq with rfl | hq
      · exact c e.symm
      · have := ht q hq
        rw [e, hr] at this
        exact hc ((congrArg Obj.cls (Option.some.inj this)).trans (hTO q hq))
section
variable {w : World} {dp un : Nat} {gd : Option (List Code)} {A₀ : Around} {E : Value → Shared → Prop} {env : Env} {outer : List Env} {base g : Heap} {L : Addr} {m : PySem.Str → Option Value} {s : Shared} {mean : ExcName → Option Value} {mg mb : PySem.Str → Option Value} {Q : Value → Shared → Prop}
  {TT D H : Addr} {hsh : Int} {t : Tok} {vs : List Value} {n : Nat} {tups : List (Addr × Obj)} {r1 r2 : Addr × Obj}
theorem add_use (B : Below A₀ base outer g) (F : Fr g L s.heap m) (X : (hd.heap_1 w.params).In g) (N : News g L s.heap (r1 :: r2 :: (H, W.listOf vs.toArray n) :: (TT, instObj 235 D) :: (D, dictOf [⟨hsh, .str (Str.ofString "_headers") t, .ref H⟩] 1) :: tups)) (T : Top qv looseL mean mg mb g) (hf : env.frame = some L) (hke : env.scope.kind = .function) (hdp : dp + 3 < recursionLimit) (hu : un + 24 < cLine)
    (a1 : r1.2.cls ≠ .type "tuple") (a2 : r1.1 ≠ H) (a3 : r1.1 ≠ TT) (a4 : r1.1 ≠ D) (b1 : r2.2.cls ≠ .type "tuple") (b2 : r2.1 ≠ H) (b3 : r2.1 ≠ TT) (b4 : r2.1 ≠ D)
    {nm val : PySem.Str} {u v : Tok} {ents : List Ent} {k : Nat} (ok : TabOk tups vs ents k) (hk : k ≤ 1000) (hW : Word nm) (hW2 : Word val)
    (ret : ∀ p n' ta tb nt h' tk', Fr g L h' m → News g L h' (r1 :: r2 :: (H, W.listOf (vs ++ [Value.ref p]).toArray n') :: (TT, instObj 235 D) :: (D, dictOf [⟨hsh, .str (Str.ofString "_headers") t, .ref H⟩] 1) :: (p, ({ cls := .type "tuple", data := .seq #[.str nm ta, .str val tb] nt } : Obj)) :: tups) → TabOk ((p, ({ cls := .type "tuple", data := .seq #[.str nm ta, .str val tb] nt } : Obj)) :: tups) (vs ++ [Value.ref p]) (ents ++ [(nm, val)]) (k + 1) → Q .none { s with heap := h', toks := tk' }) :
    wpAny (model PySem.Challenge.rw_tr0054_01.prog w) { handled := none, depth := dp, frames := some (env :: outer), guards := gd, units := un } (call (.ref 232) [.ref TT, .str nm u, .str val v]) Q E s := by
  have hTO := ok.tuple
  have hlen := Nat.le_trans ok.len hk
  have Nt : News g L s.heap ((H, W.listOf vs.toArray n) :: (TT, instObj 235 D) :: (D, dictOf [⟨hsh, .str (Str.ofString "_headers") t, .ref H⟩] 1) :: tups) := fun q hq => N q (.tail _ (.tail _ hq))
  obtain ⟨F1, B1, st, _⟩ := groundX (A := ({ handled := none, depth := dp, frames := some (env :: outer), guards := gd, units := un } : Around)) (R := fun _ _ => True) B F Nt rfl hf hke
  have hT : ∀ q ∈ tups, s.heap.get? q.1 = some q.2 := fun q hq => (Nt q (.tail _ (.tail _ (.tail _ hq)))).1
  have e1 := hideAll_get _ (N _ (.head _)).1 (off_tab (o1 := W.listOf vs.toArray n) (o2 := instObj 235 D) (o3 := dictOf [⟨hsh, .str (Str.ofString "_headers") t, .ref H⟩] 1) (N _ (.head _)).1 hT hTO a1 a2 a3 a4)
  have e2 := hideAll_get _ (N _ (.tail _ (.head _))).1 (off_tab (o1 := W.listOf vs.toArray n) (o2 := instObj 235 D) (o3 := dictOf [⟨hsh, .str (Str.ofString "_headers") t, .ref H⟩] 1) (N _ (.tail _ (.head _))).1 hT hTO b1 b2 b3 b4)
  have kg1 : ∀ b o, (hideAll s.heap (((H, W.listOf vs.toArray n) :: (TT, instObj 235 D) :: (D, dictOf [⟨hsh, .str (Str.ofString "_headers") t, .ref H⟩] 1) :: tups).map (·.1))).get? b = some o → s.heap.get? b = some o := fun b o e => of_hideAll _ e
  have sz1 : (hideAll s.heap (((H, W.listOf vs.toArray n) :: (TT, instObj 235 D) :: (D, dictOf [⟨hsh, .str (Str.ofString "_headers") t, .ref H⟩] 1) :: tups).map (·.1))).objs.size ≤ s.heap.objs.size := Nat.le_of_eq (hideAll_size _ _)
  have N2 : ∀ q ∈ (H, W.listOf vs.toArray n) :: (TT, instObj 235 D) :: (D, dictOf [⟨hsh, .str (Str.ofString "_headers") t, .ref H⟩] 1) :: tups, s.heap.get? q.1 = some q.2 ∧ (hideAll s.heap (((H, W.listOf vs.toArray n) :: (TT, instObj 235 D) :: (D, dictOf [⟨hsh, .str (Str.ofString "_headers") t, .ref H⟩] 1) :: tups).map (·.1))).get? q.1 = none := fun q hq => ⟨(Nt q hq).1, hideAll_none _ (List.mem_map_of_mem hq)⟩
  generalize hideAll s.heap (((H, W.listOf vs.toArray n) :: (TT, instObj 235 D) :: (D, dictOf [⟨hsh, .str (Str.ofString "_headers") t, .ref H⟩] 1) :: tups).map (·.1)) = g1 at F1 B1 st e1 e2 kg1 sz1 N2
  have B2 : Below ({ handled := none, depth := dp, frames := some (env :: outer), guards := gd, units := un } : Around) base (env :: outer) g1 := ⟨rfl, B1.stays, B1.frames⟩
  refine wpAny_call (@add_spec w dp un gd (env :: outer) base g1 s mean mg mb (wants Q E) B2 kg1 sz1 (X.keeps st) (T.keeps st) rfl hdp hu TT D H hsh t vs n tups nm val u v N2 hlen hW hW2 hTO fun p n' ta tb nt h' tk' k1 k2 k3 k4 => ?_)
  refine ret p n' ta tb nt h' tk' (F1.grownK k1) (fun q hq => ?_) ⟨(ok.pairs.more fun _ q => .tail _ q).append (.cons ⟨p, ta, tb, nt, rfl, .head _⟩ .nil), fun q hq => ?_, fun e he => ?_, by rw [List.length_append]; exact Nat.succ_le_succ ok.len, fun q hq => by
    rcases List.mem_cons.mp hq with rfl | hq
    · exact ⟨_, _, _, _, _, rfl⟩
    · exact ok.pobj q hq⟩
  rotate_left 1
  · rcases List.mem_cons.mp hq with rfl | hq
    · rfl
    · exact hTO q hq
  · rcases List.mem_append.mp he with he | he
    · exact ok.short e he
    · rw [List.mem_singleton.mp he]; exact hW.small
  rcases List.mem_cons.mp hq with rfl | hq
  · exact ⟨k1 _ _ e1, (N _ (.head _)).2⟩
  · rcases List.mem_cons.mp hq with rfl | hq
    · exact ⟨k1 _ _ e2, (N _ (.tail _ (.head _))).2⟩
    · rcases List.mem_cons.mp hq with rfl | hq
      · exact ⟨k2 _ (.head _), (Nt _ (.head _)).2⟩
      · rcases List.mem_cons.mp hq with rfl | hq
        · exact ⟨k2 _ (.tail _ (.head _)), (Nt _ (.tail _ (.head _))).2⟩
        · rcases List.mem_cons.mp hq with rfl | hq
          · exact ⟨k2 _ (.tail _ (.tail _ (.head _))), (Nt _ (.tail _ (.tail _ (.head _)))).2⟩
          · rcases List.mem_cons.mp hq with rfl | hq
            · exact ⟨k3, fresh_ne F1 k4, fresh_g F1 k4⟩
            · exact ⟨k2 q (.tail _ (.tail _ (.tail _ hq))), (Nt q (.tail _ (.tail _ (.tail _ hq)))).2⟩
theorem del_use (B : Below A₀ base outer g) (F : Fr g L s.heap m) (X : (hd.heap_1 w.params).In g) (N : News g L s.heap (r1 :: r2 :: (H, W.listOf vs.toArray n) :: (TT, instObj 235 D) :: (D, dictOf [⟨hsh, .str (Str.ofString "_headers") t, .ref H⟩] 1) :: tups)) (T : Top qv looseL mean mg mb g) (hf : env.frame = some L) (hke : env.scope.kind = .function) (hdp : dp + 3 < recursionLimit) (hu : un + 24 < cLine)
    (a1 : r1.2.cls ≠ .type "tuple") (a2 : r1.1 ≠ H) (a3 : r1.1 ≠ TT) (a4 : r1.1 ≠ D) (b1 : r2.2.cls ≠ .type "tuple") (b2 : r2.1 ≠ H) (b3 : r2.1 ≠ TT) (b4 : r2.1 ≠ D)
    {nm : PySem.Str} {u : Tok} {ents : List Ent} {k : Nat} (ok : TabOk tups vs ents k) (hk : k ≤ 1000) (hW : Word (Txt.lower nm)) (hn : nm.length ≤ 10)
    (ret : ∀ ys n' h' tk', Fr g L h' m → News g L h' (r1 :: r2 :: (H, W.listOf ys.toArray n') :: (TT, instObj 235 D) :: (D, dictOf [⟨hsh, .str (Str.ofString "_headers") t, .ref H⟩] 1) :: tups) → TabOk tups ys (ents.filter fun e => Txt.lower e.1 != Txt.lower nm) (k + 1) → Q .none { s with heap := h', toks := tk' }) :
    wpAny (model PySem.Challenge.rw_tr0054_01.prog w) { handled := none, depth := dp, frames := some (env :: outer), guards := gd, units := un } (call (.ref 153) [.ref TT, .str nm u]) Q E s := by
  have hTO := ok.tuple
  have hlen := Nat.le_trans ok.len hk
  have hP := ok.pairs
  have he := ok.short
  have Nt : News g L s.heap ((H, W.listOf vs.toArray n) :: (TT, instObj 235 D) :: (D, dictOf [⟨hsh, .str (Str.ofString "_headers") t, .ref H⟩] 1) :: tups) := fun q hq => N q (.tail _ (.tail _ hq))
  obtain ⟨F1, B1, st, _⟩ := groundX (A := ({ handled := none, depth := dp, frames := some (env :: outer), guards := gd, units := un } : Around)) (R := fun _ _ => True) B F Nt rfl hf hke
  have hT : ∀ q ∈ tups, s.heap.get? q.1 = some q.2 := fun q hq => (Nt q (.tail _ (.tail _ (.tail _ hq)))).1
  have e1 := hideAll_get _ (N _ (.head _)).1 (off_tab (o1 := W.listOf vs.toArray n) (o2 := instObj 235 D) (o3 := dictOf [⟨hsh, .str (Str.ofString "_headers") t, .ref H⟩] 1) (N _ (.head _)).1 hT hTO a1 a2 a3 a4)
  have e2 := hideAll_get _ (N _ (.tail _ (.head _))).1 (off_tab (o1 := W.listOf vs.toArray n) (o2 := instObj 235 D) (o3 := dictOf [⟨hsh, .str (Str.ofString "_headers") t, .ref H⟩] 1) (N _ (.tail _ (.head _))).1 hT hTO b1 b2 b3 b4)
  have kg1 : ∀ b o, (hideAll s.heap (((H, W.listOf vs.toArray n) :: (TT, instObj 235 D) :: (D, dictOf [⟨hsh, .str (Str.ofString "_headers") t, .ref H⟩] 1) :: tups).map (·.1))).get? b = some o → s.heap.get? b = some o := fun b o e => of_hideAll _ e
  have sz1 : (hideAll s.heap (((H, W.listOf vs.toArray n) :: (TT, instObj 235 D) :: (D, dictOf [⟨hsh, .str (Str.ofString "_headers") t, .ref H⟩] 1) :: tups).map (·.1))).objs.size ≤ s.heap.objs.size := Nat.le_of_eq (hideAll_size _ _)
  have N2 : ∀ q ∈ (H, W.listOf vs.toArray n) :: (TT, instObj 235 D) :: (D, dictOf [⟨hsh, .str (Str.ofString "_headers") t, .ref H⟩] 1) :: tups, s.heap.get? q.1 = some q.2 ∧ (hideAll s.heap (((H, W.listOf vs.toArray n) :: (TT, instObj 235 D) :: (D, dictOf [⟨hsh, .str (Str.ofString "_headers") t, .ref H⟩] 1) :: tups).map (·.1))).get? q.1 = none := fun q hq => ⟨(Nt q hq).1, hideAll_none _ (List.mem_map_of_mem hq)⟩
  generalize hideAll s.heap (((H, W.listOf vs.toArray n) :: (TT, instObj 235 D) :: (D, dictOf [⟨hsh, .str (Str.ofString "_headers") t, .ref H⟩] 1) :: tups).map (·.1)) = g1 at F1 B1 st e1 e2 kg1 sz1 N2
  have B2 : Below ({ handled := none, depth := dp, frames := some (env :: outer), guards := gd, units := un } : Around) base (env :: outer) g1 := ⟨rfl, B1.stays, B1.frames⟩
  refine wpAny_call (@del_spec w dp un gd (env :: outer) base g1 s mean mg mb (wants Q E) B2 kg1 sz1 (X.keeps st) (T.keeps st) rfl hdp hu TT D H hsh t vs n tups ents nm u N2 hP hlen hW hn he hTO fun ys n' h' tk' k1 k2 k3 => ?_)
  refine ret ys n' h' tk' (F1.grownK k1) (fun q hq => ?_) ⟨k3, hTO, fun e h => he e (List.mem_filter.mp h).1, by rw [k3.len]; exact Nat.le_trans (List.length_filter_le ..) (by rw [← hP.len]; exact Nat.le_succ_of_le ok.len), ok.pobj⟩
  rcases List.mem_cons.mp hq with rfl | hq
  · exact ⟨k1 _ _ e1, (N _ (.head _)).2⟩
  · rcases List.mem_cons.mp hq with rfl | hq
    · exact ⟨k1 _ _ e2, (N _ (.tail _ (.head _))).2⟩
    · rcases List.mem_cons.mp hq with rfl | hq
      · exact ⟨k2 _ (.head _), (Nt _ (.head _)).2⟩
      · exact ⟨k2 q (.tail _ hq), (Nt q (.tail _ hq)).2⟩
end

def layStep (bit great : Bool) (x y : Nat) (face : PySem.Str) (ents : List Ent) : List Ent :=
  if bit then ents.filter (fun e => Txt.lower e.1 != Txt.lower (⟨#[y]⟩ ++ ⟨#[x]⟩)) else ents ++ [(if great then Txt.upper (⟨#[x]⟩ ++ ⟨#[y]⟩) else ⟨#[x]⟩ ++ ⟨#[y]⟩, face)]
def Mid (g : Heap) (L : Addr) (m : PySem.Str → Option Value) (s : Shared) (r1 r2 : Addr × Obj) (T D H : Addr) (hsh : Int) (t : Tok) (ents' : List Ent) (k : Nat) (f : Flow) (s' : Shared) : Prop :=
  f = .next ∧ ∃ ys n' tups' h' tk', s' = { s with heap := h', toks := tk' } ∧ Fr g L h' m ∧ News g L h' (r1 :: r2 :: (H, W.listOf ys.toArray n') :: (T, instObj 235 D) :: (D, dictOf [⟨hsh, .str (Str.ofString "_headers") t, .ref H⟩] 1) :: tups') ∧ TabOk tups' ys ents' k
theorem mid_if {prog : Program} {w : World} {A : Around} {E : Value → Shared → Prop} {s : Shared} {g : Heap} {L : Addr} {m : PySem.Str → Option Value} {r1 r2 : Addr × Obj} {T D H : Addr} {hsh : Int} {t : Tok} {vs : List Value} {n : Nat} {tups : List (Addr × Obj)} {Q : Flow → Shared → Prop} {c : Sem Flow}
    (F : Fr g L s.heap m) (N : News g L s.heap (r1 :: r2 :: (H, W.listOf vs.toArray n) :: (T, instObj 235 D) :: (D, dictOf [⟨hsh, .str (Str.ofString "_headers") t, .ref H⟩] 1) :: tups)) (ents' : List Ent) (k : Nat) (first : wpAny (model prog w) A c (Mid g L m s r1 r2 T D H hsh t ents' k) E s)
    (rest : ∀ ys n' tups' h' tk', Fr g L h' m → News g L h' (r1 :: r2 :: (H, W.listOf ys.toArray n') :: (T, instObj 235 D) :: (D, dictOf [⟨hsh, .str (Str.ofString "_headers") t, .ref H⟩] 1) :: tups') → TabOk tups' ys ents' k → Q .next { s with heap := h', toks := tk' }) : wpAny (model prog w) A c Q E s :=
  wpAny_mono first (fun f s' hq => by
    obtain ⟨e, ys, n', tups', h', tk', e2, F', N', ok⟩ := hq
    subst e e2; exact rest ys n' tups' h' tk' F' N' ok) fun _ _ e => e
def low : List Nat := [97, 98, 99, 100, 101, 102]
def wordB (x : PySem.Str) : Bool := decide (1 ≤ x.cps.size) && decide (x.cps.size ≤ 10) && x.cps.toList.all (fun c => decide (c ∈ letters))
theorem word_of {x : PySem.Str} (h : wordB x = true) : Word x := by
  simp only [wordB, Bool.and_eq_true, decide_eq_true_eq, List.all_eq_true] at h
  refine ⟨h.1.1, h.1.2, fun i hi => h.2 _ ?_⟩
  rw [Array.getD_eq_getD_getElem?, Array.getElem?_eq_getElem hi]
  exact Array.getElem_mem_toList hi
theorem words_all : (low.all fun a => low.all fun b => wordB (⟨#[a]⟩ ++ ⟨#[b]⟩) && wordB (Txt.upper (⟨#[a]⟩ ++ ⟨#[b]⟩)) && wordB (Txt.lower (⟨#[a]⟩ ++ ⟨#[b]⟩)) && low.all fun c => wordB ⟨#[a, b, c]⟩) = true := by decide +kernel
theorem words_at {a b : Nat} (ha : a ∈ low) (hb : b ∈ low) : Word (⟨#[a]⟩ ++ ⟨#[b]⟩) ∧ Word (Txt.upper (⟨#[a]⟩ ++ ⟨#[b]⟩)) ∧ Word (Txt.lower (⟨#[a]⟩ ++ ⟨#[b]⟩)) := by
  have q := List.all_eq_true.mp (List.all_eq_true.mp words_all a ha) b hb
  simp only [Bool.and_eq_true] at q
  exact ⟨word_of q.1.1.1, word_of q.1.1.2, word_of q.1.2⟩
theorem word_face {a b c : Nat} (ha : a ∈ low) (hb : b ∈ low) (hc : c ∈ low) : Word ⟨#[a, b, c]⟩ := by
  have q := List.all_eq_true.mp (List.all_eq_true.mp words_all a ha) b hb
  simp only [Bool.and_eq_true] at q
  exact word_of (List.all_eq_true.mp q.2 c hc)
local macro_rules | `(tactic| walk_at "call ref") => `(tactic| ((with_reducible show wpAny _ _ (call (Value.ref 232) _ _) _ _ _); k_dflt (refine' add_use ?b1 ?b2 ?b3 ?b4 ?b5 ?b7 ?b8 ?b10 ?b11 ?a1 ?a2 ?a3 ?a4 ?a5 ?a6 ?a7 ?a8 (by assumption) ?c2 ?c3 ?c4 ?_; (case b1 => k_asm); (case b2 => k_asm); (case b3 => k_asm); (case b4 => k_asm); (case b5 => k_asm); (case b7 => rfl); (case b8 => rfl); (case b10 => ktr_room); (case b11 => ktr_units); (case a1 => simp [itR]); (case a2 => (dsimp only; k_ne)); (case a3 => (dsimp only; k_ne)); (case a4 => (dsimp only; k_ne)); (case a5 => simp); (case a6 => (dsimp only; k_ne)); (case a7 => (dsimp only; k_ne)); (case a8 => (dsimp only; k_ne)); (case c2 => omega); (case c3 => assumption); (case c4 => assumption)); intro _ _ _ _ _ _ _ _ _ _))
local macro_rules | `(tactic| walk_at "call ref") => `(tactic| ((with_reducible show wpAny _ _ (call (Value.ref 153) _ _) _ _ _); k_dflt (refine' del_use ?b1 ?b2 ?b3 ?b4 ?b5 ?b7 ?b8 ?b10 ?b11 ?a1 ?a2 ?a3 ?a4 ?a5 ?a6 ?a7 ?a8 (by assumption) ?c2 ?c3 ?c4 ?_; (case b1 => k_asm); (case b2 => k_asm); (case b3 => k_asm); (case b4 => k_asm); (case b5 => k_asm); (case b7 => rfl); (case b8 => rfl); (case b10 => ktr_room); (case b11 => ktr_units); (case a1 => simp [itR]); (case a2 => (dsimp only; k_ne)); (case a3 => (dsimp only; k_ne)); (case a4 => (dsimp only; k_ne)); (case a5 => simp); (case a6 => (dsimp only; k_ne)); (case a7 => (dsimp only; k_ne)); (case a8 => (dsimp only; k_ne)); (case c2 => omega); (case c3 => assumption); (case c4 => exact l2 _ _)); intro _ _ _ _ _ _ _))
theorem del_item {M : Model} {A : Around} {E : Value → Shared → Prop} {s : Shared} {K : Frag} {x C L f : Addr} {h₀ : Heap} {m : PySem.Str → Option Value} {ox : Obj} {od : Option Obj} {i : Value} {Q : Unit → Shared → Prop} (F : Fr h₀ L s.heap m) (X₀ : K.In h₀) (I : InstAt s.heap x ox C od) (hq : noSeq K C = true) (hs : findIn K (.ref C) "__delitem__" = some (some (.ref f))) (hf : isFn K (.ref f) = true)
    (h : wpAny M A (call (.ref f) [.ref x, i]) (fun _ s' => Q () s') E s) : wpAny M A (delItem (.ref x) i) Q E s := by
  have X := X₀.keeps F.keep
  unfold delItem sequenceKey
  refine wpAny_holding (wpAny_bind (wpAny_bind (I.type.here ?_)))
  refine wpAny_bind ((anyM_none X hq).here ?_)
  rw [if_pos (show (!false) = true from rfl)]
  exact wpAny_pure (wpAny_bind (special_fn X I hs (beq_iff_eq.mp hf) (wpAny_mono h (fun _ _ z => wpAny_pure z) fun _ _ z => z)))
local macro_rules | `(tactic| walk_at "delItem ref str") => `(tactic| (k_here; k_dflt (refine' del_item ?F ?X ?I ?hQ ?hS ?hF ?_; (case F => k_asm); (case X => k_asm); (case I => k_inst); (case hS => k_is); (case hQ => k_is); (case hF => k_is); k_whole)))
local macro_rules | `(tactic| walk_at "delItem ref") => `(tactic| (k_here; k_dflt (refine' del_item ?F ?X ?I ?hQ ?hS ?hF ?_; (case F => k_asm); (case X => k_asm); (case I => k_inst); (case hS => k_is); (case hQ => k_is); (case hF => k_is); k_whole)))
local macro_rules | `(tactic| walk_at "call ref") => `(tactic| ((with_reducible show wpAny _ _ (call (Value.ref 153) _ _) _ _ _); refine stop_intro ?_))
local macro_rules | `(tactic| walk_at "call ref") => `(tactic| ((with_reducible show wpAny _ _ (call (Value.ref 232) _ _) _ _ _); refine stop_intro ?_))
local macro_rules | `(tactic| walk_at "exec If") => `(tactic| (k_here; refine stop_intro ?_))
theorem off_it {g h : Heap} {L I T D H D' : Addr} {x y : Int} {hsh : Int} {t : Tok} {ys : List Value} {n' n2 : Nat} {bs : Array Value} {tups' : List (Addr × Obj)} {ents : List Ent} {k : Nat} (N : News g L h ((I, itR x y) :: (D', W.listOf bs n2) :: (H, W.listOf ys.toArray n') :: (T, instObj 235 D) :: (D, dictOf [⟨hsh, .str (Str.ofString "_headers") t, .ref H⟩] 1) :: tups')) (ok : TabOk tups' ys ents k) : ∀ p ∈ (D', W.listOf bs n2) :: (H, W.listOf ys.toArray n') :: (T, instObj 235 D) :: (D, dictOf [⟨hsh, .str (Str.ofString "_headers") t, .ref H⟩] 1) :: tups', p.1 ≠ I := fun p hp e => by
  have h1 := (N _ (.head _)).1
  have h2 := (N p (.tail _ hp)).1
  rw [e, h1] at h2
  have h3 := congrArg Obj.cls (Option.some.inj h2)
  rcases List.mem_cons.mp hp with rfl | hp
  · simp [itR] at h3
  · rcases List.mem_cons.mp hp with rfl | hp
    · simp [itR] at h3
    · rcases List.mem_cons.mp hp with rfl | hp
      · simp [itR] at h3
      · rcases List.mem_cons.mp hp with rfl | hp
        · simp [itR] at h3
        · rw [ok.tuple p hp] at h3
          simp [itR] at h3
section
open LCg
variable {prog : Program} {w : World} {A : Around} {s : Shared} {h₀ : Heap} {L : Addr} {m : PySem.Str → Option Value} {env : Env}
theorem restG_each {elt : PySem.Expr} {x : PySem.Str} {scope : PySem.Scope} {cl : List (PySem.Str × Addr)} {S : List (Addr × Obj) → Prop} {P : Nat → Value → Prop} {Fin : List Value → List (Addr × Obj) → Prop} (G : Nat → Value → Prop) {news : List (Addr × Obj)} (hS : S news) (n : Nat)
    (turn : ∀ i v I oI C oC D m₂ h tk (E' : Value → Shared → Prop) ys, i < n → P i v → NsObj oC m₂ → m₂ x = some v → Fr h₀ L h m → News h₀ L h ((I, oI) :: (C, oC) :: (D, lst ys) :: news) → Off3 I C D news → ((@Ne Nat I C) ∧ (@Ne Nat I D) ∧ (@Ne Nat C D)) →
      wpAny (model prog w) A (eval elt (compEnvC scope cl C env)) (fun y s' => G i y ∧ ∃ h' tk', s' = { s with heap := h', toks := tk' } ∧ Fr h₀ L h' m ∧ News h₀ L h' ((I, oI) :: (C, oC) :: (D, lst ys) :: news)) E' { s with heap := h, toks := tk })
    (fin : ∀ ys : List Value, ys.length = n → (∀ j v, ys[j]? = some v → G j v) → Fin ys news) :
    CompRest prog w A h₀ L m env elt x scope cl s S P Fin n 0 [] news := by
  have go : ∀ k i (ys : List Value), i + k = n → ys.length = i → (∀ j v, ys[j]? = some v → G j v) → CompRest prog w A h₀ L m env elt x scope cl s S P Fin k i ys news := by
    intro k
    induction k with
    | zero =>
      intro i ys hi hl hP
      exact CompRest.zero (fin ys (by omega) hP)
    | succ k ih =>
      intro i ys hi hlen hP
      refine CompRest.succ fun v I oI C oC D m₂ h tk E' hv hC hx F N off ne => ?_
      refine wpAny_mono (turn i v I oI C oC D m₂ h tk E' _ (by omega) hv hC hx F N off ne) (fun y s' h' => ?_) fun _ _ e => e
      obtain ⟨hy, h₁, tk₁, rfl, F₁, N₁⟩ := h'
      refine CompEnd.intro F₁ N₁ news (fun _ q => q) off hS (ih (i + 1) _ (by omega) (by rw [List.length_append, List.length_singleton, hlen]) fun j u hj => ?_)
      rcases Nat.lt_trichotomy j ys.length with q | q | q
      · exact hP j u (by rwa [List.getElem?_append_left q] at hj)
      · subst q; simp at hj; subst hj; rw [hlen]; exact hy
      · have hnone : (ys ++ [y])[j]? = none := List.getElem?_eq_none (by rw [List.length_append, List.length_singleton]; omega)
        rw [hnone] at hj; cases hj
  exact go n 0 [] (by omega) rfl (fun j v h => by simp at h)
theorem rgb_use (B : Below A₀ base outer g) (F : Fr g L s.heap m) (X : (hd.heap_1 w.params).In g) {news : List (Addr × Obj)} (N : News g L s.heap news) (T : Top qv looseL mean mg mb g) (hf : env.frame = some L) (hke : env.scope.kind = .function) (hdp : dp + 2 < recursionLimit) (hu : un + 16 < cLine) {r' g' b' : Bool} {t u v : Tok}
    (ret : ∀ l h' tk' ta tb tc, (0 < tb ∧ 0 < tc) → Fr g L h' m → News g L h' ((l, ({ cls := .type "tuple", data := .seq #[.float (paintBits r' g' b').1 ta, .float (paintBits r' g' b').2.1 tb, .float (paintBits r' g' b').2.2 tc] } : Obj)) :: news) → LCg.Off1 l news → Q (.ref l) { s with heap := h', toks := tk' }) :
    wpAny (model PySem.Challenge.rw_tr0054_01.prog w) { handled := none, depth := dp, frames := some (env :: outer), guards := gd, units := un } (call (.ref 45) [.float (fl r') t, .float (fl g') u, .float (fl b') v]) Q E s := by
  have B' := pushX B F hf hke
  have B'' : Below ({ handled := none, depth := dp, frames := some (env :: outer), guards := gd, units := un } : Around) base (env :: outer) s.heap := ⟨rfl, B'.stays, B'.frames⟩
  refine wpAny_call (rgb_spec B'' (fun _ _ e => e) (Nat.le_refl _) (X.keeps F.keep) (T.keeps F.keep) rfl hdp hu fun l h' tk' ta tb tc kp k1 k2 k3 => ?_)
  refine ret l h' tk' ta tb tc kp (F.grownK k1) (fun p hp => ?_) (off1_of fun p hp => fresh_off k2 (N p hp).1)
  rcases List.mem_cons.mp hp with rfl | hp
  · exact ⟨k3, fresh_ne F k2, fresh_g F k2⟩
  · exact ⟨k1 _ _ (N p hp).1, (N p hp).2⟩
end
local macro_rules | `(tactic| walk_at "call ref") => `(tactic| ((with_reducible show wpAny _ _ (call (Value.ref 45) _ _) _ _ _); refine stop_intro ?_))
local macro_rules | `(tactic| walk_at "eval ListComp") => `(tactic| (k_here; k_dflt (refine ListComp_G (by k_asm) (by with_unfolding_all rfl) (by decide) (by rfl) (by decide) (by rfl) ?_)))
local macro_rules | `(tactic| walk_at "pyIter ref") => `(tactic| (k_here; (with_reducible show wpAny _ _ (pyIter _) (SrcG _ _ _ _ _ _ _ _ _ _ _ _) _ _); (with_reducible rename Fr _ _ _ _ => kF); (with_reducible rename News _ _ _ _ => kN); refine srcLst (by rfl) kF kN (.inr ⟨_, .head _, rfl, _, rfl⟩) (by simp [sizeLine_eq]) ?_; intro g'; refine stop_intro ?_))
def hueOf : Bool → Bool → Bool → Int
  | false, false, false => 0
  | true, false, false => 0
  | true, true, false => 1
  | false, true, false => 2
  | false, true, true => 3
  | false, false, true => 4
  | true, false, true => 5
  | true, true, true => 0
theorem paint_nan : ∀ x y z : Bool, Float64.isNaN (Float64.mul (paintBits x y z).1 (Float64.ofInt 6)) = false := by decide +kernel
theorem paint_inf : ∀ x y z : Bool, Float64.isInf (Float64.mul (paintBits x y z).1 (Float64.ofInt 6)) = false := by decide +kernel
theorem paint_round : ∀ x y z : Bool, Flt.toInt Float64.nearestOf (Float64.mul (paintBits x y z).1 (Float64.ofInt 6)) = hueOf x y z := by decide +kernel
def lay3 (names : List PySem.Str) (great : Bool) (a b c : Nat) (ents : List Ent) : List Ent :=
  layStep (inNames names a c) great c a ⟨#[a, b, c]⟩ (layStep (inNames names c b) great b c ⟨#[a, b, c]⟩ (layStep (inNames names b a) great a b ⟨#[a, b, c]⟩ ents))
def paintObj (x y z : Bool) (ta tb tc : Tok) : Obj := { cls := .type "tuple", data := .seq #[.int (hueOf x y z) ta, .float (paintBits x y z).2.1 tb, .float (paintBits x y z).2.2 tc] }
theorem lay_spec : ∀ {w : World} {dp un : Nat} {gd : Option (List Code)} {outer : List Env} {base g : Heap} {s : Shared} {mean : ExcName → Option Value} {mg mb : PySem.Str → Option Value} {R : Result → Shared → Prop} (_ : Below ({ handled := none, depth := dp, frames := some outer, guards := gd, units := un } : Around) base outer g) (_ : ∀ b o, g.get? b = some o → s.heap.get? b = some o) (_ : g.objs.size ≤ s.heap.objs.size) (_ : (hd.heap_1 w.params).In g) (_ : Top qv looseL mean mg mb g) (_ : ({ handled := none, depth := dp, frames := some outer, guards := gd, units := un } : Around).handled = none) (_ : dp + 5 < recursionLimit) (_ : un + 40 < cLine)
    {T D H : Addr} {hsh : Int} {t : Tok} {vs : List Value} {n : Nat} {tups : List (Addr × Obj)} {ents : List Ent} {nl : Addr} {ns : List Value} {names : List PySem.Str} {a b c : Nat} {great : Bool} {u : Tok}
    (_ : ∀ q ∈ (H, W.listOf vs.toArray n) :: (T, instObj 235 D) :: (D, dictOf [⟨hsh, .str (Str.ofString "_headers") t, .ref H⟩] 1) :: tups, s.heap.get? q.1 = some q.2 ∧ g.get? q.1 = none)
    {k : Nat} (_ : TabOk tups vs ents k) (_ : k ≤ 900) (_ : a ∈ low) (_ : b ∈ low) (_ : c ∈ low) (_ : g.IsList nl ns.toArray) (_ : StrsAre ns names)
    (_ : ∀ l ys n' tups' h' tk' ta tb tc, (0 < tb ∧ 0 < tc) → (∀ b o, g.get? b = some o → h'.get? b = some o) → (∀ q ∈ (l, paintObj (inNames names b a) (inNames names c b) (inNames names a c) ta tb tc) :: (H, W.listOf ys.toArray n') :: (T, instObj 235 D) :: (D, dictOf [⟨hsh, .str (Str.ofString "_headers") t, .ref H⟩] 1) :: tups', h'.get? q.1 = some q.2 ∧ g.get? q.1 = none) → TabOk tups' ys (lay3 names great a b c ents) (k + 3) → R (.ok (.ret (.ref l))) { s with heap := h', toks := tk' }),
    codeAny (model PySem.Challenge.rw_tr0054_01.prog w) ({ handled := none, depth := dp, frames := some outer, guards := gd, units := un } : Around) (.call (.ref 259) ⟨[.ref T, .ref nl, .str ⟨#[a, b, c]⟩ u, .bool great], []⟩) R s := by
  k_fill
  intro w dp un gd outer base g s mean mg mb R B kg sz X T hh hdp hu T' D H hsh t vs n tups ents nl ns names a b c great u N0 k ok hk ha hb hc hl hs ret
  obtain ⟨wab, wabU, _⟩ := words_at ha hb
  obtain ⟨wbc, wbcU, _⟩ := words_at hb hc
  obtain ⟨wca, wcaU, _⟩ := words_at hc ha
  have wba := (words_at hb ha).2.2
  have wcb := (words_at hc hb).2.2
  have wac := (words_at ha hc).2.2
  have wf := word_face ha hb hc
  have l2 : ∀ x y : Nat, ((⟨#[x]⟩ : PySem.Str) ++ ⟨#[y]⟩).length ≤ 10 := fun _ _ => by show (2 : Nat) ≤ 10; decide
  have lab := l2 a b
  have lbc := l2 b c
  have lca := l2 c a
  k_dflt (first | (refine' enterG ?k1 ?k2 ?k3 ?k4 ?k5 ?k6 ?k7 ?k8 ?k9 ?kb ?kB ?_ ?c2 ?c3 ?c4 ?c5; (case k1 => k_asm); (case k2 => k_asm); (case k3 => k_asm); (case k4 => k_asm); (case k5 => k_asm); (case k6 => k_asm); (case k7 => k_is); (case k8 => k_is); (case k9 => ktr_room); (case kb => first | exact BindsTo.of_eq rfl | exact binds_K (by k_in) rfl (by k_is) rfl rfl rfl); (case c5 => decide); (case kB => exact locs rfl); (case c2 => exact rfl); (case c3 => exact rfl); (case c4 => exact rfl); k_whole; intro L' h' F' N' l1; (try k_lt l1); (try dsimp only); (try k_fold)) | (refine' enterGC ?k1 ?k2 ?k3 ?k4 ?k5 ?k6 ?k7 ?k8 ?k9 ?kb ?kB ?kD ?_ ?c2 ?c3 ?c4; (case k1 => k_asm); (case k2 => k_asm); (case k3 => k_asm); (case k4 => k_asm); (case k5 => k_asm); (case k6 => k_asm); (case k7 => k_is); (case k8 => k_is); (case k9 => ktr_room); (case kb => first | exact BindsTo.of_eq rfl | exact binds_K (by k_in) rfl (by k_is) rfl rfl rfl); (case kB => exact rfl); (case kD => decide +kernel); (case c2 => exact rfl); (case c3 => exact rfl); (case c4 => exact rfl); k_whole; intro L' h' tk' cells' F' N' Y' l1; (try k_lt l1); k_cells Y'; (try simp only [List.cons_append, List.nil_append] at N'); (try dsimp only); (try k_fold)))
  k_steps
  unfold Stop
  (with_reducible rename Fr _ _ _ _ => fX); (with_reducible rename News _ _ _ _ => nX)
  refine mid_if fX nX (layStep (inNames names b a) great a b ⟨#[a, b, c]⟩ (ents)) (k + 1) ?f1 ?r1
  case f1 =>
    refine wpAny_If ?_
    k_steps
    all_goals unfold Stop
    · (rename inNames _ _ _ = _ => hb)
      refine del_use B fX X nX T rfl rfl (by ktr_room) (by ktr_units) (by simp [itR]) (by dsimp only; k_ne) (by dsimp only; k_ne) (by dsimp only; k_ne) (by simp) (by dsimp only; k_ne) (by dsimp only; k_ne) (by dsimp only; k_ne) ok (by omega) wba (l2 _ _) ?_
      intro ys n' h' tk' F' N' ok'
      k_steps
      exact ⟨rfl, ys, n', _, _, _, rfl, F', N', by rw [layStep, hb, if_pos rfl]; exact ok'⟩
    · (rename inNames _ _ _ = _ => hb); (rename great = _ => hg)
      refine add_use B fX X nX T rfl rfl (by ktr_room) (by ktr_units) (by simp [itR]) (by dsimp only; k_ne) (by dsimp only; k_ne) (by dsimp only; k_ne) (by simp) (by dsimp only; k_ne) (by dsimp only; k_ne) (by dsimp only; k_ne) ok (by omega) wabU wf ?_
      intro p n' ta tb nt h' tk' F' N' ok'
      k_steps
      exact ⟨rfl, _, n', _, _, _, rfl, F', N', by rw [layStep, hb, if_neg Bool.false_ne_true, if_pos hg]; exact ok'⟩
    · (rename inNames _ _ _ = _ => hb); (rename great = _ => hg)
      refine add_use B fX X nX T rfl rfl (by ktr_room) (by ktr_units) (by simp [itR]) (by dsimp only; k_ne) (by dsimp only; k_ne) (by dsimp only; k_ne) (by simp) (by dsimp only; k_ne) (by dsimp only; k_ne) (by dsimp only; k_ne) ok (by omega) wab wf ?_
      intro p n' ta tb nt h' tk' F' N' ok'
      k_steps
      exact ⟨rfl, _, n', _, _, _, rfl, F', N', by rw [layStep, hb, if_neg Bool.false_ne_true, if_neg (by rw [hg]; exact Bool.false_ne_true)]; exact ok'⟩
  intro ys1 n1 tups1 h1 tk1 F1 N1 ok1
  clear fX nX
  k_steps
  refine UnrEnd.intro F1 N1 _ (fun _ q => q) (off_it N1 ok1) ?_
  clear F1 N1
  k_steps
  unfold Stop
  (with_reducible rename Fr _ _ _ _ => fX); (with_reducible rename News _ _ _ _ => nX)
  refine mid_if fX nX (layStep (inNames names c b) great b c ⟨#[a, b, c]⟩ (layStep (inNames names b a) great a b ⟨#[a, b, c]⟩ (ents))) (k + 2) ?f2 ?r2
  case f2 =>
    refine wpAny_If ?_
    k_steps
    all_goals unfold Stop
    · (rename inNames _ _ _ = _ => hb)
      refine del_use B fX X nX T rfl rfl (by ktr_room) (by ktr_units) (by simp [itR]) (by dsimp only; k_ne) (by dsimp only; k_ne) (by dsimp only; k_ne) (by simp) (by dsimp only; k_ne) (by dsimp only; k_ne) (by dsimp only; k_ne) ok1 (by omega) wcb (l2 _ _) ?_
      intro ys n' h' tk' F' N' ok'
      k_steps
      exact ⟨rfl, ys, n', _, _, _, rfl, F', N', by rw [layStep, hb, if_pos rfl]; exact ok'⟩
    · (rename inNames _ _ _ = _ => hb); (rename great = _ => hg)
      refine add_use B fX X nX T rfl rfl (by ktr_room) (by ktr_units) (by simp [itR]) (by dsimp only; k_ne) (by dsimp only; k_ne) (by dsimp only; k_ne) (by simp) (by dsimp only; k_ne) (by dsimp only; k_ne) (by dsimp only; k_ne) ok1 (by omega) wbcU wf ?_
      intro p n' ta tb nt h' tk' F' N' ok'
      k_steps
      exact ⟨rfl, _, n', _, _, _, rfl, F', N', by rw [layStep, hb, if_neg Bool.false_ne_true, if_pos hg]; exact ok'⟩
    · (rename inNames _ _ _ = _ => hb); (rename great = _ => hg)
      refine add_use B fX X nX T rfl rfl (by ktr_room) (by ktr_units) (by simp [itR]) (by dsimp only; k_ne) (by dsimp only; k_ne) (by dsimp only; k_ne) (by simp) (by dsimp only; k_ne) (by dsimp only; k_ne) (by dsimp only; k_ne) ok1 (by omega) wbc wf ?_
      intro p n' ta tb nt h' tk' F' N' ok'
      k_steps
      exact ⟨rfl, _, n', _, _, _, rfl, F', N', by rw [layStep, hb, if_neg Bool.false_ne_true, if_neg (by rw [hg]; exact Bool.false_ne_true)]; exact ok'⟩
  intro ys2 n2 tups2 h2 tk2 F2 N2 ok2
  clear fX nX
  k_steps
  refine UnrEnd.intro F2 N2 _ (fun _ q => q) (off_it N2 ok2) ?_
  clear F2 N2
  k_steps
  unfold Stop
  (with_reducible rename Fr _ _ _ _ => fX); (with_reducible rename News _ _ _ _ => nX)
  refine mid_if fX nX (layStep (inNames names a c) great c a ⟨#[a, b, c]⟩ (layStep (inNames names c b) great b c ⟨#[a, b, c]⟩ (layStep (inNames names b a) great a b ⟨#[a, b, c]⟩ (ents)))) (k + 3) ?f3 ?r3
  case f3 =>
    refine wpAny_If ?_
    k_steps
    all_goals unfold Stop
    · (rename inNames _ _ _ = _ => hb)
      refine del_use B fX X nX T rfl rfl (by ktr_room) (by ktr_units) (by simp [itR]) (by dsimp only; k_ne) (by dsimp only; k_ne) (by dsimp only; k_ne) (by simp) (by dsimp only; k_ne) (by dsimp only; k_ne) (by dsimp only; k_ne) ok2 (by omega) wac (l2 _ _) ?_
      intro ys n' h' tk' F' N' ok'
      k_steps
      exact ⟨rfl, ys, n', _, _, _, rfl, F', N', by rw [layStep, hb, if_pos rfl]; exact ok'⟩
    · (rename inNames _ _ _ = _ => hb); (rename great = _ => hg)
      refine add_use B fX X nX T rfl rfl (by ktr_room) (by ktr_units) (by simp [itR]) (by dsimp only; k_ne) (by dsimp only; k_ne) (by dsimp only; k_ne) (by simp) (by dsimp only; k_ne) (by dsimp only; k_ne) (by dsimp only; k_ne) ok2 (by omega) wcaU wf ?_
      intro p n' ta tb nt h' tk' F' N' ok'
      k_steps
      exact ⟨rfl, _, n', _, _, _, rfl, F', N', by rw [layStep, hb, if_neg Bool.false_ne_true, if_pos hg]; exact ok'⟩
    · (rename inNames _ _ _ = _ => hb); (rename great = _ => hg)
      refine add_use B fX X nX T rfl rfl (by ktr_room) (by ktr_units) (by simp [itR]) (by dsimp only; k_ne) (by dsimp only; k_ne) (by dsimp only; k_ne) (by simp) (by dsimp only; k_ne) (by dsimp only; k_ne) (by dsimp only; k_ne) ok2 (by omega) wca wf ?_
      intro p n' ta tb nt h' tk' F' N' ok'
      k_steps
      exact ⟨rfl, _, n', _, _, _, rfl, F', N', by rw [layStep, hb, if_neg Bool.false_ne_true, if_neg (by rw [hg]; exact Bool.false_ne_true)]; exact ok'⟩
  intro ys3 n3 tups3 h3 tk3 F3 N3 ok3
  clear fX nX
  k_steps
  refine UnrEnd.intro F3 N3 _ (fun _ q => q) (off_it N3 ok3) ?_
  clear F3 N3
  k_steps
  unfold Stop
  refine restG_each (fun i y => ∃ u, y = .float (fl ([inNames names b a, inNames names c b, inNames names a c].getD i false)) u) (.inr ⟨_, .head _, rfl, _, rfl⟩) 3 ?turn ?fin
  case turn =>
    intro i v I oI C oC D₂ m₂ h tk E' ys hi hv hC hx F N off ne
    have e : v = .bool ([inNames names b a, inNames names c b, inNames names a c].getD i false) := by
      rcases lt3 hi with rfl | rfl | rfl
      · exact (Option.some.inj hv).symm
      · exact (Option.some.inj hv).symm
      · exact (Option.some.inj hv).symm
    subst e
    generalize [inNames names b a, inNames names c b, inNames names a c].getD i false = bit at hx
    clear off
    k_steps
    all_goals first | exact F | exact N | ((rename bit = _ => hb); rw [hb]; rfl)
  case fin =>
    intro ys hl2 hG D₂ h' tk' F' N' o1'
    (try dsimp only)
    obtain ⟨y1, y2, y3, rfl⟩ := list3 hl2
    · skip
      obtain ⟨u1, rfl⟩ := hG 0 y1 rfl
      obtain ⟨u2, rfl⟩ := hG 1 y2 rfl
      obtain ⟨u3, rfl⟩ := hG 2 y3 rfl
      k_steps
      all_goals unfold Stop
      (with_reducible rename Fr _ _ _ _ => fY); (with_reducible rename News _ _ _ _ => nY)
      refine rgb_use B fY X nY T rfl rfl (by ktr_room) (by ktr_units) ?_
      intro lr h4 tk4 ta tb tc hpos F4 N4 o4
      clear fY nY
      have pn := paint_nan (inNames names b a) (inNames names c b) (inNames names a c)
      have pi' := paint_inf (inNames names b a) (inNames names c b) (inNames names a c)
      have pr := paint_round (inNames names b a) (inNames names c b) (inNames names a c)
      k_steps
      · exact absurd ((by assumption : Float64.isNaN _ = true).symm.trans pn) (by decide)
      · exact absurd ((by assumption : Float64.isInf _ = true).symm.trans pi') (by decide)
      (with_reducible rename Fr _ _ _ _ => fZ); (with_reducible rename News _ _ _ _ => nZ)
      refine ret _ ys3 n3 tups3 _ _ ?tt tb tc hpos fZ.keep ?_ ok3
      rotate_left 1
      · intro q hq
        rcases List.mem_cons.mp hq with rfl | hq
        · refine ⟨?_, (nZ _ (.head _)).2.2⟩
          have q0 := (nZ _ (.head _)).1
          simp only [paintObj, ← pr]
          simp only [List.getD_cons_zero, List.getD_cons_succ] at q0
          exact q0
        · have q0 := nZ q (.tail _ (.tail _ (.tail _ (.tail _ hq))))
          exact ⟨q0.1, q0.2.2⟩
end
-- part: MUse
section
theorem off_MUse : True := by w_top off; exact trivial
local macro_rules | `(tactic| k_room) => `(tactic| ktr_room)
/-- an object apart from a table and its rows -/
def OffTab (H TT D : Addr) (r : Addr × Obj) : Prop := r.1 ≠ H ∧ r.1 ≠ TT ∧ r.1 ≠ D ∧ (r.2.cls ≠ .type "tuple" ∨ ¬ PairObj r.2)
theorem paint_off {x y z : Bool} {ta tb tc : Tok} : ¬ PairObj (paintObj x y z ta tb tc) := fun ⟨_, _, _, _, _, e⟩ => by simp [paintObj] at e
theorem offTab_out {h : Heap} {T D H : Addr} {o1 o2 o3 : Obj} {tups : List (Addr × Obj)} {vs : List Value} {ents : List Ent} {k : Nat} {r : Addr × Obj} (ok : TabOk tups vs ents k) (hr : h.get? r.1 = some r.2) (ht : ∀ q ∈ tups, h.get? q.1 = some q.2) (off : OffTab H T D r) :
    r.1 ∉ ((H, o1) :: (T, o2) :: (D, o3) :: tups).map (·.1) := fun hm => by
  obtain ⟨a, b, c, hc⟩ := off
  obtain ⟨q, hq, e⟩ := List.mem_map.mp hm
  rcases List.mem_cons.mp hq with rfl | hq
  · exact a e.symm
  · rcases List.mem_cons.mp hq with rfl | hq
    · exact b e.symm
    · rcases List.mem_cons.mp hq with rfl | hq
      · exact c e.symm
      · have := ht q hq
        rw [e, hr] at this
        have this := Option.some.inj this
        rcases hc with hc | hc
        · exact hc ((congrArg Obj.cls this).trans (ok.tuple q hq))
        · exact hc (this ▸ ok.pobj q hq)
section
variable {w : World} {dp un : Nat} {gd : Option (List Code)} {A₀ : Around} {E : Value → Shared → Prop} {env : Env} {outer : List Env} {base g : Heap} {L : Addr} {m : PySem.Str → Option Value} {s : Shared} {mean : ExcName → Option Value} {mg mb : PySem.Str → Option Value} {Q : Value → Shared → Prop}
  {TT D H : Addr} {hsh : Int} {t : Tok} {vs : List Value} {n : Nat} {tups : List (Addr × Obj)}
theorem keys_use (front : List (Addr × Obj)) (B : Below A₀ base outer g) (F : Fr g L s.heap m) (X : (hd.heap_1 w.params).In g) (N : News g L s.heap (front ++ (H, W.listOf vs.toArray n) :: (TT, instObj 235 D) :: (D, dictOf [⟨hsh, .str (Str.ofString "_headers") t, .ref H⟩] 1) :: tups)) (T : Top qv looseL mean mg mb g) (hf : env.frame = some L) (hke : env.scope.kind = .function) (hdp : dp + 2 < recursionLimit) (hu : un + 16 < cLine)
    (off : ∀ r ∈ front, OffTab H TT D r) {ents : List Ent} {k : Nat} (ok : TabOk tups vs ents k) (hk : k ≤ 1000)
    (ret : ∀ l ys h' tk', Fr g L h' m → News g L h' ((l, LCg.lst ys) :: (front ++ (H, W.listOf vs.toArray n) :: (TT, instObj 235 D) :: (D, dictOf [⟨hsh, .str (Str.ofString "_headers") t, .ref H⟩] 1) :: tups)) → LCg.Off1 l (front ++ (H, W.listOf vs.toArray n) :: (TT, instObj 235 D) :: (D, dictOf [⟨hsh, .str (Str.ofString "_headers") t, .ref H⟩] 1) :: tups) → StrsAre ys (ents.map (·.1)) → Q (.ref l) { s with heap := h', toks := tk' }) :
    wpAny (model PySem.Challenge.rw_tr0054_01.prog w) { handled := none, depth := dp, frames := some (env :: outer), guards := gd, units := un } (call (.ref 187) [.ref TT]) Q E s := by
  have Nt : News g L s.heap ((H, W.listOf vs.toArray n) :: (TT, instObj 235 D) :: (D, dictOf [⟨hsh, .str (Str.ofString "_headers") t, .ref H⟩] 1) :: tups) := fun q hq => N q (List.mem_append_right _ hq)
  obtain ⟨F1, B1, st, _⟩ := groundX (A := ({ handled := none, depth := dp, frames := some (env :: outer), guards := gd, units := un } : Around)) (R := fun _ _ => True) B F Nt rfl hf hke
  have hT : ∀ q ∈ tups, s.heap.get? q.1 = some q.2 := fun q hq => (Nt q (.tail _ (.tail _ (.tail _ hq)))).1
  have e1 : ∀ r ∈ front, (hideAll s.heap (((H, W.listOf vs.toArray n) :: (TT, instObj 235 D) :: (D, dictOf [⟨hsh, .str (Str.ofString "_headers") t, .ref H⟩] 1) :: tups).map (·.1))).get? r.1 = some r.2 := fun r hr => hideAll_get _ (N r (List.mem_append_left _ hr)).1 (offTab_out ok (N r (List.mem_append_left _ hr)).1 hT (off r hr))
  have kg1 : ∀ b o, (hideAll s.heap (((H, W.listOf vs.toArray n) :: (TT, instObj 235 D) :: (D, dictOf [⟨hsh, .str (Str.ofString "_headers") t, .ref H⟩] 1) :: tups).map (·.1))).get? b = some o → s.heap.get? b = some o := fun b o e => of_hideAll _ e
  have sz1 : (hideAll s.heap (((H, W.listOf vs.toArray n) :: (TT, instObj 235 D) :: (D, dictOf [⟨hsh, .str (Str.ofString "_headers") t, .ref H⟩] 1) :: tups).map (·.1))).objs.size ≤ s.heap.objs.size := Nat.le_of_eq (hideAll_size _ _)
  have N2 : ∀ q ∈ (H, W.listOf vs.toArray n) :: (TT, instObj 235 D) :: (D, dictOf [⟨hsh, .str (Str.ofString "_headers") t, .ref H⟩] 1) :: tups, s.heap.get? q.1 = some q.2 ∧ (hideAll s.heap (((H, W.listOf vs.toArray n) :: (TT, instObj 235 D) :: (D, dictOf [⟨hsh, .str (Str.ofString "_headers") t, .ref H⟩] 1) :: tups).map (·.1))).get? q.1 = none := fun q hq => ⟨(Nt q hq).1, hideAll_none _ (List.mem_map_of_mem hq)⟩
  generalize hideAll s.heap (((H, W.listOf vs.toArray n) :: (TT, instObj 235 D) :: (D, dictOf [⟨hsh, .str (Str.ofString "_headers") t, .ref H⟩] 1) :: tups).map (·.1)) = g1 at F1 B1 st e1 kg1 sz1 N2
  have B2 : Below ({ handled := none, depth := dp, frames := some (env :: outer), guards := gd, units := un } : Around) base (env :: outer) g1 := ⟨rfl, B1.stays, B1.frames⟩
  refine wpAny_call (@keys_spec w dp un gd (env :: outer) base g1 s mean mg mb (wants Q E) B2 kg1 sz1 (X.keeps st) (T.keeps st) rfl hdp hu TT D H hsh t vs n tups ents N2 ok.pairs (Nat.le_trans ok.len hk) fun l ys h' tk' k1 k2 k3 k4 k5 k6 => ?_)
  have k4' : ∀ q ∈ (front ++ (H, W.listOf vs.toArray n) :: (TT, instObj 235 D) :: (D, dictOf [⟨hsh, .str (Str.ofString "_headers") t, .ref H⟩] 1) :: tups), q.1 ≠ l := fun q hq => by
    rcases List.mem_append.mp hq with hq | hq
    · exact fresh_off k3 (e1 q hq)
    · exact k4 q hq
  refine ret l ys h' tk' (F1.grownK k1) (fun q hq => ?_) (off1_of k4') k6
  rcases List.mem_cons.mp hq with rfl | hq
  · exact ⟨k5, fresh_ne F1 k3, fresh_g F1 k3⟩
  · rcases List.mem_append.mp hq with hq' | hq'
    · exact ⟨k1 _ _ (e1 q hq'), (N q hq).2⟩
    · exact ⟨k2 q hq', (N q hq).2⟩
theorem lay_use (front : List (Addr × Obj)) (B : Below A₀ base outer g) (F : Fr g L s.heap m) (X : (hd.heap_1 w.params).In g) (N : News g L s.heap (front ++ (H, W.listOf vs.toArray n) :: (TT, instObj 235 D) :: (D, dictOf [⟨hsh, .str (Str.ofString "_headers") t, .ref H⟩] 1) :: tups)) (T : Top qv looseL mean mg mb g) (hf : env.frame = some L) (hke : env.scope.kind = .function) (hdp : dp + 5 < recursionLimit) (hu : un + 40 < cLine)
    (off : ∀ r ∈ front, OffTab H TT D r) {nl : Addr} {on : Obj} (hin : (nl, on) ∈ front) {ns : List Value} (hon : on.cls = .type "list") (hond : ∃ k, on.data = .seq ns.toArray k) {names : List PySem.Str} (hs : StrsAre ns names)
    {a b c : Nat} {great : Bool} {u : Tok} (ha : a ∈ low) (hb : b ∈ low) (hc : c ∈ low) {ents : List Ent} {k : Nat} (ok : TabOk tups vs ents k) (hk : k ≤ 900)
    (ret : ∀ l ys n' tups' h' tk' ta tb tc, (0 < tb ∧ 0 < tc) → Fr g L h' m → News g L h' ((l, paintObj (inNames names b a) (inNames names c b) (inNames names a c) ta tb tc) :: (front ++ (H, W.listOf ys.toArray n') :: (TT, instObj 235 D) :: (D, dictOf [⟨hsh, .str (Str.ofString "_headers") t, .ref H⟩] 1) :: tups')) → LCg.Off1 l (front ++ (H, W.listOf ys.toArray n') :: (TT, instObj 235 D) :: (D, dictOf [⟨hsh, .str (Str.ofString "_headers") t, .ref H⟩] 1) :: tups') → TabOk tups' ys (lay3 names great a b c ents) (k + 3) → Q (.ref l) { s with heap := h', toks := tk' }) :
    wpAny (model PySem.Challenge.rw_tr0054_01.prog w) { handled := none, depth := dp, frames := some (env :: outer), guards := gd, units := un } (call (.ref 259) [.ref TT, .ref nl, .str ⟨#[a, b, c]⟩ u, .bool great]) Q E s := by
  have Nt : News g L s.heap ((H, W.listOf vs.toArray n) :: (TT, instObj 235 D) :: (D, dictOf [⟨hsh, .str (Str.ofString "_headers") t, .ref H⟩] 1) :: tups) := fun q hq => N q (List.mem_append_right _ hq)
  obtain ⟨F1, B1, st, _⟩ := groundX (A := ({ handled := none, depth := dp, frames := some (env :: outer), guards := gd, units := un } : Around)) (R := fun _ _ => True) B F Nt rfl hf hke
  have hT : ∀ q ∈ tups, s.heap.get? q.1 = some q.2 := fun q hq => (Nt q (.tail _ (.tail _ (.tail _ hq)))).1
  have e1 : ∀ r ∈ front, (hideAll s.heap (((H, W.listOf vs.toArray n) :: (TT, instObj 235 D) :: (D, dictOf [⟨hsh, .str (Str.ofString "_headers") t, .ref H⟩] 1) :: tups).map (·.1))).get? r.1 = some r.2 := fun r hr => hideAll_get _ (N r (List.mem_append_left _ hr)).1 (offTab_out ok (N r (List.mem_append_left _ hr)).1 hT (off r hr))
  have kg1 : ∀ b o, (hideAll s.heap (((H, W.listOf vs.toArray n) :: (TT, instObj 235 D) :: (D, dictOf [⟨hsh, .str (Str.ofString "_headers") t, .ref H⟩] 1) :: tups).map (·.1))).get? b = some o → s.heap.get? b = some o := fun b o e => of_hideAll _ e
  have sz1 : (hideAll s.heap (((H, W.listOf vs.toArray n) :: (TT, instObj 235 D) :: (D, dictOf [⟨hsh, .str (Str.ofString "_headers") t, .ref H⟩] 1) :: tups).map (·.1))).objs.size ≤ s.heap.objs.size := Nat.le_of_eq (hideAll_size _ _)
  have N2 : ∀ q ∈ (H, W.listOf vs.toArray n) :: (TT, instObj 235 D) :: (D, dictOf [⟨hsh, .str (Str.ofString "_headers") t, .ref H⟩] 1) :: tups, s.heap.get? q.1 = some q.2 ∧ (hideAll s.heap (((H, W.listOf vs.toArray n) :: (TT, instObj 235 D) :: (D, dictOf [⟨hsh, .str (Str.ofString "_headers") t, .ref H⟩] 1) :: tups).map (·.1))).get? q.1 = none := fun q hq => ⟨(Nt q hq).1, hideAll_none _ (List.mem_map_of_mem hq)⟩
  generalize hideAll s.heap (((H, W.listOf vs.toArray n) :: (TT, instObj 235 D) :: (D, dictOf [⟨hsh, .str (Str.ofString "_headers") t, .ref H⟩] 1) :: tups).map (·.1)) = g1 at F1 B1 st e1 kg1 sz1 N2
  have B2 : Below ({ handled := none, depth := dp, frames := some (env :: outer), guards := gd, units := un } : Around) base (env :: outer) g1 := ⟨rfl, B1.stays, B1.frames⟩
  refine wpAny_call (@lay_spec w dp un gd (env :: outer) base g1 s mean mg mb (wants Q E) B2 kg1 sz1 (X.keeps st) (T.keeps st) rfl hdp hu TT D H hsh t vs n tups ents nl ns names a b c great u N2 k ok hk ha hb hc ⟨on, e1 _ hin, hon, hond⟩ hs fun l ys n' tups' h' tk' ta tb tc kp k1 k2 k3 => ?_)
  have hl := (k2 _ (.head _)).1
  have kl := (k2 _ (.head _)).2
  have k4' : ∀ q ∈ (front ++ (H, W.listOf ys.toArray n') :: (TT, instObj 235 D) :: (D, dictOf [⟨hsh, .str (Str.ofString "_headers") t, .ref H⟩] 1) :: tups'), q.1 ≠ l := fun q hq => by
    rcases List.mem_append.mp hq with hq | hq
    · exact fresh_off kl (e1 q hq)
    · have hq1 := (k2 q (.tail _ hq)).1
      intro e
      rw [e, hl] at hq1
      have hq2 := Option.some.inj hq1
      rcases List.mem_cons.mp hq with rfl | hq
      · exact absurd (congrArg Obj.cls hq2) (by simp [paintObj])
      · rcases List.mem_cons.mp hq with rfl | hq
        · exact absurd (congrArg Obj.cls hq2) (by simp [paintObj, instObj])
        · rcases List.mem_cons.mp hq with rfl | hq
          · exact absurd (congrArg Obj.cls hq2) (by simp [paintObj])
          · exact paint_off (hq2 ▸ k3.pobj q hq)
  refine ret l ys n' tups' h' tk' ta tb tc kp (F1.grownK k1) (fun q hq => ?_) (off1_of k4') k3
  rcases List.mem_cons.mp hq with rfl | hq
  · exact ⟨hl, fresh_ne F1 kl, fresh_g F1 kl⟩
  · rcases List.mem_append.mp hq with hq' | hq'
    · exact ⟨k1 _ _ (e1 q hq'), (N q (List.mem_append_left _ hq')).2⟩
    · have hn := (k2 q (.tail _ hq')).2
      exact ⟨(k2 q (.tail _ hq')).1, fresh_ne F1 hn, fresh_g F1 hn⟩
end
end
-- part: MTurn
section
theorem off_MTurn : True := by w_top off; exact trivial
local macro_rules | `(tactic| k_room) => `(tactic| ktr_room)
theorem isList_turn {fs : List Addr} {g g' : Heap} {l : Addr} {vs : Array Value} (T : KtsTurn fs g g') (D : KtsDicts fs g) (h : g.IsList l vs) : g'.IsList l vs := by
  obtain ⟨o, ho, hc, n, hd⟩ := h
  by_cases hm : l ∈ fs
  · obtain ⟨o', es, n', ho', hd'⟩ := D l hm
    rw [ho] at ho'; cases ho'; rw [hd] at hd'; cases hd'
  · exact ⟨o, T.other l o ho hm, hc, n, hd⟩
section
variable {w : World} {dp un : Nat} {gd : Option (List Code)} {A₀ : Around} {E : Value → Shared → Prop} {qn : PySem.Str} {scope : PySem.Scope} {a : Addr} {cd : Value} {outer : List Env} {base g : Heap} {L : Addr} {m : PySem.Str → Option Value} {s : Shared} {mean : ExcName → Option Value} {mg mb : PySem.Str → Option Value} {Q : Value → Shared → Prop} {news : List (Addr × Obj)}
theorem ground_turn {G g'' h' : Heap} (B : Below A₀ base outer g) (F : Fr g L G m) (N : News g L G news) (T : KtsTurn ((envOf qn scope L a cd :: outer).filterMap (·.frame)) G g'') (k : ∀ b o, g''.get? b = some o → h'.get? b = some o) :
    ∃ g', KtsTurn (outer.filterMap (·.frame)) g g' ∧ Fr g' L h' m ∧ News g' L h' news ∧ Below A₀ base outer g' := by
  obtain ⟨g', T1, F1, B1⟩ := kts_ground (name := qn) (scope := scope) (a := a) (cd := cd) (B := g'') (h₅ := h') B F (fun b o e nm => T.other b o e nm) k (fun b o e _ => by obtain ⟨sl, hs⟩ := T.up e; exact ⟨sl, k _ _ hs⟩)
  refine ⟨g', T1, F1, fun p hp => ⟨k _ _ (T.other _ _ (N p hp).1 fun hm => ?_), (N p hp).2.1, T1.none_ _ (N p hp).2.2⟩, B1⟩
  rcases kts_mem hm with e | hm
  · exact (N p hp).2.1 e
  · obtain ⟨_, o, ho, _⟩ := B.frames.mem hm
    rw [(N p hp).2.2] at ho; cases ho
theorem answer_use (B : Below A₀ base outer g) (F : Fr g L s.heap m) (X : (hd.heap_1 w.params).In g) (N : News g L s.heap news) (T : Top qv looseL mean mg mb g) (XB : (hd.heap_1 w.params).In base) (TB : Top qv looseL mean mg mb base) (D : KtsDicts (outer.filterMap (·.frame)) g) (hke : scope.kind = .function) (hdp : dp + 2 < recursionLimit) (hu : un + 16 < cLine)
    {n : Addr} {vs : List Value} {names : List PySem.Str} (hl : s.heap.IsList n vs.toArray) (hs : StrsAre vs names) {x y z : Nat} {num : Int} {mark : PySem.Str} {t u v : Tok} (hw : (names.map (·.length)).sum + names.length ≤ 1000) (h0 : 0 ≤ num) (h8 : num < 8) (hm : mark ∈ marks)
    (none : sharedOf names x y z = 0 → ∀ t' h' tk' g', KtsTurn (outer.filterMap (·.frame)) g g' → Below A₀ base outer g' → Fr g' L h' m → News g' L h' news → Q (.str (Str.ofString "none") t') { s with heap := h', toks := tk' })
    (ill : 0 < sharedOf names x y z → touchOf names x y z + 2 - sharedOf names x y z ≠ 3 → ∀ t' h' tk' g', KtsTurn (outer.filterMap (·.frame)) g g' → Below A₀ base outer g' → Fr g' L h' m → News g' L h' news → Q (.str (Str.ofString "ill") t') { s with heap := h', toks := tk' })
    (ok : 0 < sharedOf names x y z → touchOf names x y z + 2 - sharedOf names x y z = 3 → ∀ l h' tk' ta tb, Fr g L h' m → News g L h' ((l, ({ cls := .type "tuple", data := .seq #[.str ⟨#[x, y, z]⟩ ta, .int num tb] } : Obj)) :: news) → LCg.Off1 l news → Q (.ref l) { s with heap := h', toks := tk' }) :
    wpAny (model PySem.Challenge.rw_tr0054_01.prog w) { handled := Option.none, depth := dp, frames := some (envOf qn scope L a cd :: outer), guards := gd, units := un } (call (.ref 254) [.ref n, .str ⟨#[x, y, z]⟩ t, .int num u, .str mark v]) Q E s := by
  have B' := pushX B F (env := envOf qn scope L a cd) rfl hke
  have B'' : Below ({ handled := Option.none, depth := dp, frames := some (envOf qn scope L a cd :: outer), guards := gd, units := un } : Around) base (envOf qn scope L a cd :: outer) s.heap := ⟨rfl, B'.stays, B'.frames⟩
  have D' : KtsDicts ((envOf qn scope L a cd :: outer).filterMap (·.frame)) s.heap := fun b hb => by
    rcases kts_mem hb with rfl | hb
    · obtain ⟨oL, es, ep, hL, hLd, _⟩ := F.ns
      exact ⟨oL, es, ep, hL, hLd⟩
    · obtain ⟨o, es, n', ho, hd'⟩ := D b hb
      exact ⟨o, es, n', F.keep b o ho, hd'⟩
  refine wpAny_call (answer_spec B'' (fun _ _ e => e) (Nat.le_refl _) (X.keeps F.keep) (T.keeps F.keep) rfl XB TB D' hdp hu hl hs hw h0 h8 hm (fun e t' h' tk' g'' T' k => ?_) (fun e e2 t' h' tk' g'' T' k => ?_) fun e e2 l h' tk' ta tb k1 k2 k3 => ?_)
  · obtain ⟨g', T1, F1, N1, B1⟩ := ground_turn B F N T' k
    exact none e t' h' tk' g' T1 B1 F1 N1
  · obtain ⟨g', T1, F1, N1, B1⟩ := ground_turn B F N T' k
    exact ill e e2 t' h' tk' g' T1 B1 F1 N1
  · refine ok e e2 l h' tk' ta tb (F.grownK k1) (fun p hp => ?_) (off1_of fun p hp => fresh_off k2 (N p hp).1)
    rcases List.mem_cons.mp hp with rfl | hp
    · exact ⟨k3, fresh_ne F k2, fresh_g F k2⟩
    · exact ⟨k1 _ _ (N p hp).1, (N p hp).2⟩
end
/-- a while's turn ends: on with a smaller measure, or out -/
def WEnd (S : Nat → Shared → Prop) (Q : Flow → Shared → Prop) (n : Nat) (f : Flow) (s : Shared) : Prop := match f with
  | .next | .cont => ∃ n', n' < n ∧ S n' s
  | .brk => Q .next s
  | .ret v => Q (.ret v) s
/-- a for's turn ends -/
def FEnd (S : Nat → Shared → Prop) (Q : Flow → Shared → Prop) (n : Nat) (f : Flow) (s : Shared) : Prop := match f with
  | .next | .cont => S n s
  | .brk => Q .next s
  | .ret v => Q (.ret v) s
section
variable {prog : Program} {w : World} {A : Around} {E : Value → Shared → Prop} {s : Shared} {env : Env} {Q : Flow → Shared → Prop} {body : List PySem.Stmt} {pos : Pos}
theorem while_own {test : PySem.Expr} (S : Nat → Shared → Prop) {n₀ : Nat} (h0 : S n₀ s)
    (turn : ∀ n s, S n s → wpAny (model prog w) A (isTrue test env (eval test env)) (fun b s₂ => if b = true then wpAny (model prog w) A (execs body env) (WEnd S Q n) E s₂ else Q .next s₂) E s)
    (hE : PassesOwn (model prog w) A env E := by passes_own) : wpAny (model prog w) A (exec (.While test body [] pos) env) Q E s := by
  refine wpAny_While (codeAny_whileLoop S (fun n s' hS => ?_) n₀ h0)
  refine wpAny_mono (turn n s' hS) (fun b s₂ h₂ => ?_) hE
  cases b with
  | false =>
    simp only [Bool.false_eq_true, if_false] at h₂ ⊢
    exact wpAny_execs_nil h₂
  | true =>
    simp only [if_true] at h₂ ⊢
    refine wpAny_mono h₂ (fun f s₃ h₃ => ?_) hE
    cases f with
    | next => exact h₃
    | cont => exact h₃
    | brk => exact h₃
    | ret v => exact h₃
def ForAt (prog : Program) (w : World) (A : Around) (env : Env) (target : PySem.Expr) (body : List PySem.Stmt) (Q : Flow → Shared → Prop) (E : Value → Shared → Prop) (it : Value) (s : Shared) : Prop :=
  codeAny (model prog w) A (.forLoop target it body [] env) (fun r s' => match r with | .ok f => Q f s' | .error e => cameBackBy (model prog w) A env E e s') s
theorem for_own {target iter : PySem.Expr} (h : wpAny (model prog w) A (eval iter env) (fun x s₁ => wpAny (model prog w) A (pyIter x) (ForAt prog w A env target body Q E) E s₁) E s)
    (hs : ∀ x, foldedSetIterable iter env x = pure x := by intro _; rfl) : wpAny (model prog w) A (exec (.For target iter body [] pos) env) Q E s := wpAny_For h hs
theorem forAt_list {x : PySem.Str} {px : Pos} {l it : Addr} {vs : List Value} (S : Nat → Shared → Prop) (hh : A.handled = none)
    (here : ∀ i s, S i s → s.heap.IsListIter it l i ∧ s.heap.IsList l vs.toArray)
    (h0 : S 0 s)
    (step : ∀ i v s, S i s → vs[i]? = some v → ∀ h', h'.IsListIter it l (i + 1) → Heap.SameBut it s.heap h' → ∀ K : Flow → Shared → Prop, (∀ f s₂, FEnd S Q (i + 1) f s₂ → K f s₂) → wpAny (model prog w) A (assign (.Name x px) env v) (fun _ s₂ => wpAny (model prog w) A (execs body env) K E s₂) E { s with heap := h' })
    (fin : ∀ s, S vs.length s → ∀ h', Heap.ExtBut it s.heap h' → Q .next { s with heap := h' })
    (hE : PassesOwn (model prog w) A env E := by passes_own) : ForAt prog w A env (.Name x px) body Q E (.ref it) s := by
  unfold ForAt
  refine codeAny_forLoop (fun k s' => ∃ i, S i s' ∧ i ≤ vs.length ∧ k = vs.length + 1 - i) (fun k s' => ?_) (vs.length + 1) ⟨0, h0, Nat.zero_le _, rfl⟩
  rintro ⟨i, hS, hi, rfl⟩
  obtain ⟨hit, hl⟩ := here i s' hS
  by_cases hlt : i < vs.length
  · have hv : vs[i]? = some vs[i] := List.getElem?_eq_getElem hlt
    refine wpAny_pyNext_list_item hit hl (by rw [List.getElem?_toArray]; exact hv) fun h' k1 k2 => ?_
    refine wpAny_mono (step i _ s' hS hv h' k1 k2 _ fun _ _ q => q) (fun _ s₂ h₂ => wpAny_mono h₂ (fun f s₃ h₃ => ?_) hE) hE
    cases f with
    | next => exact ⟨_, by omega, i + 1, h₃, hlt, rfl⟩
    | cont => exact ⟨_, by omega, i + 1, h₃, hlt, rfl⟩
    | brk => exact h₃
    | ret v => exact h₃
  · have e : i = vs.length := by omega
    subst e
    refine wpAny_pyNext_list_end hh hit hl (by rw [List.getElem?_toArray]; exact List.getElem?_eq_none (Nat.le_refl _)) fun h' k1 => ?_
    exact wpAny_execs_nil (fin s' hS h' k1)
end
end
-- part: PDefs
section
theorem off_PDefs : True := by w_top off; exact trivial
/-- a face by its three letters -/
abbrev Tri := Nat × Nat × Nat
def str3 (f : Tri) : PySem.Str := ⟨#[f.1, f.2.1, f.2.2]⟩
def str2 (e : Nat × Nat) : PySem.Str := ⟨#[e.1, e.2]⟩
def fAt (fs : List Tri) (i : Nat) : Tri := fs.getD i (0, 0, 0)
def stepE (bit : Bool) (x y : Nat) (es : List (Nat × Nat)) : List (Nat × Nat) := if bit then es.filter (· != (y, x)) else es ++ [(x, y)]
def bit0 (es : List (Nat × Nat)) (f : Tri) : Bool := es.contains (f.2.1, f.1)
def bit1 (es : List (Nat × Nat)) (f : Tri) : Bool := es.contains (f.2.2, f.2.1)
def bit2 (es : List (Nat × Nat)) (f : Tri) : Bool := es.contains (f.1, f.2.2)
def layE (es : List (Nat × Nat)) (f : Tri) : List (Nat × Nat) := stepE (bit2 es f) f.2.2 f.1 (stepE (bit1 es f) f.2.1 f.2.2 (stepE (bit0 es f) f.1 f.2.1 es))
def tabE (fs : List Tri) (d : List Nat) : List (Nat × Nat) := d.foldl (fun es i => layE es (fAt fs i)) []
def shE (es : List (Nat × Nat)) (f : Tri) : Int := cnt3 (bit0 es f) (bit1 es f) (bit2 es f)
def tch (es : List (Nat × Nat)) (v : Nat) : Bool := es.any fun e => e.1 == v || e.2 == v
def toE (es : List (Nat × Nat)) (f : Tri) : Int := cnt3 (tch es f.1) (tch es f.2.1) (tch es f.2.2)
/-- the face lies so that the table takes it: one shared side and two touched corners, or two and three -/
def Fits (es : List (Nat × Nat)) (f : Tri) : Prop := 0 < shE es f ∧ toE es f + 2 - shE es f = 3
/-- the last face: shared on every side -/
def Ill (es : List (Nat × Nat)) (f : Tri) : Prop := 0 < shE es f ∧ toE es f + 2 - shE es f ≠ 3
/-- the beginnings of a laying -/
inductive Sh (fs : List Tri) : List Nat → Prop
  | nil : Sh fs []
  | snoc {d : List Nat} {i : Nat} (h : Sh fs d) (hi : i < fs.length) (hn : i ∉ d) (hf : d = [] ∨ d.length + 1 = fs.length ∨ Fits (tabE fs d) (fAt fs i)) : Sh fs (d ++ [i])
/-- what the walk wants of a skin -/
structure Play (fs : List Tri) : Prop where
  len : fs.length = 6 ∨ fs.length = 8
  low : ∀ f ∈ fs, f.1 ∈ low ∧ f.2.1 ∈ low ∧ f.2.2 ∈ low
  last : ∀ {d : List Nat} {i : Nat}, Sh fs d → d.length + 1 = fs.length → i < fs.length → i ∉ d → Ill (tabE fs d) (fAt fs i)
  go : ∀ {d : List Nat}, Sh fs d → d ≠ [] → d.length + 1 < fs.length → ∃ i, i < fs.length ∧ i ∉ d ∧ Fits (tabE fs d) (fAt fs i)
  none : ∀ {d : List Nat}, Sh fs d → d.length = fs.length → tabE fs d = []
  back : ∀ {d : List Nat}, Sh fs d → d.length = fs.length → Sh fs d.reverse ∧ ∀ a i b, d = a ++ i :: b → bit0 (tabE fs b.reverse) (fAt fs i) = !bit0 (tabE fs a) (fAt fs i) ∧ bit1 (tabE fs b.reverse) (fAt fs i) = !bit1 (tabE fs a) (fAt fs i) ∧ bit2 (tabE fs b.reverse) (fAt fs i) = !bit2 (tabE fs a) (fAt fs i)
  count : ∀ {d : List Nat}, Sh fs d → d.length = fs.length → ((List.range d.length).filter fun t => shE (tabE fs (d.take t)) (fAt fs (d.getD t 0)) == 1).length = fs.length / 2 - 1 ∧ ((List.range d.length).filter fun t => shE (tabE fs (d.take t)) (fAt fs (d.getD t 0)) == 2).length = fs.length / 2 - 1
theorem Sh.nodup {fs : List Tri} {d : List Nat} (h : Sh fs d) : d.Nodup := by
  induction h with
  | nil => exact List.nodup_nil
  | snoc h hi hn _ ih =>
    rw [List.nodup_append]
    refine ⟨ih, by simp, fun a ha b hb e => ?_⟩
    rw [List.mem_singleton] at hb
    exact hn (hb ▸ e ▸ ha)
theorem Sh.lt {fs : List Tri} {d : List Nat} (h : Sh fs d) : ∀ i ∈ d, i < fs.length := by
  induction h with
  | nil => exact fun _ h => nomatch h
  | snoc h hi hn _ ih =>
    intro j hj
    rcases List.mem_append.mp hj with hj | hj
    · exact ih j hj
    · rw [List.mem_singleton.mp hj]; exact hi
/-- the table's names are its sides -/
def Names (ents : List Ent) (es : List (Nat × Nat)) : Prop := ents.map (fun e => Txt.lower e.1) = es.map str2
theorem str2_inj {x y : Nat × Nat} : str2 x = str2 y ↔ x = y := by
  constructor
  · intro h
    have := congrArg (fun s : PySem.Str => s.cps.toList) h
    simp only [str2, List.cons.injEq, and_true] at this
    exact Prod.ext this.1 this.2
  · intro h; rw [h]
theorem inNames_es (es : List (Nat × Nat)) (x y : Nat) : inNames (es.map str2) x y = es.contains (x, y) := by
  induction es with
  | nil => rfl
  | cons e es ih =>
    have h : (str2 e == (⟨#[x, y]⟩ : PySem.Str)) = ((x, y) == e) := by
      rw [Bool.eq_iff_iff, beq_iff_eq, beq_iff_eq]
      exact ⟨fun q => (str2_inj (x := e) (y := (x, y))).mp q |>.symm, fun q => by rw [← q]; rfl⟩
    show ((str2 e == (⟨#[x, y]⟩ : PySem.Str)) || inNames (es.map str2) x y) = _
    rw [List.contains_cons, h, ih]
theorem lower_str2 : ∀ x ∈ low, ∀ y ∈ low, Txt.lower (⟨#[x]⟩ ++ ⟨#[y]⟩) = str2 (x, y) ∧ Txt.lower (Txt.upper (⟨#[x]⟩ ++ ⟨#[y]⟩)) = str2 (x, y) := by decide +kernel
theorem names_step {bit great : Bool} {x y : Nat} {face : PySem.Str} {ents : List Ent} {es : List (Nat × Nat)} (hx : x ∈ low) (hy : y ∈ low) (h : Names ents es) : Names (layStep bit great x y face ents) (stepE bit x y es) := by
  unfold Names at h ⊢
  cases bit with
  | true =>
    simp only [layStep, stepE, if_true]
    rw [(lower_str2 y hy x hx).1]
    clear hx hy
    induction ents generalizing es with
    | nil => cases es with
      | nil => rfl
      | cons _ _ => cases h
    | cons e r ih => cases es with
      | nil => cases h
      | cons e' es =>
        rw [List.map_cons, List.map_cons] at h
        obtain ⟨h1, h2⟩ := List.cons.inj h
        rw [List.filter_cons, List.filter_cons, h1]
        have q : (str2 e' != str2 (y, x)) = (e' != (y, x)) := by
          rw [Bool.eq_iff_iff, bne_iff_ne, bne_iff_ne, Ne, Ne, str2_inj]
        rw [q]
        cases (e' != (y, x)) with
        | true => simp only [if_true, List.map_cons, ih h2, h1]
        | false => simp only [Bool.false_eq_true, if_false]; exact ih h2
  | false =>
    simp only [layStep, stepE, Bool.false_eq_true, if_false, List.map_append, h, List.map_cons, List.map_nil]
    congr 2
    cases great with
    | true => exact (lower_str2 x hx y hy).2
    | false => exact (lower_str2 x hx y hy).1
theorem names_lay {great : Bool} {f : Tri} {ents : List Ent} {es : List (Nat × Nat)} (hf : f.1 ∈ low ∧ f.2.1 ∈ low ∧ f.2.2 ∈ low) (h : Names ents es) : Names (lay3 (es.map str2) great f.1 f.2.1 f.2.2 ents) (layE es f) := by
  unfold lay3 layE bit0 bit1 bit2
  rw [inNames_es, inNames_es, inNames_es]
  exact names_step hf.2.2 hf.1 (names_step hf.2.1 hf.2.2 (names_step hf.1 hf.2.1 h))
theorem shared_es (es : List (Nat × Nat)) (f : Tri) : sharedOf (es.map str2) f.1 f.2.1 f.2.2 = shE es f := by
  unfold sharedOf shE bit0 bit1 bit2
  rw [inNames_es, inNames_es, inNames_es]
theorem join_cps (es : List (Nat × Nat)) : (Txt.join (Str.ofString "") (es.map str2)).cps.toList = es.flatMap fun e => [e.1, e.2] := by
  rw [join_nil_toList, List.flatMap_map]
  rfl
theorem touch_es (es : List (Nat × Nat)) (f : Tri) : touchOf (es.map str2) f.1 f.2.1 f.2.2 = toE es f := by
  have h : ∀ v, hit (Txt.join (Str.ofString "") (es.map str2)) v = tch es v := fun v => by
    unfold hit tch
    rw [join_cps, Bool.eq_iff_iff, decide_eq_true_eq, List.mem_flatMap, List.any_eq_true]
    constructor
    · rintro ⟨e, he, hv⟩
      refine ⟨e, he, ?_⟩
      simp only [List.mem_cons, List.not_mem_nil, or_false] at hv
      rcases hv with rfl | rfl <;> simp
    · rintro ⟨e, he, hv⟩
      refine ⟨e, he, ?_⟩
      simp only [Bool.or_eq_true, beq_iff_eq] at hv
      simp only [List.mem_cons, List.not_mem_nil, or_false]
      rcases hv with rfl | rfl <;> simp
  unfold touchOf touch3 toE
  rw [h, h, h]
end
-- part: PPlay
section
theorem off_PPlay : True := by w_top off; exact trivial
def hasE (f : Tri) (x y : Nat) : Bool := (x == f.1 && y == f.2.1) || (x == f.2.1 && y == f.2.2) || (x == f.2.2 && y == f.1)
/-- a side of a laid face whose other face is not laid; the laid faces by a mask -/
def rimM (B : List Tri) (m x y : Nat) : Bool := ((List.range B.length).any fun p => m.testBit p && hasE (fAt B p) x y) && !((List.range B.length).any fun p => m.testBit p && hasE (fAt B p) y x)
def shM (B : List Tri) (m : Nat) (f : Tri) : Int := cnt3 (rimM B m f.2.1 f.1) (rimM B m f.2.2 f.2.1) (rimM B m f.1 f.2.2)
def tchM (B : List Tri) (m v : Nat) : Bool := (List.range B.length).any fun p => m.testBit p &&
  (((fAt B p).1 == v || (fAt B p).2.1 == v) && rimM B m (fAt B p).1 (fAt B p).2.1 || ((fAt B p).2.1 == v || (fAt B p).2.2 == v) && rimM B m (fAt B p).2.1 (fAt B p).2.2 || ((fAt B p).2.2 == v || (fAt B p).1 == v) && rimM B m (fAt B p).2.2 (fAt B p).1)
def toM (B : List Tri) (m : Nat) (f : Tri) : Int := cnt3 (tchM B m f.1) (tchM B m f.2.1) (tchM B m f.2.2)
def fitM (B : List Tri) (m : Nat) (f : Tri) : Bool := decide (0 < shM B m f) && decide (toM B m f + 2 - shM B m f = 3)
def illM (B : List Tri) (m : Nat) (f : Tri) : Bool := decide (0 < shM B m f) && !decide (toM B m f + 2 - shM B m f = 3)
/-- how many sides the rim has -/
def rimN (B : List Tri) (m : Nat) : Nat := ((List.range B.length).filter fun p => m.testBit p && rimM B m (fAt B p).1 (fAt B p).2.1).length + ((List.range B.length).filter fun p => m.testBit p && rimM B m (fAt B p).2.1 (fAt B p).2.2).length + ((List.range B.length).filter fun p => m.testBit p && rimM B m (fAt B p).2.2 (fAt B p).1).length
def stack (fs : List Tri) (i n : Nat) : List Tri := fs.eraseIdx i ++ [((fAt fs i).1, (fAt fs i).2.1, n), ((fAt fs i).2.1, (fAt fs i).2.2, n), ((fAt fs i).2.2, (fAt fs i).1, n)]
def tetra : List Tri := [(0, 1, 2), (0, 2, 3), (0, 3, 1), (1, 3, 2)]
def base6 : List Tri := [(0, 2, 3), (0, 3, 1), (1, 3, 2), (0, 1, 4), (1, 2, 4), (2, 0, 4)]
def baseA : List Tri := [(0, 3, 1), (1, 3, 2), (0, 1, 4), (1, 2, 4), (2, 0, 4), (0, 2, 5), (2, 3, 5), (3, 0, 5)]
def baseO : List Tri := [(0, 1, 2), (0, 2, 3), (0, 3, 4), (0, 4, 1), (5, 2, 1), (5, 3, 2), (5, 4, 3), (5, 1, 4)]
/-- one mask's and one face's checks -/
def okAt (B : List Tri) (reach m i : Nat) : Bool :=
  m.testBit i || !fitM B m (fAt B i) ||
    (reach.testBit (m ||| 1 <<< i) && (m ||| 1 <<< i == 2 ^ B.length - 1 || fitM B ((2 ^ B.length - 1) ^^^ (m ||| 1 <<< i)) (fAt B i)) &&
      ((shM B m (fAt B i) == 1 && rimN B (m ||| 1 <<< i) == rimN B m + 1) || (shM B m (fAt B i) == 2 && rimN B (m ||| 1 <<< i) + 1 == rimN B m)))
def okMask (B : List Tri) (reach m : Nat) : Bool :=
  !reach.testBit m || (((List.range B.length).filter fun i => !m.testBit i).length ≤ 1) || ((List.range B.length).all (okAt B reach m) && (List.range B.length).any fun i => !m.testBit i && fitM B m (fAt B i))
def okMasks (B : List Tri) (reach a n : Nat) : Bool := (List.range n).all fun k => okMask B reach (a + k)
def okEnds (B : List Tri) (reach : Nat) : Bool := (List.range B.length).all fun i => reach.testBit (1 <<< i) && rimN B (1 <<< i) == 3 && illM B ((2 ^ B.length - 1) ^^^ 1 <<< i) (fAt B i) && shM B ((2 ^ B.length - 1) ^^^ 1 <<< i) (fAt B i) == 3 && rimN B ((2 ^ B.length - 1) ^^^ 1 <<< i) == 3
def reach6 : Nat := 0x7fb38fabd5f1cdfe
def reachA : Nat := 0x7dbf8caf80008cafb1330023a020a8abd5150405c400cc8df5310001f531fdbe
def reachO : Nat := 0x7bdfd155b313f3518b0f0000bb0bfb0180dfd0dd0000f0d18acfc8cdaa8bfbde
theorem ends6 : okEnds base6 reach6 = true := by decide +kernel
theorem endsA : okEnds baseA reachA = true := by decide +kernel
theorem endsO : okEnds baseO reachO = true := by decide +kernel
theorem masks6 : okMasks base6 reach6 0 64 = true := by decide +kernel
theorem masksA : okMasks baseA reachA 0 256 = true := by decide +kernel
theorem masksO : okMasks baseO reachO 0 256 = true := by decide +kernel
/-- the faces meet as a closed surface's do: a side is in one face, its reverse in another -/
def okSurf (B : List Tri) : Bool := (List.range B.length).all fun p =>
  decide ((fAt B p).1 < 6) && decide ((fAt B p).2.1 < 6) && decide ((fAt B p).2.2 < 6) && (fAt B p).1 != (fAt B p).2.1 && (fAt B p).2.1 != (fAt B p).2.2 && (fAt B p).2.2 != (fAt B p).1 &&
  ((List.range B.length).all fun q => p == q || !(hasE (fAt B q) (fAt B p).1 (fAt B p).2.1 || hasE (fAt B q) (fAt B p).2.1 (fAt B p).2.2 || hasE (fAt B q) (fAt B p).2.2 (fAt B p).1)) &&
  ((List.range B.length).any fun q => hasE (fAt B q) (fAt B p).2.1 (fAt B p).1) && ((List.range B.length).any fun q => hasE (fAt B q) (fAt B p).2.2 (fAt B p).2.1) && ((List.range B.length).any fun q => hasE (fAt B q) (fAt B p).1 (fAt B p).2.2)
theorem surf6 : okSurf base6 = true := by decide +kernel
theorem surfA : okSurf baseA = true := by decide +kernel
theorem surfO : okSurf baseO = true := by decide +kernel
def maskOf (d : List Nat) : Nat := d.foldl (fun m i => m ||| 1 <<< i) 0
theorem testBit_fold (d : List Nat) : ∀ (m i : Nat), (d.foldl (fun m i => m ||| 1 <<< i) m).testBit i = (m.testBit i || d.contains i) := by
  induction d with
  | nil => intro m i; simp
  | cons j d ih =>
    intro m i
    have e : decide (j = i) = (i == j) := by
      rw [Bool.eq_iff_iff, decide_eq_true_eq, beq_iff_eq]
      exact ⟨Eq.symm, Eq.symm⟩
    rw [List.foldl_cons, ih, Nat.testBit_or, Nat.one_shiftLeft, Nat.testBit_two_pow, List.contains_cons, Bool.or_assoc, e]
theorem testBit_maskOf (d : List Nat) (i : Nat) : (maskOf d).testBit i = d.contains i := by
  rw [maskOf, testBit_fold]; simp
theorem maskOf_snoc (d : List Nat) (i : Nat) : maskOf (d ++ [i]) = maskOf d ||| 1 <<< i := by
  rw [maskOf, List.foldl_append]; rfl
def rotT (r : Nat) (f : Tri) : Tri := match r with | 0 => f | 1 => (f.2.1, f.2.2, f.1) | _ => (f.2.2, f.1, f.2.1)
def mapT (φ : Nat → Nat) (f : Tri) : Tri := (φ f.1, φ f.2.1, φ f.2.2)
/-- fs is B up to the names of its corners, the order of its faces and where a face begins -/
structure Like (B fs : List Tri) (π φ : Nat → Nat) : Prop where
  len : fs.length = B.length
  lt : ∀ p, p < B.length → π p < B.length
  inj : ∀ p q, p < B.length → q < B.length → π p = π q → p = q
  injφ : ∀ u v, u < 6 → v < 6 → φ u = φ v → u = v
  low : ∀ u, u < 6 → φ u ∈ low
  face : ∀ p, p < B.length → ∃ r, r < 3 ∧ fAt fs p = rotT r (mapT φ (fAt B (π p)))
theorem hasE_rot {r : Nat} {f : Tri} {x y : Nat} : hasE (rotT r f) x y = hasE f x y := by
  obtain ⟨a, b, c⟩ := f
  match r with
  | 0 => rfl
  | 1 =>
    simp only [rotT, hasE]
    cases (x == a && y == b) <;> cases (x == b && y == c) <;> cases (x == c && y == a) <;> rfl
  | n + 2 =>
    simp only [rotT, hasE]
    cases (x == a && y == b) <;> cases (x == b && y == c) <;> cases (x == c && y == a) <;> rfl
def rimB (fs : List Tri) (d : List Nat) (x y : Nat) : Bool := (d.any fun p => hasE (fAt fs p) x y) && !(d.any fun p => hasE (fAt fs p) y x)
structure Surf (B : List Tri) : Prop where
  small : ∀ p, p < B.length → (fAt B p).1 < 6 ∧ (fAt B p).2.1 < 6 ∧ (fAt B p).2.2 < 6
  ne : ∀ p, p < B.length → (fAt B p).1 ≠ (fAt B p).2.1 ∧ (fAt B p).2.1 ≠ (fAt B p).2.2 ∧ (fAt B p).2.2 ≠ (fAt B p).1
  uniq : ∀ p q u v, p < B.length → q < B.length → hasE (fAt B p) u v = true → hasE (fAt B q) u v = true → p = q
  clos : ∀ p u v, p < B.length → hasE (fAt B p) u v = true → ∃ q, q < B.length ∧ hasE (fAt B q) v u = true
theorem hasE_iff {f : Tri} {x y : Nat} : hasE f x y = true ↔ (x = f.1 ∧ y = f.2.1) ∨ (x = f.2.1 ∧ y = f.2.2) ∨ (x = f.2.2 ∧ y = f.1) := by
  simp only [hasE, Bool.or_eq_true, Bool.and_eq_true, beq_iff_eq, or_assoc]
theorem surf_of {B : List Tri} (h : okSurf B = true) : Surf B := by
  have H : ∀ p, p < B.length → _ := fun p hp => List.all_eq_true.mp h p (List.mem_range.mpr hp)
  simp only [Bool.and_eq_true, decide_eq_true_eq, bne_iff_ne, List.all_eq_true, List.any_eq_true, List.mem_range, Bool.or_eq_true, beq_iff_eq, Bool.not_eq_true', Bool.or_eq_false_iff] at H
  refine ⟨fun p hp => ⟨(H p hp).1.1.1.1.1.1.1.1.1, (H p hp).1.1.1.1.1.1.1.1.2, (H p hp).1.1.1.1.1.1.1.2⟩, fun p hp => ⟨(H p hp).1.1.1.1.1.1.2, (H p hp).1.1.1.1.1.2, (H p hp).1.1.1.1.2⟩, fun p q u v hp hq e1 e2 => ?_, fun p u v hp e1 => ?_⟩
  · rcases (H p hp).1.1.1.2 q hq with e | e
    · exact e
    · rcases hasE_iff.mp e1 with ⟨rfl, rfl⟩ | ⟨rfl, rfl⟩ | ⟨rfl, rfl⟩
      · rw [e.1.1] at e2; cases e2
      · rw [e.1.2] at e2; cases e2
      · rw [e.2] at e2; cases e2
  · rcases hasE_iff.mp e1 with ⟨rfl, rfl⟩ | ⟨rfl, rfl⟩ | ⟨rfl, rfl⟩
    · exact (H p hp).1.1.2
    · exact (H p hp).1.2
    · exact (H p hp).2
theorem beq_φ {φ : Nat → Nat} (inj : ∀ u v, u < 6 → v < 6 → φ u = φ v → u = v) {u v : Nat} (hu : u < 6) (hv : v < 6) : (φ u == φ v) = (u == v) := by
  rw [Bool.eq_iff_iff, beq_iff_eq, beq_iff_eq]
  exact ⟨inj u v hu hv, fun e => by rw [e]⟩
theorem hasE_map {φ : Nat → Nat} (inj : ∀ u v, u < 6 → v < 6 → φ u = φ v → u = v) {f : Tri} (hf : f.1 < 6 ∧ f.2.1 < 6 ∧ f.2.2 < 6) {u v : Nat} (hu : u < 6) (hv : v < 6) : hasE (mapT φ f) (φ u) (φ v) = hasE f u v := by
  simp only [hasE, mapT, beq_φ inj hu hf.1, beq_φ inj hu hf.2.1, beq_φ inj hu hf.2.2, beq_φ inj hv hf.1, beq_φ inj hv hf.2.1, beq_φ inj hv hf.2.2]
section
variable {B fs : List Tri} {π φ : Nat → Nat}
theorem Like.hasE (L : Like B fs π φ) (S : Surf B) {p u v : Nat} (hp : p < B.length) (hu : u < 6) (hv : v < 6) : Mine.hasE (fAt fs p) (φ u) (φ v) = Mine.hasE (fAt B (π p)) u v := by
  obtain ⟨r, _, e⟩ := L.face p hp
  rw [e, hasE_rot, hasE_map L.injφ (S.small _ (L.lt p hp)) hu hv]
theorem Like.of_hasE (L : Like B fs π φ) (S : Surf B) {p x y : Nat} (hp : p < B.length) (h : Mine.hasE (fAt fs p) x y = true) : ∃ u v, u < 6 ∧ v < 6 ∧ x = φ u ∧ y = φ v ∧ Mine.hasE (fAt B (π p)) u v = true := by
  obtain ⟨r, _, e⟩ := L.face p hp
  have hs := S.small _ (L.lt p hp)
  rw [e, hasE_rot] at h
  rcases hasE_iff.mp h with ⟨h1, h2⟩ | ⟨h1, h2⟩ | ⟨h1, h2⟩
  · exact ⟨_, _, hs.1, hs.2.1, h1, h2, hasE_iff.mpr (.inl ⟨rfl, rfl⟩)⟩
  · exact ⟨_, _, hs.2.1, hs.2.2, h1, h2, hasE_iff.mpr (.inr (.inl ⟨rfl, rfl⟩))⟩
  · exact ⟨_, _, hs.2.2, hs.1, h1, h2, hasE_iff.mpr (.inr (.inr ⟨rfl, rfl⟩))⟩
theorem Like.any (L : Like B fs π φ) (S : Surf B) {d : List Nat} (hd : ∀ i ∈ d, i < B.length) {u v : Nat} (hu : u < 6) (hv : v < 6) : (d.any fun p => Mine.hasE (fAt fs p) (φ u) (φ v)) = ((List.range B.length).any fun q => (maskOf (d.map π)).testBit q && Mine.hasE (fAt B q) u v) := by
  rw [Bool.eq_iff_iff, List.any_eq_true, List.any_eq_true]
  constructor
  · rintro ⟨p, hp, h⟩
    refine ⟨π p, List.mem_range.mpr (L.lt p (hd p hp)), ?_⟩
    rw [testBit_maskOf, Bool.and_eq_true]
    refine ⟨List.contains_iff_mem.mpr (List.mem_map_of_mem hp), ?_⟩
    rw [← L.hasE S (hd p hp) hu hv]; exact h
  · rintro ⟨q, _, h⟩
    rw [testBit_maskOf, Bool.and_eq_true] at h
    obtain ⟨p, hp, rfl⟩ := List.mem_map.mp (List.contains_iff_mem.mp h.1)
    exact ⟨p, hp, by rw [L.hasE S (hd p hp) hu hv]; exact h.2⟩
theorem Like.rim (L : Like B fs π φ) (S : Surf B) {d : List Nat} (hd : ∀ i ∈ d, i < B.length) {u v : Nat} (hu : u < 6) (hv : v < 6) : rimB fs d (φ u) (φ v) = rimM B (maskOf (d.map π)) u v := by
  rw [rimB, rimM, L.any S hd hu hv, L.any S hd hv hu]
theorem Like.uniq (L : Like B fs π φ) (S : Surf B) {p q x y : Nat} (hp : p < B.length) (hq : q < B.length) (h1 : Mine.hasE (fAt fs p) x y = true) (h2 : Mine.hasE (fAt fs q) x y = true) : p = q := by
  obtain ⟨u, v, hu, hv, rfl, rfl, e1⟩ := L.of_hasE S hp h1
  rw [L.hasE S hq hu hv] at h2
  exact L.inj p q hp hq (S.uniq _ _ u v (L.lt p hp) (L.lt q hq) e1 h2)
theorem Like.ne (L : Like B fs π φ) (S : Surf B) {p : Nat} (hp : p < B.length) : (fAt fs p).1 ≠ (fAt fs p).2.1 ∧ (fAt fs p).2.1 ≠ (fAt fs p).2.2 ∧ (fAt fs p).2.2 ≠ (fAt fs p).1 := by
  obtain ⟨r, hr, e⟩ := L.face p hp
  have hs := S.small _ (L.lt p hp)
  have hn := S.ne _ (L.lt p hp)
  have n1 : φ (fAt B (π p)).1 ≠ φ (fAt B (π p)).2.1 := fun q => hn.1 (L.injφ _ _ hs.1 hs.2.1 q)
  have n2 : φ (fAt B (π p)).2.1 ≠ φ (fAt B (π p)).2.2 := fun q => hn.2.1 (L.injφ _ _ hs.2.1 hs.2.2 q)
  have n3 : φ (fAt B (π p)).2.2 ≠ φ (fAt B (π p)).1 := fun q => hn.2.2 (L.injφ _ _ hs.2.2 hs.1 q)
  rw [e]
  match r, hr with
  | 0, _ => exact ⟨n1, n2, n3⟩
  | 1, _ => exact ⟨n2, n3, n1⟩
  | 2, _ => exact ⟨n3, n1, n2⟩
end
theorem contains_step {bit : Bool} {x0 y0 x y : Nat} {es : List (Nat × Nat)} : (stepE bit x0 y0 es).contains (x, y) = if bit then es.contains (x, y) && !(x == y0 && y == x0) else es.contains (x, y) || (x == x0 && y == y0) := by
  cases bit with
  | true =>
    simp only [stepE, if_true]
    rw [Bool.eq_iff_iff, List.contains_iff_mem, List.mem_filter, Bool.and_eq_true, List.contains_iff_mem, bne_iff_ne, Bool.not_eq_true', Bool.and_eq_false_iff, beq_eq_false_iff_ne, beq_eq_false_iff_ne]
    refine and_congr_right fun _ => ?_
    rw [Ne, Prod.mk.injEq, Classical.not_and_iff_not_or_not]
  | false =>
    simp only [stepE, Bool.false_eq_true, if_false]
    rw [Bool.eq_iff_iff, List.contains_iff_mem, List.mem_append, List.mem_singleton, Bool.or_eq_true, List.contains_iff_mem, Bool.and_eq_true, beq_iff_eq, beq_iff_eq, Prod.mk.injEq]
theorem beq_dec (a b : Nat) : (a == b) = decide (a = b) := by rw [Bool.eq_iff_iff, beq_iff_eq, decide_eq_true_eq]
theorem two_ne {x a b : Nat} (h : a ≠ b) : (!((x == a) && (x == b))) = true := by
  cases h1 : (x == a) with
  | false => rfl
  | true => cases h2 : (x == b) with
    | false => rfl
    | true => exact absurd ((eq_of_beq h1).symm.trans (eq_of_beq h2)) h
theorem at_pair {x y a b : Nat} {r : Bool} (h : x = a → y = b → r = true) : (!((x == a) && (y == b)) || r) = true := by
  cases h1 : (x == a) with
  | false => rfl
  | true => cases h2 : (y == b) with
    | false => rfl
    | true => exact h (eq_of_beq h1) (eq_of_beq h2)
def xor2 (p q u : Bool) : Bool := !p && (q == u)
theorem xor2_of {p q u : Bool} (h : p = false) (e : q = u) : xor2 p q u = true := by subst h e; cases q <;> rfl
def layHyp (xa xb xc ya yb yc p q u0 u1 u2 : Bool) : Bool :=
  (!(xa && xb)) && (!(xb && xc)) && (!(xc && xa)) && (!(ya && yb)) && (!(yb && yc)) && (!(yc && ya)) &&
  (!(xa && yb) || xor2 p q u0) && (!(xb && yc) || xor2 p q u1) && (!(xc && ya) || xor2 p q u2) &&
  (!(xb && ya) || xor2 q p u0) && (!(xc && yb) || xor2 q p u1) && (!(xa && yc) || xor2 q p u2)
theorem lay_bool : ∀ (xa xb xc ya yb yc p q u0 u1 u2 : Bool), layHyp xa xb xc ya yb yc p q u0 u1 u2 = true →
    (if (u2 && !false) = true then (if (u1 && !false) = true then (if (u0 && !false) = true then (p && !q) && !(xb && ya) else (p && !q) || (xa && yb)) && !(xc && yb) else (if (u0 && !false) = true then (p && !q) && !(xb && ya) else (p && !q) || (xa && yb)) || (xb && yc)) && !(xa && yc)
      else (if (u1 && !false) = true then (if (u0 && !false) = true then (p && !q) && !(xb && ya) else (p && !q) || (xa && yb)) && !(xc && yb) else (if (u0 && !false) = true then (p && !q) && !(xb && ya) else (p && !q) || (xa && yb)) || (xb && yc)) || (xc && ya))
    = ((p || ((xa && yb) || (xb && yc) || (xc && ya))) && !(q || ((ya && xb) || (yb && xc) || (yc && xa)))) := by decide +kernel
/-- laying a face turns the rim to the rim -/
theorem lay_rim {es : List (Nat × Nat)} {f : Tri} {A : Nat → Nat → Bool} (he : ∀ x y, es.contains (x, y) = (A x y && !A y x)) (hn : f.1 ≠ f.2.1 ∧ f.2.1 ≠ f.2.2 ∧ f.2.2 ≠ f.1) (hA : ∀ x y, hasE f x y = true → A x y = false) (x y : Nat) :
    (layE es f).contains (x, y) = ((A x y || hasE f x y) && !(A y x || hasE f y x)) := by
  obtain ⟨a, b, c⟩ := f
  simp only at hn
  obtain ⟨n1, n2, n3⟩ := hn
  have a1 : A a b = false := hA a b (hasE_iff.mpr (.inl ⟨rfl, rfl⟩))
  have a2 : A b c = false := hA b c (hasE_iff.mpr (.inr (.inl ⟨rfl, rfl⟩)))
  have a3 : A c a = false := hA c a (hasE_iff.mpr (.inr (.inr ⟨rfl, rfl⟩)))
  rw [layE, contains_step, contains_step, contains_step, bit0, bit1, bit2, he, he, he, he]
  dsimp only
  rw [a1, a2, a3]
  refine lay_bool (x == a) (x == b) (x == c) (y == a) (y == b) (y == c) (A x y) (A y x) (A b a) (A c b) (A a c) ?_
  simp only [layHyp, Bool.and_eq_true]
  exact ⟨⟨⟨⟨⟨⟨⟨⟨⟨⟨⟨two_ne n1, two_ne n2⟩, two_ne n3⟩, two_ne n1⟩, two_ne n2⟩, two_ne n3⟩,
    at_pair fun e1 e2 => by subst e1 e2; exact xor2_of a1 rfl⟩, at_pair fun e1 e2 => by subst e1 e2; exact xor2_of a2 rfl⟩, at_pair fun e1 e2 => by subst e1 e2; exact xor2_of a3 rfl⟩,
    at_pair fun e1 e2 => by subst e1 e2; exact xor2_of a1 rfl⟩, at_pair fun e1 e2 => by subst e1 e2; exact xor2_of a2 rfl⟩, at_pair fun e1 e2 => by subst e1 e2; exact xor2_of a3 rfl⟩
theorem tab_snoc (fs : List Tri) (d : List Nat) (i : Nat) : tabE fs (d ++ [i]) = layE (tabE fs d) (fAt fs i) := by
  unfold tabE; rw [List.foldl_append]; rfl
theorem cnt3_rot (a b c : Bool) : cnt3 b c a = cnt3 a b c := by cases a <;> cases b <;> cases c <;> rfl
section
variable {B fs : List Tri} {π φ : Nat → Nat}
theorem Like.tab (L : Like B fs π φ) (S : Surf B) {d : List Nat} (h : Sh fs d) : ∀ x y, (tabE fs d).contains (x, y) = rimB fs d x y := by
  induction h with
  | nil => intro x y; rfl
  | @snoc d i h hi hn hf ih =>
    intro x y
    rw [L.len] at hi
    rw [tab_snoc, lay_rim (A := fun x y => d.any fun p => Mine.hasE (fAt fs p) x y) ih (L.ne S hi) (fun x y q => ?_) x y]
    · simp only [rimB, List.any_append, List.any_cons, List.any_nil, Bool.or_false]
    · cases e : d.any fun p => Mine.hasE (fAt fs p) x y with
      | false => rfl
      | true =>
        obtain ⟨p, hp, e⟩ := List.any_eq_true.mp e
        have hp' : p < B.length := by rw [← L.len]; exact h.lt p hp
        exact absurd (L.uniq S hp' hi e q ▸ hp) hn
theorem Like.dlt (L : Like B fs π φ) {d : List Nat} (h : Sh fs d) : ∀ i ∈ d, i < B.length := fun i hi => by rw [← L.len]; exact h.lt i hi
theorem Like.con (L : Like B fs π φ) (S : Surf B) {d : List Nat} (h : Sh fs d) {u v : Nat} (hu : u < 6) (hv : v < 6) : (tabE fs d).contains (φ u, φ v) = rimM B (maskOf (d.map π)) u v := by
  rw [L.tab S h, L.rim S (L.dlt h) hu hv]
theorem Like.sh (L : Like B fs π φ) (S : Surf B) {d : List Nat} (h : Sh fs d) {p : Nat} (hp : p < B.length) : shE (tabE fs d) (fAt fs p) = shM B (maskOf (d.map π)) (fAt B (π p)) := by
  obtain ⟨r, hr, e⟩ := L.face p hp
  have hs := S.small _ (L.lt p hp)
  rw [e, shE, shM]
  match r, hr with
  | 0, _ => simp only [rotT, mapT, bit0, bit1, bit2, L.con S h hs.1 hs.2.2, L.con S h hs.2.1 hs.1, L.con S h hs.2.2 hs.2.1]
  | 1, _ =>
    simp only [rotT, mapT, bit0, bit1, bit2, L.con S h hs.1 hs.2.2, L.con S h hs.2.1 hs.1, L.con S h hs.2.2 hs.2.1]
    exact cnt3_rot _ _ _
  | 2, _ =>
    simp only [rotT, mapT, bit0, bit1, bit2, L.con S h hs.1 hs.2.2, L.con S h hs.2.1 hs.1, L.con S h hs.2.2 hs.2.1]
    exact (cnt3_rot _ _ _).symm
theorem Like.tch (L : Like B fs π φ) (S : Surf B) {d : List Nat} (h : Sh fs d) {u : Nat} (hu : u < 6) : Mine.tch (tabE fs d) (φ u) = tchM B (maskOf (d.map π)) u := by
  rw [Bool.eq_iff_iff, Mine.tch, tchM, List.any_eq_true, List.any_eq_true]
  constructor
  · rintro ⟨⟨x, y⟩, he, hv⟩
    have hc := List.contains_iff_mem.mpr he
    have hr := hc
    rw [L.tab S h, rimB, Bool.and_eq_true, List.any_eq_true] at hr
    obtain ⟨⟨p, hp, hh⟩, _⟩ := hr
    have hpl := L.dlt h p hp
    obtain ⟨a, b, ha, hb, rfl, rfl, hE⟩ := L.of_hasE S hpl hh
    rw [L.con S h ha hb] at hc
    simp only [beq_φ L.injφ ha hu, beq_φ L.injφ hb hu] at hv
    refine ⟨π p, List.mem_range.mpr (L.lt p hpl), ?_⟩
    rw [testBit_maskOf, List.contains_iff_mem.mpr (List.mem_map_of_mem hp), Bool.true_and]
    rcases hasE_iff.mp hE with ⟨rfl, rfl⟩ | ⟨rfl, rfl⟩ | ⟨rfl, rfl⟩
    · rw [hv, hc]; rfl
    · rw [hv, hc]; simp
    · rw [hv, hc]; simp
  · rintro ⟨q, hq, hh⟩
    have hql := List.mem_range.mp hq
    rw [Bool.and_eq_true, testBit_maskOf, List.contains_iff_mem] at hh
    obtain ⟨hm, hh⟩ := hh
    have hs := S.small q hql
    have fin : ∀ a b, a < 6 → b < 6 → (a == u || b == u) = true → rimM B (maskOf (d.map π)) a b = true → ∃ e, e ∈ tabE fs d ∧ (e.1 == φ u || e.2 == φ u) = true := fun a b ha hb e1 e2 => by
      refine ⟨(φ a, φ b), List.contains_iff_mem.mp (by rw [L.con S h ha hb]; exact e2), ?_⟩
      simp only [beq_φ L.injφ ha hu, beq_φ L.injφ hb hu]; exact e1
    simp only [Bool.or_eq_true, Bool.and_eq_true] at hh
    rcases hh with (⟨e1, e2⟩ | ⟨e1, e2⟩) | ⟨e1, e2⟩
    · exact fin _ _ hs.1 hs.2.1 (by simpa using e1) e2
    · exact fin _ _ hs.2.1 hs.2.2 (by simpa using e1) e2
    · exact fin _ _ hs.2.2 hs.1 (by simpa using e1) e2
theorem Like.to (L : Like B fs π φ) (S : Surf B) {d : List Nat} (h : Sh fs d) {p : Nat} (hp : p < B.length) : toE (tabE fs d) (fAt fs p) = toM B (maskOf (d.map π)) (fAt B (π p)) := by
  obtain ⟨r, hr, e⟩ := L.face p hp
  have hs := S.small _ (L.lt p hp)
  rw [e, toE, toM]
  match r, hr with
  | 0, _ => simp only [rotT, mapT, L.tch S h hs.1, L.tch S h hs.2.1, L.tch S h hs.2.2]
  | 1, _ =>
    simp only [rotT, mapT, L.tch S h hs.1, L.tch S h hs.2.1, L.tch S h hs.2.2]
    exact cnt3_rot _ _ _
  | 2, _ =>
    simp only [rotT, mapT, L.tch S h hs.1, L.tch S h hs.2.1, L.tch S h hs.2.2]
    exact (cnt3_rot _ _ _).symm
theorem Like.fits (L : Like B fs π φ) (S : Surf B) {d : List Nat} (h : Sh fs d) {p : Nat} (hp : p < B.length) : Fits (tabE fs d) (fAt fs p) ↔ fitM B (maskOf (d.map π)) (fAt B (π p)) = true := by
  rw [Fits, fitM, L.sh S h hp, L.to S h hp, Bool.and_eq_true, decide_eq_true_eq, decide_eq_true_eq]
theorem Like.ill (L : Like B fs π φ) (S : Surf B) {d : List Nat} (h : Sh fs d) {p : Nat} (hp : p < B.length) : Ill (tabE fs d) (fAt fs p) ↔ illM B (maskOf (d.map π)) (fAt B (π p)) = true := by
  rw [Ill, illM, L.sh S h hp, L.to S h hp, Bool.and_eq_true, decide_eq_true_eq, Bool.not_eq_true', decide_eq_false_iff_not]
end
structure Good (B : List Tri) (reach : Nat) : Prop where
  surf : Surf B
  nn : B.length = 6 ∨ B.length = 8
  masks : ∀ m, m < 2 ^ B.length → okMask B reach m = true
  ends : okEnds B reach = true
theorem good_of {B : List Tri} {reach N : Nat} (h : okSurf B = true) (nn : B.length = 6 ∨ B.length = 8) (hN : 2 ^ B.length = N) (hm : okMasks B reach 0 N = true) (he : okEnds B reach = true) : Good B reach :=
  ⟨surf_of h, nn, fun m hl => by
    have := List.all_eq_true.mp hm m (List.mem_range.mpr (by omega))
    rwa [Nat.zero_add] at this, he⟩
theorem good6 : Good base6 reach6 := good_of surf6 (.inl rfl) rfl masks6 ends6
theorem goodA : Good baseA reachA := good_of surfA (.inr rfl) rfl masksA endsA
theorem goodO : Good baseO reachO := good_of surfO (.inr rfl) rfl masksO endsO
theorem covers {n : Nat} {l : List Nat} (hl : ∀ i ∈ l, i < n) (hn : l.Nodup) (hlen : l.length = n) {p : Nat} (hp : p < n) : p ∈ l := by
  by_cases h : p ∈ l
  · exact h
  · have h1 : (p :: l).Nodup := List.nodup_cons.mpr ⟨h, hn⟩
    have h2 := List.Nodup.length_le_of_subset h1 (l₂ := List.range n) fun i hi => by
      rcases List.mem_cons.mp hi with rfl | hi
      · exact List.mem_range.mpr hp
      · exact List.mem_range.mpr (hl i hi)
    rw [List.length_cons, List.length_range] at h2
    omega
section
variable {B fs : List Tri} {π φ : Nat → Nat} {reach : Nat}
theorem Like.map_nodup (L : Like B fs π φ) {d : List Nat} (hd : ∀ i ∈ d, i < B.length) (hn : d.Nodup) : (d.map π).Nodup := by
  induction d with
  | nil => exact List.nodup_nil
  | cons i d ih =>
    rw [List.nodup_cons] at hn
    rw [List.map_cons, List.nodup_cons]
    refine ⟨fun hm => ?_, ih (fun j hj => hd j (.tail _ hj)) hn.2⟩
    obtain ⟨j, hj, e⟩ := List.mem_map.mp hm
    exact hn.1 (L.inj j i (hd j (.tail _ hj)) (hd i (.head _)) e ▸ hj)
theorem Like.surj (L : Like B fs π φ) {q : Nat} (hq : q < B.length) : ∃ p, p < B.length ∧ π p = q := by
  have h := covers (n := B.length) (l := (List.range B.length).map π) (fun i hi => by
    obtain ⟨p, hp, rfl⟩ := List.mem_map.mp hi
    exact L.lt p (List.mem_range.mp hp)) (L.map_nodup (fun i hi => List.mem_range.mp hi) List.nodup_range) (by simp) hq
  obtain ⟨p, hp, e⟩ := List.mem_map.mp h
  exact ⟨p, List.mem_range.mp hp, e⟩
theorem Like.bit (L : Like B fs π φ) {d : List Nat} (hd : ∀ i ∈ d, i < B.length) {p : Nat} (hp : p < B.length) : (maskOf (d.map π)).testBit (π p) = d.contains p := by
  rw [testBit_maskOf, Bool.eq_iff_iff, List.contains_iff_mem, List.contains_iff_mem]
  constructor
  · intro h
    obtain ⟨j, hj, e⟩ := List.mem_map.mp h
    exact L.inj j p (hd j hj) hp e ▸ hj
  · exact fun h => List.mem_map_of_mem h
theorem mask_lt {n : Nat} : ∀ {d : List Nat}, (∀ i ∈ d, i < n) → maskOf d < 2 ^ n := fun {d} hd => by
  refine Nat.lt_pow_two_of_testBit _ fun i hi => ?_
  rw [testBit_maskOf]
  cases h : d.contains i with
  | false => rfl
  | true => have := hd i (List.contains_iff_mem.mp h); omega
theorem Like.map_lt (L : Like B fs π φ) {d : List Nat} (hd : ∀ i ∈ d, i < B.length) : ∀ i ∈ d.map π, i < B.length := fun i hi => by
  obtain ⟨j, hj, rfl⟩ := List.mem_map.mp hi
  exact L.lt j (hd j hj)
/-- the masks of what lies before a face and behind it -/
theorem Like.compl (L : Like B fs π φ) {a b : List Nat} {i : Nat} (hd : ∀ j ∈ a ++ i :: b, j < B.length) (hn : (a ++ i :: b).Nodup) (hl : (a ++ i :: b).length = B.length) : maskOf (b.map π) = (2 ^ B.length - 1) ^^^ (maskOf (a.map π) ||| 1 <<< π i) := by
  refine Nat.eq_of_testBit_eq fun q => ?_
  rw [Nat.testBit_xor, Nat.testBit_two_pow_sub_one, Nat.testBit_or, Nat.one_shiftLeft, Nat.testBit_two_pow]
  by_cases hq : q < B.length
  · obtain ⟨p, hp, rfl⟩ := L.surj hq
    rw [L.bit (fun j hj => hd j (by simp [hj])) hp, L.bit (fun j hj => hd j (by simp [hj])) hp, decide_eq_true hq]
    have hc := covers hd hn hl hp
    rw [List.nodup_append, List.nodup_cons] at hn
    obtain ⟨_, ⟨hib, _⟩, hab⟩ := hn
    have hi : i < B.length := hd i (by simp)
    rcases List.mem_append.mp hc with h | h
    · have h2 : p ∉ b := fun q => hab p h p (.tail _ q) rfl
      simp [h, h2]
    · rcases List.mem_cons.mp h with rfl | h
      · have h1 : p ∉ a := fun q => hab p q p (.head _) rfl
        simp [hib]
      · have h1 : p ∉ a := fun q => hab p q p (.tail _ h) rfl
        have h2 : ¬ π i = π p := fun q => hib (L.inj i p hi hp q ▸ h)
        simp [h, h1, h2]
  · have h1 : (maskOf (b.map π)).testBit q = false := by
      rw [testBit_maskOf]
      cases h : (b.map π).contains q with
      | false => rfl
      | true => exact absurd (L.map_lt (fun j hj => hd j (by simp [hj])) q (List.contains_iff_mem.mp h)) hq
    have h2 : (maskOf (a.map π)).testBit q = false := by
      rw [testBit_maskOf]
      cases h : (a.map π).contains q with
      | false => rfl
      | true => exact absurd (L.map_lt (fun j hj => hd j (by simp [hj])) q (List.contains_iff_mem.mp h)) hq
    have h3 : ¬ π i = q := fun e => hq (e ▸ L.lt i (hd i (by simp)))
    simp [h1, h2, h3, hq]
end
/-- how many turns shared k sides -/
def kin (fs : List Tri) (d : List Nat) (k : Int) : Nat := ((List.range d.length).filter fun t => shE (tabE fs (d.take t)) (fAt fs (d.getD t 0)) == k).length
theorem kin_snoc (fs : List Tri) (d : List Nat) (i : Nat) (k : Int) : kin fs (d ++ [i]) k = kin fs d k + if shE (tabE fs d) (fAt fs i) == k then 1 else 0 := by
  unfold kin
  rw [List.length_append, List.length_singleton, List.range_succ, List.filter_append, List.length_append]
  have e1 : (List.range d.length).filter (fun t => shE (tabE fs ((d ++ [i]).take t)) (fAt fs ((d ++ [i]).getD t 0)) == k) = (List.range d.length).filter (fun t => shE (tabE fs (d.take t)) (fAt fs (d.getD t 0)) == k) := by
    refine List.filter_congr fun t ht => ?_
    have ht := List.mem_range.mp ht
    rw [List.take_append_of_le_length (Nat.le_of_lt ht), List.getD_eq_getElem?_getD, List.getD_eq_getElem?_getD, List.getElem?_append_left ht]
  rw [e1]
  congr 1
  rw [List.filter_cons, List.take_left', List.getD_eq_getElem?_getD, List.getElem?_append_right (Nat.le_refl _), Nat.sub_self]
  · simp only [List.getElem?_cons_zero, Option.getD_some, List.filter_nil]
    split <;> rfl
  · rfl
section
variable {B fs : List Tri} {π φ : Nat → Nat} {reach : Nat}
theorem Good.at_end (G : Good B reach) {i : Nat} (hi : i < B.length) : reach.testBit (1 <<< i) = true ∧ rimN B (1 <<< i) = 3 ∧ illM B ((2 ^ B.length - 1) ^^^ 1 <<< i) (fAt B i) = true ∧ shM B ((2 ^ B.length - 1) ^^^ 1 <<< i) (fAt B i) = 3 ∧ rimN B ((2 ^ B.length - 1) ^^^ 1 <<< i) = 3 := by
  have h := List.all_eq_true.mp G.ends i (List.mem_range.mpr hi)
  simp only [Bool.and_eq_true, beq_iff_eq] at h
  exact ⟨h.1.1.1.1, h.1.1.1.2, h.1.1.2, h.1.2, h.2⟩
theorem Good.at_mask (G : Good B reach) {m : Nat} (hm : m < 2 ^ B.length) (hr : reach.testBit m = true) (h2 : 2 ≤ ((List.range B.length).filter fun i => !m.testBit i).length) :
    (∀ i, i < B.length → okAt B reach m i = true) ∧ ∃ i, i < B.length ∧ m.testBit i = false ∧ fitM B m (fAt B i) = true := by
  have h := G.masks m hm
  rw [okMask, hr, Bool.or_eq_true, Bool.or_eq_true, decide_eq_true_eq, Bool.and_eq_true, List.all_eq_true, List.any_eq_true] at h
  rcases h with (h | h) | ⟨h, i, hi, hh⟩
  · cases h
  · omega
  · rw [Bool.and_eq_true, Bool.not_eq_true'] at hh
    exact ⟨fun i hi => h i (List.mem_range.mpr hi), i, List.mem_range.mp hi, hh.1, hh.2⟩
theorem Like.unset (L : Like B fs π φ) {d : List Nat} (hd : ∀ i ∈ d, i < B.length) : B.length ≤ ((List.range B.length).filter fun i => !(maskOf (d.map π)).testBit i).length + d.length := by
  have h := List.Nodup.length_le_of_subset (List.nodup_range (n := B.length)) (l₂ := ((List.range B.length).filter fun i => !(maskOf (d.map π)).testBit i) ++ d.map π) fun i hi => by
    rw [List.mem_append, List.mem_filter, testBit_maskOf]
    cases e : (d.map π).contains i with
    | false => exact .inl ⟨hi, rfl⟩
    | true => exact .inr (List.contains_iff_mem.mp e)
  rwa [List.length_append, List.length_map, List.length_range] at h
theorem okAt_out {m i : Nat} (h : okAt B reach m i = true) (h1 : m.testBit i = false) (h2 : fitM B m (fAt B i) = true) :
    reach.testBit (m ||| 1 <<< i) = true ∧ (m ||| 1 <<< i = 2 ^ B.length - 1 ∨ fitM B ((2 ^ B.length - 1) ^^^ (m ||| 1 <<< i)) (fAt B i) = true) ∧ ((shM B m (fAt B i) = 1 ∧ rimN B (m ||| 1 <<< i) = rimN B m + 1) ∨ (shM B m (fAt B i) = 2 ∧ rimN B (m ||| 1 <<< i) + 1 = rimN B m)) := by
  rw [okAt, h1, h2] at h
  simpa only [Bool.not_true, Bool.or_self, Bool.false_or, Bool.and_eq_true, Bool.or_eq_true, beq_iff_eq, and_assoc] using h
theorem Like.turn (L : Like B fs π φ) (G : Good B reach) {d : List Nat} {i : Nat} (h : Sh fs d) (hi : i < B.length) (hn : i ∉ d) (hl : d.length + 1 < B.length) (hr : reach.testBit (maskOf (d.map π)) = true) (hf : Fits (tabE fs d) (fAt fs i)) :
    reach.testBit (maskOf (d.map π) ||| 1 <<< π i) = true ∧ (maskOf (d.map π) ||| 1 <<< π i = 2 ^ B.length - 1 ∨ fitM B ((2 ^ B.length - 1) ^^^ (maskOf (d.map π) ||| 1 <<< π i)) (fAt B (π i)) = true) ∧ ((shM B (maskOf (d.map π)) (fAt B (π i)) = 1 ∧ rimN B (maskOf (d.map π) ||| 1 <<< π i) = rimN B (maskOf (d.map π)) + 1) ∨ (shM B (maskOf (d.map π)) (fAt B (π i)) = 2 ∧ rimN B (maskOf (d.map π) ||| 1 <<< π i) + 1 = rimN B (maskOf (d.map π)))) := by
  have hd := L.dlt h
  have := L.unset hd
  obtain ⟨ha, _⟩ := G.at_mask (mask_lt (L.map_lt hd)) hr (by omega)
  refine okAt_out (ha _ (L.lt i hi)) ?_ ((L.fits G.surf h hi).mp hf)
  rw [L.bit hd hi]
  cases e : d.contains i with
  | false => rfl
  | true => exact absurd (List.contains_iff_mem.mp e) hn
theorem Like.inv (L : Like B fs π φ) (G : Good B reach) {d : List Nat} (h : Sh fs d) : d ≠ [] → d.length < B.length → reach.testBit (maskOf (d.map π)) = true ∧ rimN B (maskOf (d.map π)) + kin fs d 2 = 3 + kin fs d 1 ∧ kin fs d 1 + kin fs d 2 + 1 = d.length := by
  induction h with
  | nil => exact fun h => absurd rfl h
  | @snoc d i h hi hn hf ih =>
    intro _ hlt
    rw [L.len] at hi
    rw [List.length_append, List.length_singleton] at hlt
    have hm : maskOf ((d ++ [i]).map π) = maskOf (d.map π) ||| 1 <<< π i := by rw [List.map_append, List.map_singleton, maskOf_snoc]
    rw [hm, kin_snoc, kin_snoc, List.length_append, List.length_singleton]
    by_cases e : d = []
    · subst e
      obtain ⟨a1, a2, _⟩ := G.at_end (L.lt i hi)
      have e0 : maskOf (([] : List Nat).map π) ||| 1 <<< π i = 1 <<< π i := by simp [maskOf]
      have e1 : shE (tabE fs []) (fAt fs i) = 0 := by rw [show tabE fs [] = [] from rfl]; simp [shE, bit0, bit1, bit2, cnt3]
      rw [e0, e1]
      exact ⟨a1, by rw [a2]; rfl, rfl⟩
    · obtain ⟨b1, b2, b3⟩ := ih e (by omega)
      have hft : Fits (tabE fs d) (fAt fs i) := by
        rcases hf with q | q | q
        · exact absurd q e
        · rw [L.len] at q; omega
        · exact q
      obtain ⟨c1, _, c3⟩ := L.turn G h hi hn hlt b1 hft
      refine ⟨c1, ?_⟩
      rw [L.sh G.surf h hi]
      rcases c3 with ⟨q1, q2⟩ | ⟨q1, q2⟩
      · rw [q1, if_pos (show ((1 : Int) == 1) = true by decide), if_neg (show ¬ ((1 : Int) == 2) = true by decide)]; omega
      · rw [q1, if_neg (show ¬ ((2 : Int) == 1) = true by decide), if_pos (show ((2 : Int) == 2) = true by decide)]; omega
end
theorem Sh.cut {fs : List Tri} {e : List Nat} (h : Sh fs e) : ∀ {a : List Nat} {x : Nat} {b : List Nat}, e = a ++ x :: b → Sh fs a ∧ x < fs.length ∧ x ∉ a ∧ (a = [] ∨ a.length + 1 = fs.length ∨ Fits (tabE fs a) (fAt fs x)) := by
  induction h with
  | nil => intro a x b e; cases a <;> cases e
  | @snoc d i h hi hn hf ih =>
    intro a x b e
    rcases List.append_eq_append_iff.mp e with ⟨c, e1, e2⟩ | ⟨c, e1, e2⟩
    · cases c with
      | nil =>
        rw [List.append_nil] at e1
        rw [List.nil_append] at e2
        cases e2
        subst e1
        exact ⟨h, hi, hn, hf⟩
      | cons y c =>
        have := congrArg List.length e2
        simp at this
    · cases c with
      | nil =>
        rw [List.append_nil] at e1
        rw [List.nil_append] at e2
        cases e2
        subst e1
        exact ⟨h, hi, hn, hf⟩
      | cons y c =>
        obtain ⟨rfl, e3⟩ := List.cons.inj e2
        exact ih e1
section
variable {B fs : List Tri} {π φ : Nat → Nat} {reach : Nat}
theorem mask_rev (π : Nat → Nat) (b : List Nat) : maskOf (b.reverse.map π) = maskOf (b.map π) := by
  refine Nat.eq_of_testBit_eq fun q => ?_
  rw [testBit_maskOf, testBit_maskOf, Bool.eq_iff_iff, List.contains_iff_mem, List.contains_iff_mem, List.map_reverse, List.mem_reverse]
theorem Like.last (L : Like B fs π φ) {d : List Nat} {i : Nat} (h : Sh fs d) (hl : d.length + 1 = B.length) (hi : i < B.length) (hn : i ∉ d) : maskOf (d.map π) = (2 ^ B.length - 1) ^^^ 1 <<< π i := by
  have := L.compl (a := []) (i := i) (b := d) (fun j hj => by
    rcases List.mem_cons.mp hj with rfl | hj
    · exact hi
    · exact L.dlt h j hj) (List.nodup_cons.mpr ⟨hn, h.nodup⟩) (by simpa using hl)
  rw [this]
  simp [maskOf]
theorem Like.mem_low (L : Like B fs π φ) (S : Surf B) {p : Nat} (hp : p < B.length) : (fAt fs p).1 ∈ Mine.low ∧ (fAt fs p).2.1 ∈ Mine.low ∧ (fAt fs p).2.2 ∈ Mine.low := by
  obtain ⟨r, hr, e⟩ := L.face p hp
  have hs := S.small _ (L.lt p hp)
  have l1 := L.low _ hs.1
  have l2 := L.low _ hs.2.1
  have l3 := L.low _ hs.2.2
  rw [e]
  match r, hr with
  | 0, _ => exact ⟨l1, l2, l3⟩
  | 1, _ => exact ⟨l2, l3, l1⟩
  | 2, _ => exact ⟨l3, l1, l2⟩
theorem Like.closed (L : Like B fs π φ) (S : Surf B) {p x y : Nat} (hp : p < B.length) (h : Mine.hasE (fAt fs p) x y = true) : ∃ q, q < B.length ∧ Mine.hasE (fAt fs q) y x = true := by
  obtain ⟨u, v, hu, hv, rfl, rfl, e⟩ := L.of_hasE S hp h
  obtain ⟨q, hq, e2⟩ := S.clos _ u v (L.lt p hp) e
  obtain ⟨q', hq', rfl⟩ := L.surj hq
  exact ⟨q', hq', by rw [L.hasE S hq' hv hu]; exact e2⟩
theorem hasE_asym {f : Tri} (hn : f.1 ≠ f.2.1 ∧ f.2.1 ≠ f.2.2 ∧ f.2.2 ≠ f.1) {x y : Nat} (h1 : hasE f x y = true) (h2 : hasE f y x = true) : False := by
  rcases hasE_iff.mp h1 with ⟨rfl, rfl⟩ | ⟨rfl, rfl⟩ | ⟨rfl, rfl⟩ <;> rcases hasE_iff.mp h2 with ⟨q1, q2⟩ | ⟨q1, q2⟩ | ⟨q1, q2⟩ <;> first | exact hn.1 q1 | exact hn.1 q1.symm | exact hn.1 q2 | exact hn.1 q2.symm | exact hn.2.1 q1 | exact hn.2.1 q1.symm | exact hn.2.1 q2 | exact hn.2.1 q2.symm | exact hn.2.2 q1 | exact hn.2.2 q1.symm | exact hn.2.2 q2 | exact hn.2.2 q2.symm
theorem Like.suffix (L : Like B fs π φ) (G : Good B reach) {d : List Nat} (h : Sh fs d) (hl : d.length = B.length) : ∀ (b a : List Nat), d = a ++ b → Sh fs b.reverse := by
  intro b
  induction b with
  | nil => exact fun _ _ => .nil
  | cons i b ih =>
    intro a e
    have hb := ih (a ++ [i]) (by rw [e]; simp)
    obtain ⟨ha, hi, hia, hc⟩ := h.cut e
    have hnd := h.nodup
    rw [e] at hnd
    have hib : i ∉ b := by
      rw [List.nodup_append, List.nodup_cons] at hnd
      exact hnd.2.1.1
    rw [List.reverse_cons]
    refine .snoc hb hi (by rwa [List.mem_reverse]) ?_
    rw [L.len] at hi
    have hlen : a.length + (b.length + 1) = B.length := by
      have := congrArg List.length e
      rw [List.length_append, List.length_cons] at this
      omega
    by_cases hb0 : b = []
    · left; rw [hb0]; rfl
    · by_cases ha0 : a = []
      · right; left
        rw [List.length_reverse, L.len]
        rw [ha0, List.length_nil] at hlen
        omega
      · right; right
        have hbl : 0 < b.length := List.length_pos_iff.mpr hb0
        have hf : Fits (tabE fs a) (fAt fs i) := by
          rcases hc with q | q | q
          · exact absurd q ha0
          · rw [L.len] at q; omega
          · exact q
        obtain ⟨hr, _⟩ := L.inv G ha ha0 (by omega)
        obtain ⟨_, c2, _⟩ := L.turn G ha hi hia (by omega) hr hf
        have hcm := L.compl (a := a) (i := i) (b := b) (fun j hj => L.dlt h j (e ▸ hj)) hnd (by rw [← e]; exact hl)
        rw [L.fits G.surf hb hi, mask_rev, hcm]
        rcases c2 with c2 | c2
        · exfalso
          rw [c2, Nat.xor_self] at hcm
          obtain ⟨j, b', rfl⟩ := List.exists_cons_of_ne_nil hb0
          have : (maskOf ((j :: b').map π)).testBit (π j) = true := by
            rw [testBit_maskOf]; exact List.contains_iff_mem.mpr (List.mem_map_of_mem (.head _))
          rw [hcm, Nat.zero_testBit] at this
          cases this
        · exact c2
theorem Like.side (L : Like B fs π φ) (S : Surf B) {d : List Nat} (h : Sh fs d) {i x y : Nat} (hi : i < B.length) (hn : i ∉ d) (hE : Mine.hasE (fAt fs i) x y = true) : (tabE fs d).contains (y, x) = d.any fun p => Mine.hasE (fAt fs p) y x := by
  rw [L.tab S h, rimB]
  have : (d.any fun p => Mine.hasE (fAt fs p) x y) = false := by
    cases e : d.any fun p => Mine.hasE (fAt fs p) x y with
    | false => rfl
    | true =>
      obtain ⟨p, hp, e⟩ := List.any_eq_true.mp e
      exact absurd (L.uniq S (L.dlt h p hp) hi e hE ▸ hp) hn
  rw [this, Bool.not_false, Bool.and_true]
theorem Like.flip (L : Like B fs π φ) (G : Good B reach) {a b : List Nat} {i x y : Nat} (h : Sh fs (a ++ i :: b)) (hl : (a ++ i :: b).length = B.length) (hE : Mine.hasE (fAt fs i) x y = true) : (tabE fs b.reverse).contains (y, x) = !(tabE fs a).contains (y, x) := by
  have hb : Sh fs b.reverse := L.suffix G h hl b (a ++ [i]) (by simp)
  obtain ⟨ha, hi, hia, _⟩ := h.cut rfl
  rw [L.len] at hi
  have hnd := h.nodup
  have hib : i ∉ b := by
    rw [List.nodup_append, List.nodup_cons] at hnd
    exact hnd.2.1.1
  have hab : ∀ p, p ∈ a → p ∈ b → False := fun p p1 p2 => by
    rw [List.nodup_append] at hnd
    exact hnd.2.2 p p1 p (.tail _ p2) rfl
  rw [L.side G.surf hb hi (by rwa [List.mem_reverse]) hE, L.side G.surf ha hi hia hE]
  obtain ⟨q, hq, e⟩ := L.closed G.surf hi hE
  have hqi : q ≠ i := fun z => hasE_asym (L.ne G.surf hi) hE (z ▸ e)
  have hqm := covers (L.dlt h) h.nodup hl hq
  have one : ∀ p, p < B.length → Mine.hasE (fAt fs p) y x = true → p = q := fun p hp e2 => L.uniq G.surf hp hq e2 e
  rcases List.mem_append.mp hqm with hm | hm
  · have e1 : (a.any fun p => Mine.hasE (fAt fs p) y x) = true := List.any_eq_true.mpr ⟨q, hm, e⟩
    have e2 : (b.reverse.any fun p => Mine.hasE (fAt fs p) y x) = false := by
      cases z : b.reverse.any fun p => Mine.hasE (fAt fs p) y x with
      | false => rfl
      | true =>
        obtain ⟨p, hp, e3⟩ := List.any_eq_true.mp z
        exact (hab q hm (one p (L.dlt hb p hp) e3 ▸ List.mem_reverse.mp hp)).elim
    rw [e1, e2]; rfl
  · have hm : q ∈ b := (List.mem_cons.mp hm).resolve_left hqi
    have e1 : (b.reverse.any fun p => Mine.hasE (fAt fs p) y x) = true := List.any_eq_true.mpr ⟨q, List.mem_reverse.mpr hm, e⟩
    have e2 : (a.any fun p => Mine.hasE (fAt fs p) y x) = false := by
      cases z : a.any fun p => Mine.hasE (fAt fs p) y x with
      | false => rfl
      | true =>
        obtain ⟨p, hp, e3⟩ := List.any_eq_true.mp z
        exact (hab q (one p (L.dlt ha p hp) e3 ▸ hp) hm).elim
    rw [e1, e2]; rfl
theorem Like.play (L : Like B fs π φ) (G : Good B reach) : Play fs where
  len := by rw [L.len]; exact G.nn
  low := fun f hf => by
    obtain ⟨p, hp, rfl⟩ := List.getElem_of_mem hf
    have := L.mem_low G.surf (p := p) (by rw [← L.len]; exact hp)
    rwa [fAt, List.getD_eq_getElem?_getD, List.getElem?_eq_getElem hp] at this
  last := fun {d i} h hl hi hn => by
    rw [L.len] at hl hi
    rw [L.ill G.surf h hi, L.last h hl hi hn]
    exact (G.at_end (L.lt i hi)).2.2.1
  go := fun {d} h hne hl => by
    rw [L.len] at hl
    obtain ⟨hr, _⟩ := L.inv G h hne (by omega)
    have := L.unset (L.dlt h)
    obtain ⟨_, q, hq, h1, h2⟩ := G.at_mask (mask_lt (L.map_lt (L.dlt h))) hr (by omega)
    obtain ⟨p, hp, rfl⟩ := L.surj hq
    refine ⟨p, by rw [L.len]; exact hp, fun hm => ?_, (L.fits G.surf h hp).mpr h2⟩
    rw [L.bit (L.dlt h) hp, List.contains_iff_mem.mpr hm] at h1
    cases h1
  none := fun {d} h hl => by
    rw [L.len] at hl
    refine List.eq_nil_iff_forall_not_mem.mpr fun ⟨x, y⟩ hm => ?_
    have hc := List.contains_iff_mem.mpr hm
    rw [L.tab G.surf h, rimB, Bool.and_eq_true, Bool.not_eq_true'] at hc
    obtain ⟨p, hp, e⟩ := List.any_eq_true.mp hc.1
    obtain ⟨q, hq, e2⟩ := L.closed G.surf (L.dlt h p hp) e
    have : (d.any fun p => Mine.hasE (fAt fs p) y x) = true := List.any_eq_true.mpr ⟨q, covers (L.dlt h) h.nodup hl hq, e2⟩
    rw [hc.2] at this
    cases this
  back := fun {d} h hl => by
    rw [L.len] at hl
    refine ⟨L.suffix G h hl d [] rfl, fun a i b e => ?_⟩
    subst e
    exact ⟨L.flip G h hl (hasE_iff.mpr (.inl ⟨rfl, rfl⟩)), L.flip G h hl (hasE_iff.mpr (.inr (.inl ⟨rfl, rfl⟩))), L.flip G h hl (hasE_iff.mpr (.inr (.inr ⟨rfl, rfl⟩)))⟩
  count := fun {d} h hl => by
    show kin fs d 1 = _ ∧ kin fs d 2 = _
    rw [L.len] at hl ⊢
    cases h with
    | nil => rcases G.nn with q | q <;> rw [q] at hl <;> cases hl
    | @snoc d i h hi hn hf =>
      rw [L.len] at hi
      rw [List.length_append, List.length_singleton] at hl
      have hne : d ≠ [] := fun q => by rw [q] at hl; rcases G.nn with q | q <;> rw [q] at hl <;> cases hl
      obtain ⟨_, b2, b3⟩ := L.inv G h hne (by omega)
      obtain ⟨_, _, _, c1, c2⟩ := G.at_end (L.lt i hi)
      rw [L.last h hl hi hn, c2] at b2
      have e3 : shE (tabE fs d) (fAt fs i) = 3 := by rw [L.sh G.surf h hi, L.last h hl hi hn, c1]
      rw [kin_snoc, kin_snoc, e3, if_neg (show ¬ ((3 : Int) == 1) = true by decide), if_neg (show ¬ ((3 : Int) == 2) = true by decide)]
      rcases G.nn with q | q <;> rw [q] at hl ⊢ <;> omega
end
end
-- part: PSkin
section
theorem off_PSkin : True := by w_top off; exact trivial
/-- where a side's other face stands -/
def oppOf (fs : List Tri) (x y : Nat) : Nat := ((List.range fs.length).filter fun i => hasE (fAt fs i) x y).headD 0
/-- the letters of a face that another has not -/
def farL (f one : Tri) : List Nat := [f.1, f.2.1, f.2.2].filter fun c => !(c == one.1 || c == one.2.1 || c == one.2.2)
def hasV (f : Tri) (v : Nat) : Bool := v == f.1 || v == f.2.1 || v == f.2.2
def flipT (fs : List Tri) (p s : Nat) : List Tri :=
  let one := rotT s (fAt fs p)
  let q := oppOf fs one.2.1 one.1
  let w := (farL (fAt fs q) one).headD 0
  if fs.any fun f => hasV f one.2.2 && hasV f w then fs else (fs.set p (one.2.2, one.1, w)).set q (w, one.2.1, one.2.2)
def baseOf : Nat → List Tri | 0 => base6 | 1 => baseA | _ => baseO
def reachOf : Nat → Nat | 0 => reach6 | 1 => reachA | _ => reachO
theorem good_base : ∀ t, Good (baseOf t) (reachOf t)
  | 0 => good6
  | 1 => goodA
  | _ + 2 => goodO
def wit6 : List (Nat × List Nat × List Nat) := [(0, [2, 1, 3, 0, 5, 4], [1, 3, 4, 0, 2, 5]), (0, [0, 1, 2, 3, 4, 5], [0, 1, 2, 3, 4, 5]), (0, [0, 1, 2, 3, 4, 5], [0, 1, 2, 3, 4, 5]), (0, [0, 1, 2, 3, 4, 5], [0, 1, 2, 3, 4, 5]), (0, [0, 1, 2, 3, 4, 5], [0, 1, 2, 3, 4, 5]), (0, [3, 2, 1, 4, 0, 5], [2, 3, 4, 1, 0, 5]), (0, [0, 1, 2, 3, 4, 5], [0, 1, 2, 3, 4, 5]), (0, [0, 1, 2, 3, 4, 5], [0, 1, 2, 3, 4, 5]), (0, [1, 3, 2, 5, 4, 0], [0, 3, 4, 2, 1, 5]), (0, [3, 2, 1, 4, 0, 5], [2, 3, 4, 1, 0, 5]), (0, [0, 1, 2, 3, 4, 5], [0, 1, 2, 3, 4, 5]), (0, [0, 1, 2, 3, 4, 5], [0, 1, 2, 3, 4, 5]), (0, [1, 3, 2, 5, 4, 0], [0, 3, 4, 2, 1, 5]), (0, [0, 1, 2, 3, 4, 5], [0, 1, 2, 3, 4, 5]), (0, [0, 1, 2, 3, 4, 5], [0, 1, 2, 3, 4, 5]), (0, [2, 1, 3, 0, 5, 4], [1, 3, 4, 0, 2, 5]), (0, [0, 1, 2, 3, 4, 5], [0, 1, 2, 3, 4, 5]), (0, [0, 1, 2, 3, 4, 5], [0, 1, 2, 3, 4, 5])]
def witA : List (Nat × List Nat × List Nat) := [(1, [0, 4, 7, 5, 6, 1, 3, 2], [1, 5, 2, 0, 3, 4]), (1, [0, 1, 2, 3, 4, 5, 6, 7], [0, 1, 2, 3, 4, 5]), (1, [3, 4, 1, 2, 0, 7, 5, 6], [2, 4, 3, 0, 1, 5]), (1, [0, 1, 2, 3, 4, 5, 6, 7], [0, 1, 2, 3, 4, 5]), (1, [4, 3, 5, 6, 7, 0, 1, 2], [0, 5, 1, 2, 3, 4]), (1, [5, 1, 7, 6, 0, 2, 3, 4], [0, 2, 3, 4, 5, 1]), (1, [3, 4, 1, 2, 0, 7, 5, 6], [2, 4, 3, 0, 1, 5]), (1, [0, 1, 2, 3, 4, 5, 6, 7], [0, 1, 2, 3, 4, 5]), (1, [0, 1, 2, 3, 4, 5, 6, 7], [0, 1, 2, 3, 4, 5]), (1, [5, 1, 7, 6, 0, 2, 3, 4], [0, 2, 3, 4, 5, 1]), (1, [0, 1, 2, 3, 4, 5, 6, 7], [0, 1, 2, 3, 4, 5]), (1, [0, 1, 2, 3, 4, 5, 6, 7], [0, 1, 2, 3, 4, 5]), (2, [3, 7, 0, 4, 5, 1, 6, 2], [0, 1, 4, 5, 3, 2]), (1, [0, 1, 2, 3, 4, 5, 6, 7], [0, 1, 2, 3, 4, 5]), (1, [0, 1, 2, 3, 4, 5, 6, 7], [0, 1, 2, 3, 4, 5]), (2, [3, 7, 0, 4, 5, 1, 6, 2], [0, 1, 4, 5, 3, 2]), (1, [0, 1, 2, 3, 4, 5, 6, 7], [0, 1, 2, 3, 4, 5]), (1, [0, 1, 2, 3, 4, 5, 6, 7], [0, 1, 2, 3, 4, 5]), (1, [4, 3, 5, 6, 7, 0, 1, 2], [0, 5, 1, 2, 3, 4]), (1, [0, 1, 2, 3, 4, 5, 6, 7], [0, 1, 2, 3, 4, 5]), (1, [0, 1, 2, 3, 4, 5, 6, 7], [0, 1, 2, 3, 4, 5]), (1, [0, 4, 7, 5, 6, 1, 3, 2], [1, 5, 2, 0, 3, 4]), (1, [0, 1, 2, 3, 4, 5, 6, 7], [0, 1, 2, 3, 4, 5]), (1, [0, 1, 2, 3, 4, 5, 6, 7], [0, 1, 2, 3, 4, 5])]
def witO : List (Nat × List Nat × List Nat) := [(1, [4, 2, 3, 5, 7, 0, 1, 6], [2, 3, 4, 5, 0, 1]), (1, [4, 7, 0, 2, 5, 6, 1, 3], [0, 4, 5, 3, 1, 2]), (1, [4, 5, 6, 7, 2, 3, 1, 0], [1, 5, 3, 4, 2, 0]), (1, [4, 5, 6, 7, 2, 3, 1, 0], [1, 5, 3, 4, 2, 0]), (1, [2, 4, 7, 0, 3, 5, 6, 1], [0, 1, 5, 4, 2, 3]), (1, [7, 4, 5, 6, 0, 2, 3, 1], [2, 5, 4, 1, 3, 0]), (1, [7, 4, 5, 6, 0, 2, 3, 1], [2, 5, 4, 1, 3, 0]), (1, [0, 2, 4, 7, 1, 3, 5, 6], [0, 2, 5, 1, 3, 4]), (1, [2, 3, 5, 4, 0, 1, 6, 7], [1, 2, 3, 5, 0, 4]), (1, [2, 3, 5, 4, 0, 1, 6, 7], [1, 2, 3, 5, 0, 4]), (1, [7, 0, 2, 4, 6, 1, 3, 5], [0, 3, 5, 2, 4, 1]), (1, [4, 2, 3, 5, 7, 0, 1, 6], [2, 3, 4, 5, 0, 1]), (1, [7, 6, 1, 0, 4, 5, 3, 2], [1, 4, 3, 0, 5, 2]), (1, [4, 7, 0, 2, 5, 6, 1, 3], [0, 4, 5, 3, 1, 2]), (1, [2, 0, 1, 3, 4, 7, 6, 5], [2, 0, 4, 3, 1, 5]), (1, [0, 7, 6, 1, 2, 4, 5, 3], [2, 1, 4, 0, 5, 3]), (1, [2, 4, 7, 0, 3, 5, 6, 1], [0, 1, 5, 4, 2, 3]), (1, [7, 6, 1, 0, 4, 5, 3, 2], [1, 4, 3, 0, 5, 2]), (1, [0, 1, 3, 2, 7, 6, 5, 4], [1, 0, 3, 2, 4, 5]), (1, [0, 2, 4, 7, 1, 3, 5, 6], [0, 2, 5, 1, 3, 4]), (1, [0, 7, 6, 1, 2, 4, 5, 3], [2, 1, 4, 0, 5, 3]), (1, [2, 0, 1, 3, 4, 7, 6, 5], [2, 0, 4, 3, 1, 5]), (1, [7, 0, 2, 4, 6, 1, 3, 5], [0, 3, 5, 2, 4, 1]), (1, [0, 1, 3, 2, 7, 6, 5, 4], [1, 0, 3, 2, 4, 5])]
def wit1 : List (Nat × List Nat × List Nat) := [(0, [0, 1, 2, 3, 4, 5], [0, 1, 2, 3, 4, 5]), (0, [1, 0, 2, 3, 4, 5], [0, 2, 3, 1, 4, 5]), (0, [3, 5, 4, 0, 2, 1], [0, 1, 3, 4, 2, 5]), (0, [3, 4, 5, 0, 2, 1], [1, 2, 3, 4, 0, 5])]
def wit2 : List (Nat × List Nat × List Nat) := [(1, [0, 1, 2, 3, 4, 5, 6, 7], [0, 1, 2, 3, 4, 5]), (1, [0, 1, 5, 6, 7, 2, 3, 4], [0, 3, 1, 2, 5, 4]), (1, [1, 0, 7, 5, 6, 2, 3, 4], [1, 3, 2, 0, 5, 4]), (1, [2, 4, 3, 1, 0, 5, 6, 7], [0, 2, 1, 4, 3, 5]), (1, [3, 2, 4, 0, 1, 5, 6, 7], [1, 0, 2, 4, 3, 5]), (1, [5, 7, 6, 0, 1, 4, 2, 3], [0, 4, 2, 1, 5, 3]), (1, [0, 1, 5, 6, 7, 2, 3, 4], [0, 1, 2, 3, 5, 4]), (1, [0, 1, 2, 3, 4, 5, 6, 7], [0, 2, 3, 1, 4, 5]), (1, [0, 1, 7, 5, 6, 3, 4, 2], [2, 1, 3, 0, 5, 4]), (1, [4, 2, 3, 1, 0, 5, 6, 7], [0, 3, 2, 4, 1, 5]), (1, [2, 3, 4, 0, 1, 5, 6, 7], [2, 0, 3, 4, 1, 5]), (1, [7, 5, 6, 0, 1, 4, 2, 3], [0, 4, 3, 2, 5, 1]), (1, [0, 1, 2, 3, 4, 5, 6, 7], [0, 3, 1, 2, 4, 5]), (1, [0, 1, 5, 6, 7, 2, 3, 4], [0, 2, 3, 1, 5, 4]), (1, [0, 1, 3, 4, 2, 5, 6, 7], [1, 0, 3, 2, 4, 5]), (1, [2, 4, 3, 1, 0, 5, 6, 7], [0, 1, 3, 4, 2, 5]), (1, [7, 6, 5, 1, 0, 4, 2, 3], [1, 4, 3, 0, 5, 2]), (1, [5, 7, 6, 0, 1, 4, 2, 3], [0, 4, 1, 3, 5, 2]), (1, [1, 0, 2, 3, 4, 7, 5, 6], [1, 3, 2, 0, 4, 5]), (1, [0, 1, 3, 4, 2, 7, 5, 6], [2, 1, 3, 0, 4, 5]), (1, [0, 1, 5, 6, 7, 3, 4, 2], [1, 0, 3, 2, 5, 4]), (1, [2, 3, 4, 1, 0, 5, 6, 7], [1, 2, 3, 4, 0, 5]), (1, [7, 5, 6, 1, 0, 4, 2, 3], [2, 4, 3, 1, 5, 0]), (1, [5, 6, 7, 0, 1, 4, 2, 3], [1, 4, 2, 3, 5, 0])]
def witOf : Nat → List (Nat × List Nat × List Nat) | 0 => wit6 | 1 => witA | _ => witO
def likeB (B C : List Tri) (π φ : List Nat) : Bool :=
  C.length == B.length && ((List.range B.length).all fun p => decide (π.getD p 0 < B.length) && ((List.range B.length).all fun q => p == q || π.getD p 0 != π.getD q 0) && ([0, 1, 2].any fun r => fAt C p == rotT r (mapT (fun u => φ.getD u 0) (fAt B (π.getD p 0))))) &&
    ((List.range 6).all fun u => decide (φ.getD u 0 < 6) && (List.range 6).all fun v => u == v || φ.getD u 0 != φ.getD v 0)
def likeW (C : List Tri) (w : Nat × List Nat × List Nat) : Bool := decide (w.1 < 3) && likeB (baseOf w.1) C w.2.1 w.2.2
/-- every flip of a base is like a base, finds its other face and its far corner -/
def okFlips (t : Nat) : Bool := (List.range (baseOf t).length).all fun p => (List.range 3).all fun s => likeW (flipT (baseOf t) p s) ((witOf t).getD (p * 3 + s) (0, [], []))
theorem flips6 : okFlips 0 = true := by decide +kernel
theorem flipsA : okFlips 1 = true := by decide +kernel
theorem flipsO : okFlips 2 = true := by decide +kernel
theorem starts1 : ((List.range 4).all fun i => likeW (stack tetra i 4) (wit1.getD i (0, [], []))) = true := by decide +kernel
theorem starts2 : ((List.range 4).all fun i => (List.range 6).all fun j => likeW (stack (stack tetra i 4) j 5) (wit2.getD (i * 6 + j) (0, [], []))) = true := by decide +kernel
theorem rot_map {φ : Nat → Nat} {r : Nat} {f : Tri} : mapT φ (rotT r f) = rotT r (mapT φ f) := by
  match r with
  | 0 => rfl
  | 1 => rfl
  | _ + 2 => rfl
theorem rot_rot {r r' : Nat} (h : r < 3) (h' : r' < 3) (f : Tri) : ∃ r'', r'' < 3 ∧ rotT r (rotT r' f) = rotT r'' f := by
  match r, h, r', h' with
  | 0, _, r', h' => exact ⟨r', h', rfl⟩
  | 1, _, 0, _ => exact ⟨1, by decide, rfl⟩
  | 1, _, 1, _ => exact ⟨2, by decide, rfl⟩
  | 1, _, 2, _ => exact ⟨0, by decide, rfl⟩
  | 2, _, 0, _ => exact ⟨2, by decide, rfl⟩
  | 2, _, 1, _ => exact ⟨0, by decide, rfl⟩
  | 2, _, 2, _ => exact ⟨1, by decide, rfl⟩
theorem Like.comp {B C fs : List Tri} {π φ : Nat → Nat} {π1 φ1 : List Nat} (L : Like C fs π φ) (S : ∀ p, p < B.length → (fAt B p).1 < 6 ∧ (fAt B p).2.1 < 6 ∧ (fAt B p).2.2 < 6) (h : likeB B C π1 φ1 = true) : Like B fs (fun p => π1.getD (π p) 0) (fun u => φ (φ1.getD u 0)) := by
  simp only [likeB, Bool.and_eq_true, beq_iff_eq, List.all_eq_true, List.mem_range, decide_eq_true_eq, Bool.or_eq_true, bne_iff_ne, List.any_eq_true] at h
  obtain ⟨⟨hl, hp⟩, hφ⟩ := h
  refine ⟨L.len.trans hl, fun p q => ((hp _ (by rw [← hl]; exact L.lt p (by rw [hl]; exact q))).1.1), fun p q hp' hq' e => ?_, fun u v hu hv e => ?_, fun u hu => L.low _ (hφ u hu).1, fun p hp' => ?_⟩
  · have hp2 := L.lt p (by rw [hl]; exact hp')
    have hq2 := L.lt q (by rw [hl]; exact hq')
    rcases (hp _ (by rw [← hl]; exact hp2)).1.2 _ (by rw [← hl]; exact hq2) with z | z
    · exact L.inj p q (by rw [hl]; exact hp') (by rw [hl]; exact hq') z
    · exact absurd e z
  · have e2 := L.injφ _ _ (hφ u hu).1 (hφ v hv).1 e
    rcases (hφ u hu).2 v hv with z | z
    · exact z
    · exact absurd e2 z
  · obtain ⟨r, hr, e⟩ := L.face p (by rw [hl]; exact hp')
    obtain ⟨r1, hr1, e1⟩ := (hp _ (by rw [← hl]; exact L.lt p (by rw [hl]; exact hp'))).2
    have hr1' : r1 < 3 := by
      simp only [List.mem_cons, List.not_mem_nil, or_false] at hr1
      omega
    rw [e1, rot_map] at e
    obtain ⟨r2, hr2, e2⟩ := rot_rot hr hr1' (mapT φ (mapT (fun u => φ1.getD u 0) (fAt B (π1.getD (π p) 0))))
    exact ⟨r2, hr2, e.trans e2⟩
theorem opp_is {fs : List Tri} {x y q : Nat} (hq : q < fs.length) (h : hasE (fAt fs q) x y = true) (uniq : ∀ i, i < fs.length → hasE (fAt fs i) x y = true → i = q) : oppOf fs x y = q := by
  have hm : q ∈ (List.range fs.length).filter fun i => hasE (fAt fs i) x y := List.mem_filter.mpr ⟨List.mem_range.mpr hq, h⟩
  unfold oppOf
  cases e : (List.range fs.length).filter fun i => hasE (fAt fs i) x y with
  | nil => rw [e] at hm; cases hm
  | cons a r =>
    have ha : a ∈ (List.range fs.length).filter fun i => hasE (fAt fs i) x y := by rw [e]; exact .head _
    obtain ⟨h1, h2⟩ := List.mem_filter.mp ha
    exact uniq a (List.mem_range.mp h1) h2
theorem far_rot {f one : Tri} {r : Nat} (h : hasE f one.2.1 one.1 = true) : farL (rotT r f) one = farL f one := by
  obtain ⟨a, b, c⟩ := f
  obtain ⟨x, y, z⟩ := one
  rcases hasE_iff.mp h with ⟨h1, h2⟩ | ⟨h1, h2⟩ | ⟨h1, h2⟩ <;> simp only at h1 h2 <;> subst h1 h2 <;> (match r with
    | 0 => rfl
    | 1 => simp [farL, rotT, List.filter_cons]
    | _ + 2 => simp [farL, rotT, List.filter_cons])
theorem far_map {φ : Nat → Nat} (inj : ∀ u v, u < 6 → v < 6 → φ u = φ v → u = v) {f one : Tri} (hf : f.1 < 6 ∧ f.2.1 < 6 ∧ f.2.2 < 6) (ho : one.1 < 6 ∧ one.2.1 < 6 ∧ one.2.2 < 6) : farL (mapT φ f) (mapT φ one) = (farL f one).map φ := by
  have q : ∀ c, c < 6 → (!(φ c == φ one.1 || φ c == φ one.2.1 || φ c == φ one.2.2)) = !(c == one.1 || c == one.2.1 || c == one.2.2) := fun c hc => by
    rw [beq_φ inj hc ho.1, beq_φ inj hc ho.2.1, beq_φ inj hc ho.2.2]
  simp only [farL, mapT, List.filter_cons, List.filter_nil, q _ hf.1, q _ hf.2.1, q _ hf.2.2]
  split <;> split <;> split <;> rfl
theorem far_lt {f one : Tri} (hf : f.1 < 6 ∧ f.2.1 < 6 ∧ f.2.2 < 6) {w : Nat} (h : w ∈ farL f one) : w < 6 := by
  have := (List.mem_filter.mp h).1
  simp only [List.mem_cons, List.not_mem_nil, or_false] at this
  rcases this with rfl | rfl | rfl
  · exact hf.1
  · exact hf.2.1
  · exact hf.2.2
theorem hasV_rot {r : Nat} {f : Tri} {v : Nat} : hasV (rotT r f) v = hasV f v := by
  obtain ⟨a, b, c⟩ := f
  match r with
  | 0 => rfl
  | 1 => simp only [rotT, hasV]; cases v == a <;> cases v == b <;> cases v == c <;> rfl
  | _ + 2 => simp only [rotT, hasV]; cases v == a <;> cases v == b <;> cases v == c <;> rfl
theorem hasV_map {φ : Nat → Nat} (inj : ∀ u v, u < 6 → v < 6 → φ u = φ v → u = v) {f : Tri} (hf : f.1 < 6 ∧ f.2.1 < 6 ∧ f.2.2 < 6) {v : Nat} (hv : v < 6) : hasV (mapT φ f) (φ v) = hasV f v := by
  simp only [hasV, mapT, beq_φ inj hv hf.1, beq_φ inj hv hf.2.1, beq_φ inj hv hf.2.2]
theorem any_at {fs : List Tri} {P : Tri → Bool} : fs.any P = (List.range fs.length).any fun i => P (fAt fs i) := by
  rw [Bool.eq_iff_iff, List.any_eq_true, List.any_eq_true]
  constructor
  · rintro ⟨f, hf, h⟩
    obtain ⟨i, hi, rfl⟩ := List.getElem_of_mem hf
    exact ⟨i, List.mem_range.mpr hi, by rw [fAt, List.getD_eq_getElem?_getD, List.getElem?_eq_getElem hi]; exact h⟩
  · rintro ⟨i, hi, h⟩
    have hi := List.mem_range.mp hi
    rw [fAt, List.getD_eq_getElem?_getD, List.getElem?_eq_getElem hi] at h
    exact ⟨_, List.getElem_mem hi, h⟩
theorem fAt_set {fs : List Tri} {p j : Nat} {a : Tri} (hp : p < fs.length) : fAt (fs.set p a) j = if p = j then a else fAt fs j := by
  rw [fAt, fAt, List.getD_eq_getElem?_getD, List.getD_eq_getElem?_getD, List.getElem?_set]
  by_cases h : p = j
  · rw [if_pos h, if_pos h, if_pos (h ▸ hp)]; rfl
  · rw [if_neg h, if_neg h]
/-- a flip finds the other face and its far corner -/
def okFar (B : List Tri) : Bool := (List.range B.length).all fun p => (List.range 3).all fun s => !(farL (fAt B (oppOf B (rotT s (fAt B p)).2.1 (rotT s (fAt B p)).1)) (rotT s (fAt B p))).isEmpty
theorem far_base : ∀ t, okFar (baseOf t) = true
  | 0 => by decide +kernel
  | 1 => by decide +kernel
  | _ + 2 => by show okFar baseO = true; decide +kernel
theorem okFar_out {B : List Tri} (h : okFar B = true) {p s : Nat} (hp : p < B.length) (hs : s < 3) : farL (fAt B (oppOf B (rotT s (fAt B p)).2.1 (rotT s (fAt B p)).1)) (rotT s (fAt B p)) ≠ [] := by
  have := List.all_eq_true.mp (List.all_eq_true.mp h p (List.mem_range.mpr hp)) s (List.mem_range.mpr hs)
  intro e
  rw [e] at this
  cases this
theorem rot_lt {f : Tri} {s : Nat} (h : f.1 < 6 ∧ f.2.1 < 6 ∧ f.2.2 < 6) : (rotT s f).1 < 6 ∧ (rotT s f).2.1 < 6 ∧ (rotT s f).2.2 < 6 := by
  match s with
  | 0 => exact h
  | 1 => exact ⟨h.2.1, h.2.2, h.1⟩
  | _ + 2 => exact ⟨h.2.2, h.1, h.2.1⟩
/-- what a flip sees on a skin: the other face's place q, its far letter w, and the same on the base -/
structure Sees (B fs : List Tri) (π φ : Nat → Nat) (p s q w s' w' : Nat) : Prop where
  hs : s' < 3
  one : rotT s (fAt fs p) = mapT φ (rotT s' (fAt B (π p)))
  hq : q < B.length
  edge : hasE (fAt fs q) (rotT s (fAt fs p)).2.1 (rotT s (fAt fs p)).1 = true
  opp : oppOf fs (rotT s (fAt fs p)).2.1 (rotT s (fAt fs p)).1 = q
  oppB : oppOf B (rotT s' (fAt B (π p))).2.1 (rotT s' (fAt B (π p))).1 = π q
  far : ∃ r, farL (fAt fs q) (rotT s (fAt fs p)) = w :: r
  farB : ∃ r, farL (fAt B (π q)) (rotT s' (fAt B (π p))) = w' :: r
  ww : w = φ w'
  w6 : w' < 6
section
variable {B fs : List Tri} {π φ : Nat → Nat}
theorem Like.sees (L : Like B fs π φ) (S : Surf B) (F : okFar B = true) {p s : Nat} (hp : p < B.length) (hs : s < 3) : ∃ q w s' w', Sees B fs π φ p s q w s' w' := by
  obtain ⟨r, hr, e⟩ := L.face p hp
  obtain ⟨s', hs', e'⟩ := rot_rot hs hr (mapT φ (fAt B (π p)))
  have one : rotT s (fAt fs p) = mapT φ (rotT s' (fAt B (π p))) := by rw [e, e', rot_map]
  have hg := S.small _ (L.lt p hp)
  have ho := rot_lt (s := s') hg
  have hE : Mine.hasE (fAt B (π p)) (rotT s' (fAt B (π p))).1 (rotT s' (fAt B (π p))).2.1 = true := by
    rw [← hasE_rot (r := s')]; exact hasE_iff.mpr (.inl ⟨rfl, rfl⟩)
  have hE' : Mine.hasE (fAt fs p) (φ (rotT s' (fAt B (π p))).1) (φ (rotT s' (fAt B (π p))).2.1) = true := by rw [L.hasE S hp ho.1 ho.2.1]; exact hE
  obtain ⟨q, hq, eq⟩ := L.closed S hp hE'
  have eqB : Mine.hasE (fAt B (π q)) (rotT s' (fAt B (π p))).2.1 (rotT s' (fAt B (π p))).1 = true := by rw [← L.hasE S hq ho.2.1 ho.1]; exact eq
  have hoppB : oppOf B (rotT s' (fAt B (π p))).2.1 (rotT s' (fAt B (π p))).1 = π q := opp_is (L.lt q hq) eqB fun i hi h => S.uniq _ _ _ _ hi (L.lt q hq) h eqB
  have hedge : Mine.hasE (fAt fs q) (rotT s (fAt fs p)).2.1 (rotT s (fAt fs p)).1 = true := by rw [one]; exact eq
  have hfB := okFar_out F (L.lt p hp) hs'
  rw [hoppB] at hfB
  obtain ⟨r2, hr2, e2⟩ := L.face q hq
  have hg2 := S.small _ (L.lt q hq)
  have hfar : farL (fAt fs q) (rotT s (fAt fs p)) = (farL (fAt B (π q)) (rotT s' (fAt B (π p)))).map φ := by
    rw [one, e2, far_rot, far_map L.injφ hg2 ho]
    show Mine.hasE (mapT φ (fAt B (π q))) (φ _) (φ _) = true
    rw [hasE_map L.injφ hg2 ho.2.1 ho.1]; exact eqB
  obtain ⟨w', rest, ew⟩ := List.exists_cons_of_ne_nil hfB
  refine ⟨q, φ w', s', w', hs', one, hq, hedge, opp_is (by rw [L.len]; exact hq) hedge fun i hi h => L.uniq S (by rw [← L.len]; exact hi) hq h hedge, hoppB, ⟨rest.map φ, by rw [hfar, ew]; rfl⟩, ⟨rest, ew⟩, rfl, far_lt hg2 (by rw [ew]; exact .head _)⟩
theorem Like.both (L : Like B fs π φ) (S : Surf B) {u v : Nat} (hu : u < 6) (hv : v < 6) : (fs.any fun f => hasV f (φ u) && hasV f (φ v)) = B.any fun f => hasV f u && hasV f v := by
  have key : ∀ p, p < B.length → (hasV (fAt fs p) (φ u) && hasV (fAt fs p) (φ v)) = (hasV (fAt B (π p)) u && hasV (fAt B (π p)) v) := fun p hp => by
    obtain ⟨r, hr, e⟩ := L.face p hp
    have hg := S.small _ (L.lt p hp)
    rw [e, hasV_rot, hasV_rot, hasV_map L.injφ hg hu, hasV_map L.injφ hg hv]
  rw [any_at, any_at, L.len, Bool.eq_iff_iff, List.any_eq_true, List.any_eq_true]
  constructor
  · rintro ⟨p, hp, h⟩
    have hp := List.mem_range.mp hp
    exact ⟨π p, List.mem_range.mpr (L.lt p hp), by rw [← key p hp]; exact h⟩
  · rintro ⟨q, hq, h⟩
    obtain ⟨p, hp, rfl⟩ := L.surj (List.mem_range.mp hq)
    exact ⟨p, List.mem_range.mpr hp, by rw [key p hp]; exact h⟩
theorem Like.flipped (L : Like B fs π φ) (S : Surf B) {p s q w s' w' : Nat} (hp : p < B.length) (V : Sees B fs π φ p s q w s' w') : Like (flipT B (π p) s') (flipT fs p s) π φ := by
  obtain ⟨r1, f1⟩ := V.far
  obtain ⟨r2, f2⟩ := V.farB
  have ho := rot_lt (s := s') (S.small _ (L.lt p hp))
  have hw : (farL (fAt fs q) (rotT s (fAt fs p))).headD 0 = φ w' := by rw [f1]; exact V.ww
  have hwB : (farL (fAt B (π q)) (rotT s' (fAt B (π p)))).headD 0 = w' := by rw [f2]; rfl
  unfold flipT
  simp only [V.opp, V.oppB, hw, hwB]
  have c1 : (fs.any fun f => hasV f (rotT s (fAt fs p)).2.2 && hasV f (φ w')) = B.any fun f => hasV f (rotT s' (fAt B (π p))).2.2 && hasV f w' := by
    rw [V.one]; exact L.both S ho.2.2 V.w6
  by_cases hc : (B.any fun f => hasV f (rotT s' (fAt B (π p))).2.2 && hasV f w') = true
  · rw [if_pos hc, if_pos (c1.trans hc)]; exact L
  · rw [if_neg hc, if_neg (by rw [c1]; exact hc)]
    have lq : π q < (B.set (π p) ((rotT s' (fAt B (π p))).2.2, (rotT s' (fAt B (π p))).1, w')).length := by rw [List.length_set]; exact L.lt q V.hq
    have lp : π p < B.length := L.lt p hp
    refine ⟨by simp [L.len], fun j hj => ?_, fun j k hj hk => ?_, L.injφ, L.low, fun j hj => ?_⟩
    · rw [List.length_set, List.length_set] at hj ⊢; exact L.lt j hj
    · rw [List.length_set, List.length_set] at hj hk; exact L.inj j k hj hk
    · rw [List.length_set, List.length_set] at hj
      rw [fAt_set (by rw [List.length_set, L.len]; exact V.hq), fAt_set lq]
      by_cases h1 : q = j
      · subst h1
        rw [if_pos rfl, if_pos rfl]
        exact ⟨0, by decide, by rw [V.one]; rfl⟩
      · rw [if_neg h1, if_neg fun z => h1 (L.inj q j V.hq hj z), fAt_set (by rw [L.len]; exact hp), fAt_set lp]
        by_cases h2 : p = j
        · subst h2
          rw [if_pos rfl, if_pos rfl]
          exact ⟨0, by decide, by rw [V.one]; rfl⟩
        · rw [if_neg h2, if_neg fun z => h2 (L.inj p j hp hj z)]
          exact L.face j hj
end
/-- a skin: like one of the three bases -/
def Skin (fs : List Tri) : Prop := ∃ t π φ, t < 3 ∧ Like (baseOf t) fs π φ
theorem Skin.play {fs : List Tri} : Skin fs → Play fs := fun ⟨t, _, _, _, L⟩ => L.play (good_base t)
theorem flips_ok : ∀ t, t < 3 → okFlips t = true
  | 0, _ => flips6
  | 1, _ => flipsA
  | 2, _ => flipsO
theorem like_out {C fs : List Tri} {π φ : Nat → Nat} {w : Nat × List Nat × List Nat} (L : Like C fs π φ) (h : likeW C w = true) : Skin fs := by
  rw [likeW, Bool.and_eq_true, decide_eq_true_eq] at h
  exact ⟨w.1, _, _, h.1, L.comp (good_base w.1).surf.small h.2⟩
theorem Skin.flip {fs : List Tri} (h : Skin fs) {p s : Nat} (hp : p < fs.length) (hs : s < 3) : Skin (flipT fs p s) := by
  obtain ⟨t, π, φ, ht, L⟩ := h
  rw [L.len] at hp
  obtain ⟨q, w, s', w', V⟩ := L.sees (good_base t).surf (far_base t) hp hs
  have h1 := List.all_eq_true.mp (List.all_eq_true.mp (flips_ok t ht) (π p) (List.mem_range.mpr (L.lt p hp))) s' (List.mem_range.mpr V.hs)
  exact like_out (L.flipped (good_base t).surf hp V) h1
theorem Skin.sees {fs : List Tri} (h : Skin fs) {p s : Nat} (hp : p < fs.length) (hs : s < 3) : ∃ q w r r', q < fs.length ∧ ((List.range fs.length).filter fun i => hasE (fAt fs i) (rotT s (fAt fs p)).2.1 (rotT s (fAt fs p)).1) = q :: r ∧ farL (fAt fs q) (rotT s (fAt fs p)) = w :: r' ∧
    flipT fs p s = if (fs.any fun f => hasV f (rotT s (fAt fs p)).2.2 && hasV f w) = true then fs else (fs.set p ((rotT s (fAt fs p)).2.2, (rotT s (fAt fs p)).1, w)).set q (w, (rotT s (fAt fs p)).2.1, (rotT s (fAt fs p)).2.2) := by
  obtain ⟨t, π, φ, ht, L⟩ := h
  have hp' := hp
  rw [L.len] at hp
  obtain ⟨q, w, s', w', V⟩ := L.sees (good_base t).surf (far_base t) hp hs
  have hq : q < fs.length := by rw [L.len]; exact V.hq
  have hm : q ∈ (List.range fs.length).filter fun i => hasE (fAt fs i) (rotT s (fAt fs p)).2.1 (rotT s (fAt fs p)).1 := List.mem_filter.mpr ⟨List.mem_range.mpr hq, V.edge⟩
  obtain ⟨r', er'⟩ := V.far
  have ho := V.opp
  unfold oppOf at ho
  cases e : (List.range fs.length).filter fun i => hasE (fAt fs i) (rotT s (fAt fs p)).2.1 (rotT s (fAt fs p)).1 with
  | nil => rw [e] at hm; cases hm
  | cons a r =>
    rw [e] at ho
    have ha : a = q := ho
    subst ha
    refine ⟨a, w, r, r', hq, rfl, er', ?_⟩
    unfold flipT
    simp only [V.opp, er', List.headD_cons]
def faces0 : List Tri := [(97, 98, 99), (97, 99, 100), (97, 100, 98), (98, 100, 99)]
def letT (f : Tri) : Tri := mapT (fun u => 97 + u) f
theorem like_letters (C : List Tri) : Like C (C.map letT) id (fun u => 97 + u) where
  len := List.length_map ..
  lt := fun _ h => h
  inj := fun _ _ _ _ h => h
  injφ := fun u v _ _ h => by omega
  low := fun u hu => by
    have : ∀ u, u < 6 → 97 + u ∈ low := by decide
    exact this u hu
  face := fun p hp => ⟨0, by decide, by
    rw [fAt, List.getD_eq_getElem?_getD, List.getElem?_map, List.getElem?_eq_getElem hp]
    show letT C[p] = mapT _ (fAt C p)
    rw [fAt, List.getD_eq_getElem?_getD, List.getElem?_eq_getElem hp]; rfl⟩
theorem start1_eq : ∀ i, i < 4 → stack faces0 i 101 = (stack tetra i 4).map letT := by decide +kernel
theorem start2_eq : ∀ i, i < 4 → ∀ j, j < 6 → stack (stack faces0 i 101) j 102 = (stack (stack tetra i 4) j 5).map letT := by decide +kernel
theorem skin1 {i : Nat} (hi : i < 4) : Skin (stack faces0 i 101) := by
  rw [start1_eq i hi]
  exact like_out (like_letters _) (List.all_eq_true.mp starts1 i (List.mem_range.mpr hi))
theorem skin2 {i j : Nat} (hi : i < 4) (hj : j < 6) : Skin (stack (stack faces0 i 101) j 102) := by
  rw [start2_eq i hi j hj]
  exact like_out (like_letters _) (List.all_eq_true.mp (List.all_eq_true.mp starts2 i (List.mem_range.mpr hi)) j (List.mem_range.mpr hj))
theorem Skin.len {fs : List Tri} (h : Skin fs) : fs.length = 6 ∨ fs.length = 8 := h.play.len
end
-- part: MShel0
section
theorem off_MShel0 : True := by w_top off; exact trivial
local macro_rules | `(tactic| k_room) => `(tactic| ktr_room)
theorem len_faces {prog : Program} {w : World} {A : Around} {E : Value → Shared → Prop} {s : Shared} {l : Addr} {fv : List Value} {n : Nat} {Q : Value → Shared → Prop} (hl : s.heap.IsList l fv.toArray) (e : fv.length = n) (hn : n ≤ 8)
    (h : Q (.int n (s.toks + 1)) { s with toks := s.toks + 1 + 1 }) : wpAny (model prog w) A (call (.builtin "len") [.ref l]) Q E s := by
  subst e
  exact call_len_list hl (by rw [List.size_toArray]; omega) (by rw [List.size_toArray]; exact h)
/-- the paints' tuples and what they hold -/
def PaintsAre (fs : List Tri) (pts : List (Addr × Obj)) (pv : List Value) (d : List Nat) : Prop :=
  pv.length = d.length ∧ (∀ q ∈ pts, ∃ x y z ta tb tc, q.2 = paintObj x y z ta tb tc) ∧
  ∀ (a : List Nat) (i : Nat) (b : List Nat), d = a ++ i :: b → ∃ p ta tb tc, (0 < tb ∧ 0 < tc) ∧ pv[a.length]? = some (.ref p) ∧ (p, paintObj (bit0 (tabE fs a) (fAt fs i)) (bit1 (tabE fs a) (fAt fs i)) (bit2 (tabE fs a) (fAt fs i)) ta tb tc) ∈ pts
structure ShelOk (fs : List Tri) (d ws : List Nat) (wv ov pv vs : List Value) (pts tups : List (Addr × Obj)) (ents : List Ent) : Prop where
  wv : IntsAre wv (ws.map Int.ofNat)
  ov : IntsAre ov (d.map Int.ofNat)
  sh : Sh fs d
  wnd : ws.Nodup
  wmem : ∀ i, i ∈ ws ↔ i < fs.length ∧ i ∉ d
  tab : TabOk tups vs ents (3 * d.length)
  names : Names ents (tabE fs d)
  paints : PaintsAre fs pts pv d
def sv (x : String) : PySem.Str := Str.ofString x
/-- the while's state -/
def ShelS (A₀ : Around) (base : Heap) (outer : List Env) (g : Heap) (L : Addr) (fs : List Tri) (fl cl P O TT H D : Addr) (hsh : Int) (t : Tok) (mark : PySem.Str) (s₀ : Shared) (n : Nat) (s : Shared) : Prop :=
  ∃ (g' h' : Heap) (tk' : Nat) (u : PySem.Str → Option Value) (Wt : Addr) (d ws : List Nat) (wv ov pv vs : List Value) (wn on pn hn : Nat) (pts tups : List (Addr × Obj)) (ents : List Ent) (turn : Int) (tt tm : Tok),
    s = { s₀ with heap := h', toks := tk' } ∧ KtsTurn (outer.filterMap (·.frame)) g g' ∧ Below A₀ base outer g' ∧
    Fr g' L h' (kstB u [(Str.ofString "faces", .ref fl), (Str.ofString "cells", .ref cl), (Str.ofString "mark", .str mark tm), (Str.ofString "table", .ref TT), (Str.ofString "waiting", .ref Wt), (Str.ofString "turn", .int turn tt), (Str.ofString "order", .ref O), (Str.ofString "paints", .ref P)]) ∧
    News g' L h' ((Wt, W.listOf wv.toArray wn) :: (O, W.listOf ov.toArray on) :: (P, W.listOf pv.toArray pn) :: (H, W.listOf vs.toArray hn) :: (TT, instObj 235 D) :: (D, dictOf [⟨hsh, .str (Str.ofString "_headers") t, .ref H⟩] 1) :: (pts ++ tups)) ∧
    (Wt ≠ O ∧ Wt ≠ P ∧ Wt ≠ H ∧ O ≠ P ∧ O ≠ H ∧ P ≠ H) ∧ ShelOk fs d ws wv ov pv vs pts tups ents ∧ n = ws.length
theorem shel_fr {g h : Heap} {L : Addr} {m : PySem.Str → Option Value} {ps : List (PySem.Str × Value)} (F : Fr g L h m) (hp : ∀ p ∈ ps, m p.1 = some p.2) : Fr g L h (kstB m ps) := by
  have e : kstB m ps = m := by
    funext z
    exact kstB_eq hp fun _ => rfl
  rw [e]; exact F
theorem mark_in (k : Int) : Txt.item (Str.ofString "|!/#") (k.fmod 4) ∈ marks := by
  have h1 : 0 ≤ k.fmod 4 := Int.fmod_nonneg_of_pos k (by decide)
  have h2 : k.fmod 4 < 4 := Int.fmod_lt_of_pos k (by decide)
  have h3 : k.fmod 4 = 0 ∨ k.fmod 4 = 1 ∨ k.fmod 4 = 2 ∨ k.fmod 4 = 3 := by omega
  rcases h3 with e | e | e | e <;> rw [e] <;> decide +kernel
theorem ShelOk.full {fs : List Tri} {d ws : List Nat} {wv ov pv vs : List Value} {pts tups : List (Addr × Obj)} {ents : List Ent} (ok : ShelOk fs d ws wv ov pv vs pts tups ents) : ws.length + d.length = fs.length := by
  have h1 : (ws ++ d).Nodup := by
    rw [List.nodup_append]
    exact ⟨ok.wnd, ok.sh.nodup, fun a ha b hb e => ((ok.wmem a).mp ha).2 (e ▸ hb)⟩
  have h2 := List.Nodup.length_le_of_subset h1 (l₂ := List.range fs.length) fun i hi => by
    rcases List.mem_append.mp hi with hi | hi
    · exact List.mem_range.mpr ((ok.wmem i).mp hi).1
    · exact List.mem_range.mpr (ok.sh.lt i hi)
  have h3 := List.Nodup.length_le_of_subset (List.nodup_range (n := fs.length)) (l₂ := ws ++ d) fun i hi => by
    by_cases hd : i ∈ d
    · exact List.mem_append_right _ hd
    · exact List.mem_append_left _ ((ok.wmem i).mpr ⟨List.mem_range.mp hi, hd⟩)
  rw [List.length_append, List.length_range] at h2
  rw [List.length_append, List.length_range] at h3
  omega
theorem strs_at {vs : List Value} {xs : List PySem.Str} (h : StrsAre vs xs) : ∀ {i : Nat} {v : Value}, vs[i]? = some v → ∃ x t, v = Value.str x t ∧ xs[i]? = some x := by
  induction h with
  | nil => intro i v e; cases i <;> cases e
  | cons x t r ih =>
    intro i v e
    cases i with
    | zero => cases e; exact ⟨_, _, rfl, rfl⟩
    | succ i => exact ih e
theorem strs_each : ∀ {ys : List Value} {xs : List PySem.Str}, ys.length = xs.length → (∀ (j : Nat) (v : Value), ys[j]? = some v → ∃ x t, v = Value.str x t ∧ xs[j]? = some x) → StrsAre ys xs
  | [], [], _, _ => .nil
  | y :: ys, x :: xs, h, H => by
    obtain ⟨x', t, rfl, e⟩ := H 0 y rfl
    cases e
    exact .cons _ _ (strs_each (Nat.succ.inj h) fun j v e => H (j + 1) v e)
theorem led_swap {fr tl pts tups : List (Addr × Obj)} {q : Addr × Obj} (h : q ∈ (fr ++ pts) ++ (tl ++ tups)) : q ∈ fr ++ (tl ++ (pts ++ tups)) := by
  simp only [List.mem_append] at h ⊢
  rcases h with (h | h) | h | h
  · exact .inl h
  · exact .inr (.inr (.inl h))
  · exact .inr (.inl h)
  · exact .inr (.inr (.inr h))
theorem led_back {fr tl pts tups : List (Addr × Obj)} {q : Addr × Obj} (h : q ∈ fr ++ (tl ++ (pts ++ tups))) : q ∈ (fr ++ pts) ++ (tl ++ tups) := by
  simp only [List.mem_append] at h ⊢
  rcases h with h | h | h | h
  · exact .inl (.inl h)
  · exact .inr (.inl h)
  · exact .inl (.inr h)
  · exact .inr (.inr h)
theorem off_lst {h : Heap} {H TT D : Addr} {o1 : Obj} {n : Nat} {es : List DictEntry} {r : Addr × Obj} (hr : h.get? r.1 = some r.2) (hT : h.get? TT = some (instObj 235 D)) (hD : h.get? D = some (dictOf es n)) (c : r.2.cls = .type "list") (ne : r.1 ≠ H) : OffTab H TT D r := by
  refine ⟨ne, fun e => ?_, fun e => ?_, .inl fun e => ?_⟩
  · rw [e, hT] at hr; rw [← Option.some.inj hr] at c; simp [instObj] at c
  · rw [e, hD] at hr; rw [← Option.some.inj hr] at c; simp at c
  · rw [c] at e; simp at e
theorem off_pnt {h : Heap} {H TT D : Addr} {vs : Array Value} {k n : Nat} {es : List DictEntry} {r : Addr × Obj} (hr : h.get? r.1 = some r.2) (hH : h.get? H = some (W.listOf vs k)) (hT : h.get? TT = some (instObj 235 D)) (hD : h.get? D = some (dictOf es n)) (c : ∃ x y z ta tb tc, r.2 = paintObj x y z ta tb tc) : OffTab H TT D r := by
  obtain ⟨x, y, z, ta, tb, tc, c⟩ := c
  refine ⟨fun e => ?_, fun e => ?_, fun e => ?_, .inr fun e => ?_⟩
  · rw [e, hH, c] at hr; have := congrArg Obj.cls (Option.some.inj hr); simp [paintObj] at this
  · rw [e, hT, c] at hr; have := congrArg Obj.cls (Option.some.inj hr); simp [paintObj, instObj] at this
  · rw [e, hD, c] at hr; have := congrArg Obj.cls (Option.some.inj hr); simp [paintObj] at this
  · rw [c] at e; exact paint_off e
theorem off_all {g h : Heap} {L H TT D : Addr} {vs : Array Value} {k n : Nat} {es : List DictEntry} {fr pts tups : List (Addr × Obj)} (N : News g L h (fr ++ (H, W.listOf vs k) :: (TT, instObj 235 D) :: (D, dictOf es n) :: (pts ++ tups))) (hf : ∀ r ∈ fr, r.2.cls = .type "list" ∧ r.1 ≠ H) (hp : ∀ q ∈ pts, ∃ x y z ta tb tc, q.2 = paintObj x y z ta tb tc) : ∀ r ∈ fr ++ pts, OffTab H TT D r := by
  intro r hr
  have eH := (N (H, _) (List.mem_append_right _ (.head _))).1
  have eT := (N (TT, _) (List.mem_append_right _ (.tail _ (.head _)))).1
  have eD := (N (D, _) (List.mem_append_right _ (.tail _ (.tail _ (.head _))))).1
  rcases List.mem_append.mp hr with hr | hr
  · exact off_lst (o1 := W.listOf vs k) (N r (List.mem_append_left _ hr)).1 eT eD (hf r hr).1 (hf r hr).2
  · exact off_pnt (N r (List.mem_append_right _ (.tail _ (.tail _ (.tail _ (List.mem_append_left _ hr)))))).1 eH eT eD (hp r hr)
theorem rot_ints {w2 : List Value} {ws : List Nat} {t : Nat} (h : IntsAre w2 ((ws.map Int.ofNat).drop t ++ (ws.map Int.ofNat).take t)) : ∃ wr : List Nat, IntsAre w2 (wr.map Int.ofNat) ∧ wr.Perm ws := by
  refine ⟨ws.drop t ++ ws.take t, by rw [List.map_append, List.map_drop, List.map_take]; exact h, ?_⟩
  have := (List.perm_append_comm (l₁ := ws.drop t) (l₂ := ws.take t))
  rwa [List.take_append_drop] at this
theorem led_skip {a b c d e : Addr × Obj} {l : List (Addr × Obj)} {q : Addr × Obj} (h : q ∈ a :: l) : q ∈ a :: b :: c :: d :: e :: l := by
  rcases List.mem_cons.mp h with rfl | h
  · exact .head _
  · exact .tail _ (.tail _ (.tail _ (.tail _ (.tail _ h))))
theorem fr_turn {g h : Heap} {L fl cl O P TT W D : Addr} {m : PySem.Str → Option Value} {mark : PySem.Str} {tm t : Tok} {i : Int} (F : Fr g L h m) (m1 : m (Str.ofString "faces") = some (.ref fl)) (m2 : m (Str.ofString "cells") = some (.ref cl)) (m3 : m (Str.ofString "mark") = some (.str mark tm)) (m4 : m (Str.ofString "table") = some (.ref TT)) (m5 : m (Str.ofString "waiting") = some (.ref W)) (m6 : m (Str.ofString "turn") = some (.int i t)) (m7 : m (Str.ofString "order") = some (.ref O)) (m8 : m (Str.ofString "paints") = some (.ref P)) (m9 : m (Str.ofString "names") = some (.ref D)) :
    ∃ u i' t', Fr g L h (kstB u [(Str.ofString "faces", .ref fl), (Str.ofString "cells", .ref cl), (Str.ofString "mark", .str mark tm), (Str.ofString "table", .ref TT), (Str.ofString "waiting", .ref W), (Str.ofString "turn", .int i' t'), (Str.ofString "order", .ref O), (Str.ofString "paints", .ref P), (Str.ofString "names", .ref D)]) :=
  ⟨m, i, t, shel_fr F (by simp only [List.forall_mem_cons]; exact ⟨m1, m2, m3, m4, m5, m6, m7, m8, m9, fun _ h => nomatch h⟩)⟩
theorem end_via {M : Model} {A : Around} {E : Value → Shared → Prop} {s : Shared} {c : Sem Value} {Q : Value → Shared → Prop} {g : Heap} {L : Addr} {m : PySem.Str → Option Value} {news : List (Addr × Obj)} (F : Fr g L s.heap m) (N : News g L s.heap news) (P : PySem.Str → Prop)
    (first : wpAny M A c (fun v s' => ∃ e t h' tk', v = Value.str e t ∧ P e ∧ s' = { s with heap := h', toks := tk' } ∧ Fr g L h' m ∧ News g L h' news) E s)
    (rest : ∀ e t h' tk', P e → Fr g L h' m → News g L h' news → Q (.str e t) { s with heap := h', toks := tk' }) : wpAny M A c Q E s :=
  wpAny_mono first (fun v s' hq => by
    obtain ⟨e, t, h', tk', a, b, c, d, f⟩ := hq
    subst a c; exact rest e t h' tk' b d f) fun _ _ e => e
def Phase (d wr : List Nat) (e : PySem.Str) : Prop :=
  (e = Str.ofString "none" ∧ d = []) ∨ (e = Str.ofString "ill" ∧ d ≠ [] ∧ wr.length = 1) ∨ (e = Str.ofString "" ∧ d ≠ [] ∧ wr.length ≠ 1)
theorem led_skip1 {a b : Addr × Obj} {l : List (Addr × Obj)} {q : Addr × Obj} (h : q ∈ a :: l) : q ∈ a :: b :: l := by
  rcases List.mem_cons.mp h with rfl | h
  · exact .head _
  · exact .tail _ (.tail _ h)
/-- what the search for the next face leaves -/
def Ans (fs : List Tri) (d : List Nat) (e : PySem.Str) (i : Nat) (a : Value) (g h : Heap) (L : Addr) (news : List (Addr × Obj)) : Prop :=
  (e = Str.ofString "none" ∧ ∃ t, a = .str (Str.ofString "none") t) ∨ (e = Str.ofString "ill" ∧ ∃ t, a = .str (Str.ofString "ill") t) ∨
  (e = Str.ofString "" ∧ Fits (tabE fs d) (fAt fs i) ∧ ∃ l ta tb, a = .ref l ∧ h.get? l = some ({ cls := .type "tuple", data := .seq #[.str ⟨#[(fAt fs i).1, (fAt fs i).2.1, (fAt fs i).2.2]⟩ ta, .int (i : Int) tb] } : Obj) ∧ l ≠ L ∧ g.get? l = none ∧ LCg.Off1 l news)
theorem for_via {M : Model} {A A₀ : Around} {E : Value → Shared → Prop} {s : Shared} {c : Sem Flow} {Q : Flow → Shared → Prop} {base g : Heap} {outer : List Env} {L : Addr} {m : PySem.Str → Option Value} {news : List (Addr × Obj)} (F : Fr g L s.heap m) (N : News g L s.heap news) (fs : List Tri) (d wr : List Nat) (e : PySem.Str)
    (first : wpAny M A c (fun f s' => f = .next ∧ ∃ i a g2 h2 tk2 m2 ti, s' = { s with heap := h2, toks := tk2 } ∧ KtsTurn (outer.filterMap (·.frame)) g g2 ∧ Below A₀ base outer g2 ∧ Fr g2 L h2 m2 ∧ News g2 L h2 news ∧ (∀ y, y ≠ Str.ofString "answer" → y ≠ Str.ofString "number" → m2 y = m y) ∧ m2 (Str.ofString "answer") = some a ∧ m2 (Str.ofString "number") = some (.int ((i : Nat) : Int) ti) ∧ i ∈ wr ∧ Ans fs d e i a g2 h2 L news) E s)
    (rest : ∀ (i : Nat) a g2 h2 tk2 ti, KtsTurn (outer.filterMap (·.frame)) g g2 → Below A₀ base outer g2 → Fr g2 L h2 (fun y => if y = Str.ofString "answer" then some a else if y = Str.ofString "number" then some (.int (i : Int) ti) else m y) → News g2 L h2 news → i ∈ wr → Ans fs d e i a g2 h2 L news → Q .next { s with heap := h2, toks := tk2 }) : wpAny M A c Q E s :=
  wpAny_mono first (fun f s' hq => by
    obtain ⟨ef, i, a, g2, h2, tk2, m2, ti, e1, e2, e3, e4, e5, e6, e7, e8, e9, e10⟩ := hq
    subst ef e1
    refine rest i a g2 h2 tk2 ti e2 e3 ?_ e5 e9 e10
    have em : (fun y => if y = Str.ofString "answer" then some a else if y = Str.ofString "number" then some (.int (i : Int) ti) else m y) = m2 := by
      funext y
      by_cases h1 : y = Str.ofString "answer"
      · rw [if_pos h1, h1, e7]
      · by_cases h2 : y = Str.ofString "number"
        · rw [if_neg h1, if_pos h2, h2, e8]
        · rw [if_neg h1, if_neg h2, e6 y h1 h2]
    rw [em]; exact e4) fun _ _ e => e
/-- the search's state at its turn i -/
def ForS (A₀ : Around) (base : Heap) (outer : List Env) (g : Heap) (L : Addr) (m : PySem.Str → Option Value) (news : List (Addr × Obj)) (I Wt : Addr) (fs : List Tri) (d wr : List Nat) (e : PySem.Str) (s₀ : Shared) (i : Nat) (s : Shared) : Prop :=
  ∃ g2 h2 tk2 m2 oI, s = { s₀ with heap := h2, toks := tk2 } ∧ KtsTurn (outer.filterMap (·.frame)) g g2 ∧ Below A₀ base outer g2 ∧ Fr g2 L h2 m2 ∧ News g2 L h2 ((I, oI) :: news) ∧ (∀ p ∈ news, p.1 ≠ I) ∧ oI.cls = .type "list_iterator" ∧ oI.data = .fields #[.ref Wt, .int (i : Int) 0] ∧
    (∀ y, y ≠ Str.ofString "answer" → y ≠ Str.ofString "number" → m2 y = m y) ∧ (∀ j, j < i → ∀ x, wr[j]? = some x → ¬ Fits (tabE fs d) (fAt fs x)) ∧ (e = Str.ofString "" ∨ i = 0)
section
variable {A₀ : Around} {base g : Heap} {outer : List Env} {L : Addr} {m : PySem.Str → Option Value} {news : List (Addr × Obj)} {I Wt : Addr} {fs : List Tri} {d wr : List Nat} {e : PySem.Str} {s₀ s : Shared} {i : Nat}
theorem forS_start (B : Below A₀ base outer g) (F : Fr g L s.heap m) (N : News g L s.heap news) : ForS A₀ base outer g L m news s.heap.objs.size Wt fs d wr e s 0 { s with heap := s.heap.push { cls := .type "list_iterator", data := .fields #[.ref Wt, .int 0 0] } } := by
  have up : ∀ b o, s.heap.get? b = some o → (s.heap.push { cls := .type "list_iterator", data := .fields #[.ref Wt, .int 0 0] }).get? b = some o := fun b o e => Heap.get?_push_of_some _ e
  refine ⟨g, _, _, m, { cls := .type "list_iterator", data := .fields #[.ref Wt, .int 0 0] }, rfl, KtsTurn.refl, B, F.grownK up, fun p hp => ?_, fun p hp => Nat.ne_of_lt (Heap.lt_size (N p hp).1), rfl, rfl, fun _ _ _ => rfl, (fun j hj => absurd hj (Nat.not_lt_zero _)), .inr rfl⟩
  rcases List.mem_cons.mp hp with rfl | hp
  · refine ⟨Heap.get?_push_size _ rfl, Nat.ne_of_gt F.ns.lt, ?_⟩
    cases q : g.get? s.heap.objs.size with
    | none => rfl
    | some o => exact absurd (Heap.lt_size (F.keep _ _ q)) (Nat.lt_irrefl _)
  · exact ⟨up _ _ (N p hp).1, (N p hp).2⟩
theorem forS_here {vs : List Value} {k : Nat} (hw : (Wt, W.listOf vs.toArray k) ∈ news) (h : ForS A₀ base outer g L m news I Wt fs d wr e s₀ i s) : s.heap.IsListIter I Wt i ∧ s.heap.IsList Wt vs.toArray := by
  obtain ⟨g2, h2, tk2, m2, oI, rfl, _, _, _, N, _, hc, hd, _⟩ := h
  exact ⟨⟨oI, (N _ (.head _)).1, hc, hd⟩, ⟨_, (N _ (.tail _ hw)).1, rfl, _, rfl⟩⟩
theorem forS_next {h' : Heap} (h : ForS A₀ base outer g L m news I Wt fs d wr e s₀ i s) (k1 : h'.IsListIter I Wt (i + 1)) (k2 : Heap.SameBut I s.heap h') :
    ∃ g2 tk2 m2 oI, s = { s₀ with heap := s.heap, toks := tk2 } ∧ KtsTurn (outer.filterMap (·.frame)) g g2 ∧ Below A₀ base outer g2 ∧ Fr g2 L h' m2 ∧ News g2 L h' ((I, oI) :: news) ∧ (∀ p ∈ news, p.1 ≠ I) ∧ oI.cls = .type "list_iterator" ∧ oI.data = .fields #[.ref Wt, .int ((i + 1 : Nat) : Int) 0] ∧
    (∀ y, y ≠ Str.ofString "answer" → y ≠ Str.ofString "number" → m2 y = m y) ∧ (∀ j, j < i → ∀ x, wr[j]? = some x → ¬ Fits (tabE fs d) (fAt fs x)) ∧ (e = Str.ofString "" ∨ i = 0) := by
  obtain ⟨g2, h2, tk2, m2, oI, rfl, a1, a2, F, N, off, hc, hd, a3, a4, a5⟩ := h
  obtain ⟨oI', ho', hc', hd'⟩ := k1
  have nI := N _ (.head _)
  refine ⟨g2, tk2, m2, oI', rfl, a1, a2, F.change k2 nI.2.1 nI.2.2, fun p hp => ?_, off, hc', hd', a3, a4, a5⟩
  rcases List.mem_cons.mp hp with rfl | hp
  · exact ⟨ho', nI.2⟩
  · exact ⟨k2.extBut _ _ (off p hp) (N p (.tail _ hp)).1, (N p (.tail _ hp)).2⟩
end
theorem ints_at {vs : List Value} {xs : List Nat} (h : IntsAre vs (xs.map Int.ofNat)) {i : Nat} {v : Value} (e : vs[i]? = some v) : ∃ (x : Nat) (t : Tok), v = .int (x : Int) t ∧ xs[i]? = some x := by
  have go : ∀ {vs : List Value} {ns : List Int}, IntsAre vs ns → ∀ {i : Nat} {v : Value}, vs[i]? = some v → ∃ (n : Int) (t : Tok), v = .int n t ∧ ns[i]? = some n := by
    intro vs ns h
    induction h with
    | nil => intro i v e; cases i <;> cases e
    | cons x t r ih =>
      intro i v e
      cases i with
      | zero => cases e; exact ⟨_, _, rfl, rfl⟩
      | succ i => exact ih e
  obtain ⟨n, t, rfl, hn⟩ := go h e
  rw [List.getElem?_map] at hn
  cases hx : xs[i]? with
  | none => rw [hx] at hn; cases hn
  | some x => rw [hx] at hn; cases hn; exact ⟨x, t, rfl, rfl⟩
theorem phase_none {d wr : List Nat} (h : decide (d.map Int.ofNat = []) = true) : Phase d wr (Str.ofString "none") := .inl ⟨rfl, by simpa using h⟩
theorem phase_ill {d wr : List Nat} (h : decide (d.map Int.ofNat = []) = false) (h2 : (((wr.map Int.ofNat).length : Nat) : Int) = 1) : Phase d wr (Str.ofString "ill") := .inr (.inl ⟨rfl, by simpa using h, by rw [List.length_map] at h2; omega⟩)
theorem phase_go {d wr : List Nat} (h : decide (d.map Int.ofNat = []) = false) (h2 : (((wr.map Int.ofNat).length : Nat) : Int) ≠ 1) : Phase d wr (Str.ofString "") := .inr (.inr ⟨rfl, by simpa using h, by rw [List.length_map] at h2; omega⟩)
theorem if_via {M : Model} {A : Around} {E : Value → Shared → Prop} {s : Shared} {c : Sem Flow} {Q : Flow → Shared → Prop} {g : Heap} {L : Addr} {m : PySem.Str → Option Value} {news : List (Addr × Obj)} (F : Fr g L s.heap m) (N : News g L s.heap news)
    (first : wpAny M A c (fun f s' => f = .next ∧ ∃ h' tk', s' = { s with heap := h', toks := tk' } ∧ Fr g L h' m ∧ News g L h' news) E s)
    (rest : ∀ h' tk', Fr g L h' m → News g L h' news → Q .next { s with heap := h', toks := tk' }) : wpAny M A c Q E s :=
  wpAny_mono first (fun f s' hq => by
    obtain ⟨a, h', tk', b, c, d⟩ := hq
    subst a b; exact rest h' tk' c d) fun _ _ e => e
theorem face_at {fv : List Value} {fs : List Tri} (h : StrsAre fv (fs.map str3)) {i : Nat} (hi : i < fs.length) : ∃ t, fv[((i : Nat) : Int).toNat]? = some (.str ⟨#[(fAt fs i).1, (fAt fs i).2.1, (fAt fs i).2.2]⟩ t) := by
  have h1 : i < fv.length := by rw [h.length, List.length_map]; exact hi
  obtain ⟨x, t, e1, e2⟩ := strs_at h (List.getElem?_eq_getElem h1)
  refine ⟨t, ?_⟩
  rw [List.getElem?_map, List.getElem?_eq_getElem hi] at e2
  cases e2
  rw [Int.toNat_natCast, List.getElem?_eq_getElem h1, e1, fAt, List.getD_eq_getElem?_getD, List.getElem?_eq_getElem hi]
  rfl
theorem fr_loop {g h : Heap} {L : Addr} {m m2 : PySem.Str → Option Value} (F : Fr g L h m2) (hm : ∀ y, y ≠ Str.ofString "answer" → y ≠ Str.ofString "number" → m2 y = m y) : Fr g L h (fun y => if y = Str.ofString "answer" then m2 y else if y = Str.ofString "number" then m2 y else m y) := by
  have em : (fun y => if y = Str.ofString "answer" then m2 y else if y = Str.ofString "number" then m2 y else m y) = m2 := by
    funext y
    by_cases q1 : y = Str.ofString "answer"
    · rw [if_pos q1]
    · by_cases q2 : y = Str.ofString "number"
      · rw [if_neg q1, if_pos q2]
      · rw [if_neg q1, if_neg q2, hm y q1 q2]
  rw [em]; exact F
theorem ne_cls {h : Heap} {a b : Addr} {oa ob : Obj} (ha : h.get? a = some oa) (hb : h.get? b = some ob) (c : oa.cls ≠ ob.cls) : a ≠ b := fun e => by
  rw [e, hb] at ha; exact c (congrArg Obj.cls (Option.some.inj ha)).symm
theorem off_tail {g h : Heap} {L a TT D : Addr} {o : Obj} {es : List DictEntry} {n k : Nat} {vs : List Value} {ents : List Ent} {led pts tups : List (Addr × Obj)} (N : News g L h led) (ha : (a, o) ∈ led) (hc : o.cls = .type "list") (hT : (TT, instObj 235 D) ∈ led) (hD : (D, dictOf es n) ∈ led) (hs : ∀ q ∈ pts ++ tups, q ∈ led)
    (hp : ∀ q ∈ pts, ∃ x y z ta tb tc, q.2 = paintObj x y z ta tb tc) (ok : TabOk tups vs ents k) : ∀ q ∈ (TT, instObj 235 D) :: (D, dictOf es n) :: (pts ++ tups), q.1 ≠ a := by
  intro q hq
  have e := (N _ ha).1
  rcases List.mem_cons.mp hq with rfl | hq
  · exact ne_cls (N _ hT).1 e (by rw [hc]; simp [instObj])
  · rcases List.mem_cons.mp hq with rfl | hq
    · exact ne_cls (N _ hD).1 e (by rw [hc]; simp)
    · refine ne_cls (N _ (hs q hq)).1 e ?_
      rw [hc]
      rcases List.mem_append.mp hq with hq | hq
      · obtain ⟨x, y, z, ta, tb, tc, e⟩ := hp q hq
        rw [e]; simp [paintObj]
      · rw [ok.tuple q hq]; simp
theorem same_pair {x : PySem.Str} {i : Int} : (!(PyData.tuple [PyData.str x, PyData.int i]).eqv (PyData.tuple [PyData.str x, PyData.int i])) = false := by
  simp [PyData.eqv, PyData.eqvAll]
theorem low_lt : ∀ x ∈ low, x < 0x110000 := by decide
theorem strOk3 {f : Tri} (h : f.1 ∈ low ∧ f.2.1 ∈ low ∧ f.2.2 ∈ low) : PyData.strOk (⟨#[f.1, f.2.1, f.2.2]⟩ : PySem.Str) = true := by
  simp [PyData.strOk, low_lt _ h.1, low_lt _ h.2.1, low_lt _ h.2.2]
theorem shaped_pair {x : PySem.Str} {i : Int} (h : PyData.strOk x = true) : SeqAt.shaped (PyData.tuple [PyData.str x, PyData.int i]) = true := by
  simp [SeqAt.shaped, PyData.canLay0, PyData.canLayAll0, PyData.depth, PyData.depthAll, h]
theorem k2_lo (z : Int) : 0 ≤ 2 + z.fmod 3 := by have := Int.fmod_nonneg_of_pos z (b := 3) (by decide); omega
theorem k2_hi (z : Int) : 2 + z.fmod 3 < 5 := by have := Int.fmod_lt_of_pos z (b := 3) (by decide); omega
theorem fAt_mem {fs : List Tri} {i : Nat} (h : i < fs.length) : fAt fs i ∈ fs := by
  rw [fAt, List.getD_eq_getElem?_getD, List.getElem?_eq_getElem h]; exact List.getElem_mem h
theorem kf_ints_cons {n : Int} {t : Tok} {vs : List Value} (h : kf_ints vs = true) : kf_ints (.int n t :: vs) = true := h
theorem ints_find {i : Nat} : ∀ {xs : List Nat} {vs : List Value}, IntsAre vs (xs.map Int.ofNat) → i ∈ xs → kf_ints vs = true ∧ ∃ j q, kf_at (i : Int) vs = some j ∧ ki_delL vs j = some q ∧ IntsAre q ((xs.erase i).map Int.ofNat)
  | [], _, _, h => nomatch h
  | x :: xs, _, .cons _ t r, h => by
    have hk : ∀ {xs : List Nat} {vs : List Value}, IntsAre vs (xs.map Int.ofNat) → kf_ints vs = true := by
      intro xs
      induction xs with
      | nil => intro vs h; cases h; rfl
      | cons x xs ih => intro vs h; cases h with | cons _ t r => exact kf_ints_cons (ih r)
    by_cases e : x = i
    · subst e
      refine ⟨kf_ints_cons (hk r), 0, _, ?_, rfl, ?_⟩
      · show cond (isInt (x : Int) (.int (Int.ofNat x) t)) _ _ = _
        rw [show isInt (x : Int) (.int (Int.ofNat x) t) = true by simp [isInt]]; rfl
      · rw [List.erase_cons_head]; exact r
    · obtain ⟨_, j, q, e1, e2, e3⟩ := ints_find r ((List.mem_cons.mp h).resolve_left (Ne.symm e))
      refine ⟨kf_ints_cons (hk r), j + 1, Value.int (Int.ofNat x) t :: q, ?_, ?_, ?_⟩
      rotate_left 2
      · rw [List.erase_cons_tail (by simpa using e), List.map_cons]
        exact .cons _ t e3
      · show cond (isInt (i : Int) (.int (Int.ofNat x) t)) _ _ = _
        rw [show isInt (i : Int) (.int (Int.ofNat x) t) = false by simp [isInt]; omega, e1]; rfl
      · show (match ki_delL _ j with | some q => some (Value.int (Int.ofNat x) t :: q) | none => none) = _
        rw [e2]
theorem range_ints (n : Nat) : rangeKs 0 ((n : Int) - 0).toNat = (List.range n).map Int.ofNat := by
  have e : ((n : Int) - 0).toNat = n := by omega
  rw [rangeKs, e]
  exact List.map_congr_left fun i _ => by simp
theorem shel_while {prog : Program} {w : World} {A A₀ : Around} {E : Value → Shared → Prop} {s : Shared} {env : Env} {Q : Flow → Shared → Prop} {test : PySem.Expr} {body : List PySem.Stmt} {pos : Pos} {base g : Heap} {outer : List Env} {L P O Wt H TT D fl cl : Addr} {m : PySem.Str → Option Value} {pn on wn hn : Nat} {wv : List Value} {hsh : Int} {t tt tm : Tok} {mark : PySem.Str} {turn : Int} {fs : List Tri}
    (B : Below A₀ base outer g) (F : Fr g L s.heap m) (N : News g L s.heap [(P, W.listOf #[] pn), (O, W.listOf #[] on), (Wt, W.listOf wv.toArray wn), (H, W.listOf #[] hn), (TT, instObj 235 D), (D, dictOf [⟨hsh, .str (Str.ofString "_headers") t, .ref H⟩] 1)])
    (hI : IntsAre wv (rangeKs 0 ((fs.length : Int) - 0).toNat)) (ne : Wt ≠ O ∧ Wt ≠ P ∧ Wt ≠ H ∧ O ≠ P ∧ O ≠ H ∧ P ≠ H)
    (m1 : m (Str.ofString "faces") = some (.ref fl)) (m2 : m (Str.ofString "cells") = some (.ref cl)) (m3 : m (Str.ofString "mark") = some (.str mark tm)) (m4 : m (Str.ofString "table") = some (.ref TT)) (m5 : m (Str.ofString "waiting") = some (.ref Wt)) (m6 : m (Str.ofString "turn") = some (.int turn tt)) (m7 : m (Str.ofString "order") = some (.ref O)) (m8 : m (Str.ofString "paints") = some (.ref P))
    (hE : PassesOwn (model prog w) A env E)
    (go : ∀ P O TT H D t n s', ShelS A₀ base outer g L fs fl cl P O TT H D hsh t mark s n s' → ∀ K : Flow → Shared → Prop, (∀ f s₂, WEnd (ShelS A₀ base outer g L fs fl cl P O TT H D hsh t mark s) Q n f s₂ → K f s₂) → wpAny (model prog w) A (isTrue test env (eval test env)) (fun b s₂ => if b = true then wpAny (model prog w) A (execs body env) K E s₂ else Q .next s₂) E s') :
    wpAny (model prog w) A (exec (.While test body [] pos) env) Q E s := by
  refine while_own (ShelS A₀ base outer g L fs fl cl P O TT H D hsh t mark s) (n₀ := fs.length) ?_ (fun n s' h => go P O TT H D t n s' h _ fun _ _ q => q) hE
  refine ⟨g, s.heap, s.toks, m, Wt, [], List.range fs.length, wv, [], [], [], wn, on, pn, hn, [], [], [], turn, tt, tm, rfl, KtsTurn.refl, B, shel_fr F ?_, fun q hq => N q ?_, ne, ?_, by simp⟩
  · simp only [List.forall_mem_cons]
    exact ⟨m1, m2, m3, m4, m5, m6, m7, m8, fun _ h => nomatch h⟩
  · rcases List.mem_cons.mp hq with rfl | hq
    · exact .tail _ (.tail _ (.head _))
    · rcases List.mem_cons.mp hq with rfl | hq
      · exact .tail _ (.head _)
      · rcases List.mem_cons.mp hq with rfl | hq
        · exact .head _
        · exact .tail _ (.tail _ (.tail _ hq))
  · exact {
      wv := by rw [← range_ints]; exact hI
      ov := .nil
      sh := .nil
      wnd := List.nodup_range
      wmem := fun i => by simp
      tab := ⟨.nil, (fun _ h => nomatch h), (fun _ h => nomatch h), Nat.zero_le _, (fun _ h => nomatch h)⟩
      names := rfl
      paints := ⟨rfl, (fun _ h => nomatch h), fun a i b e => by cases a <;> cases e⟩ }
theorem ints_snoc {vs : List Value} {xs : List Nat} (h : IntsAre vs (xs.map Int.ofNat)) (i : Nat) (t : Tok) : IntsAre (vs ++ [.int (i : Int) t]) ((xs ++ [i]).map Int.ofNat) := by
  have go : ∀ {vs : List Value} {ns : List Int}, IntsAre vs ns → ∀ n : Int, IntsAre (vs ++ [.int n t]) (ns ++ [n]) := by
    intro vs ns h n
    induction h with
    | nil => exact .cons _ _ .nil
    | cons x t' r ih => exact .cons _ _ ih
  rw [List.map_append]
  exact go h i
theorem tabE_snoc (fs : List Tri) (d : List Nat) (i : Nat) : tabE fs (d ++ [i]) = layE (tabE fs d) (fAt fs i) := by
  unfold tabE; rw [List.foldl_append]; rfl
theorem paints_snoc {fs : List Tri} {pts : List (Addr × Obj)} {pv : List Value} {d : List Nat} (h : PaintsAre fs pts pv d) (i : Nat) (lp : Addr) (ta tb tc : Tok) (hpos : 0 < tb ∧ 0 < tc) :
    PaintsAre fs ((lp, paintObj (bit0 (tabE fs d) (fAt fs i)) (bit1 (tabE fs d) (fAt fs i)) (bit2 (tabE fs d) (fAt fs i)) ta tb tc) :: pts) (pv ++ [.ref lp]) (d ++ [i]) := by
  obtain ⟨h1, h2, h3⟩ := h
  refine ⟨by simp [h1], fun q hq => ?_, fun a j b e => ?_⟩
  · rcases List.mem_cons.mp hq with rfl | hq
    · exact ⟨_, _, _, _, _, _, rfl⟩
    · exact h2 q hq
  · rcases List.append_eq_append_iff.mp e with ⟨c, e1, e2⟩ | ⟨c, e1, e2⟩
    · cases c with
      | nil =>
        rw [List.append_nil] at e1
        rw [List.nil_append] at e2
        cases e2
        subst e1
        refine ⟨lp, ta, tb, tc, hpos, ?_, .head _⟩
        rw [← h1, List.getElem?_append_right (Nat.le_refl _), Nat.sub_self]; rfl
      | cons x c =>
        have := congrArg List.length e2
        simp at this
    · cases c with
      | nil =>
        rw [List.append_nil] at e1
        rw [List.nil_append] at e2
        cases e2
        subst e1
        refine ⟨lp, ta, tb, tc, hpos, ?_, .head _⟩
        rw [← h1, List.getElem?_append_right (Nat.le_refl _), Nat.sub_self]; rfl
      | cons x c =>
        obtain ⟨rfl, e3⟩ := List.cons.inj e2
        obtain ⟨p, t1, t2, t3, e0, e4, e5⟩ := h3 a j c e1
        refine ⟨p, t1, t2, t3, e0, ?_, .tail _ e5⟩
        rw [List.getElem?_append_left, e4]
        rw [h1, e1, List.length_append, List.length_cons]; omega
theorem ans_cond {fs : List Tri} {d ws wr : List Nat} {wv ov pv vs : List Value} {pts tups : List (Addr × Obj)} {ents : List Ent} {e : PySem.Str} {i : Nat} {a : Value} {g h : Heap} {L : Addr} {news : List (Addr × Obj)} (ok : ShelOk fs d ws wv ov pv vs pts tups ents) (hp : wr.Perm ws) (hph : Phase d wr e) (ha : Ans fs d e i a g h L news) : d = [] ∨ d.length + 1 = fs.length ∨ Fits (tabE fs d) (fAt fs i) := by
  rcases hph with ⟨_, h⟩ | ⟨_, _, h⟩ | ⟨rfl, _⟩
  · exact .inl h
  · right; left
    have := ok.full
    have := hp.length_eq
    omega
  · rcases ha with ⟨h, _⟩ | ⟨h, _⟩ | ⟨_, h, _⟩
    · exact absurd h (by decide)
    · exact absurd h (by decide)
    · exact .inr (.inr h)
theorem shel_ok {fs : List Tri} {d ws wr : List Nat} {wv rq ov pv vs ys : List Value} {pts tups tups' : List (Addr × Obj)} {ents : List Ent} {i : Nat} {great : Bool} {lp : Addr} {ti ta tb tc : Tok} (hpos : 0 < tb ∧ 0 < tc) (play : Play fs) (ok : ShelOk fs d ws wv ov pv vs pts tups ents) (hp : wr.Perm ws) (hi : i ∈ wr) (hc : d = [] ∨ d.length + 1 = fs.length ∨ Fits (tabE fs d) (fAt fs i))
    (hr : IntsAre rq ((wr.erase i).map Int.ofNat)) (ok' : TabOk tups' ys (lay3 ((tabE fs d).map str2) great (fAt fs i).1 (fAt fs i).2.1 (fAt fs i).2.2 ents) (3 * d.length + 3)) :
    ShelOk fs (d ++ [i]) (wr.erase i) rq (ov ++ [.int (i : Int) ti]) (pv ++ [.ref lp]) ys ((lp, paintObj (bit0 (tabE fs d) (fAt fs i)) (bit1 (tabE fs d) (fAt fs i)) (bit2 (tabE fs d) (fAt fs i)) ta tb tc) :: pts) tups' (lay3 ((tabE fs d).map str2) great (fAt fs i).1 (fAt fs i).2.1 (fAt fs i).2.2 ents) := by
  have hin := (ok.wmem i).mp (hp.mem_iff.mp hi)
  have hnd : wr.Nodup := hp.nodup_iff.mpr ok.wnd
  exact {
    wv := hr
    ov := ints_snoc ok.ov i ti
    sh := .snoc ok.sh hin.1 hin.2 hc
    wnd := hnd.erase i
    wmem := fun j => by
      rw [hnd.mem_erase_iff, hp.mem_iff, ok.wmem j, List.mem_append, List.mem_singleton]
      exact ⟨fun ⟨a, b, c⟩ => ⟨b, fun q => q.elim c a⟩, fun ⟨b, c⟩ => ⟨fun q => c (.inr q), b, fun q => c (.inl q)⟩⟩
    tab := by rw [List.length_append, List.length_singleton, Nat.mul_add]; exact ok'
    names := by rw [tabE_snoc]; exact names_lay (play.low _ (fAt_mem hin.1)) ok.names
    paints := paints_snoc ok.paints i lp ta tb tc hpos }
theorem shel_end {A₀ : Around} {base g g2 h : Heap} {outer : List Env} {L : Addr} {m : PySem.Str → Option Value} {fs : List Tri} {fl cl P O TT H D Wt : Addr} {hsh : Int} {t tt tm : Tok} {mark : PySem.Str} {s₀ : Shared} {d ws : List Nat} {wv ov pv vs : List Value} {wn on pn hn tk : Nat} {r : Addr × Obj} {pts tups : List (Addr × Obj)} {ents : List Ent} {turn : Int}
    (KT : KtsTurn (outer.filterMap (·.frame)) g g2) (B : Below A₀ base outer g2) (F : Fr g2 L h m) (N : News g2 L h (r :: (Wt, W.listOf wv.toArray wn) :: (O, W.listOf ov.toArray on) :: (P, W.listOf pv.toArray pn) :: (H, W.listOf vs.toArray hn) :: (TT, instObj 235 D) :: (D, dictOf [⟨hsh, .str (Str.ofString "_headers") t, .ref H⟩] 1) :: (pts ++ tups)))
    (ne : Wt ≠ O ∧ Wt ≠ P ∧ Wt ≠ H ∧ O ≠ P ∧ O ≠ H ∧ P ≠ H)
    (m1 : m (Str.ofString "faces") = some (.ref fl)) (m2 : m (Str.ofString "cells") = some (.ref cl)) (m3 : m (Str.ofString "mark") = some (.str mark tm)) (m4 : m (Str.ofString "table") = some (.ref TT)) (m5 : m (Str.ofString "waiting") = some (.ref Wt)) (m6 : m (Str.ofString "turn") = some (.int turn tt)) (m7 : m (Str.ofString "order") = some (.ref O)) (m8 : m (Str.ofString "paints") = some (.ref P))
    (ok : ShelOk fs d ws wv ov pv vs (r :: pts) tups ents) : ShelS A₀ base outer g L fs fl cl P O TT H D hsh t mark s₀ ws.length { s₀ with heap := h, toks := tk } := by
  refine ⟨g2, h, tk, m, Wt, d, ws, wv, ov, pv, vs, wn, on, pn, hn, r :: pts, tups, ents, turn, tt, tm, rfl, KT, B, shel_fr F ?_, fun q hq => N q ?_, ne, ok, rfl⟩
  · simp only [List.forall_mem_cons]
    exact ⟨m1, m2, m3, m4, m5, m6, m7, m8, fun _ h => nomatch h⟩
  · simp only [List.mem_cons, List.mem_append] at hq ⊢
    rcases hq with h | h | h | h | h | h | (h | h) | h <;> simp [h]
section
variable {A₀ : Around} {base g g3 h : Heap} {outer : List Env} {L : Addr} {m m3 : PySem.Str → Option Value} {news : List (Addr × Obj)} {I Wt : Addr} {oI : Obj} {fs : List Tri} {d wr : List Nat} {e : PySem.Str} {s₀ : Shared} {i x tk k : Nat} {a : Value} {tx : Tok}
theorem for_done {S : Nat → Shared → Prop} (KT : KtsTurn (outer.filterMap (·.frame)) g g3) (B : Below A₀ base outer g3) (F : Fr g3 L h m3) (N : News g3 L h ((I, oI) :: news))
    (hm : ∀ y, y ≠ Str.ofString "answer" → y ≠ Str.ofString "number" → m3 y = m y) (ha : m3 (Str.ofString "answer") = some a) (hn : m3 (Str.ofString "number") = some (.int (x : Int) tx)) (hx : x ∈ wr) (hans : Ans fs d e x a g3 h L news) :
    FEnd S (fun f s' => f = .next ∧ ∃ i a g2 h2 tk2 m2 ti, s' = { s₀ with heap := h2, toks := tk2 } ∧ KtsTurn (outer.filterMap (·.frame)) g g2 ∧ Below A₀ base outer g2 ∧ Fr g2 L h2 m2 ∧ News g2 L h2 news ∧ (∀ y, y ≠ Str.ofString "answer" → y ≠ Str.ofString "number" → m2 y = m y) ∧ m2 (Str.ofString "answer") = some a ∧ m2 (Str.ofString "number") = some (.int ((i : Nat) : Int) ti) ∧ i ∈ wr ∧ Ans fs d e i a g2 h2 L news) k .brk { s₀ with heap := h, toks := tk } :=
  ⟨rfl, x, a, g3, h, tk, m3, tx, rfl, KT, B, F, fun q hq => N q (.tail _ hq), hm, ha, hn, hx, hans⟩
theorem for_next {Q : Flow → Shared → Prop} (KT : KtsTurn (outer.filterMap (·.frame)) g g3) (B : Below A₀ base outer g3) (F : Fr g3 L h m3) (N : News g3 L h ((I, oI) :: news)) (off : ∀ p ∈ news, p.1 ≠ I) (hc : oI.cls = .type "list_iterator") (hdd : oI.data = .fields #[.ref Wt, .int ((i + 1 : Nat) : Int) 0])
    (hm : ∀ y, y ≠ Str.ofString "answer" → y ≠ Str.ofString "number" → m3 y = m y) (hnf : ∀ j, j < i → ∀ x, wr[j]? = some x → ¬ Fits (tabE fs d) (fAt fs x)) (hx : wr[i]? = some x) (nf : ¬ Fits (tabE fs d) (fAt fs x)) :
    FEnd (ForS A₀ base outer g L m news I Wt fs d wr (Str.ofString "") s₀) Q (i + 1) .next { s₀ with heap := h, toks := tk } :=
  ⟨g3, h, tk, m3, oI, rfl, KT, B, F, N, off, hc, hdd, hm, fun j hj y hy => by
    rcases Nat.lt_or_ge j i with q | q
    · exact hnf j q y hy
    · have : j = i := by omega
      subst this
      rw [hx] at hy; cases hy; exact nf, .inl rfl⟩
end
theorem str2_sum (es : List (Nat × Nat)) : ((es.map str2).map (·.length)).sum = 2 * es.length := by
  induction es with
  | nil => rfl
  | cons e es ih => rw [List.map_cons, List.map_cons, List.sum_cons, ih, List.length_cons]; show 2 + _ = _; omega
theorem shE_nil (f : Tri) : shE [] f = 0 := by simp [shE, bit0, bit1, bit2, cnt3]
theorem fin_go {fs : List Tri} {d ws wr : List Nat} {wv ov pv vs w2 : List Value} {pts tups : List (Addr × Obj)} {ents : List Ent} {e : PySem.Str} (play : Play fs) (ok : ShelOk fs d ws wv ov pv vs pts tups ents) (hp : wr.Perm ws) (hne : ws ≠ []) (hph : Phase d wr e) (hl : w2.length = wr.length)
    (hnf : ∀ j, j < w2.length → ∀ x, wr[j]? = some x → ¬ Fits (tabE fs d) (fAt fs x)) (he : e = Str.ofString "" ∨ w2.length = 0) : False := by
  have hpos : 0 < ws.length := List.length_pos_iff.mpr hne
  have hpl := hp.length_eq
  rcases he with rfl | he
  · rcases hph with ⟨h, _⟩ | ⟨h, _⟩ | ⟨_, hd, hw⟩
    · exact absurd h (by decide)
    · exact absurd h (by decide)
    · obtain ⟨i, hi, hid, hf⟩ := play.go ok.sh hd (by have := ok.full; omega)
      have hw : i ∈ wr := hp.mem_iff.mpr ((ok.wmem i).mpr ⟨hi, hid⟩)
      obtain ⟨j, hj, e⟩ := List.getElem_of_mem hw
      exact hnf j (by omega) i (by rw [List.getElem?_eq_getElem hj, e]) hf
  · omega
theorem pair_lay {x : PySem.Str} {i : Int} (h : PyData.strOk x = true) : (PyData.tuple [PyData.str x, PyData.int i]).canLay0 = true := by
  simp [PyData.canLay0, PyData.canLayAll0, h]
theorem words_lay : PyData.canLayAll0 [PyData.str (Str.ofString "none"), PyData.str (Str.ofString "ill")] = true := by decide +kernel
theorem pair_notin {x : PySem.Str} {i : Int} : (!([PyData.str (Str.ofString "none"), PyData.str (Str.ofString "ill")].any fun y => PyData.eqv y (PyData.tuple [PyData.str x, PyData.int i]))) = true := by
  simp [PyData.eqv]
theorem words_depth : PyData.depthAll [PyData.str (Str.ofString "none"), PyData.str (Str.ofString "ill")] ≤ 2 := by decide +kernel
end
-- part: MShel
section
theorem off_MShel : True := by w_top off; exact trivial
local macro_rules | `(tactic| k_room) => `(tactic| ktr_room)
local macro_rules | `(tactic| walk_at "exec While Compare") => `(tactic| (k_here; refine stop_intro ?_))
local macro_rules | `(tactic| walk_at "exec While Compare cons nil") => `(tactic| (k_here; refine stop_intro ?_))
local macro_rules | `(tactic| walk_at "call builtin:len") => `(tactic| (k_here; (with_reducible show wpAny _ _ (call (Value.builtin "len") [Value.ref _]) _ _ _); first | refine len_faces (n := List.length _) (Fr.lst (by k_asm) (by assumption)) (by assumption) (by assumption) ?_ | refine len_faces (n := List.length _) (by is_list) (by assumption) (by assumption) ?_))
local macro_rules | `(tactic| walk_at "compareOp NotEq ref ref") => `(tactic| (k_here; (with_reducible show wpAny _ _ (compareOp CmpOp.NotEq (Value.ref _) (Value.ref _)) _ _ _); refine ke_ne_ints (by is_list) (by is_list) (by first | exact IntsAre.nil | assumption) (by first | exact IntsAre.nil | assumption) (by ktr_units) ?_))
local macro_rules | `(tactic| walk_at "compareOp Eq ref ref") => `(tactic| (k_here; (with_reducible show wpAny _ _ (compareOp CmpOp.Eq (Value.ref _) (Value.ref _)) _ _ _); refine ke_eq_ints (by is_list) (by is_list) (by first | exact IntsAre.nil | assumption) (by first | exact IntsAre.nil | assumption) (by ktr_units) ?_))
local macro_rules | `(tactic| walk_at "call ref") => `(tactic| ((with_reducible show wpAny _ _ (call (Value.ref 187) _ _) _ _ _); refine stop_intro ?_))
local macro_rules | `(tactic| walk_at "call ref") => `(tactic| ((with_reducible show wpAny _ _ (call (Value.ref 254) _ _) _ _ _); refine stop_intro ?_))
local macro_rules | `(tactic| walk_at "call ref") => `(tactic| ((with_reducible show wpAny _ _ (call (Value.ref 259) _ _) _ _ _); refine stop_intro ?_))
local macro_rules | `(tactic| walk_at "exec Assign cons ListComp") => `(tactic| (k_here; k_dflt (refine LCg.Assign_ListComp_U (F₀ := by k_asm) (by rfl) (by with_unfolding_all rfl) (by rfl) (by decide) (by rfl) (by decide) (by rfl) (by rfl) (by rfl) ?_)))
local macro_rules | `(tactic| walk_at "CompSrc") => `(tactic| (k_here; k_dflt (refine LCg.CompSrc.ledger (by rfl) (by k_asm) (by k_asm) (by k_mem) (by assumption) ?_); intro g'; refine stop_intro ?_))
local macro_rules | `(tactic| walk_at "eval IfExp") => `(tactic| ((with_reducible show wpAny _ _ (eval (PySem.Expr.IfExp _ _ (PySem.Expr.IfExp _ _ _ _) _) _) _ _ _); refine stop_intro ?_))
local macro_rules | `(tactic| walk_at "exec If") => `(tactic| ((with_reducible show wpAny _ _ (exec (PySem.Stmt.If _ [PySem.Stmt.Return _ _] _ _) _) _ _ _); refine stop_intro ?_))
local macro_rules | `(tactic| walk_at "subscriptTail Name Name ref int") => `(tactic| (k_here; (with_reducible show wpAny _ _ (subscriptTail _ _ (Value.ref _) (Value.int _ _)) _ _ _); refine item_listL (Fr.lst (by k_asm) (by assumption)) (by exact Int.natCast_nonneg _) (by assumption) (by assumption) ?_))
local macro_rules | `(tactic| walk_at "call builtin:list.append") => `(tactic| (k_here; refine stop_intro ?_))
local macro_rules | `(tactic| walk_at "call builtin:list.remove") => `(tactic| (k_here; refine stop_intro ?_))
local macro_rules | `(tactic| walk_at "compareOp NotEq ref ref") => `(tactic| (k_here; (with_reducible show wpAny _ _ (compareOp CmpOp.NotEq (Value.ref _) (Value.ref _)) _ _ _); refine ne_dataH (by ke_read) (by ke_read) (by ke_shaped) (by ke_shaped) (by ktr_units) ?_; ke_norm))
local macro_rules | `(tactic| walk_at "exec For Name Name cons nil") => `(tactic| (k_here; refine stop_intro ?_))
theorem shelled_spec : ∀ {w : World} {dp un : Nat} {gd : Option (List Code)} {outer : List Env} {base g : Heap} {s : Shared} {mean : ExcName → Option Value} {mg mb : PySem.Str → Option Value} {R : Result → Shared → Prop} (_ : Below ({ handled := none, depth := dp, frames := some outer, guards := gd, units := un } : Around) base outer g) (_ : ∀ b o, g.get? b = some o → s.heap.get? b = some o) (_ : g.objs.size ≤ s.heap.objs.size) (_ : (hd.heap_1 w.params).In g) (_ : Top qv looseL mean mg mb g) (_ : ({ handled := none, depth := dp, frames := some outer, guards := gd, units := un } : Around).handled = none) (_ : (hd.heap_1 w.params).In base) (_ : Top qv looseL mean mg mb base) (_ : KtsDicts (outer.filterMap (·.frame)) g) (_ : dp + 8 < recursionLimit) (_ : un + 80 < cLine)
    {fl cl : Addr} {fv cv : List Value} {fs : List Tri} {cs : List Int} (_ : g.IsList fl fv.toArray) (_ : StrsAre fv (fs.map str3)) (_ : g.IsList cl cv.toArray) (_ : IntsAre cv cs) (_ : cs.length = 5) (_ : Play fs)
    (_ : ∀ l O P ov pv on pn pts d h' tk' g', KtsTurn (outer.filterMap (·.frame)) g g' → (∀ b o, g'.get? b = some o → h'.get? b = some o) → (∀ q ∈ (l, ({ cls := .type "tuple", data := .seq #[.ref O, .ref P] } : Obj)) :: (O, W.listOf ov.toArray on) :: (P, W.listOf pv.toArray pn) :: pts, h'.get? q.1 = some q.2 ∧ g'.get? q.1 = none) → Sh fs d → d.length = fs.length → IntsAre ov (d.map Int.ofNat) → PaintsAre fs pts pv d → R (.ok (.ret (.ref l))) { s with heap := h', toks := tk' }),
    codeAny (model PySem.Challenge.rw_tr0054_01.prog w) ({ handled := none, depth := dp, frames := some outer, guards := gd, units := un } : Around) (.call (.ref 264) ⟨[.ref fl, .ref cl], []⟩) R s := by
  k_fill
  intro w dp un gd outer base g s mean mg mb R B kg sz X T hh XB TB D hdp hu fl cl fv cv fs cs hfl hfv hcl hcv hcs play ret
  have X := X
  have T := T
  have N0 : ∀ q ∈ ([] : List (Addr × Obj)), s.heap.get? q.1 = some q.2 ∧ g.get? q.1 = none := fun _ h => nomatch h
  have lf : fv.length = fs.length := by rw [hfv.length, List.length_map]
  have l8 : fs.length ≤ 8 := by rcases play.len with e | e <;> omega
  k_dflt (first | (refine' enterG ?k1 ?k2 ?k3 ?k4 ?k5 ?k6 ?k7 ?k8 ?k9 ?kb ?kB ?_ ?c2 ?c3 ?c4 ?c5; (case k1 => k_asm); (case k2 => k_asm); (case k3 => k_asm); (case k4 => k_asm); (case k5 => k_asm); (case k6 => k_asm); (case k7 => k_is); (case k8 => k_is); (case k9 => ktr_room); (case kb => first | exact BindsTo.of_eq rfl | exact binds_K (by k_in) rfl (by k_is) rfl rfl rfl); (case c5 => decide); (case kB => exact locs rfl); (case c2 => exact rfl); (case c3 => exact rfl); (case c4 => exact rfl); k_whole; intro L' h' F' N' l1; (try k_lt l1); (try dsimp only); (try k_fold)) | (refine' enterGC ?k1 ?k2 ?k3 ?k4 ?k5 ?k6 ?k7 ?k8 ?k9 ?kb ?kB ?kD ?_ ?c2 ?c3 ?c4; (case k1 => k_asm); (case k2 => k_asm); (case k3 => k_asm); (case k4 => k_asm); (case k5 => k_asm); (case k6 => k_asm); (case k7 => k_is); (case k8 => k_is); (case k9 => ktr_room); (case kb => first | exact BindsTo.of_eq rfl | exact binds_K (by k_in) rfl (by k_is) rfl rfl rfl); (case kB => exact rfl); (case kD => decide +kernel); (case c2 => exact rfl); (case c3 => exact rfl); (case c4 => exact rfl); k_whole; intro L' h' tk' cells' F' N' Y' l1; (try k_lt l1); k_cells Y'; (try simp only [List.cons_append, List.nil_append] at N'); (try dsimp only); (try k_fold)))
  k_steps
  unfold Stop
  (with_reducible rename Fr _ _ _ _ => fX); (with_reducible rename News _ _ _ _ => nX); (with_reducible rename IntsAre _ (rangeKs _ _) => hI)
  refine shel_while B fX nX hI (by refine ⟨?_, ?_, ?_, ?_, ?_, ?_⟩ <;> k_ne) rfl rfl rfl rfl rfl rfl rfl rfl (by first | passes_own | with_unfolding_all passes_own) ?_
  have hmk := mark_in (cs.getD (Int.toNat 0) 0)
  generalize Txt.item (Str.ofString "|!/#") ((cs.getD (Int.toNat 0) 0).fmod 4) = mark at hmk ⊢
  clear X T
  clear l1
  intro P O TT H Dt t n s' hS K hK
  obtain ⟨g', h', tk', u, Wt, d, ws, wv, ov, pv, vs, wn, on, pn, hn, pts, tups, ents, turn, tt, tm, rfl, KT, B', F', N', ne, ok, rfl⟩ := hS
  clear fX nX
  have X := XB.keeps B'.stays
  have T := TB.keeps B'.stays
  have D' := D.turn KT
  have hwI := ok.wv
  have hoI := ok.ov
  have hwl : wv.length = ws.length := by rw [ok.wv.length, List.length_map]
  have hw8 : ws.length ≤ 8 := Nat.le_trans (List.Nodup.length_le_of_subset ok.wnd (l₂ := List.range fs.length) fun i hi => List.mem_range.mpr ((ok.wmem i).mp hi).1) (by rw [List.length_range]; exact l8)
  have hful := ok.full
  have hd8 : d.length ≤ 8 := le8_of hful l8
  have hel : ents.length ≤ 24 := ents24 ok.tab.pairs.len ok.tab.len hd8
  k_steps
  · unfold Stop
    (with_reducible rename News _ _ _ _ => nX); (with_reducible rename Fr _ _ _ _ => fX)
    rename decide _ = true => hw
    have hw := of_decide_eq_true hw
    have hw : ws = [] := by cases ws with | nil => rfl | cons _ _ => cases hw
    subst hw
    have hde := play.none ok.sh (by simpa using hful)
    have hen : ents = [] := by
      have := ok.names
      rw [hde] at this
      cases ents with | nil => rfl | cons _ _ => cases this
    subst hen
    refine keys_use ([(Wt, W.listOf wv.toArray wn), (O, W.listOf ov.toArray on), (P, W.listOf pv.toArray pn)] ++ pts) B' fX X (fun q hq => nX q (.tail _ (led_swap (tl := [_, _, _]) hq))) T rfl rfl (by ktr_room) (by ktr_units) ?off ok.tab (by omega) ?_
    case off => exact off_all (fr := [_, _, _]) (fun q hq => nX q (.tail _ hq)) (by simp [ne.1, ne.2.1, ne.2.2.1, ne.2.2.2.1, ne.2.2.2.2.1, ne.2.2.2.2.2]) ok.paints.2.1
    intro ln ys h1 tk1 F1 N1 o1 hys
    cases hys
    have N2 : News g' L' h1 ((ln, LCg.lst []) :: (Wt, W.listOf wv.toArray wn) :: (O, W.listOf ov.toArray on) :: (P, W.listOf pv.toArray pn) :: (H, W.listOf vs.toArray hn) :: (TT, instObj 235 Dt) :: (Dt, _) :: (pts ++ tups)) := fun q hq => N1 q (led_back (fr := [_, _, _, _]) (tl := [_, _, _]) hq)
    clear fX nX N1 o1
    k_steps
    (with_reducible rename News _ _ _ _ => nX); (with_reducible rename Fr _ _ _ _ => fX)
    refine ret _ O P ov pv on pn pts d _ _ g' KT fX.keep (fun q hq => ?_) ok.sh (by simpa using hful) ok.ov ok.paints
    have q0 : ∀ q ∈ _, _ := nX
    rcases List.mem_cons.mp hq with rfl | hq
    · exact ⟨(nX _ (.head _)).1, (nX _ (.head _)).2.2⟩
    · rcases List.mem_cons.mp hq with rfl | hq
      · exact ⟨(nX _ (by simp)).1, (nX _ (by simp)).2.2⟩
      · rcases List.mem_cons.mp hq with rfl | hq
        · exact ⟨(nX _ (by simp)).1, (nX _ (by simp)).2.2⟩
        · exact ⟨(nX q (by simp [hq])).1, (nX q (by simp [hq])).2.2⟩
  · rename ((List.length _ : Nat) : Int) = 0 => hz
    rename decide _ = false => hw
    cases ws with | nil => cases hw | cons _ _ => simp at hz; omega
  · rename _ < (0 : Int) => hng
    rename decide _ = false => hw
    exact absurd hng (Int.not_lt.mpr (Int.fmod_nonneg_of_pos _ (by cases ws with | nil => cases hw | cons _ _ => simp)))
  · unfold Stop
    (with_reducible rename News _ _ _ _ => nX); (with_reducible rename Fr _ _ _ _ => fX)
    rename decide _ = false => hw
    have hwn : ws ≠ [] := fun e => by subst e; simp at hw
    rename_i W2 w2 h2 hIr l2 h3
    obtain ⟨wr, hIr, hperm⟩ := rot_ints hIr
    have n2 : News g' L' h3 ((W2, W.listOf w2.toArray 0) :: (O, W.listOf ov.toArray on) :: (P, W.listOf pv.toArray pn) :: (H, W.listOf vs.toArray hn) :: (TT, instObj 235 Dt) :: (Dt, _) :: (pts ++ tups)) := fun q hq => nX q (led_skip hq)
    have ne2 : W2 ≠ O ∧ W2 ≠ P ∧ W2 ≠ H := by refine ⟨?_, ?_, ?_⟩ <;> k_ne
    clear nX l2 hwI hwl
    have hwI := hIr
    have hwl : w2.length = wr.length := by rw [hIr.length, List.length_map]
    have hwr8 : wr.length ≤ 8 := by rw [hperm.length_eq]; exact hw8
    refine keys_use ([(W2, W.listOf w2.toArray 0), (O, W.listOf ov.toArray on), (P, W.listOf pv.toArray pn)] ++ pts) B' fX X (fun q hq => n2 q (led_swap (tl := [_, _, _]) hq)) T rfl rfl (by ktr_room) (by ktr_units) ?off ok.tab (by omega) ?_
    case off => exact off_all (fr := [_, _, _]) n2 (by simp [ne.2.2.2.2.1, ne.2.2.2.2.2, ne2.2.2]) ok.paints.2.1
    intro ln ys h1 tk1 F1 N1 o1 hys
    have N2 : News g' L' h1 ((ln, LCg.lst ys) :: (W2, W.listOf w2.toArray 0) :: (O, W.listOf ov.toArray on) :: (P, W.listOf pv.toArray pn) :: (H, W.listOf vs.toArray hn) :: (TT, instObj 235 Dt) :: (Dt, _) :: (pts ++ tups)) := fun q hq => N1 q (led_back (fr := [_, _, _, _]) (tl := [_, _, _]) hq)
    have hyl : ys.length = ents.length := by rw [hys.length, List.length_map]
    have hys1 : ys.toArray.size ≤ sizeLine := by rw [List.size_toArray, hyl, sizeLine_eq]; omega
    clear fX n2 N1
    k_steps
    unfold Stop
    have hlow : (ents.map (·.1)).map Txt.lower = (tabE fs d).map str2 := by rw [List.map_map]; exact ok.names
    refine restG_each (fun i y => ∃ x t, y = Value.str x t ∧ ((tabE fs d).map str2)[i]? = some x) (.inr ⟨_, .head _, rfl, _, rfl⟩) _ ?ct ?cf
    case ct =>
      intro i v I oI C oC D₂ m₂ h tk E' zs hi hv hC hx F N off nei
      rw [List.getElem?_toArray] at hv
      obtain ⟨x, t, rfl, hx2⟩ := strs_at hys hv
      have hxl : x.length ≤ 10 := by
        obtain ⟨e, he, rfl⟩ := List.mem_map.mp (List.mem_of_getElem? hx2)
        exact ok.tab.short e he
      have hG : ((tabE fs d).map str2)[i]? = some (Txt.lower x) := by rw [← hlow, List.getElem?_map, hx2]; rfl
      clear off
      k_steps
      all_goals first | exact F | exact N
    case cf =>
      intro zs hl2 hG D₂ h' tk' F' N' o1'
      (try dsimp only)
      have hDH : D₂ ≠ H := (off1_ne o1' (H, W.listOf vs.toArray hn) (by simp)).symm
      have hzs : StrsAre zs ((tabE fs d).map str2) := strs_each (by rw [hl2, List.size_toArray, hyl, ← hlow, List.length_map, List.length_map]) hG
      clear N2 F1 hG
      k_steps
      unfold Stop
      (with_reducible rename News _ _ _ _ => nX); (with_reducible rename Fr _ _ _ _ => fX)
      have n2 : News g' L' _ ((D₂, LCg.lst zs) :: (W2, W.listOf w2.toArray 0) :: (O, W.listOf ov.toArray on) :: (P, W.listOf pv.toArray pn) :: (H, W.listOf vs.toArray hn) :: (TT, instObj 235 Dt) :: (Dt, _) :: (pts ++ tups)) := fun q hq => nX q (led_skip1 hq)
      clear nX o1'
      obtain ⟨u9, ti9, tt9, fV⟩ := fr_turn fX rfl rfl rfl rfl rfl rfl rfl rfl rfl
      clear fX
      refine end_via fV n2 (Phase d wr) ?e1 ?e2
      case e1 =>
        refine IfExp_ ?_
        k_steps
        all_goals first
          | exact phase_none (by assumption)
          | exact phase_ill (by assumption) (by assumption)
          | exact phase_go (by assumption) (by assumption)
          | assumption
          | ((with_reducible rename News _ _ _ _ => nZ); exact fun q hq => nZ q (.tail _ hq))
      case e2 =>
        intro e te h4 tk4 hph F4 N4
        clear fV n2
        k_steps
        unfold Stop
        (with_reducible rename News _ _ _ _ => nX); (with_reducible rename Fr _ _ _ _ => fX)
        (try clear F4); (try clear N4)
        refine for_via (A₀ := ({ handled := none, depth := dp, frames := some outer, guards := gd, units := un } : Around)) (base := base) (outer := outer) fX nX fs d wr e ?f1 ?f2
        case f1 =>
          refine for_own ?_
          k_steps
          refine wpAny_pyIter_list ⟨_, (nX (W2, W.listOf w2.toArray 0) (.tail _ (.head _))).1, rfl, _, rfl⟩ ?_
          refine forAt_list (l := W2) (vs := w2) (ForS ({ handled := none, depth := dp, frames := some outer, guards := gd, units := un } : Around) base outer g' L' _ _ _ W2 fs d wr e _) rfl (fun i s h => forS_here (.tail _ (.head _)) h) (forS_start B' fX nX) ?step ?fin
          case fin =>
            intro s4 hS h5 k1
            obtain ⟨g2, h2, tk2, m2, oI, es4, a1, a2, a3, a4, a5, a6, a7, a8, hnf, he⟩ := hS
            exact (fin_go play ok hperm hwn hph hwl hnf he).elim
          case step =>
            intro i v s4 hS hv h5 k1 k2 K2 hK2
            obtain ⟨x, tx, rfl, hx⟩ := ints_at hwI hv
            obtain ⟨g2, tk2, m2, oI, es4, KT2, B2, F2, N2, off, hcI, hdI, hm, hnf, he⟩ := forS_next hS k1 k2
            rw [es4]
            clear es4 hS k1 k2 hv
            have F2 := fr_loop F2 hm
            have hxw : x ∈ wr := List.mem_of_getElem? hx
            have hxn := (ok.wmem x).mp (hperm.mem_iff.mp hxw)
            obtain ⟨tq, hfi⟩ := face_at hfv hxn.1
            have hx8 : x < 8 := Nat.lt_of_lt_of_le hxn.1 l8
            have hx63 : ((x : Nat) : Int) < 2 ^ 63 := by omega
            have hfl2 := isList_turn (KT.trans KT2) D hfl
            have X2 := XB.keeps B2.stays
            have T2 := TB.keeps B2.stays
            have D2 := D'.turn KT2
            k_steps
            unfold Stop
            (with_reducible rename News _ _ _ _ => nX); (with_reducible rename Fr _ _ _ _ => fX)
            have hsum : ((((tabE fs d).map str2).map (·.length)).sum + ((tabE fs d).map str2).length) ≤ 1000 := by
              have : (tabE fs d).length = ents.length := by have := congrArg List.length hlow; simpa using this.symm
              rw [str2_sum, List.length_map]; exact sum_le this hel
            rcases hph with ⟨rfl, hd0⟩ | ⟨rfl, hd1, hw1⟩ | ⟨rfl, hd1, hw1⟩
            · subst hd0
              refine answer_use B2 fX X2 nX T2 XB TB D2 rfl (by ktr_room) (by ktr_units) ⟨_, (nX _ (.tail _ (.head _))).1, rfl, _, rfl⟩ hzs hsum (Int.natCast_nonneg _) (by omega) hmk ?pn ?pi ?po
              case pi => intro q1; rw [shared_es, show tabE fs [] = [] from rfl, shE_nil] at q1; exact absurd q1 (by decide)
              case po => intro q1; rw [shared_es, show tabE fs [] = [] from rfl, shE_nil] at q1; exact absurd q1 (by decide)
              case pn =>
                intro _ t' h' tk' g3 T3 B3 F3 N3
                clear fX nX
                k_steps
                (with_reducible rename News _ _ _ _ => nZ); (with_reducible rename Fr _ _ _ _ => fZ)
                exact hK2 _ _ (for_done (KT2.trans T3) B3 fZ nZ (by intro y q1 q2; simp only [q1, q2, if_false]) rfl rfl hxw (.inl ⟨rfl, _, rfl⟩))
            · have hil := play.last ok.sh (last_len ok.full hperm.length_eq hw1) hxn.1 hxn.2
              refine answer_use B2 fX X2 nX T2 XB TB D2 rfl (by ktr_room) (by ktr_units) ⟨_, (nX _ (.tail _ (.head _))).1, rfl, _, rfl⟩ hzs hsum (Int.natCast_nonneg _) (by omega) hmk ?pn ?pi ?po
              case pn => intro q1; rw [shared_es] at q1; have z := hil.1; exact absurd z (by rw [q1]; exact Int.lt_irrefl 0)
              case po => intro q1 q2; rw [shared_es, touch_es] at q2; exact absurd q2 hil.2
              case pi =>
                intro _ _ t' h' tk' g3 T3 B3 F3 N3
                clear fX nX
                k_steps
                (with_reducible rename News _ _ _ _ => nZ); (with_reducible rename Fr _ _ _ _ => fZ)
                exact hK2 _ _ (for_done (KT2.trans T3) B3 fZ nZ (by intro y q1 q2; simp only [q1, q2, if_false]) rfl rfl hxw (.inr (.inl ⟨rfl, _, rfl⟩)))
            · refine answer_use B2 fX X2 nX T2 XB TB D2 rfl (by ktr_room) (by ktr_units) ⟨_, (nX _ (.tail _ (.head _))).1, rfl, _, rfl⟩ hzs hsum (Int.natCast_nonneg _) (by omega) hmk ?pn ?pi ?po
              case pn =>
                intro q1 t' h' tk' g3 T3 B3 F3 N3
                rw [shared_es] at q1
                clear fX nX
                k_steps
                (with_reducible rename News _ _ _ _ => nZ); (with_reducible rename Fr _ _ _ _ => fZ)
                exact hK2 _ _ (for_next (KT2.trans T3) B3 fZ (fun q hq => nZ q (.tail _ hq)) off hcI hdI (by intro y q1 q2; simp only [q1, q2, if_false]) hnf hx (fun q => absurd q.1 (by rw [q1]; exact Int.lt_irrefl 0)))
              case pi =>
                intro q1 q2 t' h' tk' g3 T3 B3 F3 N3
                rw [shared_es, touch_es] at q2
                clear fX nX
                k_steps
                (with_reducible rename News _ _ _ _ => nZ); (with_reducible rename Fr _ _ _ _ => fZ)
                exact hK2 _ _ (for_next (KT2.trans T3) B3 fZ (fun q hq => nZ q (.tail _ hq)) off hcI hdI (by intro y q1 q2; simp only [q1, q2, if_false]) hnf hx (fun q => q2 q.2))
              case po =>
                intro q1 q2 l h' tk' ta tb F3 N3 o3
                rw [shared_es] at q1 q2
                rw [touch_es] at q2
                clear fX nX
                k_steps
                (with_reducible rename News _ _ _ _ => nZ)
                refine SeqAt.notIn_tuple_reads (reads_tuple_at (News.get nZ (by k_mem)) rfl rfl (by ke_reads)) (reads_tuple_at (News.get nZ (by k_mem)) rfl rfl (by ke_reads)) words_lay (pair_lay (strOk3 (play.low _ (fAt_mem hxn.1)))) (Nat.lt_of_le_of_lt (Nat.add_le_add_left (Nat.le_trans (Nat.min_le_left _ _) words_depth) _) (by simp only [units_deeper]; omega)) ?_
                rw [pair_notin]
                k_steps
                (with_reducible rename News _ _ _ _ => nZ); (with_reducible rename Fr _ _ _ _ => fZ)
                exact hK2 _ _ (for_done KT2 B2 fZ (fun q hq => nZ q (.tail _ (.tail _ hq))) (by intro y q1 q2; simp only [q1, q2, if_false]) rfl rfl hxw (.inr (.inr ⟨rfl, ⟨q1, q2⟩, l, ta, tb, rfl, (nZ _ (.tail _ (.head _))).1, (nZ _ (.tail _ (.head _))).2.1, (nZ _ (.tail _ (.head _))).2.2, o3.2⟩)))
        case f2 =>
          intro i a g2 h5 tk5 ti KT2 B2 F5 N5 hi hans
          clear fX nX
          have hin := (ok.wmem i).mp (hperm.mem_iff.mp hi)
          obtain ⟨tq, hfi⟩ := face_at hfv hin.1
          have hflo := play.low _ (fAt_mem hin.1)
          have hi8 : i < 8 := Nat.lt_of_lt_of_le hin.1 l8
          have hi63 : ((i : Nat) : Int) < 2 ^ 63 := by omega
          have hfl2 := isList_turn (KT.trans KT2) D hfl
          have X2 := XB.keeps B2.stays
          have T2 := TB.keeps B2.stays
          have D2 := D'.turn KT2
          k_steps
          unfold Stop
          refine if_via F5 N5 ?i1 ?i2
          case i1 =>
            refine wpAny_If ?_
            rcases hans with ⟨rfl, t', rfl⟩ | ⟨rfl, t', rfl⟩ | ⟨rfl, hfit, l, ta, tb, rfl, hl, hlL, hlg, hlo⟩
            · k_steps
              all_goals first | exact F5 | exact N5
            · k_steps
              all_goals first | exact F5 | exact N5
            · have N6 : News g2 L' h5 ((l, ({ cls := .type "tuple", data := .seq #[.str ⟨#[(fAt fs i).1, (fAt fs i).2.1, (fAt fs i).2.2]⟩ ta, .int (i : Int) tb] } : Obj)) :: (D₂, LCg.lst zs) :: (W2, W.listOf w2.toArray 0) :: (O, W.listOf ov.toArray on) :: (P, W.listOf pv.toArray pn) :: (H, W.listOf vs.toArray hn) :: (TT, instObj 235 Dt) :: (Dt, _) :: (pts ++ tups)) := fun q hq => by
                rcases List.mem_cons.mp hq with rfl | hq
                · exact ⟨hl, hlL, hlg⟩
                · exact N5 q hq
              clear N5
              k_steps
              (with_reducible rename News _ _ _ _ => nX)
              refine ne_dataH (reads_tuple_at (News.get nX (by k_mem)) rfl rfl (by ke_reads)) (reads_tuple_at (News.get nX (by k_mem)) rfl rfl (by ke_reads)) (shaped_pair (strOk3 hflo)) (shaped_pair (strOk3 hflo)) (by ktr_units) ?_
              rw [same_pair]
              k_steps
              all_goals first | exact F5 | assumption | exact fun q hq => nX q (.tail _ (.tail _ hq))
          case i2 =>
            intro h6 tk6 F6 N6
            clear N5 F5
            k_steps
            unfold Stop
            (with_reducible rename News _ _ _ _ => nX); (with_reducible rename Fr _ _ _ _ => fX)
            refine lay_use ([(D₂, LCg.lst zs), (W2, W.listOf w2.toArray 0), (O, W.listOf ov.toArray on), (P, W.listOf pv.toArray pn)] ++ pts) B2 fX X2 (fun q hq => nX q (led_swap (tl := [_, _, _]) hq)) T2 rfl rfl (by ktr_room) (by ktr_units) ?off (.head _) rfl ⟨_, rfl⟩ hzs ?la ?lb ?lc ok.tab (by omega) ?_
            case off => exact off_all (fr := [_, _, _, _]) nX (by simp [ne.2.2.2.2.1, ne.2.2.2.2.2, ne2.2.2, hDH]) ok.paints.2.1
            case la => exact hflo.1
            case lb => exact hflo.2.1
            case lc => exact hflo.2.2
            intro lp ys2 hn2 tups2 h7 tk7 ta tb tc hpos F7 N7 o7 ok7
            have N8 : News g2 L' h7 ((lp, _) :: (W2, W.listOf w2.toArray 0) :: (O, W.listOf ov.toArray on) :: (P, W.listOf pv.toArray pn) :: (H, W.listOf ys2.toArray hn2) :: (TT, instObj 235 Dt) :: (Dt, _) :: (pts ++ tups2)) := fun q hq => N7 q (led_back (fr := [_, _, _, _, _]) (tl := [_, _, _]) (led_skip1 hq))
            have hP1 : lp ≠ P := ne_cls (N8 _ (.head _)).1 (N8 (P, W.listOf pv.toArray pn) (by simp)).1 (by simp [paintObj])
            have hO1 : lp ≠ O := ne_cls (N8 _ (.head _)).1 (N8 (O, W.listOf ov.toArray on) (by simp)).1 (by simp [paintObj])
            have hWp1 : lp ≠ W2 := ne_cls (N8 _ (.head _)).1 (N8 (W2, W.listOf w2.toArray 0) (by simp)).1 (by simp [paintObj])
            have tP := off_tail (pts := pts) (tups := tups2) N8 (a := P) (o := W.listOf pv.toArray pn) (by simp) rfl (.tail _ (.tail _ (.tail _ (.tail _ (.tail _ (.head _)))))) (.tail _ (.tail _ (.tail _ (.tail _ (.tail _ (.tail _ (.head _))))))) (fun q hq => .tail _ (.tail _ (.tail _ (.tail _ (.tail _ (.tail _ (.tail _ hq))))))) ok.paints.2.1 ok7
            have tO := off_tail (pts := pts) (tups := tups2) N8 (a := O) (o := W.listOf ov.toArray on) (by simp) rfl (.tail _ (.tail _ (.tail _ (.tail _ (.tail _ (.head _)))))) (.tail _ (.tail _ (.tail _ (.tail _ (.tail _ (.tail _ (.head _))))))) (fun q hq => .tail _ (.tail _ (.tail _ (.tail _ (.tail _ (.tail _ (.tail _ hq))))))) ok.paints.2.1 ok7
            have tW := off_tail (pts := pts) (tups := tups2) N8 (a := W2) (o := W.listOf w2.toArray 0) (by simp) rfl (.tail _ (.tail _ (.tail _ (.tail _ (.tail _ (.head _)))))) (.tail _ (.tail _ (.tail _ (.tail _ (.tail _ (.tail _ (.head _))))))) (fun q hq => .tail _ (.tail _ (.tail _ (.tail _ (.tail _ (.tail _ (.tail _ hq))))))) ok.paints.2.1 ok7
            clear nX fX N7
            have hpl : pv.length = d.length := ok.paints.1
            have hovl : ov.length = d.length := by rw [ok.ov.length, List.length_map]
            have hpl8 : pv.length ≤ 8 := by rw [hpl]; exact hd8
            have hov8 : ov.length ≤ 8 := by rw [hovl]; exact hd8
            k_steps
            unfold Stop
            (with_reducible rename News _ _ _ _ => nX); (with_reducible rename Fr _ _ _ _ => fX)
            refine append_K fX nX (.tail hP1 (.tail ne2.2.1 (.tail ne.2.2.2.1 (.head fun q hq => ?_)))) ?_ (by rw [List.size_toArray, sizeLine_eq]; omega)
            · rcases List.mem_cons.mp hq with rfl | hq
              · exact Ne.symm ne.2.2.2.2.2
              · exact tP q hq
            intro h8 F8 N9
            clear nX fX
            k_steps
            unfold Stop
            (with_reducible rename News _ _ _ _ => nX); (with_reducible rename Fr _ _ _ _ => fX)
            refine append_K fX nX (.tail hO1 (.tail ne2.1 (.head fun q hq => ?_))) ?_ (by rw [List.size_toArray, sizeLine_eq]; omega)
            · rcases List.mem_cons.mp hq with rfl | hq
              · exact Ne.symm ne.2.2.2.1
              · rcases List.mem_cons.mp hq with rfl | hq
                · exact Ne.symm ne.2.2.2.2.1
                · exact tO q hq
            intro h9 F9 N10
            clear nX fX
            k_steps
            unfold Stop
            (with_reducible rename News _ _ _ _ => nX); (with_reducible rename Fr _ _ _ _ => fX)
            obtain ⟨rk, rj, rq, r1, r2, r3⟩ := ints_find hwI hi
            refine kf_remove fX nX rk r1 r2 (.tail hWp1 (.head fun q hq => ?_)) (by show w2.length ≤ sizeLine; rw [sizeLine_eq]; omega) ?_
            · rcases List.mem_cons.mp hq with rfl | hq
              · exact Ne.symm ne2.1
              · rcases List.mem_cons.mp hq with rfl | hq
                · exact Ne.symm ne2.2.1
                · rcases List.mem_cons.mp hq with rfl | hq
                  · exact Ne.symm ne2.2.2
                  · exact tW q hq
            intro h10 F10 N11
            clear nX fX
            simp only [paintObj, List.push_toArray] at N11
            k_steps
            (with_reducible rename News _ _ _ _ => nX)
            refine item_last (vi := pv) (v := .ref lp) ⟨_, (nX (P, W.listOf (pv ++ [Value.ref lp]).toArray (pn + 1)) (by k_mem)).1, rfl, _, rfl⟩ ?_
            k_steps
            (with_reducible rename Fr _ _ _ _ => fX)
            refine item_list_ints (Fr.lst fX (isList_turn (KT.trans KT2) D hcl)) hcv (k2_lo _) (by rw [hcs]; exact k2_hi _) (Int.lt_trans (k2_hi _) (by decide)) fun tz => ?_
            k_steps
            (with_reducible rename News _ _ _ _ => nZ); (with_reducible rename Fr _ _ _ _ => fZ)
            refine hK _ _ ?_
            unfold WEnd
            simp only [inNames_es] at nZ
            have hok := shel_ok (ti := ti) (lp := lp) (ta := ta) (tb := tb) (tc := tc) hpos play ok hperm hi (ans_cond ok hperm hph hans) r3 ok7
            refine ⟨(wr.erase i).length, ?_, shel_end (r := (lp, paintObj (bit0 (tabE fs d) (fAt fs i)) (bit1 (tabE fs d) (fAt fs i)) (bit2 (tabE fs d) (fAt fs i)) ta tb tc)) (KT.trans KT2) B2 fZ nZ ⟨ne2.1, ne2.2.1, ne2.2.2, ne.2.2.2⟩ rfl rfl rfl rfl rfl rfl rfl rfl hok⟩
            rw [List.length_erase_of_mem hi, hperm.length_eq]
            exact Nat.sub_lt (List.length_pos_iff.mpr hwn) Nat.one_pos
end
-- part: MBack0
section
theorem off_MBack0 : True := by w_top off; exact trivial
section
variable {prog : Program} {w : World} {A : Around} {E : Value → Shared → Prop} {s : Shared} {env : Env}
theorem forAt_range {Q : Flow → Shared → Prop} {body : List PySem.Stmt} {x : PySem.Str} {px : Pos} {it : Addr} {n : Nat} (S : Nat → Shared → Prop) (hh : A.handled = none)
    (here : ∀ i s, S i s → s.heap.get? it = some (itR (i : Int) ((n : Int) - (i : Int))))
    (h0 : S 0 s)
    (step : ∀ i s, S i s → i < n → ∀ h', h'.get? it = some (itR ((i + 1 : Nat) : Int) ((n : Int) - ((i + 1 : Nat) : Int))) → Heap.SameBut it s.heap h' → ∀ t, ∀ K : Flow → Shared → Prop, (∀ f s₂, FEnd S Q (i + 1) f s₂ → K f s₂) → wpAny (model prog w) A (assign (.Name x px) env (.int (i : Int) t)) (fun _ s₂ => wpAny (model prog w) A (execs body env) K E s₂) E { s with heap := h', toks := s.toks + 1 })
    (fin : ∀ s, S n s → ∀ h', Heap.ExtBut it s.heap h' → Q .next { s with heap := h' })
    (hE : PassesOwn (model prog w) A env E := by passes_own) : ForAt prog w A env (.Name x px) body Q E (.ref it) s := by
  unfold ForAt
  refine codeAny_forLoop (fun k s' => ∃ i, S i s' ∧ i ≤ n ∧ k = n + 1 - i) (fun k s' => ?_) (n + 1) ⟨0, h0, Nat.zero_le _, rfl⟩
  rintro ⟨i, hS, hi, rfl⟩
  have hit := here i s' hS
  by_cases hlt : i < n
  · refine wpAny_pyNext_range_item (x := (i : Int)) (left := (n : Int) - (i : Int)) (step := 1) hit (by omega) fun h' k1 k2 => ?_
    have e1 : ((i + 1 : Nat) : Int) = (i : Int) + 1 := by push_cast; rfl
    have e2 : (n : Int) - ((i + 1 : Nat) : Int) = (n : Int) - (i : Int) - 1 := by omega
    refine wpAny_mono (step i s' hS hlt h' (by rw [e2, e1]; exact k1) k2 _ _ fun _ _ q => q) (fun _ s₂ h₂ => wpAny_mono h₂ (fun f s₃ h₃ => ?_) hE) hE
    cases f with
    | next => exact ⟨_, by omega, i + 1, h₃, hlt, rfl⟩
    | cont => exact ⟨_, by omega, i + 1, h₃, hlt, rfl⟩
    | brk => exact h₃
    | ret v => exact h₃
  · have e : i = n := by omega
    subst e
    exact wpAny_pyNext_range_end (x := (i : Int)) (left := (i : Int) - (i : Int)) (step := 1) hh hit (by omega) fun h' k1 => wpAny_execs_nil (fin s' hS h' k1)
theorem booked_of {g : Heap} (X : (hd.heap_1 w.params).In g) : NoneBooked g := by
  have e : nsOkIn (hd.heap_1 w.params) cStatics = true := by first | rfl | with_unfolding_all rfl | decide +kernel
  have q : nsIn (hd.heap_1 w.params) cStatics sharingNotToldKey = some none := by first | rfl | with_unfolding_all rfl | decide +kernel
  exact ⟨_, .of_isNs (isNs_of_in X e), nsMap_none_of_in X e q⟩
theorem eqBool_float {a : UInt64} {t u : Tok} {Q : Bool → Shared → Prop} (hc : (Float64.cmp a a == some Ordering.eq) = true) (ht : 0 < t) (hu : 0 < u) (hb : NoneBooked s.heap) (h : Q true s) : wpAny (model prog w) A (eqBool (.float a t) (.float a u)) Q E s := by
  have h0 : (t == 0 || u == 0) = false := by
    rw [Bool.or_eq_false_iff, beq_eq_false_iff_ne, beq_eq_false_iff_ne]
    exact ⟨Nat.ne_of_gt ht, Nat.ne_of_gt hu⟩
  unfold eqBool
  show wpAny _ _ (if (Value.float a t == Value.float a u) = true then _ else _) Q E s
  by_cases hab : (Value.float a t == Value.float a u) = true
  · rw [if_pos hab]
    exact wpAny_bind (wpAny_rule (wpAny_pure h))
  · rw [if_neg hab]
    refine wpAny_bind (wpAny_mono (Q := fun _ s' => s' = s) (E := fun _ _ => False) ?_ (fun b s' e => ?_) fun _ _ e => e.elim)
    · show wpAny _ A (isSame.created (a == a && !Float64.isNaN a) t u) _ _ s
      unfold isSame.created
      refine wpAny_ite ?_
      split
      · rename_i q; rw [h0] at q; exact absurd q Bool.false_ne_true
      refine wpAny_ite ?_
      split
      · exact wpAny_pure rfl
      refine wpAny_ite ?_
      split
      · exact wpAny_pure rfl
      refine wpAny_bind (wpAny_sharingNotTold_none hb ?_)
      first | rw [if_neg Bool.false_ne_true] | simp only [Bool.false_eq_true, if_false]
      refine wpAny_bind (wpAny_sharingNotTold_none hb ?_)
      first | rw [if_neg Bool.false_ne_true] | simp only [Bool.false_eq_true, if_false]
      exact wpAny_bind (wpAny_rule (wpAny_bind (wpAny_askSetting (wpAny_pure rfl))))
    · subst e
      cases b with
      | true => exact wpAny_pure h
      | false => exact wpAny_bind (AutoFloatOps.eq_0 (wpAny_truthy_bool (by rw [hc]; exact h)))
theorem ne_triple {l b : Addr} {n : Int} {f f' : UInt64} {t1 t2 t3 u1 u2 u3 : Tok} {Q : Value → Shared → Prop} (hl : s.heap.IsTuple l #[.int n t1, .float f t2, .float f' t3]) (hb : s.heap.IsTuple b #[.int n u1, .float f u2, .float f' u3]) (hu : A.units + 1 < cLine)
    (sf : (Float64.cmp f f == some Ordering.eq) = true) (sg : (Float64.cmp f' f' == some Ordering.eq) = true) (ht : 0 < t2 ∧ 0 < t3) (hv : 0 < u2 ∧ 0 < u3) (bk : NoneBooked s.heap)
    (h : Q (.bool false) s) : wpAny (model prog w) A (compareOp .NotEq (.ref l) (.ref b)) Q E s := by
  refine SeqAt.RcNeAt.tuples (e := fun _ => true) hl hb (by omega) (fun j h1 h2 => ?_) prog w E Q ?_
  · rcases lt3 h1 with rfl | rfl | rfl
    · exact fun prog w E Q h => wpAny_eqBool_int (by rw [beq_self_eq_true]; exact h)
    · exact fun prog w E Q h => eqBool_float sf ht.1 hv.1 bk h
    · exact fun prog w E Q h => eqBool_float sg ht.2 hv.2 bk h
  · have e : (!((List.range (min (#[Value.int n t1, .float f t2, .float f' t3] : Array Value).size (#[Value.int n u1, .float f u2, .float f' u3] : Array Value).size)).all (fun _ => true) && (#[Value.int n t1, .float f t2, .float f' t3] : Array Value).size == (#[Value.int n u1, .float f u2, .float f' u3] : Array Value).size)) = false := by
      simp
    rw [e]; exact h
theorem item_negL {value slice : PySem.Expr} {a : Addr} {l : List Value} {k : Int} {u : Tok} {x : Value} {Q : Value → Shared → Prop} (hl : s.heap.IsList a l.toArray)
    (h0 : k < 0) (h1 : -(l.length : Int) ≤ k) (hsm : l.length ≤ 1000) (hx : l[(k + l.length).toNat]? = some x) (h : Q x s)
    (hs : subscripted slice false (.ref a) (.int k u) = operate [.ref a, .int k u] (getItem (.ref a) (.int k u)) := by with_unfolding_all rfl) (hg : ∀ r, letTemporaryGo value (.ref a) r = pure () := by intro _; with_unfolding_all rfl) :
    wpAny (model prog w) A (subscriptTail value slice (.ref a) (.int k u)) Q E s :=
  subscriptTail_builtin hl.typeIs slot_list_getitem.lookup (wpAny_getItem_list_neg hl h0 (by rw [List.size_toArray]; exact h1) (by omega) (by rw [List.size_toArray, List.getElem?_toArray]; exact hx) h) hs hg
end
theorem neg_hue : ∀ x y z : Bool, (if (Float64.cmp (paintBits x y z).2.2 4607182418800017408 == some Ordering.eq) = true then (hueOf x y z + 3).fmod 6 else 0) = hueOf (!x) (!y) (!z) := by decide +kernel
theorem neg_light : ∀ x y z : Bool, Float64.sub 4607182418800017408 (paintBits x y z).2.1 = (paintBits (!x) (!y) (!z)).2.1 := by decide +kernel
theorem neg_share : ∀ x y z : Bool, (paintBits x y z).2.2 = (paintBits (!x) (!y) (!z)).2.2 := by decide +kernel
theorem self_light : ∀ x y z : Bool, (Float64.cmp (paintBits x y z).2.1 (paintBits x y z).2.1 == some Ordering.eq) = true := by decide +kernel
theorem self_share : ∀ x y z : Bool, (Float64.cmp (paintBits x y z).2.2 (paintBits x y z).2.2 == some Ordering.eq) = true := by decide +kernel
theorem Sh.split {fs : List Tri} {e : List Nat} (h : Sh fs e) : ∀ {a : List Nat} {x : Nat} {b : List Nat}, e = a ++ x :: b → Sh fs a ∧ x < fs.length ∧ x ∉ a ∧ (a = [] ∨ a.length + 1 = fs.length ∨ Fits (tabE fs a) (fAt fs x)) := by
  induction h with
  | nil => intro a x b e; cases a <;> cases e
  | @snoc d i h hi hn hf ih =>
    intro a x b e
    rcases List.append_eq_append_iff.mp e with ⟨c, e1, e2⟩ | ⟨c, e1, e2⟩
    · cases c with
      | nil =>
        rw [List.append_nil] at e1
        rw [List.nil_append] at e2
        cases e2
        subst e1
        exact ⟨h, hi, hn, hf⟩
      | cons y c =>
        have := congrArg List.length e2
        simp at this
    · cases c with
      | nil =>
        rw [List.append_nil] at e1
        rw [List.nil_append] at e2
        cases e2
        subst e1
        exact ⟨h, hi, hn, hf⟩
      | cons y c =>
        obtain ⟨rfl, e3⟩ := List.cons.inj e2
        exact ih e1
theorem ints_get {vs : List Value} {xs : List Nat} (h : IntsAre vs (xs.map Int.ofNat)) {i x : Nat} (e : xs[i]? = some x) : ∃ t, vs[i]? = some (.int (x : Int) t) := by
  have hl : vs.length = xs.length := by rw [h.length, List.length_map]
  have hi : i < xs.length := by
    rcases Nat.lt_or_ge i xs.length with q | q
    · exact q
    · rw [List.getElem?_eq_none q] at e; cases e
  obtain ⟨y, t, e1, e2⟩ := ints_at h (List.getElem?_eq_getElem (l := vs) (i := i) (by omega))
  rw [e] at e2; cases e2
  exact ⟨t, by rw [List.getElem?_eq_getElem (by omega), e1]⟩
/-- what the next face is due to answer -/
def Due (fs : List Tri) (n i x : Nat) (v : Value) (l : Addr) (o : Obj) : Prop :=
  (i = 0 ∧ ∃ t, v = .str (Str.ofString "none") t) ∨ (i ≠ 0 ∧ i + 1 = n ∧ ∃ t, v = .str (Str.ofString "ill") t) ∨
  (i ≠ 0 ∧ i + 1 ≠ n ∧ v = .ref l ∧ ∃ ta tb, o = ({ cls := .type "tuple", data := .seq #[.str ⟨#[(fAt fs x).1, (fAt fs x).2.1, (fAt fs x).2.2]⟩ ta, .int (x : Int) tb] } : Obj))
theorem due_via {M : Model} {A : Around} {E : Value → Shared → Prop} {s : Shared} {c : Sem Value} {Q : Value → Shared → Prop} {g : Heap} {L : Addr} {m : PySem.Str → Option Value} {news : List (Addr × Obj)} (F : Fr g L s.heap m) (N : News g L s.heap news) (fs : List Tri) (n i x : Nat)
    (first : wpAny M A c (fun v s' => ∃ l o h' tk', s' = { s with heap := h', toks := tk' } ∧ Fr g L h' m ∧ News g L h' ((l, o) :: news) ∧ Due fs n i x v l o) E s)
    (rest : ∀ v l o h' tk', Fr g L h' m → News g L h' ((l, o) :: news) → Due fs n i x v l o → Q v { s with heap := h', toks := tk' }) : wpAny M A c Q E s :=
  wpAny_mono first (fun v s' hq => by
    obtain ⟨l, o, h', tk', a, b, c, d⟩ := hq
    subst a; exact rest v l o h' tk' b c d) fun _ _ e => e
theorem dupN {g h : Heap} {L : Addr} {p : Addr × Obj} {news : List (Addr × Obj)} (N : News g L h (p :: news)) : News g L h ((p.1, p.2) :: p :: news) := fun q hq => by
  rcases List.mem_cons.mp hq with rfl | hq
  · exact N p (.head _)
  · exact N q hq
theorem if_viaG {M : Model} {A A₀ : Around} {E : Value → Shared → Prop} {s : Shared} {c : Sem Flow} {Q : Flow → Shared → Prop} {base g : Heap} {outer : List Env} {L : Addr} {m : PySem.Str → Option Value} {news : List (Addr × Obj)} (F : Fr g L s.heap m) (N : News g L s.heap news)
    (first : wpAny M A c (fun f s' => f = .next ∧ ∃ g2 h' tk', s' = { s with heap := h', toks := tk' } ∧ KtsTurn (outer.filterMap (·.frame)) g g2 ∧ Below A₀ base outer g2 ∧ Fr g2 L h' m ∧ News g2 L h' news) E s)
    (rest : ∀ g2 h' tk', KtsTurn (outer.filterMap (·.frame)) g g2 → Below A₀ base outer g2 → Fr g2 L h' m → News g2 L h' news → Q .next { s with heap := h', toks := tk' }) : wpAny M A c Q E s :=
  wpAny_mono first (fun f s' hq => by
    obtain ⟨a, g2, h', tk', b, c, d, e, f⟩ := hq
    subst a b; exact rest g2 h' tk' c d e f) fun _ _ e => e
theorem neg_via {M : Model} {A : Around} {E : Value → Shared → Prop} {s : Shared} {c : Sem Value} {Q : Value → Shared → Prop} {g : Heap} {L : Addr} {m : PySem.Str → Option Value} {news : List (Addr × Obj)} (F : Fr g L s.heap m) (N : News g L s.heap news) (x y z : Bool)
    (first : wpAny M A c (fun v s' => ∃ l h' tk' ta tb tc, v = .ref l ∧ s' = { s with heap := h', toks := tk' } ∧ (0 < tb ∧ 0 < tc) ∧ Fr g L h' m ∧ News g L h' ((l, paintObj x y z ta tb tc) :: news)) E s)
    (rest : ∀ l h' tk' ta tb tc, (0 < tb ∧ 0 < tc) → Fr g L h' m → News g L h' ((l, paintObj x y z ta tb tc) :: news) → Q (.ref l) { s with heap := h', toks := tk' }) : wpAny M A c Q E s :=
  wpAny_mono first (fun v s' hq => by
    obtain ⟨l, h', tk', ta, tb, tc, a, b, c, d, e⟩ := hq
    subst a b; exact rest l h' tk' ta tb tc c d e) fun _ _ e => e
def BackS (A₀ : Around) (base : Heap) (outer : List Env) (g : Heap) (L : Addr) (fs : List Tri) (e : List Nat) (fl ol pl TT H D : Addr) (hsh : Int) (t : Tok) (mark : PySem.Str) (tm : Tok) (I : Addr) (s₀ : Shared) (i : Nat) (s : Shared) : Prop :=
  ∃ (g' h' : Heap) (tk' : Nat) (u : PySem.Str → Option Value) (vs : List Value) (hn : Nat) (tups : List (Addr × Obj)) (ents : List Ent),
    s = { s₀ with heap := h', toks := tk' } ∧ KtsTurn (outer.filterMap (·.frame)) g g' ∧ Below A₀ base outer g' ∧
    Fr g' L h' (kstB u [(Str.ofString "faces", .ref fl), (Str.ofString "order", .ref ol), (Str.ofString "paints", .ref pl), (Str.ofString "mark", .str mark tm), (Str.ofString "table", .ref TT)]) ∧
    News g' L h' ((I, itR (i : Int) ((fs.length : Int) - (i : Int))) :: (H, W.listOf vs.toArray hn) :: (TT, instObj 235 D) :: (D, dictOf [⟨hsh, .str (Str.ofString "_headers") t, .ref H⟩] 1) :: tups) ∧
    TabOk tups vs ents (3 * i) ∧ Names ents (tabE fs (e.take i))
theorem back_here {A₀ : Around} {base g : Heap} {outer : List Env} {L : Addr} {fs : List Tri} {e : List Nat} {fl ol pl TT H D : Addr} {hsh : Int} {t : Tok} {mark : PySem.Str} {tm : Tok} {I : Addr} {s₀ s : Shared} {i : Nat}
    (h : BackS A₀ base outer g L fs e fl ol pl TT H D hsh t mark tm I s₀ i s) : s.heap.get? I = some (itR (i : Int) ((fs.length : Int) - (i : Int))) := by
  obtain ⟨g', h', tk', u, vs, hn, tups, ents, rfl, _, _, _, N, _⟩ := h
  exact (N _ (.head _)).1
theorem range_size8 : ∀ n : Nat, n ≤ 8 → Builtin.Range.rangeSize 0 (n : Int) 1 = n := all8 (P := fun n => Builtin.Range.rangeSize 0 ((n : Nat) : Int) 1 = n) (by decide +kernel)
theorem range_small8 : ∀ n : Nat, n ≤ 8 → Builtin.Range.small 0 (n : Int) 1 = true := all8 (P := fun n => Builtin.Range.small 0 ((n : Nat) : Int) 1 = true) (by decide +kernel)
theorem back_for {prog : Program} {w : World} {A A₀ : Around} {E : Value → Shared → Prop} {s : Shared} {env : Env} {Q : Flow → Shared → Prop} {body : List PySem.Stmt} {x : PySem.Str} {px : Pos} {base g : Heap} {outer : List Env} {L r TT H D fl ol pl : Addr} {m : PySem.Str → Option Value} {hn : Nat} {hsh : Int} {t tm a1 a2 a3 : Tok} {mark : PySem.Str} {fs : List Tri} (e : List Nat)
    (hh : A.handled = none) (hr : IsRange s.heap r 0 (fs.length : Int) 1 a1 a2 a3) (l8 : fs.length ≤ 8)
    (B : Below A₀ base outer g) (F : Fr g L s.heap m) (N : News g L s.heap ((H, W.listOf #[] hn) :: (TT, instObj 235 D) :: (D, dictOf [⟨hsh, .str (Str.ofString "_headers") t, .ref H⟩] 1) :: []))
    (m1 : m (Str.ofString "faces") = some (.ref fl)) (m2 : m (Str.ofString "order") = some (.ref ol)) (m3 : m (Str.ofString "paints") = some (.ref pl)) (m4 : m (Str.ofString "mark") = some (.str mark tm)) (m5 : m (Str.ofString "table") = some (.ref TT))
    (hE : PassesOwn (model prog w) A env E)
    (step : ∀ TT H D t I i s', BackS A₀ base outer g L fs e fl ol pl TT H D hsh t mark tm I s i s' → i < fs.length → ∀ h', h'.get? I = some (itR ((i + 1 : Nat) : Int) ((fs.length : Int) - ((i + 1 : Nat) : Int))) → Heap.SameBut I s'.heap h' → ∀ t', ∀ K : Flow → Shared → Prop, (∀ f s₂, FEnd (BackS A₀ base outer g L fs e fl ol pl TT H D hsh t mark tm I s) Q (i + 1) f s₂ → K f s₂) → wpAny (model prog w) A (assign (.Name x px) env (.int (i : Int) t')) (fun _ s₂ => wpAny (model prog w) A (execs body env) K E s₂) E { s' with heap := h', toks := s'.toks + 1 })
    (fin : ∀ TT H D t I s', BackS A₀ base outer g L fs e fl ol pl TT H D hsh t mark tm I s fs.length s' → ∀ h', Heap.ExtBut I s'.heap h' → Q .next { s' with heap := h' }) :
    wpAny (model prog w) A (pyIter (.ref r)) (ForAt prog w A env (.Name x px) body Q E) E s := by
  refine wpAny_pyIter_range hr (range_small8 _ l8) ?_
  rw [range_size8 _ l8]
  refine forAt_range (n := fs.length) (BackS A₀ base outer g L fs e fl ol pl TT H D hsh t mark tm s.heap.objs.size s) hh (fun i s' h => back_here h) ?_ (fun i s' h => step TT H D t _ i s' h) (fun s' h => fin TT H D t _ s' h) hE
  have up : ∀ b o, s.heap.get? b = some o → (s.heap.push { cls := .type "range_iterator", data := .fields #[rawInt 0, rawInt (fs.length : Int), rawInt 1] }).get? b = some o := fun b o e => Heap.get?_push_of_some _ e
  refine ⟨g, _, _, m, [], hn, [], [], rfl, KtsTurn.refl, B, shel_fr (F.grownK up) ?_, fun p hp => ?_, ⟨.nil, (fun _ h => nomatch h), (fun _ h => nomatch h), Nat.zero_le _, (fun _ h => nomatch h)⟩, rfl⟩
  · simp only [List.forall_mem_cons]
    exact ⟨m1, m2, m3, m4, m5, fun _ h => nomatch h⟩
  · rcases List.mem_cons.mp hp with rfl | hp
    · refine ⟨?_, Nat.ne_of_gt F.ns.lt, ?_⟩
      · have e0 : ((0 : Nat) : Int) = 0 := rfl
        have e1 : (fs.length : Int) - ((0 : Nat) : Int) = fs.length := by omega
        show _ = some (itR ((0 : Nat) : Int) ((fs.length : Int) - ((0 : Nat) : Int)))
        rw [e1, e0]
        exact Heap.get?_push_size _ rfl
      · cases q : g.get? s.heap.objs.size with
        | none => rfl
        | some o => exact absurd (Heap.lt_size (F.keep _ _ q)) (Nat.lt_irrefl _)
    · have hp' : p ∈ (H, W.listOf #[] hn) :: (TT, instObj 235 D) :: (D, dictOf [⟨hsh, .str (Str.ofString "_headers") t, .ref H⟩] 1) :: [] := hp
      exact ⟨up _ _ (N p hp').1, (N p hp').2⟩
theorem fr_extBut {g h h' : Heap} {L I : Addr} {m : PySem.Str → Option Value} (F : Fr g L h m) (hI : g.get? I = none) (hL : I ≠ L) (k : Heap.ExtBut I h h') : Fr g L h' m :=
  ⟨F.ns.extBut k (Ne.symm hL), fun b o e => k b o (fun q => by rw [q, hI] at e; cases e) (F.keep b o e), F.above⟩
theorem back_off {g h : Heap} {L I H TT D : Addr} {x y hsh : Int} {t : Tok} {vs : List Value} {hn k : Nat} {tups : List (Addr × Obj)} {ents : List Ent} (N : News g L h ((I, itR x y) :: (H, W.listOf vs.toArray hn) :: (TT, instObj 235 D) :: (D, dictOf [⟨hsh, .str (Str.ofString "_headers") t, .ref H⟩] 1) :: tups)) (ok : TabOk tups vs ents k) :
    ∀ p ∈ (H, W.listOf vs.toArray hn) :: (TT, instObj 235 D) :: (D, dictOf [⟨hsh, .str (Str.ofString "_headers") t, .ref H⟩] 1) :: tups, p.1 ≠ I := by
  intro p hp
  have e := (N _ (.head _)).1
  have e2 := (N p (.tail _ hp)).1
  refine ne_cls e2 e ?_
  rcases List.mem_cons.mp hp with rfl | hp
  · simp [itR]
  · rcases List.mem_cons.mp hp with rfl | hp
    · simp [itR, instObj]
    · rcases List.mem_cons.mp hp with rfl | hp
      · simp [itR]
      · rw [ok.tuple p hp]; simp [itR]
theorem offI {g h : Heap} {L I H TT D : Addr} {x y hsh : Int} {t : Tok} {vs : List Value} {hn k : Nat} {tups : List (Addr × Obj)} {ents : List Ent} (N : News g L h ((I, itR x y) :: (H, W.listOf vs.toArray hn) :: (TT, instObj 235 D) :: (D, dictOf [⟨hsh, .str (Str.ofString "_headers") t, .ref H⟩] 1) :: tups)) (ok : TabOk tups vs ents k) : OffTab H TT D (I, itR x y) :=
  ⟨(back_off N ok _ (.head _)).symm, (back_off N ok _ (.tail _ (.head _))).symm, (back_off N ok _ (.tail _ (.tail _ (.head _)))).symm, .inl (by simp [itR])⟩
theorem split_at {e : List Nat} {i : Nat} (hi : i < e.length) : ∃ a x b, e = a ++ x :: b ∧ a = e.take i ∧ a.length = i ∧ b.length + 1 + i = e.length ∧ e.take (i + 1) = a ++ [x] := by
  refine ⟨e.take i, e[i], e.drop (i + 1), ?_, rfl, by rw [List.length_take]; omega, by rw [List.length_drop]; omega, ?_⟩
  · have := (List.take_append_drop i e).symm
    rwa [List.drop_eq_getElem_cons hi] at this
  · rw [List.take_add_one, List.getElem?_eq_getElem hi]; rfl
theorem back_end {A₀ : Around} {base g g2 h : Heap} {outer : List Env} {L : Addr} {fs : List Tri} {e a : List Nat} {x : Nat} {fl ol pl TT H D : Addr} {hsh : Int} {t : Tok} {mark : PySem.Str} {tm : Tok} {I : Addr} {s₀ : Shared} {i tk hn : Nat} {m : PySem.Str → Option Value} {vs : List Value} {tups : List (Addr × Obj)} {ents : List Ent} {Q : Flow → Shared → Prop} {great : Bool}
    (KT : KtsTurn (outer.filterMap (·.frame)) g g2) (B : Below A₀ base outer g2) (F : Fr g2 L h m) (N : News g2 L h ((I, itR ((i + 1 : Nat) : Int) ((fs.length : Int) - ((i + 1 : Nat) : Int))) :: (H, W.listOf vs.toArray hn) :: (TT, instObj 235 D) :: (D, dictOf [⟨hsh, .str (Str.ofString "_headers") t, .ref H⟩] 1) :: tups))
    (m1 : m (Str.ofString "faces") = some (.ref fl)) (m2 : m (Str.ofString "order") = some (.ref ol)) (m3 : m (Str.ofString "paints") = some (.ref pl)) (m4 : m (Str.ofString "mark") = some (.str mark tm)) (m5 : m (Str.ofString "table") = some (.ref TT))
    (ok : TabOk tups vs (lay3 ((tabE fs a).map str2) great (fAt fs x).1 (fAt fs x).2.1 (fAt fs x).2.2 ents) (3 * i + 3)) (hnm : Names ents (tabE fs a)) (hlo : (fAt fs x).1 ∈ low ∧ (fAt fs x).2.1 ∈ low ∧ (fAt fs x).2.2 ∈ low) (hat : e.take (i + 1) = a ++ [x]) :
    FEnd (BackS A₀ base outer g L fs e fl ol pl TT H D hsh t mark tm I s₀) Q (i + 1) .next { s₀ with heap := h, toks := tk } := by
  refine ⟨g2, h, tk, m, vs, hn, tups, lay3 ((tabE fs a).map str2) great (fAt fs x).1 (fAt fs x).2.1 (fAt fs x).2.2 ents, rfl, KT, B, shel_fr F ?_, N, ?_, ?_⟩
  rotate_left 1
  · rw [Nat.mul_add]; exact ok
  · rw [hat, tabE_snoc]; exact names_lay hlo hnm
  · simp only [List.forall_mem_cons]
    exact ⟨m1, m2, m3, m4, m5, fun _ h => nomatch h⟩
theorem neg_data {b0 b1 b2 : Bool} {n : Int} {u1 u2 u3 : Tok} (hn : n = hueOf (!b0) (!b1) (!b2)) : Data.seq #[Value.int n u1, .float (Float64.sub 4607182418800017408 (paintBits b0 b1 b2).2.1) u2, .float (paintBits b0 b1 b2).2.2 u3] 0 = Data.seq #[Value.int (hueOf (!b0) (!b1) (!b2)) u1, .float (paintBits (!b0) (!b1) (!b2)).2.1 u2, .float (paintBits (!b0) (!b1) (!b2)).2.2 u3] 0 := by
  rw [hn, neg_light, neg_share]
theorem neg_on {b0 b1 b2 : Bool} (h : (Float64.cmp (paintBits b0 b1 b2).2.2 4607182418800017408 == some Ordering.eq) = true) : (hueOf b0 b1 b2 + 3).fmod 6 = hueOf (!b0) (!b1) (!b2) := by
  have := neg_hue b0 b1 b2; rwa [if_pos h] at this
theorem neg_off {b0 b1 b2 : Bool} (h : (Float64.cmp (paintBits b0 b1 b2).2.2 4607182418800017408 == some Ordering.eq) = false) : (0 : Int) = hueOf (!b0) (!b1) (!b2) := by
  have := neg_hue b0 b1 b2; rwa [if_neg (by rw [h]; exact Bool.false_ne_true)] at this
end
-- part: MBack
section
theorem off_MBack : True := by w_top off; exact trivial
local macro_rules | `(tactic| k_room) => `(tactic| ktr_room)
local macro_rules | `(tactic| walk_at "compareOp NotEq ref ref") => `(tactic| ((with_reducible show wpAny _ _ (compareOp CmpOp.NotEq (Value.ref _) (Value.ref _)) _ _ _); refine stop_intro ?_))
local macro_rules | `(tactic| walk_at "compareOp Eq ref ref") => `(tactic| (k_here; (with_reducible show wpAny _ _ (compareOp CmpOp.Eq (Value.ref _) (Value.ref _)) _ _ _); refine ke_eq_ints (by is_list) (by is_list) (by first | exact IntsAre.nil | assumption) (by first | exact IntsAre.nil | assumption) (by ktr_units) ?_))
local macro_rules | `(tactic| walk_at "call ref") => `(tactic| ((with_reducible show wpAny _ _ (call (Value.ref 187) _ _) _ _ _); refine stop_intro ?_))
local macro_rules | `(tactic| walk_at "call ref") => `(tactic| ((with_reducible show wpAny _ _ (call (Value.ref 254) _ _) _ _ _); refine stop_intro ?_))
local macro_rules | `(tactic| walk_at "call ref") => `(tactic| ((with_reducible show wpAny _ _ (call (Value.ref 259) _ _) _ _ _); refine stop_intro ?_))
local macro_rules | `(tactic| walk_at "exec Assign cons ListComp") => `(tactic| (k_here; k_dflt (refine LCg.Assign_ListComp_U (F₀ := by k_asm) (by rfl) (by with_unfolding_all rfl) (by rfl) (by decide) (by rfl) (by decide) (by rfl) (by rfl) (by rfl) ?_)))
local macro_rules | `(tactic| walk_at "CompSrc") => `(tactic| (k_here; k_dflt (refine LCg.CompSrc.ledger (by rfl) (by k_asm) (by k_asm) (by k_mem) (by assumption) ?_); intro g'; refine stop_intro ?_))
local macro_rules | `(tactic| walk_at "eval IfExp") => `(tactic| ((with_reducible show wpAny _ _ (eval (PySem.Expr.IfExp _ _ (PySem.Expr.IfExp _ _ _ _) _) _) _ _ _); refine stop_intro ?_))
local macro_rules | `(tactic| walk_at "exec If") => `(tactic| ((with_reducible show wpAny _ _ (exec (PySem.Stmt.If _ [PySem.Stmt.Return _ _] _ _) _) _ _ _); refine stop_intro ?_))
local macro_rules | `(tactic| walk_at "subscriptTail Name Name ref int") => `(tactic| (k_here; (with_reducible show wpAny _ _ (subscriptTail _ _ (Value.ref _) (Value.int _ _)) _ _ _); refine item_listL (Fr.lst (by k_asm) (by assumption)) (by exact Int.natCast_nonneg _) (by assumption) (by assumption) ?_))
local macro_rules | `(tactic| walk_at "exec For") => `(tactic| ((with_reducible show wpAny _ _ (exec (PySem.Stmt.For (PySem.Expr.Name _ _) _ _ _ _) _) _ _ _); refine stop_intro ?_))
local macro_rules | `(tactic| walk_at "exec For Name Call cons nil") => `(tactic| (k_here; refine stop_intro ?_))
local macro_rules | `(tactic| walk_at "call builtin:len") => `(tactic| (k_here; (with_reducible show wpAny _ _ (call (Value.builtin "len") [Value.ref _]) _ _ _); refine len_faces (n := List.length _) (Fr.lst (by k_asm) (by assumption)) (by assumption) (by assumption) ?_))
local macro_rules | `(tactic| walk_at "subscriptTail Name BinOp ref int") => `(tactic| (k_here; refine stop_intro ?_))
theorem backward_spec : ∀ {w : World} {dp un : Nat} {gd : Option (List Code)} {outer : List Env} {base g : Heap} {s : Shared} {mean : ExcName → Option Value} {mg mb : PySem.Str → Option Value} {R : Result → Shared → Prop} (_ : Below ({ handled := none, depth := dp, frames := some outer, guards := gd, units := un } : Around) base outer g) (_ : ∀ b o, g.get? b = some o → s.heap.get? b = some o) (_ : g.objs.size ≤ s.heap.objs.size) (_ : (hd.heap_1 w.params).In g) (_ : Top qv looseL mean mg mb g) (_ : ({ handled := none, depth := dp, frames := some outer, guards := gd, units := un } : Around).handled = none) (_ : (hd.heap_1 w.params).In base) (_ : Top qv looseL mean mg mb base) (_ : KtsDicts (outer.filterMap (·.frame)) g) (_ : dp + 8 < recursionLimit) (_ : un + 80 < cLine)
    {fl ol pl : Addr} {fv ov pv : List Value} {fs : List Tri} {d : List Nat} {mark : PySem.Str} {tm : Tok} {pts : List (Addr × Obj)} (_ : g.IsList fl fv.toArray) (_ : StrsAre fv (fs.map str3)) (_ : g.IsList ol ov.toArray) (_ : IntsAre ov (d.map Int.ofNat)) (_ : g.IsList pl pv.toArray) (_ : PaintsAre fs pts pv d)
    (_ : ∀ q ∈ pts, g.get? q.1 = some q.2) (_ : Play fs) (_ : Sh fs d) (_ : d.length = fs.length) (_ : mark ∈ marks)
    (_ : ∀ h' tk' g', KtsTurn (outer.filterMap (·.frame)) g g' → (∀ b o, g'.get? b = some o → h'.get? b = some o) → R (.ok (.ret (.bool true))) { s with heap := h', toks := tk' }),
    codeAny (model PySem.Challenge.rw_tr0054_01.prog w) ({ handled := none, depth := dp, frames := some outer, guards := gd, units := un } : Around) (.call (.ref 269) ⟨[.ref fl, .ref ol, .ref pl, .str mark tm], []⟩) R s := by
  k_fill
  intro w dp un gd outer base g s mean mg mb R B kg sz X T hh XB TB D hdp hu fl ol pl fv ov pv fs d mark tm pts hfl hfv hol hov hpl hpv hpts play hsh hdl hmk ret
  have X := X
  have T := T
  have N0 : ∀ q ∈ ([] : List (Addr × Obj)), s.heap.get? q.1 = some q.2 ∧ g.get? q.1 = none := fun _ h => nomatch h
  have lf : fv.length = fs.length := by rw [hfv.length, List.length_map]
  have lo : ov.length = fs.length := by rw [hov.length, List.length_map, hdl]
  have lp : pv.length = fs.length := by rw [hpv.1, hdl]
  have l8 : fs.length ≤ 8 := by rcases play.len with e | e <;> omega
  k_dflt (first | (refine' enterG ?k1 ?k2 ?k3 ?k4 ?k5 ?k6 ?k7 ?k8 ?k9 ?kb ?kB ?_ ?c2 ?c3 ?c4 ?c5; (case k1 => k_asm); (case k2 => k_asm); (case k3 => k_asm); (case k4 => k_asm); (case k5 => k_asm); (case k6 => k_asm); (case k7 => k_is); (case k8 => k_is); (case k9 => ktr_room); (case kb => first | exact BindsTo.of_eq rfl | exact binds_K (by k_in) rfl (by k_is) rfl rfl rfl); (case c5 => decide); (case kB => exact locs rfl); (case c2 => exact rfl); (case c3 => exact rfl); (case c4 => exact rfl); k_whole; intro L' h' F' N' l1; (try k_lt l1); (try dsimp only); (try k_fold)) | (refine' enterGC ?k1 ?k2 ?k3 ?k4 ?k5 ?k6 ?k7 ?k8 ?k9 ?kb ?kB ?kD ?_ ?c2 ?c3 ?c4; (case k1 => k_asm); (case k2 => k_asm); (case k3 => k_asm); (case k4 => k_asm); (case k5 => k_asm); (case k6 => k_asm); (case k7 => k_is); (case k8 => k_is); (case k9 => ktr_room); (case kb => first | exact BindsTo.of_eq rfl | exact binds_K (by k_in) rfl (by k_is) rfl rfl rfl); (case kB => exact rfl); (case kD => decide +kernel); (case c2 => exact rfl); (case c3 => exact rfl); (case c4 => exact rfl); k_whole; intro L' h' tk' cells' F' N' Y' l1; (try k_lt l1); k_cells Y'; (try simp only [List.cons_append, List.nil_append] at N'); (try dsimp only); (try k_fold)))
  k_steps
  unfold Stop
  refine for_own ?_
  k_steps
  (with_reducible rename Fr _ _ _ _ => fX); (with_reducible rename News _ _ _ _ => nX); (rename IsRange _ _ _ _ _ _ _ _ => rX)
  refine back_for d.reverse rfl rX l8 B fX nX rfl rfl rfl rfl rfl (by first | passes_own | with_unfolding_all passes_own) ?step ?fin
  case fin =>
    clear X T fX nX rX l1
    intro TT H Dt t I s4 hS h5 k1
    obtain ⟨g', h', tk', u, vs, hn, tups, ents, rfl, KT, B', F', N', ok, hnm⟩ := hS
    have hIL := (N' _ (.head _)).2
    have F5 := fr_extBut F' hIL.2 hIL.1 k1
    have N5 : News g' L' h5 ((H, W.listOf vs.toArray hn) :: (TT, instObj 235 Dt) :: (Dt, _) :: tups) := fun p hp => ⟨k1 _ _ (back_off N' ok p hp) (N' p (.tail _ hp)).1, (N' p (.tail _ hp)).2⟩
    clear F' N' k1
    have X := XB.keeps B'.stays
    have T := TB.keeps B'.stays
    have hen : ents = [] := by
      rw [List.take_of_length_le (by rw [List.length_reverse, hdl]; exact Nat.le_refl _), play.none (play.back hsh hdl).1 (by rw [List.length_reverse, hdl])] at hnm
      cases ents with | nil => rfl | cons _ _ => cases hnm
    subst hen
    k_steps
    unfold Stop
    (with_reducible rename News _ _ _ _ => nX); (with_reducible rename Fr _ _ _ _ => fX)
    refine keys_use [] B' fX X nX T rfl rfl (by ktr_room) (by ktr_units) (fun _ h => nomatch h) ok (by omega) ?_
    intro ln ys h1 tk1 F1 N1 o1 hys
    cases hys
    have N2 : News g' L' h1 ((ln, LCg.lst []) :: (H, W.listOf vs.toArray hn) :: (TT, instObj 235 Dt) :: (Dt, _) :: tups) := N1
    clear fX nX N1 o1
    k_steps
    (with_reducible rename Fr _ _ _ _ => fZ)
    exact ret _ _ g' KT fZ.keep
  case step =>
    clear X T fX nX rX l1
    intro TT H Dt t I i s4 hS hi h5 k1 k2 t5 K hK
    obtain ⟨g', h', tk', u, vs, hn, tups, ents, rfl, KT, B', F', N', ok, hnm⟩ := hS
    have hIL := (N' _ (.head _)).2
    have F5 := F'.change k2 hIL.1 hIL.2
    have N5 : News g' L' h5 ((I, itR ((i + 1 : Nat) : Int) ((fs.length : Int) - ((i + 1 : Nat) : Int))) :: (H, W.listOf vs.toArray hn) :: (TT, instObj 235 Dt) :: (Dt, _) :: tups) := fun p hp => by
      rcases List.mem_cons.mp hp with rfl | hp
      · exact ⟨k1, hIL⟩
      · exact ⟨k2.extBut _ _ (back_off N' ok p hp) (N' p (.tail _ hp)).1, (N' p (.tail _ hp)).2⟩
    clear F' N' k1 k2
    have X := XB.keeps B'.stays
    have T := TB.keeps B'.stays
    have D' := D.turn KT
    have hrl : d.reverse.length = fs.length := by rw [List.length_reverse, hdl]
    obtain ⟨a, x, b, he, hat, hal, hbl, hat1⟩ := split_at (e := d.reverse) (i := i) (by rw [hrl]; exact hi)
    rw [hrl] at hbl
    have hdd : d = b.reverse ++ x :: a.reverse := by
      have := congrArg List.reverse he
      simpa using this
    obtain ⟨hshr, hbk⟩ := play.back hsh hdl
    obtain ⟨bk0, bk1, bk2⟩ := hbk _ _ _ hdd
    rw [List.reverse_reverse] at bk0 bk1 bk2
    obtain ⟨hsa, hxn, hxa, hcond⟩ := hshr.split he
    obtain ⟨tx, hox⟩ := ints_get hov (i := b.length) (x := x) (by rw [hdd, List.getElem?_append_right (by simp)]; simp)
    obtain ⟨p, ta0, tb0, tc0, hpos0, hpp, hpm⟩ := hpv.2.2 _ _ _ hdd
    rw [List.length_reverse] at hpp
    rw [← hat] at hnm
    have hi8 : i ≤ 8 := Nat.le_of_lt (Nat.lt_of_lt_of_le hi l8)
    have hel : ents.length ≤ 24 := ents24 ok.pairs.len ok.len hi8
    have hx8 : x < 8 := Nat.lt_of_lt_of_le hxn l8
    have o1000 : ov.length ≤ 1000 := by rw [lo]; exact Nat.le_trans l8 (by decide)
    have p1000 : pv.length ≤ 1000 := by rw [lp]; exact Nat.le_trans l8 (by decide)
    have obl : b.length + 1 + i = ov.length := by rw [lo]; exact hbl
    have pbl : b.length + 1 + i = pv.length := by rw [lp]; exact hbl
    have had : i + 1 = fs.length → a.length + 1 = fs.length := fun q => by rw [hal]; exact q
    have hda : a.length + 1 = fs.length → i + 1 = fs.length := fun q => by rw [← hal]; exact q
    obtain ⟨tq, hfi⟩ := face_at hfv hxn
    have hflo := play.low _ (fAt_mem hxn)
    have hx63 : ((x : Nat) : Int) < 2 ^ 63 := by omega
    have hfl1 := isList_turn KT D hfl
    have hol1 := isList_turn KT D hol
    k_steps
    unfold Stop
    (with_reducible rename Fr _ _ _ _ => fX)
    refine item_negL (Fr.lst fX (isList_turn KT D hol)) (neg_hi i) (neg_lo obl) o1000 (x := .int (x : Int) tx) ?_ ?_
    · rw [neg_at obl]; exact hox
    k_steps
    unfold Stop
    (with_reducible rename News _ _ _ _ => nX); (with_reducible rename Fr _ _ _ _ => fX)
    refine keys_use [(I, itR ((i + 1 : Nat) : Int) ((fs.length : Int) - ((i + 1 : Nat) : Int)))] B' fX X nX T rfl rfl (by ktr_room) (by ktr_units) ?off ok (by omega) ?_
    case off => exact fun r hr => by rw [List.mem_singleton.mp hr]; exact offI nX ok
    intro ln ys h1 tk1 F1 N1 o1 hys
    have N2 : News g' L' h1 ((ln, LCg.lst ys) :: (I, itR ((i + 1 : Nat) : Int) ((fs.length : Int) - ((i + 1 : Nat) : Int))) :: (H, W.listOf vs.toArray hn) :: (TT, instObj 235 Dt) :: (Dt, _) :: tups) := N1
    have hyl : ys.length = ents.length := by rw [hys.length, List.length_map]
    have hys1 : ys.toArray.size ≤ sizeLine := by rw [List.size_toArray, hyl, sizeLine_eq]; omega
    clear fX nX N1
    k_steps
    unfold Stop
    have hlow : (ents.map (·.1)).map Txt.lower = (tabE fs a).map str2 := by rw [List.map_map]; exact hnm
    refine restG_each (fun j y => ∃ z t, y = Value.str z t ∧ ((tabE fs a).map str2)[j]? = some z) (.inr ⟨_, .head _, rfl, _, rfl⟩) _ ?ct ?cf
    case ct =>
      intro j v I2 oI C oC D₂ m₂ h tk E' zs hj hv hC hx F N off nei
      rw [List.getElem?_toArray] at hv
      obtain ⟨z, tz, rfl, hx2⟩ := strs_at hys hv
      have hxl : z.length ≤ 10 := by
        obtain ⟨e, he, rfl⟩ := List.mem_map.mp (List.mem_of_getElem? hx2)
        exact ok.short e he
      have hG : ((tabE fs a).map str2)[j]? = some (Txt.lower z) := by rw [← hlow, List.getElem?_map, hx2]; rfl
      clear off
      k_steps
      all_goals first | exact F | exact N
    case cf =>
      intro zs hl2 hG D₂ h' tk' F' N' o1'
      (try dsimp only)
      have hzs : StrsAre zs ((tabE fs a).map str2) := strs_each (by rw [hl2, List.size_toArray, hyl, ← hlow, List.length_map, List.length_map]) hG
      have hDH : D₂ ≠ H := (off1_ne o1' (H, W.listOf vs.toArray hn) (by simp)).symm
      have n2 : News g' L' h' ((D₂, LCg.lst zs) :: (I, itR ((i + 1 : Nat) : Int) ((fs.length : Int) - ((i + 1 : Nat) : Int))) :: (H, W.listOf vs.toArray hn) :: (TT, instObj 235 Dt) :: (Dt, _) :: tups) := fun q hq => N' q (led_skip1 hq)
      clear N2 F1 hG N'
      k_steps
      unfold Stop
      (with_reducible rename News _ _ _ _ => nX); (with_reducible rename Fr _ _ _ _ => fX)
      refine due_via fX nX fs fs.length i x ?e1 ?e2
      case e1 =>
        refine IfExp_ ?_
        k_steps
        all_goals (try (with_reducible rename News _ _ _ _ => nZ))
        all_goals first
          | assumption
          | exact dupN nZ
          | exact .inl ⟨z_of (by assumption), _, rfl⟩
          | exact .inr (.inl ⟨nz_of (by assumption), last_of (by assumption), _, rfl⟩)
          | exact .inr (.inr ⟨nz_of (by assumption), nlast_of (by assumption), rfl, _, _, rfl⟩)
         
      case e2 =>
        intro v dl dob h4 tk4 F4 N4 hdue
        clear fX nX
        k_steps
        unfold Stop
        (with_reducible rename News _ _ _ _ => nX); (with_reducible rename Fr _ _ _ _ => fX)
        refine if_viaG (A₀ := ({ handled := none, depth := dp, frames := some outer, guards := gd, units := un } : Around)) (base := base) (outer := outer) fX nX ?i1 ?i2
        case i1 =>
          refine wpAny_If ?_
          have hsum : ((((tabE fs a).map str2).map (·.length)).sum + ((tabE fs a).map str2).length) ≤ 1000 := by
            have : (tabE fs a).length = ents.length := by have := congrArg List.length hlow; simpa using this.symm
            rw [str2_sum, List.length_map]; exact sum_le this hel
          k_steps
          unfold Stop
          rcases hdue with ⟨q0, t', rfl⟩ | ⟨q0, q1, t', rfl⟩ | ⟨q0, q1, rfl, da, db, rfl⟩
          · have ha0 : a = [] := List.length_eq_zero_iff.mp (by rw [hal]; exact q0)
            subst ha0
            refine answer_use B' fX X nX T XB TB D' rfl (by ktr_room) (by ktr_units) ⟨_, (nX _ (.tail _ (.head _))).1, rfl, _, rfl⟩ hzs hsum (Int.natCast_nonneg _) (by omega) hmk ?pn ?pi ?po
            case pi => intro q1; rw [shared_es, show tabE fs [] = [] from rfl, shE_nil] at q1; exact absurd q1 (by decide)
            case po => intro q1; rw [shared_es, show tabE fs [] = [] from rfl, shE_nil] at q1; exact absurd q1 (by decide)
            case pn =>
              intro _ t' h' tk' g3 T3 B3 F3 N3
              clear fX nX
              k_steps
              all_goals first | assumption
          · have hil := play.last hsa (had q1) hxn hxa
            refine answer_use B' fX X nX T XB TB D' rfl (by ktr_room) (by ktr_units) ⟨_, (nX _ (.tail _ (.head _))).1, rfl, _, rfl⟩ hzs hsum (Int.natCast_nonneg _) (by omega) hmk ?pn ?pi ?po
            case pn => intro q1; rw [shared_es] at q1; have z := hil.1; exact absurd z (by rw [q1]; exact Int.lt_irrefl 0)
            case po => intro q1 q2; rw [shared_es, touch_es] at q2; exact absurd q2 hil.2
            case pi =>
              intro _ _ t' h' tk' g3 T3 B3 F3 N3
              clear fX nX
              k_steps
              all_goals first | assumption
          · have hft : Fits (tabE fs a) (fAt fs x) := by
              rcases hcond with q | q | q
              · rw [q] at hal; exact absurd hal.symm q0
              · exact absurd (hda q) q1
              · exact q
            refine answer_use B' fX X nX T XB TB D' rfl (by ktr_room) (by ktr_units) ⟨_, (nX _ (.tail _ (.head _))).1, rfl, _, rfl⟩ hzs hsum (Int.natCast_nonneg _) (by omega) hmk ?pn ?pi ?po
            case pn => intro q1; rw [shared_es] at q1; have z := hft.1; exact absurd z (by rw [q1]; exact Int.lt_irrefl 0)
            case pi => intro q1 q2; rw [shared_es, touch_es] at q2; exact absurd hft.2 q2
            case po =>
              intro _ _ la h' tk' ta tb F3 N3 o3
              clear fX nX
              k_steps
              unfold Stop
              (with_reducible rename News _ _ _ _ => nZ)
              refine ne_dataH (reads_tuple_at (News.get nZ (by k_mem)) rfl rfl (by ke_reads)) (reads_tuple_at (News.get nZ (by k_mem)) rfl rfl (by ke_reads)) (shaped_pair (strOk3 hflo)) (shaped_pair (strOk3 hflo)) (by ktr_units) ?_
              rw [same_pair]
              k_steps
              all_goals first | assumption | exact KtsTurn.refl | exact fun q hq => nZ q (.tail _ hq)
        case i2 =>
          intro g2 h6 tk6 KT2 B2 F6 N6
          have N6 : News g2 L' h6 ((D₂, LCg.lst zs) :: (I, itR ((i + 1 : Nat) : Int) ((fs.length : Int) - ((i + 1 : Nat) : Int))) :: (H, W.listOf vs.toArray hn) :: (TT, instObj 235 Dt) :: (Dt, _) :: tups) := fun q hq => N6 q (.tail _ hq)
          clear fX nX
          have hp2 : g2.get? p = some (paintObj (bit0 (tabE fs b.reverse) (fAt fs x)) (bit1 (tabE fs b.reverse) (fAt fs x)) (bit2 (tabE fs b.reverse) (fAt fs x)) ta0 tb0 tc0) := by
            refine (KT.trans KT2).other p _ (hpts _ hpm) fun hm => ?_
            obtain ⟨o', es', n', ho', hd'⟩ := D p hm
            rw [hpts _ hpm] at ho'
            cases ho'
            simp [paintObj] at hd'
          generalize bit0 (tabE fs b.reverse) (fAt fs x) = b0 at *
          generalize bit1 (tabE fs b.reverse) (fAt fs x) = b1 at *
          generalize bit2 (tabE fs b.reverse) (fAt fs x) = b2 at *
          have hpT : IsTup g2 p #[.int (hueOf b0 b1 b2) ta0, .float (paintBits b0 b1 b2).2.1 tb0, .float (paintBits b0 b1 b2).2.2 tc0] := ⟨_, hp2, rfl, _, rfl⟩
          have X2 := XB.keeps B2.stays
          have T2 := TB.keeps B2.stays
          have D2 := D'.turn KT2
          have hfl2 := isList_turn (KT.trans KT2) D hfl
          k_steps
          unfold Stop
          (with_reducible rename Fr _ _ _ _ => fX)
          refine item_negL (Fr.lst fX (isList_turn (KT.trans KT2) D hpl)) (neg_hi i) (neg_lo pbl) p1000 (x := .ref p) ?_ ?_
          · rw [neg_at pbl]; exact hpp
          k_steps
          all_goals unfold Stop
          all_goals ((with_reducible rename News _ _ _ _ => nX); (with_reducible rename Fr _ _ _ _ => fX); (rename_i ca Dn hh1 l1n hh2))
          · have hneg := neg_on ca
            refine wpAny_If ?_
            k_steps
            unfold Stop
            (with_reducible rename News _ _ _ _ => nY); (with_reducible rename Fr _ _ _ _ => fY)
            refine lay_use [(Dn, _), (D₂, LCg.lst zs), (I, itR ((i + 1 : Nat) : Int) ((fs.length : Int) - ((i + 1 : Nat) : Int)))] B2 fY X2 nY T2 rfl rfl (by ktr_room) (by ktr_units) ?off (.tail _ (.head _)) rfl ⟨_, rfl⟩ hzs hflo.1 hflo.2.1 hflo.2.2 ok (by omega) ?_
            case off =>
              intro r hr
              have eH := (nY _ (.tail _ (.tail _ (.tail _ (.head _))))).1
              have eT := (nY _ (.tail _ (.tail _ (.tail _ (.tail _ (.head _)))))).1
              have eD := (nY _ (.tail _ (.tail _ (.tail _ (.tail _ (.tail _ (.head _))))))).1
              rcases List.mem_cons.mp hr with rfl | hr
              · have e1 := (nY _ (.head _)).1
                refine ⟨ne_cls e1 eH (by simp), ne_cls e1 eT (by simp [instObj]), ne_cls e1 eD (by simp), .inr fun ⟨_, _, _, _, _, q⟩ => by simp at q⟩
              · rcases List.mem_cons.mp hr with rfl | hr
                · exact off_lst (o1 := W.listOf vs.toArray hn) (nY _ (.tail _ (.head _))).1 eT eD rfl hDH
                · rw [List.mem_singleton.mp hr]
                  exact offI (fun q hq => nY q (.tail _ (.tail _ hq))) ok
            intro lp ys2 hn2 tups2 h7 tk7 ta tb tc hpos F7 N7 o7 ok7
            have e0 : inNames ((tabE fs a).map str2) (fAt fs x).2.1 (fAt fs x).1 = !b0 := by rw [inNames_es]; exact bk0
            have e1 : inNames ((tabE fs a).map str2) (fAt fs x).2.2 (fAt fs x).2.1 = !b1 := by rw [inNames_es]; exact bk1
            have e2 : inNames ((tabE fs a).map str2) (fAt fs x).1 (fAt fs x).2.2 = !b2 := by rw [inNames_es]; exact bk2
            rw [e0, e1, e2] at N7
            have N8 : News g2 L' h7 ((lp, paintObj (!b0) (!b1) (!b2) ta tb tc) :: (Dn, _) :: (D₂, LCg.lst zs) :: (I, itR ((i + 1 : Nat) : Int) ((fs.length : Int) - ((i + 1 : Nat) : Int))) :: (H, W.listOf ys2.toArray hn2) :: (TT, instObj 235 Dt) :: (Dt, _) :: tups2) := N7
            clear N7 nY fY; (try clear nX); (try clear fX)
            k_steps
            unfold Stop
            (with_reducible rename News _ _ _ _ => nZ); (with_reducible rename Fr _ _ _ _ => fZ)
            have hlT : Heap.IsTuple h7 lp #[.int (hueOf (!b0) (!b1) (!b2)) ta, .float (paintBits (!b0) (!b1) (!b2)).2.1 tb, .float (paintBits (!b0) (!b1) (!b2)).2.2 tc] := ⟨_, (nZ _ (.head _)).1, rfl, _, rfl⟩
            have hnT : Heap.IsTuple h7 Dn #[.int (hueOf (!b0) (!b1) (!b2)) _, .float (paintBits (!b0) (!b1) (!b2)).2.1 (_ + 1), .float (paintBits (!b0) (!b1) (!b2)).2.2 tc0] := ⟨_, (nZ _ (.tail _ (.head _))).1, rfl, _, neg_data hneg⟩
            have hbk : NoneBooked h7 := booked_of (X2.keeps fZ.keep)
            refine ne_triple hlT hnT (by simp only [units_deeper]; omega) (self_light _ _ _) (self_share _ _ _) hpos ⟨Nat.succ_pos _, hpos0.2⟩ hbk ?_
            k_steps
            (with_reducible rename News _ _ _ _ => nW); (with_reducible rename Fr _ _ _ _ => fW)
            exact hK _ _ (back_end (KT.trans KT2) B2 fW (fun q hq => nW q (.tail _ (.tail _ (.tail _ hq)))) rfl rfl rfl rfl rfl ok7 hnm hflo hat1)
          · have hneg := neg_off ca
            refine wpAny_If ?_
            k_steps
            unfold Stop
            (with_reducible rename News _ _ _ _ => nY); (with_reducible rename Fr _ _ _ _ => fY)
            refine lay_use [(Dn, _), (D₂, LCg.lst zs), (I, itR ((i + 1 : Nat) : Int) ((fs.length : Int) - ((i + 1 : Nat) : Int)))] B2 fY X2 nY T2 rfl rfl (by ktr_room) (by ktr_units) ?off (.tail _ (.head _)) rfl ⟨_, rfl⟩ hzs hflo.1 hflo.2.1 hflo.2.2 ok (by omega) ?_
            case off =>
              intro r hr
              have eH := (nY _ (.tail _ (.tail _ (.tail _ (.head _))))).1
              have eT := (nY _ (.tail _ (.tail _ (.tail _ (.tail _ (.head _)))))).1
              have eD := (nY _ (.tail _ (.tail _ (.tail _ (.tail _ (.tail _ (.head _))))))).1
              rcases List.mem_cons.mp hr with rfl | hr
              · have e1 := (nY _ (.head _)).1
                refine ⟨ne_cls e1 eH (by simp), ne_cls e1 eT (by simp [instObj]), ne_cls e1 eD (by simp), .inr fun ⟨_, _, _, _, _, q⟩ => by simp at q⟩
              · rcases List.mem_cons.mp hr with rfl | hr
                · exact off_lst (o1 := W.listOf vs.toArray hn) (nY _ (.tail _ (.head _))).1 eT eD rfl hDH
                · rw [List.mem_singleton.mp hr]
                  exact offI (fun q hq => nY q (.tail _ (.tail _ hq))) ok
            intro lp ys2 hn2 tups2 h7 tk7 ta tb tc hpos F7 N7 o7 ok7
            have e0 : inNames ((tabE fs a).map str2) (fAt fs x).2.1 (fAt fs x).1 = !b0 := by rw [inNames_es]; exact bk0
            have e1 : inNames ((tabE fs a).map str2) (fAt fs x).2.2 (fAt fs x).2.1 = !b1 := by rw [inNames_es]; exact bk1
            have e2 : inNames ((tabE fs a).map str2) (fAt fs x).1 (fAt fs x).2.2 = !b2 := by rw [inNames_es]; exact bk2
            rw [e0, e1, e2] at N7
            have N8 : News g2 L' h7 ((lp, paintObj (!b0) (!b1) (!b2) ta tb tc) :: (Dn, _) :: (D₂, LCg.lst zs) :: (I, itR ((i + 1 : Nat) : Int) ((fs.length : Int) - ((i + 1 : Nat) : Int))) :: (H, W.listOf ys2.toArray hn2) :: (TT, instObj 235 Dt) :: (Dt, _) :: tups2) := N7
            clear N7 nY fY; (try clear nX); (try clear fX)
            k_steps
            unfold Stop
            (with_reducible rename News _ _ _ _ => nZ); (with_reducible rename Fr _ _ _ _ => fZ)
            have hlT : Heap.IsTuple h7 lp #[.int (hueOf (!b0) (!b1) (!b2)) ta, .float (paintBits (!b0) (!b1) (!b2)).2.1 tb, .float (paintBits (!b0) (!b1) (!b2)).2.2 tc] := ⟨_, (nZ _ (.head _)).1, rfl, _, rfl⟩
            have hnT : Heap.IsTuple h7 Dn #[.int (hueOf (!b0) (!b1) (!b2)) _, .float (paintBits (!b0) (!b1) (!b2)).2.1 (_ + 1), .float (paintBits (!b0) (!b1) (!b2)).2.2 tc0] := ⟨_, (nZ _ (.tail _ (.head _))).1, rfl, _, neg_data hneg⟩
            have hbk : NoneBooked h7 := booked_of (X2.keeps fZ.keep)
            refine ne_triple hlT hnT (by simp only [units_deeper]; omega) (self_light _ _ _) (self_share _ _ _) hpos ⟨Nat.succ_pos _, hpos0.2⟩ hbk ?_
            k_steps
            (with_reducible rename News _ _ _ _ => nW); (with_reducible rename Fr _ _ _ _ => fW)
            exact hK _ _ (back_end (KT.trans KT2) B2 fW (fun q hq => nW q (.tail _ (.tail _ (.tail _ hq)))) rfl rfl rfl rfl rfl ok7 hnm hflo hat1)
end
-- part: MSkin0
section
theorem off_MSkin0 : True := by w_top off; exact trivial
local macro_rules | `(tactic| k_room) => `(tactic| ktr_room)
section
open LCg LCt
variable {prog : Program} {w : World} {A : Around} {s : Shared} {h₀ : Heap} {L : Addr} {m : PySem.Str → Option Value} {env : Env}
/-- a comprehension with one test on the turn's number that hands on its own name -/
theorem filtT {ct : PySem.Expr} {x : PySem.Str} {px : Pos} {scope : PySem.Scope} {cl : List (PySem.Str × Addr)} {S : List (Addr × Obj) → Prop} {P : Nat → Value → Prop} {Fin : List Value → List (Addr × Obj) → Prop} (b : Nat → Bool) {news : List (Addr × Obj)} (hS : S news) (n : Nat)
    (turn : ∀ i v I oI C oC D m₂ h tk (E' : Value → Shared → Prop) ys, i < n → P i v → NsObj oC m₂ → m₂ x = some v → Fr h₀ L h m → News h₀ L h ((I, oI) :: (C, oC) :: (D, lst ys) :: news) → Off3 I C D news → ((@Ne Nat I C) ∧ (@Ne Nat I D) ∧ (@Ne Nat C D)) →
      wpAny (model prog w) A (isTrue ct (compEnvC scope cl C env) (eval ct (compEnvC scope cl C env))) (fun ok s' => ok = b i ∧ ∃ h' tk', s' = { s with heap := h', toks := tk' } ∧ Fr h₀ L h' m ∧ News h₀ L h' ((I, oI) :: (C, oC) :: (D, lst ys) :: news)) E' { s with heap := h, toks := tk })
    (hk : ∀ C, (compEnvC scope cl C env).scope.kind = .function) (hl : ∀ C, (compEnvC scope cl C env).kindOf x = some .local) (hd : (x == ("__debug__" : PySem.Str)) = false)
    (fin : ∀ ys : List Value, ys.length = ((List.range n).filter b).length → (∀ (j : Nat) v t, ys[j]? = some v → ((List.range n).filter b)[j]? = some t → P t v) → Fin ys news) :
    CompRestT prog w A h₀ L m env ct (.Name x px) x scope cl s S P Fin n 0 [] news := by
  have go : ∀ k i (ys : List Value), i + k = n → ys.length = ((List.range i).filter b).length → (∀ (j : Nat) v t, ys[j]? = some v → ((List.range i).filter b)[j]? = some t → P t v) → CompRestT prog w A h₀ L m env ct (.Name x px) x scope cl s S P Fin k i ys news := by
    intro k
    induction k with
    | zero =>
      intro i ys hi hl hP
      rw [Nat.add_zero] at hi; subst hi
      exact CompRestT.zero (fin ys hl hP)
    | succ k ih =>
      intro i ys hi hlen hP
      refine CompRestT.succ fun v I oI C oC D m₂ h tk E' hv hC hx F N off ne => ?_
      refine wpAny_mono (turn i v I oI C oC D m₂ h tk E' _ (by omega) hv hC hx F N off ne) (fun ok s' h' => ?_) fun _ _ e => e
      obtain ⟨rfl, h₁, tk₁, rfl, F₁, N₁⟩ := h'
      have e1 : (List.range (i + 1)).filter b = (List.range i).filter b ++ (if b i then [i] else []) := by
        rw [List.range_succ, List.filter_append, List.filter_cons, List.filter_nil]
      cases hp : b i with
      | true =>
        rw [hp, if_pos rfl] at e1
        simp only [if_true]
        refine ldVarK (hC.ns (N₁ _ (.tail _ (.head _))).1) hx ?_ (hk C) (hl C) hd
        refine CompEnd.intro F₁ N₁ news (fun _ q => q) off hS (ih (i + 1) _ (by omega) (by rw [e1, List.length_append, List.length_append, hlen]; rfl) fun j u t hj ht => ?_)
        rw [e1] at ht
        rcases Nat.lt_trichotomy j ys.length with q | q | q
        · rw [List.getElem?_append_left q] at hj
          rw [List.getElem?_append_left (by omega)] at ht
          exact hP j u t hj ht
        · subst q
          rw [List.getElem?_append_right (Nat.le_refl _), Nat.sub_self] at hj
          rw [List.getElem?_append_right (by omega), hlen, Nat.sub_self] at ht
          cases hj; cases ht; exact hv
        · have hnone : (ys ++ [v])[j]? = none := List.getElem?_eq_none (by rw [List.length_append, List.length_singleton]; omega)
          rw [hnone] at hj; cases hj
      | false =>
        rw [hp, if_neg Bool.false_ne_true, List.append_nil] at e1
        simp only [Bool.false_eq_true, if_false]
        exact CompEnd.intro F₁ N₁ news (fun _ q => q) off hS (ih (i + 1) _ (by omega) (by rw [e1]; exact hlen) fun j u t hj ht => hP j u t hj (by rw [e1] at ht; exact ht))
  exact go n 0 [] (by omega) rfl (fun j v t h => by simp at h)
end
section
variable {prog : Program} {w : World} {A : Around} {E : Value → Shared → Prop} {s : Shared} {h₀ : Heap} {L D : Addr} {m : PySem.Str → Option Value} {news news' : List (Addr × Obj)} {vs : List Value} {n : Nat} {i : Int} {k : Nat} {u : Tok} {y : Value}
theorem cut_at : ∀ {l : List Value} {k : Nat} {y : Value}, l[k]? = some y → W.kl_cut l k = some (l.take k, y, l.drop (k + 1))
  | x :: r, 0, y, h => by cases h; rfl
  | x :: r, k + 1, y, h => by
    have e := cut_at (l := r) (k := k) (y := y) h
    show (match W.kl_cut r k with | some (p, y, q) => some (x :: p, y, q) | none => none) = _
    rw [e]; rfl
theorem fits_small {i : Int} (h0 : 0 ≤ i) (h1 : i < 1000) : Builtin.List.listFitsIndex i = true := by
  unfold Builtin.List.listFitsIndex
  simp only [Bool.and_eq_true, decide_eq_true_eq]
  omega
theorem pop_at {Q : Value → Shared → Prop} (F : Fr h₀ L s.heap m) (N : News h₀ L s.heap news) (U : W.Upd D (W.listOf vs.toArray n) (W.listOf (vs.eraseIdx k).toArray (n + 1)) news news') (hi : i = (k : Int)) (hy : vs[k]? = some y) (hl : vs.length ≤ 1000)
    (h : ∀ h', Fr h₀ L h' m → News h₀ L h' news' → Q y { s with heap := h' }) : wpAny (model prog w) A (call (.builtin "list.pop") [.ref D, .int i u]) Q E s := by
  have hk : k < vs.length := by
    rcases Nat.lt_or_ge k vs.length with q | q
    · exact q
    · rw [List.getElem?_eq_none q] at hy; cases hy
  rw [List.eraseIdx_eq_take_drop_succ] at U
  refine W.kl_popAt F N (fits_small (by omega) (by omega)) (k := k) ?_ (cut_at hy) U (by rw [sizeLine_eq]; show vs.length ≤ _; omega) h
  subst hi
  rw [List.size_toArray]
  exact seqIndex_of (Int.natCast_nonneg _) (by omega)
theorem ext_at {b : Addr} {ys : List Value} {n2 : Nat} {Q : Value → Shared → Prop} (F : Fr h₀ L s.heap m) (N : News h₀ L s.heap news) (hb : (b, W.listOf ys.toArray n2) ∈ news) (U : W.Upd D (W.listOf vs.toArray n) (W.listOf (vs ++ ys).toArray (n + 1)) news news') (hy : 0 < ys.length) (hl : vs.length + ys.length ≤ 1000)
    (h : ∀ h', Fr h₀ L h' m → News h₀ L h' news' → Q .none { s with heap := h' }) : wpAny (model prog w) A (call (.builtin "list.extend") [.ref D, .ref b]) Q E s := by
  refine W.kl_extend F N hb rfl (by show ys.length ≠ 0; omega) U ?_ (by rw [sizeLine_eq]; show vs.length ≤ _; omega) (by rw [List.size_toArray, List.size_toArray, sizeLine_eq]; omega) h
  simp only [Bool.and_eq_true, not_and, Bool.not_eq_true]
  intro _
  unfold Builtin.List.listTooLong
  simp only [List.size_toArray]
  exact decide_eq_false (by have := sizeLine_eq; omega)
theorem set_at {v : Value} {Q : Unit → Shared → Prop} (F : Fr h₀ L s.heap m) (N : News h₀ L s.heap news) (U : W.Upd D (W.listOf vs.toArray n) (W.listOf (vs.set k v).toArray n) news news') (hi : i = (k : Int)) (hk : k < vs.length) (hl : vs.length ≤ 1000)
    (h : ∀ h', Fr h₀ L h' m → News h₀ L h' news' → Q () { s with heap := h' }) : wpAny (model prog w) A (setItem (.ref D) (.int i u) v) Q E s := by
  obtain ⟨pre, post, rfl, rfl, a, b⟩ := U.split
  have z := N (D, W.listOf vs.toArray n) (List.mem_append.mpr (.inr (.head _)))
  refine W.ki_setAt z.1 (by omega) (by omega) (by rw [List.size_toArray]; omega) (h _ (F.change (Heap.SameBut.update ..) z.2.1 z.2.2) (W.ki_turn _ N a b ?_ ?_))
  · show vs.toArray.setIfInBounds i.toNat v = (vs.set k v).toArray
    apply Array.toList_inj.mp
    subst hi
    simp
  · simp
end
theorem strs_erase : ∀ {vs : List Value} {xs : List PySem.Str}, StrsAre vs xs → ∀ k, StrsAre (vs.eraseIdx k) (xs.eraseIdx k)
  | _, _, .nil, _ => .nil
  | _, _, .cons _ _ h, 0 => h
  | _, _, .cons x t h, k + 1 => .cons x t (strs_erase h k)
theorem strs_set {x : PySem.Str} {u : Tok} : ∀ {vs : List Value} {xs : List PySem.Str}, StrsAre vs xs → ∀ j : Nat, StrsAre (vs.set j (.str x u)) (xs.set j x)
  | _, _, .nil, _ => .nil
  | _, _, .cons _ _ h, 0 => .cons x u h
  | _, _, .cons y t h, j + 1 => .cons y t (strs_set h j)
theorem erase_map {α β : Type} (f : α → β) : ∀ (l : List α) (k : Nat), (l.map f).eraseIdx k = (l.eraseIdx k).map f
  | [], _ => rfl
  | _ :: _, 0 => rfl
  | x :: l, k + 1 => congrArg (f x :: ·) (erase_map f l k)
theorem set_map {α β : Type} (f : α → β) (y : α) : ∀ (l : List α) (k : Nat), (l.map f).set k (f y) = (l.set k y).map f
  | [], _ => rfl
  | _ :: _, 0 => rfl
  | x :: l, k + 1 => congrArg (f x :: ·) (set_map f y l k)
end
-- part: MSkin1
section
theorem off_MSkin1 : True := by w_top off; exact trivial
local macro_rules | `(tactic| k_room) => `(tactic| ktr_room)
theorem skip1 {M : Model} {A : Around} {E : Value → Shared → Prop} {s : Shared} {env : Env} {st : PySem.Stmt} {r : List PySem.Stmt} {Q : Flow → Shared → Prop} (P : Shared → Prop) (h : wpAny M A (exec st env) (fun f s' => f = .next ∧ P s') E s) (rest : ∀ s', P s' → wpAny M A (execs r env) Q E s') : wpAny M A (execs (st :: r) env) Q E s :=
  wpAny_execs_cons (wpAny_mono h (fun f s' hq => by
    obtain ⟨a, b⟩ := hq
    subst a; exact rest s' b) fun _ _ e => e)
/-- the script's numbers are drawn into cells -/
def SkinPre (g : Heap) (L : Addr) (sl : Addr) (n : Nat) (s s' : Shared) : Prop := ∃ (h' : Heap) (tk' : Nat) (CL : Addr) (cv : List Value) (cs : List Int) (u : PySem.Str → Option Value) (oa ob oc : Obj),
  s' = { s with heap := h', toks := tk' } ∧ Fr g L h' (kstB u [(Str.ofString "cells", .ref CL), (Str.ofString "script", .ref sl)]) ∧ News g L h' [(CL, W.listOf cv.toArray 0), (L + 1 + 1 + 1, oc), (L + 1 + 1, ob), (L + 1, oa)] ∧
  IntsAre cv cs ∧ cs.length = n ∧ @LT.lt Nat _ (L + 1 + 1 + 1) CL ∧ oa.data = .cell none ∧ ob.data = .cell none ∧ oc.data = .cell none
def SkinPre0 (g : Heap) (L : Addr) (sl : Addr) (n : Nat) (s s' : Shared) : Prop := ∃ (h' : Heap) (tk' : Nat) (CL : Addr) (cv : List Value) (cs : List Int) (u : PySem.Str → Option Value) (oa ob oc : Obj) (cn : Nat),
  s' = { s with heap := h', toks := tk' } ∧ Fr g L h' (kstB u [(Str.ofString "cells", .ref CL), (Str.ofString "script", .ref sl)]) ∧ News g L h' [(CL, W.listOf cv.toArray cn), (L + 1 + 1 + 1, oc), (L + 1 + 1, ob), (L + 1, oa)] ∧
  IntsAre cv cs ∧ cs.length = n ∧ oa.data = .cell none ∧ ob.data = .cell none ∧ oc.data = .cell none
/-- the faces after so many new corners -/
def Start : Nat → List Tri → Prop
  | 0, fs => fs = faces0
  | 1, fs => ∃ a, a < 4 ∧ fs = stack faces0 a 101
  | _, fs => ∃ a b, a < 4 ∧ b < 6 ∧ fs = stack (stack faces0 a 101) b 102
theorem stack_len {fs : List Tri} {k n : Nat} (h : k < fs.length) : (stack fs k n).length = fs.length + 2 := by
  unfold stack
  rw [List.length_append, List.length_eraseIdx_of_lt h]
  show fs.length - 1 + 3 = _
  omega
theorem Start.len {i : Nat} {fs : List Tri} (h : Start i fs) (hi : i ≤ 2) : fs.length = 4 + 2 * i := by
  match i, h, hi with
  | 0, h, _ => rw [show fs = faces0 from h]; rfl
  | 1, ⟨a, ha, e⟩, _ => rw [e, stack_len (by exact ha)]; rfl
  | 2, ⟨a, b, ha, hb, e⟩, _ => rw [e, stack_len (by rw [stack_len (by exact ha)]; exact hb), stack_len (by exact ha)]; rfl
theorem Start.step {i k : Nat} {fs : List Tri} (h : Start i fs) (hi : i < 2) (hk : k < fs.length) : Start (i + 1) (stack fs k (101 + i)) := by
  have hl := h.len (by omega)
  match i, h, hi with
  | 0, h, _ => exact ⟨k, by omega, by rw [show fs = faces0 from h]⟩
  | 1, ⟨a, ha, e⟩, _ => exact ⟨a, k, ha, by omega, by rw [e]⟩
theorem Start.skin {i : Nat} {fs : List Tri} (h : Start i fs) (hi : i = 1 ∨ i = 2) : Skin fs := by
  rcases hi with rfl | rfl
  · obtain ⟨a, ha, rfl⟩ := h; exact skin1 ha
  · obtain ⟨a, b, ha, hb, rfl⟩ := h; exact skin2 ha hb
/-- the first loop's state: k from 0 on -/
def L1S (g : Heap) (L sl CL FL : Addr) (cv : List Value) (I : Addr) (n : Nat) (s₀ : Shared) (i : Nat) (s : Shared) : Prop :=
  ∃ (h' : Heap) (tk' : Nat) (u : PySem.Str → Option Value) (fv : List Value) (fn : Nat) (fs : List Tri) (oa ob oc : Obj),
    s = { s₀ with heap := h', toks := tk' } ∧ Fr g L h' (kstB u [(Str.ofString "cells", .ref CL), (Str.ofString "script", .ref sl)]) ∧
    News g L h' [(I, itR (i : Int) ((n : Int) - (i : Int))), (FL, W.listOf fv.toArray fn), (CL, W.listOf cv.toArray 0), (L + 1 + 1 + 1, oc), (L + 1 + 1, ob), (L + 1, oa)] ∧
    StrsAre fv (fs.map str3) ∧ Start i fs ∧ oa.data = .cell (some (.ref FL)) ∧ ob.data = .cell none ∧ oc.data = .cell none
theorem l1_here {g : Heap} {L sl CL FL : Addr} {cv : List Value} {I : Addr} {n : Nat} {s₀ s : Shared} {i : Nat} (h : L1S g L sl CL FL cv I n s₀ i s) : s.heap.get? I = some (itR (i : Int) ((n : Int) - (i : Int))) := by
  obtain ⟨h', tk', u, fv, fn, fs, oa, ob, oc, rfl, _, N, _⟩ := h
  exact (N _ (.head _)).1
theorem range_size2 : ∀ n : Nat, n = 1 ∨ n = 2 → Builtin.Range.rangeSize 0 (n : Int) 1 = n ∧ Builtin.Range.small 0 (n : Int) 1 = true := fun n hn => by
  rcases hn with rfl | rfl <;> decide +kernel
/-- an iterator over a range, made fresh -/
theorem pushed_it {g : Heap} {L : Addr} {h : Heap} {m : PySem.Str → Option Value} {news : List (Addr × Obj)} {o : Obj} (F : Fr g L h m) (N : News g L h news) (ho : o.isFreed = false := by rfl) :
    Fr g L (h.push o) m ∧ News g L (h.push o) ((h.objs.size, o) :: news) ∧ ∀ p ∈ news, @LT.lt Nat _ p.1 h.objs.size := by
  have up : ∀ b o', h.get? b = some o' → (h.push o).get? b = some o' := fun b o' e => Heap.get?_push_of_some _ e
  refine ⟨F.grownK up, fun p hp => ?_, fun p hp => Heap.lt_size (N p hp).1⟩
  rcases List.mem_cons.mp hp with rfl | hp
  · refine ⟨Heap.get?_push_size _ ho, Nat.ne_of_gt F.ns.lt, ?_⟩
    cases q : g.get? h.objs.size with
    | none => rfl
    | some o => exact absurd (Heap.lt_size (F.keep _ _ q)) (Nat.lt_irrefl _)
  · exact ⟨up _ _ (N p hp).1, (N p hp).2⟩
/-- the iterator goes on by itself: the ledger stands but for it -/
theorem news_it {g h h' : Heap} {L I : Addr} {oI oI' : Obj} {rest : List (Addr × Obj)} (N : News g L h ((I, oI) :: rest)) (off : ∀ p ∈ rest, @LT.lt Nat _ p.1 I) (k1 : h'.get? I = some oI') (k2 : Heap.SameBut I h h') : News g L h' ((I, oI') :: rest) := fun p hp => by
  rcases List.mem_cons.mp hp with rfl | hp
  · exact ⟨k1, (N _ (.head _)).2⟩
  · exact ⟨k2.extBut _ _ (Nat.ne_of_lt (off p hp)) (N p (.tail _ hp)).1, (N p (.tail _ hp)).2⟩
theorem news_end {g h h' : Heap} {L I : Addr} {oI : Obj} {rest : List (Addr × Obj)} (N : News g L h ((I, oI) :: rest)) (off : ∀ p ∈ rest, @LT.lt Nat _ p.1 I) (k : Heap.ExtBut I h h') : News g L h' rest := fun p hp =>
  ⟨k _ _ (Nat.ne_of_lt (off p hp)) (N p (.tail _ hp)).1, (N p (.tail _ hp)).2⟩
theorem l1_for {prog : Program} {w : World} {A : Around} {E : Value → Shared → Prop} {s : Shared} {env : Env} {Q : Flow → Shared → Prop} {body : List PySem.Stmt} {x : PySem.Str} {px : Pos} {g : Heap} {L r sl CL FL : Addr} {m : PySem.Str → Option Value} {a1 a2 a3 : Tok} {n : Nat} {fv cv : List Value} {oa ob oc : Obj}
    (hh : A.handled = none) (hr : IsRange s.heap r 0 (n : Int) 1 a1 a2 a3) (hn : n = 1 ∨ n = 2)
    (F : Fr g L s.heap m) (N : News g L s.heap [(FL, W.listOf fv.toArray 0), (CL, W.listOf cv.toArray 0), (L + 1 + 1 + 1, oc), (L + 1 + 1, ob), (L + 1, oa)])
    (m1 : m (Str.ofString "cells") = some (.ref CL)) (m2 : m (Str.ofString "script") = some (.ref sl)) (hs : StrsAre fv (faces0.map str3)) (ea : oa.data = .cell (some (.ref FL))) (eb : ob.data = .cell none) (ec : oc.data = .cell none)
    (hE : PassesOwn (model prog w) A env E)
    (step : ∀ I i h' tk' u fv fn fs oa ob oc, (@LT.lt Nat _ FL I ∧ @LT.lt Nat _ CL I ∧ @LT.lt Nat _ (L + 1 + 1 + 1) I ∧ @LT.lt Nat _ (L + 1 + 1) I ∧ @LT.lt Nat _ (L + 1) I) → i < n → Fr g L h' (kstB u [(Str.ofString "cells", .ref CL), (Str.ofString "script", .ref sl)]) →
      News g L h' [(I, itR ((i + 1 : Nat) : Int) ((n : Int) - ((i + 1 : Nat) : Int))), (FL, W.listOf fv.toArray fn), (CL, W.listOf cv.toArray 0), (L + 1 + 1 + 1, oc), (L + 1 + 1, ob), (L + 1, oa)] →
      StrsAre fv (fs.map str3) → Start i fs → oa.data = .cell (some (.ref FL)) → ob.data = .cell none → oc.data = .cell none →
      ∀ t' (K : Flow → Shared → Prop), (∀ f s₂, FEnd (L1S g L sl CL FL cv I n s) Q (i + 1) f s₂ → K f s₂) → wpAny (model prog w) A (assign (.Name x px) env (.int (i : Int) t')) (fun _ s₂ => wpAny (model prog w) A (execs body env) K E s₂) E { s with heap := h', toks := tk' })
    (fin : ∀ h' tk' u fv fn fs oa ob oc, Fr g L h' (kstB u [(Str.ofString "cells", .ref CL), (Str.ofString "script", .ref sl)]) →
      News g L h' [(FL, W.listOf fv.toArray fn), (CL, W.listOf cv.toArray 0), (L + 1 + 1 + 1, oc), (L + 1 + 1, ob), (L + 1, oa)] →
      StrsAre fv (fs.map str3) → Start n fs → oa.data = .cell (some (.ref FL)) → ob.data = .cell none → oc.data = .cell none → Q .next { s with heap := h', toks := tk' }) :
    wpAny (model prog w) A (pyIter (.ref r)) (ForAt prog w A env (.Name x px) body Q E) E s := by
  refine wpAny_pyIter_range hr (range_size2 _ hn).2 ?_
  rw [(range_size2 _ hn).1]
  obtain ⟨F', N', lt⟩ := pushed_it (o := itR (((0 : Nat) : Nat) : Int) ((n : Int) - ((0 : Nat) : Int))) F N
  simp only [List.forall_mem_cons] at lt
  obtain ⟨lt1, lt2, lt3, lt4, lt5, _⟩ := lt
  have off : ∀ {a b : Obj} {c d e : Obj}, ∀ p ∈ [(FL, a), (CL, b), (L + 1 + 1 + 1, c), (L + 1 + 1, d), (L + 1, e)], @LT.lt Nat _ p.1 s.heap.objs.size := fun {a b c d e} => by
    simp only [List.forall_mem_cons]
    exact ⟨lt1, lt2, lt3, lt4, lt5, fun _ h => nomatch h⟩
  refine forAt_range (n := n) (L1S g L sl CL FL cv s.heap.objs.size n s) hh (fun i s' h => l1_here h) ?_ (fun i s' h hi h' k1 k2 t' K hK => ?_) (fun s' h h' k => ?_) hE
  · have e1 : (n : Int) - ((0 : Nat) : Int) = n := by omega
    rw [e1] at F' N'
    rw [show ((0 : Nat) : Int) = 0 from rfl] at F' N'
    refine ⟨_, _, m, fv, 0, faces0, oa, ob, oc, rfl, shel_fr F' ?_, ?_, hs, rfl, ea, eb, ec⟩
    · simp only [List.forall_mem_cons]
      exact ⟨m1, m2, fun _ h => nomatch h⟩
    · rw [show (n : Int) - ((0 : Nat) : Int) = n by omega]
      exact N'
  · obtain ⟨h₁, tk₁, u, fv', fn, fs, oa', ob', oc', rfl, F₁, N₁, a1, a2, a3, a4, a5⟩ := h
    have hI := (N₁ _ (.head _)).2
    exact step _ i h' _ u fv' fn fs oa' ob' oc' ⟨lt1, lt2, lt3, lt4, lt5⟩ hi (F₁.change k2 hI.1 hI.2) (news_it N₁ off k1 k2) a1 a2 a3 a4 a5 t' K hK
  · obtain ⟨h₁, tk₁, u, fv', fn, fs, oa', ob', oc', rfl, F₁, N₁, a1, a2, a3, a4, a5⟩ := h
    have hI := (N₁ _ (.head _)).2
    exact fin h' _ u fv' fn fs oa' ob' oc' (fr_extBut F₁ hI.2 hI.1 k) (news_end N₁ off k) a1 a2 a3 a4 a5
theorem iter_via {M : Model} {A : Around} {E : Value → Shared → Prop} {s : Shared} {c : Sem Value} {Q : Value → Shared → Prop} {g : Heap} {L : Addr} {m : PySem.Str → Option Value} {news : List (Addr × Obj)} (F : Fr g L s.heap m) (N : News g L s.heap news)
    (first : wpAny M A c (fun v s' => ∃ r n h' tk' t u v', v = .ref r ∧ s' = { s with heap := h', toks := tk' } ∧ (n = 1 ∨ n = 2) ∧ IsRange h' r 0 ((n : Nat) : Int) 1 t u v' ∧ Fr g L h' m ∧ News g L h' news) E s)
    (rest : ∀ r n h' tk' t u v', (n = 1 ∨ n = 2) → IsRange h' r 0 ((n : Nat) : Int) 1 t u v' → Fr g L h' m → News g L h' news → Q (.ref r) { s with heap := h', toks := tk' }) : wpAny M A c Q E s :=
  wpAny_mono first (fun v s' hq => by
    obtain ⟨r, n, h', tk', t, u, v', a, b, c, d, e, f⟩ := hq
    subst a b; exact rest r n h' tk' t u v' c d e f) fun _ _ e => e
/-- after the first loop: a skin to begin with -/
def SkinMid (g : Heap) (L : Addr) (s s' : Shared) : Prop := ∃ (h' : Heap) (tk' : Nat) (CL FL : Addr) (cv : List Value) (cs : List Int) (fv : List Value) (fn : Nat) (fs : List Tri) (u : PySem.Str → Option Value) (oa ob oc : Obj),
  s' = { s with heap := h', toks := tk' } ∧ Fr g L h' (kstB u [(Str.ofString "cells", .ref CL)]) ∧ News g L h' [(FL, W.listOf fv.toArray fn), (CL, W.listOf cv.toArray 0), (L + 1 + 1 + 1, oc), (L + 1 + 1, ob), (L + 1, oa)] ∧
  IntsAre cv cs ∧ cs.length = 10 ∧ StrsAre fv (fs.map str3) ∧ Skin fs ∧ @LT.lt Nat _ (L + 1 + 1 + 1) CL ∧ @LT.lt Nat _ CL FL ∧ oa.data = .cell (some (.ref FL)) ∧ ob.data = .cell none ∧ oc.data = .cell none
theorem next_via {M : Model} {A : Around} {E : Value → Shared → Prop} {s : Shared} {c : Sem Flow} {Q : Flow → Shared → Prop} (P : Shared → Prop) (first : wpAny M A c (fun f s' => f = .next ∧ P s') E s) (rest : ∀ s', P s' → Q .next s') : wpAny M A c Q E s :=
  wpAny_mono first (fun f s' hq => by
    obtain ⟨a, b⟩ := hq
    subst a; exact rest s' b) fun _ _ e => e
theorem len_led {prog : Program} {w : World} {A : Around} {E : Value → Shared → Prop} {s : Shared} {g : Heap} {L D : Addr} {news : List (Addr × Obj)} {fv : List Value} {k n : Nat} {Q : Value → Shared → Prop} (N : News g L s.heap news) (hm : (D, W.listOf fv.toArray n) ∈ news) (e : fv.length = k) (hk : k ≤ 8)
    (h : Q (.int k (s.toks + 1)) { s with toks := s.toks + 1 + 1 }) : wpAny (model prog w) A (call (.builtin "len") [.ref D]) Q E s :=
  len_faces (PySem.IsL.isList (n := n) (N _ hm).1) e hk h
theorem fmod_at (a : Int) {nl : Nat} (h : 0 < nl) : ∃ k : Nat, k < nl ∧ a.fmod nl = (k : Int) := by
  have h1 := Int.fmod_nonneg_of_pos a (show (0 : Int) < nl by omega)
  have h2 := Int.fmod_lt_of_pos a (show (0 : Int) < nl by omega)
  exact ⟨(a.fmod nl).toNat, by omega, by omega⟩
theorem face_item {fv : List Value} {fs : List Tri} (h : StrsAre fv (fs.map str3)) {i : Nat} (hi : i < fs.length) : ∃ t, fv[i]? = some (.str ⟨#[(fAt fs i).1, (fAt fs i).2.1, (fAt fs i).2.2]⟩ t) := face_at h hi
theorem ef_item : ∀ i, i < 2 → Txt.item (Str.ofString "ef") ((i : Nat) : Int) = ⟨#[101 + i]⟩ := by decide +kernel
theorem new_face (f : Tri) {i : Nat} (hi : i < 2) :
    Txt.item ⟨#[f.1, f.2.1, f.2.2]⟩ 0 ++ Txt.item ⟨#[f.1, f.2.1, f.2.2]⟩ 1 ++ Txt.item (Str.ofString "ef") ((i : Nat) : Int) = str3 (f.1, f.2.1, 101 + i) ∧
    Txt.item ⟨#[f.1, f.2.1, f.2.2]⟩ 1 ++ Txt.item ⟨#[f.1, f.2.1, f.2.2]⟩ 2 ++ Txt.item (Str.ofString "ef") ((i : Nat) : Int) = str3 (f.2.1, f.2.2, 101 + i) ∧
    Txt.item ⟨#[f.1, f.2.1, f.2.2]⟩ 2 ++ Txt.item ⟨#[f.1, f.2.1, f.2.2]⟩ 0 ++ Txt.item (Str.ofString "ef") ((i : Nat) : Int) = str3 (f.2.2, f.1, 101 + i) := by
  rw [ef_item i hi]
  exact ⟨rfl, rfl, rfl⟩
theorem stack_strs {fv : List Value} {fs : List Tri} (h : StrsAre fv (fs.map str3)) {k i : Nat} (hi : i < 2) {t1 t2 t3 : Tok} :
    StrsAre (fv.eraseIdx k ++ [.str (Txt.item ⟨#[(fAt fs k).1, (fAt fs k).2.1, (fAt fs k).2.2]⟩ 0 ++ Txt.item ⟨#[(fAt fs k).1, (fAt fs k).2.1, (fAt fs k).2.2]⟩ 1 ++ Txt.item (Str.ofString "ef") ((i : Nat) : Int)) t1,
      .str (Txt.item ⟨#[(fAt fs k).1, (fAt fs k).2.1, (fAt fs k).2.2]⟩ 1 ++ Txt.item ⟨#[(fAt fs k).1, (fAt fs k).2.1, (fAt fs k).2.2]⟩ 2 ++ Txt.item (Str.ofString "ef") ((i : Nat) : Int)) t2,
      .str (Txt.item ⟨#[(fAt fs k).1, (fAt fs k).2.1, (fAt fs k).2.2]⟩ 2 ++ Txt.item ⟨#[(fAt fs k).1, (fAt fs k).2.1, (fAt fs k).2.2]⟩ 0 ++ Txt.item (Str.ofString "ef") ((i : Nat) : Int)) t3]) ((stack fs k (101 + i)).map str3) := by
  obtain ⟨e1, e2, e3⟩ := new_face (fAt fs k) hi
  rw [e1, e2, e3]
  unfold stack
  rw [List.map_append, ← erase_map]
  exact StrsAre.append' (strs_erase h k) (.cons _ _ (.cons _ _ (.cons _ _ .nil)))
def IterO (o : Obj) (l : Addr) (i : Nat) : Prop := o.cls = .type "list_iterator" ∧ o.data = .fields #[.ref l, .int (i : Int) 0]
/-- the second loop's state -/
def L2S (g : Heap) (L CL FL SL I : Addr) (cv sv : List Value) (s₀ : Shared) (i : Nat) (s : Shared) : Prop :=
  ∃ (h' : Heap) (tk' : Nat) (u : PySem.Str → Option Value) (fv : List Value) (fn : Nat) (fs : List Tri) (oI oa ob oc : Obj) (vb vc : Option Value),
    s = { s₀ with heap := h', toks := tk' } ∧ Fr g L h' (kstB u [(Str.ofString "cells", .ref CL)]) ∧
    News g L h' [(I, oI), (SL, W.listOf sv.toArray 0), (FL, W.listOf fv.toArray fn), (CL, W.listOf cv.toArray 0), (L + 1 + 1 + 1, oc), (L + 1 + 1, ob), (L + 1, oa)] ∧ IterO oI SL i ∧
    StrsAre fv (fs.map str3) ∧ Skin fs ∧ oa.data = .cell (some (.ref FL)) ∧ ob.data = .cell vb ∧ oc.data = .cell vc
theorem l2_for {prog : Program} {w : World} {A : Around} {E : Value → Shared → Prop} {s : Shared} {env : Env} {Q : Flow → Shared → Prop} {body : List PySem.Stmt} {x : PySem.Str} {px : Pos} {g : Heap} {L CL FL SL : Addr} {m : PySem.Str → Option Value} {fn : Nat} {fv cv sv : List Value} {ss : List Int} {fs : List Tri} {oa ob oc : Obj} {vb vc : Option Value}
    (hh : A.handled = none) (hsv : IntsAre sv ss)
    (F : Fr g L s.heap m) (N : News g L s.heap [(SL, W.listOf sv.toArray 0), (FL, W.listOf fv.toArray fn), (CL, W.listOf cv.toArray 0), (L + 1 + 1 + 1, oc), (L + 1 + 1, ob), (L + 1, oa)])
    (m1 : m (Str.ofString "cells") = some (.ref CL)) (hs : StrsAre fv (fs.map str3)) (hk : Skin fs) (ea : oa.data = .cell (some (.ref FL))) (eb : ob.data = .cell vb) (ec : oc.data = .cell vc)
    (hE : PassesOwn (model prog w) A env E)
    (step : ∀ I i c tc h' tk' u fv fn fs oI oa ob oc vb vc, (@LT.lt Nat _ SL I ∧ @LT.lt Nat _ FL I ∧ @LT.lt Nat _ CL I ∧ @LT.lt Nat _ (L + 1 + 1 + 1) I ∧ @LT.lt Nat _ (L + 1 + 1) I ∧ @LT.lt Nat _ (L + 1) I) → Fr g L h' (kstB u [(Str.ofString "cells", .ref CL)]) →
      News g L h' [(I, oI), (SL, W.listOf sv.toArray 0), (FL, W.listOf fv.toArray fn), (CL, W.listOf cv.toArray 0), (L + 1 + 1 + 1, oc), (L + 1 + 1, ob), (L + 1, oa)] → IterO oI SL (i + 1) →
      StrsAre fv (fs.map str3) → Skin fs → oa.data = .cell (some (.ref FL)) → ob.data = .cell vb → oc.data = .cell vc →
      ∀ K : Flow → Shared → Prop, (∀ f s₂, FEnd (L2S g L CL FL SL I cv sv s) Q (i + 1) f s₂ → K f s₂) → wpAny (model prog w) A (assign (.Name x px) env (.int c tc)) (fun _ s₂ => wpAny (model prog w) A (execs body env) K E s₂) E { s with heap := h', toks := tk' })
    (fin : ∀ h' tk' u fv fn fs oa ob oc vb vc, Fr g L h' (kstB u [(Str.ofString "cells", .ref CL)]) →
      News g L h' [(SL, W.listOf sv.toArray 0), (FL, W.listOf fv.toArray fn), (CL, W.listOf cv.toArray 0), (L + 1 + 1 + 1, oc), (L + 1 + 1, ob), (L + 1, oa)] →
      StrsAre fv (fs.map str3) → Skin fs → oa.data = .cell (some (.ref FL)) → ob.data = .cell vb → oc.data = .cell vc → Q .next { s with heap := h', toks := tk' }) :
    wpAny (model prog w) A (pyIter (.ref SL)) (ForAt prog w A env (.Name x px) body Q E) E s := by
  refine wpAny_pyIter_list (PySem.IsL.isList (n := 0) (N _ (.head _)).1) ?_
  obtain ⟨F', N', lt⟩ := pushed_it (o := { cls := .type "list_iterator", data := .fields #[.ref SL, .int 0 0] }) F N
  simp only [List.forall_mem_cons] at lt
  obtain ⟨lt0, lt1, lt2, lt3, lt4, lt5, _⟩ := lt
  have off : ∀ {z a b : Obj} {c d e : Obj}, ∀ p ∈ [(SL, z), (FL, a), (CL, b), (L + 1 + 1 + 1, c), (L + 1 + 1, d), (L + 1, e)], @LT.lt Nat _ p.1 s.heap.objs.size := fun {z a b c d e} => by
    simp only [List.forall_mem_cons]
    exact ⟨lt0, lt1, lt2, lt3, lt4, lt5, fun _ h => nomatch h⟩
  refine forAt_list (l := SL) (vs := sv) (L2S g L CL FL SL s.heap.objs.size cv sv s) hh (fun i s' h => ?_) ?_ (fun i v s' h hv h' k1 k2 K hK => ?_) (fun s' h h' k => ?_) hE
  · obtain ⟨h₁, tk₁, u, fv', fn, fs', oI, oa', ob', oc', vb', vc', rfl, F₁, N₁, a0, _⟩ := h
    exact ⟨⟨_, (N₁ _ (.head _)).1, a0.1, a0.2⟩, PySem.IsL.isList (n := 0) (N₁ _ (.tail _ (.head _))).1⟩
  · refine ⟨_, _, m, fv, fn, fs, _, oa, ob, oc, vb, vc, rfl, shel_fr F' ?_, N', ⟨rfl, rfl⟩, hs, hk, ea, eb, ec⟩
    simp only [List.forall_mem_cons]
    exact ⟨m1, fun _ h => nomatch h⟩
  · obtain ⟨h₁, tk₁, u, fv', fn, fs', oI, oa', ob', oc', vb', vc', rfl, F₁, N₁, a0, a1, a2, a3, a4, a5⟩ := h
    have hI := (N₁ _ (.head _)).2
    obtain ⟨oI', k1, q1, q2⟩ := k1
    obtain ⟨c, tc, ev, _⟩ := IntsAre.at hsv i v hv
    subst ev
    exact step _ i c tc h' _ u fv' fn fs' oI' oa' ob' oc' vb' vc' ⟨lt0, lt1, lt2, lt3, lt4, lt5⟩ (F₁.change k2 hI.1 hI.2) (news_it N₁ off k1 k2) ⟨q1, q2⟩ a1 a2 a3 a4 a5 K hK
  · obtain ⟨h₁, tk₁, u, fv', fn, fs', oI, oa', ob', oc', vb', vc', rfl, F₁, N₁, a0, a1, a2, a3, a4, a5⟩ := h
    have hI := (N₁ _ (.head _)).2
    exact fin h' _ u fv' fn fs' oa' ob' oc' vb' vc' (fr_extBut F₁ hI.2 hI.1 k) (news_end N₁ off k) a1 a2 a3 a4 a5
theorem item_led {prog : Program} {w : World} {A : Around} {E : Value → Shared → Prop} {s : Shared} {g : Heap} {L D : Addr} {news : List (Addr × Obj)} {fv : List Value} {value slice : PySem.Expr} {i : Int} {k n : Nat} {u : Tok} {x : Value} {Q : Value → Shared → Prop} (N : News g L s.heap news) (hm : (D, W.listOf fv.toArray n) ∈ news) (ei : i = (k : Int)) (hx : fv[k]? = some x) (hl : fv.length ≤ 1000) (h : Q x s)
    (hs : subscripted slice false (.ref D) (.int i u) = operate [.ref D, .int i u] (getItem (.ref D) (.int i u)) := by with_unfolding_all rfl) (hg : ∀ r, letTemporaryGo value (.ref D) r = pure () := by intro _; with_unfolding_all rfl) :
    wpAny (model prog w) A (subscriptTail value slice (.ref D) (.int i u)) Q E s := by
  have hk : k < fv.length := by
    rcases Nat.lt_or_ge k fv.length with q | q
    · exact q
    · rw [List.getElem?_eq_none q] at hx; cases hx
  subst ei
  exact item_listL (PySem.IsL.isList (n := n) (N _ hm).1) (Int.natCast_nonneg _) (by omega) hx h hs hg
/-- a word for the value: what it is, and a state that differs in its tokens -/
theorem word_via {M : Model} {A : Around} {E : Value → Shared → Prop} {s : Shared} {c : Sem Value} {Q : Value → Shared → Prop} {g : Heap} {L : Addr} {m : PySem.Str → Option Value} {news : List (Addr × Obj)} (F : Fr g L s.heap m) (N : News g L s.heap news) (x : PySem.Str)
    (first : wpAny M A c (fun v s' => ∃ h' tk' t, v = .str x t ∧ s' = { s with heap := h', toks := tk' } ∧ Fr g L h' m ∧ News g L h' news) E s)
    (rest : ∀ h' tk' t, Fr g L h' m → News g L h' news → Q (.str x t) { s with heap := h', toks := tk' }) : wpAny M A c Q E s :=
  wpAny_mono first (fun v s' hq => by
    obtain ⟨h', tk', t, a, b, c, d⟩ := hq
    subst a b; exact rest h' tk' t c d) fun _ _ e => e
theorem rot_word (f : Tri) {k3 : Nat} (h : k3 < 3) : Txt.slice ⟨#[f.1, f.2.1, f.2.2]⟩ (some ((k3 : Nat) : Int)) none ++ Txt.slice ⟨#[f.1, f.2.1, f.2.2]⟩ none (some ((k3 : Nat) : Int)) = str3 (rotT k3 f) := by
  obtain ⟨a, b, c⟩ := f
  obtain rfl | rfl | rfl : k3 = 0 ∨ k3 = 1 ∨ k3 = 2 := by omega
  · with_unfolding_all rfl
  · with_unfolding_all rfl
  · with_unfolding_all rfl
theorem item0 (a b c : Nat) : Txt.item ⟨#[a, b, c]⟩ 0 = ⟨#[a]⟩ := rfl
theorem item1 (a b c : Nat) : Txt.item ⟨#[a, b, c]⟩ 1 = ⟨#[b]⟩ := rfl
theorem item2 (a b c : Nat) : Txt.item ⟨#[a, b, c]⟩ 2 = ⟨#[c]⟩ := rfl
theorem sub0 (a b c d x y : Nat) : Builtin.Str.subAt ⟨#[a, b, c, d]⟩ ⟨#[x, y]⟩ 0 = (x == a && y == b) := by
  show (#[a, b] == #[x, y]) = _
  rw [Bool.eq_iff_iff, beq_iff_eq, Bool.and_eq_true, beq_iff_eq, beq_iff_eq]
  simp; constructor <;> (rintro ⟨rfl, rfl⟩; exact ⟨rfl, rfl⟩)
theorem sub1 (a b c d x y : Nat) : Builtin.Str.subAt ⟨#[a, b, c, d]⟩ ⟨#[x, y]⟩ 1 = (x == b && y == c) := by
  show (#[b, c] == #[x, y]) = _
  rw [Bool.eq_iff_iff, beq_iff_eq, Bool.and_eq_true, beq_iff_eq, beq_iff_eq]
  simp; constructor <;> (rintro ⟨rfl, rfl⟩; exact ⟨rfl, rfl⟩)
theorem sub2 (a b c d x y : Nat) : Builtin.Str.subAt ⟨#[a, b, c, d]⟩ ⟨#[x, y]⟩ 2 = (x == c && y == d) := by
  show (#[c, d] == #[x, y]) = _
  rw [Bool.eq_iff_iff, beq_iff_eq, Bool.and_eq_true, beq_iff_eq, beq_iff_eq]
  simp; constructor <;> (rintro ⟨rfl, rfl⟩; exact ⟨rfl, rfl⟩)
theorem found_edge (f : Tri) (p q r : Nat) : (!(Builtin.Str.occurrences (⟨#[f.1, f.2.1, f.2.2]⟩ ++ Txt.item ⟨#[f.1, f.2.1, f.2.2]⟩ 0) (Txt.item ⟨#[p, q, r]⟩ 1 ++ Txt.item ⟨#[p, q, r]⟩ 0) 0 (⟨#[f.1, f.2.1, f.2.2]⟩ ++ Txt.item ⟨#[f.1, f.2.1, f.2.2]⟩ 0 : PySem.Str).length 1).isEmpty) = hasE f q p := by
  obtain ⟨a, b, c⟩ := f
  show (!(Builtin.Str.occurrences ⟨#[a, b, c, a]⟩ ⟨#[q, p]⟩ 0 (⟨#[a, b, c, a]⟩ : PySem.Str).length 1).isEmpty) = hasE (a, b, c) q p
  rw [Bool.eq_iff_iff, StrLaws.found_iff]
  unfold hasE
  rw [← sub0 a b c a q p, ← sub1 a b c a q p, ← sub2 a b c a q p, Bool.or_eq_true, Bool.or_eq_true]
  constructor
  · rintro ⟨i, hi, h⟩
    have hi : i + 2 ≤ 4 := hi
    obtain rfl | rfl | rfl : i = 0 ∨ i = 1 ∨ i = 2 := by omega
    · exact .inl (.inl h)
    · exact .inl (.inr h)
    · exact .inr h
  · rintro ((h | h) | h)
    · exact ⟨0, (show 0 + 2 ≤ 4 by decide), h⟩
    · exact ⟨1, (show 1 + 2 ≤ 4 by decide), h⟩
    · exact ⟨2, (show 2 + 2 ≤ 4 by decide), h⟩
theorem found_letter (f : Tri) (v : Nat) : (!(Builtin.Str.occurrences ⟨#[f.1, f.2.1, f.2.2]⟩ ⟨#[v]⟩ 0 (⟨#[f.1, f.2.1, f.2.2]⟩ : PySem.Str).length 1).isEmpty) = hasV f v := by
  rw [StrLaws.found_one, Bool.eq_iff_iff, decide_eq_true_eq]
  unfold hasV
  simp [or_assoc]
def ltr (f : Tri) (i : Nat) : Nat := [f.1, f.2.1, f.2.2].getD i 0
theorem far_first {f one : Tri} {w' : Nat} {r2 : List Nat} (h : farL f one = w' :: r2) : ∃ i rest, ((List.range 3).filter fun i => !hasV one (ltr f i)) = i :: rest ∧ ltr f i = w' := by
  have e : farL f one = ((List.range 3).filter fun i => !hasV one (ltr f i)).map (ltr f) := by
    have e3 : [f.1, f.2.1, f.2.2] = (List.range 3).map (ltr f) := rfl
    unfold farL
    rw [e3, List.filter_map]
    rfl
  rw [e] at h
  cases q : (List.range 3).filter fun i => !hasV one (ltr f i) with
  | nil => rw [q] at h; cases h
  | cons i rest =>
    rw [q] at h
    exact ⟨i, rest, rfl, (List.cons.inj h).1⟩
theorem sign_ltr {f : Tri} {i : Nat} {v : Value} (h : SignAt ⟨#[f.1, f.2.1, f.2.2]⟩ i v) : ∃ u, v = .str ⟨#[ltr f i]⟩ u := by
  obtain ⟨c, u, hc, rfl⟩ := h
  refine ⟨u, ?_⟩
  have e : ltr f i = c := by
    unfold ltr
    rw [List.getD_eq_getElem?_getD]
    have : [f.1, f.2.1, f.2.2][i]? = some c := by
      rw [← hc]; show _ = (#[f.1, f.2.1, f.2.2] : Array Nat)[i]?
      rw [← List.getElem?_toArray]
    rw [this]; rfl
  rw [e]
theorem any_nil {fs : List Tri} {p : Tri → Bool} (h : ¬ (fs.any p) = true) : (List.range fs.length).filter (fun i => p (fAt fs i)) = [] := by
  rw [List.filter_eq_nil_iff]
  intro i hi hp
  exact h (List.any_eq_true.mpr ⟨fAt fs i, fAt_mem (List.mem_range.mp hi), hp⟩)
theorem any_cons {fs : List Tri} {p : Tri → Bool} (h : (fs.any p) = true) : 0 < ((List.range fs.length).filter (fun i => p (fAt fs i))).length := by
  obtain ⟨f, hf, hp⟩ := List.any_eq_true.mp h
  obtain ⟨i, hi, rfl⟩ := List.mem_iff_getElem.mp hf
  refine List.length_pos_of_mem (a := i) (List.mem_filter.mpr ⟨List.mem_range.mpr hi, ?_⟩)
  have e : fAt fs i = fs[i] := by rw [fAt, List.getD_eq_getElem?_getD, List.getElem?_eq_getElem hi]; rfl
  rw [e]; exact hp
theorem and_no1 {f : Tri} {p q r w' : Nat} (h : (Builtin.Str.occurrences ⟨#[f.1, f.2.1, f.2.2]⟩ (Txt.item ⟨#[p, q, r]⟩ 2) 0 (⟨#[f.1, f.2.1, f.2.2]⟩ : PySem.Str).length 1).isEmpty = true) : false = (hasV f r && hasV f w') := by
  have e := found_letter f r
  have h' : (Builtin.Str.occurrences ⟨#[f.1, f.2.1, f.2.2]⟩ ⟨#[r]⟩ 0 (⟨#[f.1, f.2.1, f.2.2]⟩ : PySem.Str).length 1).isEmpty = true := h
  rw [← e, h']; rfl
theorem and_no2 {f : Tri} {r w' : Nat} (h : (Builtin.Str.occurrences ⟨#[f.1, f.2.1, f.2.2]⟩ ⟨#[w']⟩ 0 (⟨#[f.1, f.2.1, f.2.2]⟩ : PySem.Str).length 1).isEmpty = true) : false = (hasV f r && hasV f w') := by
  rw [← found_letter f w', h, Bool.and_comm]; rfl
theorem and_yes {f : Tri} {p q r w' : Nat} (h : (Builtin.Str.occurrences ⟨#[f.1, f.2.1, f.2.2]⟩ (Txt.item ⟨#[p, q, r]⟩ 2) 0 (⟨#[f.1, f.2.1, f.2.2]⟩ : PySem.Str).length 1).isEmpty = false) (h2 : (Builtin.Str.occurrences ⟨#[f.1, f.2.1, f.2.2]⟩ ⟨#[w']⟩ 0 (⟨#[f.1, f.2.1, f.2.2]⟩ : PySem.Str).length 1).isEmpty = false) : true = (hasV f r && hasV f w') := by
  have h' : (Builtin.Str.occurrences ⟨#[f.1, f.2.1, f.2.2]⟩ ⟨#[r]⟩ 0 (⟨#[f.1, f.2.1, f.2.2]⟩ : PySem.Str).length 1).isEmpty = false := h
  rw [← found_letter f w', ← found_letter f r, h', h2]; rfl
theorem flip_strs {fv : List Value} {fs : List Tri} (h : StrsAre fv (fs.map str3)) {k q w' : Nat} {one : Tri} {t1 t2 : Tok} :
    StrsAre ((fv.set k (.str (Txt.item ⟨#[one.1, one.2.1, one.2.2]⟩ 2 ++ Txt.item ⟨#[one.1, one.2.1, one.2.2]⟩ 0 ++ ⟨#[w']⟩) t1)).set q (.str (⟨#[w']⟩ ++ Txt.item ⟨#[one.1, one.2.1, one.2.2]⟩ 1 ++ Txt.item ⟨#[one.1, one.2.1, one.2.2]⟩ 2) t2))
      (((fs.set k (one.2.2, one.1, w')).set q (w', one.2.1, one.2.2)).map str3) := by
  rw [← set_map, ← set_map]
  exact strs_set (strs_set h k) q
theorem eq_nil_cons {prog : Program} {w : World} {A : Around} {E : Value → Shared → Prop} {s : Shared} {g : Heap} {L D D' : Addr} {news : List (Addr × Obj)} {v : Value} {vs : List Value} {n n' : Nat} {Q : Value → Shared → Prop} (N : News g L s.heap news) (h1 : (D, W.listOf (v :: vs).toArray n) ∈ news) (h2 : (D', W.listOf #[] n') ∈ news) (hu : A.units < cLine) (h : Q (.bool false) s) :
    wpAny (model prog w) A (compareOp .Eq (.ref D) (.ref D')) Q E s := P.eq_list_lengths (N _ h1).1 (N _ h2).1 (by simp) hu h
theorem eq_nil_nil {prog : Program} {w : World} {A : Around} {E : Value → Shared → Prop} {s : Shared} {g : Heap} {L D D' : Addr} {news : List (Addr × Obj)} {n n' : Nat} {Q : Value → Shared → Prop} (N : News g L s.heap news) (h1 : (D, W.listOf (([] : List Value)).toArray n) ∈ news) (h2 : (D', W.listOf #[] n') ∈ news) (hu : A.units < cLine) (h : Q (.bool true) s) :
    wpAny (model prog w) A (compareOp .Eq (.ref D) (.ref D')) Q E s := P.eq_list (e := fun _ => true) (N _ h1).1 (N _ h2).1 rfl (fun j h1 _ => absurd h1 (Nat.not_lt_zero _)) hu h
end
-- part: MSkin
section
theorem off_MSkin : True := by w_top off; exact trivial
local macro_rules | `(tactic| k_room) => `(tactic| ktr_room)
local macro_rules | `(tactic| walk_at "exec For") => `(tactic| ((with_reducible show wpAny _ _ (exec (PySem.Stmt.For (PySem.Expr.Name _ _) _ _ _ _) _) _ _ _); refine stop_intro ?_))
local macro_rules | `(tactic| walk_at "exec For Name Call cons nil") => `(tactic| ((with_reducible show wpAny _ _ (exec (PySem.Stmt.For (PySem.Expr.Name _ _) _ _ _ _) _) _ _ _); refine stop_intro ?_))
local macro_rules | `(tactic| walk_at "call builtin:list.pop") => `(tactic| (k_here; refine stop_intro ?_))
local macro_rules | `(tactic| walk_at "call builtin:list.extend") => `(tactic| (k_here; refine stop_intro ?_))
local macro_rules | `(tactic| walk_at "call builtin:len") => `(tactic| (k_here; (with_reducible show wpAny _ _ (call (Value.builtin "len") [Value.ref _]) _ _ _); refine len_led (by k_asm) (by k_mem) (by assumption) (by omega) ?_))
local macro_rules | `(tactic| walk_at "eval BinOp") => `(tactic| ((with_reducible show wpAny _ _ (eval (PySem.Expr.BinOp (PySem.Expr.Subscript (PySem.Expr.Subscript _ _ _) _ _) _ _ _) _) _ _ _); refine stop_intro ?_))
local macro_rules | `(tactic| walk_at "subscriptTail Name Name ref int") => `(tactic| (k_here; refine item_led (by k_asm) (by k_mem) (by first | with_reducible assumption | with_reducible exact rfl) (by with_reducible assumption) (by omega) ?_))
local macro_rules | `(tactic| walk_at "eval ListComp") => `(tactic| (k_here; k_dflt (refine LCt.ListComp_T (F₀ := by k_asm) (by with_unfolding_all rfl) (by decide) (by rfl) (by decide) (by rfl) ?_)))
local macro_rules | `(tactic| walk_at "eval ListComp") => `(tactic| (k_here; (with_reducible show wpAny _ _ (eval (PySem.Expr.ListComp _ [PySem.Comprehension.mk _ (PySem.Expr.Subscript _ _ _) _ _] _ _) _) _ _ _); k_dflt (refine ListComp_GT (by k_asm) (by with_unfolding_all rfl) (by decide) (by rfl) (by decide) (by rfl) ?_)))
local macro_rules | `(tactic| walk_at "pyIter str") => `(tactic| (k_here; (with_reducible show wpAny _ _ (pyIter _) (SrcGT _ _ _ _ _ _ _ _ _ _ _ _ _) _ _); (with_reducible rename Fr _ _ _ _ => kF); (with_reducible rename News _ _ _ _ => kN); refine srcStrT (by rfl) kF kN (by simp [sizeLine_eq]) ?_; intro g'; refine stop_intro ?_))
local macro_rules | `(tactic| walk_at "CompSrcT") => `(tactic| (k_here; refine stop_intro ?_))
local macro_rules | `(tactic| walk_at "compareOp Eq ref ref") => `(tactic| (k_here; refine stop_intro ?_))
local macro_rules | `(tactic| walk_at "setItem ref int") => `(tactic| (k_here; refine stop_intro ?_))
local macro_rules | `(tactic| walk_at "last subscriptTail") => `(tactic| ((with_reducible show wpAny _ _ (subscriptTail (PySem.Expr.List _ _) _ _ _) _ _ _); refine stop_intro ?_))
local macro_rules | `(tactic| walk_at "subscriptTail") => `(tactic| ((with_reducible show wpAny _ _ (subscriptTail (PySem.Expr.List _ _) _ _ _) _ _ _); refine stop_intro ?_))
theorem fr_kst2 {g h : Heap} {L : Addr} {m : PySem.Str → Option Value} {x1 x2 x3 : PySem.Str} {v1 : Value} {i2 i3 : Int} {t2 t3 : Tok} (F : Fr g L h m) (h1 : m x1 = some v1) (h2 : m x2 = some (.int i2 t2)) (h3 : m x3 = some (.int i3 t3)) : ∃ u t2' t3', Fr g L h (kstB u [(x1, v1), (x2, .int i2 t2'), (x3, .int i3 t3')]) :=
  ⟨m, t2, t3, shel_fr F (by simp only [List.forall_mem_cons]; exact ⟨h1, h2, h3, fun _ h => nomatch h⟩)⟩
theorem fr_kst {g h : Heap} {L : Addr} {m : PySem.Str → Option Value} {ps : List (PySem.Str × Value)} (F : Fr g L h m) (hp : ∀ p ∈ ps, m p.1 = some p.2) : ∃ u, Fr g L h (kstB u ps) := ⟨m, shel_fr F hp⟩
local macro_rules | `(tactic| walk_at "execs cons") => `(tactic| ((with_reducible show wpAny _ _ (execs (PySem.Stmt.Assign [PySem.Expr.Name (PySem.Str.ofString "far") _] _ _ :: _) _) _ _ _); refine stop_intro ?_))
local macro_rules | `(tactic| walk_at "execs cons") => `(tactic| ((with_reducible show wpAny _ _ (execs [PySem.Stmt.If _ _ _ _] _) _ _ _); refine stop_intro ?_))
theorem skin_spec : ∀ {w : World} {dp un : Nat} {gd : Option (List Code)} {outer : List Env} {base g : Heap} {s : Shared} {mean : ExcName → Option Value} {mg mb : PySem.Str → Option Value} {R : Result → Shared → Prop} (_ : Below ({ handled := none, depth := dp, frames := some outer, guards := gd, units := un } : Around) base outer g) (_ : ∀ b o, g.get? b = some o → s.heap.get? b = some o) (_ : g.objs.size ≤ s.heap.objs.size) (_ : (hd.heap_1 w.params).In g) (_ : Top qv looseL mean mg mb g) (_ : ({ handled := none, depth := dp, frames := some outer, guards := gd, units := un } : Around).handled = none) (_ : dp + 4 < recursionLimit) (_ : un + 40 < cLine)
    {sl : Addr} {sv : List Value} {ss : List Int} (_ : g.IsList sl sv.toArray) (_ : IntsAre sv ss) (_ : ss.length ≤ 1000)
    (_ : ∀ l fl cl fv cv fn cn fs cs h' tk', (∀ b o, g.get? b = some o → h'.get? b = some o) → (∀ q ∈ [(l, ({ cls := .type "tuple", data := .seq #[.ref fl, .ref cl] } : Obj)), (fl, W.listOf fv.toArray fn), (cl, W.listOf cv.toArray cn)], h'.get? q.1 = some q.2 ∧ g.get? q.1 = none) →
      StrsAre fv (fs.map str3) → Skin fs → IntsAre cv cs → cs.length = 5 → R (.ok (.ret (.ref l))) { s with heap := h', toks := tk' }),
    codeAny (model PySem.Challenge.rw_tr0054_01.prog w) ({ handled := none, depth := dp, frames := some outer, guards := gd, units := un } : Around) (.call (.ref 244) ⟨[.ref sl], []⟩) R s := by
  k_fill
  intro w dp un gd outer base g s mean mg mb R B kg sz X T hh hdp hu sl sv ss hsl hsv hss ret
  have X := X
  have T := T
  have N0 : ∀ q ∈ ([] : List (Addr × Obj)), s.heap.get? q.1 = some q.2 ∧ g.get? q.1 = none := fun _ h => nomatch h
  k_dflt (first | (refine' enterG ?k1 ?k2 ?k3 ?k4 ?k5 ?k6 ?k7 ?k8 ?k9 ?kb ?kB ?_ ?c2 ?c3 ?c4 ?c5; (case k1 => k_asm); (case k2 => k_asm); (case k3 => k_asm); (case k4 => k_asm); (case k5 => k_asm); (case k6 => k_asm); (case k7 => k_is); (case k8 => k_is); (case k9 => ktr_room); (case kb => first | exact BindsTo.of_eq rfl | exact binds_K (by k_in) rfl (by k_is) rfl rfl rfl); (case c5 => decide); (case kB => exact locs rfl); (case c2 => exact rfl); (case c3 => exact rfl); (case c4 => exact rfl); k_whole; intro L' h' F' N' l1; (try k_lt l1); (try dsimp only); (try k_fold)) | (refine' enterGC ?k1 ?k2 ?k3 ?k4 ?k5 ?k6 ?k7 ?k8 ?k9 ?kb ?kB ?kD ?_ ?c2 ?c3 ?c4; (case k1 => k_asm); (case k2 => k_asm); (case k3 => k_asm); (case k4 => k_asm); (case k5 => k_asm); (case k6 => k_asm); (case k7 => k_is); (case k8 => k_is); (case k9 => ktr_room); (case kb => first | exact BindsTo.of_eq rfl | exact binds_K (by k_in) rfl (by k_is) rfl rfl rfl); (case kB => exact rfl); (case kD => decide +kernel); (case c2 => exact rfl); (case c3 => exact rfl); (case c4 => exact rfl); k_whole; intro L' h' tk' cells' F' N' Y' l1; (try k_lt l1); k_cells Y'; (try simp only [List.cons_append, List.nil_append] at N'); (try dsimp only); (try k_fold)))
  (rename_i oc ob oa ec eb ea)
  have ec : oc.data = .cell none := ec
  have eb : ob.data = .cell none := eb
  have ea : oa.data = .cell none := ea
  (with_reducible rename Fr _ _ _ _ => fX)
  refine skip1 (SkinPre0 g L' sl (min 10 ss.length) s) ?s1 fun sa pa => ?_
  case s1 =>

    k_steps
    (with_reducible rename Fr _ _ _ _ => fY); (with_reducible rename News _ _ _ _ => nY)
    refine ⟨_, _, _, ys, _, _, oa, ob, oc, ys.length, rfl, shel_fr fY (by simp only [List.forall_mem_cons]; exact ⟨rfl, rfl, fun _ h => nomatch h⟩), ?_, by assumption, by rw [List.length_map]; simp, ea, eb, ec⟩
    intro q hq
    rcases List.mem_cons.mp hq with rfl | hq
    · have z := nY _ (.head _); exact z
    · exact nY q (.tail _ (.tail _ hq))
  clear fX
  (with_reducible rename News _ _ _ _ => nX); clear nX
  obtain ⟨h1, tk1, CL, cv, cs, u, oa, ob, oc, cn, rfl, F1, N1, hcv, hcl, ea, eb, ec⟩ := pa
  refine skip1 (SkinPre g L' sl 10 s) ?s2 fun sa pa => ?_
  case s2 =>
    have h10 : cs.length ≤ 10 := cut_ten (by assumption)
    k_steps
    unfold Stop
    refine W.kba_turn (value' := PySem.Expr.Name (PySem.Str.ofString "_") ⟨0, 0, 0, 0⟩) (fun _ => rfl) ?_
    (with_reducible rename Fr _ _ _ _ => fY); (with_reducible rename News _ _ _ _ => nY)
    refine W.kmk_slice_ints (ns := [7, 4, 22, 9, 40, 1, 3, 8, 6, 0]) (vs := [_, _, _, _, _, _, _, _, _, _]) (lo := some ((cs.length : Nat) : Int)) (hi := none) (ms := ([7, 4, 22, 9, 40, 1, 3, 8, 6, 0] : List Int).drop ((cs.length : Nat) : Int).toNat) fY nY (News.isList nY (.head _)) ?xp IsPart.none (.cons _ _ (.cons _ _ (.cons _ _ (.cons _ _ (.cons _ _ (.cons _ _ (.cons _ _ (.cons _ _ (.cons _ _ (.cons _ _ .nil)))))))))) ?xm (List.length_drop ..) ?_ ?xs ?xt ?xz
    case xp => kmk_part
    case xs => with_unfolding_all rfl
    case xt => intro _; rfl
    case xz => rw [sizeLine_eq]; exact Nat.le_of_ble_eq_true rfl
    case xm => exact W.kmk_from (.cons _ _ (.cons _ _ (.cons _ _ (.cons _ _ (.cons _ _ (.cons _ _ (.cons _ _ (.cons _ _ (.cons _ _ (.cons _ _ .nil)))))))))) (Int.natCast_nonneg _)
    intro D' ws' h' F' N' l1 hI' hC' hL'
    k_lt l1
    clear fY nY
    k_steps
    all_goals (first | exact True.intro | skip)
    all_goals (with_reducible rename Fr _ _ _ _ => fY)
    all_goals (with_reducible rename News _ _ _ _ => nY)
    refine ⟨_, _, _, _, _, _, oa, ob, oc, rfl, shel_fr fY (by simp only [List.forall_mem_cons]; exact ⟨rfl, rfl, fun _ h => nomatch h⟩), ?_, by assumption, ?_, ?_, ea, eb, ec⟩
    · intro q hq
      rcases List.mem_cons.mp hq with rfl | hq
      · exact nY _ (.head _)
      · exact nY q (.tail _ (.tail _ (.tail _ (.tail _ hq))))
    · rw [List.length_append, List.length_drop]
      simp only [List.length_cons, List.length_nil, Int.toNat_natCast]
      exact fill_ten h10
    · omega
  clear F1 N1 hcv hcl
  obtain ⟨h1, tk1, CL, cv, cs, u, oa, ob, oc, rfl, F1, N1, hcv, hcl, lt1, ea, eb, ec⟩ := pa
  k_steps
  unfold Stop
  refine next_via (SkinMid g L' s) ?loop fun sa pa => ?_
  case loop =>
    refine for_own ?_
    (with_reducible rename Fr _ _ _ _ => fX); (with_reducible rename News _ _ _ _ => nX)
    refine iter_via fX nX ?it ?go
    case it =>
      k_steps
      all_goals first | assumption | decide
    case go =>
      (rename_i FL hh1 ltF hh2 oa1 ea1)
      intro r n h2 tk2 t1 t2 t3 hn hr F2 N2
      clear fX nX
      refine l1_for rfl hr hn F2 N2 rfl rfl (.cons _ _ (.cons _ _ (.cons _ _ (.cons _ _ .nil)))) ea1 eb ec (by first | passes_own | with_unfolding_all passes_own) ?step ?fin
      case fin =>
        intro h3 tk3 u3 fv fn fs oa2 ob2 oc2 F3 N3 hfv hst ea2 eb2 ec2
        exact ⟨rfl, h3, tk3, CL, FL, cv, cs, fv, fn, fs, kstB u3 [(Str.ofString "script", .ref sl)], oa2, ob2, oc2, rfl, F3, N3, hcv, hcl, hfv, hst.skin hn, lt1, ltF.1, ea2, eb2, ec2⟩
      case step =>
        clear F2 N2 hr
        intro I i h3 tk3 u3 fv fn fs oa2 ob2 oc2 ltI hi F3 N3 hfv hst ea2 eb2 ec2 t5 K hK
        have hi2 : i < 2 := one_two hn hi
        have hfl : fs.length = 4 + 2 * i := hst.len (by omega)
        have hvl : fv.length = fs.length := by rw [hfv.length, List.length_map]
        generalize hnl : fs.length = nl at hfl hvl
        have hn8 : nl ≤ 8 := len_le8 hfl hi2
        have hn4 : 0 < nl := len_pos hfl
        have hnz := cast_pos hn4
        have hna := abs_lt hn8
        have hfn : nl = fs.length := hnl.symm
        have hvn : nl = fv.length := hvl.symm
        clear ea1 oa1
        k_steps
        unfold Stop
        (with_reducible rename Fr _ _ _ _ => fX); (with_reducible rename News _ _ _ _ => nX)
        obtain ⟨k, hk, ek⟩ := fmod_at (cs.getD ((i : Int)).toNat 0) hn4
        obtain ⟨tf, hfk⟩ := face_item hfv (i := k) (by omega)
        refine pop_at (k := k) fX nX (by k_upd) ek hfk (by omega) ?_
        intro h5 F5 N5
        clear fX nX
        k_steps
        unfold Stop
        (with_reducible rename Fr _ _ _ _ => fX); (with_reducible rename News _ _ _ _ => nX)
        refine ext_at fX nX (.head _) (by k_upd) (Nat.succ_pos _) ?_ ?_
        · rw [List.length_eraseIdx_of_lt (by omega)]; show _ + 3 ≤ _; rw [hvl]; exact stack_le hn8
        intro h6 F6 N6
        clear fX nX
        k_steps
        all_goals (with_reducible rename Fr _ _ _ _ => fY)
        all_goals (with_reducible rename News _ _ _ _ => nY)
        exact hK _ _ ⟨_, _, _, _, _, stack fs k (101 + i), oa2, ob2, oc2, rfl, shel_fr fY (by simp only [List.forall_mem_cons]; exact ⟨rfl, rfl, fun _ h => nomatch h⟩), fun q hq => nY q (.tail _ hq), stack_strs hfv hi2, hst.step hi2 (by omega), ea2, eb2, ec2⟩
  obtain ⟨h1, tk1, CL, FL, cv, cs, fv, fn, fs, u, oa, ob, oc, rfl, F1, N1, hcv, hcl, hfv, hsk, lt1, lt2, ea, eb, ec⟩ := pa
  have lt3 := Nat.lt_trans lt1 lt2
  k_steps
  unfold Stop
  refine for_own ?_
  k_steps
  (rename_i SL sv2 hh1 hi2 hc2 hl2 ltS)
  (with_reducible rename Fr _ _ _ _ => fX); (with_reducible rename News _ _ _ _ => nX)
  refine l2_for rfl hi2 fX nX rfl hfv hsk ea eb ec (by first | passes_own | with_unfolding_all passes_own) ?step ?fin
  case fin =>
    clear fX nX eb ea ec hsk hfv
    intro h3 tk3 u3 fv fn fs oa ob oc vb vc F3 N3 hfv hsk ea eb ec
    k_steps
    (with_reducible rename Fr _ _ _ _ => fY); (with_reducible rename News _ _ _ _ => nY)
    (rename_i Dc wc hc1 hIc hCc hLc lc Dt hc2 lt9)
    refine ret Dt FL Dc fv wc fn 0 fs _ _ _ fY.keep ?_ hfv hsk hIc (by rw [List.length_drop, hcl])
    intro q hq
    rcases List.mem_cons.mp hq with rfl | hq
    · exact ⟨(nY _ (.head _)).1, (nY _ (.head _)).2.2⟩
    rcases List.mem_cons.mp hq with rfl | hq
    · exact ⟨(nY _ (.tail _ (.tail _ (.tail _ (.head _))))).1, (nY _ (.tail _ (.tail _ (.tail _ (.head _))))).2.2⟩
    · rw [List.mem_singleton.mp hq]
      exact ⟨(nY _ (.tail _ (.head _))).1, (nY _ (.tail _ (.head _))).2.2⟩
  case step =>
    clear fX nX eb ea ec hsk hfv
    intro I i c tc h3 tk3 u3 fv fn fs oI oa ob oc vb vc ltI F3 N3 hit hfv hsk ea eb ec K hK
    have hl := hsk.len
    have hvl : fv.length = fs.length := by rw [hfv.length, List.length_map]
    generalize hnl : fs.length = nl at hl hvl
    have hn8 : nl ≤ 8 := or_le8 hl
    have hn4 : 0 < nl := or_pos hl
    have hnz := cast_pos hn4
    have hna := abs_lt hn8
    have hfn : nl = fs.length := hnl.symm
    have hvn : nl = fv.length := hvl.symm
    obtain ⟨k, hk, ek⟩ := fmod_at c hn4
    obtain ⟨k3, hk3, es⟩ := fmod_at (c.fdiv nl) (nl := 3) (by decide)
    obtain ⟨tf, hfk⟩ := face_item hfv (i := k) (by omega)
    k_steps
    unfold Stop
    (with_reducible rename Fr _ _ _ _ => fX); (with_reducible rename News _ _ _ _ => nX)
    have es' : (c.fdiv ↑nl).fmod 3 = (k3 : Int) := es
    rw [es', ek] at fX
    clear es es' ek
    obtain ⟨u4, tp4, ts4, fV⟩ := fr_kst2 (x1 := Str.ofString "cells") (v1 := .ref CL) (x2 := Str.ofString "p") (x3 := Str.ofString "s") fX rfl rfl rfl
    clear fX
    refine word_via fV nX ⟨#[(rotT k3 (fAt fs k)).1, (rotT k3 (fAt fs k)).2.1, (rotT k3 (fAt fs k)).2.2]⟩ ?w1 ?w2
    case w1 =>
      refine wpAny_BinOp ?_
      k_steps
      all_goals first | exact congrArg (fun x => Value.str x _) (rot_word (fAt fs k) hk3) | assumption
    case w2 =>
      intro h4 tk4 t4 F4 N4
      clear fV nX
      generalize hone : rotT k3 (fAt fs k) = one
      k_steps
      unfold Stop
      (with_reducible rename Fr _ _ _ _ => fX); (with_reducible rename News _ _ _ _ => nX); (rename IsRange _ _ _ _ _ _ _ _ => rX)
      refine LCt.CompSrcT.range (by rfl) fX nX rX (range_small8 _ hn8) (range_size8 _ hn8) (by rw [sizeLine_eq]; omega) ?_
      intro g'
      refine filtT (fun i => hasE (fAt fs i) one.2.1 one.1) trivial nl ?turn (fun _ => rfl) (fun _ => rfl) (by decide) ?fin
      case turn =>
        intro j v I2 oI2 C oC D m₂ h tk E' ys hj hv hC hx F N off nei
        obtain ⟨tj, rfl⟩ := hv
        rw [Int.zero_add] at hx
        obtain ⟨tfj, hfj⟩ := face_item hfv (i := j) (by omega)
        simp only [LCg.Off3, and_true] at off
        k_steps
        all_goals first | exact found_edge _ _ _ _ | assumption
      case fin =>
        intro ys hyl hyP
        obtain ⟨q, w', r', r2, hq, hfil, hfar, hflip⟩ := hsk.sees (p := k) (s := k3) (by omega) hk3
        rw [hnl, hone] at hfil
        rw [hone] at hfar hflip
        rw [hnl] at hq
        rw [hfil] at hyl hyP
        obtain ⟨v, rest, rfl⟩ : ∃ v rest, ys = v :: rest := by
          cases ys with
          | nil => cases hyl
          | cons v rest => exact ⟨v, rest, rfl⟩
        obtain ⟨tq, ev⟩ := hyP 0 v q rfl rfl
        rw [Int.zero_add] at ev
        subst ev
        obtain ⟨tfq, hfq⟩ := face_item hfv (i := q) (by omega)
        clear hyP hyl hfil fX nX rX
        intro D2 h5 tk5 F5 N5 o5
        simp only [LCg.Off1, and_true] at o5
        (try dsimp only)
        k_steps
        unfold Stop
        (with_reducible rename Fr _ _ _ _ => fX); (with_reducible rename News _ _ _ _ => nX)
        obtain ⟨u5, tp5, tq5, fY⟩ := fr_kst2 (x1 := Str.ofString "cells") (v1 := .ref CL) (x2 := Str.ofString "p") (x3 := Str.ofString "q") fX rfl rfl rfl
        have nY : News g L' _ _ := fun q hq => nX q (List.mem_cons_of_mem _ hq)
        clear fX nX
        dsimp only
        refine wpAny_execs_cons ?_
        k_steps
        unfold Stop
        (with_reducible rename Fr _ _ _ _ => fX); (with_reducible rename News _ _ _ _ => nX)
        clear fX nX
        refine filtT (fun i => !hasV one (ltr (fAt fs q) i)) trivial 3 ?turn (fun _ => rfl) (fun _ => rfl) (by decide) ?fin
        case turn =>
          intro j v I2 oI2 C oC D m₂ h tk E' ys hj hv hC hx F N off nei
          obtain ⟨tj, rfl⟩ := sign_ltr hv
          generalize ltr (fAt fs q) j = cj at hx
          simp only [LCg.Off3, and_true] at off
          k_steps
          all_goals first | exact congrArg (!·) (found_letter _ _) | assumption
        case fin =>
          intro ys hyl hyP
          obtain ⟨i0, r0, hfi, hfw⟩ := far_first hfar
          rw [hfi] at hyl hyP
          obtain ⟨v, rest2, rfl⟩ : ∃ v rest, ys = v :: rest := by
            cases ys with
            | nil => cases hyl
            | cons v rest => exact ⟨v, rest, rfl⟩
          obtain ⟨tw, ev⟩ := sign_ltr (hyP 0 v i0 rfl rfl)
          rw [hfw] at ev
          subst ev
          clear hyP hyl hfi hfw
          intro D3 h6 tk6 F6 N6 o6
          simp only [LCg.Off1, and_true] at o6
          (try dsimp only)
          k_steps
          unfold Stop
          (with_reducible rename Fr _ _ _ _ => fX); (with_reducible rename News _ _ _ _ => nX)
          have nY : News g L' _ _ := fun q hq => nX q (List.mem_cons_of_mem _ hq)
          clear nX
          dsimp only
          refine wpAny_execs_cons ?_
          k_steps
          unfold Stop
          (with_reducible rename Fr _ _ _ _ => fX); (with_reducible rename News _ _ _ _ => nX)
          refine LCt.CompSrcT.ledger (by rfl) fX nX (.tail _ (.tail _ (.head _))) (by rw [List.size_toArray, sizeLine_eq]; omega) ?_
          intro g'
          refine filtT (fun i => hasV (fAt fs i) one.2.2 && hasV (fAt fs i) w') (.inr ⟨_, .tail _ (.tail _ (.head _)), rfl, _, rfl⟩) _ ?turn (fun _ => rfl) (fun _ => rfl) (by decide) ?fin
          case turn =>
            intro j v I2 oI2 C oC D m₂ h tk E' ys hj hv hC hx F N off nei
            rw [List.size_toArray] at hj
            obtain ⟨tj, ej⟩ := face_item hfv (i := j) (by omega)
            rw [List.getElem?_toArray, ej] at hv
            cases hv
            simp only [LCg.Off3, and_true] at off
            clear fX nX
            k_steps
            all_goals first | with_reducible assumption | exact and_no1 (by with_reducible assumption) | exact and_no2 (by with_reducible assumption) | exact and_yes (by with_reducible assumption) (by with_reducible assumption)
          case fin =>
            intro ys hyl hyP
            rw [List.size_toArray, hvl, ← hnl] at hyl
            clear hyP fX nX
            intro D4 h7 tk7 F7 N7 o7
            simp only [LCg.Off1, and_true] at o7
            (try dsimp only)
            by_cases hany : (fs.any fun f => hasV f one.2.2 && hasV f w') = true
            · have hp := any_cons (p := fun f => hasV f one.2.2 && hasV f w') hany
              obtain ⟨v, rest3, rfl⟩ : ∃ v rest, ys = v :: rest := by
                cases ys with
                | nil => rw [← hyl] at hp; cases hp
                | cons v rest => exact ⟨v, rest, rfl⟩
              rw [if_pos hany] at hflip
              clear hp hyl
              k_steps
              unfold Stop
              (with_reducible rename News _ _ _ _ => nX)
              refine eq_nil_cons nX (.tail _ (.head _)) (.head _) (by ktr_units) ?_
              k_steps
              (with_reducible rename Fr _ _ _ _ => fY)
              exact hK _ _ ⟨_, _, _, fv, fn, fs, oI, oa, _, _, _, _, rfl, shel_fr fY (by simp only [List.forall_mem_cons]; exact ⟨rfl, fun _ h => nomatch h⟩), fun q hq => nX q (.tail _ (.tail _ hq)), hit, hfv, hsk, ea, by with_reducible assumption, by with_reducible assumption⟩
            · rw [any_nil (p := fun f => hasV f one.2.2 && hasV f w') hany] at hyl
              obtain rfl : ys = [] := by
                cases ys with
                | nil => rfl
                | cons v rest => cases hyl
              rw [if_neg hany] at hflip
              clear hyl
              k_steps
              unfold Stop
              (with_reducible rename News _ _ _ _ => nX)
              refine eq_nil_nil nX (.tail _ (.head _)) (.head _) (by ktr_units) ?_
              k_steps
              unfold Stop
              (with_reducible rename Fr _ _ _ _ => fX); (with_reducible rename News _ _ _ _ => nX)
              refine set_at (k := k) fX nX (by k_upd) rfl (by omega) (by omega) ?_
              intro h8 F8 N8
              clear fX nX
              k_steps
              unfold Stop
              (with_reducible rename Fr _ _ _ _ => fX); (with_reducible rename News _ _ _ _ => nX)
              refine set_at (k := q) fX nX (by k_upd) rfl (by rw [List.length_set]; omega) (by rw [List.length_set]; omega) ?_
              intro h9 F9 N9
              clear fX nX
              k_steps
              (with_reducible rename Fr _ _ _ _ => fY); (with_reducible rename News _ _ _ _ => nY)
              have hfl := hsk.flip (p := k) (s := k3) (by omega) hk3
              rw [hflip] at hfl
              exact hK _ _ ⟨_, _, _, _, fn, _, oI, oa, _, _, _, _, rfl, shel_fr fY (by simp only [List.forall_mem_cons]; exact ⟨rfl, fun _ h => nomatch h⟩), fun q hq => nY q (.tail _ (.tail _ hq)), hit, flip_strs hfv, hfl, ea, by with_reducible assumption, by with_reducible assumption⟩
end
-- part: MTriple
section
theorem off_MTriple : True := by w_top off; exact trivial
local macro_rules | `(tactic| k_room) => `(tactic| ktr_room)
section
open LCg
variable {prog : Program} {w : World} {A : Around} {E : Value → Shared → Prop} {s : Shared} {h₀ : Heap} {L : Addr} {m : PySem.Str → Option Value}
/-- a list comprehension's turns whose target is a row of names, with one test -/
theorem rows_loop {elt iter ct : PySem.Expr} {elts : List PySem.Expr} {x1} {tp : Pos} {scope : PySem.Scope} {pos : Pos} {it acc : Value} {env : Env} {R : Result → Shared → Prop} (I : Nat → Shared → Prop)
    (turn : ∀ n s, I n s → wpAny (model prog w) A (pyNext it) (fun r s₁ => match r with
      | none => R (.ok .next) s₁
      | some v => wpAny (model prog w) A (letOwnedTupleGo (.Tuple elts x1 tp) it v) (fun _ s₂ => wpAny (model prog w) A (assign (.Tuple elts x1 tp) env v) (fun _ s₃ =>
          wpAny (model prog w) A (isTrue ct env (eval ct env)) (fun ok s₄ => if ok = true then
              wpAny (model prog w) A (eval elt env) (fun x s₅ => wpAny (model prog w) A (call (.builtin "list.append") [acc, x]) (fun _ s₆ => ∃ m, m < n ∧ I m s₆) (notedBy (model prog w) A env fun e s' => R (.error e) s') s₅) (notedBy (model prog w) A env fun e s' => R (.error e) s') s₄
            else ∃ m, m < n ∧ I m s₄) (notedBy (model prog w) A env fun e s' => R (.error e) s') s₃) (notedBy (model prog w) A env fun e s' => R (.error e) s') s₂) (notedBy (model prog w) A env fun e s' => R (.error e) s') s₁) (notedBy (model prog w) A env fun e s' => R (.error e) s') s)
    (n : Nat) (h : I n s) : codeAny (model prog w) A (.compLoop (.ListComp elt [⟨.Tuple elts x1 tp, iter, [ct], 0⟩] scope pos) 0 it acc env) R s := by
  refine codeAny_loop rfl I (fun n s hI => ?_) n h
  show wpAny _ A ((compTurn (.ListComp elt [⟨.Tuple elts x1 tp, iter, [ct], 0⟩] scope pos) 0 it acc env).onRaise (fun x => do noteFrame x env; theTreesLotGoes x)) _ _ s
  refine wpAny_noted ?_
  rw [compTurn_list]
  refine wpAny_bind (wpAny_standAt (wpAny_bind (wpAny_mono (turn n s hI) (fun r s₁ h₁ => ?_) fun _ _ q => q)))
  cases r with
  | none => exact wpAny_pure h₁
  | some v =>
    refine wpAny_bind (wpAny_mono h₁ (fun _ s₂ h₂ => wpAny_bind (wpAny_mono h₂ (fun _ s₃ h₃ => wpAny_bind (wpAny_mono (wpAny_tests_one h₃) (fun ok s₄ h₄ => ?_) fun _ _ q => q)) fun _ _ q => q)) fun _ _ q => q)
    cases ok with
    | false => exact wpAny_pure ⟨rfl, h₄⟩
    | true => exact wpAny_bind (wpAny_bind (wpAny_mono h₄ (fun x s₅ h₅ => wpAny_bind (wpAny_mono h₅ (fun _ s₆ h₆ => wpAny_pure (wpAny_pure ⟨rfl, h₆⟩)) fun _ _ q => q)) fun _ _ q => q))
def Row3 (news : List (Addr × Obj)) (v v₁ v₂ v₃ : Value) : Prop := ∃ (t : Addr) (ot : Obj) (nt : Nat), v = .ref t ∧ (t, ot) ∈ news ∧ ot.cls = .type "tuple" ∧ ot.data = .seq #[v₁, v₂, v₃] nt
/-- y = [x for x, x₂, x₃ in a ledger's list of tuples if test]: as many as the test takes -/
theorem assign_rows {env : Env} {iter ct : PySem.Expr} {x x₂ x₃ y : PySem.Str} {px px₂ px₃ pe tp py : Pos} {tk} {scope : PySem.Scope} {pos spos : Pos} {Q : Flow → Shared → Prop} {ax : Addr} {vs : List Value} {vn : Nat} {news : List (Addr × Obj)} (b : Nat → Bool) (T : Nat → Value → Value → Value → Prop)
    (F : Fr h₀ L s.heap m) (N : News h₀ L s.heap news) (hh : A.handled = none) (hLe : env.locals = L)
    (hsw : swapsWith (.ListComp (.Name x pe) [⟨.Tuple [.Name x px, .Name x₂ px₂, .Name x₃ px₃] tk tp, iter, [ct], 0⟩] scope pos) (some (.Name y py)) spos.line env = pure true)
    (hclos : closureFor scope env = pure []) (hcell : ∀ z ∈ scope.names, z.2 ≠ .cell) (hkind : scope.kind = .function)
    (hnames : ∀ z ∈ scope.names, z.2 = .local → scope.names.lookup z.1 = some .local) (hx : scope.names.lookup x = some .local) (hx₂ : scope.names.lookup x₂ = some .local) (hx₃ : scope.names.lookup x₃ = some .local) (h12 : x ≠ x₂) (h13 : x ≠ x₃) (h23 : x₂ ≠ x₃)
    (hy : env.kindOf y = some .local) (hp : (env.scope.kind == .class || (env.scope.kind == .module && env.locals != env.globals)) = false)
    (hk : ∀ C, (compEnvC scope [] C env).scope.kind = .function) (hl : ∀ C, (compEnvC scope [] C env).kindOf x = some .local) (hd : (x == ("__debug__" : PySem.Str)) = false)
    (h : wpAny (model prog w) A (eval iter env) (fun xv s₁ => xv = .ref ax ∧ s₁ = s) E s)
    (hm : (ax, W.listOf vs.toArray vn) ∈ news) (hlen : vs.length ≤ 1000)
    (tup : ∀ i v, vs[i]? = some v → ∃ v₁ v₂ v₃, Row3 news v v₁ v₂ v₃ ∧ T i v₁ v₂ v₃)
    (turn : ∀ i v₁ v₂ v₃ I oI C oC D m₂ h tk' (E' : Value → Shared → Prop) ys, T i v₁ v₂ v₃ → NsObj oC m₂ → m₂ x = some v₁ → m₂ x₂ = some v₂ → m₂ x₃ = some v₃ → Fr h₀ L h m → News h₀ L h ((I, oI) :: (C, oC) :: (D, lst ys) :: news) → Off3 I C D news → ((@Ne Nat I C) ∧ (@Ne Nat I D) ∧ (@Ne Nat C D)) →
      wpAny (model prog w) A (isTrue ct (compEnvC scope [] C env) (eval ct (compEnvC scope [] C env))) (fun ok s' => ok = b i ∧ ∃ h' tk', s' = { s with heap := h', toks := tk' } ∧ Fr h₀ L h' m ∧ News h₀ L h' ((I, oI) :: (C, oC) :: (D, lst ys) :: news)) E' { s with heap := h, toks := tk' })
    (fin : ∀ D ys h' tk', ys.length = ((List.range vs.length).filter b).length → Fr h₀ L h' (fun z => if z = y then some (.ref D) else m z) → News h₀ L h' ((D, lst ys) :: news) → Off1 D news → Q .next { s with heap := h', toks := tk' })
    (hs : ∀ x, foldedSetIterable iter env x = pure x := by intro _; rfl) :
    wpAny (model prog w) A (exec (.Assign [.Name y py] (.ListComp (.Name x pe) [⟨.Tuple [.Name x px, .Name x₂ px₂, .Name x₃ px₃] tk tp, iter, [ct], 0⟩] scope pos) spos) env) Q E s := by
  subst hLe
  rw [exec_Assign_Name_used _ _ _ _ hsw]
  refine wpAny_bind (wpAny_standAt (wpAny_bind ?_))
  show wpAny _ A (do let _ ← comprehension (.ListComp (.Name x pe) [⟨.Tuple [.Name x px, .Name x₂ px₂, .Name x₃ px₃] tk tp, iter, [ct], 0⟩] scope pos) scope env _ (newList []) false (eval iter env) (some (assign (.Name y py) env))) _ _ s
  refine wpAny_bind (wpAny_mono (wpAny_comprehension_free (use := some (assign (.Name y py) env)) (Q := fun _ s' => Q .next s') rfl hs hclos hkind hnames
    (wpAny_mono h (fun xv s₁ h₁ => ?_) fun _ _ e => e)) (fun _ s' hq => wpAny_pure (wpAny_pure hq)) fun _ _ e => e)
  obtain ⟨rfl, rfl⟩ := h₁
  refine wpAny_pyIter_list (PySem.IsL.isList (n := vn) (N _ hm).1) ?_
  obtain ⟨F1, N1, lt1⟩ := pushed_it (o := ({ cls := .type "list_iterator", data := .fields #[.ref ax, .int 0 0] } : Obj)) F N
  generalize hH1 : s₁.heap.push ({ cls := .type "list_iterator", data := .fields #[.ref ax, .int 0 0] } : Obj) = H1 at F1 N1 ⊢
  have hI1 : H1.objs.size = s₁.heap.objs.size + 1 := by rw [← hH1, Heap.size_push]
  generalize hI : s₁.heap.objs.size = I at *
  refine wpAny_newObj_type (wpAny_newFunctionEnv hcell (by intro y hy; simp at hy) (fun h₁ hns₁ hsb₁ => ?_) hkind)
  dsimp only at hns₁ hsb₁ ⊢
  obtain ⟨F2, N2, lt2⟩ := pushed_it (o := (lst [] : Obj)) F1 N1
  have hH2' : H1.push (lst []) = H1.push { cls := .type "list", dict := none, data := .seq ([] : List Value).toArray } := rfl
  rw [hH2'] at F2 N2
  generalize hH2 : H1.push ({ cls := .type "list", dict := none, data := .seq ([] : List Value).toArray } : Obj) = H2 at F2 N2 hns₁ hsb₁ ⊢
  have hC : H2.objs.size = H1.objs.size + 1 := by rw [← hH2, Heap.size_push]
  generalize hD : H1.objs.size = D at *
  generalize hCC : H2.objs.size = C at *
  have hIC : I ≠ C := Nat.ne_of_lt (by omega)
  have hID : I ≠ D := Nat.ne_of_lt (by omega)
  have hDC : D ≠ C := Nat.ne_of_lt (by omega)
  have iI := (N2 _ (.tail _ (.head _))).2
  have iD := (N2 _ (.head _)).2
  have iC : C ≠ env.locals ∧ h₀.get? C = none := by
    refine ⟨fun q => ?_, ?_⟩
    · have := F2.ns.lt; rw [← q, hCC] at this; exact Nat.lt_irrefl _ this
    · cases q : h₀.get? C with
      | none => rfl
      | some o => have := Heap.lt_size (F2.keep _ _ q); rw [hCC] at this; exact absurd this (Nat.lt_irrefl _)
  have offI : ∀ p ∈ news, p.1 ≠ I := fun p hp => Nat.ne_of_lt (lt1 p hp)
  have offD : ∀ p ∈ news, p.1 ≠ D := fun p hp => Nat.ne_of_lt (lt2 p (.tail _ hp))
  have offC : ∀ p ∈ news, p.1 ≠ C := fun p hp => Nat.ne_of_lt (by have := Heap.lt_size (N2 p (.tail _ (.tail _ hp))).1; rw [hCC] at this; exact this)
  have off3 : Off3 I C D news := Off3.of fun p hp => ⟨offI p hp, offC p hp, offD p hp⟩
  have old1 : ∀ b o, b ≠ C → H2.get? b = some o → h₁.get? b = some o := fun b o hb e => hsb₁.extBut b o hb (Heap.get?_push_of_some _ e)
  have F3 : Fr h₀ env.locals h₁ m := (F2.keeps fun _ _ e => Heap.get?_push_of_some _ e).change hsb₁ iC.1 iC.2
  have N3 : News h₀ env.locals h₁ ((D, lst []) :: (I, _) :: news) := fun p hp => by
    refine ⟨old1 _ _ ?_ (N2 p hp).1, (N2 p hp).2⟩
    rcases List.mem_cons.mp hp with rfl | hp
    · exact hDC
    · rcases List.mem_cons.mp hp with rfl | hp
      · exact hIC
      · exact offC p hp
  let S : Nat → Shared → Prop := fun i s' => ∃ (h' : Heap) (tk' : Nat) (ys : List Value) (m' : PySem.Str → Option Value), s' = { s₁ with heap := h', toks := tk' } ∧ i ≤ vs.length ∧ ys.length = ((List.range i).filter b).length ∧ h'.IsListIter I ax i ∧ Fr h₀ env.locals h' m ∧ h'.Ns C m' ∧ News h₀ env.locals h' ((D, lst ys) :: news)
  have loop : ∀ s₃ : Shared, S 0 s₃ → codeAny (model prog w) A (.compLoop (.ListComp (.Name x pe) [⟨.Tuple [.Name x px, .Name x₂ px₂, .Name x₃ px₃] tk tp, iter, [ct], 0⟩] scope pos) 0 (.ref I) (.ref D) (compEnvC scope [] C env))
      (compPost (model prog w) A E (some (assign (.Name y py) env)) (fun _ s' => Q .next s') (.ref D) C) s₃ := by
    intro s₃ h3
    refine rows_loop (fun k s' => ∃ i, S i s' ∧ k = vs.length + 1 - i) ?_ (vs.length + 1) ⟨0, h3, rfl⟩
    rintro k s' ⟨i, ⟨h', tk', ys, m', rfl, hi, hyl, hit, F', hn', N'⟩, rfl⟩
    have hlst : h'.IsList ax vs.toArray := PySem.IsL.isList (n := vn) (N' _ (.tail _ hm)).1
    by_cases hlt : i < vs.length
    · have hv : vs[i]? = some vs[i] := List.getElem?_eq_getElem hlt
      refine wpAny_pyNext_list_item hit hlst (by rw [List.getElem?_toArray]; exact hv) fun h₂ k1 k2 => ?_
      obtain ⟨v₁, v₂, v₃, ⟨t, ot, nt, ev, hmt, hct, hdt⟩, hT⟩ := tup i _ hv
      rw [ev]
      have F₂ := F'.change k2 iI.1 iI.2
      have N₂ : News h₀ env.locals h₂ ((D, lst ys) :: news) := fun p hp => by
        refine ⟨k2.extBut _ _ ?_ (N' p hp).1, (N' p hp).2⟩
        rcases List.mem_cons.mp hp with rfl | hp
        · exact Ne.symm hID
        · exact offI p hp
      have hn₂ := hn'.sameBut k2 (Ne.symm hIC)
      have ht : IsTup h₂ t #[v₁, v₂, v₃] := ⟨ot, (N₂ _ (.tail _ hmt)).1, hct, nt, hdt⟩
      refine wpAny_letOwnedTupleGo_listiter k1 ?_
      refine assign_Tuple_tuple hh ht rfl rfl fun h₃ he => ?_
      have he' : ∀ b o, h₂.get? b = some o → h₃.get? b = some o := fun b o e => he b o (Nat.ne_of_lt (Heap.lt_size e)) e
      refine assignInOrder_cons (wpAny_assign_Name (wpAny_storeName_local (lookup_relabel_local hx) (hn₂.at' fun o e => he' _ o e) (fun h₄ hn₄ hs₄ => ?_) (by simp [compEnvC, relabel, hkind])))
      refine assignInOrder_cons (wpAny_assign_Name (wpAny_storeName_local (lookup_relabel_local hx₂) hn₄ (fun h₅ hn₅ hs₅ => ?_) (by simp [compEnvC, relabel, hkind])))
      refine assignInOrder_cons (wpAny_assign_Name (wpAny_storeName_local (lookup_relabel_local hx₃) hn₅ (fun h₆ hn₆ hs₆ => ?_) (by simp [compEnvC, relabel, hkind])))
      refine assignInOrder_nil ?_
      have old : ∀ b o, b ≠ C → h₂.get? b = some o → h₆.get? b = some o := fun b o hb e => hs₆.extBut b o hb (hs₅.extBut b o hb (hs₄.extBut b o hb (he' b o e)))
      obtain ⟨oI, heI, hcI, hdI⟩ := k1
      obtain ⟨m₆, hm₆, z1, z2, z3⟩ : ∃ m₆ : PySem.Str → Option Value, h₆.Ns C m₆ ∧ m₆ x = some v₁ ∧ m₆ x₂ = some v₂ ∧ m₆ x₃ = some v₃ :=
        ⟨_, hn₆, by simp [h12, h13, Ne.symm h12, Ne.symm h13], by simp [h23, Ne.symm h23], by simp⟩
      obtain ⟨oC, heC, hoC⟩ := ns_obj hm₆
      have F₆ : Fr h₀ env.locals h₆ m := (((F₂.keeps he').change hs₄ iC.1 iC.2).change hs₅ iC.1 iC.2).change hs₆ iC.1 iC.2
      have N₆ : News h₀ env.locals h₆ ((I, oI) :: (C, oC) :: (D, lst ys) :: news) := fun p hp => by
        rcases List.mem_cons.mp hp with rfl | hp
        · exact ⟨old _ _ hIC heI, iI⟩
        · rcases List.mem_cons.mp hp with rfl | hp
          · exact ⟨heC, iC⟩
          · refine ⟨old _ _ ?_ (N₂ p hp).1, (N₂ p hp).2⟩
            rcases List.mem_cons.mp hp with rfl | hp
            · exact hDC
            · exact offC p hp
      refine wpAny_mono (turn i v₁ v₂ v₃ I oI C oC D _ h₆ _ _ ys hT hoC z1 z2 z3 F₆ N₆ off3 ⟨hIC, hID, Ne.symm hDC⟩) (fun ok s₄ q => ?_) fun _ _ e => e
      obtain ⟨rfl, h₇, tk₇, rfl, F₇, N₇⟩ := q
      have zI := (N₇ _ (.head _)).1
      have zC := (N₇ _ (.tail _ (.head _))).1
      have zD := (N₇ _ (.tail _ (.tail _ (.head _)))).1
      have e1 : (List.range (i + 1)).filter b = (List.range i).filter b ++ (if b i then [i] else []) := by
        rw [List.range_succ, List.filter_append, List.filter_cons, List.filter_nil]
      cases hb : b i with
      | true =>
        rw [hb, if_pos rfl] at e1
        simp only [if_true]
        refine ldVarK (hoC.ns zC) z1 ?_ (hk C) (hl C) hd
        refine append_at (hsz := by show ys.toArray.size ≤ sizeLine; rw [List.size_toArray, hyl, sizeLine_eq]; have := List.length_filter_le b (List.range i); rw [List.length_range] at this; omega) zD fun h₈ hs₈ hD₈ => ?_
        refine ⟨vs.length + 1 - (i + 1), by omega, i + 1, ⟨h₈, tk₇, ys ++ [v₁], _, rfl, hlt, by rw [e1, List.length_append, List.length_append, hyl]; rfl, ⟨oI, hs₈.extBut _ _ hID zI, hcI, hdI⟩, F₇.change hs₈ iD.1 iD.2, (hoC.ns zC).sameBut hs₈ (Ne.symm hDC), fun p hp => ?_⟩, rfl⟩
        rcases List.mem_cons.mp hp with rfl | hp
        · exact ⟨hD₈.trans (congrArg some (lst_snoc ys v₁)), iD⟩
        · exact ⟨hs₈.extBut _ _ (offD p hp) (N₇ p (.tail _ (.tail _ (.tail _ hp)))).1, (N₇ p (.tail _ (.tail _ (.tail _ hp)))).2⟩
      | false =>
        rw [hb, if_neg Bool.false_ne_true, List.append_nil] at e1
        simp only [Bool.false_eq_true, if_false]
        exact ⟨vs.length + 1 - (i + 1), by omega, i + 1, ⟨h₇, tk₇, ys, _, rfl, hlt, by rw [e1]; exact hyl, ⟨oI, zI, hcI, hdI⟩, F₇, hoC.ns zC, fun p hp => N₇ p (.tail _ (.tail _ hp))⟩, rfl⟩
    · have e : i = vs.length := by omega
      subst e
      refine wpAny_pyNext_list_end hh hit hlst (by rw [List.getElem?_toArray]; exact List.getElem?_eq_none (Nat.le_refl _)) fun h₂ k1 => ?_
      have F₂ := fr_extBut F' iI.2 iI.1 k1
      have N₂ : News h₀ env.locals h₂ ((D, lst ys) :: news) := fun p hp => by
        refine ⟨k1 _ _ ?_ (N' p hp).1, (N' p hp).2⟩
        rcases List.mem_cons.mp hp with rfl | hp
        · exact Ne.symm hID
        · exact offI p hp
      have hn₂ : h₂.Ns C m' := hn'.extBut k1 (Ne.symm hIC)
      show wpAny _ A (assign (.Name y py) env (.ref D)) _ _ _
      refine wpAny_assign_Name (wpAny_storeName_local hy F₂.ns (fun h₄ hn₄ hs₄ => ?_) hp)
      have hL₀ : h₀.get? env.locals = none := Heap.get?_none_of_le F₂.above
      have F₄ : Fr h₀ env.locals h₄ (fun z => if z = y then some (.ref D) else m z) := F₂.set hn₄ hs₄
      refine ⟨m', hn₂.sameBut hs₄ iC.1, fun h₅ hs₅ => fin D ys h₅ _ hyl (F₄.change hs₅ iC.1 iC.2) (fun p hp => ?_) (off1_of offD)⟩
      have z : h₄.get? p.1 = some p.2 := hs₄.extBut _ _ (N₂ p hp).2.1 (N₂ p hp).1
      refine ⟨hs₅.extBut _ _ ?_ z, (N₂ p hp).2⟩
      rcases List.mem_cons.mp hp with rfl | hp
      · exact hDC
      · exact offC p hp
  have hS0 : ∀ tk', S 0 { s₁ with heap := h₁, toks := tk' } := fun tk' => ⟨h₁, tk', [], _, rfl, Nat.zero_le _, rfl, ⟨_, (N3 _ (.tail _ (.head _))).1, rfl, rfl⟩, F3, hns₁, fun p hp => by
    rcases List.mem_cons.mp hp with rfl | hp
    · exact N3 _ (.head _)
    · exact N3 p (.tail _ (.tail _ hp))⟩
  refine codeAny_compStart_list (loop _ (hS0 _)) (wpAny_pyIter_listiter (l := ax) (i := 0) ⟨_, (N3 _ (.tail _ (.head _))).1, rfl, rfl⟩ (loop _ (hS0 _)))
end
end
-- part: MLaw0
section
theorem off_MLaw0 : True := by w_top off; exact trivial
local macro_rules | `(tactic| k_room) => `(tactic| ktr_room)
theorem turn_new {g G g' g'' : Heap} {L a : Addr} {m : PySem.Str → Option Value} {fs fs' : List Addr} (F : Fr g L G m) (T : KtsTurn fs G g'') (T1 : KtsTurn fs' g g') (h : g''.get? a = none) : a ≠ L ∧ g'.get? a = none := by
  have hG : G.get? a = none := by
    cases q : G.get? a with
    | none => rfl
    | some o =>
      obtain ⟨sl, e⟩ := T.up q
      rw [h] at e; cases e
  exact ⟨fresh_ne F hG, T1.none_ _ (fresh_g F hG)⟩
section
variable {w : World} {dp un : Nat} {gd : Option (List Code)} {A₀ : Around} {E : Value → Shared → Prop} {qn : PySem.Str} {scope : PySem.Scope} {a : Addr} {cd : Value} {outer : List Env} {base g : Heap} {L : Addr} {m : PySem.Str → Option Value} {s : Shared} {mean : ExcName → Option Value} {mg mb : PySem.Str → Option Value} {Q : Value → Shared → Prop} {news : List (Addr × Obj)}
theorem skin_use {env : Env} (B : Below A₀ base outer g) (F : Fr g L s.heap m) (X : (hd.heap_1 w.params).In g) (N : News g L s.heap news) (T : Top qv looseL mean mg mb g) (hf : env.frame = some L) (hke : env.scope.kind = .function) (hdp : dp + 4 < recursionLimit) (hu : un + 40 < cLine)
    {sl : Addr} {sv : List Value} {ss : List Int} (hsl : g.IsList sl sv.toArray) (hsv : IntsAre sv ss) (hss : ss.length ≤ 1000)
    (ret : ∀ l fl cl fv cv fn cn fs cs h' tk', Fr g L h' m → News g L h' ((l, ({ cls := .type "tuple", data := .seq #[.ref fl, .ref cl] } : Obj)) :: (fl, W.listOf fv.toArray fn) :: (cl, W.listOf cv.toArray cn) :: news) →
      StrsAre fv (fs.map str3) → Skin fs → IntsAre cv cs → cs.length = 5 → Q (.ref l) { s with heap := h', toks := tk' }) :
    wpAny (model PySem.Challenge.rw_tr0054_01.prog w) { handled := Option.none, depth := dp, frames := some (env :: outer), guards := gd, units := un } (call (.ref 244) [.ref sl]) Q E s := by
  have B' := pushX B F hf hke
  have B'' : Below ({ handled := Option.none, depth := dp, frames := some (env :: outer), guards := gd, units := un } : Around) base (env :: outer) s.heap := ⟨rfl, B'.stays, B'.frames⟩
  have hsl' : s.heap.IsList sl sv.toArray := hsl.at fun o e => F.keep _ o e
  refine wpAny_call (skin_spec B'' (fun _ _ e => e) (Nat.le_refl _) (X.keeps F.keep) (T.keeps F.keep) rfl hdp hu hsl' hsv hss fun l fl cl fv cv fn cn fs cs h' tk' k1 k2 h3 h4 h5 h6 => ?_)
  have kn : ∀ q ∈ [(l, ({ cls := .type "tuple", data := .seq #[.ref fl, .ref cl] } : Obj)), (fl, W.listOf fv.toArray fn), (cl, W.listOf cv.toArray cn)], h'.get? q.1 = some q.2 ∧ q.1 ≠ L ∧ g.get? q.1 = none := fun q hq => ⟨(k2 q hq).1, fresh_ne F (k2 q hq).2, fresh_g F (k2 q hq).2⟩
  refine ret l fl cl fv cv fn cn fs cs h' tk' (F.grownK k1) (fun p hp => ?_) h3 h4 h5 h6
  rcases List.mem_cons.mp hp with rfl | hp
  · exact kn _ (.head _)
  rcases List.mem_cons.mp hp with rfl | hp
  · exact kn _ (.tail _ (.head _))
  rcases List.mem_cons.mp hp with rfl | hp
  · exact kn _ (.tail _ (.tail _ (.head _)))
  · exact ⟨k1 _ _ (N p hp).1, (N p hp).2⟩
theorem kts_pushed (F : Fr g L s.heap m) (D : KtsDicts (outer.filterMap (·.frame)) g) : KtsDicts ((envOf qn scope L a cd :: outer).filterMap (·.frame)) s.heap := fun b hb => by
  rcases kts_mem hb with rfl | hb
  · obtain ⟨oL, es, ep, hL, hLd, _⟩ := F.ns
    exact ⟨oL, es, ep, hL, hLd⟩
  · obtain ⟨o, es, n', ho, hd'⟩ := D b hb
    exact ⟨o, es, n', F.keep b o ho, hd'⟩
theorem shelled_use (B : Below A₀ base outer g) (F : Fr g L s.heap m) (X : (hd.heap_1 w.params).In g) (N : News g L s.heap news) (T : Top qv looseL mean mg mb g) (XB : (hd.heap_1 w.params).In base) (TB : Top qv looseL mean mg mb base) (D : KtsDicts (outer.filterMap (·.frame)) g) (hke : scope.kind = .function) (hdp : dp + 8 < recursionLimit) (hu : un + 80 < cLine)
    {fl cl : Addr} {fv cv : List Value} {fn cn : Nat} {fs : List Tri} {cs : List Int} (hfl : (fl, W.listOf fv.toArray fn) ∈ news) (hfv : StrsAre fv (fs.map str3)) (hcl : (cl, W.listOf cv.toArray cn) ∈ news) (hcv : IntsAre cv cs) (hcs : cs.length = 5) (play : Play fs)
    (ret : ∀ l O P ov pv on pn pts d h' tk' g', KtsTurn (outer.filterMap (·.frame)) g g' → Below A₀ base outer g' → Fr g' L h' m → News g' L h' ((l, ({ cls := .type "tuple", data := .seq #[.ref O, .ref P] } : Obj)) :: (O, W.listOf ov.toArray on) :: (P, W.listOf pv.toArray pn) :: (pts ++ news)) →
      Sh fs d → d.length = fs.length → IntsAre ov (d.map Int.ofNat) → PaintsAre fs pts pv d → Q (.ref l) { s with heap := h', toks := tk' }) :
    wpAny (model PySem.Challenge.rw_tr0054_01.prog w) { handled := Option.none, depth := dp, frames := some (envOf qn scope L a cd :: outer), guards := gd, units := un } (call (.ref 264) [.ref fl, .ref cl]) Q E s := by
  have B' := pushX B F (env := envOf qn scope L a cd) rfl hke
  have B'' : Below ({ handled := Option.none, depth := dp, frames := some (envOf qn scope L a cd :: outer), guards := gd, units := un } : Around) base (envOf qn scope L a cd :: outer) s.heap := ⟨rfl, B'.stays, B'.frames⟩
  refine wpAny_call (shelled_spec B'' (fun _ _ e => e) (Nat.le_refl _) (X.keeps F.keep) (T.keeps F.keep) rfl XB TB (kts_pushed F D) hdp hu (PySem.IsL.isList (n := fn) (N _ hfl).1) hfv (PySem.IsL.isList (n := cn) (N _ hcl).1) hcv hcs play fun l O P ov pv on pn pts d h' tk' g'' T' k k2 h3 h4 h5 h6 => ?_)
  obtain ⟨g', T1, F1, N1, B1⟩ := ground_turn B F N T' k
  refine ret l O P ov pv on pn pts d h' tk' g' T1 B1 F1 (fun p hp => ?_) h3 h4 h5 h6
  have go : ∀ q, q ∈ (l, ({ cls := .type "tuple", data := .seq #[.ref O, .ref P] } : Obj)) :: (O, W.listOf ov.toArray on) :: (P, W.listOf pv.toArray pn) :: pts → h'.get? q.1 = some q.2 ∧ q.1 ≠ L ∧ g'.get? q.1 = none := fun q hq => ⟨(k2 q hq).1, turn_new F T' T1 (k2 q hq).2⟩
  rcases List.mem_cons.mp hp with rfl | hp
  · exact go _ (.head _)
  rcases List.mem_cons.mp hp with rfl | hp
  · exact go _ (.tail _ (.head _))
  rcases List.mem_cons.mp hp with rfl | hp
  · exact go _ (.tail _ (.tail _ (.head _)))
  rcases List.mem_append.mp hp with hp | hp
  · exact go _ (.tail _ (.tail _ (.tail _ hp)))
  · exact N1 p hp
theorem backward_use (B : Below A₀ base outer g) (F : Fr g L s.heap m) (X : (hd.heap_1 w.params).In g) (N : News g L s.heap news) (T : Top qv looseL mean mg mb g) (XB : (hd.heap_1 w.params).In base) (TB : Top qv looseL mean mg mb base) (D : KtsDicts (outer.filterMap (·.frame)) g) (hke : scope.kind = .function) (hdp : dp + 8 < recursionLimit) (hu : un + 80 < cLine)
    {fl ol pl : Addr} {fv ov pv : List Value} {fn on pn : Nat} {fs : List Tri} {d : List Nat} {mark : PySem.Str} {tm : Tok} {pts : List (Addr × Obj)} (hfl : (fl, W.listOf fv.toArray fn) ∈ news) (hfv : StrsAre fv (fs.map str3)) (hol : (ol, W.listOf ov.toArray on) ∈ news) (hov : IntsAre ov (d.map Int.ofNat)) (hpl : (pl, W.listOf pv.toArray pn) ∈ news) (hpv : PaintsAre fs pts pv d)
    (hpts : ∀ q ∈ pts, q ∈ news) (play : Play fs) (hsh : Sh fs d) (hdl : d.length = fs.length) (hmk : mark ∈ marks)
    (ret : ∀ h' tk' g', KtsTurn (outer.filterMap (·.frame)) g g' → Below A₀ base outer g' → Fr g' L h' m → News g' L h' news → Q (.bool true) { s with heap := h', toks := tk' }) :
    wpAny (model PySem.Challenge.rw_tr0054_01.prog w) { handled := Option.none, depth := dp, frames := some (envOf qn scope L a cd :: outer), guards := gd, units := un } (call (.ref 269) [.ref fl, .ref ol, .ref pl, .str mark tm]) Q E s := by
  have B' := pushX B F (env := envOf qn scope L a cd) rfl hke
  have B'' : Below ({ handled := Option.none, depth := dp, frames := some (envOf qn scope L a cd :: outer), guards := gd, units := un } : Around) base (envOf qn scope L a cd :: outer) s.heap := ⟨rfl, B'.stays, B'.frames⟩
  refine wpAny_call (backward_spec B'' (fun _ _ e => e) (Nat.le_refl _) (X.keeps F.keep) (T.keeps F.keep) rfl XB TB (kts_pushed F D) hdp hu (PySem.IsL.isList (n := fn) (N _ hfl).1) hfv (PySem.IsL.isList (n := on) (N _ hol).1) hov (PySem.IsL.isList (n := pn) (N _ hpl).1) hpv (fun q hq => (N q (hpts q hq)).1) play hsh hdl hmk fun h' tk' g'' T' k => ?_)
  obtain ⟨g', T1, F1, N1, B1⟩ := ground_turn B F N T' k
  exact ret h' tk' g' T1 B1 F1 N1
end
end
-- part: MLaw1
section
theorem off_MLaw1 : True := by w_top off; exact trivial
theorem ones_tt : ∀ x y z : Bool, (Float64.cmp (paintBits x y z).2.2 4607182418800017408 == some Ordering.eq) = true → (hueOf x y z).fmod 2 = 0 → true = (cnt3 x y z == 1) := by decide +kernel
theorem ones_tf : ∀ x y z : Bool, (Float64.cmp (paintBits x y z).2.2 4607182418800017408 == some Ordering.eq) = true → (hueOf x y z).fmod 2 ≠ 0 → false = (cnt3 x y z == 1) := by decide +kernel
theorem ones_f : ∀ x y z : Bool, (Float64.cmp (paintBits x y z).2.2 4607182418800017408 == some Ordering.eq) = false → false = (cnt3 x y z == 1) := by decide +kernel
theorem ones_n : ∀ x y z : Bool, ¬ (Float64.cmp (paintBits x y z).2.2 4607182418800017408 == some Ordering.eq) = true → false = (cnt3 x y z == 1) := by decide +kernel
theorem twos_tt : ∀ x y z : Bool, (Float64.cmp (paintBits x y z).2.2 4607182418800017408 == some Ordering.eq) = true → (hueOf x y z).fmod 2 = 1 → true = (cnt3 x y z == 2) := by decide +kernel
theorem twos_tf : ∀ x y z : Bool, (Float64.cmp (paintBits x y z).2.2 4607182418800017408 == some Ordering.eq) = true → (hueOf x y z).fmod 2 ≠ 1 → false = (cnt3 x y z == 2) := by decide +kernel
theorem twos_f : ∀ x y z : Bool, (Float64.cmp (paintBits x y z).2.2 4607182418800017408 == some Ordering.eq) = false → false = (cnt3 x y z == 2) := by decide +kernel
theorem twos_n : ∀ x y z : Bool, ¬ (Float64.cmp (paintBits x y z).2.2 4607182418800017408 == some Ordering.eq) = true → false = (cnt3 x y z == 2) := by decide +kernel
/-- the i-th paint: hue, light and share of the sides on the rim -/
def PaintT (fs : List Tri) (d : List Nat) (i : Nat) (v₁ v₂ v₃ : Value) : Prop := ∃ x y z ta tb tc, v₁ = .int (hueOf x y z) ta ∧ v₂ = .float (paintBits x y z).2.1 tb ∧ v₃ = .float (paintBits x y z).2.2 tc ∧ shE (tabE fs (d.take i)) (fAt fs (d.getD i 0)) = cnt3 x y z
theorem paints_rows {fs : List Tri} {pts news : List (Addr × Obj)} {pv : List Value} {d : List Nat} (h : PaintsAre fs pts pv d) (hsub : ∀ q ∈ pts, q ∈ news) : ∀ i v, pv[i]? = some v → ∃ v₁ v₂ v₃, Row3 news v v₁ v₂ v₃ ∧ PaintT fs d i v₁ v₂ v₃ := fun i v e => by
  have hi : i < d.length := by
    rw [← h.1]
    rcases Nat.lt_or_ge i pv.length with q | q
    · exact q
    · rw [List.getElem?_eq_none q] at e; cases e
  obtain ⟨a, x, b, he, hat, hal, _, _⟩ := split_at hi
  obtain ⟨p, ta, tb, tc, _, hp, hm⟩ := h.2.2 a x b he
  rw [hal, e] at hp
  cases hp
  have hx : d.getD i 0 = x := by
    rw [List.getD_eq_getElem?_getD, he, List.getElem?_append_right (by omega), hal, Nat.sub_self]; rfl
  refine ⟨_, _, _, ⟨p, _, _, rfl, hsub _ hm, rfl, rfl⟩, _, _, _, ta, tb, tc, rfl, rfl, rfl, ?_⟩
  rw [← hat, hx]; rfl
theorem first_paint {fs : List Tri} {pts : List (Addr × Obj)} {pv : List Value} {d : List Nat} (h : PaintsAre fs pts pv d) (hd : 0 < d.length) : ∃ p ta tb tc, (0 < tb ∧ 0 < tc) ∧ pv[0]? = some (.ref p) ∧ (p, paintObj false false false ta tb tc) ∈ pts := by
  cases d with
  | nil => cases hd
  | cons i b =>
    obtain ⟨p, ta, tb, tc, h0, hp, hm⟩ := h.2.2 [] i b rfl
    exact ⟨p, ta, tb, tc, h0, hp, hm⟩
theorem last_paint {fs : List Tri} {pts : List (Addr × Obj)} {pv : List Value} {d : List Nat} (h : PaintsAre fs pts pv d) (play : Play fs) (hsh : Sh fs d) (hdl : d.length = fs.length) (hd : 0 < d.length) : ∃ p ta tb tc, (0 < tb ∧ 0 < tc) ∧ pv[pv.length - 1]? = some (.ref p) ∧ (p, paintObj true true true ta tb tc) ∈ pts := by
  obtain ⟨a, x, b, he, hat, hal, hbl, _⟩ := split_at (e := d) (i := d.length - 1) (by omega)
  have hb : b = [] := List.length_eq_zero_iff.mp (by omega)
  subst hb
  obtain ⟨p, ta, tb, tc, h0, hp, hm⟩ := h.2.2 a x [] he
  obtain ⟨b0, b1, b2⟩ := (play.back hsh hdl).2 a x [] he
  have e0 : bit0 (tabE fs a) (fAt fs x) = true := by
    have : bit0 (tabE fs ([] : List Nat).reverse) (fAt fs x) = false := rfl
    rw [this] at b0; revert b0; cases bit0 (tabE fs a) (fAt fs x) <;> simp
  have e1 : bit1 (tabE fs a) (fAt fs x) = true := by
    have : bit1 (tabE fs ([] : List Nat).reverse) (fAt fs x) = false := rfl
    rw [this] at b1; revert b1; cases bit1 (tabE fs a) (fAt fs x) <;> simp
  have e2 : bit2 (tabE fs a) (fAt fs x) = true := by
    have : bit2 (tabE fs ([] : List Nat).reverse) (fAt fs x) = false := rfl
    rw [this] at b2; revert b2; cases bit2 (tabE fs a) (fAt fs x) <;> simp
  rw [e0, e1, e2] at hm
  refine ⟨p, ta, tb, tc, h0, ?_, hm⟩
  rw [h.1, ← hal]; exact hp
theorem paint_none (ta tb tc : Tok) : paintObj false false false ta tb tc = ({ cls := .type "tuple", data := .seq #[.int 0 ta, .float 0 tb, .float 0 tc] } : Obj) := by
  unfold paintObj
  rw [show (paintBits false false false).2.1 = 0 by decide +kernel, show (paintBits false false false).2.2 = 0 by decide +kernel]
  rfl
theorem paint_all (ta tb tc : Tok) : paintObj true true true ta tb tc = ({ cls := .type "tuple", data := .seq #[.int 0 ta, .float 4607182418800017408 tb, .float 0 tc] } : Obj) := by
  unfold paintObj
  rw [show (paintBits true true true).2.1 = 4607182418800017408 by decide +kernel, show (paintBits true true true).2.2 = 0 by decide +kernel]
  rfl
theorem cmp_zero : (Float64.cmp 0 0 == some Ordering.eq) = true := by decide +kernel
theorem cmp_one : (Float64.cmp 4607182418800017408 4607182418800017408 == some Ordering.eq) = true := by decide +kernel
theorem led_order {a b c l f k : Addr × Obj} {xs : List (Addr × Obj)} : ∀ q, q ∈ a :: b :: c :: f :: k :: xs → q ∈ a :: b :: c :: (xs ++ [l, f, k]) := fun q hq => by
  simp only [List.mem_cons, List.mem_append, List.not_mem_nil, or_false] at hq ⊢
  rcases hq with h | h | h | h | h | h
  · exact .inl h
  · exact .inr (.inl h)
  · exact .inr (.inr (.inl h))
  · exact .inr (.inr (.inr (.inr (.inr (.inl h)))))
  · exact .inr (.inr (.inr (.inr (.inr (.inr h)))))
  · exact .inr (.inr (.inr (.inl h)))
end
-- part: MLaw
section
theorem off_MLaw : True := by w_top off; exact trivial
local macro_rules | `(tactic| k_room) => `(tactic| ktr_room)
local macro_rules | `(tactic| walk_at "call ref") => `(tactic| ((with_reducible show wpAny _ _ (call (Value.ref 244) _ _) _ _ _); refine stop_intro ?_))
local macro_rules | `(tactic| walk_at "call ref") => `(tactic| ((with_reducible show wpAny _ _ (call (Value.ref 264) _ _) _ _ _); refine stop_intro ?_))
local macro_rules | `(tactic| walk_at "call ref") => `(tactic| ((with_reducible show wpAny _ _ (call (Value.ref 269) _ _) _ _ _); refine stop_intro ?_))
local macro_rules | `(tactic| walk_at "exec Assign cons ListComp") => `(tactic| (k_here; refine stop_intro ?_))
local macro_rules | `(tactic| walk_at "compareOp NotEq ref ref") => `(tactic| (k_here; refine stop_intro ?_))
local macro_rules | `(tactic| walk_at "subscriptTail") => `(tactic| ((with_reducible show wpAny _ _ (subscriptTail (PySem.Expr.Name (PySem.Str.ofString "paints") _) _ (Value.ref _) (Value.int _ _)) _ _ _); refine stop_intro ?_))
local macro_rules | `(tactic| walk_at "subscriptTail Name Constant ref int") => `(tactic| ((with_reducible show wpAny _ _ (subscriptTail (PySem.Expr.Name (PySem.Str.ofString "paints") _) _ (Value.ref _) (Value.int _ _)) _ _ _); refine stop_intro ?_))
local macro_rules | `(tactic| walk_at "call builtin:len") => `(tactic| (k_here; (with_reducible show wpAny _ _ (call (Value.builtin "len") [Value.ref _]) _ _ _); refine len_led (by k_asm) (by k_mem) (by with_reducible assumption) (by omega) ?_))
theorem law_holds : PySem.Challenge.rw_tr0054_01.Holds := by
  refine hd ?_
  k_go0
  all_goals try k_fold
  k_steps
  unfold Stop
  (rename Frag.In _ _ => KX); (rename Top _ _ _ _ _ _ => T1); (rename Below _ _ _ _ => K0); (rename Heap.IsList _ _ _ => hL); (rename IntsAre _ _ => hI); (rename ¬ (_ < _) => hc); (with_reducible rename Fr _ _ _ _ => fX); (with_reducible rename News _ _ _ _ => nX)
  refine skin_use (outer := []) K0 fX KX nX T1 rfl rfl (by decide +kernel) (by decide +kernel) hL hI (by omega) ?_
  intro l fl cl fv cv fn cn fs cs h1 tk1 F1 N1 hfv hsk hcv hcs
  have play := hsk.play
  clear fX nX
  k_steps
  unfold Stop
  (with_reducible rename Fr _ _ _ _ => fX); (with_reducible rename News _ _ _ _ => nX)
  refine shelled_use (outer := []) K0 fX KX nX T1 KX T1 (fun b hb => nomatch hb) rfl (by decide +kernel) (by decide +kernel) (fn := fn) (cn := cn) (.tail _ (.head _)) hfv (.tail _ (.tail _ (.head _))) hcv hcs play ?_
  intro l2 O P ov pv on pn pts d h2 tk2 g2 KT B2 F2 N2 hsh hdl hov hpv
  replace N2 : News g2 _ h2 ((l2, ({ cls := .type "tuple", data := .seq #[.ref O, .ref P] } : Obj)) :: (O, W.listOf ov.toArray on) :: (P, W.listOf pv.toArray pn) :: (fl, W.listOf fv.toArray fn) :: (cl, W.listOf cv.toArray cn) :: pts) := fun q hq => N2 q (led_order q hq)
  have X2 := KX.keeps B2.stays
  have T2 := T1.keeps B2.stays
  clear fX nX
  k_steps
  unfold Stop
  (with_reducible rename Fr _ _ _ _ => fX); (with_reducible rename News _ _ _ _ => nX)
  have hpl : pv.length = fs.length := by rw [hpv.1, hdl]
  have l8 : fs.length = 6 ∨ fs.length = 8 := play.len
  have hvl : fv.length = fs.length := by rw [hfv.length, List.length_map]
  have f8 : fs.length ≤ 8 := or_le8 l8
  have p8 : pv.length ≤ 8 := by rw [hpl]; exact f8
  have half8 : pv.length / 2 - 1 ≤ 8 := half_le8 p8
  have hd0 : 0 < d.length := by rw [hdl]; exact or_pos l8
  have hp0' : 0 < pv.length := by rw [hpl]; exact or_pos l8
  obtain ⟨p0, ta0, tb0, tc0, hp00, hp0, hm0⟩ := first_paint hpv hd0
  obtain ⟨p1, ta1, tb1, tc1, hp10, hp1, hm1⟩ := last_paint hpv play hsh hdl hd0
  obtain ⟨cn1, cn2⟩ := play.count hsh hdl
  rw [hdl, ← hpl] at cn1 cn2
  refine assign_rows (ax := P) (vs := pv) (vn := pn) (fun i => shE (tabE fs (d.take i)) (fAt fs (d.getD i 0)) == 1) (PaintT fs d)
    fX nX rfl rfl (by with_unfolding_all rfl) (by rfl) (by decide) (by rfl) (by decide) (by rfl) (by rfl) (by rfl) (by decide) (by decide) (by decide) (by rfl) (by rfl) (fun _ => rfl) (fun _ => rfl) (by decide) ?iter (.tail _ (.tail _ (.head _))) (by omega) (paints_rows hpv fun q hq => .tail _ (.tail _ (.tail _ (.tail _ (.tail _ hq))))) ?turn ?fin
  case iter =>
    k_steps
    all_goals first | exact True.intro | rfl
  case turn =>
    intro i v₁ v₂ v₃ I oI C oC D m₂ h tk' E' ys hT hC hx1 hx2 hx3 F N off nei
    obtain ⟨x, y, z, ta, tb, tc, rfl, rfl, rfl, hsum⟩ := hT
    rw [hsum]
    simp only [LCg.Off3, and_true] at off
    clear fX nX
    k_steps
    all_goals first | with_reducible assumption | exact ones_tt _ _ _ (by with_reducible assumption) (by with_reducible assumption) | exact ones_tf _ _ _ (by with_reducible assumption) (by with_reducible assumption) | exact ones_f _ _ _ (by with_reducible assumption) | exact ones_n _ _ _ (by with_reducible assumption)
  case fin =>
    intro D1 ys1 h3 tk3 hl1 F3 N3 o3
    rw [cn1] at hl1
    replace N3 : News g2 _ h3 ((D1, W.listOf ys1.toArray ys1.length) :: _) := N3
    clear fX nX
    k_steps
    unfold Stop
    (with_reducible rename Fr _ _ _ _ => fX); (with_reducible rename News _ _ _ _ => nX)
    refine assign_rows (ax := P) (vs := pv) (vn := pn) (fun i => shE (tabE fs (d.take i)) (fAt fs (d.getD i 0)) == 2) (PaintT fs d)
      fX nX rfl rfl (by with_unfolding_all rfl) (by rfl) (by decide) (by rfl) (by decide) (by rfl) (by rfl) (by rfl) (by decide) (by decide) (by decide) (by rfl) (by rfl) (fun _ => rfl) (fun _ => rfl) (by decide) ?iter (.tail _ (.tail _ (.tail _ (.head _)))) (by omega) (paints_rows hpv fun q hq => .tail _ (.tail _ (.tail _ (.tail _ (.tail _ (.tail _ hq)))))) ?turn ?fin
    case iter =>
      k_steps
      all_goals first | exact True.intro | rfl
    case turn =>
      intro i v₁ v₂ v₃ I oI C oC D m₂ h tk' E' ys hT hC hx1 hx2 hx3 F N off nei
      obtain ⟨x, y, z, ta, tb, tc, rfl, rfl, rfl, hsum⟩ := hT
      rw [hsum]
      simp only [LCg.Off3, and_true] at off
      clear fX nX
      k_steps
      all_goals first | with_reducible assumption | exact twos_tt _ _ _ (by with_reducible assumption) (by with_reducible assumption) | exact twos_tf _ _ _ (by with_reducible assumption) (by with_reducible assumption) | exact twos_f _ _ _ (by with_reducible assumption) | exact twos_n _ _ _ (by with_reducible assumption)
    case fin =>
      intro D2 ys2 h4 tk4 hl2 F4 N4 o4
      rw [cn2] at hl2
      replace N4 : News g2 _ h4 ((D2, W.listOf ys2.toArray ys2.length) :: _) := N4
      clear fX nX
      k_steps
      unfold Stop
      (with_reducible rename Fr _ _ _ _ => fX); (with_reducible rename News _ _ _ _ => nX)
      refine item_led (k := 0) nX (.tail _ (.tail _ (.tail _ (.tail _ (.head _))))) rfl hp0 (by omega) ?_
      k_steps
      unfold Stop
      (with_reducible rename News _ _ _ _ => nY); (with_reducible rename Fr _ _ _ _ => fY)
      have hz : Heap.IsTuple _ _ #[.int 0 _, .float 0 _, .float 0 _] := ⟨_, (nY _ (.head _)).1, rfl, _, rfl⟩
      have hq : Heap.IsTuple _ p0 #[.int 0 ta0, .float 0 tb0, .float 0 tc0] := ⟨_, (nY _ (.tail _ (.tail _ (.tail _ (.tail _ (.tail _ (.tail _ (.tail _ (.tail _ hm0))))))))).1, rfl, _, by rw [paint_none]⟩
      have bk : NoneBooked _ := booked_of (X2.keeps fY.keep)
      refine ne_triple hq hz (by ktr_units) cmp_zero cmp_zero hp00 ?_ bk ?_
      · exact ⟨Nat.succ_pos _, Nat.succ_pos _⟩
      k_steps
      unfold Stop
      refine item_negL (l := pv) (PySem.IsL.isList (n := pn) (nY _ (.tail _ (.tail _ (.tail _ (.tail _ (.tail _ (.head _))))))).1) (by decide) (neg1_lo hp0') (Nat.le_trans p8 (by decide)) (x := .ref p1) ?_ ?_
      · rw [neg1_at hp0']; exact hp1
      clear hz hq bk
      k_steps
      unfold Stop
      (with_reducible rename News _ _ _ _ => nZ); (with_reducible rename Fr _ _ _ _ => fZ)
      have hz : Heap.IsTuple _ _ #[.int 0 _, .float 4607182418800017408 _, .float 0 _] := ⟨_, (nZ _ (.head _)).1, rfl, _, rfl⟩
      have hq : Heap.IsTuple _ p1 #[.int 0 ta1, .float 4607182418800017408 tb1, .float 0 tc1] := ⟨_, (nZ _ (.tail _ (.tail _ (.tail _ (.tail _ (.tail _ (.tail _ (.tail _ (.tail _ (.tail _ hm1)))))))))).1, rfl, _, by rw [paint_all]⟩
      have bk : NoneBooked _ := booked_of (X2.keeps fZ.keep)
      refine ne_triple hq hz (by ktr_units) cmp_one cmp_zero hp10 ?_ bk ?_
      · exact ⟨Nat.succ_pos _, Nat.succ_pos _⟩
      clear hz hq bk
      k_steps
      unfold Stop
      have hab : (!decide ([((pv.length / 2 - 1 : Nat) : Int), ((pv.length / 2 - 1 : Nat) : Int)] = [((fs.length : Nat) : Int).fdiv 2 - 1, ((fs.length : Nat) : Int).fdiv 2 - 1])) = false := by
        rcases l8 with e | e
        · rw [hpl, e]; decide
        · rw [hpl, e]; decide
      refine ke_ne_ints (ns := [((pv.length / 2 - 1 : Nat) : Int), ((pv.length / 2 - 1 : Nat) : Int)]) (ms := [((fs.length : Nat) : Int).fdiv 2 - 1, ((fs.length : Nat) : Int).fdiv 2 - 1]) (by is_list) (by is_list) (.cons _ _ (.cons _ _ .nil)) (.cons _ _ (.cons _ _ .nil)) (by ktr_units) ?_
      rw [hab]
      k_steps
      unfold Stop
      (with_reducible rename News _ _ _ _ => nW); (with_reducible rename Fr _ _ _ _ => fW)
      refine backward_use (outer := []) B2 fW X2 nW T2 KX T1 (fun b hb => nomatch hb) rfl (by decide +kernel) (by decide +kernel) (fn := fn) (on := on) (pn := pn) (pts := pts) (d := d) (by k_mem) hfv (by k_mem) hov (by k_mem) hpv ?psub play hsh hdl (mark_in _) ?_
      case psub => exact fun q hq => by repeat (first | exact hq | refine List.mem_cons_of_mem _ ?_)
      intro h9 tk9 g9 KT9 B9 F9 N9
      clear nW fW
      (rename Shared => s1)
      have F10 : Fr s1.heap _ h9 _ := ⟨F9.ns, fun b o e => F9.keep b o ((KT.trans KT9).other b o e fun h => nomatch h), by have ha := F9.above; rw [(KT.trans KT9).size] at ha; exact ha⟩
      clear F9 N9
      k_steps
end
end Mine
theorem PySem.Challenge.cw_tr0054_01_holds : PySem.Challenge.rw_tr0054_01.Holds := by
  exact Mine.law_holds

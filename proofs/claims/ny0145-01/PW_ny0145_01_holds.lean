import PyProof.Rows.All
import Wide.All
import OpenK.AllK
import Wide.FinOn
import PySem.Challenge.RW_ny0145_01
open PySem PySem.W PyProof.Rows PySem.Calls
set_option Elab.async false
set_option maxRecDepth 100000
-- Hd
namespace Mine
set_option maxHeartbeats 8000000 in
open_top hd for PySem.Challenge.rw_ny0145_01
end Mine

-- B0
namespace Mine
noncomputable abbrev KK (w : World) : Frag := Mine.hd.heap_39 w.params
noncomputable abbrev PR : Program := PySem.Challenge.rw_ny0145_01.row.prog
theorem enterD {K : Frag} {prog : Program} {w : World} {A : Around} {s : Shared} {R : Result → Shared → Prop} {name qual : Str} {params : Arguments} {body : List Stmt} {scope : Scope} {dV kV doc pm cdv ct oc : Value} {an od : Option Addr} {osl : Array (Option Value)} {f : Addr} {args : Args} (binds : List (Str × Value))
    (X : K.In s.heap) (hlim : s.heap.NoLimit)
    (ho : K.lookup f = some ⟨oc, od, .func (fnOf name qual params body scope dV kV doc pm an cdv ct), osl⟩) (hcd : codeIn K cdv qual = true) (hroom : A.depth < recursionLimit)
    (hbind : BindsTo s (fnOf name qual params body scope dV kV doc pm an cdv ct) args binds) (hloc : ∀ y ∈ binds, scope.names.lookup y.1 = some .local)
    (h : ∀ h₁, Fr s.heap s.heap.objs.size h₁ (fun y => binds.reverse.lookup y) →
      wpAny (model prog w) (A.deeper (envOf qual scope s.heap.objs.size f cdv)) (execs body (envOf qual scope s.heap.objs.size f cdv))
        (fun fl s' => R (.ok (.ret (match fl with | .ret v => v | _ => .none))) s') (fun _ _ => False)
        { s with heap := h₁, toks := s.toks + binds.length })
    (hco : scope.isCoroutine = false) (hgen : scope.isGenerator = false) (hk : scope.kind = .function)
    (hcell : ∀ x ∈ scope.names, x.2 ≠ .cell) : codeAny (model prog w) A (.call (.ref f) args) R s := by
  refine codeAny_call_def (fd := fnOf name qual params body scope dV kV doc pm an cdv ct) (body := body) (binds := binds) hroom (X _ _ ho) rfl hlim (codeRec_of X hcd) rfl hbind hcell hloc (fun h₁ hns hk₁ => ?_) hco hgen hk
  exact wpAny_mono (h h₁ ⟨hns, hk₁, Nat.le_refl _⟩) (fun _ _ x => x) (fun _ _ x => x.elim)
end Mine

-- B1
namespace Mine
/-- the halving search: `p` says "go right" -/
def bis (p : Int → Bool) (xs : List Int) : Nat → Nat → Nat → Nat
  | 0, lo, _ => lo
  | f + 1, lo, hi => if lo < hi then (if p (xs.getD ((lo + hi) / 2) 0) = true then bis p xs f ((lo + hi) / 2 + 1) hi else bis p xs f lo ((lo + hi) / 2)) else lo

abbrev mBis (a : Addr) (x key : Value) (lo hi : Int) (t1 t2 : Tok) (mid : Option Value) : Str → Option Value := fun y =>
  if y = Str.ofString "lo" then some (.int lo t1) else if y = Str.ofString "hi" then some (.int hi t2) else if y = Str.ofString "mid" then mid else
  if y = Str.ofString "a" then some (.ref a) else if y = Str.ofString "x" then some x else if y = Str.ofString "key" then some key else none
end Mine

-- M1
namespace Mine
local macro_rules | `(tactic| walk_at "enter") => `(tactic| (
  (case k6 => k_is); (case k7 => k_is); (case k8 => (simp only [recursionLimit]; omega));
  (case k9 => (refine' kp_binds ?kx ?ke; (case kx => assumption); (case ke => exact fun _ => rfl)));
  (case c5 => decide); (case kB => exact locs rfl); (case c2 => exact rfl); (case c3 => exact rfl); (case c4 => exact rfl)))
local macro_rules | `(tactic| walk_at "go") => `(tactic| repeat' (
  (fail_if_success (with_reducible show wpAny _ _ (exec (Stmt.While _ _ _ _) _) _ _ _));
  (fail_if_success (with_reducible show wpAny _ _ (exec (Stmt.For _ _ _ _ _) _) _ _ _));
  (fail_if_success (with_reducible show wpAny _ _ (call (Value.ref _) _ _) _ _ _));
  (first | walk1 | (dsimp only; walk1)); (try dsimp only)))
local macro_rules | `(tactic| walk_at "eval Name") => `(tactic| ((with_reducible show wpAny _ _ (eval (Expr.Name _ _) (envOf _ _ _ _ _)) _ _ _); refine ld (by assumption) (by with_unfolding_all assumption) ?_ (by kernel_rfl!) (by kernel_rfl!) (by decide +kernel)))
set_option maxHeartbeats 4000000 in
theorem bl_spec {w : World} {A : Around} {s : Shared} {loose mean mg mb} {a : Addr} {x : Int} {tx t0 : Tok} {vs : List Value} {ns : List Int} {R : Result → Shared → Prop}
    (X : (hd.heap_39 w.params).In s.heap) (T : Top topProg loose mean mg mb s.heap) (hA : A.depth < 900)
    (hL : s.heap.IsList a vs.toArray) (hI : IntsAre vs ns) (hn : ns.length < 100)
    (hR : ∀ h' tk tv, (∀ b o, s.heap.get? b = some o → h'.get? b = some o) → R (.ok (.ret (.int (bis (fun v => decide (v < x)) ns ns.length 0 ns.length) tv))) { s with heap := h', toks := tk }) :
    codeAny (model PySem.Challenge.rw_ny0145_01.row.prog w) A (.call (.ref 83) ⟨[.ref a, .int x tx], []⟩) R s := by
  revert X; k_fill; intro X
  refine' enterD [(Str.ofString "a", .ref a), (Str.ofString "x", .int x tx), (Str.ofString "lo", .int 0 280), (Str.ofString "hi", .none), (Str.ofString "key", .none)] X T.nolimit ?k6 ?k7 ?k8 ?k9 ?kB ?_ ?c2 ?c3 ?c4 ?c5
  walk_at "enter"
  intro h₁ F
  have N : News s.heap s.heap.objs.size h₁ [] := News.nil
  try dsimp only
  walk_at "go"
  rename Fr _ _ _ _ => F; rename News _ _ _ _ => N
  refine While_inv (fun n m news => ∃ (l h : Nat) (t1 t2 : Tok) , m (Str.ofString "a") = some (.ref a) ∧ m (Str.ofString "x") = some (.int x tx) ∧ m (Str.ofString "lo") = some (.int l t1) ∧ m (Str.ofString "hi") = some (.int h t2) ∧ h ≤ ns.length ∧ l ≤ h ∧ h - l ≤ n ∧ bis (fun v => decide (v < x)) ns n l h = bis (fun v => decide (v < x)) ns ns.length 0 ns.length) (n₀ := ns.length) F N ?st ?turn ?pe
  case st => 
    refine ⟨0, ns.length, _, _, rfl, rfl, rfl, rfl, Nat.le_refl _, Nat.zero_le _, by omega, rfl⟩
  case pe => exact PassesOwn.never
  case turn =>
    rintro n m₁ news₁ h₂ tk₂ F₂ N₂ ⟨l, h, t1, t2, m1, m2, m3, m4, hh, hlh, hf, hb⟩
    have e : ((l : Int) + (h : Int)).fdiv 2 = (((l + h) / 2 : Nat) : Int) := by
      rw [Int.fdiv_eq_ediv_of_nonneg _ (by omega)]; omega
    have e2 : (((l : Int) + (h : Int)).fdiv 2).toNat = (l + h) / 2 := by rw [e]; rfl
    walk_at "go"
    · rename ns.getD _ 0 < x => hx
      rename Fr _ _ _ _ => F3; rename News _ _ _ _ => N3
      obtain ⟨k, rfl⟩ : ∃ k, n = k + 1 := ⟨n - 1, by omega⟩
      refine WhileStep.intro (n' := k) F3 N3 (by omega) ⟨(l + h) / 2 + 1, h, _, _, m1, m2, congrArg (fun z : Int => some (Value.int z _)) (by rw [e]; rfl), m4, hh, by omega, by omega, ?_⟩
      rw [← hb, bis, if_pos (by omega), if_pos (by rw [e2] at hx; simpa using hx)]
    · rename ¬ (ns.getD _ 0 < x) => hx
      rename Fr _ _ _ _ => F3; rename News _ _ _ _ => N3
      obtain ⟨k, rfl⟩ : ∃ k, n = k + 1 := ⟨n - 1, by omega⟩
      refine WhileStep.intro (n' := k) F3 N3 (by omega) ⟨l, (l + h) / 2, _, _, m1, m2, m3, congrArg (fun z : Int => some (Value.int z _)) (by rw [e]), by omega, by omega, by omega, ?_⟩
      rw [← hb, bis, if_pos (by omega), if_neg (by rw [e2] at hx; simpa using hx)]
    · rename ¬ ((l : Int) < h) => hx
      have hv : l = bis (fun v => decide (v < x)) ns ns.length 0 ns.length := by
        rw [← hb]
        cases n with
        | zero => rfl
        | succ n => rw [bis, if_neg (by omega)]
      rw [hv]
      exact hR _ _ _ F₂.keep
set_option maxHeartbeats 4000000 in
theorem br_spec {w : World} {A : Around} {s : Shared} {loose mean mg mb} {a : Addr} {x : Int} {tx t0 : Tok} {vs : List Value} {ns : List Int} {R : Result → Shared → Prop}
    (X : (hd.heap_39 w.params).In s.heap) (T : Top topProg loose mean mg mb s.heap) (hA : A.depth < 900)
    (hL : s.heap.IsList a vs.toArray) (hI : IntsAre vs ns) (hn : ns.length < 100)
    (hR : ∀ h' tk tv, (∀ b o, s.heap.get? b = some o → h'.get? b = some o) → R (.ok (.ret (.int (bis (fun v => !decide (x < v)) ns ns.length 0 ns.length) tv))) { s with heap := h', toks := tk }) :
    codeAny (model PySem.Challenge.rw_ny0145_01.row.prog w) A (.call (.ref 74) ⟨[.ref a, .int x tx], []⟩) R s := by
  revert X; k_fill; intro X
  refine' enterD [(Str.ofString "a", .ref a), (Str.ofString "x", .int x tx), (Str.ofString "lo", .int 0 266), (Str.ofString "hi", .none), (Str.ofString "key", .none)] X T.nolimit ?k6 ?k7 ?k8 ?k9 ?kB ?_ ?c2 ?c3 ?c4 ?c5
  walk_at "enter"
  intro h₁ F
  have N : News s.heap s.heap.objs.size h₁ [] := News.nil
  try dsimp only
  walk_at "go"
  rename Fr _ _ _ _ => F; rename News _ _ _ _ => N
  refine While_inv (fun n m news => ∃ (l h : Nat) (t1 t2 : Tok) , m (Str.ofString "a") = some (.ref a) ∧ m (Str.ofString "x") = some (.int x tx) ∧ m (Str.ofString "lo") = some (.int l t1) ∧ m (Str.ofString "hi") = some (.int h t2) ∧ h ≤ ns.length ∧ l ≤ h ∧ h - l ≤ n ∧ bis (fun v => !decide (x < v)) ns n l h = bis (fun v => !decide (x < v)) ns ns.length 0 ns.length) (n₀ := ns.length) F N ?st ?turn ?pe
  case st => 
    refine ⟨0, ns.length, _, _, rfl, rfl, rfl, rfl, Nat.le_refl _, Nat.zero_le _, by omega, rfl⟩
  case pe => exact PassesOwn.never
  case turn =>
    rintro n m₁ news₁ h₂ tk₂ F₂ N₂ ⟨l, h, t1, t2, m1, m2, m3, m4, hh, hlh, hf, hb⟩
    have e : ((l : Int) + (h : Int)).fdiv 2 = (((l + h) / 2 : Nat) : Int) := by
      rw [Int.fdiv_eq_ediv_of_nonneg _ (by omega)]; omega
    have e2 : (((l : Int) + (h : Int)).fdiv 2).toNat = (l + h) / 2 := by rw [e]; rfl
    walk_at "go"
    · rename x < ns.getD _ 0 => hx
      rename Fr _ _ _ _ => F3; rename News _ _ _ _ => N3
      obtain ⟨k, rfl⟩ : ∃ k, n = k + 1 := ⟨n - 1, by omega⟩
      refine WhileStep.intro (n' := k) F3 N3 (by omega) ⟨l, (l + h) / 2, _, _, m1, m2, m3, congrArg (fun z : Int => some (Value.int z _)) (by rw [e]), by omega, by omega, by omega, ?_⟩
      rw [← hb, bis, if_pos (by omega), if_neg (by rw [e2] at hx; simpa using hx)]
    · rename ¬ (x < ns.getD _ 0) => hx
      rename Fr _ _ _ _ => F3; rename News _ _ _ _ => N3
      obtain ⟨k, rfl⟩ : ∃ k, n = k + 1 := ⟨n - 1, by omega⟩
      refine WhileStep.intro (n' := k) F3 N3 (by omega) ⟨(l + h) / 2 + 1, h, _, _, m1, m2, congrArg (fun z : Int => some (Value.int z _)) (by rw [e]; rfl), m4, hh, by omega, by omega, ?_⟩
      rw [← hb, bis, if_pos (by omega), if_pos (by rw [e2] at hx; simpa using hx)]
    · rename ¬ ((l : Int) < h) => hx
      have hv : l = bis (fun v => !decide (x < v)) ns ns.length 0 ns.length := by
        rw [← hb]
        cases n with
        | zero => rfl
        | succ n => rw [bis, if_neg (by omega)]
      rw [hv]
      exact hR _ _ _ F₂.keep
set_option maxHeartbeats 4000000 in
theorem br4_spec {w : World} {A : Around} {s : Shared} {loose mean mg mb} {a : Addr} {x : Int} {tx t0 : Tok} {vs : List Value} {ns : List Int} {R : Result → Shared → Prop}
    (X : (hd.heap_39 w.params).In s.heap) (T : Top topProg loose mean mg mb s.heap) (hA : A.depth < 900)
    (hL : s.heap.IsList a vs.toArray) (hI : IntsAre vs ns) (hn : ns.length < 100)
    (hR : ∀ h' tk tv, (∀ b o, s.heap.get? b = some o → h'.get? b = some o) → R (.ok (.ret (.int (bis (fun v => !decide (x < v)) ns ns.length 0 ns.length) tv))) { s with heap := h', toks := tk }) :
    codeAny (model PySem.Challenge.rw_ny0145_01.row.prog w) A (.call (.ref 74) ⟨[.ref a, .int x tx, .int 0 t0, .none], []⟩) R s := by
  revert X; k_fill; intro X
  refine' enterD [(Str.ofString "a", .ref a), (Str.ofString "x", .int x tx), (Str.ofString "lo", .int 0 t0), (Str.ofString "hi", .none), (Str.ofString "key", .none)] X T.nolimit ?k6 ?k7 ?k8 ?k9 ?kB ?_ ?c2 ?c3 ?c4 ?c5
  walk_at "enter"
  intro h₁ F
  have N : News s.heap s.heap.objs.size h₁ [] := News.nil
  try dsimp only
  walk_at "go"
  rename Fr _ _ _ _ => F; rename News _ _ _ _ => N
  refine While_inv (fun n m news => ∃ (l h : Nat) (t1 t2 : Tok) , m (Str.ofString "a") = some (.ref a) ∧ m (Str.ofString "x") = some (.int x tx) ∧ m (Str.ofString "lo") = some (.int l t1) ∧ m (Str.ofString "hi") = some (.int h t2) ∧ h ≤ ns.length ∧ l ≤ h ∧ h - l ≤ n ∧ bis (fun v => !decide (x < v)) ns n l h = bis (fun v => !decide (x < v)) ns ns.length 0 ns.length) (n₀ := ns.length) F N ?st ?turn ?pe
  case st => 
    refine ⟨0, ns.length, _, _, rfl, rfl, rfl, rfl, Nat.le_refl _, Nat.zero_le _, by omega, rfl⟩
  case pe => exact PassesOwn.never
  case turn =>
    rintro n m₁ news₁ h₂ tk₂ F₂ N₂ ⟨l, h, t1, t2, m1, m2, m3, m4, hh, hlh, hf, hb⟩
    have e : ((l : Int) + (h : Int)).fdiv 2 = (((l + h) / 2 : Nat) : Int) := by
      rw [Int.fdiv_eq_ediv_of_nonneg _ (by omega)]; omega
    have e2 : (((l : Int) + (h : Int)).fdiv 2).toNat = (l + h) / 2 := by rw [e]; rfl
    walk_at "go"
    · rename x < ns.getD _ 0 => hx
      rename Fr _ _ _ _ => F3; rename News _ _ _ _ => N3
      obtain ⟨k, rfl⟩ : ∃ k, n = k + 1 := ⟨n - 1, by omega⟩
      refine WhileStep.intro (n' := k) F3 N3 (by omega) ⟨l, (l + h) / 2, _, _, m1, m2, m3, congrArg (fun z : Int => some (Value.int z _)) (by rw [e]), by omega, by omega, by omega, ?_⟩
      rw [← hb, bis, if_pos (by omega), if_neg (by rw [e2] at hx; simpa using hx)]
    · rename ¬ (x < ns.getD _ 0) => hx
      rename Fr _ _ _ _ => F3; rename News _ _ _ _ => N3
      obtain ⟨k, rfl⟩ : ∃ k, n = k + 1 := ⟨n - 1, by omega⟩
      refine WhileStep.intro (n' := k) F3 N3 (by omega) ⟨(l + h) / 2 + 1, h, _, _, m1, m2, congrArg (fun z : Int => some (Value.int z _)) (by rw [e]; rfl), m4, hh, by omega, by omega, ?_⟩
      rw [← hb, bis, if_pos (by omega), if_pos (by rw [e2] at hx; simpa using hx)]
    · rename ¬ ((l : Int) < h) => hx
      have hv : l = bis (fun v => !decide (x < v)) ns ns.length 0 ns.length := by
        rw [← hb]
        cases n with
        | zero => rfl
        | succ n => rw [bis, if_neg (by omega)]
      rw [hv]
      exact hR _ _ _ F₂.keep
end Mine

-- B2
namespace Mine
/-- entering a def above a base `g` that may leave out what the call changes -/
theorem enterG {K : Frag} {prog : Program} {w : World} {A : Around} {s : Shared} {g : Heap} {R : Result → Shared → Prop} {name qual : Str} {params : Arguments} {body : List Stmt} {scope : Scope} {dV kV doc pm cdv ct oc : Value} {an od : Option Addr} {osl : Array (Option Value)} {f : Addr} {args : Args} (binds : List (Str × Value))
    (X : K.In g) (hlim : g.NoLimit) (hk : ∀ b o, g.get? b = some o → s.heap.get? b = some o) (hz : g.objs.size ≤ s.heap.objs.size)
    (ho : K.lookup f = some ⟨oc, od, .func (fnOf name qual params body scope dV kV doc pm an cdv ct), osl⟩) (hcd : codeIn K cdv qual = true) (hroom : A.depth < recursionLimit)
    (hbind : BindsTo s (fnOf name qual params body scope dV kV doc pm an cdv ct) args binds) (hloc : ∀ y ∈ binds, scope.names.lookup y.1 = some .local)
    (h : ∀ h₁, Fr g s.heap.objs.size h₁ (fun y => binds.reverse.lookup y) → (∀ b o, s.heap.get? b = some o → h₁.get? b = some o) →
      wpAny (model prog w) (A.deeper (envOf qual scope s.heap.objs.size f cdv)) (execs body (envOf qual scope s.heap.objs.size f cdv))
        (fun fl s' => R (.ok (.ret (match fl with | .ret v => v | _ => .none))) s') (fun _ _ => False)
        { s with heap := h₁, toks := s.toks + binds.length })
    (hco : scope.isCoroutine = false) (hgen : scope.isGenerator = false) (hk' : scope.kind = .function)
    (hcell : ∀ x ∈ scope.names, x.2 ≠ .cell) : codeAny (model prog w) A (.call (.ref f) args) R s := by
  have Xs := X.keeps hk
  refine codeAny_call_def (fd := fnOf name qual params body scope dV kV doc pm an cdv ct) (body := body) (binds := binds) hroom (Xs _ _ ho) rfl (hlim.keeps hk) (codeRec_of Xs hcd) rfl hbind hcell hloc (fun h₁ hns hk₁ => ?_) hco hgen hk'
  exact wpAny_mono (h h₁ ⟨hns, fun b o e => hk₁ b o (hk b o e), hz⟩ hk₁) (fun _ _ x => x) (fun _ _ x => x.elim)

theorem sub_hide {g h : Heap} {a : Addr} (hs : ∀ b o, g.get? b = some o → h.get? b = some o) (ha : g.get? a = none) : ∀ b o, g.get? b = some o → (h.hide a).get? b = some o := fun b o e => by
  have : b ≠ a := fun q => by rw [q, ha] at e; cases e
  rw [Heap.hide_ne h this]; exact hs b o e
theorem hide_keep {h h' : Heap} {a : Addr} (k : ∀ b o, (h.hide a).get? b = some o → h'.get? b = some o) : ∀ b o, b ≠ a → h.get? b = some o → h'.get? b = some o :=
  fun b o hb e => k b o (by rw [Heap.hide_ne h hb]; exact e)
end Mine

-- M2
namespace Mine
local macro_rules | `(tactic| walk_at "enter") => `(tactic| (
  (case k6 => k_is); (case k7 => k_is); (case k8 => (simp only [recursionLimit]; omega));
  (case k9 => (refine' kp_binds ?kx ?ke; (case kx => assumption); (case ke => exact fun _ => rfl)));
  (case c5 => decide); (case kB => exact locs rfl); (case c2 => exact rfl); (case c3 => exact rfl); (case c4 => exact rfl)))
local macro_rules | `(tactic| walk_at "go") => `(tactic| repeat' (
  (fail_if_success (with_reducible show wpAny _ _ (exec (Stmt.While _ _ _ _) _) _ _ _));
  (fail_if_success (with_reducible show wpAny _ _ (exec (Stmt.For _ _ _ _ _) _) _ _ _));
  (fail_if_success (with_reducible show wpAny _ _ (call (Value.ref _) _ _) _ _ _));
  (first | walk1 | (dsimp only; walk1)); (try dsimp only)))
local macro_rules | `(tactic| walk_at "eval Name") => `(tactic| ((with_reducible show wpAny _ _ (eval (Expr.Name _ _) (envOf _ _ _ _ _)) _ _ _); refine ld (by assumption) (by with_unfolding_all assumption) ?_ (by kernel_rfl!) (by kernel_rfl!) (by decide +kernel)))

theorem bis_le (p : Int → Bool) (xs : List Int) : ∀ f lo hi, lo ≤ hi → bis p xs f lo hi ≤ hi
  | 0, lo, hi, h => h
  | f + 1, lo, hi, h => by
    rw [bis]
    split
    · split
      · exact bis_le p xs f _ _ (by omega)
      · exact Nat.le_trans (bis_le p xs f _ _ (by omega)) (by omega)
    · exact h
theorem intsAre_ins {x : Int} {t : Tok} : ∀ {vs : List Value} {ns : List Int}, IntsAre vs ns → ∀ k, IntsAre (vs.take k ++ .int x t :: vs.drop k) (ns.take k ++ x :: ns.drop k)
  | _, _, .nil, k => by simp only [List.take_nil, List.drop_nil, List.nil_append]; exact .cons _ _ .nil
  | _, _, .cons n t' h, 0 => by simp only [List.take_zero, List.drop_zero, List.nil_append]; exact .cons _ _ (.cons _ _ h)
  | _, _, .cons n t' h, k + 1 => by simp only [List.take_succ_cons, List.drop_succ_cons, List.cons_append]; exact .cons _ _ (intsAre_ins h k)
/-- what insort_right leaves -/
def insAt (ns : List Int) (x : Int) : List Int :=
  ns.take (bis (fun v => !decide (x < v)) ns ns.length 0 ns.length) ++ x :: ns.drop (bis (fun v => !decide (x < v)) ns ns.length 0 ns.length)

set_option maxHeartbeats 4000000 in
theorem ins_spec {w : World} {A : Around} {s : Shared} {g : Heap} {loose mean mg mb} {a : Addr} {x : Int} {tx : Tok} {vs : List Value} {ns : List Int} {n : Nat} {R : Result → Shared → Prop}
    (X : (hd.heap_39 w.params).In g) (T : Top topProg loose mean mg mb g) (hA : A.depth < 800)
    (hs : ∀ b o, g.get? b = some o → s.heap.get? b = some o) (hga : g.get? a = none)
    (ha : s.heap.get? a = some (listOf vs.toArray n)) (hI : IntsAre vs ns) (hn : ns.length < 100)
    (hR : ∀ h' tk vs' n', h'.get? a = some (listOf vs'.toArray n') → IntsAre vs' (insAt ns x) → (∀ b o, b ≠ a → s.heap.get? b = some o → h'.get? b = some o) → R (.ok (.ret .none)) { s with heap := h', toks := tk }) :
    codeAny (model PySem.Challenge.rw_ny0145_01.row.prog w) A (.call (.ref 65) ⟨[.ref a, .int x tx], []⟩) R s := by
  have hs' := sub_hide hs hga
  replace X := X.keeps hs'
  replace T := T.keeps hs'
  have Xs := X.keeps (fun b o e => Heap.of_hide (a := a) e)
  revert X; k_fill; intro X
  refine' enterG [(Str.ofString "a", .ref a), (Str.ofString "x", .int x tx), (Str.ofString "lo", .int 0 253), (Str.ofString "hi", .none), (Str.ofString "key", .none)] X T.nolimit (fun b o e => Heap.of_hide e) (Nat.le_of_eq (Heap.hide_size _ _)) ?k6 ?k7 ?k8 ?k9 ?kB ?_ ?c2 ?c3 ?c4 ?c5
  walk_at "enter"
  intro h₁ F hall
  have N : News (s.heap.hide a) s.heap.objs.size h₁ [(a, listOf vs.toArray n)] := fun p hp => by
    rcases List.mem_singleton.mp hp with rfl
    exact ⟨hall _ _ ha, Nat.ne_of_lt (Heap.lt_size ha), Heap.hide_self _ _⟩
  clear Xs
  try dsimp only
  walk_at "go"
  refine wpAny_call (br4_spec (X.keeps F.keep) (T.keeps F.keep) (show A.depth + 1 < 900 by omega) ⟨_, hall _ _ ha, rfl, n, rfl⟩ hI hn fun h2 tk2 tv2 hk2 => ?_)
  replace F := Fr.keeps F hk2
  replace N := News.keeps N hk2
  dsimp only
  walk_at "go"
  rename Fr _ _ _ _ => F; rename News _ _ _ _ => N
  have hb := bis_le (fun v => !decide (x < v)) ns ns.length 0 ns.length (Nat.zero_le _)
  have hlen := hI.length
  generalize hkk : bis (fun v => !decide (x < v)) ns ns.length 0 ns.length = k at *
  refine kl_insert (its := vs.toArray) (l := vs.take k ++ .int x tx :: vs.drop k) F N ?_ ?_ (Upd.head (List.forall_mem_nil _)) ?_ fun h3 F3 N3 => ?_
  · unfold Builtin.List.listFitsIndex
    simp only [Bool.and_eq_true, decide_eq_true_eq]; omega
  · unfold kl_ins
    rw [if_neg (by omega), List.toList_toArray, show min (k : Int).toNat vs.length = k by omega]
  · rw [List.toList_toArray, sizeLine_eq]; omega
  · walk_at "go"
    refine hR _ _ _ _ (N3 _ (.head _)).1 ?_ (hide_keep F3.keep)
    unfold insAt
    rw [hkk]
    exact intsAre_ins hI k
end Mine

-- B3
namespace Mine
section
variable {prog : Program} {w : World} {A : Around} {s : Shared} {env : Env} {target : Expr} {body : List Stmt} {Q : Flow → Shared → Prop}
/-- a for loop by an invariant over the heap -/
theorem for_raw {I : Addr} {fp wr : List Addr} {n : Nat} {P : Nat → Value → Prop} {St : Nat → Heap → Prop} (W : Walks prog w A I fp wr n P St)
    (J : Nat → Heap → Prop) (hst : St 0 s.heap) (h0 : J 0 s.heap)
    (mov : ∀ i h h', J i h → (∀ b o, b ∉ wr → h.get? b = some o → h'.get? b = some o) → J i h')
    (go : ∀ i (s' : Shared) v (Q' : Unit → Shared → Prop) (E' : Value → Shared → Prop), i < n → P i v → St (i + 1) s'.heap → Q' () s' → wpAny (model prog w) A (letOwnedTupleGo target (.ref I) v) Q' E' s')
    (step : ∀ i v h tk, i < n → P i v → J i h → St (i + 1) h → wpAny (model prog w) A (assign target env v) (fun _ s₂ => wpAny (model prog w) A (execs body env) (fun f s₃ => match f with
        | .next | .cont => ∃ h' tk', s₃ = { s with heap := h', toks := tk' } ∧ J (i + 1) h' ∧ (∀ b ∈ fp, ∀ o, h.get? b = some o → h'.get? b = some o)
        | .brk => Q .next s₃
        | .ret v => Q (.ret v) s₃) (fun _ _ => False) s₂) (fun _ _ => False) { s with heap := h, toks := tk })
    (fin : ∀ h tk, J n h → Q .next { s with heap := h, toks := tk }) :
    codeAny (model prog w) A (.forLoop target (.ref I) body [] env) (fun r s' => match r with | .ok f => Q f s' | .error e => cameBackBy (model prog w) A env (fun _ _ => False) e s') s := by
  refine codeAny_forLoop_any
    (fun k s' => ∃ h' tk i, s' = { s with heap := h', toks := tk } ∧ St i h' ∧ J i h' ∧ i ≤ n ∧ k = n + 1 - i) ?_ (n + 1) ⟨s.heap, s.toks, 0, rfl, hst, h0, Nat.zero_le _, rfl⟩
  rintro k s' ⟨h', tk, i, rfl, hst', hJ, hi, rfl⟩
  by_cases hlt : i < n
  · refine W.item i _ _ _ hlt hst' fun v h₁ tk₁ hP hst₁ hk₁ => ?_
    refine go i _ v _ _ hlt hP hst₁ ?_
    refine wpAny_mono (step i v h₁ tk₁ hlt hP (mov i h' h₁ hJ hk₁) hst₁) (fun _ s₂ h₂ => wpAny_mono h₂ (fun f s₃ h₃ => ?_) fun _ _ e => e.elim) fun _ _ e => e.elim
    cases f with
    | next => obtain ⟨h₃', tk₃, rfl, hJ₃, hf⟩ := h₃; exact ⟨n + 1 - (i + 1), by omega, h₃', tk₃, i + 1, rfl, W.frame _ _ _ hst₁ hf, hJ₃, hlt, rfl⟩
    | cont => obtain ⟨h₃', tk₃, rfl, hJ₃, hf⟩ := h₃; exact ⟨n + 1 - (i + 1), by omega, h₃', tk₃, i + 1, rfl, W.frame _ _ _ hst₁ hf, hJ₃, hlt, rfl⟩
    | brk => exact h₃
    | ret v => exact h₃
  · have hin : i = n := by omega
    subst hin
    refine W.done _ _ _ hst' fun h₁ tk₁ hk₁ => wpAny_execs_nil ?_
    exact fin h₁ tk₁ (mov i h' h₁ hJ hk₁)

/-- the same from the for statement, over a list -/
theorem for_list {pos : Pos} {iter : Expr} {l : Addr} {items : Array Value} (hh : A.handled = none) (J : Nat → Heap → Prop)
    (hi : wpAny (model prog w) A (eval iter env) (fun xv s₁ => xv = .ref l ∧ s₁ = s) (fun _ _ => False) s)
    (hl : s.heap.IsList l items) (h0 : J 0 s.heap)
    (new : ∀ i h h', J i h → (∀ b o, b ≠ s.heap.objs.size → h.get? b = some o → h'.get? b = some o) → J i h')
    (go : ∀ (i : Nat) (s' : Shared) v (Q' : Unit → Shared → Prop) (E' : Value → Shared → Prop), items[i]? = some v → s'.heap.IsListIter s.heap.objs.size l (i + 1) → Q' () s' → wpAny (model prog w) A (letOwnedTupleGo target (.ref s.heap.objs.size) v) Q' E' s')
    (step : ∀ (i : Nat) v h tk oI, i < items.size → items[i]? = some v → J i h → h.get? s.heap.objs.size = some oI → h.IsList l items → wpAny (model prog w) A (assign target env v) (fun _ s₂ => wpAny (model prog w) A (execs body env) (fun f s₃ => match f with
        | .next | .cont => ∃ h' tk', s₃ = { s with heap := h', toks := tk' } ∧ J (i + 1) h' ∧ h'.get? s.heap.objs.size = some oI ∧ (∀ o, h.get? l = some o → h'.get? l = some o)
        | .brk => Q .next s₃
        | .ret v => Q (.ret v) s₃) (fun _ _ => False) s₂) (fun _ _ => False) { s with heap := h, toks := tk })
    (fin : ∀ h tk, J items.size h → Q .next { s with heap := h, toks := tk })
    (hs : ∀ x, foldedSetIterable iter env x = pure x := by intro _; rfl) :
    wpAny (model prog w) A (exec (.For target iter body [] pos) env) Q (fun _ _ => False) s := by
  have hlt : l < s.heap.objs.size := let ⟨_, ho, _⟩ := hl; Heap.lt_size ho
  refine wpAny_For (wpAny_mono hi (fun xv s₁ h₁ => ?_) fun _ _ e => e) hs
  obtain ⟨rfl, rfl⟩ := h₁
  refine wpAny_pyIter_list hl ?_
  have keep : ∀ b o, s₁.heap.get? b = some o → (s₁.heap.push { cls := .type "list_iterator", data := .fields #[.ref l, .int 0 0] }).get? b = some o := fun b o e => Heap.get?_push_of_some _ e
  refine for_raw (s := { s₁ with heap := s₁.heap.push { cls := .type "list_iterator", data := .fields #[.ref l, .int 0 0] } }) (Walks.list hh s₁.heap.objs.size l (Nat.ne_of_lt hlt) items) J
    ⟨⟨_, Heap.get?_push_size _ rfl, rfl, rfl⟩, hl.at fun o e => keep _ o e⟩ (new 0 _ _ h0 fun b o _ e => keep b o e)
    (fun i h h' hJ hk => new i h h' hJ fun b o hb e => hk b o (by simpa using hb) e)
    (fun i s' v Q' E' _ hv st hq => go i s' v Q' E' hv st.1 hq)
    (fun i v h tk hi hv hJ st => ?_) (fun h tk hJ => fin h tk hJ)
  obtain ⟨⟨oI, hoI, hcI⟩, hL⟩ := st
  refine wpAny_mono (step i v h tk oI hi hv hJ hoI hL) (fun _ s₂ h₂ => wpAny_mono h₂ (fun f s₃ h₃ => ?_) fun _ _ e => e) fun _ _ e => e
  have key : ∀ {h' : Heap}, h'.get? s₁.heap.objs.size = some oI → (∀ o, h.get? l = some o → h'.get? l = some o) → ∀ b ∈ [s₁.heap.objs.size, l], ∀ o, h.get? b = some o → h'.get? b = some o := fun h1 h2 b hb o e => by
    rcases List.mem_cons.mp hb with rfl | hb
    · rw [hoI] at e; cases e; exact h1
    · rw [List.mem_singleton.mp hb] at e ⊢; exact h2 o e
  cases f with
  | next => obtain ⟨h₃', tk₃, rfl, hJ₃, hf, hg⟩ := h₃; exact ⟨h₃', tk₃, rfl, hJ₃, key hf hg⟩
  | cont => obtain ⟨h₃', tk₃, rfl, hJ₃, hf, hg⟩ := h₃; exact ⟨h₃', tk₃, rfl, hJ₃, key hf hg⟩
  | brk => exact h₃
  | ret v => exact h₃
end

theorem fr_mov {g h h' : Heap} {L I : Addr} {m : Str → Option Value} (F : Fr g L h m) (hI : L < I) (k : ∀ b o, b ≠ I → h.get? b = some o → h'.get? b = some o) : Fr g L h' m :=
  ⟨F.ns.at' fun o e => k _ o (Nat.ne_of_lt hI) e, fun b o e => k b o (fun q => by
    have h1 := Heap.lt_size e
    have h2 := F.above
    exact absurd (Nat.lt_of_lt_of_le (q ▸ h1 : I < g.objs.size) h2) (Nat.lt_asymm hI)) (F.keep b o e), F.above⟩
theorem news_mov {g h h' : Heap} {L I : Addr} {news : List (Addr × Obj)} (N : News g L h news) (hI : ∀ p ∈ news, p.1 ≠ I) (k : ∀ b o, b ≠ I → h.get? b = some o → h'.get? b = some o) : News g L h' news :=
  fun p hp => ⟨k _ _ (hI p hp) (N p hp).1, (N p hp).2⟩
theorem news_cons {g h : Heap} {L a : Addr} {o : Obj} {m : Str → Option Value} {news : List (Addr × Obj)} (F : Fr g L h m) (N : News g L h news) (e : h.get? a = some o) (hL : L < a) : News g L h ((a, o) :: news) := fun p hp => by
  rcases List.mem_cons.mp hp with rfl | hp
  · exact ⟨e, Nat.ne_of_gt hL, Heap.get?_none_of_le (Nat.le_trans F.above (Nat.le_of_lt hL))⟩
  · exact N p hp

/-- the rules' list: tuples of a text and a bool -/
inductive PairsAt (h : Heap) : List Value → List (Str × Bool) → Prop
  | nil : PairsAt h [] []
  | cons {b : Addr} {tp : Tok} {q : Str × Bool} {vs : List Value} {rs : List (Str × Bool)} : IsTup h b #[.str q.1 tp, .bool q.2] → PairsAt h vs rs → PairsAt h (.ref b :: vs) (q :: rs)
theorem PairsAt.keeps {h h' : Heap} {vs : List Value} {rs : List (Str × Bool)} (P : PairsAt h vs rs) (k : ∀ b o, h.get? b = some o → h'.get? b = some o) : PairsAt h' vs rs := by
  induction P with
  | nil => exact .nil
  | cons h1 _ ih =>
    obtain ⟨o, ho, r⟩ := h1
    exact .cons ⟨o, k _ _ ho, r⟩ ih
theorem PairsAt.get {h : Heap} {vs : List Value} {rs : List (Str × Bool)} (P : PairsAt h vs rs) : ∀ {i : Nat} {v : Value}, vs[i]? = some v → ∃ q b tp, rs[i]? = some q ∧ v = .ref b ∧ IsTup h b #[.str q.1 tp, .bool q.2] := by
  induction P with
  | nil => intro i v e; simp at e
  | cons h1 _ ih =>
    intro i v e
    cases i with
    | zero => simp only [List.getElem?_cons_zero, Option.some.injEq] at e; subst e; exact ⟨_, _, _, rfl, rfl, h1⟩
    | succ i => simp only [List.getElem?_cons_succ] at e ⊢; exact ih e
theorem PairsAt.length {h : Heap} {vs : List Value} {rs : List (Str × Bool)} (P : PairsAt h vs rs) : vs.length = rs.length := by
  induction P with
  | nil => rfl
  | cons _ _ ih => simp [ih]
end Mine

-- M3
namespace Mine
local macro_rules | `(tactic| walk_at "enter") => `(tactic| (
  (case k6 => k_is); (case k7 => k_is); (case k8 => (simp only [recursionLimit]; omega));
  (case k9 => (refine' kp_binds ?kx ?ke; (case kx => assumption); (case ke => exact fun _ => rfl)));
  (case c5 => decide); (case kB => exact locs rfl); (case c2 => exact rfl); (case c3 => exact rfl); (case c4 => exact rfl)))
local macro_rules | `(tactic| walk_at "go") => `(tactic| repeat' (
  (fail_if_success (with_reducible show wpAny _ _ (exec (Stmt.While _ _ _ _) _) _ _ _));
  (fail_if_success (with_reducible show wpAny _ _ (exec (Stmt.For _ _ _ _ _) _) _ _ _));
  (fail_if_success (with_reducible show wpAny _ _ (call (Value.ref _) _ _) _ _ _));
  (fail_if_success (with_reducible show Exists _));
  (first | walk1 | (dsimp only; walk1)); (try dsimp only)))
local macro_rules | `(tactic| walk_at "eval Name") => `(tactic| ((with_reducible show wpAny _ _ (eval (Expr.Name _ _) (envOf _ _ _ _ _)) _ _ _); refine ld (by assumption) (by with_unfolding_all assumption) ?_ (by kernel_rfl!) (by kernel_rfl!) (by decide +kernel)))

/-- one rule's step in _law_levels -/
def lvStep (L : List Int) (x : Int) : List Int :=
  if bis (fun v => decide (v < x)) L L.length 0 L.length = bis (fun v => !decide (x < v)) L L.length 0 L.length then insAt L x else L
def levelsOf (rs : List (Str × Bool)) : List Int := rs.foldl (fun L q => lvStep L q.1.length) []
theorem insAt_length (L : List Int) (x : Int) : (insAt L x).length = L.length + 1 := by
  unfold insAt
  have := bis_le (fun v => !decide (x < v)) L L.length 0 L.length (Nat.zero_le _)
  simp only [List.length_append, List.length_take, List.length_cons, List.length_drop]; omega
theorem lvStep_length (L : List Int) (x : Int) : (lvStep L x).length ≤ L.length + 1 := by
  unfold lvStep
  split
  · rw [insAt_length]; exact Nat.le_refl _
  · omega
theorem levelsOf_length (rs : List (Str × Bool)) : (levelsOf rs).length ≤ rs.length := by
  have : ∀ (rs : List (Str × Bool)) (L : List Int), (rs.foldl (fun L q => lvStep L q.1.length) L).length ≤ L.length + rs.length := by
    intro rs
    induction rs with
    | nil => intro L; simp
    | cons q rs ih => intro L; simp only [List.foldl_cons, List.length_cons]; have := ih (lvStep L q.1.length); have := lvStep_length L q.1.length; omega
  simpa [levelsOf] using this rs []
theorem levelsOf_snoc (rs : List (Str × Bool)) (q : Str × Bool) : levelsOf (rs ++ [q]) = lvStep (levelsOf rs) q.1.length := by simp [levelsOf]

set_option maxHeartbeats 4000000 in
theorem levels_spec {w : World} {A : Around} {s : Shared} {loose mean mg mb} {r : Addr} {vs : List Value} {rs : List (Str × Bool)} {R : Result → Shared → Prop}
    (X : (hd.heap_39 w.params).In s.heap) (T : Top topProg loose mean mg mb s.heap) (hA : A.depth < 700) (hh : A.handled = none)
    (hL : s.heap.IsList r vs.toArray) (hP : PairsAt s.heap vs rs) (hn : rs.length < 50) (h4 : ∀ q ∈ rs, q.1.length ≤ 4)
    (hR : ∀ h' tk l lvs n, h'.get? l = some (listOf lvs.toArray n) → IntsAre lvs (levelsOf rs) → s.heap.get? l = none → (∀ b o, s.heap.get? b = some o → h'.get? b = some o) → R (.ok (.ret (.ref l))) { s with heap := h', toks := tk }) :
    codeAny (model PySem.Challenge.rw_ny0145_01.row.prog w) A (.call (.ref 102) ⟨[.ref r], []⟩) R s := by
  obtain ⟨hd0, dp, fr, gd, un⟩ := A
  dsimp only at hh hA
  subst hh
  revert X; k_fill; intro X
  refine' enterD [(Str.ofString "rules", .ref r)] X T.nolimit ?k6 ?k7 ?k8 ?k9 ?kB ?_ ?c2 ?c3 ?c4 ?c5
  walk_at "enter"
  intro h₁ F
  have N : News s.heap s.heap.objs.size h₁ [] := News.nil
  try dsimp only
  walk_at "go"
  rename Fr _ _ _ _ => F; rename News _ _ _ _ => N
  rename_i l _ _ hc
  have hlc : l < hc.objs.size := Heap.lt_size (N _ (.head _)).1
  have hLc : s.heap.objs.size < hc.objs.size := F.ns.lt
  refine for_list (l := r) (items := vs.toArray) rfl (fun i h => ∃ m lvs n, Fr s.heap s.heap.objs.size h m ∧ News s.heap s.heap.objs.size h [(l, listOf lvs.toArray n)] ∧ m (Str.ofString "rules") = some (.ref r) ∧ m (Str.ofString "levels") = some (.ref l) ∧ IntsAre lvs (levelsOf (rs.take i))) ?hi ?hl ?h0 ?new ?go ?step ?fin
  case hi => refine ld F rfl ?_ (by kernel_rfl!) (by kernel_rfl!) (by decide +kernel); exact ⟨rfl, rfl⟩
  case hl => exact hL.at fun o e => F.keep _ o e
  case h0 => exact ⟨_, [], _, F, N, rfl, rfl, .nil⟩
  case new =>
    rintro i h h' ⟨m, lvs, n, F, N, r1, r2, r3⟩ hk
    exact ⟨m, lvs, n, fr_mov F hLc hk, news_mov N (fun p hp => by rcases List.mem_singleton.mp hp with rfl; exact Nat.ne_of_lt hlc) hk, r1, r2, r3⟩
  case go =>
    intro i s' v Q' E' hv hit hq
    obtain ⟨q, b, tp, _, rfl, _⟩ := hP.get (by simpa using hv)
    exact wpAny_letOwnedTupleGo_listiter hit hq
  case fin =>
    rintro h tk ⟨m, lvs, n, F, N, r1, r2, r3⟩
    walk_at "go"
    refine hR _ _ _ _ _ (N _ (.head _)).1 ?_ (N _ (.head _)).2.2 F.keep
    rw [List.take_of_length_le (by simp [hP.length])] at r3
    exact r3
  case step =>
    rintro i v h tk oI hi hv ⟨m, lvs, n, F, N, r1, r2, r3⟩ hoI hL2
    obtain ⟨q, b, tp, hq, rfl, hT⟩ := hP.get (by simpa using hv)
    have N2 := news_cons F N hoI hLc
    have hq4 := h4 q (List.mem_of_getElem? hq)
    clear N
    dsimp only
    dsimp only at N2 hoI
    have hl3 := r3.length
    have Fk := F.keep
    have hlv := levelsOf_length (rs.take i)
    have hlv2 : (levelsOf (rs.take i)).length < 50 := by
      have := List.length_take_le i rs; have := List.length_take (i := i) (l := rs); omega
    walk_at "go"
    rename Fr _ _ _ _ => F2; rename News _ _ _ _ => N2
    refine wpAny_call (bl_spec (t0 := 0) (X.keeps F2.keep) (T.keeps F2.keep) (show dp + 1 < 900 by omega) (News.isList N2 (.tail _ (.head _))) r3 (by omega) fun h2 tk2 tv2 hk2 => ?_)
    replace F2 := Fr.keeps F2 hk2
    replace N2 := News.keeps N2 hk2
    dsimp only
    walk_at "go"
    refine wpAny_call (br_spec (t0 := 0) (X.keeps F2.keep) (T.keeps F2.keep) (show dp + 1 < 900 by omega) (News.isList N2 (.tail _ (.head _))) r3 (by omega) fun h3 tk3 tv3 hk3 => ?_)
    replace F2 := Fr.keeps F2 hk3
    replace N2 := News.keeps N2 hk3
    dsimp only
    walk_at "go"
    · rename (bis _ _ _ _ _ : Int) = _ => heq
      refine wpAny_call (ins_spec (g := s.heap) X T (show dp + 1 < 800 by omega) F2.keep (N2 _ (.tail _ (.head _))).2.2 (N2 _ (.tail _ (.head _))).1 r3 (by omega) fun h4 tk4 vs4 n4 hl4 hI4 hk4 => ?_)
      dsimp only
      have F4 : Fr s.heap s.heap.objs.size h4 _ := ⟨F2.ns.at' fun o e => hk4 _ o (N2 _ (.tail _ (.head _))).2.1.symm e, fun b o e => hk4 b o (fun q => by rw [q, (N2 _ (.tail _ (.head _))).2.2] at e; cases e) (F2.keep b o e), F2.above⟩
      have N4 : News s.heap s.heap.objs.size h4 [(l, listOf vs4.toArray n4)] := fun p hp => by
        rcases List.mem_singleton.mp hp with rfl
        exact ⟨hl4, (N2 _ (.tail _ (.head _))).2⟩
      walk_at "go"
      refine ⟨_, _, rfl, ⟨_, _, _, F4, N4, r1, r2, ?_⟩, hk4 _ _ (Nat.ne_of_gt hlc) (N2 _ (.head _)).1, fun o e => ?_⟩
      · rw [List.take_add_one, hq, Option.toList_some, levelsOf_snoc]
        unfold lvStep
        rw [if_pos (by exact_mod_cast heq)]
        exact hI4
      · obtain ⟨o', ho', r'⟩ := hL
        have : o' = o := by have := Fk _ _ ho'; rw [this] at e; exact Option.some.inj e
        exact this ▸ F4.keep _ _ ho'
    · rename ¬ (bis _ _ _ _ _ : Int) = _ => heq
      refine ⟨_, _, rfl, ⟨_, _, _, F2, News.right (a := [(hc.objs.size, oI)]) N2, r1, r2, ?_⟩, (N2 _ (.head _)).1, fun o e => ?_⟩
      · rw [List.take_add_one, hq, Option.toList_some, levelsOf_snoc]
        unfold lvStep
        rw [if_neg (by exact_mod_cast heq)]
        exact r3
      · obtain ⟨o', ho', r'⟩ := hL
        have : o' = o := by have := Fk _ _ ho'; rw [this] at e; exact Option.some.inj e
        exact this ▸ F2.keep _ _ ho'
end Mine

-- M4
namespace Mine
local macro_rules | `(tactic| walk_at "enter") => `(tactic| (
  (case k6 => k_is); (case k7 => k_is); (case k8 => (simp only [recursionLimit]; omega));
  (case k9 => (refine' kp_binds ?kx ?ke; (case kx => assumption); (case ke => exact fun _ => rfl)));
  (case c5 => decide); (case kB => exact locs rfl); (case c2 => exact rfl); (case c3 => exact rfl); (case c4 => exact rfl)))
local macro_rules | `(tactic| walk_at "go") => `(tactic| repeat' (
  (fail_if_success (with_reducible show wpAny _ _ (exec (Stmt.While _ _ _ _) _) _ _ _));
  (fail_if_success (with_reducible show wpAny _ _ (exec (Stmt.For _ _ _ _ _) _) _ _ _));
  (fail_if_success (with_reducible show wpAny _ _ (call (Value.ref _) _ _) _ _ _));
  (first | walk1 | (dsimp only; walk1)); (try dsimp only)))
local macro_rules | `(tactic| walk_at "eval Name") => `(tactic| ((with_reducible show wpAny _ _ (eval (Expr.Name _ _) (envOf _ _ _ _ _)) _ _ _); refine ld (by assumption) (by with_unfolding_all assumption) ?_ (by kernel_rfl!) (by kernel_rfl!) (by decide +kernel)))
theorem cw_fn {M : Model} {A : Around} {E : Value → Shared → Prop} {s : Shared} {pos : Pos} {a : Addr} {o : Obj} {fd : FuncData} {first : List Value} {x : Sem Value} {rest : List (Bool × Sem Value)} {Q : Value → Shared → Prop}
    (h : wpAny M A (spliced ((false, x) :: rest)) (fun vs s₁ => (s₁.heap.get? a = some o ∧ o.data = .func fd) ∧ wpAny M A (call (.ref a) (first ++ vs) []) Q E s₁) E s) :
    wpAny M A (callWith pos (.ref a) first ((false, x) :: rest) []) Q E s :=
  callWith_function (evalArgs_plain h)
/-- the items that the halving search looks at -/
def looks (p : Int → Bool) (xs : List Int) : Nat → Nat → Nat → List Int
  | 0, _, _ => []
  | f + 1, lo, hi => if lo < hi then xs.getD ((lo + hi) / 2) 0 :: (if p (xs.getD ((lo + hi) / 2) 0) = true then looks p xs f ((lo + hi) / 2 + 1) hi else looks p xs f lo ((lo + hi) / 2)) else []
set_option maxHeartbeats 4000000 in
theorem blLost_spec {w : World} {A : Around} {s : Shared} {lost : Int → Bool} {loose mean mg mb} {a k : Addr} {ok : Obj} {fdk : FuncData} {vs : List Value} {ns : List Int} {R : Result → Shared → Prop}
    (X : (hd.heap_39 w.params).In s.heap) (T : Top topProg loose mean mg mb s.heap) (hA : A.depth < 900) (hh : A.handled = none)
    (hL : s.heap.IsList a vs.toArray) (hI : IntsAre vs ns) (hn : ns.length < 100) (hfk : s.heap.get? k = some ok) (hfd : ok.data = .func fdk)
    (hkey : ∀ A' s₁ v tv (Q : Value → Shared → Prop), A'.depth < 950 → A'.handled = none → (∀ b o, s.heap.get? b = some o → s₁.heap.get? b = some o) → (∀ h' tk', (∀ b o, s₁.heap.get? b = some o → h'.get? b = some o) → Q (.bool (lost v)) { s₁ with heap := h', toks := tk' }) → wpAny (model PySem.Challenge.rw_ny0145_01.row.prog w) A' (call (.ref k) [.int v tv]) Q (fun _ _ => False) s₁)
    (hR : ∀ h' tk tv, (∀ b o, s.heap.get? b = some o → h'.get? b = some o) → R (.ok (.ret (.int (bis (fun v => !lost v) ns ns.length 0 ns.length) tv))) { s with heap := h', toks := tk }) :
    codeAny (model PySem.Challenge.rw_ny0145_01.row.prog w) A (.call (.ref 83) ⟨[.ref a, .bool true], [(Str.ofString "key", .ref k)]⟩) R s := by
  obtain ⟨hd0, dp, fr, gd, un⟩ := A
  dsimp only at hh hA
  subst hh
  revert X; k_fill; intro X
  refine' enterG (g := s.heap) [(Str.ofString "a", .ref a), (Str.ofString "x", .bool true), (Str.ofString "lo", .int 0 280), (Str.ofString "hi", .none), (Str.ofString "key", .ref k)] X T.nolimit (fun _ _ e => e) (Nat.le_refl _) ?k6 ?k7 ?k8 ?k9 ?kB ?_ ?c2 ?c3 ?c4 ?c5
  walk_at "enter"
  intro h₁ F hall
  have N : News (s.heap) s.heap.objs.size h₁ [] := News.nil
  try dsimp only
  walk_at "go"
  rename Fr _ _ _ _ => F; rename News _ _ _ _ => N
  refine While_inv (fun n m news => ∃ (l h : Nat) (t1 t2 : Tok) , news = [] ∧ m (Str.ofString "a") = some (.ref a) ∧ m (Str.ofString "x") = some (.bool true) ∧ m (Str.ofString "key") = some (.ref k) ∧ m (Str.ofString "lo") = some (.int l t1) ∧ m (Str.ofString "hi") = some (.int h t2) ∧ h ≤ ns.length ∧ l ≤ h ∧ h - l ≤ n ∧ bis (fun v => !lost v) ns n l h = bis (fun v => !lost v) ns ns.length 0 ns.length) (n₀ := ns.length) F N ?st ?turn ?pe
  case st => 
    exact ⟨0, ns.length, _, _, rfl, rfl, rfl, rfl, rfl, rfl, Nat.le_refl _, Nat.zero_le _, by omega, rfl⟩
  case pe => exact PassesOwn.never
  case turn =>
    rintro n m₁ news₁ h₂ tk₂ F₂ N₂ ⟨l, h, t1, t2, rfl, m1, m2, m5, m3, m4, hh, hlh, hf, hb⟩
    have e : ((l : Int) + (h : Int)).fdiv 2 = (((l + h) / 2 : Nat) : Int) := by
      rw [Int.fdiv_eq_ediv_of_nonneg _ (by omega)]; omega
    have e2 : (((l : Int) + (h : Int)).fdiv 2).toNat = (l + h) / 2 := by rw [e]; rfl
    walk_at "go"
    · rename ((l : Int) < h) => hlt
      obtain ⟨k', rfl⟩ : ∃ k, n = k + 1 := ⟨n - 1, by omega⟩
      first
        | (with_reducible show wpAny _ _ (call (Value.ref _) _ _) _ _ _)
        | (refine cw_fn (o := ok) (fd := fdk) ?_
           walk_at "go"
           refine ⟨⟨F3.keep _ _ hfk, hfd⟩, ?_⟩
           dsimp only [List.nil_append])
      rename Fr _ _ _ _ => F3; rename News _ _ _ _ => N3
      refine hkey _ _ _ _ _ ?kd ?kh ?kk ?kq
      case kd => exact (show dp + 1 < 950 by omega)
      case kh => exact rfl
      case kk => exact F3.keep
      intro h4 tk4 hk4
      replace F3 := Fr.keeps F3 hk4
      replace N3 := News.keeps N3 hk4
      try clear F₂ N₂
      dsimp only
      walk_at "go"
      · rename Fr _ _ _ _ => F3; rename News _ _ _ _ => N3; rename b2i _ < b2i _ => hx
        refine WhileStep.intro (n' := k') F3 N3 (by omega) ⟨(l + h) / 2 + 1, h, _, _, rfl, m1, m2, m5, congrArg (fun z : Int => some (Value.int z _)) (by rw [e]; rfl), m4, hh, by omega, by omega, ?_⟩
        rw [← hb, bis, if_pos (by omega), if_pos (by rw [e2] at hx; revert hx; cases lost (ns.getD ((l + h) / 2) 0) <;> simp [b2i])]
      · rename Fr _ _ _ _ => F3; rename News _ _ _ _ => N3; rename ¬ (b2i _ < b2i _) => hx
        refine WhileStep.intro (n' := k') F3 N3 (by omega) ⟨l, (l + h) / 2, _, _, rfl, m1, m2, m5, m3, congrArg (fun z : Int => some (Value.int z _)) (by rw [e]), by omega, by omega, by omega, ?_⟩
        rw [← hb, bis, if_pos (by omega), if_neg (by rw [e2] at hx; revert hx; cases lost (ns.getD ((l + h) / 2) 0) <;> simp [b2i])]

    · rename ¬ ((l : Int) < h) => hx
      have hv : l = bis (fun v => !lost v) ns ns.length 0 ns.length := by
        rw [← hb]
        cases n with
        | zero => rfl
        | succ n => rw [bis, if_neg (by omega)]
      rw [hv]
      exact hR _ _ _ F₂.keep
set_option maxHeartbeats 4000000 in
theorem brLost_spec {w : World} {A : Around} {s : Shared} {lost : Int → Bool} {loose mean mg mb} {a k : Addr} {ok : Obj} {fdk : FuncData} {vs : List Value} {ns : List Int} {R : Result → Shared → Prop}
    (X : (hd.heap_39 w.params).In s.heap) (T : Top topProg loose mean mg mb s.heap) (hA : A.depth < 900) (hh : A.handled = none)
    (hL : s.heap.IsList a vs.toArray) (hI : IntsAre vs ns) (hn : ns.length < 100) (hfk : s.heap.get? k = some ok) (hfd : ok.data = .func fdk)
    (hkey : ∀ A' s₁ v tv (Q : Value → Shared → Prop), A'.depth < 950 → A'.handled = none → (∀ b o, s.heap.get? b = some o → s₁.heap.get? b = some o) → (∀ h' tk', (∀ b o, s₁.heap.get? b = some o → h'.get? b = some o) → Q (.bool (lost v)) { s₁ with heap := h', toks := tk' }) → wpAny (model PySem.Challenge.rw_ny0145_01.row.prog w) A' (call (.ref k) [.int v tv]) Q (fun _ _ => False) s₁)
    (hR : ∀ h' tk tv, (∀ b o, s.heap.get? b = some o → h'.get? b = some o) → R (.ok (.ret (.int (bis (fun v => !lost v) ns ns.length 0 ns.length) tv))) { s with heap := h', toks := tk }) :
    codeAny (model PySem.Challenge.rw_ny0145_01.row.prog w) A (.call (.ref 74) ⟨[.ref a, .bool false], [(Str.ofString "key", .ref k)]⟩) R s := by
  obtain ⟨hd0, dp, fr, gd, un⟩ := A
  dsimp only at hh hA
  subst hh
  revert X; k_fill; intro X
  refine' enterG (g := s.heap) [(Str.ofString "a", .ref a), (Str.ofString "x", .bool false), (Str.ofString "lo", .int 0 266), (Str.ofString "hi", .none), (Str.ofString "key", .ref k)] X T.nolimit (fun _ _ e => e) (Nat.le_refl _) ?k6 ?k7 ?k8 ?k9 ?kB ?_ ?c2 ?c3 ?c4 ?c5
  walk_at "enter"
  intro h₁ F hall
  have N : News (s.heap) s.heap.objs.size h₁ [] := News.nil
  try dsimp only
  walk_at "go"
  rename Fr _ _ _ _ => F; rename News _ _ _ _ => N
  refine While_inv (fun n m news => ∃ (l h : Nat) (t1 t2 : Tok) , news = [] ∧ m (Str.ofString "a") = some (.ref a) ∧ m (Str.ofString "x") = some (.bool false) ∧ m (Str.ofString "key") = some (.ref k) ∧ m (Str.ofString "lo") = some (.int l t1) ∧ m (Str.ofString "hi") = some (.int h t2) ∧ h ≤ ns.length ∧ l ≤ h ∧ h - l ≤ n ∧ bis (fun v => !lost v) ns n l h = bis (fun v => !lost v) ns ns.length 0 ns.length) (n₀ := ns.length) F N ?st ?turn ?pe
  case st => 
    exact ⟨0, ns.length, _, _, rfl, rfl, rfl, rfl, rfl, rfl, Nat.le_refl _, Nat.zero_le _, by omega, rfl⟩
  case pe => exact PassesOwn.never
  case turn =>
    rintro n m₁ news₁ h₂ tk₂ F₂ N₂ ⟨l, h, t1, t2, rfl, m1, m2, m5, m3, m4, hh, hlh, hf, hb⟩
    have e : ((l : Int) + (h : Int)).fdiv 2 = (((l + h) / 2 : Nat) : Int) := by
      rw [Int.fdiv_eq_ediv_of_nonneg _ (by omega)]; omega
    have e2 : (((l : Int) + (h : Int)).fdiv 2).toNat = (l + h) / 2 := by rw [e]; rfl
    walk_at "go"
    · rename ((l : Int) < h) => hlt
      obtain ⟨k', rfl⟩ : ∃ k, n = k + 1 := ⟨n - 1, by omega⟩
      first
        | (with_reducible show wpAny _ _ (call (Value.ref _) _ _) _ _ _)
        | (refine cw_fn (o := ok) (fd := fdk) ?_
           walk_at "go"
           refine ⟨⟨F3.keep _ _ hfk, hfd⟩, ?_⟩
           dsimp only [List.nil_append])
      rename Fr _ _ _ _ => F3; rename News _ _ _ _ => N3
      refine hkey _ _ _ _ _ ?kd ?kh ?kk ?kq
      case kd => exact (show dp + 1 < 950 by omega)
      case kh => exact rfl
      case kk => exact F3.keep
      intro h4 tk4 hk4
      replace F3 := Fr.keeps F3 hk4
      replace N3 := News.keeps N3 hk4
      try clear F₂ N₂
      dsimp only
      walk_at "go"
      · rename Fr _ _ _ _ => F3; rename News _ _ _ _ => N3; rename b2i _ < b2i _ => hx
        refine WhileStep.intro (n' := k') F3 N3 (by omega) ⟨l, (l + h) / 2, _, _, rfl, m1, m2, m5, m3, congrArg (fun z : Int => some (Value.int z _)) (by rw [e]), by omega, by omega, by omega, ?_⟩
        rw [← hb, bis, if_pos (by omega), if_neg (by rw [e2] at hx; revert hx; cases lost (ns.getD ((l + h) / 2) 0) <;> simp [b2i])]
      · rename Fr _ _ _ _ => F3; rename News _ _ _ _ => N3; rename ¬ (b2i _ < b2i _) => hx
        refine WhileStep.intro (n' := k') F3 N3 (by omega) ⟨(l + h) / 2 + 1, h, _, _, rfl, m1, m2, m5, congrArg (fun z : Int => some (Value.int z _)) (by rw [e]; rfl), m4, hh, by omega, by omega, ?_⟩
        rw [← hb, bis, if_pos (by omega), if_pos (by rw [e2] at hx; revert hx; cases lost (ns.getD ((l + h) / 2) 0) <;> simp [b2i])]

    · rename ¬ ((l : Int) < h) => hx
      have hv : l = bis (fun v => !lost v) ns ns.length 0 ns.length := by
        rw [← hb]
        cases n with
        | zero => rfl
        | succ n => rw [bis, if_neg (by omega)]
      rw [hv]
      exact hR _ _ _ F₂.keep
theorem news_one {g h : Heap} {L c : Addr} {o : Obj} (e : h.get? c = some o) (h1 : c ≠ L) (h2 : g.get? c = none) : News g L h [(c, o)] := fun p hp => by
  rcases List.mem_singleton.mp hp with rfl
  exact ⟨e, h1, h2⟩
theorem intsAre_snoc {vs : List Value} {ns : List Int} {x : Int} {t : Tok} (h : IntsAre vs ns) : IntsAre (vs ++ [.int x t]) (ns ++ [x]) := by
  induction h with
  | nil => exact .cons _ _ .nil
  | cons n t _ ih => exact .cons _ _ ih
set_option maxHeartbeats 4000000 in
theorem blSeen_spec {w : World} {A : Around} {s : Shared} {g : Heap} {c : Addr} {lv₀ : List Value} {n₀ : Nat} {x : Int} {tx : Tok} {loose mean mg mb} {a k : Addr} {ok : Obj} {fdk : FuncData} {vs : List Value} {ns : List Int} {R : Result → Shared → Prop}
    (X : (hd.heap_39 w.params).In g) (T : Top topProg loose mean mg mb g) (hA : A.depth < 900) (hh : A.handled = none)
    (hs : ∀ b o, g.get? b = some o → s.heap.get? b = some o) (hgc : g.get? c = none) (hc : s.heap.get? c = some (listOf lv₀.toArray n₀)) (hl0 : lv₀.length < 100) (hac : a ≠ c) (hkc : k ≠ c)
    (hL : s.heap.IsList a vs.toArray) (hI : IntsAre vs ns) (hn : ns.length < 100) (hfk : s.heap.get? k = some ok) (hfd : ok.data = .func fdk)
    (hkey : ∀ A' s₁ v tv lv n (Q : Value → Shared → Prop), A'.depth < 950 → A'.handled = none → (∀ b o, b ≠ c → s.heap.get? b = some o → s₁.heap.get? b = some o) → s₁.heap.get? c = some (listOf lv.toArray n) → lv.length < 300 → (∀ h' tk' tr n', h'.get? c = some (listOf (lv ++ [.int v tv]).toArray n') → (∀ b o, b ≠ c → s₁.heap.get? b = some o → h'.get? b = some o) → Q (.int v tr) { s₁ with heap := h', toks := tk' }) → wpAny (model PySem.Challenge.rw_ny0145_01.row.prog w) A' (call (.ref k) [.int v tv]) Q (fun _ _ => False) s₁)
    (hR : ∀ h' tk tv lv n, h'.get? c = some (listOf (lv₀ ++ lv).toArray n) → IntsAre lv (looks (fun v => decide (v < x)) ns ns.length 0 ns.length) → (∀ b o, b ≠ c → s.heap.get? b = some o → h'.get? b = some o) → R (.ok (.ret (.int (bis (fun v => decide (v < x)) ns ns.length 0 ns.length) tv))) { s with heap := h', toks := tk }) :
    codeAny (model PySem.Challenge.rw_ny0145_01.row.prog w) A (.call (.ref 83) ⟨[.ref a, .int x tx], [(Str.ofString "key", .ref k)]⟩) R s := by
  obtain ⟨hd0, dp, fr, gd, un⟩ := A
  dsimp only at hh hA
  subst hh
  have hs' := sub_hide hs hgc
  replace X := X.keeps hs'
  replace T := T.keeps hs'
  have Xs := X.keeps (fun b o e => Heap.of_hide (a := c) e)
  have hfk' : (s.heap.hide c).get? k = some ok := by rw [Heap.hide_ne _ hkc]; exact hfk
  have hL' : (s.heap.hide c).IsList a vs.toArray := hL.at fun o e => by rw [Heap.hide_ne _ hac]; exact e
  revert X; k_fill; intro X
  refine' enterG (g := s.heap.hide c) [(Str.ofString "a", .ref a), (Str.ofString "x", .int x tx), (Str.ofString "lo", .int 0 280), (Str.ofString "hi", .none), (Str.ofString "key", .ref k)] X T.nolimit (fun _ _ e => Heap.of_hide e) (Nat.le_of_eq (Heap.hide_size _ _)) ?k6 ?k7 ?k8 ?k9 ?kB ?_ ?c2 ?c3 ?c4 ?c5
  walk_at "enter"
  intro h₁ F hall
  clear Xs
  have N : News (s.heap.hide c) s.heap.objs.size h₁ [(c, listOf lv₀.toArray n₀)] := fun p hp => by
    rcases List.mem_singleton.mp hp with rfl
    exact ⟨hall _ _ hc, Nat.ne_of_lt (Heap.lt_size hc), Heap.hide_self _ _⟩
  try dsimp only
  walk_at "go"
  rename Fr _ _ _ _ => F; rename News _ _ _ _ => N
  refine While_inv (fun n₁ m news => ∃ (l h : Nat) (t1 t2 : Tok) (lv : List Value) (li : List Int) (n : Nat), news = [(c, listOf (lv₀ ++ lv).toArray n)] ∧ m (Str.ofString "a") = some (.ref a) ∧ m (Str.ofString "x") = some (.int x tx) ∧ m (Str.ofString "key") = some (.ref k) ∧ m (Str.ofString "lo") = some (.int l t1) ∧ m (Str.ofString "hi") = some (.int h t2) ∧ h ≤ ns.length ∧ l ≤ h ∧ h - l ≤ n₁ ∧ IntsAre lv li ∧ li.length + (h - l) ≤ ns.length ∧ li ++ looks (fun v => decide (v < x)) ns n₁ l h = looks (fun v => decide (v < x)) ns ns.length 0 ns.length ∧ bis (fun v => decide (v < x)) ns n₁ l h = bis (fun v => decide (v < x)) ns ns.length 0 ns.length) (n₀ := ns.length) F N ?st ?turn ?pe
  case st => 
    exact ⟨0, ns.length, _, _, [], [], n₀, by rw [List.append_nil], rfl, rfl, rfl, rfl, rfl, Nat.le_refl _, Nat.zero_le _, by omega, .nil, by simp, rfl, rfl⟩
  case pe => exact PassesOwn.never
  case turn =>
    rintro n m₁ news₁ h₂ tk₂ F₂ N₂ ⟨l, h, t1, t2, lv, li, nn, rfl, m1, m2, m5, m3, m4, hh, hlh, hf, hlv, hli, hlk, hb⟩
    have e : ((l : Int) + (h : Int)).fdiv 2 = (((l + h) / 2 : Nat) : Int) := by
      rw [Int.fdiv_eq_ediv_of_nonneg _ (by omega)]; omega
    have e2 : (((l : Int) + (h : Int)).fdiv 2).toNat = (l + h) / 2 := by rw [e]; rfl
    walk_at "go"
    · rename ((l : Int) < h) => hlt
      obtain ⟨k', rfl⟩ : ∃ k, n = k + 1 := ⟨n - 1, by omega⟩
      first
        | (with_reducible show wpAny _ _ (call (Value.ref _) _ _) _ _ _)
        | (refine cw_fn (o := ok) (fd := fdk) ?_
           walk_at "go"
           refine ⟨⟨F3.keep _ _ (by rw [Heap.hide_ne _ hkc]; exact hfk), hfd⟩, ?_⟩
           dsimp only [List.nil_append])
      rename Fr _ _ _ _ => F3; rename News _ _ _ _ => N3
      have hlen := hlv.length
      refine hkey _ _ _ _ (lv₀ ++ lv) nn _ ?kd ?kh ?kk ?kc ?kl ?kq
      case kd => exact (show dp + 1 < 950 by omega)
      case kh => exact rfl
      case kk => exact hide_keep F3.keep
      case kc => exact (N3 _ (.head _)).1
      case kl => rw [List.length_append]; omega
      intro h4 tk4 tr4 n4 hc4 hk4
      have F4 : Fr (s.heap.hide c) s.heap.objs.size h4 _ := ⟨F3.ns.at' fun o e => hk4 _ o (N3 _ (.head _)).2.1.symm e, fun b o e => hk4 b o (fun q => by rw [q, Heap.hide_self] at e; cases e) (F3.keep b o e), F3.above⟩
      rw [e2, List.append_assoc] at hc4
      have N4 := news_one hc4 (N3 _ (.head _)).2.1 (N3 _ (.head _)).2.2
      clear F3 N3
      dsimp only
      walk_at "go"
      · rename Fr _ _ _ _ => F3; rename News _ _ _ _ => N3; rename ns.getD _ 0 < x => hx
        refine WhileStep.intro (n' := k') F3 N3 (by omega) ⟨(l + h) / 2 + 1, h, _, _, lv ++ [Value.int (ns.getD ((l + h) / 2) 0) _], li ++ [ns.getD ((l + h) / 2) 0], _, rfl, m1, m2, m5, congrArg (fun z : Int => some (Value.int z _)) (by rw [e]; rfl), m4, hh, by omega, by omega, intsAre_snoc hlv, by rw [List.length_append, List.length_singleton]; omega, (by rw [← hlk, looks, if_pos (by omega), if_pos (by rw [e2] at hx; simpa using hx), List.append_assoc]; rfl), ?_⟩
        rw [← hb, bis, if_pos (by omega), if_pos (by rw [e2] at hx; simpa using hx)]
      · rename Fr _ _ _ _ => F3; rename News _ _ _ _ => N3; rename ¬ (ns.getD _ 0 < x) => hx
        refine WhileStep.intro (n' := k') F3 N3 (by omega) ⟨l, (l + h) / 2, _, _, lv ++ [Value.int (ns.getD ((l + h) / 2) 0) _], li ++ [ns.getD ((l + h) / 2) 0], _, rfl, m1, m2, m5, m3, congrArg (fun z : Int => some (Value.int z _)) (by rw [e]), by omega, by omega, by omega, intsAre_snoc hlv, by rw [List.length_append, List.length_singleton]; omega, (by rw [← hlk, looks, if_pos (by omega), if_neg (by rw [e2] at hx; simpa using hx), List.append_assoc]; rfl), ?_⟩
        rw [← hb, bis, if_pos (by omega), if_neg (by rw [e2] at hx; simpa using hx)]

    · rename ¬ ((l : Int) < h) => hx
      have hv : l = bis (fun v => decide (v < x)) ns ns.length 0 ns.length := by
        rw [← hb]
        cases n with
        | zero => rfl
        | succ n => rw [bis, if_neg (by omega)]
      have hlz : looks (fun v => decide (v < x)) ns n l h = [] := by
        cases n with
        | zero => rfl
        | succ n => rw [looks, if_neg (by omega)]
      rw [hlz, List.append_nil] at hlk
      rw [hv]
      exact hR _ _ _ _ _ (N₂ _ (.head _)).1 (hlk ▸ hlv) (hide_keep F₂.keep)
end Mine

-- B4
namespace Mine
/-- entering a def with cells above a base `g` -/
theorem enterC {K : Frag} {prog : Program} {w : World} {A : Around} {s : Shared} {g : Heap} {R : Result → Shared → Prop} {name qual : Str} {params : Arguments} {body : List Stmt} {scope : Scope} {dV kV doc pm cdv ct oc : Value} {an od : Option Addr} {osl : Array (Option Value)} {f : Addr} {args : Args} (binds : List (Str × Value))
    (X : K.In g) (hlim : g.NoLimit) (hk : ∀ b o, g.get? b = some o → s.heap.get? b = some o) (hz : g.objs.size ≤ s.heap.objs.size)
    (ho : K.lookup f = some ⟨oc, od, .func (fnOf name qual params body scope dV kV doc pm an cdv ct), osl⟩) (hcd : codeIn K cdv qual = true) (hroom : A.depth < recursionLimit)
    (hbind : BindsTo s (fnOf name qual params body scope dV kV doc pm an cdv ct) args binds)
    (hkind : (binds.all fun y => scope.names.lookup y.1 == some .local || scope.names.lookup y.1 == some .cell) = true)
    (hnd : ((cellsFrom 0 scope.names []).map (·.1)).Nodup)
    (h : ∀ h₁ tk cells, Fr g s.heap.objs.size h₁ (bindL (envOfC qual scope s.heap.objs.size f cdv).kindOf binds fun _ => none) → News g s.heap.objs.size h₁ cells →
      CellsAre (bindC (envOfC qual scope s.heap.objs.size f cdv).kindOf binds fun _ => none) (cellsFrom (s.heap.objs.size + 1) scope.names []) cells → (∀ b o, s.heap.get? b = some o → h₁.get? b = some o) →
      wpAny (model prog w) (A.deeper (envOfC qual scope s.heap.objs.size f cdv)) (execs body (envOfC qual scope s.heap.objs.size f cdv))
        (fun fl s' => R (.ok (.ret (match fl with | .ret v => v | _ => .none))) s') (fun _ _ => False)
        { s with heap := h₁, toks := tk })
    (hco : scope.isCoroutine = false) (hgen : scope.isGenerator = false) (hk' : scope.kind = .function) : codeAny (model prog w) A (.call (.ref f) args) R s := by
  have Xs := X.keeps hk
  refine codeAny_call_function hroom (Xs _ _ ho) rfl hco hgen rfl (codeRec_of Xs hcd) (hbind _ _ _ _ ?_)
  refine wpAny_newFunctionEnv_cells hk' (kindsX hkind _) fun env' he s' x => ?_
  subst he
  refine ⟨(hlim.keeps hk).keeps x.toInCall.keep, codeAny_func ?_⟩
  obtain ⟨h₁, tk, rfl, _⟩ := x.done
  have hk₁ := x.toInCall.keep
  obtain ⟨cells, NC, Y⟩ := Cl.news (h₀ := s.heap) (Nat.le_refl _) fun n c hm => ⟨x.cell n c (lookup_of_mem_nodup (cellsFrom_names scope.names 0 (s.heap.objs.size + 1) [] [] rfl ▸ hnd) hm), x.above n c hm⟩
  refine wpAny_mono (h h₁ tk cells ⟨x.toInCall.ns, fun b o e => hk₁ b o (hk b o e), hz⟩ (fun p hp => ⟨(NC p hp).1, (NC p hp).2.1, ?_⟩) Y hk₁) (fun _ _ x => x) (fun _ _ x => x.elim)
  cases q : g.get? p.1 with
  | none => rfl
  | some o => have := hk _ _ q; rw [(NC p hp).2.2] at this; cases this

/-- entering a lambda above a base `g` -/
theorem enterL {prog : Program} {w : World} {A : Around} {s : Shared} {g : Heap} {R : Result → Shared → Prop} {name qual : Str} {params : Arguments} {body : Expr} {scope : Scope} {cl : List (Str × Addr)} {pm ctv : Value} {c' f : Addr} {o : Obj} {args : Args} (binds : List (Str × Value))
    (hlim : g.NoLimit) (hk : ∀ b o, g.get? b = some o → s.heap.get? b = some o) (hz : g.objs.size ≤ s.heap.objs.size)
    (ho : s.heap.get? f = some o) (hd : o.data = .func (kla_fn name qual params body scope cl pm (.ref c') ctv)) (hcd : s.heap.CodeRec (.ref c') qual) (hroom : A.depth < recursionLimit)
    (hbind : bindArgs (kla_fn name qual params body scope cl pm (.ref c') ctv) args = pure binds) (hloc : ∀ y ∈ binds, scope.names.lookup y.1 = some .local)
    (h : ∀ h₁, Fr g s.heap.objs.size h₁ (fun y => binds.reverse.lookup y) → (∀ b o, s.heap.get? b = some o → h₁.get? b = some o) →
      wpAny (model prog w) (A.deeper (envX qual scope s.heap.objs.size f (.ref c') cl)) (eval body (envX qual scope s.heap.objs.size f (.ref c') cl))
        (fun v s' => R (.ok (.ret v)) s') (fun _ _ => False)
        { s with heap := h₁, toks := s.toks + binds.length })
    (hco : scope.isCoroutine = false) (hgen : scope.isGenerator = false) (hk' : scope.kind = .function)
    (hcell : ∀ x ∈ scope.names, x.2 ≠ .cell) : codeAny (model prog w) A (.call (.ref f) args) R s := by
  refine kla_callFunE hroom ho hd hco hgen rfl hcd ?_
  rw [hbind]
  refine wpAny_pure (wpAny_newFunctionEnv hcell hloc (fun h₁ hns hsb => ⟨(hlim.keeps hk).fresh _ hsb, ?_⟩) hk')
  show codeAny _ _ (.expr body (envX qual scope s.heap.objs.size f (.ref c') cl)) _ _
  have hk₁ : ∀ b o, s.heap.get? b = some o → h₁.get? b = some o := fun b o e => hsb.extBut b o (Nat.ne_of_lt (Heap.lt_size e)) (Heap.get?_push_of_some _ e)
  exact kla_codeExpr (wpAny_mono (h h₁ ⟨hns, fun b o e => hk₁ b o (hk b o e), hz⟩ hk₁) (fun _ _ x => x) (fun _ _ x => x.elim))

theorem mapOf_at {prog : Program} {w : World} {h h' : Heap} {d : Addr} {f : Str → Option Value} (hm : h.MapOf (PySem.strKind prog w) d f) (k : ∀ o, h.get? d = some o → h'.get? d = some o) : h'.MapOf (PySem.strKind prog w) d f :=
  let ⟨o, es, n, ho, r⟩ := hm
  ⟨o, es, n, k _ ho, r⟩
theorem via {h₀ h : Heap} {L : Addr} {news : List (Addr × Obj)} (_N : News h₀ L h news) (P : List (Addr × Obj) → Prop) {G : Prop} (hp : P news) (k : P news → G) : G := k hp
theorem nameFree {M : Model} {A : Around} {E : Value → Shared → Prop} {s : Shared} {h₀ : Heap} {L a : Addr} {m : Str → Option Value} {cn : Str} {cs : Scope} {ccd : Value} {cl : List (Str × Addr)} {x : Str} {pos : Pos} {v : Value} {Q : Value → Shared → Prop} {c : Addr} {o : Obj}
    (F : Fr h₀ L s.heap m) (hc : cl.lookup x = some c) (ho : h₀.get? c = some o) (hd : o.data = .cell (some v)) (h : Q v s)
    (hk : cs.kind = .function) (hx : (envX cn cs L a ccd cl).kindOf x = some .free) (hb : (x == ("__debug__" : Str)) = false) (hn : (x == ("__classdict__" : Str)) = false) :
    wpAny M A (eval (.Name x pos) (envX cn cs L a ccd cl)) Q E s := wpAny_Name (wpAny_loadName_free hk hx hc ⟨_, F.keep _ _ ho, hd⟩ h hn) hb

/-- a lambda is made, its code too or found again -/
theorem lam_make {M : Model} {A : Around} {E : Value → Shared → Prop} {s : Shared} {h₀ : Heap} {L a c P : Addr} {m mg mb : Str → Option Value} {cn : Str} {cs : Scope} {ccd : Value} {cl : List (Str × Addr)} {news : List (Addr × Obj)}
    {p : Program} {loose : List Str} {mean : ExcName → Option Value} {name qual : Str} {params : Arguments} {body : Expr} {scope : Scope} {ps : Array Value} {pos : Pos} {firstLine : Nat} {clos : List (Str × Addr)} {Q : Value → Shared → Prop}
    (F : Fr h₀ L s.heap m) (N : News h₀ L s.heap ((P, tabObj ps) :: news)) (T : Top p loose mean mg mb h₀) (C : CodeHd h₀ c P) (hcd : ccd = .ref c) (hP : ∀ q ∈ news, q.1 ≠ P)
    (hps : (TriplesOk ps.toList ∧ codeAmong pos ps.toList = none) ∨ ∃ c', TriplesOk ps.toList ∧ codeAmong pos ps.toList = some (.ref c') ∧ h₀.CodeRec (.ref c') qual)
    (hcl : closureFor scope (envX cn cs L a ccd cl) = pure clos)
    (h : ∀ f c' ctv h' tk extra ps', Fr h₀ L h' m → News h₀ L h' ((f, kla_obj name qual params body scope clos ((mg "__name__").getD .none) c' ctv) :: (P, tabObj ps') :: (news ++ extra)) →
      ((ps' = ps ∧ codeAmong pos ps.toList = some (.ref c')) ∨ (codeAmong pos ps.toList = none ∧ ps' = ps ++ #[rawInt pos.line, rawInt pos.col, .ref c'])) →
      (∀ h'' : Heap, (∀ b o, h₀.get? b = some o → h''.get? b = some o) → (∀ p ∈ extra, h''.get? p.1 = some p.2) → h''.CodeRec (.ref c') qual) → (∀ q ∈ news, q.1 < f) → P < f → Q (.ref f) { s with heap := h', toks := tk }) :
    wpAny M A (makeFunction name qual params (.expr body) scope (envX cn cs L a ccd cl) [] [] [] pos firstLine) Q E s := by
  rcases hps with ⟨ht, hnf⟩ | ⟨c', ht, hf, hr⟩
  · refine kla_nest F N T C hcd (UpdF.head hP) ht hnf hcl fun f c' oc vs t ctv h' tk F' N' e1 e2 l1 l2 => ?_
    refine h f c' ctv h' tk [(c', oc)] _ F' (fun q hq => N' q ?_) (.inr ⟨hnf, rfl⟩) (fun h'' _ k2 => ⟨c', oc, vs, t, rfl, k2 _ (.head _), e1, e2⟩) (fun q hq => Nat.lt_trans (l1 q (.tail _ hq)) l2) (Nat.lt_trans (l1 _ (.head _)) l2)
    rcases List.mem_cons.mp hq with rfl | hq
    · exact .head _
    · rcases List.mem_cons.mp hq with rfl | hq
      · exact .tail _ (.tail _ (.head _))
      · rcases List.mem_append.mp hq with hq | hq
        · exact .tail _ (.tail _ (.tail _ hq))
        · rw [List.mem_singleton.mp hq]; exact .tail _ (.head _)
  · refine kla_hit F N T C hcd (.head _) ht hf hcl fun f ctv h' tk F' N' l1 => ?_
    exact h f c' ctv h' tk [] ps F' (by rw [List.append_nil]; exact N') (.inl ⟨rfl, hf⟩) (fun h'' k1 _ => hr.keeps k1) (fun q hq => l1 q (.tail _ hq)) (l1 _ (.head _))
end Mine

-- M5
namespace Mine
local macro_rules | `(tactic| walk_at "enterC") => `(tactic| (
  (case k6 => k_is); (case k7 => k_is); (case k8 => (simp only [recursionLimit]; omega));
  (case k9 => (refine' kp_binds ?kx ?ke; (case kx => assumption); (case ke => exact fun _ => rfl)));
  (case kB => exact rfl); (case kD => decide +kernel); (case c2 => exact rfl); (case c3 => exact rfl); (case c4 => exact rfl)))
local macro_rules | `(tactic| walk_at "go") => `(tactic| repeat' (
  (fail_if_success (with_reducible show wpAny _ _ (exec (Stmt.While _ _ _ _) _) _ _ _));
  (fail_if_success (with_reducible show wpAny _ _ (exec (Stmt.For _ _ _ _ _) _) _ _ _));
  (fail_if_success (with_reducible show wpAny _ _ (call (Value.ref _) _ _) _ _ _));
  (fail_if_success (with_reducible show Exists _));
  (first | walk1 | (dsimp only; walk1)); (try dsimp only)))
local macro_rules | `(tactic| walk_at "eval Name") => `(tactic| ((with_reducible show wpAny _ _ (eval (Expr.Name _ _) (envOf _ _ _ _ _)) _ _ _); refine ld (by assumption) (by with_unfolding_all assumption) ?_ (by kernel_rfl!) (by kernel_rfl!) (by decide +kernel)))

local macro_rules | `(tactic| walk_at "eval Name") => `(tactic| ((with_reducible show wpAny _ _ (eval (Expr.Name _ _) (envX _ _ _ _ _ _)) _ _ _); refine nameFree (by assumption) rfl (by assumption) (by assumption) ?_ rfl rfl (by decide) (by decide)))
/-- what the search asks: is the name's front of that length no signpost? -/
def lostB (nm : Str) (f : Str → Option Bool) (v : Int) : Bool := decide ((nm.length : Int) < v) || (f (Txt.slice nm none (some v))).isNone
/-- the table of a def with one lambda: not made yet, or made -/
def Tab1 (h : Heap) (P : Addr) (l c : Nat) (q : Str) : Prop :=
  h.get? P = some (tabObj #[]) ∨ ∃ c', h.get? P = some (tabObj #[rawInt l, rawInt c, .ref c']) ∧ h.CodeRec (.ref c') q

theorem Tab1.open {h : Heap} {P : Addr} {l c e1 e2 : Nat} {q : Str} (t : Tab1 h P l c q) : ∃ ps, h.get? P = some (tabObj ps) ∧ (ps = #[] ∨ ∃ c', ps = #[rawInt l, rawInt c, .ref c']) ∧
    ((TriplesOk ps.toList ∧ codeAmong ⟨l, c, e1, e2⟩ ps.toList = none) ∨ ∃ c', TriplesOk ps.toList ∧ codeAmong ⟨l, c, e1, e2⟩ ps.toList = some (.ref c') ∧ (h.hide P).CodeRec (.ref c') q) := by
  rcases t with t | ⟨c', t, r⟩
  · exact ⟨_, t, .inl rfl, .inl ⟨trivial, rfl⟩⟩
  · refine ⟨_, t, .inr ⟨c', rfl⟩, .inr ⟨c', trivial, ?_, ?_⟩⟩
    · simp [codeAmong, rawInt]
    · obtain ⟨c2, o, vs, tq, e, ho, hd, hv⟩ := r
      cases e
      have : c' ≠ P := fun e => by
        rw [e, t] at ho
        cases ho
        cases hd
        simp [rawInt] at hv
      exact ⟨c', o, vs, tq, rfl, by rw [Heap.hide_ne _ this]; exact ho, hd, hv⟩
theorem Tab1.made {h : Heap} {P c' : Addr} {ps ps' : Array Value} {pos : Pos} {q : Str} (h1 : ps = #[] ∨ ∃ c', ps = #[rawInt pos.line, rawInt pos.col, .ref c'])
    (h2 : (ps' = ps ∧ codeAmong pos ps.toList = some (.ref c')) ∨ (codeAmong pos ps.toList = none ∧ ps' = ps ++ #[rawInt pos.line, rawInt pos.col, .ref c'])) (e : h.get? P = some (tabObj ps')) (r : h.CodeRec (.ref c') q) : Tab1 h P pos.line pos.col q := by
  refine .inr ⟨c', ?_, r⟩
  rcases h1 with rfl | ⟨c2, rfl⟩
  · rcases h2 with ⟨_, h2⟩ | ⟨_, rfl⟩
    · cases h2
    · exact e
  · rcases h2 with ⟨rfl, h2⟩ | ⟨h2, _⟩
    · simp [codeAmong, rawInt] at h2
      rw [← h2]; exact e
    · simp [codeAmong, rawInt] at h2

set_option maxHeartbeats 4000000 in
theorem place_spec {w : World} {A : Around} {s : Shared} {g : Heap} {loose mean mg mb} {lv pd : Addr} {vs : List Value} {ns : List Int} {nm : Str} {tn : Tok} {f : Str → Option Bool} {R : Result → Shared → Prop}
    (X : (hd.heap_39 w.params).In g) (T : Top topProg loose mean mg mb g) (hA : A.depth < 700) (hh : A.handled = none)
    (hs : ∀ b o, g.get? b = some o → s.heap.get? b = some o) (C : CodeHd g 115 111) (hg : g.get? 111 = none) (hT : Tab1 s.heap 111 125 11 (Str.ofString "_law_place.<locals>.<lambda>"))
    (hL : s.heap.IsList lv vs.toArray) (hI : IntsAre vs ns) (hn : ns.length < 50) (hn4 : nm.length ≤ 4) (hpd : (pd == sysModules) = false) (hpd1 : pd ≠ 111) (hlv1 : lv ≠ 111)
    (hD : s.heap.MapOf (strKind PySem.Challenge.rw_ny0145_01.row.prog w) pd fun x => (f x).map Value.bool)
    (hR : ∀ h' tk tv, Tab1 h' 111 125 11 (Str.ofString "_law_place.<locals>.<lambda>") → (∀ b o, b ≠ 111 → s.heap.get? b = some o → h'.get? b = some o) → R (.ok (.ret (.int (bis (fun v => !lostB nm f v) ns ns.length 0 ns.length) tv))) { s with heap := h', toks := tk }) :
    codeAny (model PySem.Challenge.rw_ny0145_01.row.prog w) A (.call (.ref 116) ⟨[.ref lv, .ref pd, .str nm tn], []⟩) R s := by
  obtain ⟨hd0, dp, fr, gd, un⟩ := A
  dsimp only at hh hA
  subst hh
  have hs' := sub_hide hs hg
  replace X := X.keeps hs'
  replace T := T.keeps hs'
  replace C := C.keeps hs'
  have Xs := X.keeps (fun b o e => Heap.of_hide (a := 111) e)
  revert X; k_fill; intro X
  refine' enterC (g := s.heap.hide 111) [(Str.ofString "levels", .ref lv), (Str.ofString "posts", .ref pd), (Str.ofString "name", .str nm tn)] X T.nolimit (fun b o e => Heap.of_hide e) (Nat.le_of_eq (Heap.hide_size _ _)) ?k6 ?k7 ?k8 ?k9 ?kB ?kD ?_ ?c2 ?c3 ?c4
  walk_at "enterC"
  intro h₁ tk cells F N Y hall
  clear Xs
  obtain ⟨o1, o2, rfl, d1, d2⟩ := Y.two
  replace d1 : o1.data = .cell (some (.str nm tn)) := d1
  replace d2 : o2.data = .cell (some (.ref pd)) := d2
  obtain ⟨ps, hT, hps1, hps⟩ := hT.open (e1 := 125) (e2 := 68)
  have N2 : News (s.heap.hide 111) s.heap.objs.size h₁ ([(111, tabObj ps)] ++ [(s.heap.objs.size + 1 + 1, o1), (s.heap.objs.size + 1, o2)]) := News.append (fun p hp => by
      rcases List.mem_singleton.mp hp with rfl
      exact ⟨hall _ _ hT, Nat.ne_of_lt (Heap.lt_size hT), Heap.hide_self _ _⟩) N
  dsimp only [List.cons_append, List.nil_append] at N2
  have h111 : 111 < s.heap.objs.size := Heap.lt_size hT
  clear N Y
  walk_at "go"
  refine kla_eval rfl ?_
  refine lam_make (c := 115) F N2 T C rfl ?ne hps rfl ?_
  case ne => intro q hq; rcases List.mem_cons.mp hq with rfl | hq; · exact Nat.ne_of_gt (by show 111 < s.heap.objs.size + 1 + 1; omega)
             rw [List.mem_singleton.mp hq]; exact Nat.ne_of_gt (by show 111 < s.heap.objs.size + 1; omega)
  intro lf c' ctv h2 tk2 extra ps' F2 N3 hps2 hcr hlf hlp
  dsimp only [List.cons_append, List.nil_append] at N3
  clear F N2
  dsimp only
  refine via N3 (fun news => ∀ A' s₁ v tv (Q : Value → Shared → Prop), A'.depth < 950 → A'.handled = none → (∀ b o, (s.heap.hide 111).get? b = some o → s₁.heap.get? b = some o) → (∀ p ∈ news, s₁.heap.get? p.1 = some p.2) →
    (∀ h' tk', (∀ b o, s₁.heap.get? b = some o → h'.get? b = some o) → Q (.bool (lostB nm f v)) { s₁ with heap := h', toks := tk' }) → wpAny (model PySem.Challenge.rw_ny0145_01.row.prog w) A' (call (.ref lf) [.int v tv]) Q (fun _ _ => False) s₁) ?hk fun hkey => ?_
  case hk =>
    intro A' s₁ v tv Q hd hh hb hn hQ
    obtain ⟨hd0, dp', fr', gd', un'⟩ := A'
    dsimp only at hh hd
    subst hh
    have hX := X.keeps hb
    have hT := T.keeps hb
    have hc1 := hn _ (.tail _ (.tail _ (.head _)))
    have hc2 := hn _ (.tail _ (.tail _ (.tail _ (.head _))))
    have hDD : s₁.heap.MapOf (strKind PySem.Challenge.rw_ny0145_01.row.prog w) pd fun x => (f x).map Value.bool :=
      mapOf_at hD fun o e => hb _ _ (by rw [Heap.hide_ne _ hpd1]; exact e)
    dsimp only at hc1 hc2
    refine wpAny_call (enterL (g := s₁.heap) [(Str.ofString "size", .int v tv)] hT.nolimit (fun _ _ e => e) (Nat.le_refl _) (hn _ (.head _)) rfl (hcr _ hb fun p hp => hn _ (.tail _ (.tail _ (.tail _ (.tail _ hp))))) (by simp only [recursionLimit]; omega) rfl (locs rfl) ?_ rfl rfl rfl (by decide))
    intro h3 F3 _
    clear X T C
    have N4 : News s₁.heap s₁.heap.objs.size h3 [] := News.nil
    dsimp only
    walk_at "go"
    · rename (nm.length : Int) < v => hx
      have e : lostB nm f v = decide ((nm.length : Int) < v) := by unfold lostB; rw [decide_eq_true hx]; rfl
      rw [e] at hQ
      exact hQ _ _ F3.keep
    · rename ¬ ((nm.length : Int) < v) => hx
      rename Fr _ _ _ _ => F4
      refine wpAny_notIn_of (strKind_is _ _ _ _) hpd (mapOf_at hDD fun o e => F4.keep _ _ e) ?_
      have e : lostB nm f v = !((f (Txt.slice nm none (some v))).map Value.bool).isSome := by
        unfold lostB; rw [decide_eq_false hx, Bool.false_or, Option.isSome_map]; cases f (Txt.slice nm none (some v)) <;> rfl
      rw [e] at hQ
      exact hQ _ _ F4.keep
  have hLh : (s.heap.hide 111).IsList lv vs.toArray := hL.at fun o e => by rw [Heap.hide_ne _ hlv1]; exact e
  walk_at "go"
  · rename Fr _ _ _ _ => F4; rename News _ _ _ _ => N4
    refine wpAny_call (brLost_spec (lost := lostB nm f) (X.keeps F4.keep) (T.keeps F4.keep) (show dp + 1 < 900 by omega) rfl (hLh.at fun o e => F4.keep _ _ e) hI (by omega) (N4 _ (.head _)).1 rfl ?ky ?rr)
    case ky =>
      intro A' s₁ v tv Q hd hh hb hQ
      exact hkey A' s₁ v tv Q hd hh (fun b o e => hb _ _ (F4.keep _ _ e)) (fun p hp => hb _ _ (N4 p hp).1) hQ
    case rr =>
      intro h5 tk5 tv5 hk5
      refine hR _ _ _ (Tab1.made hps1 hps2 (hk5 _ _ (N4 _ (.tail _ (.head _))).1) (hcr _ (fun b o e => hk5 _ _ (F4.keep _ _ e)) fun p hp => hk5 _ _ (N4 p (.tail _ (.tail _ (.tail _ (.tail _ hp))))).1)) (hide_keep fun b o e => hk5 _ _ (F4.keep _ _ e))
  · rename Fr _ _ _ _ => F4; rename News _ _ _ _ => N4
    refine wpAny_call (blLost_spec (lost := lostB nm f) (X.keeps F4.keep) (T.keeps F4.keep) (show dp + 1 < 900 by omega) rfl (hLh.at fun o e => F4.keep _ _ e) hI (by omega) (N4 _ (.head _)).1 rfl ?ky ?rr)
    case ky =>
      intro A' s₁ v tv Q hd hh hb hQ
      exact hkey A' s₁ v tv Q hd hh (fun b o e => hb _ _ (F4.keep _ _ e)) (fun p hp => hb _ _ (N4 p hp).1) hQ
    case rr =>
      intro h5 tk5 tv5 hk5
      refine hR _ _ _ (Tab1.made hps1 hps2 (hk5 _ _ (N4 _ (.tail _ (.head _))).1) (hcr _ (fun b o e => hk5 _ _ (F4.keep _ _ e)) fun p hp => hk5 _ _ (N4 p (.tail _ (.tail _ (.tail _ (.tail _ hp))))).1)) (hide_keep fun b o e => hk5 _ _ (F4.keep _ _ e))
end Mine

-- B5
namespace Mine
section
variable {prog : Program} {w : World} {A : Around} {s : Shared} {elt target iter : Expr} {ifs : List Expr} {scope : Scope} {pos : Pos} {cenv : Env} {R : Result → Shared → Prop}
/-- the turns of a list comprehension by an invariant over the heap -/
theorem comp_raw {I D : Addr} {fp wr : List Addr} {n : Nat} {P : Nat → Value → Prop} {St : Nat → Heap → Prop} (W : Walks prog w A I fp wr n P St)
    (J : Nat → Heap → Prop) (hst : St 0 s.heap) (h0 : J 0 s.heap)
    (mov : ∀ i h h', J i h → (∀ b o, b ∉ wr → h.get? b = some o → h'.get? b = some o) → J i h')
    (go : ∀ i (s' : Shared) v (Q' : Unit → Shared → Prop) (E' : Value → Shared → Prop), i < n → P i v → St (i + 1) s'.heap → Q' () s' → wpAny (model prog w) A (letOwnedTupleGo target (.ref I) v) Q' E' s')
    (step : ∀ i v h tk, i < n → P i v → J i h → St (i + 1) h → wpAny (model prog w) A (assign target cenv v) (fun _ s₂ =>
        wpAny (model prog w) A (forIn ifs true fun c r => if r = true then do let ok ← isTrue c cenv (eval c cenv); pure (ForInStep.yield ok) else pure (ForInStep.yield r)) (fun ok s₃ =>
          if ok = true then wpAny (model prog w) A (eval elt cenv) (fun x s₄ => wpAny (model prog w) A (call (.builtin "list.append") [.ref D, x]) (fun _ s₅ =>
            ∃ h' tk', s₅ = { s with heap := h', toks := tk' } ∧ J (i + 1) h' ∧ (∀ b ∈ fp, ∀ o, h.get? b = some o → h'.get? b = some o)) (fun _ _ => False) s₄) (fun _ _ => False) s₃
          else ∃ h' tk', s₃ = { s with heap := h', toks := tk' } ∧ J (i + 1) h' ∧ (∀ b ∈ fp, ∀ o, h.get? b = some o → h'.get? b = some o)) (fun _ _ => False) s₂) (fun _ _ => False) { s with heap := h, toks := tk })
    (fin : ∀ h tk, J n h → R (.ok .next) { s with heap := h, toks := tk }) :
    codeAny (model prog w) A (.compLoop (.ListComp elt [⟨target, iter, ifs, 0⟩] scope pos) 0 (.ref I) (.ref D) cenv) R s := by
  refine codeAny_loop rfl (fun k s' => ∃ h' tk i, s' = { s with heap := h', toks := tk } ∧ St i h' ∧ J i h' ∧ i ≤ n ∧ k = n + 1 - i) (fun k s' hI => ?_) (n + 1) ⟨s.heap, s.toks, 0, rfl, hst, h0, Nat.zero_le _, rfl⟩
  obtain ⟨h', tk, i, rfl, hst', hJ, hi, rfl⟩ := hI
  show wpAny _ A ((compTurn (.ListComp elt [⟨target, iter, ifs, 0⟩] scope pos) 0 (.ref I) (.ref D) cenv).onRaise (fun x => do noteFrame x cenv; theTreesLotGoes x)) _ _ _
  refine wpAny_noted ?_
  rw [compTurn_list]
  refine wpAny_bind (wpAny_standAt (wpAny_bind ?_))
  by_cases hlt : i < n
  · refine W.item i _ _ _ hlt hst' fun v h₁ tk₁ hP hst₁ hk₁ => ?_
    refine wpAny_bind (go i _ v _ _ hlt hP hst₁ ?_)
    refine wpAny_bind (wpAny_mono (step i v h₁ tk₁ hlt hP (mov i h' h₁ hJ hk₁) hst₁) (fun _ s₂ h₂ => wpAny_bind (wpAny_mono h₂ (fun ok s₃ h₃ => ?_) fun _ _ e => e.elim)) fun _ _ e => e.elim)
    cases ok with
    | false => obtain ⟨h₃', tk₃, rfl, hJ₃, hf⟩ := h₃; exact wpAny_pure ⟨rfl, n + 1 - (i + 1), by omega, h₃', tk₃, i + 1, rfl, W.frame _ _ _ hst₁ hf, hJ₃, hlt, rfl⟩
    | true =>
      refine wpAny_bind (wpAny_bind (wpAny_mono h₃ (fun x s₄ h₄ => wpAny_bind (wpAny_mono h₄ (fun _ s₅ h₅ => ?_) fun _ _ e => e.elim)) fun _ _ e => e.elim))
      obtain ⟨h₃', tk₃, rfl, hJ₃, hf⟩ := h₅
      exact wpAny_pure (wpAny_pure ⟨rfl, n + 1 - (i + 1), by omega, h₃', tk₃, i + 1, rfl, W.frame _ _ _ hst₁ hf, hJ₃, hlt, rfl⟩)
  · have hin : i = n := by omega
    subst hin
    exact W.done _ _ _ hst' fun h₁ tk₁ hk₁ => wpAny_pure (fin h₁ tk₁ (mov i h' h₁ hJ hk₁))
end

section
variable {prog : Program} {w : World} {A : Around} {s : Shared} {elt target iter : Expr} {ifs : List Expr} {scope : Scope} {pos pos' : Pos} {env : Env} {use : Option (Value → Sem Unit)} {Q : Value → Shared → Prop} {cl : List (Str × Addr)}
/-- a list comprehension over a list, without cells of its own -/
theorem comp_list {l : Addr} {items : Array Value} (hh : A.handled = none) (hclos : closureFor scope env = pure cl) (hcell : ∀ y ∈ scope.names, y.2 ≠ .cell) (hkind : scope.kind = .function)
    (hnames : ∀ x ∈ scope.names, x.2 = .local → scope.names.lookup x.1 = some .local)
    (hi : wpAny (model prog w) A (eval iter env) (fun xv s₁ => xv = .ref l ∧ s₁ = s) (fun _ _ => False) s)
    (hl : s.heap.IsList l items) (J : Nat → Heap → Prop)
    (h0 : ∀ h₁, Fr s.heap (s.heap.objs.size + 2) h₁ (fun _ => none) → News s.heap (s.heap.objs.size + 2) h₁ [(s.heap.objs.size + 1, listOf #[] 0)] → J 0 h₁)
    (new : ∀ i h h', J i h → (∀ b o, b ≠ s.heap.objs.size → h.get? b = some o → h'.get? b = some o) → J i h')
    (go : ∀ (i : Nat) (s' : Shared) v (Q' : Unit → Shared → Prop) (E' : Value → Shared → Prop), items[i]? = some v → s'.heap.IsListIter s.heap.objs.size l (i + 1) → Q' () s' → wpAny (model prog w) A (letOwnedTupleGo target (.ref s.heap.objs.size) v) Q' E' s')
    (step : ∀ (i : Nat) v h tk oI, i < items.size → items[i]? = some v → J i h → h.get? s.heap.objs.size = some oI → wpAny (model prog w) A (assign target (compEnvC scope cl (s.heap.objs.size + 2) env) v) (fun _ s₂ =>
        wpAny (model prog w) A (forIn ifs true fun c r => if r = true then do let ok ← isTrue c (compEnvC scope cl (s.heap.objs.size + 2) env) (eval c (compEnvC scope cl (s.heap.objs.size + 2) env)); pure (ForInStep.yield ok) else pure (ForInStep.yield r)) (fun ok s₃ =>
          if ok = true then wpAny (model prog w) A (eval elt (compEnvC scope cl (s.heap.objs.size + 2) env)) (fun x s₄ => wpAny (model prog w) A (call (.builtin "list.append") [.ref (s.heap.objs.size + 1), x]) (fun _ s₅ =>
            ∃ h' tk', s₅ = { s with heap := h', toks := tk' } ∧ J (i + 1) h' ∧ h'.get? s.heap.objs.size = some oI ∧ (∀ o, s.heap.get? l = some o → h'.get? l = some o)) (fun _ _ => False) s₄) (fun _ _ => False) s₃
          else ∃ h' tk', s₃ = { s with heap := h', toks := tk' } ∧ J (i + 1) h' ∧ h'.get? s.heap.objs.size = some oI ∧ (∀ o, s.heap.get? l = some o → h'.get? l = some o)) (fun _ _ => False) s₂) (fun _ _ => False) { s with heap := h, toks := tk })
    (hlk : ∀ i h, J i h → ∀ o, s.heap.get? l = some o → h.get? l = some o)
    (fin : ∀ h tk, J items.size h → compPost (model prog w) A (fun _ _ => False) use Q (.ref (s.heap.objs.size + 1)) (s.heap.objs.size + 2) (.ok .next) { s with heap := h, toks := tk })
    (hs : ∀ x, foldedSetIterable iter env x = pure x := by intro _; rfl) :
    wpAny (model prog w) A (comprehension (.ListComp elt [⟨target, iter, ifs, 0⟩] scope pos) scope env pos' (newList []) false (eval iter env) use) Q (fun _ _ => False) s := by
  have hlt : l < s.heap.objs.size := let ⟨_, ho, _⟩ := hl; Heap.lt_size ho
  refine wpAny_comprehension_free (use := use) rfl hs hclos hkind hnames (wpAny_mono hi (fun xv s₁ h₁ => ?_) fun _ _ e => e)
  obtain ⟨rfl, rfl⟩ := h₁
  refine wpAny_pyIter_list hl ?_
  refine wpAny_newObj_type (wpAny_newFunctionEnv hcell (by intro y hy; simp at hy) (fun h₁ hns₁ hsb₁ => ?_) hkind)
  dsimp only at hns₁ hsb₁ ⊢
  generalize hH1 : s₁.heap.push { cls := .type "list_iterator", data := .fields #[.ref l, .int 0 0] } = H1 at hns₁ hsb₁ ⊢
  have hD : H1.objs.size = s₁.heap.objs.size + 1 := by rw [← hH1, Heap.size_push]
  generalize hH2 : H1.push { cls := .type "list", dict := none, data := .seq ([] : List Value).toArray } = H2 at hns₁ hsb₁ ⊢
  have hC : H2.objs.size = s₁.heap.objs.size + 2 := by rw [← hH2, Heap.size_push, hD]
  rw [hC] at hns₁ hsb₁ ⊢
  rw [hD]
  have up : ∀ b o, b ≠ s₁.heap.objs.size + 2 → H2.get? b = some o → h₁.get? b = some o := fun b o hb e => hsb₁.extBut b o hb (Heap.get?_push_of_some _ e)
  have old : ∀ b o, s₁.heap.get? b = some o → h₁.get? b = some o := fun b o e => up b o (Nat.ne_of_lt (Nat.lt_of_lt_of_le (Heap.lt_size e) (Nat.le_add_right _ 2))) (hH2 ▸ Heap.get?_push_of_some _ (hH1 ▸ Heap.get?_push_of_some _ e))
  have itr : h₁.get? s₁.heap.objs.size = some { cls := .type "list_iterator", data := .fields #[.ref l, .int 0 0] } := up _ _ (by omega) (hH2 ▸ Heap.get?_push_of_some _ (hH1 ▸ Heap.get?_push_size _ rfl))
  have acc : h₁.get? (s₁.heap.objs.size + 1) = some (listOf #[] 0) := up _ _ (by omega) (by rw [← hH2, ← hD]; exact Heap.get?_push_size _ rfl)
  have fresh : ∀ a, s₁.heap.objs.size ≤ a → s₁.heap.get? a = none := fun a ha => Heap.get?_none_of_le ha
  have F0 : Fr s₁.heap (s₁.heap.objs.size + 2) h₁ (fun _ => none) := ⟨hns₁, old, by omega⟩
  have N0 : News s₁.heap (s₁.heap.objs.size + 2) h₁ [(s₁.heap.objs.size + 1, listOf #[] 0)] := fun p hp => by
    rcases List.mem_singleton.mp hp with rfl
    exact ⟨acc, by show s₁.heap.objs.size + 1 ≠ _; omega, fresh _ (by show s₁.heap.objs.size ≤ s₁.heap.objs.size + 1; omega)⟩
  have loop : ∀ s₃ : Shared, s₃ = { s₁ with heap := h₁, toks := s₁.toks + ([] : List (Str × Value)).length } →
      codeAny (model prog w) A (.compLoop (.ListComp elt [⟨target, iter, ifs, 0⟩] scope pos) 0 (.ref s₁.heap.objs.size) (.ref (s₁.heap.objs.size + 1)) (compEnvC scope cl (s₁.heap.objs.size + 2) env))
        (compPost (model prog w) A (fun _ _ => False) use Q (.ref (s₁.heap.objs.size + 1)) (s₁.heap.objs.size + 2)) s₃ := by
    rintro s₃ rfl
    refine comp_raw (Walks.list hh s₁.heap.objs.size l (Nat.ne_of_lt hlt) items) J ⟨⟨_, itr, rfl, rfl⟩, hl.at fun o e => old _ o e⟩ (h0 h₁ F0 N0)
      (fun i h h' hJ hk => new i h h' hJ fun b o hb e => hk b o (by simpa using hb) e)
      (fun i s' v Q' E' _ hv st hq => go i s' v Q' E' hv st.1 hq)
      (fun i v h tk hi hv hJ st => ?_) (fun h tk hJ => fin h tk hJ)
    obtain ⟨⟨oI, hoI, hcI⟩, hL⟩ := st
    have key : ∀ {h' : Heap}, h'.get? s₁.heap.objs.size = some oI → (∀ o, s₁.heap.get? l = some o → h'.get? l = some o) → ∀ b ∈ [s₁.heap.objs.size, l], ∀ o, h.get? b = some o → h'.get? b = some o := fun h1 h2 b hb o e => by
      rcases List.mem_cons.mp hb with rfl | hb
      · rw [hoI] at e; cases e; exact h1
      · rw [List.mem_singleton.mp hb] at e ⊢
        obtain ⟨ol, hol, _⟩ := hl
        have := hlk i h hJ ol hol
        rw [this] at e; cases e
        exact h2 _ hol
    refine wpAny_mono (step i v h tk oI hi hv hJ hoI) (fun _ s₂ h₂ => wpAny_mono h₂ (fun ok s₃ h₃ => ?_) fun _ _ e => e) fun _ _ e => e
    cases ok with
    | false => obtain ⟨h₃', tk₃, rfl, hJ₃, hf, hg⟩ := h₃; exact ⟨h₃', tk₃, rfl, hJ₃, key hf hg⟩
    | true =>
      refine wpAny_mono h₃ (fun x s₄ h₄ => wpAny_mono h₄ (fun _ s₅ h₅ => ?_) fun _ _ e => e) fun _ _ e => e
      obtain ⟨h₃', tk₃, rfl, hJ₃, hf, hg⟩ := h₅; exact ⟨h₃', tk₃, rfl, hJ₃, key hf hg⟩
  exact codeAny_compStart_list (loop _ rfl) (wpAny_pyIter_listiter ⟨_, itr, rfl, rfl⟩ (loop _ rfl))
end

section
variable {M : Model} {A : Around} {E : Value → Shared → Prop} {s : Shared} {h₀ : Heap} {C : Addr} {m : Str → Option Value} {scope : Scope} {cl : List (Str × Addr)} {env : Env} {x : Str} {pos : Pos} {v : Value} {Q : Value → Shared → Prop} {c : Addr} {o : Obj}
theorem nameCompL (F : Fr h₀ C s.heap m) (hv : m x = some v) (h : Q v s) (hk : (compEnvC scope cl C env).scope.kind = .function) (hl : (compEnvC scope cl C env).kindOf x = some .local) (hb : (x == ("__debug__" : Str)) = false) :
    wpAny M A (eval (.Name x pos) (compEnvC scope cl C env)) Q E s := wpAny_Name (wpAny_loadName_local hk hl F.ns hv h) hb
theorem nameCompC (F : Fr h₀ C s.heap m) (hc : cl.lookup x = some c) (ho : h₀.get? c = some o) (hd : o.data = .cell (some v)) (h : Q v s) (hk : (compEnvC scope cl C env).scope.kind = .function) (hl : (compEnvC scope cl C env).kindOf x = some .cell) (hb : (x == ("__debug__" : Str)) = false) :
    wpAny M A (eval (.Name x pos) (compEnvC scope cl C env)) Q E s := wpAny_Name (wpAny_loadName_cell hk hl hc ⟨o, F.keep _ _ ho, hd⟩ h) hb
theorem storeCompL {Q : Unit → Shared → Prop} {news : List (Addr × Obj)} (F : Fr h₀ C s.heap m) (N : News h₀ C s.heap news)
    (h : ∀ h', Fr h₀ C h' (fun y => if y = x then some v else m y) → News h₀ C h' news → Q () { s with heap := h', toks := s.toks + 1 })
    (hk : (compEnvC scope cl C env).scope.kind = .function) (hl : (compEnvC scope cl C env).kindOf x = some .local) :
    wpAny M A (storeName (compEnvC scope cl C env) x v) Q E s :=
  wpAny_storeName_local hl F.ns (fun h' hn hs => h h' (F.set hn hs) (N.set hs)) (by rw [hk]; rfl)
end
end Mine

-- B6
namespace Mine
section
variable {prog : Program} {w : World} {A : Around} {s : Shared} {env : Env} {body : List Stmt} {Q : Flow → Shared → Prop} {x : Str} {px : Pos}
/-- a for loop over a range -/
theorem iter_range {r : Addr} {a b c : Int} {t u v : Tok} {n : Nat} (hh : A.handled = none) (J : Nat → Heap → Prop)
    (hr : IsRange s.heap r a b c t u v) (hsm : Builtin.Range.small a b c = true) (hn : Builtin.Range.rangeSize a b c = (n : Int)) (h0 : J 0 s.heap)
    (new : ∀ i h h', J i h → (∀ b o, b ≠ s.heap.objs.size → h.get? b = some o → h'.get? b = some o) → J i h')
    (step : ∀ (i : Nat) ti h tk oI, i < n → J i h → h.get? s.heap.objs.size = some oI → wpAny (model prog w) A (assign (.Name x px) env (.int (a + i * c) ti)) (fun _ s₂ => wpAny (model prog w) A (execs body env) (fun f s₃ => match f with
        | .next | .cont => ∃ h' tk', s₃ = { s with heap := h', toks := tk' } ∧ J (i + 1) h' ∧ h'.get? s.heap.objs.size = some oI
        | .brk => Q .next s₃
        | .ret v => Q (.ret v) s₃) (fun _ _ => False) s₂) (fun _ _ => False) { s with heap := h, toks := tk })
    (fin : ∀ h tk, J n h → Q .next { s with heap := h, toks := tk }) :
    wpAny (model prog w) A (pyIter (.ref r)) (fun it s₂ => codeAny (model prog w) A (.forLoop (.Name x px) it body [] env) (fun r s' => match r with | .ok f => Q f s' | .error e => cameBackBy (model prog w) A env (fun _ _ => False) e s') s₂) (fun _ _ => False) s := by
  refine wpAny_pyIter_range hr hsm ?_
  have keep : ∀ b' o, s.heap.get? b' = some o → (s.heap.push { cls := .type "range_iterator", data := .fields #[rawInt a, rawInt (Builtin.Range.rangeSize a b c), rawInt c] }).get? b' = some o := fun b' o e => Heap.get?_push_of_some _ e
  have st0 : IsRangeIter (s.heap.push { cls := .type "range_iterator", data := .fields #[rawInt a, rawInt (Builtin.Range.rangeSize a b c), rawInt c] }) s.heap.objs.size (a + ((0 : Nat) : Int) * c) ((n : Int) - ((0 : Nat) : Int)) c := by
    have e1 : a + ((0 : Nat) : Int) * c = a := by simp
    have e2 : (n : Int) - ((0 : Nat) : Int) = Builtin.Range.rangeSize a b c := by rw [hn]; simp
    rw [e1, e2]
    exact Heap.get?_push_size _ rfl
  refine for_raw (s := { s with heap := s.heap.push { cls := .type "range_iterator", data := .fields #[rawInt a, rawInt (Builtin.Range.rangeSize a b c), rawInt c] } }) (Walks.range hh s.heap.objs.size a c n) J
    st0 (new 0 _ _ h0 fun b o _ e => keep b o e)
    (fun i h h' hJ hk => new i h h' hJ fun b o hb e => hk b o (by simpa using hb) e)
    (fun i s' v Q' E' _ _ _ hq => wpAny_pure hq)
    (fun i v h tk hi hv hJ st => ?_) (fun h tk hJ => fin h tk hJ)
  obtain ⟨ti, rfl⟩ := hv
  refine wpAny_mono (step i ti h tk _ hi hJ st) (fun _ s₂ h₂ => wpAny_mono h₂ (fun f s₃ h₃ => ?_) fun _ _ e => e) fun _ _ e => e
  have key : ∀ {h' : Heap} {oI : Obj}, h.get? s.heap.objs.size = some oI → h'.get? s.heap.objs.size = some oI → ∀ b ∈ [s.heap.objs.size], ∀ o, h.get? b = some o → h'.get? b = some o := fun h1 h2 b hb o e => by
    rw [List.mem_singleton.mp hb] at e ⊢; rw [h1] at e; cases e; exact h2
  cases f with
  | next => obtain ⟨h₃', tk₃, rfl, hJ₃, hf⟩ := h₃; exact ⟨h₃', tk₃, rfl, hJ₃, key st hf⟩
  | cont => obtain ⟨h₃', tk₃, rfl, hJ₃, hf⟩ := h₃; exact ⟨h₃', tk₃, rfl, hJ₃, key st hf⟩
  | brk => exact h₃
  | ret v => exact h₃
end
end Mine
namespace Mine
section
variable {M : Model} {A : Around} {E : Value → Shared → Prop} {s : Shared} {env : Env}
theorem assign_comp {elt target iter : Expr} {ifs : List Expr} {scope : Scope} {pos spos py : Pos} {y : Str} {Q : Flow → Shared → Prop}
    (hsw : swapsWith (.ListComp elt [⟨target, iter, ifs, 0⟩] scope pos) (some (.Name y py)) spos.line env = pure true)
    (h : ∀ pos', wpAny M A (comprehension (.ListComp elt [⟨target, iter, ifs, 0⟩] scope pos) scope env pos' (newList []) false (eval iter env) (some (assign (.Name y py) env))) (fun _ s' => Q .next s') E s) :
    wpAny M A (exec (.Assign [.Name y py] (.ListComp elt [⟨target, iter, ifs, 0⟩] scope pos) spos) env) Q E s := by
  rw [exec_Assign_Name_used _ _ _ _ hsw]
  refine wpAny_bind (wpAny_standAt (wpAny_bind ?_))
  show wpAny _ A (do let _ ← comprehension (.ListComp elt [⟨target, iter, ifs, 0⟩] scope pos) scope env _ (newList []) false (eval iter env) (some (assign (.Name y py) env))) _ _ s
  exact wpAny_bind (wpAny_mono (h _) (fun _ s' hq => wpAny_pure (wpAny_pure hq)) fun _ _ e => e)
end
theorem news_add {g h : Heap} {L a : Addr} {o : Obj} {news : List (Addr × Obj)} (N : News g L h news) (e : h.get? a = some o) (hL : a ≠ L) (hg : g.get? a = none) : News g L h ((a, o) :: news) := fun p hp => by
  rcases List.mem_cons.mp hp with rfl | hp
  · exact ⟨e, hL, hg⟩
  · exact N p hp
theorem fr_ne {g h h' : Heap} {L I : Addr} {m : Str → Option Value} (F : Fr g L h m) (hI : L ≠ I) (hg : g.get? I = none) (k : ∀ b o, b ≠ I → h.get? b = some o → h'.get? b = some o) : Fr g L h' m :=
  ⟨F.ns.at' fun o e => k _ o hI e, fun b o e => k b o (fun q => by rw [q, hg] at e; cases e) (F.keep b o e), F.above⟩
theorem nameLocC {M : Model} {A : Around} {E : Value → Shared → Prop} {s : Shared} {h₀ : Heap} {L a : Addr} {m : Str → Option Value} {name : Str} {scope : Scope} {cd : Value} {x : Str} {pos : Pos} {v : Value} {Q : Value → Shared → Prop}
    (F : Fr h₀ L s.heap m) (hv : m x = some v) (h : Q v s) (hk : scope.kind = .function) (hl : (envOfC name scope L a cd).kindOf x = some .local) (hb : (x == ("__debug__" : Str)) = false) :
    wpAny M A (eval (.Name x pos) (envOfC name scope L a cd)) Q E s := wpAny_Name (wpAny_loadName_local hk hl F.ns hv h) hb
theorem readsAll_bools (h : Heap) : ∀ bs : List Bool, ReadsAll h (bs.map Value.bool) (bs.map PyData.bool) []
  | [] => .nil
  | b :: r => .cons (as := []) (.bool b) (readsAll_bools h r)
theorem canLay_bools : ∀ bs : List Bool, PyData.canLayAll0 (bs.map PyData.bool) = true
  | [] => rfl
  | b :: r => by simp [PyData.canLayAll0, canLay_bools r, PyData.canLay0]
theorem depth_bools : ∀ bs : List Bool, PyData.depthAll (bs.map PyData.bool) = 0
  | [] => rfl
  | b :: r => by simp [PyData.depthAll, depth_bools r, PyData.depth]
theorem ne_nilB {prog : Program} {w : World} {A : Around} {E : Value → Shared → Prop} {s : Shared} {a b : Addr} {bs : List Bool} {n n' : Nat} {Q : Value → Shared → Prop}
    (ha : s.heap.get? a = some (listOf (bs.map Value.bool).toArray n)) (hb : s.heap.get? b = some (listOf #[] n')) (hu : A.units + 1 < cLine) (h : Q (.bool (!bs.isEmpty)) s) :
    wpAny (model prog w) A (compareOp .NotEq (.ref a) (.ref b)) Q E s := by
  refine SeqAt.compareNe_reads (.list ha rfl rfl (by rw [List.toList_toArray]; exact readsAll_bools _ bs)) (.list hb rfl rfl .nil) (by simp [PyData.canLay0, canLay_bools]) (by simp [PyData.canLay0, PyData.canLayAll0]) ?_ ?_
  · have : PyData.depth (.list []) = 1 := rfl
    rw [this]
    exact Nat.lt_of_le_of_lt (Nat.add_le_add_left (Nat.min_le_right _ _) _) hu
  · cases bs with
    | nil => exact h
    | cons b r => exact h
theorem any_bools : ∀ bs : List Bool, ((bs.map PyData.bool).any fun y => PyData.eqv y (.bool true)) = bs.contains true
  | [] => rfl
  | b :: r => by rw [List.map_cons, List.any_cons, List.contains_cons, any_bools r]; cases b <;> rfl
theorem in_bools {prog : Program} {w : World} {A : Around} {E : Value → Shared → Prop} {s : Shared} {a : Addr} {bs : List Bool} {n : Nat} {Q : Value → Shared → Prop}
    (ha : s.heap.get? a = some (listOf (bs.map Value.bool).toArray n)) (hu : A.units + 2 < cLine) (h : Q (.bool (bs.contains true)) s) :
    wpAny (model prog w) A (compareOp .In (.bool true) (.ref a)) Q E s := by
  refine SeqAt.in_list_reads (.list ha rfl rfl (by rw [List.toList_toArray]; exact readsAll_bools _ bs)) (.bool true) (canLay_bools bs) rfl ?_ ?_
  · rw [depth_bools, Nat.zero_min]; omega
  · have e : ((bs.map PyData.bool).any fun y => PyData.eqv y (.bool true)) = bs.contains true := any_bools bs
    rw [e]; exact h
end Mine

-- M6
namespace Mine
local macro_rules | `(tactic| walk_at "enterC") => `(tactic| (
  (case k6 => k_is); (case k7 => k_is); (case k8 => (simp only [recursionLimit]; omega));
  (case k9 => (refine' kp_binds ?kx ?ke; (case kx => assumption); (case ke => exact fun _ => rfl)));
  (case kB => exact rfl); (case kD => decide +kernel); (case c2 => exact rfl); (case c3 => exact rfl); (case c4 => exact rfl)))
local macro_rules | `(tactic| walk_at "go") => `(tactic| repeat' (
  (fail_if_success (with_reducible show wpAny _ _ (exec (Stmt.While _ _ _ _) _) _ _ _));
  (fail_if_success (with_reducible show wpAny _ _ (exec (Stmt.For _ _ _ _ _) _) _ _ _));
  (fail_if_success (with_reducible show wpAny _ _ (exec (Stmt.Assign _ (Expr.ListComp _ _ _ _) _) _) _ _ _));
  (fail_if_success (with_reducible show wpAny _ _ (call (Value.ref _) _ _) _ _ _));
  (fail_if_success (with_reducible show wpAny _ _ (pyIter _) _ _ _));
  (fail_if_success (with_reducible show Exists _));
  (first | walk1 | (dsimp only; walk1)); (try dsimp only)))
local macro_rules | `(tactic| walk_at "eval Name") => `(tactic| ((with_reducible show wpAny _ _ (eval (Expr.Name _ _) (envOf _ _ _ _ _)) _ _ _); refine ld (by assumption) (by with_unfolding_all assumption) ?_ (by kernel_rfl!) (by kernel_rfl!) (by decide +kernel)))

local macro_rules | `(tactic| walk_at "eval Name") => `(tactic| ((with_reducible show wpAny _ _ (eval (Expr.Name _ _) (compEnvC _ _ _ _)) _ _ _); first
  | refine nameCompL (by assumption) (by with_unfolding_all rfl) ?_ rfl rfl (by decide)
  | refine nameCompC (by assumption) rfl (by assumption) (by assumption) ?_ rfl rfl (by decide)))
local macro_rules | `(tactic| walk_at "storeName") => `(tactic| ((with_reducible show wpAny _ _ (storeName (compEnvC _ _ _ _) _ _) _ _ _); refine storeCompL (by assumption) (by assumption) ?_ rfl rfl; intro _ _ _))
local macro_rules | `(tactic| walk_at "eval Name") => `(tactic| ((with_reducible show wpAny _ _ (eval (Expr.Name _ _) (envOfC _ _ _ _ _)) _ _ _); refine nameLocC (by assumption) (by with_unfolding_all assumption) ?_ rfl rfl (by decide)))
def toldOf (rs : List (Str × Bool)) (p : Str) : List Bool := (rs.filter fun q => q.1 == p).map (·.2)
/-- what `_law_says` gives from the front of length k on -/
def saysFrom (rs : List (Str × Bool)) (post : Str) : Nat → Bool
  | 0 => if toldOf rs (Txt.slice post none (some ((0 : Nat) : Int))) ≠ [] then (toldOf rs (Txt.slice post none (some ((0 : Nat) : Int)))).contains true else true
  | k + 1 => if toldOf rs (Txt.slice post none (some ((k + 1 : Nat) : Int))) ≠ [] then (toldOf rs (Txt.slice post none (some ((k + 1 : Nat) : Int)))).contains true else saysFrom rs post k
theorem saysFrom_zero (rs : List (Str × Bool)) (post : Str) : saysFrom rs post 0 = if toldOf rs (Txt.slice post none (some ((0 : Nat) : Int))) ≠ [] then (toldOf rs (Txt.slice post none (some ((0 : Nat) : Int)))).contains true else true := rfl
theorem saysFrom_succ (rs : List (Str × Bool)) (post : Str) (k : Nat) : saysFrom rs post (k + 1) = if toldOf rs (Txt.slice post none (some ((k + 1 : Nat) : Int))) ≠ [] then (toldOf rs (Txt.slice post none (some ((k + 1 : Nat) : Int)))).contains true else saysFrom rs post k := rfl
def says (rs : List (Str × Bool)) (post : Str) : Bool := saysFrom rs post post.length

set_option maxHeartbeats 4000000 in
theorem says_spec {w : World} {A : Around} {s : Shared} {loose mean mg mb} {r : Addr} {vs : List Value} {rs : List (Str × Bool)} {p : Str} {tp : Tok} {R : Result → Shared → Prop}
    (X : (hd.heap_39 w.params).In s.heap) (T : Top topProg loose mean mg mb s.heap) (hA : A.depth < 700) (hh : A.handled = none) (hU : A.units < 9000)
    (hL : s.heap.IsList r vs.toArray) (hP : PairsAt s.heap vs rs) (hn : rs.length < 50) (h4 : ∀ q ∈ rs, q.1.length ≤ 4) (hp4 : p.length ≤ 4)
    (hR : ∀ h' tk, (∀ b o, s.heap.get? b = some o → h'.get? b = some o) → R (.ok (.ret (.bool (says rs p)))) { s with heap := h', toks := tk }) :
    codeAny (model PySem.Challenge.rw_ny0145_01.row.prog w) A (.call (.ref 95) ⟨[.str p tp, .ref r], []⟩) R s := by
  obtain ⟨hd0, dp, fr, gd, un⟩ := A
  dsimp only at hh hA hU
  subst hh
  revert X; k_fill; intro X
  refine' enterC (g := s.heap) [(Str.ofString "post", .str p tp), (Str.ofString "rules", .ref r)] X T.nolimit (fun b o e => e) (Nat.le_refl _) ?k6 ?k7 ?k8 ?k9 ?kB ?kD ?_ ?c2 ?c3 ?c4
  walk_at "enterC"
  intro h₁ tk cells F N Y hall
  obtain ⟨o1, o2, rfl, d1, d2⟩ := Y.two
  replace d1 : o1.data = .cell none := d1
  replace d2 : o2.data = .cell (some (.str p tp)) := d2
  clear Y
  walk_at "go"
  refine wpAny_For ?_
  walk_at "go"
  rename IsRange _ _ _ _ _ _ _ _ => hrg; rename Fr _ _ _ _ => F; rename News _ _ _ _ => N
  rename_i hc _ _ _ _ _
  have hLc : s.heap.objs.size + 1 + 1 < hc.objs.size := Heap.lt_size (N _ (.head _)).1
  have F0 := F
  have N0 := N
  refine iter_range (n := p.length + 1) rfl (fun i h => ∃ m oS vo, Fr s.heap s.heap.objs.size h m ∧ News s.heap s.heap.objs.size h [(s.heap.objs.size + 1 + 1, oS), (s.heap.objs.size + 1, o2)] ∧ m (Str.ofString "rules") = some (.ref r) ∧ oS.data = .cell vo ∧
    says rs p = if i ≤ p.length then saysFrom rs p (p.length - i) else true) hrg ?sm ?sz ?h0 ?new ?step ?fin
  case sm =>
    unfold Builtin.Range.small Builtin.Range.rangeSize
    simp only [Builtin.Range.rangeFitsLong, Bool.and_eq_true, Bool.or_eq_true, decide_eq_true_eq, beq_iff_eq, show ¬ ((-1 : Int) > 0) by decide, if_false, Int.neg_neg, Int.ediv_one]
    split <;> omega
  case sz => unfold Builtin.Range.rangeSize; simp; omega
  case h0 => exact ⟨_, o1, _, F, N, rfl, d1, by rw [if_pos (Nat.zero_le _)]; rfl⟩
  case new =>
    rintro i h h' ⟨m, oS, vo, F, N, r1, r2, r3⟩ hk
    refine ⟨m, oS, vo, fr_mov F (show s.heap.objs.size < hc.objs.size by omega) hk, news_mov N (fun q hq => ?_) hk, r1, r2, r3⟩
    rcases List.mem_cons.mp hq with rfl | hq
    · exact Nat.ne_of_lt hLc
    · rw [List.mem_singleton.mp hq]; exact Nat.ne_of_lt (show s.heap.objs.size + 1 < hc.objs.size by omega)
  case fin =>
    rintro h tk ⟨m, oS, vo, F, N, r1, r2, r3⟩
    walk_at "go"
    rw [if_neg (by omega)] at r3
    have := hR h tk F.keep
    rw [r3] at this
    exact this
  case step =>
    rintro i ti h tk oI hi ⟨m, oS, vo, F, N, r1, r2, r3⟩ hoI
    have N2 := news_cons F N hoI (show s.heap.objs.size < hc.objs.size by omega)
    clear F0 N0 N
    dsimp only at N2 hoI
    walk_at "go"
    rename Fr _ _ _ _ => F1; rename News _ _ _ _ => N1; rename Obj.data _ = Data.cell (some (Value.int _ ti)) => dS
    rename_i hC oZ
    obtain ⟨k, rfl⟩ : ∃ k, k = p.length - i := ⟨_, rfl⟩
    have esz : (p.length : Int) + (i : Int) * -1 = ((p.length - i : Nat) : Int) := by omega
    rw [esz] at dS
    have hcz := (N1 _ (.tail _ (.head _))).1
    have hcp := (N1 _ (.tail _ (.tail _ (.head _)))).1
    dsimp only at hcz hcp
    have hLC : hc.objs.size < hC.objs.size := Heap.lt_size (N1 _ (.head _)).1
    refine assign_comp rfl fun pos' => ?_
    refine comp_list (l := r) (items := vs.toArray) (use := some _) rfl rfl (by decide) rfl (by decide) ?hi (hL.at fun o e => F1.keep _ o e)
      (fun j hx => ∃ m nn, Fr hC (hC.objs.size + 2) hx m ∧ News hC (hC.objs.size + 2) hx [(hC.objs.size + 1, listOf ((toldOf (rs.take j) (Txt.slice p none (some ((p.length - i : Nat) : Int)))).map Value.bool).toArray nn)]) ?h0 ?new ?go ?step ?lk ?fin
    case hi => walk_at "go"
    case h0 => exact fun h₁ F N => ⟨_, 0, F, N⟩
    case new =>
      rintro j hx hy ⟨m, nn, F, N⟩ hk
      have hno : hC.get? hC.objs.size = none := Heap.get?_none_of_le (Nat.le_refl _)
      exact ⟨m, nn, fr_ne F (show hC.objs.size + 2 ≠ hC.objs.size by omega) hno hk, news_mov N (fun q hq => by rw [List.mem_singleton.mp hq]; show hC.objs.size + 1 ≠ hC.objs.size; omega) hk⟩
    case go =>
      intro i s' v Q' E' hv hit hq
      obtain ⟨q, b, tp, _, rfl, _⟩ := hP.get (by simpa using hv)
      exact wpAny_letOwnedTupleGo_listiter hit hq
    case lk => rintro j hx ⟨m, nn, F, N⟩ o e; exact F.keep _ _ e
    case step =>
      rintro j v hx tkx oJ hj hv ⟨m, nn, F, N⟩ hoJ
      obtain ⟨q, b, tpq, hq, rfl, hT⟩ := hP.get (by simpa using hv)
      have hT' : IsTup hC b #[.str q.1 tpq, .bool q.2] := let ⟨o, ho, rr⟩ := hT; ⟨o, F1.keep _ _ ho, rr⟩
      have hq4 := h4 q (List.mem_of_getElem? hq)
      dsimp only at hoJ
      have N2 := news_add N hoJ (show hC.objs.size ≠ hC.objs.size + 2 by omega) (Heap.get?_none_of_le (Nat.le_refl _))
      have hlen : (toldOf (rs.take j) (Txt.slice p none (some ((p.length - i : Nat) : Int)))).length ≤ 50 := by
        unfold toldOf; rw [List.length_map]
        exact Nat.le_trans (List.length_filter_le _ _) (by rw [List.length_take]; omega)
      have etk : rs.take (j + 1) = rs.take j ++ [q] := by rw [List.take_add_one, hq]; rfl
      clear F1 N1 N
      walk_at "go"
      · rename (q.1 == _) = true => hb
        rename Fr hC _ _ _ => F5; rename News hC _ _ _ => N5
        refine ⟨_, _, rfl, ⟨_, nn + 1, F5, ?_⟩, (N5 _ (.head _)).1, fun o e => F5.keep _ _ e⟩
        have := News.right (a := [(hC.objs.size, oJ)]) N5
        rw [List.push_toArray] at this
        have e3 : (toldOf (rs.take (j + 1)) (Txt.slice p none (some ((p.length - i : Nat) : Int)))).map Value.bool = (toldOf (rs.take j) (Txt.slice p none (some ((p.length - i : Nat) : Int)))).map Value.bool ++ [Value.bool q.2] := by
          rw [etk]; unfold toldOf; rw [List.filter_append]; simp [hb]
        rw [e3]
        exact this
      · rename (q.1 == _) = false => hb
        rename Fr hC _ _ _ => F5; rename News hC _ _ _ => N5
        refine ⟨_, _, rfl, ⟨_, nn, F5, ?_⟩, (N5 _ (.head _)).1, fun o e => F5.keep _ _ e⟩
        have := News.right (a := [(hC.objs.size, oJ)]) N5
        have e3 : toldOf (rs.take (j + 1)) (Txt.slice p none (some ((p.length - i : Nat) : Int))) = toldOf (rs.take j) (Txt.slice p none (some ((p.length - i : Nat) : Int))) := by
          rw [etk]; unfold toldOf; rw [List.filter_append]; simp [hb]
        rw [e3]
        exact this
    case fin =>
      rintro hx tkx ⟨m9, nn, F9, N9⟩
      rw [show vs.toArray.size = rs.length by simp [hP.length], List.take_length] at N9
      have F2 := Fr.keeps F1 F9.keep
      have hLh : s.heap.objs.size < hC.objs.size := F1.ns.lt
      have N2 := news_cons F2 (News.keeps N1 F9.keep) (N9 _ (.head _)).1 (show s.heap.objs.size < hC.objs.size + 1 by omega)
      obtain ⟨oC, esC, epC, hoC, hrC⟩ := F9.ns
      have N3 := news_cons F2 N2 hoC (show s.heap.objs.size < hC.objs.size + 2 by omega)
      show wpAny _ _ (assign (.Name (Str.ofString "told") _) _ (.ref (hC.objs.size + 1))) (fun _ s'' => ∃ m, s''.heap.Ns (hC.objs.size + 2) m ∧ ∀ h', Heap.SameBut (hC.objs.size + 2) s''.heap h' → _) _ _
      refine wpAny_assign_Name (stLocN F2 N3 fun h4 F4 N4 => ?_)
      refine ⟨m9, ⟨oC, esC, epC, (N4 _ (.head _)).1, hrC⟩, fun h5 hs5 => ?_⟩
      have F5 := fr_ne F4 (show s.heap.objs.size ≠ hC.objs.size + 2 by omega) (Heap.get?_none_of_le (show s.heap.objs.size ≤ hC.objs.size + 2 by omega)) (fun b o hb e => hs5.extBut b o hb e)
      have N5 := news_mov (I := hC.objs.size + 2) (News.right (a := [(hC.objs.size + 2, oC)]) N4) (fun q hq => ?ne) (fun b o hb e => hs5.extBut b o hb e)
      case ne =>
        rcases List.mem_cons.mp hq with rfl | hq
        · show hC.objs.size + 1 ≠ hC.objs.size + 2; omega
        · rcases List.mem_cons.mp hq with rfl | hq
          · show hc.objs.size ≠ hC.objs.size + 2; omega
          · rcases List.mem_cons.mp hq with rfl | hq
            · show s.heap.objs.size + 1 + 1 ≠ hC.objs.size + 2; omega
            · rw [List.mem_singleton.mp hq]; show s.heap.objs.size + 1 ≠ hC.objs.size + 2; omega
      clear F1 N1 F2 N2 N3 F4 N4 N9 F9
      dsimp only
      walk_at "go"
      rename Fr _ _ _ _ => F7; rename News _ _ _ _ => N7
      refine ne_nilB (N7 _ (.tail _ (.head _))).1 (N7 _ (.head _)).1 (show un + 3 + 1 < 9900 by omega) ?_
      have hsay : says rs p = saysFrom rs p (p.length - i) := by rw [r3, if_pos (by omega)]
      generalize hbs : toldOf rs (Txt.slice p none (some ((p.length - i : Nat) : Int))) = bs at *
      walk_at "go"
      · rename bs.isEmpty = true => hb
        have hbn : bs = [] := by cases bs with | nil => rfl | cons => cases hb
        refine ⟨_, _, rfl, ⟨_, oZ, _, F7, fun q hq => N7 q (.tail _ (.tail _ (.tail _ hq))), r1, dS, ?_⟩, (N7 _ (.tail _ (.tail _ (.head _)))).1⟩
        rw [hsay]
        cases hk : p.length - i with
        | zero => rw [hk] at hbs; rw [saysFrom_zero, hbs, if_neg (by simp [hbn]), if_neg (by omega)]
        | succ k => rw [hk] at hbs; rw [saysFrom_succ, hbs, if_neg (by simp [hbn]), if_pos (by omega), show p.length - (i + 1) = k by omega]
      · rename bs.isEmpty = false => hb
        refine in_bools (N7 _ (.tail _ (.head _))).1 (show un + 3 + 2 < 9900 by omega) ?_
        walk_at "go"
        have e : says rs p = bs.contains true := by
          rw [hsay]
          cases hk : p.length - i with
          | zero => rw [hk] at hbs; rw [saysFrom_zero, hbs, if_pos (by intro q; rw [q] at hb; cases hb)]
          | succ k => rw [hk] at hbs; rw [saysFrom_succ, hbs, if_pos (by intro q; rw [q] at hb; cases hb)]
        rw [← e]
        exact hR _ _ F7.keep
end Mine

-- B7
namespace Mine
/-- the code object of a lambda is told by one object of the ledger, or by the base -/
def Cd (h₀ : Heap) (cA : Addr) (oc : Obj) (c' : Addr) (q : Str) : Prop := ∀ h'' : Heap, (∀ b o, h₀.get? b = some o → h''.get? b = some o) → h''.get? cA = some oc → h''.CodeRec (.ref c') q
theorem lam_make2 {M : Model} {A : Around} {E : Value → Shared → Prop} {s : Shared} {h₀ : Heap} {L a c P : Addr} {m mg mb : Str → Option Value} {cn : Str} {cs : Scope} {ccd : Value} {cl : List (Str × Addr)} {news : List (Addr × Obj)}
    {p : Program} {loose : List Str} {mean : ExcName → Option Value} {name qual : Str} {params : Arguments} {body : Expr} {scope : Scope} {ps : Array Value} {pos : Pos} {firstLine : Nat} {clos : List (Str × Addr)} {Q : Value → Shared → Prop}
    (F : Fr h₀ L s.heap m) (N : News h₀ L s.heap ((P, tabObj ps) :: news)) (T : Top p loose mean mg mb h₀) (C : CodeHd h₀ c P) (hcd : ccd = .ref c) (hP : ∀ q ∈ news, q.1 ≠ P)
    {cA : Addr} {oc : Obj} (hm : (cA, oc) ∈ news)
    (hps : (TriplesOk ps.toList ∧ codeAmong pos ps.toList = none) ∨ ∃ c', TriplesOk ps.toList ∧ codeAmong pos ps.toList = some (.ref c') ∧ Cd h₀ cA oc c' qual)
    (hcl : closureFor scope (envX cn cs L a ccd cl) = pure clos)
    (h : ∀ f c' ctv h' tk cB ob ps', Fr h₀ L h' m → News h₀ L h' ((f, kla_obj name qual params body scope clos ((mg "__name__").getD .none) c' ctv) :: (P, tabObj ps') :: (cB, ob) :: news) →
      ((ps' = ps ∧ codeAmong pos ps.toList = some (.ref c')) ∨ (codeAmong pos ps.toList = none ∧ ps' = ps ++ #[rawInt pos.line, rawInt pos.col, .ref c'] ∧ cB = c' ∧ ∀ q ∈ news, q.1 < c')) →
      Cd h₀ cB ob c' qual → (cB = cA ∨ ∀ q ∈ news, q.1 < cB) → cB < f → (∀ q ∈ news, q.1 < f) → P < f → Q (.ref f) { s with heap := h', toks := tk }) :
    wpAny M A (makeFunction name qual params (.expr body) scope (envX cn cs L a ccd cl) [] [] [] pos firstLine) Q E s := by
  rcases hps with ⟨ht, hnf⟩ | ⟨c', ht, hf, hr⟩
  · refine kla_nest F N T C hcd (UpdF.head hP) ht hnf hcl fun f c' oc vs t ctv h' tk F' N' e1 e2 l1 l2 => ?_
    refine h f c' ctv h' tk c' oc _ F' (fun q hq => N' q ?_) (.inr ⟨hnf, rfl, rfl, fun q hq => l1 q (.tail _ hq)⟩) (fun h'' _ k2 => ⟨c', oc, vs, t, rfl, k2, e1, e2⟩) (.inr fun q hq => l1 q (.tail _ hq)) l2 (fun q hq => Nat.lt_trans (l1 q (.tail _ hq)) l2) (Nat.lt_trans (l1 _ (.head _)) l2)
    rcases List.mem_cons.mp hq with rfl | hq
    · exact .head _
    · rcases List.mem_cons.mp hq with rfl | hq
      · exact .tail _ (.tail _ (.head _))
      · rcases List.mem_cons.mp hq with rfl | hq
        · exact .tail _ (.head _)
        · exact .tail _ (.tail _ (.tail _ hq))
  · refine kla_hit F N T C hcd (.head _) ht hf hcl fun f ctv h' tk F' N' l1 => ?_
    refine h f c' ctv h' tk cA oc ps F' (fun q hq => N' q ?_) (.inl ⟨rfl, hf⟩) hr (.inl rfl) (l1 _ (.tail _ hm)) (fun q hq => l1 q (.tail _ hq)) (l1 _ (.head _))
    rcases List.mem_cons.mp hq with rfl | hq
    · exact .head _
    · rcases List.mem_cons.mp hq with rfl | hq
      · exact .tail _ (.head _)
      · rcases List.mem_cons.mp hq with rfl | hq
        · exact .tail _ (.tail _ hm)
        · exact .tail _ (.tail _ hq)
end Mine

-- M7
namespace Mine
local macro_rules | `(tactic| walk_at "enterC") => `(tactic| (
  (case k6 => k_is); (case k7 => k_is); (case k8 => (simp only [recursionLimit]; omega));
  (case k9 => (refine' kp_binds ?kx ?ke; (case kx => assumption); (case ke => exact fun _ => rfl)));
  (case kB => exact rfl); (case kD => decide +kernel); (case c2 => exact rfl); (case c3 => exact rfl); (case c4 => exact rfl)))
local macro_rules | `(tactic| walk_at "go") => `(tactic| repeat' (
  (fail_if_success (with_reducible show wpAny _ _ (exec (Stmt.While _ _ _ _) _) _ _ _));
  (fail_if_success (with_reducible show wpAny _ _ (exec (Stmt.For _ _ _ _ _) _) _ _ _));
  (fail_if_success (with_reducible show wpAny _ _ (exec (Stmt.Assign _ (Expr.ListComp _ _ _ _) _) _) _ _ _));
  (fail_if_success (with_reducible show wpAny _ _ (call (Value.ref _) _ _) _ _ _));
  (fail_if_success (with_reducible show wpAny _ _ (eval (Expr.Lambda _ _ _ _) _) _ _ _));
  (fail_if_success (with_reducible show wpAny _ _ (pyIter _) _ _ _));
  (fail_if_success (with_reducible show wpAny _ _ (setItem _ _ _) _ _ _));
  (fail_if_success (with_reducible show Exists _));
  (first | walk1 | (dsimp only; walk1)); (try dsimp only)))
local macro_rules | `(tactic| walk_at "eval Name") => `(tactic| ((with_reducible show wpAny _ _ (eval (Expr.Name _ _) (envOf _ _ _ _ _)) _ _ _); refine ld (by assumption) (by with_unfolding_all assumption) ?_ (by kernel_rfl!) (by kernel_rfl!) (by decide +kernel)))
local macro_rules | `(tactic| walk_at "eval Name") => `(tactic| ((with_reducible show wpAny _ _ (eval (Expr.Name _ _) (envX _ _ _ _ _ _)) _ _ _); refine nameFree (by assumption) rfl (by assumption) (by assumption) ?_ rfl rfl (by decide) (by decide)))
local macro_rules | `(tactic| walk_at "eval Name") => `(tactic| ((with_reducible show wpAny _ _ (eval (Expr.Name _ _) (envOfC _ _ _ _ _)) _ _ _); refine nameLocC (by assumption) (by with_unfolding_all assumption) ?_ rfl rfl (by decide)))

/-- the lengths that the search for a path's own length looks at -/
def looksL (ns : List Int) (p : Str) : List Int := looks (fun v => decide (v < (p.length : Int))) ns ns.length 0 ns.length
def putOne (rs : List (Str × Bool)) (p : Str) (kvs : List (Str × Value)) (v : Int) : List (Str × Value) :=
  if v ≤ (p.length : Int) then stored kvs (Txt.slice p none (some v)) (.bool (says rs (Txt.slice p none (some v)))) else kvs
def putAll (rs : List (Str × Bool)) (p : Str) (kvs : List (Str × Value)) (vs : List Int) : List (Str × Value) := vs.foldl (putOne rs p) kvs
def postsOf (ns : List Int) (rs : List (Str × Bool)) : List (Str × Bool) → List (Str × Value) := fun l => l.foldl (fun kvs q => putAll rs q.1 kvs (looksL ns q.1)) []
theorem looks_length (p : Int → Bool) (xs : List Int) : ∀ f lo hi, (looks p xs f lo hi).length ≤ f
  | 0, _, _ => Nat.le_refl _
  | f + 1, lo, hi => by
    rw [looks]
    split
    · rw [List.length_cons]
      split
      · exact Nat.succ_le_succ (looks_length p xs f _ _)
      · exact Nat.succ_le_succ (looks_length p xs f _ _)
    · exact Nat.zero_le _
theorem stored_length (kvs : List (Str × Value)) (k : Str) (v : Value) : (stored kvs k v).length ≤ kvs.length + 1 := by
  unfold stored
  split
  · rw [List.length_map]; omega
  · rw [List.length_append]; exact Nat.le_refl _
theorem putOne_length (rs : List (Str × Bool)) (p : Str) (kvs : List (Str × Value)) (v : Int) : (putOne rs p kvs v).length ≤ kvs.length + 1 := by
  unfold putOne
  split
  · exact stored_length _ _ _
  · omega
theorem putAll_length (rs : List (Str × Bool)) (p : Str) : ∀ (vs : List Int) (kvs : List (Str × Value)), (putAll rs p kvs vs).length ≤ kvs.length + vs.length
  | [], _ => Nat.le_refl _
  | v :: vs, kvs => by
    have h1 := putAll_length rs p vs (putOne rs p kvs v)
    have h2 := putOne_length rs p kvs v
    show (putAll rs p (putOne rs p kvs v) vs).length ≤ kvs.length + (v :: vs).length
    rw [List.length_cons]; omega

theorem intsAre_get : ∀ {vs : List Value} {ns : List Int}, IntsAre vs ns → ∀ {i : Nat} {v : Value}, vs[i]? = some v → ∃ z t, v = .int z t ∧ ns[i]? = some z
  | _, _, .nil, i, v, e => by simp at e
  | _, _, .cons n t h, 0, v, e => by simp at e; exact ⟨n, t, e.symm, rfl⟩
  | _, _, .cons n t h, i + 1, v, e => by simp at e; simpa using intsAre_get h e
/-- a table during a call: empty, or with the code of the one lambda, which the base or the heap above I holds -/
def TabS (base h : Heap) (I : Addr) (l c : Nat) (q : Str) (ps : Array Value) : Prop := ps = #[] ∨ ∃ c', ps = #[rawInt l, rawInt c, .ref c'] ∧ (base.CodeRec (.ref c') q ∨ (h.CodeRec (.ref c') q ∧ I < c'))
theorem TabS.mov {base h h' : Heap} {I : Addr} {l c : Nat} {q : Str} {ps : Array Value} (ht : TabS base h I l c q ps) (k : ∀ b o, b ≠ I → h.get? b = some o → h'.get? b = some o) : TabS base h' I l c q ps := by
  rcases ht with ht | ⟨c', e, r⟩
  · exact .inl ht
  · refine .inr ⟨c', e, r.imp id fun ⟨⟨c2, o, vs, t, e, ho, rr⟩, l⟩ => ⟨⟨c2, o, vs, t, e, k _ _ ?_ ho, rr⟩, l⟩⟩
    cases e; exact Nat.ne_of_gt l
theorem TabS.open {base h : Heap} {I : Addr} {oI : Obj} {l c e1 e2 : Nat} {q : Str} {ps : Array Value} (ht : TabS base h I l c q ps) (hI : h.get? I = some oI) : ∃ cA oc, h.get? cA = some oc ∧ I ≤ cA ∧
    ((TriplesOk ps.toList ∧ codeAmong ⟨l, c, e1, e2⟩ ps.toList = none) ∨ ∃ c', TriplesOk ps.toList ∧ codeAmong ⟨l, c, e1, e2⟩ ps.toList = some (.ref c') ∧ Cd base cA oc c' q) := by
  rcases ht with rfl | ⟨c', rfl, r | ⟨⟨c2, o, vs, t, e, ho, rr⟩, lt⟩⟩
  · exact ⟨I, oI, hI, Nat.le_refl _, .inl ⟨trivial, rfl⟩⟩
  · exact ⟨I, oI, hI, Nat.le_refl _, .inr ⟨c', trivial, by simp [codeAmong, rawInt], fun h'' k _ => r.keeps k⟩⟩
  · cases e
    exact ⟨c', o, ho, Nat.le_of_lt lt, .inr ⟨c', trivial, by simp [codeAmong, rawInt], fun h'' _ k2 => ⟨c', o, vs, t, rfl, k2, rr⟩⟩⟩
theorem TabS.made {base h h' : Heap} {I c' : Addr} {ps ps' : Array Value} {pos : Pos} {q : Str} (ht : TabS base h I pos.line pos.col q ps)
    (h2 : (ps' = ps ∧ codeAmong pos ps.toList = some (.ref c')) ∨ (codeAmong pos ps.toList = none ∧ ps' = ps ++ #[rawInt pos.line, rawInt pos.col, .ref c'] ∧ I < c')) (r : h'.CodeRec (.ref c') q) : TabS base h' I pos.line pos.col q ps' := by
  rcases ht with rfl | ⟨c2, rfl, hr⟩
  · rcases h2 with ⟨_, h2⟩ | ⟨_, rfl, lt⟩
    · cases h2
    · exact .inr ⟨c', by simp, .inr ⟨r, lt⟩⟩
  · rcases h2 with ⟨rfl, h2⟩ | ⟨h2, _⟩
    · simp [codeAmong, rawInt] at h2
      subst h2
      exact .inr ⟨c2, rfl, hr.imp id fun x => ⟨r, x.2⟩⟩
    · simp [codeAmong, rawInt] at h2

theorem TabS.tab1 {base h : Heap} {I P : Addr} {l c : Nat} {q : Str} {ps : Array Value} (ht : TabS base h I l c q ps) (e : h.get? P = some (tabObj ps)) (k : ∀ o b, base.get? b = some o → h.get? b = some o) : Tab1 h P l c q := by
  rcases ht with rfl | ⟨c', rfl, r⟩
  · exact .inl e
  · exact .inr ⟨c', e, r.elim (fun x => x.keeps fun b o => k o b) fun x => x.1⟩
theorem PairsAt.hide {h : Heap} {a : Addr} {vs : List Value} {rs : List (Str × Bool)} (P : PairsAt h vs rs) (ha : ∀ o, h.get? a = some o → o.cls = .none) : PairsAt (h.hide a) vs rs := by
  induction P with
  | nil => exact .nil
  | cons h1 _ ih =>
    obtain ⟨o, ho, hcls, r⟩ := h1
    refine .cons ⟨o, ?_, hcls, r⟩ ih
    rw [Heap.hide_ne]
    · exact ho
    · intro e; rw [e] at ho; rw [ha _ ho] at hcls; cases hcls

set_option maxHeartbeats 8000000 in
theorem posts_spec {w : World} {A : Around} {s : Shared} {g : Heap} {loose mean mg mb} {lv r : Addr} {lvs : List Value} {ns : List Int} {vs : List Value} {rs : List (Str × Bool)} {R : Result → Shared → Prop}
    (X : (hd.heap_39 w.params).In g) (T : Top topProg loose mean mg mb g) (hA : A.depth < 600) (hh : A.handled = none) (hU : A.units < 8000)
    (hs : ∀ b o, g.get? b = some o → s.heap.get? b = some o) (C : CodeHd g 108 104) (hg : g.get? 104 = none) (hT : Tab1 s.heap 104 119 43 (Str.ofString "_law_posts.<locals>.<lambda>"))
    (hL : s.heap.IsList r vs.toArray) (hP : PairsAt s.heap vs rs) (hn : rs.length < 50) (h4 : ∀ q ∈ rs, q.1.length ≤ 4) (hr1 : r ≠ 104)
    (hLv : s.heap.IsList lv lvs.toArray) (hI : IntsAre lvs ns) (hns : ns.length < 50) (hlv1 : lv ≠ 104)
    (hR : ∀ h' tk pd, Tab1 h' 104 119 43 (Str.ofString "_law_posts.<locals>.<lambda>") → h'.DictOf (PySem.strKind PySem.Challenge.rw_ny0145_01.row.prog w) pd (postsOf ns rs rs) → s.heap.get? pd = none → s.heap.objs.size ≤ pd → (pd == sysModules) = false → (∀ b o, b ≠ 104 → s.heap.get? b = some o → h'.get? b = some o) →
      R (.ok (.ret (.ref pd))) { s with heap := h', toks := tk }) :
    codeAny (model PySem.Challenge.rw_ny0145_01.row.prog w) A (.call (.ref 109) ⟨[.ref lv, .ref r], []⟩) R s := by
  obtain ⟨hd0, dp, fr, gd, un⟩ := A
  dsimp only at hh hA hU
  subst hh
  have hs' := sub_hide hs hg
  replace X := X.keeps hs'
  replace T := T.keeps hs'
  replace C := C.keeps hs'
  have Xs := X.keeps (fun b o e => Heap.of_hide (a := 104) e)
  revert X; k_fill; intro X
  refine' enterC (g := s.heap.hide 104) [(Str.ofString "levels", .ref lv), (Str.ofString "rules", .ref r)] X T.nolimit (fun b o e => Heap.of_hide e) (Nat.le_of_eq (Heap.hide_size _ _)) ?k6 ?k7 ?k8 ?k9 ?kB ?kD ?_ ?c2 ?c3 ?c4
  walk_at "enterC"
  intro h₁ tk cells F N Y hall
  clear Xs
  obtain ⟨o1, rfl, d1⟩ := Y.one
  replace d1 : o1.data = .cell none := d1
  obtain ⟨ps, hTT, hps1, hps⟩ := hT.open (e1 := 119) (e2 := 81)
  have N2 : News (s.heap.hide 104) s.heap.objs.size h₁ ([(104, tabObj ps)] ++ [(s.heap.objs.size + 1, o1)]) := News.append (fun p hp => by
      rcases List.mem_singleton.mp hp with rfl
      exact ⟨hall _ _ hTT, Nat.ne_of_lt (Heap.lt_size hTT), Heap.hide_self _ _⟩) N
  dsimp only [List.cons_append, List.nil_append] at N2
  have h104 : 104 < s.heap.objs.size := Heap.lt_size hTT
  clear N Y
  walk_at "go"
  rename Fr _ _ _ _ => F; rename News _ _ _ _ => N; rename Obj.IsDictOf (PySem.strKind _ _) _ _ => hdct; rename (_ == sysModules) = false => hsm
  rename_i pd _ od _ _ _ hpd hc
  have hpdc : pd < hc.objs.size := Heap.lt_size (N _ (.head _)).1
  have hLc : s.heap.objs.size < hc.objs.size := F.ns.lt
  have hL1c : s.heap.objs.size + 1 < hc.objs.size := Heap.lt_size (N _ (.tail _ (.tail _ (.head _)))).1
  have hLh : (s.heap.hide 104).IsList r vs.toArray := hL.at fun o e => by rw [Heap.hide_ne _ hr1]; exact e
  have hLvh : (s.heap.hide 104).IsList lv lvs.toArray := hLv.at fun o e => by rw [Heap.hide_ne _ hlv1]; exact e
  have hPh : PairsAt (s.heap.hide 104) vs rs := hP.hide (fun o e => by rw [hTT] at e; cases e; rfl)
  have htab0 : TabS (s.heap.hide 104) hc hc.objs.size 119 43 (Str.ofString "_law_posts.<locals>.<lambda>") ps := by
    rcases hps1 with rfl | ⟨c', rfl⟩
    · exact .inl rfl
    · refine .inr ⟨c', rfl, .inl ?_⟩
      rcases hps with ⟨_, h⟩ | ⟨c2, _, h, hcr⟩
      · simp [codeAmong, rawInt] at h
      · simp [codeAmong, rawInt] at h
        exact h ▸ hcr
  refine for_list (l := r) (items := vs.toArray) rfl (fun i h => ∃ m ps oS vo od, Fr (s.heap.hide 104) s.heap.objs.size h m ∧ News (s.heap.hide 104) s.heap.objs.size h [(104, tabObj ps), (s.heap.objs.size + 1, oS), (pd, od)] ∧
    m (Str.ofString "rules") = some (.ref r) ∧ m (Str.ofString "levels") = some (.ref lv) ∧ m (Str.ofString "posts") = some (.ref pd) ∧ oS.data = .cell vo ∧ Obj.IsDictOf (PySem.strKind PySem.Challenge.rw_ny0145_01.row.prog w) od (postsOf ns rs (rs.take i)) ∧
    TabS (s.heap.hide 104) h hc.objs.size 119 43 (Str.ofString "_law_posts.<locals>.<lambda>") ps ∧ (postsOf ns rs (rs.take i)).length ≤ 100 * i) ?hi ?hl ?h0 ?new ?go ?step ?fin
  case hi => walk_at "go"
  case hl => exact hLh.at fun o e => F.keep _ o e
  case h0 => exact ⟨_, ps, o1, _, od, F, fun q hq => N q (by
      rcases List.mem_cons.mp hq with rfl | hq
      · exact .tail _ (.head _)
      · rcases List.mem_cons.mp hq with rfl | hq
        · exact .tail _ (.tail _ (.head _))
        · rw [List.mem_singleton.mp hq]; exact .head _), rfl, rfl, rfl, d1, hdct, htab0, Nat.zero_le _⟩
  case new =>
    rintro i h h' ⟨m, ps, oS, vo, od, F, N, r1, r2, r3, r4, r5, r6, r7⟩ hk
    refine ⟨m, ps, oS, vo, od, fr_mov F hLc hk, news_mov N (fun q hq => ?_) hk, r1, r2, r3, r4, r5, r6.mov hk, r7⟩
    rcases List.mem_cons.mp hq with rfl | hq
    · exact Nat.ne_of_lt (show 104 < hc.objs.size by omega)
    · rcases List.mem_cons.mp hq with rfl | hq
      · exact Nat.ne_of_lt (show s.heap.objs.size + 1 < hc.objs.size by omega)
      · rw [List.mem_singleton.mp hq]; exact Nat.ne_of_lt hpdc
  case go =>
    intro i s' v Q' E' hv hit hq
    obtain ⟨q, b, tp, _, rfl, _⟩ := hP.get (by simpa using hv)
    exact wpAny_letOwnedTupleGo_listiter hit hq
  case fin =>
    rintro h tk ⟨m, ps, oS, vo, od, F, N, r1, r2, r3, r4, r5, r6, r7⟩
    rw [List.take_of_length_le (by simp [hP.length])] at r5
    walk_at "go"
    refine hR _ _ _ (r6.tab1 (N _ (.head _)).1 fun o b e => F.keep b o e) (Heap.dictOf_iff.mpr ⟨od, (N _ (.tail _ (.tail _ (.head _)))).1, r5⟩) ?_ ?_ hsm (hide_keep F.keep)
    · exact Heap.get?_none_of_le (Nat.le_of_lt (show @LT.lt Nat _ s.heap.objs.size pd by omega))
    · exact Nat.le_of_lt (show @LT.lt Nat _ s.heap.objs.size pd by omega)
  case step =>
    rintro i v h tk oI hi hv ⟨m, ps, oS, vo, od, F, N, r1, r2, r3, r4, r5, r6, r7⟩ hoI hL2
    obtain ⟨q, b, tpq, hq, rfl, hTq⟩ := hPh.get (by simpa using hv)
    have hq4 := h4 q (List.mem_of_getElem? hq)
    dsimp only at hoI
    obtain ⟨cA, oc, hcA, hcl, hpp⟩ := r6.open (e1 := 119) (e2 := 81) hoI
    have N2 := news_cons F (news_cons F N hcA (Nat.lt_of_lt_of_le hLc hcl)) hoI hLc
    have hcl2 : hc.objs.size ≤ cA := hcl
    have Fk := F.keep
    clear N
    walk_at "go"
    rename Fr _ _ _ _ => F1; rename News _ _ _ _ => N1; rename Obj.data _ = Data.cell (some (Value.ref _)) => dZ
    rename_i _ _ _ sl _ hsl hB oZ
    refine kla_eval rfl ?_
    refine lam_make2 (c := 108) (ps := ps) (news := [(sl, listOf #[] 0), (hc.objs.size, oI), (cA, oc), (s.heap.objs.size + 1, oZ), (pd, od)]) F1 (fun q hq => N1 q ?_) T C rfl ?ne (.tail _ (.tail _ (.head _))) hpp rfl ?_
    · rcases List.mem_cons.mp hq with rfl | hq
      · exact .tail _ (.tail _ (.tail _ (.head _)))
      · rcases List.mem_cons.mp hq with rfl | hq
        · exact .head _
        · rcases List.mem_cons.mp hq with rfl | hq
          · exact .tail _ (.head _)
          · rcases List.mem_cons.mp hq with rfl | hq
            · exact .tail _ (.tail _ (.head _))
            · exact .tail _ (.tail _ (.tail _ (.tail _ hq)))
    case ne =>
      intro q hq
      rcases List.mem_cons.mp hq with rfl | hq
      · exact Nat.ne_of_gt (show @LT.lt Nat _ 104 sl by omega)
      · rcases List.mem_cons.mp hq with rfl | hq
        · exact Nat.ne_of_gt (show 104 < hc.objs.size by omega)
        · rcases List.mem_cons.mp hq with rfl | hq
          · exact Nat.ne_of_gt (show @LT.lt Nat _ 104 cA by omega)
          · rcases List.mem_cons.mp hq with rfl | hq
            · exact Nat.ne_of_gt (show 104 < s.heap.objs.size + 1 by omega)
            · rw [List.mem_singleton.mp hq]; exact Nat.ne_of_gt (show @LT.lt Nat _ 104 pd by omega)
    intro lf c' ctv h2 tk2 cB ob ps' F2 N2 hps2 hcd hcB hcBf hlf hPf
    clear F1 N1
    dsimp only
    refine via N2 (fun news => ∀ A' s₁ v tv lv n (Q : Value → Shared → Prop), A'.depth < 950 → A'.handled = none → (∀ b o, (s.heap.hide 104).get? b = some o → s₁.heap.get? b = some o) → (∀ p ∈ news, p.1 ≠ sl → s₁.heap.get? p.1 = some p.2) →
      s₁.heap.get? sl = some (listOf lv.toArray n) → lv.length < 300 → (∀ h' tk' tr n', h'.get? sl = some (listOf (lv ++ [.int v tv]).toArray n') → (∀ b o, b ≠ sl → s₁.heap.get? b = some o → h'.get? b = some o) → Q (.int v tr) { s₁ with heap := h', toks := tk' }) → wpAny (model PySem.Challenge.rw_ny0145_01.row.prog w) A' (call (.ref lf) [.int v tv]) Q (fun _ _ => False) s₁) ?hk fun hkey => ?_
    case hk =>
      intro A' s₁ v tv lv n Q hd hh hb hn hsl1 hlen hQ
      obtain ⟨hd0, dp', fr', gd', un'⟩ := A'
      dsimp only at hh hd
      subst hh
      have hsb := sub_hide hb (N2 _ (.tail _ (.tail _ (.tail _ (.head _))))).2.2
      have hX := X.keeps hsb
      have hT' := T.keeps hsb
      have hne1 : s.heap.objs.size + 1 ≠ sl := Nat.ne_of_lt (by omega)
      have hc1 : (s₁.heap.hide sl).get? (s.heap.objs.size + 1) = some oZ := by
        rw [Heap.hide_ne _ hne1]
        exact hn _ (.tail _ (.tail _ (.tail _ (.tail _ (.tail _ (.tail _ (.head _))))))) hne1
      have hlfs : lf ≠ sl := Nat.ne_of_gt (hlf _ (.head _))
      have hcBs : cB ≠ sl := by
        rcases hcB with e | hm
        · exact Nat.ne_of_lt (show @LT.lt Nat _ cB sl by have : @Eq Nat cB cA := e; omega)
        · exact Nat.ne_of_gt (hm _ (.head _))
      refine wpAny_call (enterL (g := s₁.heap.hide sl) [(Str.ofString "size", .int v tv)] hT'.nolimit (fun _ _ e => Heap.of_hide e) (Nat.le_of_eq (Heap.hide_size _ _)) (hn _ (.head _) hlfs) rfl (hcd _ hb (hn _ (.tail _ (.tail _ (.head _))) hcBs)) (by simp only [recursionLimit]; omega) rfl (locs rfl) ?_ rfl rfl rfl (by decide))
      intro h3 F3 hall3
      have N4 : News (s₁.heap.hide sl) s₁.heap.objs.size h3 [(sl, listOf lv.toArray n)] := news_one (hall3 _ _ hsl1) (Nat.ne_of_lt (Heap.lt_size hsl1)) (Heap.hide_self _ _)
      clear X T C F2 N2
      dsimp only
      walk_at "go"
      rename Fr _ _ _ _ => F5; rename News _ _ _ _ => N5
      have e5 := (N5 _ (.head _)).1
      rw [List.push_toArray] at e5
      exact hQ _ _ _ _ e5 (hide_keep F5.keep)
    walk_at "go"
    rename Fr _ _ _ _ => F3; rename News _ _ _ _ => N3
    have hslb := (N3 _ (.tail _ (.tail _ (.tail _ (.head _))))).2.2
    have hslL := (N3 _ (.tail _ (.tail _ (.tail _ (.head _))))).2.1
    have hlvs : lv ≠ sl := fun e => by
      obtain ⟨o, ho, _⟩ := hLvh
      rw [e] at ho
      rw [ho] at hslb; cases hslb
    refine wpAny_call (blSeen_spec (g := s.heap.hide 104) (c := sl) (lv₀ := []) X T (show dp + 1 < 900 by omega) rfl F3.keep hslb (N3 _ (.tail _ (.tail _ (.tail _ (.head _))))).1 (by decide) hlvs (Nat.ne_of_gt (hlf _ (.head _))) (hLvh.at fun o e => F3.keep _ _ e) hI (by omega) (N3 _ (.head _)).1 rfl ?ky ?rr)
    case ky =>
      intro A' s₁ v tv lv n Q hd hh hb hsl1 hlen hQ
      exact hkey A' s₁ v tv lv n Q hd hh (fun b o e => hb b o (fun q => by rw [q, hslb] at e; cases e) (F3.keep _ _ e)) (fun p hp hne => hb _ _ hne (N3 p hp).1) hsl1 hlen hQ
    case rr =>
      intro h5 tk5 tv5 lvl n5 hl5 hI5 hk5
      rw [List.nil_append] at hl5
      have hLns : ∀ b, @Ne Nat b sl → ∀ o, h2.get? b = some o → True := fun _ _ _ _ => trivial
      have F5 := fr_ne F3 hslL.symm hslb (fun b o hb e => hk5 b o hb e)
      have hcBs : cB ≠ sl := by
        rcases hcB with e | hm
        · exact Nat.ne_of_lt (show @LT.lt Nat _ cB sl by have : @Eq Nat cB cA := e; omega)
        · exact Nat.ne_of_gt (hm _ (.head _))
      have N5 := news_add (news_add (news_add (news_add (news_add (news_one hl5 hslL hslb)
        (hk5 _ _ (Nat.ne_of_lt (show @LT.lt Nat _ pd sl by omega)) (N3 _ (.tail _ (.tail _ (.tail _ (.tail _ (.tail _ (.tail _ (.tail _ (.head _))))))))).1) (N3 _ (.tail _ (.tail _ (.tail _ (.tail _ (.tail _ (.tail _ (.tail _ (.head _))))))))).2.1 (N3 _ (.tail _ (.tail _ (.tail _ (.tail _ (.tail _ (.tail _ (.tail _ (.head _))))))))).2.2)
        (hk5 _ _ (Nat.ne_of_lt (show @LT.lt Nat _ (s.heap.objs.size + 1) sl by omega)) (N3 _ (.tail _ (.tail _ (.tail _ (.tail _ (.tail _ (.tail _ (.head _)))))))).1) (N3 _ (.tail _ (.tail _ (.tail _ (.tail _ (.tail _ (.tail _ (.head _)))))))).2.1 (N3 _ (.tail _ (.tail _ (.tail _ (.tail _ (.tail _ (.tail _ (.head _)))))))).2.2)
        (hk5 _ _ (Nat.ne_of_lt (show @LT.lt Nat _ hc.objs.size sl by omega)) (N3 _ (.tail _ (.tail _ (.tail _ (.tail _ (.head _)))))).1) (N3 _ (.tail _ (.tail _ (.tail _ (.tail _ (.head _)))))).2.1 (N3 _ (.tail _ (.tail _ (.tail _ (.tail _ (.head _)))))).2.2)
        (hk5 _ _ hcBs (N3 _ (.tail _ (.tail _ (.head _)))).1) (N3 _ (.tail _ (.tail _ (.head _)))).2.1 (N3 _ (.tail _ (.tail _ (.head _)))).2.2)
        (hk5 _ _ (Nat.ne_of_lt (show @LT.lt Nat _ 104 sl by omega)) (N3 _ (.tail _ (.head _))).1) (N3 _ (.tail _ (.head _))).2.1 (N3 _ (.tail _ (.head _))).2.2
      dsimp only at N5
      have hcr5 := hcd h5 F5.keep (N5 _ (.tail _ (.head _))).1
      have hLh5 : s.heap.objs.size < h5.objs.size := F5.ns.lt
      have hsl5 : sl < h5.objs.size := Heap.lt_size hl5
      have hcB5 : cB < h5.objs.size := Heap.lt_size (N5 _ (.tail _ (.head _))).1
      have hlk := looks_length (fun v => decide (v < (q.1.length : Int))) ns ns.length 0 ns.length
      have hlk' : (looksL ns q.1).length ≤ ns.length := hlk
      have hcBg : @LT.lt Nat _ 104 cB ∧ @LE.le Nat _ hc.objs.size cB := by
        rcases hcB with e | hm
        · have : @Eq Nat cB cA := e; omega
        · have h9 := hm _ (.tail _ (.head _)); have : @LT.lt Nat _ hc.objs.size cB := h9; omega
      have hpdH : pd < h5.objs.size := Heap.lt_size (N5 _ (.tail _ (.tail _ (.tail _ (.tail _ (.head _)))))).1
      clear F3 N3
      dsimp only
      walk_at "go"
      refine for_list (l := sl) (items := lvl.toArray) rfl (fun j h => ∃ m od, Fr (s.heap.hide 104) s.heap.objs.size h m ∧ News (s.heap.hide 104) s.heap.objs.size h [(104, tabObj ps'), (cB, ob), (hc.objs.size, oI), (s.heap.objs.size + 1, oZ), (pd, od), (sl, listOf lvl.toArray n5)] ∧
        m (Str.ofString "rules") = some (.ref r) ∧ m (Str.ofString "levels") = some (.ref lv) ∧ m (Str.ofString "posts") = some (.ref pd) ∧ m (Str.ofString "path") = some (.str q.1 tpq) ∧ Obj.IsDictOf (PySem.strKind PySem.Challenge.rw_ny0145_01.row.prog w) od (putAll rs q.1 (postsOf ns rs (rs.take i)) ((looksL ns q.1).take j)) ∧
        (putAll rs q.1 (postsOf ns rs (rs.take i)) ((looksL ns q.1).take j)).length ≤ 100 * i + j) ?hi2 ⟨_, hl5, rfl, _, rfl⟩ ?h02 ?new2 ?go2 ?step2 ?fin2
      case hi2 => walk_at "go"
      case h02 => exact ⟨_, od, F5, N5, r1, r2, r3, rfl, r5, r7⟩
      case new2 =>
        rintro j h h' ⟨m, od, F, N, x1, x2, x3, x4, x5, x6⟩ hk
        refine ⟨m, od, fr_mov F hLh5 hk, news_mov N (fun p hp => ?_) hk, x1, x2, x3, x4, x5, x6⟩
        rcases List.mem_cons.mp hp with rfl | hp
        · exact Nat.ne_of_lt (Heap.lt_size (N5 _ (.head _)).1)
        · rcases List.mem_cons.mp hp with rfl | hp
          · exact Nat.ne_of_lt hcB5
          · rcases List.mem_cons.mp hp with rfl | hp
            · exact Nat.ne_of_lt (Heap.lt_size (N5 _ (.tail _ (.tail _ (.head _)))).1)
            · rcases List.mem_cons.mp hp with rfl | hp
              · exact Nat.ne_of_lt (Heap.lt_size (N5 _ (.tail _ (.tail _ (.tail _ (.head _))))).1)
              · rcases List.mem_cons.mp hp with rfl | hp
                · exact Nat.ne_of_lt (Heap.lt_size (N5 _ (.tail _ (.tail _ (.tail _ (.tail _ (.head _)))))).1)
                · rw [List.mem_singleton.mp hp]; exact Nat.ne_of_lt hsl5
      case go2 => exact fun _ _ _ _ _ _ _ hq => wpAny_pure hq
      case fin2 =>
        rintro h tk ⟨m, od, F, N, x1, x2, x3, x4, x5, x6⟩
        have hlv5 : lvl.length = (looksL ns q.1).length := hI5.length
        rw [List.size_toArray, hlv5, List.take_length] at x5 x6
        have epo : postsOf ns rs (rs.take (i + 1)) = putAll rs q.1 (postsOf ns rs (rs.take i)) (looksL ns q.1) := by
          rw [List.take_add_one, hq]; unfold postsOf; rw [Option.toList_some, List.foldl_append]; rfl
        walk_at "go"
        refine ⟨_, _, rfl, ⟨m, ps', oZ, _, od, F, fun p hp => N p ?_, x1, x2, x3, dZ, by rw [epo]; exact x5, ?_, by rw [epo]; omega⟩, (N _ (.tail _ (.tail _ (.head _)))).1, fun o e => ?_⟩
        · rcases List.mem_cons.mp hp with rfl | hp
          · exact .head _
          · rcases List.mem_cons.mp hp with rfl | hp
            · exact .tail _ (.tail _ (.tail _ (.head _)))
            · rw [List.mem_singleton.mp hp]; exact .tail _ (.tail _ (.tail _ (.tail _ (.head _))))
        · exact TabS.made (pos := ⟨119, 43, 119, 81⟩) r6 (hps2.imp id fun ⟨a1, a2, a3, a4⟩ => ⟨a1, a2, a4 _ (.tail _ (.head _))⟩) (hcd h F.keep (N _ (.tail _ (.head _))).1)
        · obtain ⟨o', ho', _⟩ := hLh
          have := Fk _ _ ho'
          rw [this] at e; cases e
          exact F.keep _ _ ho'
      case step2 =>
        rintro j v h tk oJ hj hv ⟨m, od, F, N, x1, x2, x3, x4, x5, x6⟩ hoJ hL3
        have N6 := news_cons F N hoJ hLh5
        have hsl0 := (N _ (.tail _ (.tail _ (.tail _ (.tail _ (.tail _ (.head _))))))).1
        dsimp only at hoJ N6
        clear F5 N5 N
        obtain ⟨z, tz, rfl, hz⟩ : ∃ z tz, v = Value.int z tz ∧ (looksL ns q.1)[j]? = some z := intsAre_get hI5 (by simpa using hv)
        have hpd5 : pd < h5.objs.size := hpdH
        have etk : (looksL ns q.1).take (j + 1) = (looksL ns q.1).take j ++ [z] := by rw [List.take_add_one, hz]; rfl
        have epa : putAll rs q.1 (postsOf ns rs (rs.take i)) ((looksL ns q.1).take (j + 1)) = putOne rs q.1 (putAll rs q.1 (postsOf ns rs (rs.take i)) ((looksL ns q.1).take j)) z := by
          rw [etk]; unfold putAll; rw [List.foldl_append]; rfl
        have hi50 : i < 50 := by have := hP.length; simp at hi; omega
        have hj50 : j < 50 := by have := hI5.length; have e9 : lvl.length = (looksL ns q.1).length := this; simp at hj; omega
        walk_at "go"
        · rename z ≤ _ => hle
          rename Fr _ _ _ _ => F7; rename News _ _ _ _ => N7; rename (Txt.slice q.1 none (some z)).length ≤ _ => hsl4
          refine wpAny_call (says_spec (X.keeps F7.keep) (T.keeps F7.keep) (show dp + 1 < 700 by omega) rfl (show un + 3 < 9000 by omega) (hLh.at fun o e => F7.keep _ _ e) (hPh.keeps F7.keep) hn h4 (by omega) fun h6 tk6 hk6 => ?_)
          replace F7 := Fr.keeps F7 hk6
          replace N7 := News.keeps N7 hk6
          dsimp only
          walk_at "go"
          rename Fr _ _ _ _ => F8; rename News _ _ _ _ => N8
          have z8 := N8 _ (.tail _ (.tail _ (.tail _ (.tail _ (.tail _ (.head _))))))
          refine wpAny_setItem_pairs (strKind_is _ _ _ _) (Heap.dictOf_iff.mpr ⟨od, z8.1, x5⟩) (fun h9 hd9 hs9 => ?_) (by rw [sizeLine_eq]; omega)
          obtain ⟨od9, ho9, hdo9⟩ := Heap.dictOf_iff.mp hd9
          have F9 := F8.change hs9 z8.2.1 z8.2.2
          have N9 := news_set (pre := [(h5.objs.size, oJ), (104, tabObj ps'), (cB, ob), (hc.objs.size, oI), (s.heap.objs.size + 1, oZ)]) (post := [(sl, listOf lvl.toArray n5)]) N8 ?n1 ?n2 hs9 ho9
          case n1 =>
            intro p hp
            rcases List.mem_cons.mp hp with rfl | hp
            · exact Nat.ne_of_gt hpdH
            · rcases List.mem_cons.mp hp with rfl | hp
              · exact Nat.ne_of_lt (show @LT.lt Nat _ 104 pd by omega)
              · rcases List.mem_cons.mp hp with rfl | hp
                · exact Nat.ne_of_gt (Nat.lt_of_lt_of_le hpdc hcBg.2)
                · rcases List.mem_cons.mp hp with rfl | hp
                  · exact Nat.ne_of_gt hpdc
                  · rw [List.mem_singleton.mp hp]; exact Nat.ne_of_lt (show @LT.lt Nat _ (s.heap.objs.size + 1) pd by omega)
          case n2 => intro p hp; rw [List.mem_singleton.mp hp]; exact Nat.ne_of_gt (show @LT.lt Nat _ pd sl by omega)
          walk_at "go"
          refine ⟨_, _, rfl, ⟨_, od9, F9, fun p hp => N9 p (.tail _ hp), x1, x2, x3, x4, ?_, ?_⟩, (N9 _ (.head _)).1, fun o e => ?_⟩
          · rw [epa]; unfold putOne; rw [if_pos hle]; exact hdo9
          · rw [epa]; have := putOne_length rs q.1 (putAll rs q.1 (postsOf ns rs (rs.take i)) ((looksL ns q.1).take j)) z; omega
          · rw [hsl0] at e; cases e; exact (N9 _ (.tail _ (.tail _ (.tail _ (.tail _ (.tail _ (.tail _ (.head _)))))))).1
        · rename ¬ z ≤ _ => hle
          rename Fr _ _ _ _ => F7; rename News _ _ _ _ => N7
          refine ⟨_, _, rfl, ⟨_, od, F7, fun p hp => N7 p (.tail _ hp), x1, x2, x3, x4, ?_, ?_⟩, (N7 _ (.head _)).1, fun o e => ?_⟩
          · rw [epa]; unfold putOne; rw [if_neg hle]; exact x5
          · rw [epa, show putOne rs q.1 (putAll rs q.1 (postsOf ns rs (rs.take i)) ((looksL ns q.1).take j)) z = putAll rs q.1 (postsOf ns rs (rs.take i)) ((looksL ns q.1).take j) from if_neg hle]; exact Nat.le_trans x6 (Nat.le_succ _)
          · rw [hsl0] at e; cases e; exact (N7 _ (.tail _ (.tail _ (.tail _ (.tail _ (.tail _ (.tail _ (.head _)))))))).1
end Mine

-- B8
namespace Mine
open Builtin Builtin.ObjectAttr
theorem slot_fn_setattr : Slot "function" (Str.ofString "__setattr__") "object.__setattr__" := .of (owner := "object") (n := "__setattr__") (by rw [typeLookup_type, builtinLookup_eq_fast]; kernel_rfl) (by decide +kernel) (by decide +kernel) (by decide +kernel) (by decide +kernel) (by kernel_rfl)
theorem entry_setattr : entryFor table "object.__setattr__" = some Builtin.«object.__setattr__» := entryFor_of_fast (by kernel_rfl)
theorem args_setattr (a b c : Value) : argsOk "object.__setattr__" ⟨[a, b, c], []⟩ := by kernel_rfl
theorem look_fn_applies : typeLookup (.type "function") (Str.ofString "applies_to") = pure none := by rw [typeLookup_type, builtinLookup_eq_fast]; kernel_rfl
theorem look_fn_allowance : typeLookup (.type "function") (Str.ofString "allowance") = pure none := by rw [typeLookup_type, builtinLookup_eq_fast]; kernel_rfl
theorem mro_fn : mroOf (.type "function") = pure [.type "function", .type "object"] := by kernel_rfl
theorem refuse_fn (self : Value) : refuseLoop self (Str.ofString "__setattr__") [.type "function", .type "object"] = pure () := by kernel_rfl
abbrev fnObj (d : Option Addr) (fd : FuncData) : Obj := { cls := .type "function", dict := d, data := .func fd }

section
variable {prog : Program} {w : World} {A : Around} {E : Value → Shared → Prop} {s : Shared} {f d : Addr} {fd : FuncData} {name : Str} {v : Value} {m : Str → Option Value} {Q : Unit → Shared → Prop}
theorem fnset_open {dd : Option Addr} (ho : s.heap.get? f = some (fnObj dd fd)) (hl : typeLookup (.type "function") name = pure none)
    (h : ∀ t, wpAny (model prog w) A.in1 (storeInOwnDict (.ref f) (.type "function") (.str name t) name v false) (fun fin s' => ∃ v, fin = .done (.ret v) ∧ Q () s') E { s with toks := s.toks + 1 }) :
    wpAny (model prog w) A (setAttr (.ref f) name v) Q E s := by
  have hT : ({ s with toks := s.toks + 1 } : Shared).TypeIs (.ref f) "function" := ⟨_, ho, rfl⟩
  unfold setAttr
  refine wpAny_bind (wpAny_mkText ?_)
  refine wpAny_bind (wpAny_callSpecial?_slot hT slot_fn_setattr (wpAny_call_entry slot_fn_setattr hT entry_setattr ?_ (args_setattr _ _ _)))
  rw [osa_eq, refuse_eq]
  refine wpAny_bind (wpAny_bind (wpAny_typeOf hT (wpAny_bind (wpAny_of_eq mro_fn ?_))))
  refine wpAny_of_eq (refuse_fn _) ?_
  refine wpAny_bind (wpAny_typeOf hT (wpAny_bind (wpAny_of_eq hl ?_)))
  refine wpAny_bind (wpAny_pure ?_)
  refine wpAny_mono (h _) (fun fin s' ⟨v, e, hq⟩ => ⟨v, e, wpAny_pure hq⟩) fun _ _ e => e
/-- the first attribute of a function -/
theorem fnset1 (ho : s.heap.get? f = some (fnObj none fd)) (hl : typeLookup (.type "function") name = pure none)
    (h : ∀ h' tk, h'.get? f = some (fnObj (some s.heap.objs.size) fd) → h'.Ns1 s.heap.objs.size (fun y => if y = name then some v else none) → (∀ b o, b ≠ f → s.heap.get? b = some o → h'.get? b = some o) → Q () { s with heap := h', toks := tk }) :
    wpAny (model prog w) A (setAttr (.ref f) name v) Q E s := by
  refine fnset_open ho hl fun t => ?_
  unfold storeInOwnDict ownDictForStores instanceDict ownStreamTells
  refine wpAny_bind (wpAny_pure ?_)
  have hfs : f ≠ s.heap.objs.size := Nat.ne_of_lt (Heap.lt_size ho)
  refine wpAny_bind (wpAny_bind (wpAny_loadPart ho ?_))
  refine wpAny_bind (wpAny_alloc ?_)
  have hx₁ : (s.heap.push { cls := .type "dict", data := .dict #[] }).get? f = some (fnObj none fd) := Heap.get?_push_of_some _ ho
  refine wpAny_bind (wpAny_update hx₁ ?_)
  refine wpAny_pure ?_
  have hgd : ((s.heap.push { cls := .type "dict", data := .dict #[] }).update f fun o => { cls := o.cls, dict := some s.heap.objs.size, data := o.data, slots := o.slots }).get? s.heap.objs.size
      = some { cls := .type "dict", data := .dict #[] } := (Heap.get?_update_ne _ _ _ _ hfs.symm).trans (Heap.get?_push_at rfl rfl)
  have hnd : ((s.heap.push { cls := .type "dict", data := .dict #[] }).update f fun o => { cls := o.cls, dict := some s.heap.objs.size, data := o.data, slots := o.slots }).Ns s.heap.objs.size (fun _ => none) :=
    ⟨_, #[], _, hgd, rfl, fun e he => absurd he (by simp), fun _ => rfl⟩
  show wpAny _ _ (storeInDict s.heap.objs.size (.str name t) name v) _ _ _
  unfold storeInDict newKeyGuard
  refine wpAny_bind (wpAny_pure (wpAny_bind (wpAny_nsSet1 (Heap.Ns1.of_empty hnd) fun h' hn' hs => ?_)))
  obtain ⟨oD, esD, epD, hoD, hdD, hcD⟩ := hn'.count (PySem.Within.cons name v PySem.Within.nil)
  refine wpAny_bind (wpAny_lookBehind hoD (by rw [hdD]; exact pastItsLine_dict (Nat.le_trans hcD (by rw [List.length_cons, List.length_nil, sizeLine_eq]; omega))) ?_)
  refine wpAny_pure ⟨_, rfl, h h' _ ?_ hn' fun b o hb e => ?_⟩
  · exact (hs.2 f hfs).trans (Heap.get?_update_self _ hx₁ rfl)
  · exact (hs.2 b (Nat.ne_of_lt (Heap.lt_size e))).trans ((Heap.get?_update_ne _ _ _ _ hb).trans (Heap.get?_push_of_some _ e))
/-- a further one -/
theorem fnset2 {ns : List Str} (ho : s.heap.get? f = some (fnObj (some d) fd)) (hd : s.heap.Ns1 d m) (hw : PySem.Within m ns) (hz : ns.length ≤ 100) (hl : typeLookup (.type "function") name = pure none)
    (h : ∀ h' tk, h'.Ns1 d (fun y => if y = name then some v else m y) → (∀ b o, b ≠ d → s.heap.get? b = some o → h'.get? b = some o) → Q () { s with heap := h', toks := tk }) :
    wpAny (model prog w) A (setAttr (.ref f) name v) Q E s := by
  refine fnset_open ho hl fun t => ?_
  unfold storeInOwnDict ownDictForStores instanceDict ownStreamTells
  refine wpAny_bind (wpAny_pure ?_)
  refine wpAny_bind (wpAny_bind (wpAny_loadPart ho ?_))
  refine wpAny_pure ?_
  show wpAny _ _ (storeInDict d (.str name t) name v) _ _ _
  unfold storeInDict newKeyGuard
  refine wpAny_bind (wpAny_pure (wpAny_bind (wpAny_nsSet1 hd fun h' hn' hs => ?_)))
  obtain ⟨oD, esD, epD, hoD, hdD, hcD⟩ := hn'.count (PySem.Within.cons name v hw)
  refine wpAny_bind (wpAny_lookBehind hoD (by rw [hdD]; exact pastItsLine_dict (Nat.le_trans hcD (by rw [List.length_cons, sizeLine_eq]; omega))) ?_)
  exact wpAny_pure ⟨_, rfl, h h' _ hn' fun b o hb e => (hs.2 b hb).trans e⟩
end
end Mine

-- B9
namespace Mine
open Builtin Builtin.ObjectAttr
theorem slot_fn_ga : Slot "function" (Str.ofString "__getattribute__") "object.__getattribute__" := .of (owner := "object") (n := "__getattribute__") (by rw [typeLookup_type, builtinLookup_eq_fast]; kernel_rfl) (by decide +kernel) (by decide +kernel) (by decide +kernel) (by decide +kernel) (by kernel_rfl)
theorem entry_ga : entryFor table "object.__getattribute__" = some Builtin.«object.__getattribute__» := entryFor_of_fast (by kernel_rfl)
theorem args_ga (a b : Value) : argsOk "object.__getattribute__" ⟨[a, b], []⟩ := by kernel_rfl
theorem look_fn_getattr : typeLookup (.type "function") (Str.ofString "__getattr__") = pure none := by rw [typeLookup_type, builtinLookup_eq_fast]; kernel_rfl
theorem canon_ga : Manifest.canonical "object.__getattribute__" = "object.__getattribute__" := by kernel_rfl
section
variable {prog : Program} {w : World} {A : Around} {E : Value → Shared → Prop} {s : Shared} {f d : Addr} {fd : FuncData} {name : Str} {v : Value} {m : Str → Option Value} {Q : Value → Shared → Prop}
theorem fnfind {Q : Found → Shared → Prop} (ho : s.heap.get? f = some (fnObj (some d) fd)) (hd : s.heap.Ns d m) (hv : m name = some v) (hl : typeLookup (.type "function") name = pure none) (h : Q (.value v) s) :
    wpAny (model prog w) A (Builtin.ObjectAttr.find (.ref f) (.type "function") name) Q E s := by
  unfold Builtin.ObjectAttr.find
  refine wpAny_bind (wpAny_of_eq hl ?_)
  refine wpAny_bind (wpAny_pure (wpAny_bind (wpAny_pure ?_)))
  show wpAny _ _ (ownThenClass (.ref f) name none none) _ _ _
  unfold ownThenClass inOwnDict Builtin.ObjectAttr.ownDict
  refine wpAny_bind (wpAny_bind (wpAny_bind (wpAny_loadPart ho ?_)))
  show wpAny _ _ (instanceDict f false) _ _ _
  unfold instanceDict
  refine wpAny_bind (wpAny_loadPart ho ?_)
  refine wpAny_pure ?_
  show wpAny _ _ (nsGet d name) _ _ _
  refine wpAny_nsGet hd ?_
  rw [hv]
  exact wpAny_bind (wpAny_rule (wpAny_pure h))
/-- an attribute of a function's own -/
theorem fnget {ex : Bool} (ho : s.heap.get? f = some (fnObj (some d) fd)) (hd : s.heap.Ns d m) (hv : m name = some v) (hl : typeLookup (.type "function") name = pure none) (hb : handedOut v = pure v)
    (h : Q v { s with toks := s.toks + 1 }) : wpAny (model prog w) A (getAttr (.ref f) name ex) Q E s := by
  have hT : ({ s with toks := s.toks + 1 } : Shared).TypeIs (.ref f) "function" := ⟨_, ho, rfl⟩
  unfold getAttr
  refine wpAny_bind (wpAny_mkText ?_)
  unfold getAttrBy
  refine wpAny_holding ?_
  refine wpAny_bind (wpAny_typeOf hT (wpAny_bind (wpAny_of_eq slot_fn_ga.lookup ?_)))
  show wpAny _ _ (getAttrByItsOwn (.ref f) (.str name s.toks) (.type "function") (.builtin "object.__getattribute__") true ex) _ _ _
  unfold getAttrByItsOwn
  refine wpAny_bind (wpAny_pure ?_)
  refine wpAny_bind (wpAny_attempt ?_)
  refine wpAny_holding ?_
  have e : callGetattribute (.ref f) (.str name s.toks) (.builtin "object.__getattribute__") ex = boundAndCalled (.builtin "object.__getattribute__") (.ref f) (.str name s.toks) := by
    unfold callGetattribute; cases ex <;> rfl
  rw [e]
  unfold boundAndCalled
  rw [slot_fn_ga.bind]
  refine wpAny_bind (wpAny_pure ?_)
  show wpAny _ _ (call (.builtin "object.__getattribute__") [.ref f, .str name s.toks]) _ _ _
  refine wpAny_call_entry slot_fn_ga hT entry_ga ?_ (args_ga _ _)
  unfold Builtin.«object.__getattribute__»
  refine wpAny_bind (wpAny_pure (a := (Value.ref f, [Value.str name s.toks])) ?_)
  refine wpAny_bind (wpAny_pure (a := name) ?_)
  refine wpAny_bind (wpAny_typeOf hT (wpAny_bind (fnfind (s := { s with toks := s.toks + 1 }) ho hd hv hl ?_)))
  refine wpAny_pure ⟨v, rfl, ?_⟩
  exact wpAny_of_eq hb h
theorem fnmethod {pl : Sem Bool} (ho : s.heap.get? f = some (fnObj (some d) fd)) (hd : s.heap.Ns d m) (hv : m name = some v) (hl : typeLookup (.type "function") name = pure none) (hb : handedOut v = pure v)
    {Q : Value × List Value → Shared → Prop} (h : Q (v, []) { s with toks := s.toks + 1 }) : wpAny (model prog w) A (getMethod (.ref f) name pl) Q E s := by
  have hT : s.TypeIs (.ref f) "function" := ⟨_, ho, rfl⟩
  unfold getMethod
  refine wpAny_bind (wpAny_specialOf hT slot_fn_ga.lookup ?_)
  show wpAny _ _ (if (Manifest.canonical "object.__getattribute__" != "object.__getattribute__") = true then _ else _) _ _ _
  rw [if_neg (by rw [canon_ga]; decide)]
  refine wpAny_bind (wpAny_specialOf hT look_fn_getattr ?_)
  refine wpAny_bind (wpAny_specialOf hT hl ?_)
  exact wpAny_bind (fnget ho hd hv hl hb (wpAny_pure h))
end
end Mine

-- M8
namespace Mine
local macro_rules | `(tactic| walk_at "enterC") => `(tactic| (
  (case k6 => k_is); (case k7 => k_is); (case k8 => (simp only [recursionLimit]; omega));
  (case k9 => (refine' kp_binds ?kx ?ke; (case kx => assumption); (case ke => exact fun _ => rfl)));
  (case kB => exact rfl); (case kD => decide +kernel); (case c2 => exact rfl); (case c3 => exact rfl); (case c4 => exact rfl)))
local macro_rules | `(tactic| walk_at "go") => `(tactic| repeat' (
  (fail_if_success (with_reducible show wpAny _ _ (exec (Stmt.While _ _ _ _) _) _ _ _));
  (fail_if_success (with_reducible show wpAny _ _ (exec (Stmt.For _ _ _ _ _) _) _ _ _));
  (fail_if_success (with_reducible show wpAny _ _ (exec (Stmt.Assign _ (Expr.ListComp _ _ _ _) _) _) _ _ _));
  (fail_if_success (with_reducible show wpAny _ _ (call (Value.ref _) _ _) _ _ _));
  (fail_if_success (with_reducible show wpAny _ _ (eval (Expr.Lambda _ _ _ _) _) _ _ _));
  (fail_if_success (with_reducible show wpAny _ _ (pyIter _) _ _ _));
  (fail_if_success (with_reducible show wpAny _ _ (setItem _ _ _) _ _ _));
  (fail_if_success (with_reducible show wpAny _ _ (setAttr _ _ _) _ _ _));
  (fail_if_success (with_reducible show Exists _));
  (first | walk1 | (dsimp only; walk1)); (try dsimp only)))
local macro_rules | `(tactic| walk_at "eval Name") => `(tactic| ((with_reducible show wpAny _ _ (eval (Expr.Name _ _) (envOf _ _ _ _ _)) _ _ _); refine ld (by assumption) (by with_unfolding_all assumption) ?_ (by kernel_rfl!) (by kernel_rfl!) (by decide +kernel)))
local macro_rules | `(tactic| walk_at "eval Name") => `(tactic| ((with_reducible show wpAny _ _ (eval (Expr.Name _ _) (envX _ _ _ _ _ _)) _ _ _); refine nameFree (by assumption) rfl (by assumption) (by assumption) ?_ rfl rfl (by decide) (by decide)))
local macro_rules | `(tactic| walk_at "eval Name") => `(tactic| ((with_reducible show wpAny _ _ (eval (Expr.Name _ _) (envOfC _ _ _ _ _)) _ _ _); refine nameLocC (by assumption) (by with_unfolding_all assumption) ?_ rfl rfl (by decide)))

/-- how far a rule's path reaches into a name -/
def applies (path nm : Str) : Int := if (Txt.slice nm none (some (path.length : Int)) == path) = true then (path.length : Int) + 1 else 0
/-- an object is the namespace m -/
def NsObj1 (o : Obj) (m : Str → Option Value) : Prop := ∃ es ep, o.data = .dict es ep ∧ StrKeys es ∧ ∀ name, nsFind es name = m name
/-- a rule's function object, told by a list of objects that stay -/
structure RuleOf (w : World) (g : Heap) (L0 : List (Addr × Obj)) (f : Addr) (path : Str) (al : Bool) : Prop where
  fn : ∃ d fd od m lf olf fdl, (f, fnObj (some d) fd) ∈ L0 ∧ (d, od) ∈ L0 ∧ NsObj1 od m ∧ m (Str.ofString "applies_to") = some (.ref lf) ∧ m (Str.ofString "allowance") = some (.bool al) ∧ (lf, olf) ∈ L0 ∧ olf.data = .func fdl ∧
    (∀ A' s₁ nm tn (Q : Value → Shared → Prop), A'.depth < 950 → A'.handled = none → nm.length ≤ 4 → (∀ b o, g.get? b = some o → s₁.heap.get? b = some o) → (∀ p ∈ L0, s₁.heap.get? p.1 = some p.2) →
      (∀ h' tk' tr, (∀ b o, s₁.heap.get? b = some o → h'.get? b = some o) → Q (.int (applies path nm) tr) { s₁ with heap := h', toks := tk' }) → wpAny (model PySem.Challenge.rw_ny0145_01.row.prog w) A' (call (.ref lf) [.str nm tn]) Q (fun _ _ => False) s₁)
theorem RuleOf.mono {w : World} {g : Heap} {L0 L1 : List (Addr × Obj)} {f : Addr} {path : Str} {al : Bool} (r : RuleOf w g L0 f path al) (hs : ∀ p ∈ L0, p ∈ L1) : RuleOf w g L1 f path al := by
  obtain ⟨d, fd, od, m, lf, olf, fdl, h1, h2, h3, h4, h5, h6, h7, h8⟩ := r.fn
  exact ⟨d, fd, od, m, lf, olf, fdl, hs _ h1, hs _ h2, h3, h4, h5, hs _ h6, h7, fun A' s₁ nm tn Q a b c e k q => h8 A' s₁ nm tn Q a b c e (fun p hp => k p (hs p hp)) q⟩
/-- the code object of a lambda of `_law_rule` -/
def CodeO (o : Obj) : Prop := ∃ vs t, o.data = .fields vs ∧ vs[1]? = some (.str (Str.ofString "_law_rule.<locals>.<lambda>") t)
/-- the table of `_law_rule` -/
def Tab2 (g h : Heap) : Prop := h.get? 85 = some (tabObj #[]) ∨ ∃ c1 c2, h.get? 85 = some (tabObj #[rawInt 99, rawInt 11, .ref c1, rawInt 100, rawInt 22, .ref c2]) ∧ h.CodeRec (.ref c1) (Str.ofString "_law_rule.<locals>.<lambda>") ∧ h.CodeRec (.ref c2) (Str.ofString "_law_rule.<locals>.<lambda>") ∧ g.get? c2 = none ∧ g.get? c1 = none
theorem news_swap {g h : Heap} {L : Addr} {a b : Addr × Obj} {news : List (Addr × Obj)} (N : News g L h (a :: b :: news)) : News g L h (b :: a :: news) := fun p hp => N p (by
  rcases List.mem_cons.mp hp with rfl | hp
  · exact .tail _ (.head _)
  · rcases List.mem_cons.mp hp with rfl | hp
    · exact .head _
    · exact .tail _ (.tail _ hp))
theorem code_off {h : Heap} {P c' c1 c2 : Addr} {q : Str} {a b e d : Nat} (t : h.get? P = some (tabObj #[rawInt a, rawInt b, .ref c1, rawInt e, rawInt d, .ref c2])) (r : h.CodeRec (.ref c') q) : (h.hide P).CodeRec (.ref c') q := by
  obtain ⟨c2, o, vs, tq, e, ho, hd, hv⟩ := r
  cases e
  have : c' ≠ P := fun e => by
    rw [e, t] at ho
    cases ho
    cases hd
    simp [rawInt] at hv
  exact ⟨c', o, vs, tq, rfl, by rw [Heap.hide_ne _ this]; exact ho, hd, hv⟩

set_option maxHeartbeats 8000000 in
theorem rule_spec {w : World} {A : Around} {s : Shared} {g : Heap} {loose mean mg mb} {path : Str} {tp : Tok} {al : Bool} {R : Result → Shared → Prop}
    (X : (hd.heap_39 w.params).In g) (T : Top topProg loose mean mg mb g) (hA : A.depth < 700) (hh : A.handled = none)
    (hs : ∀ b o, g.get? b = some o → s.heap.get? b = some o) (hgs : g.objs.size ≤ s.heap.objs.size) (C : CodeHd g 89 85) (hg : g.get? 85 = none) (hT : Tab2 g s.heap) (hp4 : path.length ≤ 4)
    (hR : ∀ h' tk f L0, Tab2 g h' → (∀ p ∈ L0, h'.get? p.1 = some p.2) → (∀ p ∈ L0, g.get? p.1 = none) → (∀ p ∈ L0, p.1 ≠ 85 ∧ p.2 ≠ tabObj #[] ∧ (s.heap.objs.size ≤ p.1 ∨ CodeO p.2) ∧ ∀ its n, p.2.data ≠ .seq its n) → RuleOf w g L0 f path al →
      (∀ b o, b ≠ 85 → s.heap.get? b = some o → h'.get? b = some o) → R (.ok (.ret (.ref f))) { s with heap := h', toks := tk }) :
    codeAny (model PySem.Challenge.rw_ny0145_01.row.prog w) A (.call (.ref 90) ⟨[.str path tp, .bool al], []⟩) R s := by
  obtain ⟨hd0, dp, fr, gd, un⟩ := A
  dsimp only at hh hA
  subst hh
  have X0 := X
  have T0 := T
  have hs' := sub_hide hs hg
  replace X := X.keeps hs'
  replace T := T.keeps hs'
  replace C := C.keeps hs'
  have Xs := X.keeps (fun b o e => Heap.of_hide (a := 85) e)
  revert X; k_fill; intro X
  refine' enterC (g := s.heap.hide 85) [(Str.ofString "path", .str path tp), (Str.ofString "allows", .bool al)] X T.nolimit (fun b o e => Heap.of_hide e) (Nat.le_of_eq (Heap.hide_size _ _)) ?k6 ?k7 ?k8 ?k9 ?kB ?kD ?_ ?c2 ?c3 ?c4
  walk_at "enterC"
  intro h₁ tk cells F N Y hall
  clear Xs
  obtain ⟨o1, rfl, d1⟩ := Y.one
  replace d1 : o1.data = .cell (some (.str path tp)) := d1
  obtain ⟨ps, hTT, hps⟩ : ∃ ps, s.heap.get? 85 = some (tabObj ps) ∧ (ps = #[] ∨ ∃ c1 c2, ps = #[rawInt 99, rawInt 11, .ref c1, rawInt 100, rawInt 22, .ref c2] ∧ (s.heap.hide 85).CodeRec (.ref c1) (Str.ofString "_law_rule.<locals>.<lambda>") ∧ (s.heap.hide 85).CodeRec (.ref c2) (Str.ofString "_law_rule.<locals>.<lambda>") ∧ g.get? c2 = none ∧ g.get? c1 = none) := by
    rcases hT with h | ⟨c1, c2, h, r, r2, r3⟩
    · exact ⟨_, h, .inl rfl⟩
    · exact ⟨_, h, .inr ⟨c1, c2, rfl, code_off h r, code_off h r2, r3⟩⟩
  have N2 := news_add N (hall _ _ hTT) (Nat.ne_of_lt (Heap.lt_size hTT)) (Heap.hide_self _ _)
  have h85 : 85 < s.heap.objs.size := Heap.lt_size hTT
  clear N Y
  walk_at "go"
  refine kla_eval rfl ?_
  refine lam_make2 (c := 89) (cA := s.heap.objs.size + 1) (oc := o1) F N2 T C rfl ?ne (.head _) ?hps rfl ?_
  case ne => intro q hq; rw [List.mem_singleton.mp hq]; exact Nat.ne_of_gt (show 85 < s.heap.objs.size + 1 by omega)
  case hps =>
    rcases hps with rfl | ⟨c1, c2, rfl, r1, r2, _⟩
    · exact .inl ⟨trivial, rfl⟩
    · refine .inr ⟨c1, trivial, ?_, fun h'' hk _ => r1.keeps hk⟩
      simp [codeAmong, rawInt]
  intro f c1 ctv h2 tk2 cB ob ps' F2 N3 hps2 hcd hcB hcBf hlf hPf
  clear F N2
  have hgc1 : g.get? c1 = none := by
    rcases hps with rfl | ⟨c1', c2, rfl, r1, r2, r3, r4⟩
    · rcases hps2 with ⟨_, h2⟩ | ⟨_, rfl, rfl, _⟩
      · cases h2
      · have := (N3 _ (.tail _ (.tail _ (.head _)))).2.2
        cases e : g.get? cB with
        | none => rfl
        | some o => have e2 := hs' _ _ e; dsimp only at this; rw [this] at e2; cases e2
    · rcases hps2 with ⟨rfl, h2⟩ | ⟨h2, _⟩
      · simp [codeAmong, rawInt] at h2
        subst h2
        exact r4
      · simp [codeAmong, rawInt] at h2
  have hq : ps' = #[rawInt 99, rawInt 11, .ref c1] ∨ ∃ c2, ps' = #[rawInt 99, rawInt 11, .ref c1, rawInt 100, rawInt 22, .ref c2] ∧ (s.heap.hide 85).CodeRec (.ref c2) (Str.ofString "_law_rule.<locals>.<lambda>") ∧ g.get? c2 = none := by
    rcases hps with rfl | ⟨c1', c2, rfl, r1, r2, r3, _⟩
    · rcases hps2 with ⟨_, h2⟩ | ⟨_, rfl, _⟩
      · cases h2
      · exact .inl rfl
    · rcases hps2 with ⟨rfl, h2⟩ | ⟨h2, _⟩
      · simp [codeAmong, rawInt] at h2
        subst h2
        exact .inr ⟨c2, rfl, r2, r3⟩
      · simp [codeAmong, rawInt] at h2
  clear hps2 hps
  have hf1 : @LT.lt Nat _ (s.heap.objs.size + 1) f := hlf _ (.head _)
  dsimp only
  walk_at "go"
  rename Fr _ _ _ _ => F3; rename News _ _ _ _ => N4
  refine kla_eval rfl ?_
  have N5 := news_swap N4
  refine lam_make2 (c := 89) (cA := s.heap.objs.size + 1) (oc := o1) F3 N5 T C rfl ?ne (.tail _ (.tail _ (.head _))) ?hps rfl ?_
  case ne => 
    intro q hq
    rcases List.mem_cons.mp hq with rfl | hq
    · exact Nat.ne_of_gt hPf
    · rcases List.mem_cons.mp hq with rfl | hq
      · have hz : @LT.lt Nat _ s.heap.objs.size cB := by
          rcases hcB with rfl | hcB
          · exact Nat.lt_succ_self _
          · exact Nat.lt_trans (Nat.lt_succ_self _) (hcB _ (.head _))
        exact Nat.ne_of_gt (show @LT.lt Nat _ 85 cB from Nat.lt_trans h85 hz)
      · rw [List.mem_singleton.mp hq]; exact Nat.ne_of_gt (show 85 < s.heap.objs.size + 1 by omega)
  case hps =>
    rcases hq with rfl | ⟨c2, rfl, r2, _⟩
    · refine .inl ⟨trivial, ?_⟩
      simp [codeAmong, rawInt]
    · refine .inr ⟨c2, trivial, ?_, fun h'' hk _ => r2.keeps hk⟩
      simp [codeAmong, rawInt]
  intro lf c2 ctv2 h4 tk4 cB2 ob2 ps2 F5 N6 hps3 hcd2 hcB2 hcBf2 hlf2 hPf2
  clear F3 N4 N5
  have hq2 : ps2 = #[rawInt 99, rawInt 11, .ref c1, rawInt 100, rawInt 22, .ref c2] ∧ g.get? c2 = none := by
    rcases hq with rfl | ⟨c2', rfl, r2, r3⟩
    · rcases hps3 with ⟨_, h2⟩ | ⟨_, rfl, rfl, _⟩
      · simp [codeAmong, rawInt] at h2
      · refine ⟨rfl, ?_⟩
        have := (N6 _ (.tail _ (.tail _ (.head _)))).2.2
        cases e : g.get? cB2 with
        | none => rfl
        | some o => have e2 := hs' _ _ e; dsimp only at this; rw [this] at e2; cases e2
    · rcases hps3 with ⟨rfl, h2⟩ | ⟨h2, _⟩
      · simp [codeAmong, rawInt] at h2
        subst h2
        exact ⟨rfl, r3⟩
      · simp [codeAmong, rawInt] at h2
  clear hps3 hq
  obtain ⟨rfl, hgc2⟩ := hq2
  have hlf1 : @LT.lt Nat _ f lf := hlf2 _ (.head _)
  dsimp only
  refine via N6 (fun news => ∀ A' s₁ nm tn (Q : Value → Shared → Prop), A'.depth < 950 → A'.handled = none → nm.length ≤ 4 → (∀ b o, g.get? b = some o → s₁.heap.get? b = some o) → (∀ p ∈ news, p.1 = lf ∨ p.1 = s.heap.objs.size + 1 → s₁.heap.get? p.1 = some p.2) → s₁.heap.CodeRec (.ref c2) (Str.ofString "_law_rule.<locals>.<lambda>") →
    (∀ h' tk' tr, (∀ b o, s₁.heap.get? b = some o → h'.get? b = some o) → Q (.int (applies path nm) tr) { s₁ with heap := h', toks := tk' }) → wpAny (model PySem.Challenge.rw_ny0145_01.row.prog w) A' (call (.ref lf) [.str nm tn]) Q (fun _ _ => False) s₁) ?hk fun hkey => ?_
  case hk =>
    intro A' s₁ nm tn Q hd hh hn4 hb hn hcr hQ
    obtain ⟨hd0, dp', fr', gd', un'⟩ := A'
    dsimp only at hh hd
    subst hh
    have hX := X0.keeps hb
    have hT := T0.keeps hb
    have hc1 := hn _ (.tail _ (.tail _ (.tail _ (.tail _ (.tail _ (.head _)))))) (.inr rfl)
    dsimp only at hc1
    refine wpAny_call (enterL (g := s₁.heap) [(Str.ofString "name", .str nm tn)] hT.nolimit (fun _ _ e => e) (Nat.le_refl _) (hn _ (.head _) (.inl rfl)) rfl hcr (by simp only [recursionLimit]; omega) rfl (locs rfl) ?_ rfl rfl rfl (by decide))
    intro h3 F3 _
    clear X T C X0 T0
    have N4 : News s₁.heap s₁.heap.objs.size h3 [] := News.nil
    dsimp only
    walk_at "go"
    · rename (Txt.slice nm none (some ↑path.length) == path) = true => hx
      rename Fr _ _ _ _ => F4
      have e : applies path nm = (path.length : Int) + 1 := if_pos hx
      rw [e] at hQ
      exact hQ _ _ _ F4.keep
    · rename (Txt.slice nm none (some ↑path.length) == path) = false => hx
      rename Fr _ _ _ _ => F4
      have e : applies path nm = 0 := if_neg (by rw [hx]; exact Bool.false_ne_true)
      rw [e] at hQ
      exact hQ _ _ _ F4.keep
  clear X0 T0
  walk_at "go"
  refine fnset1 (N6 _ (.tail _ (.tail _ (.tail _ (.head _))))).1 look_fn_applies fun h5 tk5 hf5 hns5 hk5 => ?_
  have F6 := fr_mov F5 (Nat.lt_trans (Nat.lt_succ_self _) hf1) hk5
  have N7 : News (s.heap.hide 85) s.heap.objs.size h5 [] := News.nil
  have G0 := N6 _ (.head _)
  have G1 := N6 _ (.tail _ (.head _))
  have G2 := N6 _ (.tail _ (.tail _ (.head _)))
  have G3 := N6 _ (.tail _ (.tail _ (.tail _ (.head _))))
  have G4 := N6 _ (.tail _ (.tail _ (.tail _ (.tail _ (.head _)))))
  have G5 := N6 _ (.tail _ (.tail _ (.tail _ (.tail _ (.tail _ (.head _))))))
  replace hkey := fun A' s₁ nm tn Q a1 a2 a3 a4 (hlo : s₁.heap.get? lf = _) (hco : s₁.heap.get? (s.heap.objs.size + 1) = some o1) a6 a7 => hkey A' s₁ nm tn Q a1 a2 a3 a4 (fun p hp he => by
    have hp4 := (N6 p hp).1
    rcases he with he | he
    · rw [he] at hp4 ⊢; exact hlo.trans (G0.1.symm.trans hp4)
    · rw [he] at hp4 ⊢; exact hco.trans (G5.1.symm.trans hp4)) a6 a7
  clear N6
  have hdl : @LT.lt Nat _ s.heap.objs.size h4.objs.size := F5.ns.lt
  dsimp only at G0 G1 G2 G3 G4 G5 hf5 hk5 ⊢
  walk_at "go"
  refine fnset2 hf5 hns5 (PySem.Within.cons _ _ PySem.Within.nil) (by simp) look_fn_allowance fun h6 tk6 hns6 hk6 => ?_
  have hk46 : ∀ b o, b ≠ f → h4.get? b = some o → h6.get? b = some o := fun b o hb e => hk6 b o (Nat.ne_of_lt (Heap.lt_size e)) (hk5 b o hb e)
  have hbase : ∀ b o, (s.heap.hide 85).get? b = some o → h6.get? b = some o := fun b o e => hk46 b o (fun q => by rw [q, G3.2.2] at e; cases e) (F5.keep b o e)
  have hf6 := hk6 f _ (Nat.ne_of_lt (Heap.lt_size G3.1)) hf5
  have F7 := fr_mov F6 (show @LT.lt Nat _ s.heap.objs.size h4.objs.size from hdl) hk6
  dsimp only
  walk_at "go"
  have hg0 : ∀ b, (s.heap.hide 85).get? b = none → g.get? b = none := fun b e => by
    cases q : g.get? b with
    | none => rfl
    | some o => rw [hs' _ _ q] at e; cases e
  have h856 := hk46 _ _ (Nat.ne_of_lt hPf) G1.1
  have hcB6 : h6.get? cB = some ob := hk46 _ _ (Nat.ne_of_lt hcBf) G4.1
  have hcB26 : h6.get? cB2 = some ob2 := hk46 _ _ (by
    rcases hcB2 with rfl | hcB2
    · exact Nat.ne_of_lt hf1
    · exact Nat.ne_of_gt (hcB2 _ (.head _))) G2.1
  have hr1 : h6.CodeRec (.ref c1) (Str.ofString "_law_rule.<locals>.<lambda>") := hcd h6 hbase hcB6
  have hr2 : h6.CodeRec (.ref c2) (Str.ofString "_law_rule.<locals>.<lambda>") := hcd2 h6 hbase hcB26
  have hT6 : Tab2 g h6 := .inr ⟨c1, c2, h856, hr1, hr2, hgc2, hgc1⟩
  have hr3 := code_off h856 hr2
  obtain ⟨c2', o2, vs2, tq, e2, ho2, hd2, hv2⟩ := hr2
  cases e2
  have hc285 : c2 ≠ 85 := fun e => by
    obtain ⟨_, _, _, _, e', h', _⟩ := hr3
    cases e'
    rw [e, Heap.hide_self] at h'
    cases h'
  obtain ⟨od, es, ep, hod, hdd, hsk, hnf⟩ := hns6.ns
  have hlf6 := hk46 _ _ (Nat.ne_of_gt hlf1) G0.1
  have hc6 := hk46 _ _ (Nat.ne_of_lt hf1) G5.1
  refine' hR h6 _ f [(f, _), (h4.objs.size, od), (lf, _), (c2, o2), (s.heap.objs.size + 1, o1)] hT6 ?l1 ?l2 ?l3 ?l4 ?l5
  case l1 =>
    intro p hp
    rcases List.mem_cons.mp hp with rfl | hp
    · exact hf6
    rcases List.mem_cons.mp hp with rfl | hp
    · exact hod
    rcases List.mem_cons.mp hp with rfl | hp
    · exact hlf6
    rcases List.mem_cons.mp hp with rfl | hp
    · exact ho2
    rw [List.mem_singleton.mp hp]
    exact hc6
  case l2 =>
    intro p hp
    rcases List.mem_cons.mp hp with rfl | hp
    · exact hg0 _ G3.2.2
    rcases List.mem_cons.mp hp with rfl | hp
    · exact hg0 _ (Heap.get?_none_of_le (Nat.le_trans F5.above (Nat.le_of_lt hdl)))
    rcases List.mem_cons.mp hp with rfl | hp
    · exact hg0 _ G0.2.2
    rcases List.mem_cons.mp hp with rfl | hp
    · exact hgc2
    rw [List.mem_singleton.mp hp]
    exact hg0 _ G5.2.2
  case l3 =>
    intro p hp
    rcases List.mem_cons.mp hp with rfl | hp
    · exact ⟨Nat.ne_of_gt hPf, fun e => (by cases e), .inl (Nat.le_of_lt (Nat.lt_of_succ_lt hf1)), fun _ _ e => (by cases e)⟩
    rcases List.mem_cons.mp hp with rfl | hp
    · exact ⟨Nat.ne_of_gt (Nat.lt_trans h85 hdl), fun e => (by dsimp only at e; rw [e] at hdd; cases hdd), .inl (Nat.le_of_lt hdl), fun _ _ e => (by dsimp only at e; rw [hdd] at e; cases e)⟩
    rcases List.mem_cons.mp hp with rfl | hp
    · exact ⟨Nat.ne_of_gt hPf2, fun e => (by cases e), .inl (Nat.le_of_lt (Nat.lt_trans (Nat.lt_of_succ_lt hf1) hlf1)), fun _ _ e => (by cases e)⟩
    rcases List.mem_cons.mp hp with rfl | hp
    · refine ⟨hc285, fun e => ?_, .inr ⟨vs2, tq, hd2, hv2⟩, fun _ _ e => (by dsimp only at e; rw [hd2] at e; cases e)⟩
      dsimp only at e
      rw [e] at hd2
      cases hd2
      simp at hv2
    rw [List.mem_singleton.mp hp]
    exact ⟨Nat.ne_of_gt (show 85 < s.heap.objs.size + 1 by omega), fun e => (by dsimp only at e; rw [e] at d1; cases d1), .inl (Nat.le_succ _), fun _ _ e => (by dsimp only at e; rw [d1] at e; cases e)⟩
  case l4 =>
    refine ⟨h4.objs.size, _, od, _, lf, _, _, .head _, .tail _ (.head _), ⟨es, ep, hdd, hsk, hnf⟩, rfl, rfl, .tail _ (.tail _ (.head _)), rfl, ?_⟩
    intro A' s₁ nm tn Q a1 a2 a3 a4 a5 a6
    refine hkey A' s₁ nm tn Q a1 a2 a3 a4 (a5 _ (.tail _ (.tail _ (.head _)))) (a5 _ (.tail _ (.tail _ (.tail _ (.tail _ (.head _)))))) ⟨c2, o2, vs2, tq, rfl, a5 _ (.tail _ (.tail _ (.tail _ (.head _)))), hd2, hv2⟩ a6
  case l5 => exact hide_keep hbase
end Mine

-- B10
namespace Mine
section
variable {prog : Program} {w : World} {A : Around} {s : Shared} {elt iter : Expr} {x : Str} {px : Pos} {scope : Scope} {pos : Pos} {env : Env} {use : Option (Value → Sem Unit)} {Q : Value → Shared → Prop} {cl : List (Str × Addr)}
/-- a list comprehension over a range, without tests and cells of its own: from the iterator on -/
theorem comp_range {r : Addr} {a b c : Int} {t u v : Tok} {n : Nat} (hh : A.handled = none) (hcell : ∀ y ∈ scope.names, y.2 ≠ .cell) (hkind : scope.kind = .function)
    (hr : IsRange s.heap r a b c t u v) (hsm : Builtin.Range.small a b c = true) (hn : Builtin.Range.rangeSize a b c = (n : Int)) (J : Nat → Heap → Prop)
    (h0 : ∀ h₁, Fr s.heap (s.heap.objs.size + 2) h₁ (fun _ => none) → News s.heap (s.heap.objs.size + 2) h₁ [(s.heap.objs.size + 1, listOf #[] 0)] → J 0 h₁)
    (new : ∀ i h h', J i h → (∀ b o, b ≠ s.heap.objs.size → h.get? b = some o → h'.get? b = some o) → J i h')
    (step : ∀ (i : Nat) ti h tk oI, i < n → J i h → h.get? s.heap.objs.size = some oI → wpAny (model prog w) A (assign (.Name x px) (compEnvC scope cl (s.heap.objs.size + 2) env) (.int (a + i * c) ti)) (fun _ s₂ =>
        wpAny (model prog w) A (eval elt (compEnvC scope cl (s.heap.objs.size + 2) env)) (fun x s₄ => wpAny (model prog w) A (call (.builtin "list.append") [.ref (s.heap.objs.size + 1), x]) (fun _ s₅ =>
            ∃ h' tk', s₅ = { s with heap := h', toks := tk' } ∧ J (i + 1) h' ∧ h'.get? s.heap.objs.size = some oI) (fun _ _ => False) s₄) (fun _ _ => False) s₂) (fun _ _ => False) { s with heap := h, toks := tk })
    (fin : ∀ h tk, J n h → compPost (model prog w) A (fun _ _ => False) use Q (.ref (s.heap.objs.size + 1)) (s.heap.objs.size + 2) (.ok .next) { s with heap := h, toks := tk }) :
    wpAny (model prog w) A (pyIter (.ref r)) (fun it s₂ => wpAny (model prog w) A (newList []) (fun acc s₃ =>
      wpAny (model prog w) A (newFunctionEnv scope env.globals cl [] env.qual none .none (some env)) (fun cenv s₄ =>
        codeAny (model prog w) A (.compStart (.ListComp elt [⟨.Name x px, iter, [], 0⟩] scope pos) 0 it acc { cenv with scope := relabel scope env }) (compPost (model prog w) A (fun _ _ => False) use Q acc cenv.locals) s₄) (fun _ _ => False) s₃) (fun _ _ => False) s₂) (fun _ _ => False) s := by
  refine wpAny_pyIter_range hr hsm ?_
  refine wpAny_newObj_type (wpAny_newFunctionEnv hcell (by intro y hy; simp at hy) (fun h₁ hns₁ hsb₁ => ?_) hkind)
  dsimp only at hns₁ hsb₁ ⊢
  generalize hit : ({ cls := .type "range_iterator", data := .fields #[rawInt a, rawInt (Builtin.Range.rangeSize a b c), rawInt c] } : Obj) = oit at hns₁ hsb₁ ⊢
  generalize hH1 : s.heap.push oit = H1 at hns₁ hsb₁ ⊢
  have hD : H1.objs.size = s.heap.objs.size + 1 := by rw [← hH1, Heap.size_push]
  generalize hH2 : H1.push { cls := .type "list", dict := none, data := .seq ([] : List Value).toArray } = H2 at hns₁ hsb₁ ⊢
  have hC : H2.objs.size = s.heap.objs.size + 2 := by rw [← hH2, Heap.size_push, hD]
  rw [hC] at hns₁ hsb₁ ⊢
  rw [hD]
  have up : ∀ b o, b ≠ s.heap.objs.size + 2 → H2.get? b = some o → h₁.get? b = some o := fun b o hb e => hsb₁.extBut b o hb (Heap.get?_push_of_some _ e)
  have old : ∀ b o, s.heap.get? b = some o → h₁.get? b = some o := fun b o e => up b o (Nat.ne_of_lt (Nat.lt_of_lt_of_le (Heap.lt_size e) (Nat.le_add_right _ 2))) (hH2 ▸ Heap.get?_push_of_some _ (hH1 ▸ Heap.get?_push_of_some _ e))
  have itr : h₁.get? s.heap.objs.size = some oit := up _ _ (by omega) (hH2 ▸ Heap.get?_push_of_some _ (hH1 ▸ Heap.get?_push_size _ (hit ▸ rfl)))
  have acc : h₁.get? (s.heap.objs.size + 1) = some (listOf #[] 0) := up _ _ (by omega) (by rw [← hH2, ← hD]; exact Heap.get?_push_size _ rfl)
  have fresh : ∀ a, s.heap.objs.size ≤ a → s.heap.get? a = none := fun a ha => Heap.get?_none_of_le ha
  have F0 : Fr s.heap (s.heap.objs.size + 2) h₁ (fun _ => none) := ⟨hns₁, old, by omega⟩
  have N0 : News s.heap (s.heap.objs.size + 2) h₁ [(s.heap.objs.size + 1, listOf #[] 0)] := fun p hp => by
    rcases List.mem_singleton.mp hp with rfl
    exact ⟨acc, by show s.heap.objs.size + 1 ≠ _; omega, fresh _ (by show s.heap.objs.size ≤ s.heap.objs.size + 1; omega)⟩
  have st0 : IsRangeIter h₁ s.heap.objs.size (a + ((0 : Nat) : Int) * c) ((n : Int) - ((0 : Nat) : Int)) c := by
    have e1 : a + ((0 : Nat) : Int) * c = a := by simp
    have e2 : (n : Int) - ((0 : Nat) : Int) = Builtin.Range.rangeSize a b c := by rw [hn]; simp
    rw [e1, e2]
    rw [← hit] at itr
    exact itr
  have loop : ∀ s₃ : Shared, s₃ = { s with heap := h₁, toks := s.toks + ([] : List (Str × Value)).length } →
      codeAny (model prog w) A (.compLoop (.ListComp elt [⟨.Name x px, iter, [], 0⟩] scope pos) 0 (.ref s.heap.objs.size) (.ref (s.heap.objs.size + 1)) (compEnvC scope cl (s.heap.objs.size + 2) env))
        (compPost (model prog w) A (fun _ _ => False) use Q (.ref (s.heap.objs.size + 1)) (s.heap.objs.size + 2)) s₃ := by
    rintro s₃ rfl
    refine comp_raw (Walks.range hh s.heap.objs.size a c n) J st0 (h0 h₁ F0 N0)
      (fun i h h' hJ hk => new i h h' hJ fun b o hb e => hk b o (by simpa using hb) e)
      (fun i s' v Q' E' _ _ _ hq => wpAny_pure hq)
      (fun i v h tk hi hv hJ st => ?_) (fun h tk hJ => fin h tk hJ)
    obtain ⟨ti, rfl⟩ := hv
    refine wpAny_mono (step i ti h tk _ hi hJ st) (fun _ s₂ h₂ => ?_) fun _ _ e => e
    rw [List.forIn_nil]
    refine wpAny_pure ?_
    rw [if_pos rfl]
    refine wpAny_mono h₂ (fun x s₄ h₄ => wpAny_mono h₄ (fun _ s₅ h₅ => ?_) fun _ _ e => e) fun _ _ e => e
    obtain ⟨h₃', tk₃, rfl, hJ₃, hf⟩ := h₅
    refine ⟨h₃', tk₃, rfl, hJ₃, fun b hb o e => ?_⟩
    rw [List.mem_singleton.mp hb] at e ⊢
    have e1 : h.get? s.heap.objs.size = some _ := st
    rw [e1] at e; cases e; exact hf
  exact codeAny_compStart_list (loop _ rfl) (wpAny_pyIter_rangeiter st0 (loop _ rfl))

/-- a list comprehension over a list, whose one name is a cell: from the iterator on -/
theorem comp_cell {l : Addr} {items : Array Value} (hh : A.handled = none) (hec : ∀ n, cellsFrom n scope.names cl = (x, n) :: cl) (hep : ∀ H : Heap, pushCells H scope.names = H.push { cls := .type "cell", data := .cell none }) (hkind : scope.kind = .function)
    (hl : s.heap.IsList l items) (J : Nat → Heap → Prop)
    (h0 : ∀ h₁, Fr s.heap (s.heap.objs.size + 2) h₁ (fun _ => none) → News s.heap (s.heap.objs.size + 2) h₁ [(s.heap.objs.size + 3, { cls := .type "cell", data := .cell none }), (s.heap.objs.size + 1, listOf #[] 0)] → J 0 h₁)
    (new : ∀ i h h', J i h → (∀ b o, b ≠ s.heap.objs.size → h.get? b = some o → h'.get? b = some o) → J i h')
    (step : ∀ (i : Nat) v h tk oI, i < items.size → items[i]? = some v → J i h → h.get? s.heap.objs.size = some oI → wpAny (model prog w) A (assign (.Name x px) (compEnvC scope ((x, s.heap.objs.size + 3) :: cl) (s.heap.objs.size + 2) env) v) (fun _ s₂ =>
        wpAny (model prog w) A (eval elt (compEnvC scope ((x, s.heap.objs.size + 3) :: cl) (s.heap.objs.size + 2) env)) (fun x s₄ => wpAny (model prog w) A (call (.builtin "list.append") [.ref (s.heap.objs.size + 1), x]) (fun _ s₅ =>
            ∃ h' tk', s₅ = { s with heap := h', toks := tk' } ∧ J (i + 1) h' ∧ h'.get? s.heap.objs.size = some oI ∧ (∀ o, s.heap.get? l = some o → h'.get? l = some o)) (fun _ _ => False) s₄) (fun _ _ => False) s₂) (fun _ _ => False) { s with heap := h, toks := tk })
    (hlk : ∀ i h, J i h → ∀ o, s.heap.get? l = some o → h.get? l = some o)
    (fin : ∀ h tk, J items.size h → compPost (model prog w) A (fun _ _ => False) use Q (.ref (s.heap.objs.size + 1)) (s.heap.objs.size + 2) (.ok .next) { s with heap := h, toks := tk }) :
    wpAny (model prog w) A (pyIter (.ref l)) (fun it s₂ => wpAny (model prog w) A (newList []) (fun acc s₃ =>
      wpAny (model prog w) A (newFunctionEnv scope env.globals cl [] env.qual none .none (some env)) (fun cenv s₄ =>
        codeAny (model prog w) A (.compStart (.ListComp elt [⟨.Name x px, iter, [], 0⟩] scope pos) 0 it acc { cenv with scope := relabel scope env }) (compPost (model prog w) A (fun _ _ => False) use Q acc cenv.locals) s₄) (fun _ _ => False) s₃) (fun _ _ => False) s₂) (fun _ _ => False) s := by
  have hlt : l < s.heap.objs.size := let ⟨_, ho, _⟩ := hl; Heap.lt_size ho
  refine wpAny_pyIter_list hl ?_
  refine wpAny_newObj_type ?_
  unfold newFunctionEnv
  simp only [Option.isSome_some, if_true]
  refine wpAny_bind (wpAny_alloc ?_)
  refine wpAny_bind (wpAny_layCells _ (fun name kind cells => by cases hkc : kind == NameKind.cell <;> simp [hkc]) _ _ _ _ ?_)
  rw [List.forIn_nil]
  refine wpAny_bind (wpAny_pure (wpAny_pure ?_))
  dsimp only
  generalize hit : ({ cls := .type "list_iterator", data := .fields #[.ref l, .int 0 0] } : Obj) = oit
  generalize hH1 : s.heap.push oit = H1
  have hD : H1.objs.size = s.heap.objs.size + 1 := by rw [← hH1, Heap.size_push]
  generalize hH2 : H1.push { cls := .type "list", dict := none, data := .seq ([] : List Value).toArray } = H2
  have hC : H2.objs.size = s.heap.objs.size + 2 := by rw [← hH2, Heap.size_push, hD]
  generalize hH3 : H2.push { cls := .type "dict", data := .dict #[] } = H3
  have hE : H3.objs.size = s.heap.objs.size + 3 := by rw [← hH3, Heap.size_push, hC]
  have ec : cellsFrom H3.objs.size scope.names cl = (x, s.heap.objs.size + 3) :: cl := by rw [hec, hE]
  have ep : pushCells H3 scope.names = H3.push { cls := .type "cell", data := .cell none } := hep _
  rw [ec, ep, hC, hD]
  generalize hH4 : H3.push { cls := .type "cell", data := .cell none } = h₁
  have up : ∀ b o, H2.get? b = some o → h₁.get? b = some o := fun b o e => hH4 ▸ Heap.get?_push_of_some _ (hH3 ▸ Heap.get?_push_of_some _ e)
  have old : ∀ b o, s.heap.get? b = some o → h₁.get? b = some o := fun b o e => up b o (hH2 ▸ Heap.get?_push_of_some _ (hH1 ▸ Heap.get?_push_of_some _ e))
  have itr : h₁.get? s.heap.objs.size = some oit := up _ _ (hH2 ▸ Heap.get?_push_of_some _ (hH1 ▸ Heap.get?_push_size _ (hit ▸ rfl)))
  have acc : h₁.get? (s.heap.objs.size + 1) = some (listOf #[] 0) := up _ _ (by rw [← hH2, ← hD]; exact Heap.get?_push_size _ rfl)
  have cel : h₁.get? (s.heap.objs.size + 3) = some { cls := .type "cell", data := .cell none } := by rw [← hH4, ← hE]; exact Heap.get?_push_size _ rfl
  have frm : h₁.get? (s.heap.objs.size + 2) = some { cls := .type "dict", data := .dict #[] } := by rw [← hH4]; refine Heap.get?_push_of_some _ ?_; rw [← hH3, ← hC]; exact Heap.get?_push_size _ rfl
  have hns₁ : h₁.Ns (s.heap.objs.size + 2) (fun _ => none) := ⟨_, #[], _, frm, rfl, fun e he => absurd he (by simp), fun _ => rfl⟩
  have fresh : ∀ a, s.heap.objs.size ≤ a → s.heap.get? a = none := fun a ha => Heap.get?_none_of_le ha
  have F0 : Fr s.heap (s.heap.objs.size + 2) h₁ (fun _ => none) := ⟨hns₁, old, by omega⟩
  have N0 : News s.heap (s.heap.objs.size + 2) h₁ [(s.heap.objs.size + 3, { cls := .type "cell", data := .cell none }), (s.heap.objs.size + 1, listOf #[] 0)] := fun p hp => by
    rcases List.mem_cons.mp hp with rfl | hp
    · exact ⟨cel, by show s.heap.objs.size + 3 ≠ _; omega, fresh _ (by show s.heap.objs.size ≤ s.heap.objs.size + 3; omega)⟩
    rcases List.mem_singleton.mp hp with rfl
    exact ⟨acc, by show s.heap.objs.size + 1 ≠ _; omega, fresh _ (by show s.heap.objs.size ≤ s.heap.objs.size + 1; omega)⟩
  have itr' : h₁.IsListIter s.heap.objs.size l 0 := by rw [← hit] at itr; exact ⟨_, itr, rfl, rfl⟩
  have loop : ∀ s₃ : Shared, s₃ = { s with heap := h₁ } →
      codeAny (model prog w) A (.compLoop (.ListComp elt [⟨.Name x px, iter, [], 0⟩] scope pos) 0 (.ref s.heap.objs.size) (.ref (s.heap.objs.size + 1)) (compEnvC scope ((x, s.heap.objs.size + 3) :: cl) (s.heap.objs.size + 2) env))
        (compPost (model prog w) A (fun _ _ => False) use Q (.ref (s.heap.objs.size + 1)) (s.heap.objs.size + 2)) s₃ := by
    rintro s₃ rfl
    refine comp_raw (Walks.list hh s.heap.objs.size l (Nat.ne_of_lt hlt) items) J ⟨itr', hl.at fun o e => old _ o e⟩ (h0 h₁ F0 N0)
      (fun i h h' hJ hk => new i h h' hJ fun b o hb e => hk b o (by simpa using hb) e)
      (fun i s' v Q' E' _ hv st hq => wpAny_pure hq)
      (fun i v h tk hi hv hJ st => ?_) (fun h tk hJ => fin h tk hJ)
    obtain ⟨⟨oI, hoI, hcI⟩, hL⟩ := st
    have key : ∀ {h' : Heap}, h'.get? s.heap.objs.size = some oI → (∀ o, s.heap.get? l = some o → h'.get? l = some o) → ∀ b ∈ [s.heap.objs.size, l], ∀ o, h.get? b = some o → h'.get? b = some o := fun h1 h2 b hb o e => by
      rcases List.mem_cons.mp hb with rfl | hb
      · rw [hoI] at e; cases e; exact h1
      · rw [List.mem_singleton.mp hb] at e ⊢
        obtain ⟨ol, hol, _⟩ := hl
        have := hlk i h hJ ol hol
        rw [this] at e; cases e
        exact h2 _ hol
    refine wpAny_mono (step i v h tk oI hi hv hJ hoI) (fun _ s₂ h₂ => ?_) fun _ _ e => e
    rw [List.forIn_nil]
    refine wpAny_pure ?_
    rw [if_pos rfl]
    refine wpAny_mono h₂ (fun x s₄ h₄ => wpAny_mono h₄ (fun _ s₅ h₅ => ?_) fun _ _ e => e) fun _ _ e => e
    obtain ⟨h₃', tk₃, rfl, hJ₃, hf, hg⟩ := h₅; exact ⟨h₃', tk₃, rfl, hJ₃, key hf hg⟩
  exact codeAny_compStart_list (loop _ rfl) (wpAny_pyIter_listiter itr' (loop _ rfl))
end
end Mine

-- M9
namespace Mine
local macro_rules | `(tactic| walk_at "enter") => `(tactic| (
  (case k6 => k_is); (case k7 => k_is); (case k8 => (simp only [recursionLimit]; omega));
  (case k9 => (refine' kp_binds ?kx ?ke; (case kx => assumption); (case ke => exact fun _ => rfl)));
  (case c5 => decide); (case kB => exact locs rfl); (case c2 => exact rfl); (case c3 => exact rfl); (case c4 => exact rfl)))
local macro_rules | `(tactic| walk_at "go") => `(tactic| repeat' (
  (fail_if_success (with_reducible show wpAny _ _ (exec (Stmt.While _ _ _ _) _) _ _ _));
  (fail_if_success (with_reducible show wpAny _ _ (exec (Stmt.For _ _ _ _ _) _) _ _ _));
  (fail_if_success (with_reducible show wpAny _ _ (exec (Stmt.Assign _ (Expr.ListComp _ _ _ _) _) _) _ _ _));
  (fail_if_success (with_reducible show wpAny _ _ (call (Value.ref _) _ _) _ _ _));
  (fail_if_success (with_reducible show wpAny _ _ (eval (Expr.Lambda _ _ _ _) _) _ _ _));
  (fail_if_success (with_reducible show wpAny _ _ (pyIter _) _ _ _));
  (fail_if_success (with_reducible show wpAny _ _ (setItem _ _ _) _ _ _));
  (fail_if_success (with_reducible show wpAny _ _ (setAttr _ _ _) _ _ _));
  (fail_if_success (with_reducible show Exists _));
  (first | walk1 | (dsimp only; walk1)); (try dsimp only)))
local macro_rules | `(tactic| walk_at "eval Name") => `(tactic| ((with_reducible show wpAny _ _ (eval (Expr.Name _ _) (envOf _ _ _ _ _)) _ _ _); refine ld (by assumption) (by with_unfolding_all assumption) ?_ (by kernel_rfl!) (by kernel_rfl!) (by decide +kernel)))
local macro_rules | `(tactic| walk_at "eval Name") => `(tactic| ((with_reducible show wpAny _ _ (eval (Expr.Name _ _) (envX _ _ _ _ _ _)) _ _ _); refine nameFree (by assumption) rfl (by assumption) (by assumption) ?_ rfl rfl (by decide) (by decide)))
local macro_rules | `(tactic| walk_at "eval Name") => `(tactic| ((with_reducible show wpAny _ _ (eval (Expr.Name _ _) (envOfC _ _ _ _ _)) _ _ _); refine nameLocC (by assumption) (by with_unfolding_all assumption) ?_ rfl rfl (by decide)))


theorem cw_fn2 {M : Model} {A : Around} {E : Value → Shared → Prop} {s : Shared} {pos : Pos} {a : Addr} {o : Obj} {fd : FuncData} {first : List Value} {x : Sem Value} {parts rest : List (Bool × Sem Value)} {Q : Value → Shared → Prop} (hp : parts = (false, x) :: rest)
    (h : wpAny M A (spliced parts) (fun vs s₁ => ∃ _ : s₁.heap.get? a = some o ∧ o.data = .func fd, wpAny M A (call (.ref a) (first ++ vs) []) Q E s₁) E s) :
    wpAny M A (callWith pos (.ref a) first parts []) Q E s := by
  subst hp
  exact callWith_function (evalArgs_plain (wpAny_mono h (fun _ _ ⟨x, y⟩ => ⟨x, y⟩) fun _ _ e => e))
section
variable {prog : Program} {w : World} {A : Around} {s : Shared} {env : Env} {target : Expr} {body : List Stmt} {Q : Flow → Shared → Prop}
/-- the same, where the list is read from an attribute -/
theorem for_listT {pos : Pos} {iter : Expr} {l : Addr} {items : Array Value} (hh : A.handled = none) (J : Nat → Heap → Prop)
    (hi : wpAny (model prog w) A (eval iter env) (fun xv s₁ => xv = .ref l ∧ ∃ tk, s₁ = { s with toks := tk }) (fun _ _ => False) s)
    (hl : s.heap.IsList l items) (h0 : J 0 s.heap)
    (new : ∀ i h h', J i h → (∀ b o, b ≠ s.heap.objs.size → h.get? b = some o → h'.get? b = some o) → J i h')
    (go : ∀ (i : Nat) (s' : Shared) v (Q' : Unit → Shared → Prop) (E' : Value → Shared → Prop), items[i]? = some v → s'.heap.IsListIter s.heap.objs.size l (i + 1) → Q' () s' → wpAny (model prog w) A (letOwnedTupleGo target (.ref s.heap.objs.size) v) Q' E' s')
    (step : ∀ (i : Nat) v h tk oI, i < items.size → items[i]? = some v → J i h → h.get? s.heap.objs.size = some oI → h.IsList l items → wpAny (model prog w) A (assign target env v) (fun _ s₂ => wpAny (model prog w) A (execs body env) (fun f s₃ => match f with
        | .next | .cont => ∃ h' tk', s₃ = { s with heap := h', toks := tk' } ∧ J (i + 1) h' ∧ h'.get? s.heap.objs.size = some oI ∧ (∀ o, h.get? l = some o → h'.get? l = some o)
        | .brk => Q .next s₃
        | .ret v => Q (.ret v) s₃) (fun _ _ => False) s₂) (fun _ _ => False) { s with heap := h, toks := tk })
    (fin : ∀ h tk, J items.size h → Q .next { s with heap := h, toks := tk })
    (hs : ∀ x, foldedSetIterable iter env x = pure x := by intro _; rfl) :
    wpAny (model prog w) A (exec (.For target iter body [] pos) env) Q (fun _ _ => False) s := by
  have hlt : l < s.heap.objs.size := let ⟨_, ho, _⟩ := hl; Heap.lt_size ho
  refine wpAny_For (wpAny_mono hi (fun xv s₁ h₁ => ?_) fun _ _ e => e) hs
  obtain ⟨rfl, tk0, rfl⟩ := h₁
  refine wpAny_pyIter_list hl ?_
  have keep : ∀ b o, s.heap.get? b = some o → (s.heap.push { cls := .type "list_iterator", data := .fields #[.ref l, .int 0 0] }).get? b = some o := fun b o e => Heap.get?_push_of_some _ e
  refine for_raw (s := { s with toks := tk0, heap := s.heap.push { cls := .type "list_iterator", data := .fields #[.ref l, .int 0 0] } }) (Walks.list hh s.heap.objs.size l (Nat.ne_of_lt hlt) items) J
    ⟨⟨_, Heap.get?_push_size _ rfl, rfl, rfl⟩, hl.at fun o e => keep _ o e⟩ (new 0 _ _ h0 fun b o _ e => keep b o e)
    (fun i h h' hJ hk => new i h h' hJ fun b o hb e => hk b o (by simpa using hb) e)
    (fun i s' v Q' E' _ hv st hq => go i s' v Q' E' hv st.1 hq)
    (fun i v h tk hi hv hJ st => ?_) (fun h tk hJ => fin h tk hJ)
  obtain ⟨⟨oI, hoI, hcI⟩, hL⟩ := st
  refine wpAny_mono (step i v h tk oI hi hv hJ hoI hL) (fun _ s₂ h₂ => wpAny_mono h₂ (fun f s₃ h₃ => ?_) fun _ _ e => e) fun _ _ e => e
  have key : ∀ {h' : Heap}, h'.get? s.heap.objs.size = some oI → (∀ o, h.get? l = some o → h'.get? l = some o) → ∀ b ∈ [s.heap.objs.size, l], ∀ o, h.get? b = some o → h'.get? b = some o := fun h1 h2 b hb o e => by
    rcases List.mem_cons.mp hb with rfl | hb
    · rw [hoI] at e; cases e; exact h1
    · rw [List.mem_singleton.mp hb] at e ⊢; exact h2 o e
  cases f with
  | next => obtain ⟨h₃', tk₃, rfl, hJ₃, hf, hg⟩ := h₃; exact ⟨h₃', tk₃, rfl, hJ₃, key hf hg⟩
  | cont => obtain ⟨h₃', tk₃, rfl, hJ₃, hf, hg⟩ := h₃; exact ⟨h₃', tk₃, rfl, hJ₃, key hf hg⟩
  | brk => exact h₃
  | ret v => exact h₃
/-- the same, with the iterator told -/
theorem for_listI {pos : Pos} {iter : Expr} {l : Addr} {items : Array Value} (hh : A.handled = none) (J : Nat → Heap → Prop)
    (hi : wpAny (model prog w) A (eval iter env) (fun xv s₁ => xv = .ref l ∧ ∃ tk, s₁ = { s with toks := tk }) (fun _ _ => False) s)
    (hl : s.heap.IsList l items) (h0 : J 0 s.heap)
    (new : ∀ i h h', J i h → (∀ b o, b ≠ s.heap.objs.size → h.get? b = some o → h'.get? b = some o) → J i h')
    (go : ∀ (i : Nat) (s' : Shared) v (Q' : Unit → Shared → Prop) (E' : Value → Shared → Prop), items[i]? = some v → s'.heap.IsListIter s.heap.objs.size l (i + 1) → Q' () s' → wpAny (model prog w) A (letOwnedTupleGo target (.ref s.heap.objs.size) v) Q' E' s')
    (step : ∀ (i : Nat) v h tk oI, i < items.size → items[i]? = some v → J i h → h.get? s.heap.objs.size = some oI → oI.data = .fields #[.ref l, .int ((i + 1 : Nat) : Int) 0] → h.IsList l items → wpAny (model prog w) A (assign target env v) (fun _ s₂ => wpAny (model prog w) A (execs body env) (fun f s₃ => match f with
        | .next | .cont => ∃ h' tk', s₃ = { s with heap := h', toks := tk' } ∧ J (i + 1) h' ∧ h'.get? s.heap.objs.size = some oI ∧ (∀ o, h.get? l = some o → h'.get? l = some o)
        | .brk => Q .next s₃
        | .ret v => Q (.ret v) s₃) (fun _ _ => False) s₂) (fun _ _ => False) { s with heap := h, toks := tk })
    (fin : ∀ h tk, J items.size h → Q .next { s with heap := h, toks := tk })
    (hs : ∀ x, foldedSetIterable iter env x = pure x := by intro _; rfl) :
    wpAny (model prog w) A (exec (.For target iter body [] pos) env) Q (fun _ _ => False) s := by
  have hlt : l < s.heap.objs.size := let ⟨_, ho, _⟩ := hl; Heap.lt_size ho
  refine wpAny_For (wpAny_mono hi (fun xv s₁ h₁ => ?_) fun _ _ e => e) hs
  obtain ⟨rfl, tk0, rfl⟩ := h₁
  refine wpAny_pyIter_list hl ?_
  have keep : ∀ b o, s.heap.get? b = some o → (s.heap.push { cls := .type "list_iterator", data := .fields #[.ref l, .int 0 0] }).get? b = some o := fun b o e => Heap.get?_push_of_some _ e
  refine for_raw (s := { s with toks := tk0, heap := s.heap.push { cls := .type "list_iterator", data := .fields #[.ref l, .int 0 0] } }) (Walks.list hh s.heap.objs.size l (Nat.ne_of_lt hlt) items) J
    ⟨⟨_, Heap.get?_push_size _ rfl, rfl, rfl⟩, hl.at fun o e => keep _ o e⟩ (new 0 _ _ h0 fun b o _ e => keep b o e)
    (fun i h h' hJ hk => new i h h' hJ fun b o hb e => hk b o (by simpa using hb) e)
    (fun i s' v Q' E' _ hv st hq => go i s' v Q' E' hv st.1 hq)
    (fun i v h tk hi hv hJ st => ?_) (fun h tk hJ => fin h tk hJ)
  obtain ⟨⟨oI, hoI, hcI⟩, hL⟩ := st
  refine wpAny_mono (step i v h tk oI hi hv hJ hoI hcI.2 hL) (fun _ s₂ h₂ => wpAny_mono h₂ (fun f s₃ h₃ => ?_) fun _ _ e => e) fun _ _ e => e
  have key : ∀ {h' : Heap}, h'.get? s.heap.objs.size = some oI → (∀ o, h.get? l = some o → h'.get? l = some o) → ∀ b ∈ [s.heap.objs.size, l], ∀ o, h.get? b = some o → h'.get? b = some o := fun h1 h2 b hb o e => by
    rcases List.mem_cons.mp hb with rfl | hb
    · rw [hoI] at e; cases e; exact h1
    · rw [List.mem_singleton.mp hb] at e ⊢; exact h2 o e
  cases f with
  | next => obtain ⟨h₃', tk₃, rfl, hJ₃, hf, hg⟩ := h₃; exact ⟨h₃', tk₃, rfl, hJ₃, key hf hg⟩
  | cont => obtain ⟨h₃', tk₃, rfl, hJ₃, hf, hg⟩ := h₃; exact ⟨h₃', tk₃, rfl, hJ₃, key hf hg⟩
  | brk => exact h₃
  | ret v => exact h₃
end
/-- the namespace of a record -/
abbrev recDict (w : World) (ua rl : Addr) (t1 t2 t3 t4 : Tok) : Obj := W.dictOf [⟨PyData.keyHash w.params (Str.ofString "useragents"), .str (Str.ofString "useragents") t1, .ref ua⟩, ⟨PyData.keyHash w.params (Str.ofString "rulelines"), .str (Str.ofString "rulelines") t2, .ref rl⟩,
  ⟨PyData.keyHash w.params (Str.ofString "delay"), .str (Str.ofString "delay") t3, .none⟩, ⟨PyData.keyHash w.params (Str.ofString "req_rate"), .str (Str.ofString "req_rate") t4, .none⟩] 4
/-- one turn of `allowance` -/
def alStep (nm : Str) (z : Int × Bool) (q : Str × Bool) : Int × Bool :=
  if applies q.1 nm = 0 then z else if z.1 < applies q.1 nm then (applies q.1 nm, q.2) else if applies q.1 nm = z.1 ∧ z.2 = false then (z.1, q.2) else z
def alFold (rs : List (Str × Bool)) (nm : Str) : Int × Bool := rs.foldl (alStep nm) (-1, true)
def allow (rs : List (Str × Bool)) (nm : Str) : Bool := (alFold rs nm).2
theorem alFold_snoc (rs : List (Str × Bool)) (q : Str × Bool) (nm : Str) : alFold (rs ++ [q]) nm = alStep nm (alFold rs nm) q := by simp [alFold, List.foldl_append]
inductive RulesAre (w : World) (g : Heap) (L0 : List (Addr × Obj)) : List Value → List (Str × Bool) → Prop
  | nil : RulesAre w g L0 [] []
  | cons {f : Addr} {q : Str × Bool} {vs : List Value} {rs : List (Str × Bool)} : RuleOf w g L0 f q.1 q.2 → RulesAre w g L0 vs rs → RulesAre w g L0 (.ref f :: vs) (q :: rs)
theorem RulesAre.get {w : World} {g : Heap} {L0 : List (Addr × Obj)} {vs : List Value} {rs : List (Str × Bool)} (P : RulesAre w g L0 vs rs) : ∀ {i : Nat} {v : Value}, vs[i]? = some v → ∃ q f, rs[i]? = some q ∧ v = .ref f ∧ RuleOf w g L0 f q.1 q.2 := by
  induction P with
  | nil => intro i v e; simp at e
  | cons h1 _ ih =>
    intro i v e
    cases i with
    | zero => simp only [List.getElem?_cons_zero, Option.some.injEq] at e; subst e; exact ⟨_, _, rfl, rfl, h1⟩
    | succ i => simp only [List.getElem?_cons_succ] at e ⊢; exact ih e
theorem RulesAre.length {w : World} {g : Heap} {L0 : List (Addr × Obj)} {vs : List Value} {rs : List (Str × Bool)} (P : RulesAre w g L0 vs rs) : vs.length = rs.length := by
  induction P with
  | nil => rfl
  | cons _ _ ih => simp [ih]
theorem RulesAre.mono {w : World} {g : Heap} {L0 L1 : List (Addr × Obj)} {vs : List Value} {rs : List (Str × Bool)} (P : RulesAre w g L0 vs rs) (hs : ∀ p ∈ L0, p ∈ L1) : RulesAre w g L1 vs rs := by
  induction P with
  | nil => exact .nil
  | cons h1 _ ih => exact .cons (h1.mono hs) ih
theorem RulesAre.snoc {w : World} {g : Heap} {L0 : List (Addr × Obj)} {vs : List Value} {rs : List (Str × Bool)} {f : Addr} {q : Str × Bool} (P : RulesAre w g L0 vs rs) (h : RuleOf w g L0 f q.1 q.2) : RulesAre w g L0 (vs ++ [.ref f]) (rs ++ [q]) := by
  induction P with
  | nil => exact .cons h .nil
  | cons h1 _ ih => exact .cons h1 ih

set_option maxHeartbeats 8000000 in
theorem allow_spec {w : World} {A : Around} {s : Shared} {g : Heap} {loose mean mg mb} {rec d ua rl : Addr} {t1 t2 t3 t4 : Tok} {vs : List Value} {rs : List (Str × Bool)} {L0 : List (Addr × Obj)} {nm : Str} {tn : Tok} {R : Result → Shared → Prop}
    (X : (hd.heap_39 w.params).In g) (T : Top topProg loose mean mg mb g) (hA : A.depth < 700) (hh : A.handled = none)
    (hs : ∀ b o, g.get? b = some o → s.heap.get? b = some o) (h1 : s.heap.get? rec = some (instObj 52 d)) (h2 : s.heap.get? d = some (recDict w ua rl t1 t2 t3 t4)) (hg1 : g.get? rec = none) (hg2 : g.get? d = none)
    (hL : s.heap.IsList rl vs.toArray) (hL0 : ∀ p ∈ L0, s.heap.get? p.1 = some p.2) (hLr : ∀ p ∈ L0, p.1 ≠ rec ∧ p.1 ≠ d) (hV : RulesAre w g L0 vs rs) (hn : nm.length ≤ 4) (hrs : rs.length < 50)
    (hR : ∀ h' tk, (∀ b o, s.heap.get? b = some o → h'.get? b = some o) → R (.ok (.ret (.bool (allow rs nm)))) { s with heap := h', toks := tk }) :
    codeAny (model PySem.Challenge.rw_ny0145_01.row.prog w) A (.call (.ref 49) ⟨[.ref rec, .str nm tn], []⟩) R s := by
  obtain ⟨hd0, dp, fr, gd, un⟩ := A
  dsimp only at hh hA
  subst hh
  have hrd : d ≠ rec := fun e => by rw [e, h1] at h2; cases h2
  have hlr : rl ≠ rec ∧ rl ≠ d := by
    obtain ⟨o, ho, r1, r2⟩ := hL
    constructor
    · intro e; rw [e, h1] at ho; cases ho; obtain ⟨_, r2⟩ := r2; cases r2
    · intro e; rw [e, h2] at ho; cases ho; obtain ⟨_, r2⟩ := r2; cases r2
  have hs' := sub_hide (sub_hide hs hg1) hg2
  have hup : ∀ b o, ((s.heap.hide rec).hide d).get? b = some o → s.heap.get? b = some o := fun b o e => Heap.of_hide (Heap.of_hide e)
  replace X := X.keeps hs'
  replace T := T.keeps hs'
  have Xs := X.keeps hup
  revert X; k_fill; intro X
  refine' enterG (g := (s.heap.hide rec).hide d) [(Str.ofString "self", .ref rec), (Str.ofString "filename", .str nm tn)] X T.nolimit hup (Nat.le_of_eq ((Heap.hide_size _ _).trans (Heap.hide_size _ _))) ?k6 ?k7 ?k8 ?k9 ?kB ?_ ?c2 ?c3 ?c4 ?c5
  walk_at "enter"
  intro hc F hall
  have N : News ((s.heap.hide rec).hide d) s.heap.objs.size hc [] := News.nil
  replace N := news_add N (hall _ _ h2) (Nat.ne_of_lt (Heap.lt_size h2)) (Heap.hide_self _ _)
  replace N := news_add N (hall _ _ h1) (Nat.ne_of_lt (Heap.lt_size h1)) (by rw [Heap.hide_ne _ hrd.symm]; exact Heap.hide_self _ _)
  clear Xs
  walk_at "go"
  rename Fr _ _ _ _ => F; rename News _ _ _ _ => N
  rename_i hB _ hC
  have hLc : @LT.lt Nat _ s.heap.objs.size hC.objs.size := F.ns.lt
  have hLh : ((s.heap.hide rec).hide d).IsList rl vs.toArray := hL.at fun o e => by rw [Heap.hide_ne _ hlr.2, Heap.hide_ne _ hlr.1]; exact e
  have hrc : rec < s.heap.objs.size := Heap.lt_size h1
  have hdc : d < s.heap.objs.size := Heap.lt_size h2
  refine for_listT (l := rl) (items := vs.toArray) rfl (fun i h => ∃ m t, Fr ((s.heap.hide rec).hide d) s.heap.objs.size h m ∧ News ((s.heap.hide rec).hide d) s.heap.objs.size h [(rec, instObj 52 d), (d, recDict w ua rl t1 t2 t3 t4)] ∧ m (Str.ofString "self") = some (.ref rec) ∧ m (Str.ofString "filename") = some (.str nm tn) ∧ m (Str.ofString "best_match") = some (.int (alFold (rs.take i) nm).1 t) ∧ m (Str.ofString "allowance") = some (.bool (alFold (rs.take i) nm).2)) ?hi ?hl ?h0 ?new ?go ?step ?fin
  case hi =>
    walk_at "go"
    all_goals first | rfl | exact ⟨_, rfl⟩ | exact ⟨rfl, _, rfl⟩
  case hl => exact hLh.at fun o e => F.keep _ o e
  case h0 => exact ⟨_, _, F, N, rfl, rfl, rfl, rfl⟩
  case new =>
    rintro i h h' ⟨m, t, F, N, r1, r2, r3, r4⟩ hk
    refine ⟨m, t, fr_mov F hLc hk, news_mov N (fun p hp => ?_) hk, r1, r2, r3, r4⟩
    rcases List.mem_cons.mp hp with rfl | hp
    · exact Nat.ne_of_lt (Nat.lt_trans hrc hLc)
    · rw [List.mem_singleton.mp hp]; exact Nat.ne_of_lt (Nat.lt_trans hdc hLc)
  case go =>
    intro i s' v Q' E' hv hit hq
    exact wpAny_pure hq
  case fin =>
    rintro h tk ⟨m, t, F, N, r1, r2, r3, r4⟩
    rw [List.take_of_length_le (by simp [hV.length])] at r4
    walk_at "go"
    refine hR _ _ fun b o e => ?_
    by_cases e1 : b = rec
    · subst e1; rw [h1] at e; cases e; exact (N _ (.head _)).1
    · by_cases e2 : b = d
      · subst e2; rw [h2] at e; cases e; exact (N _ (.tail _ (.head _))).1
      · exact F.keep _ _ (by rw [Heap.hide_ne _ e2, Heap.hide_ne _ e1]; exact e)
  case step =>
    clear F N
    rintro i v h tk oI hi hv ⟨m, t, F, N, r1, r2, r3, r4⟩ hoI hL2
    obtain ⟨q, f, hq, rfl, hT⟩ := hV.get (by simpa using hv)
    have N2 := news_cons F N hoI hLc
    have Fk := F.keep
    clear N
    dsimp only
    walk_at "go"
    rename Fr _ _ _ _ => F2; rename News _ _ _ _ => N2
    obtain ⟨df, fd, od, md, lf, olf, fdl, m1, m2, ⟨es, ep, hdd, hsk, hnf⟩, ha, hal, m3, hfl, hbeh⟩ := hT.fn
    have hb0 : ∀ b o, ((s.heap.hide rec).hide d).get? b = some o → _ := F2.keep
    have hl0 : ∀ p ∈ L0, ((s.heap.hide rec).hide d).get? p.1 = some p.2 := fun p hp => by
      rw [Heap.hide_ne _ (hLr p hp).2, Heap.hide_ne _ (hLr p hp).1]; exact hL0 p hp
    refine fnmethod (F2.keep _ _ (hl0 _ m1)) ⟨od, es, ep, F2.keep _ _ (hl0 _ m2), hdd, hsk, hnf⟩ ha look_fn_applies rfl ?_
    dsimp only
    refine cw_fn2 (o := olf) (fd := fdl) rfl ?_
    clear hb0
    walk_at "go"
    rename Fr _ _ _ _ => F2; rename News _ _ _ _ => N2
    refine ⟨⟨F2.keep _ _ (hl0 _ m3), hfl⟩, ?_⟩
    refine hbeh _ _ _ _ _ (show dp + 1 < 950 by omega) rfl hn (fun b o e => F2.keep _ _ (hs' b o e)) (fun p hp => F2.keep _ _ (hl0 p hp)) fun h2 tk2 tr hk2 => ?_
    replace F2 := Fr.keeps F2 hk2
    replace N2 := News.keeps N2 hk2
    dsimp only
    have hst : alFold (rs.take (i + 1)) nm = alStep nm (alFold (rs.take i) nm) q := by rw [List.take_add_one, hq, Option.toList_some, alFold_snoc]
    rw [hst]
    have hrl : ∀ {h' : Heap}, (∀ b o, ((s.heap.hide rec).hide d).get? b = some o → h'.get? b = some o) → ∀ o, h.get? rl = some o → h'.get? rl = some o := fun hk o e => by
      obtain ⟨o', ho', _⟩ := hLh
      have : o' = o := by have := Fk _ _ ho'; rw [this] at e; exact Option.some.inj e
      exact this ▸ hk _ _ ho'
    walk_at "go"
    · rename Fr _ _ _ _ => F3; rename News _ _ _ _ => N3
      rename applies q.fst nm ≠ 0 => c1; rename (alFold (List.take i rs) nm).fst < applies q.fst nm => c2
      refine fnget (F3.keep _ _ (hl0 _ m1)) ⟨od, es, ep, F3.keep _ _ (hl0 _ m2), hdd, hsk, hnf⟩ hal look_fn_allowance rfl ?_
      dsimp only
      walk_at "go"
      rename Fr _ _ _ _ => F3; rename News _ _ _ _ => N3
      have e1 : alStep nm (alFold (rs.take i) nm) q = (applies q.1 nm, q.2) := by unfold alStep; rw [if_neg c1, if_pos c2]
      rw [e1]
      exact ⟨_, _, rfl, ⟨_, _, F3, News.right (a := [(_, oI)]) N3, r1, r2, rfl, rfl⟩, (N3 _ (.head _)).1, hrl F3.keep⟩
    · rename Fr _ _ _ _ => F3; rename News _ _ _ _ => N3
      rename applies q.fst nm ≠ 0 => c1; rename ¬ (alFold (List.take i rs) nm).fst < applies q.fst nm => c2; rename (alFold (List.take i rs) nm).snd = true => c3
      have e1 : alStep nm (alFold (rs.take i) nm) q = alFold (rs.take i) nm := by unfold alStep; rw [if_neg c1, if_neg c2, if_neg (by rw [c3]; simp)]
      rw [e1]
      exact ⟨_, _, rfl, ⟨_, _, F3, News.right (a := [(_, oI)]) N3, r1, r2, r3, r4⟩, (N3 _ (.head _)).1, hrl F3.keep⟩
    · rename Fr _ _ _ _ => F3; rename News _ _ _ _ => N3
      rename applies q.fst nm ≠ 0 => c1; rename ¬ (alFold (List.take i rs) nm).fst < applies q.fst nm => c2; rename (alFold (List.take i rs) nm).snd = false => c3; rename applies q.fst nm = (alFold (List.take i rs) nm).fst => c4
      refine fnget (F3.keep _ _ (hl0 _ m1)) ⟨od, es, ep, F3.keep _ _ (hl0 _ m2), hdd, hsk, hnf⟩ hal look_fn_allowance rfl ?_
      dsimp only
      walk_at "go"
      rename Fr _ _ _ _ => F3; rename News _ _ _ _ => N3
      have e1 : alStep nm (alFold (rs.take i) nm) q = ((alFold (rs.take i) nm).1, q.2) := by unfold alStep; rw [if_neg c1, if_neg c2, if_pos ⟨c4, c3⟩]
      rw [e1]
      exact ⟨_, _, rfl, ⟨_, _, F3, News.right (a := [(_, oI)]) N3, r1, r2, r3, rfl⟩, (N3 _ (.head _)).1, hrl F3.keep⟩
    · rename Fr _ _ _ _ => F3; rename News _ _ _ _ => N3
      rename applies q.fst nm ≠ 0 => c1; rename ¬ (alFold (List.take i rs) nm).fst < applies q.fst nm => c2; rename applies q.fst nm ≠ (alFold (List.take i rs) nm).fst => c4
      have e1 : alStep nm (alFold (rs.take i) nm) q = alFold (rs.take i) nm := by unfold alStep; rw [if_neg c1, if_neg c2, if_neg (fun h => c4 h.1)]
      rw [e1]
      exact ⟨_, _, rfl, ⟨_, _, F3, News.right (a := [(_, oI)]) N3, r1, r2, r3, r4⟩, (N3 _ (.head _)).1, hrl F3.keep⟩
    · rename Fr _ _ _ _ => F3; rename News _ _ _ _ => N3
      rename applies q.fst nm = 0 => c1
      have e1 : alStep nm (alFold (rs.take i) nm) q = alFold (rs.take i) nm := by unfold alStep; rw [if_pos c1]
      rw [e1]
      exact ⟨_, _, rfl, ⟨_, _, F3, News.right (a := [(_, oI)]) N3, r1, r2, r3, r4⟩, (N3 _ (.head _)).1, hrl F3.keep⟩
end Mine

-- B11
namespace Mine
section
variable {M : Model} {A : Around} {E : Value → Shared → Prop} {s : Shared} {h₀ : Heap} {C : Addr} {m : Str → Option Value} {scope : Scope} {cl : List (Str × Addr)} {env : Env} {x : Str} {pos : Pos} {v : Value} {c : Addr} {o : Obj} {news : List (Addr × Obj)}
/-- a cell of the comprehension's own, read -/
theorem nameCompN {Q : Value → Shared → Prop} (N : News h₀ C s.heap news) (hc : cl.lookup x = some c) (hm : (c, o) ∈ news) (hd : o.data = .cell (some v)) (h : Q v s) (hk : (compEnvC scope cl C env).scope.kind = .function) (hl : (compEnvC scope cl C env).kindOf x = some .cell) (hb : (x == ("__debug__" : Str)) = false) :
    wpAny M A (eval (.Name x pos) (compEnvC scope cl C env)) Q E s := wpAny_Name (wpAny_loadName_cell hk hl hc ⟨o, (N _ hm).1, hd⟩ h) hb
/-- and written -/
theorem storeCompCell {Q : Unit → Shared → Prop} {v₀ : Option Value} (F : Fr h₀ C s.heap m) (N : News h₀ C s.heap ((c, o) :: news)) (hne : ∀ p ∈ news, p.1 ≠ c) (hc : cl.lookup x = some c) (hd : o.data = .cell v₀)
    (h : ∀ h' o', Fr h₀ C h' m → News h₀ C h' ((c, o') :: news) → o'.data = .cell (some v) → (∀ b ob, b ≠ c → s.heap.get? b = some ob → h'.get? b = some ob) → Q () { s with heap := h' })
    (hk : (compEnvC scope cl C env).scope.kind = .function) (hl : (compEnvC scope cl C env).kindOf x = some .cell) : wpAny M A (storeName (compEnvC scope cl C env) x v) Q E s := by
  have hmem := N _ (.head _)
  refine wpAny_storeName_cell hk hl hc ⟨o, hmem.1, hd⟩ fun h' hv hs => ?_
  obtain ⟨o', ho', hd'⟩ := hv
  refine h h' o' ⟨F.ns.sameBut hs (Ne.symm hmem.2.1), fun b ob e => (hs.2 b (fun q => ?_)).trans (F.keep b ob e), F.above⟩ (N.setHead hne hs ho') hd' fun b ob hb e => (hs.2 b hb).trans e
  rw [q, hmem.2.2] at e; cases e
end
section
variable {M : Model} {A : Around} {E : Value → Shared → Prop} {s : Shared} {env : Env}
theorem comp_open {elt target iter : Expr} {ifs : List Expr} {scope : Scope} {pos : Pos} {cl : List (Str × Addr)} {Q : Value → Shared → Prop}
    (hs : ∀ x, foldedSetIterable iter env x = pure x) (hclos : closureFor scope env = pure cl) (hkind : scope.kind = .function) (hnames : ∀ x ∈ scope.names, x.2 = .local → scope.names.lookup x.1 = some .local)
    (h : wpAny M A (eval iter env) (fun x s₁ => wpAny M A (pyIter x) (fun it s₂ => wpAny M A (newList []) (fun acc s₃ =>
      wpAny M A (newFunctionEnv scope env.globals cl [] env.qual none .none (some env)) (fun cenv s₄ =>
        codeAny M A (.compStart (.ListComp elt [⟨target, iter, ifs, 0⟩] scope pos) 0 it acc { cenv with scope := relabel scope env }) (compPost M A E none Q acc cenv.locals) s₄) E s₃) E s₂) E s₁) E s) :
    wpAny M A (eval (.ListComp elt [⟨target, iter, ifs, 0⟩] scope pos) env) Q E s := by
  rw [eval_ListComp]
  exact wpAny_comprehension_free (use := none) rfl hs hclos hkind hnames h
end
/-- the rules' tuples, told by a list of objects that stay -/
inductive PairsIn (rest : List (Addr × Obj)) : List Value → List (Str × Bool) → Prop
  | nil : PairsIn rest [] []
  | cons {b : Addr} {o : Obj} {n : Nat} {tp : Tok} {q : Str × Bool} {vs : List Value} {rs : List (Str × Bool)} : (b, o) ∈ rest → o.cls = .type "tuple" → o.data = .seq #[.str q.1 tp, .bool q.2] n → PairsIn rest vs rs → PairsIn rest (.ref b :: vs) (q :: rs)
theorem PairsIn.mono {r1 r2 : List (Addr × Obj)} {vs : List Value} {rs : List (Str × Bool)} (P : PairsIn r1 vs rs) (h : ∀ p ∈ r1, p ∈ r2) : PairsIn r2 vs rs := by
  induction P with
  | nil => exact .nil
  | cons h1 h2 h3 _ ih => exact .cons (h _ h1) h2 h3 ih
theorem PairsIn.snoc {r : List (Addr × Obj)} {vs : List Value} {rs : List (Str × Bool)} (P : PairsIn r vs rs) {b : Addr} {o : Obj} {n : Nat} {tp : Tok} {q : Str × Bool} (h1 : (b, o) ∈ r) (h2 : o.cls = .type "tuple") (h3 : o.data = .seq #[.str q.1 tp, .bool q.2] n) : PairsIn r (vs ++ [.ref b]) (rs ++ [q]) := by
  induction P with
  | nil => exact .cons h1 h2 h3 .nil
  | cons a1 a2 a3 _ ih => exact .cons a1 a2 a3 ih
theorem PairsIn.at {r : List (Addr × Obj)} {h : Heap} {vs : List Value} {rs : List (Str × Bool)} (P : PairsIn r vs rs) (k : ∀ p ∈ r, h.get? p.1 = some p.2) : PairsAt h vs rs := by
  induction P with
  | nil => exact .nil
  | cons h1 h2 h3 _ ih => exact .cons ⟨_, k _ h1, h2, _, h3⟩ ih
theorem PairsIn.length {r : List (Addr × Obj)} {vs : List Value} {rs : List (Str × Bool)} (P : PairsIn r vs rs) : vs.length = rs.length := by
  induction P with
  | nil => rfl
  | cons _ _ _ _ ih => simp [ih]
theorem intsAre_at {vs : List Value} {ns : List Int} (h : IntsAre vs ns) : ∀ {i : Nat} {v : Value}, vs[i]? = some v → ∃ n t, v = .int n t := by
  induction h with
  | nil => intro i v e; simp at e
  | cons n t _ ih =>
    intro i v e
    cases i with
    | zero => simp only [List.getElem?_cons_zero, Option.some.injEq] at e; exact ⟨_, _, e.symm⟩
    | succ i => simp only [List.getElem?_cons_succ] at e; exact ih e
end Mine

-- M10
namespace Mine
local macro_rules | `(tactic| walk_at "go") => `(tactic| repeat' (
  (fail_if_success (with_reducible show wpAny _ _ (exec (Stmt.While _ _ _ _) _) _ _ _));
  (fail_if_success (with_reducible show wpAny _ _ (exec (Stmt.For _ _ _ _ _) _) _ _ _));
  (fail_if_success (with_reducible show wpAny _ _ (exec (Stmt.Assign _ (Expr.ListComp _ _ _ _) _) _) _ _ _));
  (fail_if_success (with_reducible show wpAny _ _ (call (Value.ref _) _ _) _ _ _));
  (fail_if_success (with_reducible show wpAny _ _ (eval (Expr.Lambda _ _ _ _) _) _ _ _));
  (fail_if_success (with_reducible show wpAny _ _ (pyIter _) _ _ _));
  (fail_if_success (with_reducible show wpAny _ _ (setItem _ _ _) _ _ _));
  (fail_if_success (with_reducible show wpAny _ _ (setAttr _ _ _) _ _ _));
  (fail_if_success (with_reducible show Exists _));
  (first | walk1 | (dsimp only; walk1)); (try dsimp only)))
local macro_rules | `(tactic| walk_at "eval Name") => `(tactic| ((with_reducible show wpAny _ _ (eval (Expr.Name _ _) (envOf _ _ _ _ _)) _ _ _); refine ld (by assumption) (by with_unfolding_all assumption) ?_ (by kernel_rfl!) (by kernel_rfl!) (by decide +kernel)))
local macro_rules | `(tactic| walk_at "eval Name") => `(tactic| ((with_reducible show wpAny _ _ (eval (Expr.Name _ _) (envX _ _ _ _ _ _)) _ _ _); refine nameFree (by assumption) rfl (by assumption) (by assumption) ?_ rfl rfl (by decide) (by decide)))
local macro_rules | `(tactic| walk_at "eval Name") => `(tactic| ((with_reducible show wpAny _ _ (eval (Expr.Name _ _) (envOfC _ _ _ _ _)) _ _ _); refine nameLocC (by assumption) (by with_unfolding_all assumption) ?_ rfl rfl (by decide)))



theorem small_len {len : Nat} (h : len ≤ 16) : Builtin.Range.small 0 (len : Int) 1 = true := by
  unfold Builtin.Range.small Builtin.Range.rangeSize
  have : len = 0 ∨ len = 1 ∨ len = 2 ∨ len = 3 ∨ len = 4 ∨ len = 5 ∨ len = 6 ∨ len = 7 ∨ len = 8 ∨ len = 9 ∨ len = 10 ∨ len = 11 ∨ len = 12 ∨ len = 13 ∨ len = 14 ∨ len = 15 ∨ len = 16 := by omega
  rcases this with rfl | rfl | rfl | rfl | rfl | rfl | rfl | rfl | rfl | rfl | rfl | rfl | rfl | rfl | rfl | rfl | rfl <;> decide
theorem size_len (len : Nat) : Builtin.Range.rangeSize 0 (len : Int) 1 = (len : Int) := by
  unfold Builtin.Range.rangeSize
  rw [if_pos (by decide)]
  split <;> omega
/-- a text of letters, one for each number of a range -/
theorem letters {w : World} {A : Around} {s : Shared} {elt iter : Expr} {x : Str} {px : Pos} {scope : Scope} {pos : Pos} {env : Env} {Q : Value → Shared → Prop} {cl : List (Str × Addr)} {r : Addr} {len : Nat} {b : Int} {t u v : Tok}
    (hh : A.handled = none) (hcell : ∀ y ∈ scope.names, y.2 ≠ .cell) (hkind : scope.kind = .function) (hb : b = (len : Int)) (hlen : len ≤ 16)
    (hr : IsRange s.heap r 0 b 1 t u v) (hk : (relabel scope env).kind = .function) (hl : (compEnvC scope cl (s.heap.objs.size + 2) env).kindOf x = some .local)
    (he : ∀ (k : Nat) ti h m news tk (Q' : Value → Shared → Prop), k < len → Fr s.heap (s.heap.objs.size + 2) h m → News s.heap (s.heap.objs.size + 2) h news → m x = some (.int (k : Int) ti) →
      (∀ h' a ta tk', a.length = 1 → Fr s.heap (s.heap.objs.size + 2) h' m → News s.heap (s.heap.objs.size + 2) h' news → Q' (.str a ta) { s with heap := h', toks := tk' }) →
      wpAny (model PySem.Challenge.rw_ny0145_01.row.prog w) A (eval elt (compEnvC scope cl (s.heap.objs.size + 2) env)) Q' (fun _ _ => False) { s with heap := h, toks := tk })
    (fin : ∀ h' tk (ss : List Str) ys nn, CarriedAll ys (ss.map fun a => PyData.str a) → (∀ a ∈ ss, a.length = 1) → ss.length = len → h'.get? (s.heap.objs.size + 1) = some (listOf ys.toArray nn) → (∀ b o, s.heap.get? b = some o → h'.get? b = some o) →
      Q (.ref (s.heap.objs.size + 1)) { s with heap := h', toks := tk }) :
    wpAny (model PySem.Challenge.rw_ny0145_01.row.prog w) A (pyIter (.ref r)) (fun it s₂ => wpAny (model PySem.Challenge.rw_ny0145_01.row.prog w) A (newList []) (fun acc s₃ =>
      wpAny (model PySem.Challenge.rw_ny0145_01.row.prog w) A (newFunctionEnv scope env.globals cl [] env.qual none .none (some env)) (fun cenv s₄ =>
        codeAny (model PySem.Challenge.rw_ny0145_01.row.prog w) A (.compStart (.ListComp elt [⟨.Name x px, iter, [], 0⟩] scope pos) 0 it acc { cenv with scope := relabel scope env }) (compPost (model PySem.Challenge.rw_ny0145_01.row.prog w) A (fun _ _ => False) none Q acc cenv.locals) s₄) (fun _ _ => False) s₃) (fun _ _ => False) s₂) (fun _ _ => False) s := by
  subst hb
  refine comp_range hh hcell hkind hr (small_len hlen) (size_len len)
    (fun i h => ∃ (m : Str → Option Value) (ys : List Value) (ss : List Str) (nn : Nat), Fr s.heap (s.heap.objs.size + 2) h m ∧ News s.heap (s.heap.objs.size + 2) h [(s.heap.objs.size + 1, listOf ys.toArray nn)] ∧ CarriedAll ys (ss.map fun a => PyData.str a) ∧ (∀ a ∈ ss, Str.length a = 1) ∧ ss.length = i) ?h0 ?new ?step ?fin
  case h0 => exact fun h₁ F N => ⟨_, [], [], _, F, N, .nil, (fun _ h => by cases h), rfl⟩
  case new =>
    rintro j hx hy ⟨m, ys, ss, nn, F, N, r⟩ hk
    have hno : s.heap.get? s.heap.objs.size = none := Heap.get?_none_of_le (Nat.le_refl _)
    exact ⟨m, ys, ss, nn, fr_ne F (show s.heap.objs.size + 2 ≠ s.heap.objs.size by omega) hno hk, news_mov N (fun q hq => by rw [List.mem_singleton.mp hq]; show s.heap.objs.size + 1 ≠ s.heap.objs.size; omega) hk, r⟩
  case step =>
    rintro j ti hx tkx oI hj ⟨m, ys, ss, nn, F, N, r1, r2, r3⟩ hoI
    replace N := news_add N hoI (show s.heap.objs.size ≠ s.heap.objs.size + 2 by omega) (Heap.get?_none_of_le (Nat.le_refl _))
    refine wpAny_assign_Name (storeCompL F N (fun h2 F2 N2 => ?_) hk hl)
    clear F N
    have e0 : (0 : Int) + (j : Int) * 1 = (j : Int) := by omega
    rw [e0] at F2
    refine he j ti h2 _ _ _ _ hj F2 N2 (if_pos rfl) fun h3 a ta tk3 ha F3 N3 => ?_
    clear F2 N2
    have hys : ys.length = j := by rw [r1.length_eq, List.length_map, r3]
    refine append_head F3 (news_swap N3) (fun p hp => by rw [List.mem_singleton.mp hp]; show s.heap.objs.size ≠ s.heap.objs.size + 1; omega) (fun h4 F4 N4 => ?_) (by rw [List.size_toArray, sizeLine_eq]; omega)
    refine ⟨_, _, rfl, ⟨_, ys ++ [.str a ta], ss ++ [a], nn + 1, F4, ?_, ?_, ?_, ?_⟩, (N4 _ (.tail _ (.head _))).1⟩
    · intro p hp
      have := N4 p (by rw [List.mem_singleton.mp hp]; rw [← List.push_toArray]; exact .head _)
      exact this
    · rw [List.map_append]; exact r1.appendLM (.cons (.str _ _) .nil)
    · intro b hb
      rcases List.mem_append.mp hb with hb | hb
      · exact r2 b hb
      · rw [List.mem_singleton.mp hb]; exact ha
    · rw [List.length_append, r3]; rfl
  case fin =>
    rintro hx tkx ⟨m, ys, ss, nn, F, N, r1, r2, r3⟩
    refine ⟨m, F.ns, fun h5 hs5 => ?_⟩
    refine fin _ _ ss ys nn r1 r2 r3 ?_ fun b o e => ?_
    · exact hs5.extBut _ _ (show s.heap.objs.size + 1 ≠ s.heap.objs.size + 2 by omega) (N _ (.head _)).1
    · exact hs5.extBut _ _ (Nat.ne_of_lt (Nat.lt_of_lt_of_le (Heap.lt_size e) (Nat.le_add_right _ 2))) (F.keep _ _ e)
end Mine

-- B12
namespace Mine
section
variable {prog : Program} {w : World} {A : Around} {s : Shared} {env : Env} {body : List Stmt} {Q : Flow → Shared → Prop} {x : Str} {px : Pos}
/-- a for loop over a range, with the iterator told -/
theorem iter_rangeI {r : Addr} {a b c : Int} {t u v : Tok} {n : Nat} (hh : A.handled = none) (J : Nat → Heap → Prop)
    (hr : IsRange s.heap r a b c t u v) (hsm : Builtin.Range.small a b c = true) (hn : Builtin.Range.rangeSize a b c = (n : Int)) (h0 : J 0 s.heap)
    (new : ∀ i h h', J i h → (∀ b o, b ≠ s.heap.objs.size → h.get? b = some o → h'.get? b = some o) → J i h')
    (step : ∀ (i : Nat) ti h tk oI, i < n → J i h → h.get? s.heap.objs.size = some oI → (∃ x y z, oI.data = .fields #[rawInt x, rawInt y, rawInt z]) → wpAny (model prog w) A (assign (.Name x px) env (.int (a + i * c) ti)) (fun _ s₂ => wpAny (model prog w) A (execs body env) (fun f s₃ => match f with
        | .next | .cont => ∃ h' tk', s₃ = { s with heap := h', toks := tk' } ∧ J (i + 1) h' ∧ h'.get? s.heap.objs.size = some oI
        | .brk => Q .next s₃
        | .ret v => Q (.ret v) s₃) (fun _ _ => False) s₂) (fun _ _ => False) { s with heap := h, toks := tk })
    (fin : ∀ h tk, J n h → Q .next { s with heap := h, toks := tk }) :
    wpAny (model prog w) A (pyIter (.ref r)) (fun it s₂ => codeAny (model prog w) A (.forLoop (.Name x px) it body [] env) (fun r s' => match r with | .ok f => Q f s' | .error e => cameBackBy (model prog w) A env (fun _ _ => False) e s') s₂) (fun _ _ => False) s := by
  refine wpAny_pyIter_range hr hsm ?_
  have keep : ∀ b' o, s.heap.get? b' = some o → (s.heap.push { cls := .type "range_iterator", data := .fields #[rawInt a, rawInt (Builtin.Range.rangeSize a b c), rawInt c] }).get? b' = some o := fun b' o e => Heap.get?_push_of_some _ e
  have st0 : IsRangeIter (s.heap.push { cls := .type "range_iterator", data := .fields #[rawInt a, rawInt (Builtin.Range.rangeSize a b c), rawInt c] }) s.heap.objs.size (a + ((0 : Nat) : Int) * c) ((n : Int) - ((0 : Nat) : Int)) c := by
    have e1 : a + ((0 : Nat) : Int) * c = a := by simp
    have e2 : (n : Int) - ((0 : Nat) : Int) = Builtin.Range.rangeSize a b c := by rw [hn]; simp
    rw [e1, e2]
    exact Heap.get?_push_size _ rfl
  refine for_raw (s := { s with heap := s.heap.push { cls := .type "range_iterator", data := .fields #[rawInt a, rawInt (Builtin.Range.rangeSize a b c), rawInt c] } }) (Walks.range hh s.heap.objs.size a c n) J
    st0 (new 0 _ _ h0 fun b o _ e => keep b o e)
    (fun i h h' hJ hk => new i h h' hJ fun b o hb e => hk b o (by simpa using hb) e)
    (fun i s' v Q' E' _ _ _ hq => wpAny_pure hq)
    (fun i v h tk hi hv hJ st => ?_) (fun h tk hJ => fin h tk hJ)
  obtain ⟨ti, rfl⟩ := hv
  refine wpAny_mono (step i ti h tk _ hi hJ st ⟨_, _, _, rfl⟩) (fun _ s₂ h₂ => wpAny_mono h₂ (fun f s₃ h₃ => ?_) fun _ _ e => e) fun _ _ e => e
  have key : ∀ {h' : Heap} {oI : Obj}, h.get? s.heap.objs.size = some oI → h'.get? s.heap.objs.size = some oI → ∀ b ∈ [s.heap.objs.size], ∀ o, h.get? b = some o → h'.get? b = some o := fun h1 h2 b hb o e => by
    rw [List.mem_singleton.mp hb] at e ⊢; rw [h1] at e; cases e; exact h2
  cases f with
  | next => obtain ⟨h₃', tk₃, rfl, hJ₃, hf⟩ := h₃; exact ⟨h₃', tk₃, rfl, hJ₃, key st hf⟩
  | cont => obtain ⟨h₃', tk₃, rfl, hJ₃, hf⟩ := h₃; exact ⟨h₃', tk₃, rfl, hJ₃, key st hf⟩
  | brk => exact h₃
  | ret v => exact h₃
end
/-- the code object of the lambda of `_law_place` -/
def CodeP (o : Obj) : Prop := ∃ vs t, o.data = .fields vs ∧ vs[1]? = some (.str (Str.ofString "_law_place.<locals>.<lambda>") t)
/-- the table of `_law_place`, told by objects that stay -/
def Tab5 (g : Heap) (K : List (Addr × Obj)) (o : Obj) : Prop := o = tabObj #[] ∨ ∃ c' oc', o = tabObj #[rawInt 125, rawInt 11, .ref c'] ∧ ((c', oc') ∈ K ∨ g.get? c' = some oc') ∧ CodeP oc'
theorem Tab5.tab {g h : Heap} {K : List (Addr × Obj)} {o : Obj} (t : Tab5 g K o) (ho : h.get? 111 = some o) (hK : ∀ p ∈ K, h.get? p.1 = some p.2) (hg : ∀ b o, g.get? b = some o → h.get? b = some o) : Tab1 h 111 125 11 (Str.ofString "_law_place.<locals>.<lambda>") := by
  rcases t with rfl | ⟨c', oc', rfl, k, ⟨vs, u, d, e⟩⟩
  · exact .inl ho
  · refine .inr ⟨c', ho, ⟨c', oc', vs, u, rfl, ?_, d, e⟩⟩
    rcases k with k | k
    · exact hK _ k
    · exact hg _ _ k
theorem Tab5.told {g h : Heap} (t : Tab1 h 111 125 11 (Str.ofString "_law_place.<locals>.<lambda>")) (hg : ∀ b o, g.get? b = some o → h.get? b = some o) : ∃ (o : Obj) (Kc : List (Addr × Obj)), h.get? 111 = some o ∧ (∀ K, (∀ p ∈ Kc, p ∈ K) → Tab5 g K o) ∧ ∀ p ∈ Kc, h.get? p.1 = some p.2 ∧ g.get? p.1 = none ∧ CodeP p.2 ∧ p.1 ≠ 111 := by
  rcases t with t | ⟨c', t, r⟩
  · exact ⟨_, [], t, fun K _ => .inl rfl, fun _ h => by cases h⟩
  · obtain ⟨_, o1, v1, u1, e1, h1, d1, q1⟩ := r
    cases e1
    have f1 : c' ≠ 111 := fun e => by
      rw [e, t] at h1
      cases h1
      cases d1
      simp [rawInt] at q1
    cases q : g.get? c' with
    | some o => 
      have := hg _ _ q
      rw [h1] at this
      cases this
      exact ⟨_, [], t, fun K _ => .inr ⟨c', o1, rfl, .inr q, ⟨v1, u1, d1, q1⟩⟩, fun _ h => by cases h⟩
    | none =>
      refine ⟨_, [(c', o1)], t, fun K hK => .inr ⟨c', o1, rfl, .inl (hK _ (.head _)), ⟨v1, u1, d1, q1⟩⟩, fun p hp => ?_⟩
      rw [List.mem_singleton.mp hp]
      exact ⟨h1, q, ⟨v1, u1, d1, q1⟩, f1⟩
theorem codeP_ne {h : Heap} {p : Addr × Obj} {a : Addr} {o : Obj} (hp : h.get? p.1 = some p.2) (hc : CodeP p.2) (ha : h.get? a = some o) (ho : ∀ vs t, o.data = .fields vs → vs[1]? = some (.str (Str.ofString "_law_place.<locals>.<lambda>") t) → False) : p.1 ≠ a := by
  obtain ⟨vs, t, d, e⟩ := hc
  intro q
  rw [q, ha] at hp
  cases hp
  exact ho _ _ d e
end Mine

-- P1
namespace Mine
open PySem.Builtin.Str (strSliceIndices)
open PySem.StrLaws (strSliceIndices_plain picks)
/-! the plain law: no program in sight -/
/-- the front of a name -/
def fr (nm : Str) (k : Nat) : Str := ⟨(nm.cps.toList.take k).toArray⟩
theorem fr_length (nm : Str) (k : Nat) : (fr nm k).length = min k nm.length := by
  simp [fr, Str.length]
theorem fr_fr (nm : Str) (z k : Nat) : fr (fr nm z) k = fr nm (min k z) := by
  simp [fr, List.take_take]
theorem fr_all (nm : Str) (k : Nat) (h : nm.length ≤ k) : fr nm k = nm := by
  have : nm.cps.toList.take k = nm.cps.toList := List.take_of_length_le (by simpa [Str.length] using h)
  unfold fr; rw [this]
theorem slice_fr (nm : Str) (k : Nat) : Txt.slice nm none (some (k : Int)) = fr nm k := by
  have key : ∀ b : Nat, b ≤ nm.length → strSliceIndices none (some (b : Int)) 1 nm.length = List.range b := by
    intro b hb
    have h := strSliceIndices_plain (a := 0) (Nat.zero_le b) hb
    have e : strSliceIndices (some ((0 : Nat) : Int)) (some (b : Int)) 1 nm.length = strSliceIndices none (some (b : Int)) 1 nm.length := by
      have e1 : max (0 : Int) (min (((0 : Nat) : Int)) (nm.length : Int)) = 0 := by omega
      have e0 : ¬ (((0 : Nat) : Int) < 0) := by omega
      simp only [strSliceIndices, e0, if_false, e1, show ((1 : Int) > 0) = True from by simp, if_true]
    rw [← e, h]; simp
  have hk : strSliceIndices none (some (k : Int)) 1 nm.length = List.range (min k nm.length) := by
    by_cases h : k ≤ nm.length
    · rw [key k h, Nat.min_eq_left h]
    · have hb : (nm.length : Int) ≤ (k : Int) := by omega
      have e : strSliceIndices none (some (k : Int)) 1 nm.length = strSliceIndices none (some (nm.length : Int)) 1 nm.length := by
        have e1 : max (0 : Int) (min (k : Int) (nm.length : Int)) = nm.length := by omega
        have e2 : max (0 : Int) (min (nm.length : Int) (nm.length : Int)) = nm.length := by omega
        have e0 : ¬ ((k : Int) < 0) := by omega
        have e3 : ¬ ((nm.length : Int) < 0) := by omega
        simp only [strSliceIndices, e0, e3, if_false, e1, e2, show ((1 : Int) > 0) = True from by simp, if_true]
      rw [e, key _ (Nat.le_refl _), Nat.min_eq_right (by omega)]
  unfold Txt.slice
  rw [hk]
  split
  · rename_i h
    simp at h
    rw [fr_all]
    omega
  · unfold fr
    congr 2
    have h := picks nm.cps.toList (min k nm.length) 0 (by simp [Str.length]; omega)
    simp only [Nat.zero_add, List.map_id', List.drop_zero] at h
    have e : (List.range (min k nm.length)).filterMap (fun x => nm.cps[x]?) = nm.cps.toList.take (min k nm.length) := by simpa using h
    rw [e]
    have hl : nm.length = nm.cps.toList.length := by simp [Str.length]
    rw [hl, Nat.min_comm, List.take_eq_take_iff]
    omega
/-- the halving search finds the border -/
theorem bis_border {p : Int → Bool} {xs : List Int} {c : Nat} : ∀ f lo hi, hi - lo ≤ f → lo ≤ c → c ≤ hi → (∀ i, lo ≤ i → i < hi → p (xs.getD i 0) = decide (i < c)) → bis p xs f lo hi = c
  | 0, lo, hi, h1, h2, h3, _ => by rw [bis]; omega
  | f + 1, lo, hi, h1, h2, h3, h4 => by
    rw [bis]
    split
    · rename_i hlt
      have hm := h4 ((lo + hi) / 2) (by omega) (by omega)
      split
      · rename_i hp
        rw [hp] at hm
        have hc : (lo + hi) / 2 < c := by simpa using hm.symm
        exact bis_border f _ _ (by omega) (by omega) h3 fun i a b => h4 i (by omega) b
      · rename_i hp
        have hc : ¬ (lo + hi) / 2 < c := by
          intro q; rw [hm] at hp; exact hp (by simpa using q)
        exact bis_border f _ _ (by omega) h2 (by omega) fun i a b => h4 i a (by omega)
    · omega
theorem border_ex {p : Int → Bool} (hp : ∀ a b : Int, a < b → p b = true → p a = true) : ∀ {xs : List Int}, xs.Pairwise (· < ·) → ∃ c, c ≤ xs.length ∧ ∀ i, i < xs.length → p (xs.getD i 0) = decide (i < c)
  | [], _ => ⟨0, Nat.le_refl _, fun i h => by simp at h⟩
  | a :: xs, h => by
    obtain ⟨h1, h2⟩ := List.pairwise_cons.mp h
    by_cases ha : p a = true
    · obtain ⟨c, hc, hh⟩ := border_ex hp h2
      refine ⟨c + 1, by simpa using hc, fun i hi => ?_⟩
      cases i with
      | zero => simpa using ha
      | succ i =>
        have := hh i (by simpa using hi)
        simp only [List.getD_cons_succ, this]
        simp
    · refine ⟨0, Nat.zero_le _, fun i hi => ?_⟩
      cases i with
      | zero => simpa using ha
      | succ i =>
        simp only [List.getD_cons_succ]
        have hi' : i < xs.length := by simpa using hi
        have hx : xs.getD i 0 ∈ xs := by
          rw [List.getD_eq_getElem?_getD, List.getElem?_eq_getElem hi']; simp
        have : p (xs.getD i 0) ≠ true := fun q => ha (hp _ _ (h1 _ hx) q)
        simpa using this
theorem getD_mem {xs : List Int} {i : Nat} (h : i < xs.length) : xs.getD i 0 ∈ xs := by
  rw [List.getD_eq_getElem?_getD, List.getElem?_eq_getElem h]; simp
theorem lvStep_sorted {L : List Int} {x : Int} (hs : L.Pairwise (· < ·)) : (lvStep L x).Pairwise (· < ·) ∧ ∀ y, y ∈ lvStep L x ↔ y = x ∨ y ∈ L := by
  obtain ⟨c1, hc1, b1⟩ := border_ex (p := fun v => decide (v < x)) (fun a b hab hb => by simp at hb ⊢; omega) hs
  obtain ⟨c2, hc2, b2⟩ := border_ex (p := fun v => !decide (x < v)) (fun a b hab hb => by simp at hb ⊢; omega) hs
  have e1 : bis (fun v => decide (v < x)) L L.length 0 L.length = c1 := bis_border _ _ _ (by omega) (Nat.zero_le _) hc1 fun i _ h => b1 i h
  have e2 : bis (fun v => !decide (x < v)) L L.length 0 L.length = c2 := bis_border _ _ _ (by omega) (Nat.zero_le _) hc2 fun i _ h => b2 i h
  unfold lvStep insAt
  rw [e1, e2]
  split
  · rename_i hc
    subst hc
    have ht : ∀ a ∈ L.take c1, a < x := fun a ha => by
      obtain ⟨i, hi, rfl⟩ := List.mem_take_iff_getElem.mp ha
      have := b1 i (by omega)
      rw [List.getD_eq_getElem?_getD, List.getElem?_eq_getElem (by omega)] at this
      have hlt : i < c1 := by omega
      simpa [hlt] using this
    have hd : ∀ a ∈ L.drop c1, x < a := fun a ha => by
      obtain ⟨i, hi, rfl⟩ := List.mem_drop_iff_getElem.mp ha
      have := b2 (c1 + i) (by omega)
      rw [List.getD_eq_getElem?_getD, List.getElem?_eq_getElem (by omega)] at this
      have hlt : ¬ (c1 + i < c1) := by omega
      simpa [hlt] using this
    constructor
    · refine List.pairwise_append.mpr ⟨hs.sublist (List.take_sublist _ _), List.pairwise_cons.mpr ⟨hd, hs.sublist (List.drop_sublist _ _)⟩, fun a ha b hb => ?_⟩
      rcases List.mem_cons.mp hb with rfl | hb
      · exact ht a ha
      · exact Int.lt_trans (ht a ha) (hd b hb)
    · intro y
      have : y ∈ L ↔ y ∈ L.take c1 ∨ y ∈ L.drop c1 := by
        rw [← List.mem_append, List.take_append_drop]
      rw [List.mem_append, List.mem_cons, this]
      constructor
      · rintro (h | h | h)
        · exact .inr (.inl h)
        · exact .inl h
        · exact .inr (.inr h)
      · rintro (h | h | h)
        · exact .inr (.inl h)
        · exact .inl h
        · exact .inr (.inr h)
  · rename_i hc
    refine ⟨hs, fun y => ⟨.inr, ?_⟩⟩
    rintro (rfl | h)
    · rcases Nat.lt_or_gt_of_ne hc with h | h
      · have q1 := b1 c1 (by omega)
        have q2 := b2 c1 (by omega)
        have hm := getD_mem (xs := L) (i := c1) (by omega)
        generalize L.getD c1 0 = v at q1 q2 hm
        simp [h] at q1 q2
        have : v = y := by omega
        rw [← this]; exact hm
      · exfalso
        have q1 := b1 c2 (by omega)
        have q2 := b2 c2 (by omega)
        generalize L.getD c2 0 = v at q1 q2
        simp [h] at q1 q2
        omega
    · exact h
theorem levels_ok (rs : List (Str × Bool)) : (levelsOf rs).Pairwise (· < ·) ∧ ∀ y, y ∈ levelsOf rs ↔ ∃ q ∈ rs, y = (q.1.length : Int) := by
  have : ∀ (rs : List (Str × Bool)) (L : List Int), L.Pairwise (· < ·) → (rs.foldl (fun L q => lvStep L q.1.length) L).Pairwise (· < ·) ∧ ∀ y, y ∈ rs.foldl (fun L q => lvStep L q.1.length) L ↔ y ∈ L ∨ ∃ q ∈ rs, y = (q.1.length : Int) := by
    intro rs
    induction rs with
    | nil => intro L h; exact ⟨h, fun y => ⟨.inl, fun h => by rcases h with h | ⟨q, h, _⟩; exact h; cases h⟩⟩
    | cons q rs ih =>
      intro L h
      obtain ⟨s1, s2⟩ := lvStep_sorted (x := (q.1.length : Int)) h
      obtain ⟨i1, i2⟩ := ih _ s1
      refine ⟨i1, fun y => ?_⟩
      rw [List.foldl_cons, i2, s2]
      constructor
      · rintro ((h | h) | ⟨q', h, e⟩)
        · exact .inr ⟨q, .head _, h⟩
        · exact .inl h
        · exact .inr ⟨q', .tail _ h, e⟩
      · rintro (h | ⟨q', h, e⟩)
        · exact .inl (.inr h)
        · rcases List.mem_cons.mp h with rfl | h
          · exact .inl (.inl e)
          · exact .inr ⟨q', h, e⟩
  obtain ⟨a, b⟩ := this rs [] List.Pairwise.nil
  exact ⟨a, fun y => (b y).trans ⟨fun h => by rcases h with h | h; cases h; exact h, .inr⟩⟩
/-- is it a signpost? -/
def isPost (ns : List Int) (l : List (Str × Bool)) (x : Str) : Bool := l.any fun q => (looksL ns q.1).any fun v => decide (v ≤ (q.1.length : Int)) && decide (Txt.slice q.1 none (some v) = x)
theorem valueAt_stored (kvs : List (Str × Value)) (k x : Str) (v : Value) : valueAt (stored kvs k v) x = if k = x then some v else valueAt kvs x := by
  unfold stored
  split
  · rename_i h
    induction kvs with
    | nil => simp at h
    | cons kv kvs ih =>
      by_cases hk : kv.1 = k
      · by_cases hx : k = x
        · simp [valueAt, hk, hx]
        · have hkx : ¬ kv.1 = x := fun e => hx (hk.symm.trans e)
          have : ∀ l : List (Str × Value), valueAt (l.map fun kv => if kv.1 = k then (kv.1, v) else kv) x = valueAt l x := by
            intro l
            induction l with
            | nil => rfl
            | cons a l ih =>
              by_cases ha : a.1 = k
              · have : ¬ k = x := hx
                simp only [valueAt, List.map_cons, ha, if_true, List.find?_cons, decide_eq_false this] at ih ⊢
                exact ih
              · by_cases hax : a.1 = x
                · have hxk : ¬ x = k := fun e => ha (hax.trans e)
                  simp [valueAt, hax, hxk]
                · simp only [valueAt, List.map_cons, ha, if_false, List.find?_cons, decide_eq_false hax] at ih ⊢
                  exact ih
          rw [if_neg hx]
          exact this _
      · have h' : (kvs.any fun kv => decide (kv.1 = k)) = true := by simpa [hk] using h
        have ih := ih h'
        by_cases hx : kv.1 = x
        · have : ¬ k = x := fun e => hk (hx.trans e.symm)
          rw [if_neg this] at ih ⊢
          have hxk : ¬ x = k := fun e => this e.symm
          simp [valueAt, hx, hxk]
        · simp only [valueAt, List.map_cons, hk, if_false, List.find?_cons, decide_eq_false hx] at ih ⊢
          exact ih
  · rename_i h
    simp only [valueAt, List.find?_append]
    by_cases hx : k = x
    · rw [if_pos hx]
      have : kvs.find? (fun kv => decide (kv.1 = x)) = none := by
        rw [List.find?_eq_none]
        intro kv hkv e
        apply h
        rw [List.any_eq_true]
        exact ⟨kv, hkv, by simpa [hx] using e⟩
      simp [this, hx]
    · rw [if_neg hx]
      simp [hx]
theorem valueAt_putOne (rs : List (Str × Bool)) (p : Str) (kvs : List (Str × Value)) (v : Int) (x : Str) :
    valueAt (putOne rs p kvs v) x = if (decide (v ≤ (p.length : Int)) && decide (Txt.slice p none (some v) = x)) = true then some (.bool (says rs x)) else valueAt kvs x := by
  unfold putOne
  split
  · rename_i h
    rw [valueAt_stored]
    by_cases hx : Txt.slice p none (some v) = x
    · simp [h, hx]
    · simp [hx]
  · rename_i h
    simp [h]
theorem valueAt_putAll (rs : List (Str × Bool)) (p : Str) (x : Str) : ∀ (vs : List Int) (kvs : List (Str × Value)),
    valueAt (putAll rs p kvs vs) x = if (vs.any fun v => decide (v ≤ (p.length : Int)) && decide (Txt.slice p none (some v) = x)) = true then some (.bool (says rs x)) else valueAt kvs x
  | [], kvs => by simp [putAll]
  | v :: vs, kvs => by
    have h := valueAt_putAll rs p x vs (putOne rs p kvs v)
    have e : putAll rs p kvs (v :: vs) = putAll rs p (putOne rs p kvs v) vs := rfl
    rw [e, h, valueAt_putOne, List.any_cons]
    cases h1 : (decide (v ≤ (p.length : Int)) && decide (Txt.slice p none (some v) = x)) <;> cases h2 : (vs.any fun v => decide (v ≤ (p.length : Int)) && decide (Txt.slice p none (some v) = x)) <;> simp
theorem valueAt_posts (ns : List Int) (rs : List (Str × Bool)) (x : Str) (l : List (Str × Bool)) : valueAt (postsOf ns rs l) x = (if isPost ns l x = true then some (says rs x) else none).map Value.bool := by
  have : ∀ (l : List (Str × Bool)) (kvs : List (Str × Value)), valueAt (l.foldl (fun kvs q => putAll rs q.1 kvs (looksL ns q.1)) kvs) x = if isPost ns l x = true then some (.bool (says rs x)) else valueAt kvs x := by
    intro l
    induction l with
    | nil => intro kvs; simp [isPost]
    | cons q l ih =>
      intro kvs
      rw [List.foldl_cons, ih, valueAt_putAll]
      have e : isPost ns (q :: l) x = (((looksL ns q.1).any fun v => decide (v ≤ (q.1.length : Int)) && decide (Txt.slice q.1 none (some v) = x)) || isPost ns l x) := by simp [isPost]
      rw [e]
      cases h1 : ((looksL ns q.1).any fun v => decide (v ≤ (q.1.length : Int)) && decide (Txt.slice q.1 none (some v) = x)) <;> cases h2 : isPost ns l x <;> simp
  rw [postsOf, this]
  split <;> rfl
/-- what the signposts say -/
def postF (rs : List (Str × Bool)) (x : Str) : Option Bool := if isPost (levelsOf rs) rs x = true then some (says rs x) else none
theorem posts_map (rs : List (Str × Bool)) : valueAt (postsOf (levelsOf rs) rs rs) = fun x => (postF rs x).map Value.bool := funext fun x => valueAt_posts _ _ _ _
theorem toldOf_snoc (rs : List (Str × Bool)) (q : Str × Bool) (x : Str) : toldOf (rs ++ [q]) x = toldOf rs x ++ (if q.1 = x then [q.2] else []) := by
  unfold toldOf
  rw [List.filter_append, List.map_append]
  by_cases h : q.1 = x <;> simp [h]
theorem toldOf_nil {rs : List (Str × Bool)} {x : Str} (h : ∀ q ∈ rs, q.1 ≠ x) : toldOf rs x = [] := by
  unfold toldOf
  rw [List.map_eq_nil_iff, List.filter_eq_nil_iff]
  intro q hq e
  exact h q hq (by simpa using e)
theorem toldOf_ne {rs : List (Str × Bool)} {x : Str} {q : Str × Bool} (hq : q ∈ rs) (h : q.1 = x) : toldOf rs x ≠ [] := by
  unfold toldOf
  intro e
  rw [List.map_eq_nil_iff, List.filter_eq_nil_iff] at e
  exact e q hq (by simpa using h)
/-- a path that the name begins with -/
abbrev Front (nm p : Str) : Prop := fr nm p.length = p
theorem Front.le {nm p : Str} (h : Front nm p) : p.length ≤ nm.length := by
  have := fr_length nm p.length
  unfold Front at h
  rw [h] at this
  omega
theorem applies_eq (p nm : Str) : applies p nm = if Front nm p then (p.length : Int) + 1 else 0 := by
  unfold applies
  rw [slice_fr]
  by_cases h : Front nm p
  · rw [if_pos h, if_pos]
    exact beq_iff_eq.mpr h
  · rw [if_neg h, if_neg]
    exact fun e => h (beq_iff_eq.mp e)
/-- what the record's fold knows -/
def Known (rs : List (Str × Bool)) (nm : Str) (z : Int × Bool) : Prop :=
  (z = (-1, true) ∧ ∀ q ∈ rs, ¬ Front nm q.1) ∨ ∃ k : Nat, z = ((k : Int) + 1, (toldOf rs (fr nm k)).contains true) ∧ (∀ q ∈ rs, Front nm q.1 → q.1.length ≤ k) ∧ ∃ q ∈ rs, Front nm q.1 ∧ q.1.length = k
theorem known_snoc {rs : List (Str × Bool)} {nm : Str} {z : Int × Bool} {q : Str × Bool} (h : Known rs nm z) : Known (rs ++ [q]) nm (alStep nm z q) := by
  unfold alStep
  rw [applies_eq]
  by_cases hf : Front nm q.1
  · rw [if_pos hf, if_neg (by omega)]
    rcases h with ⟨rfl, h⟩ | ⟨k, rfl, h1, q0, h2, h3, h4⟩
    · rw [if_pos (by show (-1 : Int) < _; omega)]
      refine .inr ⟨q.1.length, ?_, ?_, q, by simp, hf, rfl⟩
      · rw [toldOf_snoc, if_pos (show q.1 = fr nm q.1.length from hf.symm), toldOf_nil]
        · simp
        · intro q' hq' e
          apply h q' hq'
          rw [e]
          unfold Front
          rw [fr_length, Nat.min_eq_left hf.le]
      · intro q' hq' hf'
        rcases List.mem_append.mp hq' with hq' | hq'
        · exact (h q' hq' hf').elim
        · rw [List.mem_singleton.mp hq']; exact Nat.le_refl _
    · have hk : k ≤ nm.length := by rw [← h4]; exact h3.le
      by_cases hlt : k < q.1.length
      · rw [if_pos (by show (k : Int) + 1 < _; omega)]
        refine .inr ⟨q.1.length, ?_, ?_, q, by simp, hf, rfl⟩
        · rw [toldOf_snoc, if_pos (show q.1 = fr nm q.1.length from hf.symm), toldOf_nil]
          · simp
          · intro q' hq' e
            have hl : q'.1.length = q.1.length := by rw [e, fr_length, Nat.min_eq_left hf.le]
            have : Front nm q'.1 := by unfold Front; rw [hl]; exact e.symm
            have := h1 q' hq' this
            omega
        · intro q' hq' hf'
          rcases List.mem_append.mp hq' with hq' | hq'
          · have := h1 q' hq' hf'; omega
          · rw [List.mem_singleton.mp hq']; exact Nat.le_refl _
      · rw [if_neg (by show ¬ (k : Int) + 1 < _; omega)]
        have hmax : ∀ q' ∈ rs ++ [q], Front nm q'.1 → q'.1.length ≤ k := by
          intro q' hq' hf'
          rcases List.mem_append.mp hq' with hq' | hq'
          · exact h1 q' hq' hf'
          · rw [List.mem_singleton.mp hq']; omega
        by_cases he : q.1.length = k
        · have hq : q.1 = fr nm k := by rw [← he]; exact hf.symm
          have e : (q.1.length : Int) + 1 = (k : Int) + 1 := by omega
          cases hb : (toldOf rs (fr nm k)).contains true with
          | true =>
            rw [if_neg (by simp)]
            refine .inr ⟨k, ?_, hmax, q, by simp, hf, he⟩
            rw [toldOf_snoc, if_pos hq]
            simp at hb ⊢
            exact .inl hb
          | false =>
            rw [if_pos ⟨e, rfl⟩]
            refine .inr ⟨k, ?_, hmax, q, by simp, hf, he⟩
            rw [toldOf_snoc, if_pos hq]
            simp at hb ⊢
            cases hq2 : q.2 <;> simp [hb]
        · rw [if_neg (by simp; omega)]
          refine .inr ⟨k, ?_, hmax, q0, by simp [h2], h3, h4⟩
          rw [toldOf_snoc, if_neg]
          · simp
          · intro e
            apply he
            rw [e, fr_length, Nat.min_eq_left hk]
  · rw [if_neg hf, if_pos rfl]
    rcases h with ⟨rfl, h⟩ | ⟨k, rfl, h1, q0, h2, h3, h4⟩
    · refine .inl ⟨rfl, fun q' hq' => ?_⟩
      rcases List.mem_append.mp hq' with hq' | hq'
      · exact h q' hq'
      · rw [List.mem_singleton.mp hq']; exact hf
    · have hk : k ≤ nm.length := by rw [← h4]; exact h3.le
      refine .inr ⟨k, ?_, ?_, q0, by simp [h2], h3, h4⟩
      · rw [toldOf_snoc, if_neg]
        · simp
        · intro e
          apply hf
          unfold Front
          rw [e, fr_length, Nat.min_eq_left hk]
      · intro q' hq' hf'
        rcases List.mem_append.mp hq' with hq' | hq'
        · exact h1 q' hq' hf'
        · rw [List.mem_singleton.mp hq'] at hf'; exact (hf hf').elim
theorem known_all (nm : Str) (rs : List (Str × Bool)) : Known rs nm (alFold rs nm) := by
  have : ∀ (l rs : List (Str × Bool)) (z : Int × Bool), Known rs nm z → Known (rs ++ l) nm (l.foldl (alStep nm) z) := by
    intro l
    induction l with
    | nil => intro rs z h; simpa using h
    | cons q l ih =>
      intro rs z h
      have := ih (rs ++ [q]) _ (known_snoc (q := q) h)
      simpa using this
  simpa [alFold] using this rs [] (-1, true) (.inl ⟨rfl, fun _ h => by cases h⟩)
/-- what a signpost of the name says -/
theorem says_none {rs : List (Str × Bool)} {nm : Str} (h : ∀ q ∈ rs, ¬ Front nm q.1) {z : Nat} (hz : z ≤ nm.length) : says rs (fr nm z) = true := by
  have hn : ∀ k, k ≤ z → toldOf rs (fr nm k) = [] := fun k hk => toldOf_nil fun q hq e => h q hq (by
    unfold Front
    rw [e, fr_length, Nat.min_eq_left (by omega)])
  have hf : ∀ k, k ≤ z → saysFrom rs (fr nm z) k = true := by
    intro k
    induction k with
    | zero =>
      intro hk
      rw [saysFrom_zero, slice_fr, fr_fr, Nat.min_eq_left hk, if_neg]
      simp [hn 0 hk]
    | succ k ih =>
      intro hk
      rw [saysFrom_succ, slice_fr, fr_fr, Nat.min_eq_left hk, if_neg]
      · exact ih (by omega)
      · simp [hn _ hk]
  unfold says
  exact hf _ (by rw [fr_length]; omega)
theorem says_some {rs : List (Str × Bool)} {nm : Str} {k : Nat} (h1 : ∀ q ∈ rs, Front nm q.1 → q.1.length ≤ k) (h2 : ∃ q ∈ rs, Front nm q.1 ∧ q.1.length = k) {z : Nat} (hz : z ≤ nm.length) (hk : k ≤ z) :
    says rs (fr nm z) = (toldOf rs (fr nm k)).contains true := by
  have hn : ∀ j, k < j → j ≤ z → toldOf rs (fr nm j) = [] := fun j hj hk => toldOf_nil fun q hq e => by
    have hl : q.1.length = j := by rw [e, fr_length, Nat.min_eq_left (by omega)]
    have := h1 q hq (by unfold Front; rw [hl]; exact e.symm)
    omega
  have hy : toldOf rs (fr nm k) ≠ [] := by
    obtain ⟨q, hq, hf, hl⟩ := h2
    exact toldOf_ne hq (by rw [← hl]; exact hf.symm)
  have hf : ∀ j, k ≤ j → j ≤ z → saysFrom rs (fr nm z) j = (toldOf rs (fr nm k)).contains true := by
    intro j
    induction j with
    | zero =>
      intro h0 hz
      have : k = 0 := by omega
      subst this
      rw [saysFrom_zero, slice_fr, fr_fr, Nat.min_eq_left hz, if_pos hy]
    | succ j ih =>
      intro h0 hz
      rw [saysFrom_succ, slice_fr, fr_fr, Nat.min_eq_left hz]
      by_cases e : k = j + 1
      · rw [← e, if_pos hy]
      · rw [if_neg (by simp [hn (j + 1) (by omega) hz])]
        exact ih (by omega) (by omega)
  unfold says
  exact hf _ (by rw [fr_length]; omega) (by rw [fr_length]; omega)
/-- behind a good place only good ones are found -/
theorem bis_after {p : Int → Bool} {xs : List Int} {G : Nat → Prop} : ∀ f lo hi, hi ≤ xs.length → (lo = 0 ∨ G (lo - 1)) → (∀ m, lo ≤ m → m < xs.length → p (xs.getD m 0) = true → G m) → (bis p xs f lo hi = 0 ∧ lo = 0) ∨ (1 ≤ bis p xs f lo hi ∧ G (bis p xs f lo hi - 1)) 
  | 0, lo, hi, h1, h2, h3 => by
    rw [bis]
    by_cases h : lo = 0
    · exact .inl ⟨h, h⟩
    · exact .inr ⟨by omega, h2.resolve_left h⟩
  | f + 1, lo, hi, h1, h2, h3 => by
    rw [bis]
    split
    · split
      · rename_i hp
        have hg := h3 _ (by omega) (by omega) hp
        rcases bis_after f ((lo + hi) / 2 + 1) hi h1 (.inr hg) (fun m a b c => h3 m (by omega) b c) with ⟨_, e⟩ | h
        · omega
        · exact .inr h
      · exact bis_after f lo _ (by omega) h2 h3
    · by_cases h : lo = 0
      · exact .inl ⟨h, h⟩
      · exact .inr ⟨by omega, h2.resolve_left h⟩
theorem sorted_get {xs : List Int} (hs : xs.Pairwise (· < ·)) {i j : Nat} (h : i < j) (hj : j < xs.length) : xs.getD i 0 < xs.getD j 0 := by
  have := List.pairwise_iff_getElem.mp hs i j (by omega) hj h
  rw [List.getD_eq_getElem?_getD, List.getD_eq_getElem?_getD, List.getElem?_eq_getElem hj, List.getElem?_eq_getElem (by omega)]
  exact this
/-- while the name's search runs as the path's own -/
theorem bis_with {p : Int → Bool} {xs : List Int} {k0 : Int} {j : Nat} {G : Nat → Prop} (hs : xs.Pairwise (· < ·)) (hj : xs.getD j 0 = k0) (hjl : j < xs.length) (hG : ∀ m, j ≤ m → m < xs.length → p (xs.getD m 0) = true → G m) :
    ∀ f lo hi, hi - lo ≤ f → lo ≤ j → j < hi → hi ≤ xs.length → (∀ v ∈ looks (fun v => decide (v < k0)) xs f lo hi, v ≤ k0 → p v = true) → 1 ≤ bis p xs f lo hi ∧ G (bis p xs f lo hi - 1)
  | 0, lo, hi, h1, h2, h3, h4, _ => by omega
  | f + 1, lo, hi, h1, h2, h3, h4, h5 => by
    have hlt : lo < hi := by omega
    rw [looks, if_pos hlt] at h5
    rw [bis, if_pos hlt]
    have hmid : (lo + hi) / 2 < xs.length := by omega
    rcases Nat.lt_trichotomy ((lo + hi) / 2) j with hm | hm | hm
    · have hv : xs.getD ((lo + hi) / 2) 0 < k0 := by rw [← hj]; exact sorted_get hs hm hjl
      have hp := h5 _ (.head _) (by omega)
      rw [if_pos hp]
      rw [if_pos (by simpa using hv)] at h5
      exact bis_with hs hj hjl hG f _ _ (by omega) (by omega) h3 h4 fun v hv => h5 v (.tail _ hv)
    · have hv : xs.getD ((lo + hi) / 2) 0 = k0 := by rw [hm, hj]
      have hp := h5 _ (.head _) (by omega)
      rw [if_pos hp]
      have hg := hG _ (by omega) hmid hp
      rcases bis_after f ((lo + hi) / 2 + 1) hi h4 (.inr hg) (fun m a b c => hG m (by omega) b c) with ⟨_, e⟩ | h
      · omega
      · exact h
    · have hv : k0 < xs.getD ((lo + hi) / 2) 0 := by rw [← hj]; exact sorted_get hs hm hmid
      split
      · rename_i hp
        have hg := hG _ (by omega) hmid hp
        rcases bis_after f ((lo + hi) / 2 + 1) hi h4 (.inr hg) (fun m a b c => hG m (by omega) b c) with ⟨_, e⟩ | h
        · omega
        · exact h
      · rw [if_neg (by rw [decide_eq_true_eq]; omega)] at h5
        exact bis_with hs hj hjl hG f _ _ (by omega) h2 (by omega) (by omega) fun v hv => h5 v (.tail _ hv)
theorem looks_mem {p : Int → Bool} {xs : List Int} : ∀ f lo hi, hi ≤ xs.length → ∀ v ∈ looks p xs f lo hi, v ∈ xs
  | 0, _, _, _, v, hv => by cases hv
  | f + 1, lo, hi, h, v, hv => by
    rw [looks] at hv
    split at hv
    · rcases List.mem_cons.mp hv with rfl | hv
      · exact getD_mem (by omega)
      · split at hv
        · exact looks_mem f _ _ h v hv
        · exact looks_mem f _ _ (by omega) v hv
    · cases hv
/-- the plain law -/
theorem plain_law (rs : List (Str × Bool)) (nm : Str) :
    (bis (fun v => !lostB nm (postF rs) v) (levelsOf rs) (levelsOf rs).length 0 (levelsOf rs).length = 0 ∧ allow rs nm = true) ∨
    ∃ i z : Nat, bis (fun v => !lostB nm (postF rs) v) (levelsOf rs) (levelsOf rs).length 0 (levelsOf rs).length = i + 1 ∧ (levelsOf rs)[i]? = some (z : Int) ∧ postF rs (Txt.slice nm none (some (z : Int))) = some (allow rs nm) := by
  obtain ⟨hs, hmem⟩ := levels_ok rs
  have hnat : ∀ m, m < (levelsOf rs).length → ∃ z : Nat, (levelsOf rs).getD m 0 = (z : Int) ∧ (levelsOf rs)[m]? = some (z : Int) := fun m hm => by
    obtain ⟨q, _, e⟩ := (hmem _).mp (getD_mem hm)
    refine ⟨q.1.length, e, ?_⟩
    rw [← e, List.getD_eq_getElem?_getD, List.getElem?_eq_getElem hm]; rfl
  have hfound : ∀ z : Nat, (!lostB nm (postF rs) (z : Int)) = true → z ≤ nm.length ∧ postF rs (fr nm z) = some (says rs (fr nm z)) := by
    intro z hz
    unfold lostB at hz
    rw [slice_fr] at hz
    simp only [Bool.not_eq_true', Bool.or_eq_false_iff, decide_eq_false_iff_not, Option.isNone_eq_false_iff] at hz
    refine ⟨by omega, ?_⟩
    have h2 := hz.2
    unfold postF at h2 ⊢
    split
    · rfl
    · rename_i h
      rw [if_neg h] at h2
      cases h2
  have hK := known_all nm rs
  have done : ∀ r, (1 ≤ r ∧ (fun m => ∃ z : Nat, (levelsOf rs)[m]? = some (z : Int) ∧ postF rs (Txt.slice nm none (some (z : Int))) = some (allow rs nm)) (r - 1)) → ∃ i z : Nat, r = i + 1 ∧ (levelsOf rs)[i]? = some (z : Int) ∧ postF rs (Txt.slice nm none (some (z : Int))) = some (allow rs nm) := by
    rintro r ⟨h1, z, h2, h3⟩
    exact ⟨r - 1, z, by omega, h2, h3⟩
  rcases hK with ⟨hz, hno⟩ | ⟨k, hz, h1, q0, hq0, hf0, hl0⟩
  · have hal : allow rs nm = true := by rw [allow, hz]
    have hG : ∀ m, 0 ≤ m → m < (levelsOf rs).length → (fun v => !lostB nm (postF rs) v) ((levelsOf rs).getD m 0) = true → (fun m => ∃ z : Nat, (levelsOf rs)[m]? = some (z : Int) ∧ postF rs (Txt.slice nm none (some (z : Int))) = some (allow rs nm)) m := fun m _ hm hp => by
      obtain ⟨z, e1, e2⟩ := hnat m hm
      rw [e1] at hp
      obtain ⟨a, b⟩ := hfound z hp
      refine ⟨z, e2, ?_⟩
      rw [slice_fr, b, says_none hno a, hal]
    rcases bis_after (p := fun v => !lostB nm (postF rs) v) (xs := levelsOf rs) (G := fun m => ∃ z : Nat, (levelsOf rs)[m]? = some (z : Int) ∧ postF rs (Txt.slice nm none (some (z : Int))) = some (allow rs nm)) (levelsOf rs).length 0 (levelsOf rs).length (Nat.le_refl _) (.inl rfl) hG with ⟨e, _⟩ | h
    · exact .inl ⟨e, hal⟩
    · exact .inr (done _ h)
  · have hal : allow rs nm = (toldOf rs (fr nm k)).contains true := by rw [allow, hz]
    have hkm : (k : Int) ∈ levelsOf rs := (hmem _).mpr ⟨q0, hq0, by rw [hl0]⟩
    obtain ⟨j, hj, hje⟩ := List.getElem_of_mem hkm
    have hjd : (levelsOf rs).getD j 0 = (k : Int) := by rw [List.getD_eq_getElem?_getD, List.getElem?_eq_getElem hj, hje]; rfl
    have hk : k ≤ nm.length := by rw [← hl0]; exact hf0.le
    refine .inr (done _ (bis_with (p := fun v => !lostB nm (postF rs) v) (G := fun m => ∃ z : Nat, (levelsOf rs)[m]? = some (z : Int) ∧ postF rs (Txt.slice nm none (some (z : Int))) = some (allow rs nm)) hs hjd hj (fun m hjm hm hp => ?_) (levelsOf rs).length 0 (levelsOf rs).length (by omega) (Nat.zero_le _) hj (Nat.le_refl _) fun v hv hvk => ?_))
    · obtain ⟨z, e1, e2⟩ := hnat m hm
      rw [e1] at hp
      obtain ⟨a, b⟩ := hfound z hp
      refine ⟨z, e2, ?_⟩
      have hkz : k ≤ z := by
        rcases Nat.lt_or_ge j m with h | h
        · have := sorted_get hs h hm
          rw [hjd, e1] at this
          omega
        · have : j = m := by omega
          subst this
          rw [hjd] at e1
          omega
      rw [slice_fr, b, says_some h1 ⟨q0, hq0, hf0, hl0⟩ a hkz, hal]
    · obtain ⟨q, _, e⟩ := (hmem _).mp (looks_mem _ _ _ (Nat.le_refl _) v hv)
      generalize q.1.length = z at e
      subst e
      have hzk : z ≤ k := by omega
      have hq : q0.1 = fr nm k := by rw [← hl0]; exact hf0.symm
      have hpost : isPost (levelsOf rs) rs (fr nm z) = true := by
        unfold isPost
        rw [List.any_eq_true]
        refine ⟨q0, hq0, ?_⟩
        rw [List.any_eq_true]
        refine ⟨(z : Int), ?_, ?_⟩
        · unfold looksL
          rw [hl0]; exact hv
        · rw [slice_fr, hl0, hq, fr_fr, Nat.min_eq_left hzk]
          simp [hzk]
      show (!lostB nm (postF rs) (z : Int)) = true
      unfold lostB
      rw [slice_fr]
      unfold postF
      rw [if_pos hpost]
      simp
      omega
end Mine

-- L6
namespace Mine
local macro_rules | `(tactic| walk_at "go") => `(tactic| repeat' (
  (fail_if_success (with_reducible show wpAny _ _ (exec (Stmt.While _ _ _ _) _) _ _ _));
  (fail_if_success (with_reducible show wpAny _ _ (exec (Stmt.For _ _ _ _ _) _) _ _ _));
  (fail_if_success (with_reducible show wpAny _ _ (exec (Stmt.Assign _ (Expr.ListComp _ _ _ _) _) _) _ _ _));
  (fail_if_success (with_reducible show wpAny _ _ (call (Value.ref _) _ _) _ _ _));
  (fail_if_success (with_reducible show wpAny _ _ (eval (Expr.Lambda _ _ _ _) _) _ _ _));
  (fail_if_success (with_reducible show wpAny _ _ (eval (Expr.ListComp _ _ _ _) _) _ _ _));
  (fail_if_success (with_reducible show wpAny _ _ (call (Value.builtin "str.join") _ _) _ _ _));
  (fail_if_success (with_reducible show wpAny _ _ (pyIter _) _ _ _));
  (fail_if_success (with_reducible show wpAny _ _ (setItem _ _ _) _ _ _));
  (fail_if_success (with_reducible show wpAny _ _ (setAttr _ _ _) _ _ _));
  (fail_if_success (with_reducible show Exists _));
  (first | walk1 | (dsimp only; walk1)); (try dsimp only)))
local macro_rules | `(tactic| walk_at "eval Name") => `(tactic| ((with_reducible show wpAny _ _ (eval (Expr.Name _ _) (envOf _ _ _ _ _)) _ _ _); refine ld (by assumption) (by with_unfolding_all assumption) ?_ (by kernel_rfl!) (by kernel_rfl!) (by decide +kernel)))
local macro_rules | `(tactic| walk_at "eval Name") => `(tactic| ((with_reducible show wpAny _ _ (eval (Expr.Name _ _) (envX _ _ _ _ _ _)) _ _ _); refine nameFree (by assumption) rfl (by assumption) (by assumption) ?_ rfl rfl (by decide) (by decide)))
local macro_rules | `(tactic| walk_at "eval Name") => `(tactic| ((with_reducible show wpAny _ _ (eval (Expr.Name _ _) (envOfC _ _ _ _ _)) _ _ _); refine nameLocC (by assumption) (by with_unfolding_all assumption) ?_ rfl rfl (by decide)))


local macro_rules | `(tactic| walk_at "eval Name") => `(tactic| ((with_reducible show wpAny _ _ (eval (Expr.Name _ _) (compEnvC _ _ _ _)) _ _ _); refine nameCompN (by assumption) rfl (by repeat (first | exact List.Mem.head _ | apply List.Mem.tail)) (by assumption) ?_ rfl rfl rfl))
local macro_rules | `(tactic| walk_at "eval Name") => `(tactic| ((with_reducible show wpAny _ _ (eval (Expr.Name _ _) (compEnvC _ _ _ _)) _ _ _); refine nameCompL (by assumption) rfl ?_ rfl rfl rfl))
local macro_rules | `(tactic| walk_at "eval Name") => `(tactic| ((with_reducible show wpAny _ _ (eval (Expr.Name _ _) (compEnvC _ _ _ _)) _ _ _); refine nameCompC (by assumption) rfl (by assumption) (by assumption) ?_ rfl rfl rfl))
local macro_rules | `(tactic| walk_at "eval Name") => `(tactic| ((with_reducible show wpAny _ _ (eval (Expr.Name _ _) (compEnvC _ _ _ _)) _ _ _); refine nameCompL (by assumption) (by assumption) ?_ rfl rfl rfl))
local macro_rules | `(tactic| walk_at "mem") => `(tactic| (repeat (first | assumption | exact List.Mem.head _ | apply List.Mem.tail)))
local macro_rules | `(tactic| walk_at "go0") => `(tactic| repeat' (
  (fail_if_success (with_reducible show wpAny _ _ (exec (Stmt.Assign _ (Expr.ListComp _ _ _ _) _) _) _ _ _));
  (first | (k_unfold; (try dsimp only)) | walk1 | (dsimp only; walk1))))
local macro_rules | `(tactic| walk_at "goF") => `(tactic| repeat' (
  (fail_if_success (with_reducible show wpAny _ _ (exec (Stmt.For _ _ _ _ _) _) _ _ _));
  (first | walk1 | (dsimp only; walk1))))
local macro_rules | `(tactic| walk_at "goS") => `(tactic| repeat' (
  (fail_if_success (with_reducible show ite _ _ _));
  (fail_if_success (with_reducible show Exists _));
  (fail_if_success (with_reducible show wpAny _ _ (call (Value.ref _) _ _) _ _ _));
  (fail_if_success (with_reducible show wpAny _ _ (subscriptTail _ _ (Value.ref _) (Value.int _ _)) _ _ _));
  (fail_if_success (with_reducible show wpAny _ _ (subscriptTail _ _ (Value.ref _) (Value.str _ _)) _ _ _));
  (first | walk1 | (dsimp only; walk1)); (try dsimp only)))
theorem intsAre_idx : ∀ {vs : List Value} {ns : List Int}, IntsAre vs ns → ∀ {i : Nat} {z : Int}, ns[i]? = some z → ∃ t, vs[i]? = some (.int z t)
  | _, _, .nil, _, _, h => by cases h
  | _, _, .cons n t h, 0, _, e => by cases e; exact ⟨t, rfl⟩
  | _, _, .cons n t h, i + 1, _, e => intsAre_idx h (i := i) (by simpa using e)
theorem ite_no {c : Prop} [Decidable c] {a b : Prop} (h : ¬ c) (hb : b) : ite c a b := by rw [if_neg h]; exact hb
theorem place_pos (n : Nat) : ¬ (((((n + 1 : Nat) : Int)) == 0) = true) := by
  rw [beq_iff_eq]; omega
theorem lv_item {prog : Program} {w : World} {A : Around} {E : Value → Shared → Prop} {s : Shared} {value slice : PySem.Expr} {l : Addr} {vs : List Value} {n : Nat} {u tz : Tok} {z : Int} {Q : Value → Shared → Prop}
    (hl : s.heap.IsList l vs.toArray) (hn : n < 50) (hx : vs[n]? = some (.int z tz)) (h : Q (.int z tz) s)
    (hs : subscripted slice false (.ref l) (.int (((n + 1 : Nat) : Int) - 1) u) = operate [.ref l, .int (((n + 1 : Nat) : Int) - 1) u] (getItem (.ref l) (.int (((n + 1 : Nat) : Int) - 1) u)) := by with_unfolding_all rfl) :
    wpAny (model prog w) A (subscriptTail value slice (.ref l) (.int (((n + 1 : Nat) : Int) - 1) u)) Q E s := by
  have e : (((n + 1 : Nat) : Int) - 1) = (n : Int) := by omega
  rw [e] at hs ⊢
  exact tail_any hl.typeIs slot_list_getitem.lookup (wpAny_getItem_list hl (by omega) (by omega) (by simpa using hx) h) hs
theorem pd_item {prog : Program} {w : World} {A : Around} {E : Value → Shared → Prop} {s : Shared} {value slice : PySem.Expr} {d : Addr} {x : Str} {t : Tok} {b : Bool} {f : Str → Option Bool} {Q : Value → Shared → Prop}
    (hm : s.heap.MapOf (strKind prog w) d fun x => (f x).map Value.bool) (hv : f x = some b) (h : Q (.bool b) { s with toks := s.toks + 1 })
    (hs : subscripted slice false (.ref d) (.str x t) = operate [.ref d, .str x t] (getItem (.ref d) (.str x t)) := by with_unfolding_all rfl) :
    wpAny (model prog w) A (subscriptTail value slice (.ref d) (.str x t)) Q E s :=
  tail_any hm.typeIs slot_dict_getitem.lookup (wpAny_getItem_of (k := x) (strKind_is _ _ _ _) hm (show (f x).map Value.bool = some (.bool b) by rw [hv]; rfl) h) hs
theorem idx_lt {ns : List Int} {i : Nat} {z : Int} (h : ns[i]? = some z) (hn : ns.length < 50) : i < 50 := by
  have := (List.getElem?_eq_some_iff.mp h).1; omega
theorem ite_yes {c : Prop} [Decidable c] {a b : Prop} (h : c) (hb : a) : ite c a b := by rw [if_pos h]; exact hb
theorem same_bool (b : Bool) : ¬ ((b != b) = true) := by cases b <;> decide
theorem post_true (args : List WData) : PySem.Challenge.rw_ny0145_01.row.claim.post args (.bool true) args = true := by
  show (WShape.has [] (.bool true) .bool && WTm.holds [] (WTm.eq .res (.lit (.bool true))) { args := args, res := some (.bool true), after := args }) = true
  have h1 : WShape.has [] (.bool true) .bool = true := by decide +kernel
  have h2 : same (WData.bool true) (WData.bool true) = true := by decide +kernel
  rw [h1, Bool.true_and]
  unfold WTm.holds
  simp only [WTm.value, h2]
theorem news_fourth {g h : Heap} {L : Addr} {a b c d : Addr × Obj} {news : List (Addr × Obj)} (N : News g L h (a :: b :: c :: d :: news)) : News g L h (d :: a :: b :: c :: news) := fun p hp => N p (by
  rcases List.mem_cons.mp hp with rfl | hp
  · exact .tail _ (.tail _ (.tail _ (.head _)))
  rcases List.mem_cons.mp hp with rfl | hp
  · exact .head _
  rcases List.mem_cons.mp hp with rfl | hp
  · exact .tail _ (.head _)
  rcases List.mem_cons.mp hp with rfl | hp
  · exact .tail _ (.tail _ (.head _))
  exact .tail _ (.tail _ (.tail _ (.tail _ hp))))
theorem allLt_mem {d : Nat} {l : List (Addr × Obj)} (h : AllLt d l) : ∀ p ∈ l, @LT.lt Nat _ p.1 d := by
  induction l with
  | nil => intro p hp; cases hp
  | cons a r ih =>
    intro p hp
    obtain ⟨h1, h2⟩ := h
    rcases List.mem_cons.mp hp with e | hp
    · rw [e]; exact h1
    · exact ih h2 p hp
/-- the table of `_law_rule`, told by objects that stay -/
def TabL (g : Heap) (K : List (Addr × Obj)) (o85 : Obj) : Prop := o85 = tabObj #[] ∨ ∃ c1 c2 oc1 oc2, o85 = tabObj #[rawInt 99, rawInt 11, .ref c1, rawInt 100, rawInt 22, .ref c2] ∧ (c1, oc1) ∈ K ∧ (c2, oc2) ∈ K ∧
  CodeO oc1 ∧ CodeO oc2 ∧ g.get? c2 = none ∧ g.get? c1 = none
theorem TabL.tab {g h : Heap} {K : List (Addr × Obj)} {o85 : Obj} (t : TabL g K o85) (h85 : h.get? 85 = some o85) (hK : ∀ p ∈ K, h.get? p.1 = some p.2) : Tab2 g h := by
  rcases t with rfl | ⟨c1, c2, oc1, oc2, rfl, k1, k2, ⟨v1, u1, d1, e1⟩, ⟨v2, u2, d2, e2⟩, g2, g1⟩
  · exact .inl h85
  · exact .inr ⟨c1, c2, h85, ⟨_, _, _, _, rfl, hK _ k1, d1, e1⟩, ⟨_, _, _, _, rfl, hK _ k2, d2, e2⟩, g2, g1⟩
theorem Tab2.told {g h : Heap} (t : Tab2 g h) : ∃ (o85 : Obj) (Kc : List (Addr × Obj)), h.get? 85 = some o85 ∧ (∀ K, (∀ p ∈ Kc, p ∈ K) → TabL g K o85) ∧ ∀ p ∈ Kc, h.get? p.1 = some p.2 ∧ g.get? p.1 = none ∧ CodeO p.2 ∧ p.1 ≠ 85 := by
  rcases t with t | ⟨c1, c2, t, r1, r2, g2, g1⟩
  · exact ⟨_, [], t, fun K _ => .inl rfl, fun _ h => by cases h⟩
  · have n1 := code_off t r1
    have n2 := code_off t r2
    obtain ⟨_, o1, v1, u1, e1, h1, d1, q1⟩ := r1
    obtain ⟨_, o2, v2, u2, e2, h2, d2, q2⟩ := r2
    cases e1; cases e2
    have f1 : c1 ≠ 85 := fun e => by
      obtain ⟨_, _, _, _, e', h', _⟩ := n1
      cases e'; rw [e, Heap.hide_self] at h'; cases h'
    have f2 : c2 ≠ 85 := fun e => by
      obtain ⟨_, _, _, _, e', h', _⟩ := n2
      cases e'; rw [e, Heap.hide_self] at h'; cases h'
    refine ⟨_, [(c1, o1), (c2, o2)], t, fun K hK => .inr ⟨c1, c2, o1, o2, rfl, hK _ (.head _), hK _ (.tail _ (.head _)), ⟨v1, u1, d1, q1⟩, ⟨v2, u2, d2, q2⟩, g2, g1⟩, fun p hp => ?_⟩
    rcases List.mem_cons.mp hp with rfl | hp
    · exact ⟨h1, g1, ⟨v1, u1, d1, q1⟩, f1⟩
    · rw [List.mem_singleton.mp hp]; exact ⟨h2, g2, ⟨v2, u2, d2, q2⟩, f2⟩
theorem code_ne {h : Heap} {p : Addr × Obj} {a : Addr} {o : Obj} {n : Nat} (hp : h.get? p.1 = some p.2) (hc : n ≤ p.1 ∨ CodeO p.2) (ha : h.get? a = some o) (hn : @LT.lt Nat _ a n) (ho : ∀ vs t, o.data = .fields vs → vs[1]? = some (.str (Str.ofString "_law_rule.<locals>.<lambda>") t) → False) : p.1 ≠ a := by
  rcases hc with hc | ⟨vs, t, d, e⟩
  · exact Nat.ne_of_gt (Nat.lt_of_lt_of_le hn hc)
  · intro q
    rw [q, ha] at hp
    cases hp
    exact ho _ _ d e
/-- an object that none of the later steps changes -/
def ApartK (L rl rec d : Nat) (p : Addr × Obj) : Prop := p.1 ≠ 85 ∧ p.1 ≠ 104 ∧ p.1 ≠ 111 ∧ p.1 ≠ L + 1 ∧ p.1 ≠ rl ∧ p.1 ≠ rec ∧ p.1 ≠ d
theorem units_ok (env : Env) : (callerA.deeper env).units < 8000 := by
  show 4 + _ < 8000
  decide
theorem item_one (z : Int) : (Txt.item (Str.ofString "ab") (z.fmod 2)).length = 1 := by
  have h0 : 0 ≤ z.fmod 2 := fmod_lo _ (by decide)
  have h1 : z.fmod 2 < 2 := fmod_hi _ (by decide)
  generalize z.fmod 2 = y at h0 h1 ⊢
  rcases (show y = 0 ∨ y = 1 by omega) with rfl | rfl <;> decide
set_option maxHeartbeats 8000000 in
theorem tt : PySem.Challenge.rw_ny0145_01.Holds := Mine.hd (by w_strict (
  k_go0
  (all_goals try k_fold)
  refine wpAny_mono (?_ : wpAny _ _ _ _ (fun _ _ => False) _) (fun _ _ h => h) (fun _ _ e => e.elim)
  walk_at "go0"
  rename World => w
  rename_i s0 s1 mg mb G Y0 fa o pm cd doc ho hcd hgens XX V T1 B1 TE TW wl hs hlay hL1 hr1 hl2 w5 w4 w3 w2 w1 hL0 ra ww1 r0 hI0 hr hcond1 hcond2 hDf h1 tk1 wc hwc Y X T K C3 C2 l0 D2 ws2 h4 hI2 hC hL2 l13 D1 c1 h3 l12 l h2 l11 D ws h1' hI l1 hh F N
  clear Y hDf hcd ww1 r0 ra hr hL1 hs hr1 hl2 hlay
  obtain ⟨m, hm, F2⟩ : ∃ m : Str → Option Value, m (Str.ofString "numbers") = some (.ref D) ∧ Fr _ _ _ m := ⟨_, rfl, F⟩
  clear F
  refine assign_comp rfl fun pos' => ?_
  refine wpAny_comprehension_free (use := some _) rfl (fun _ => rfl) rfl rfl (by decide) ?_
  walk_at "go"
  rename Fr _ _ _ _ => F; rename News _ _ _ _ => N
  have hcC : @LT.lt Nat _ s1.heap.objs.size hh.objs.size := F.ns.lt
  have X2 := X.keeps F.keep
  have T2 := T.keeps F.keep
  refine comp_cell (l := D) (items := ws.toArray) rfl (fun _ => rfl) (fun _ => rfl) rfl (News.isList N (.head _))
    (fun i h => ∃ m nn oc cv vs rest rs, Fr hh (hh.objs.size + 2) h m ∧ News hh (hh.objs.size + 2) h ((hh.objs.size + 3, oc) :: (hh.objs.size + 1, listOf vs.toArray nn) :: rest) ∧ oc.data = .cell cv ∧ PairsIn rest vs rs ∧ rs.length = i ∧ (∀ q ∈ rs, q.1.length ≤ 4) ∧ (∀ p ∈ rest, hh.objs.size + 3 < p.1)) ?h0 ?new ?step ?lk ?fin
  case h0 => exact fun h₁ F N => ⟨_, _, _, _, [], [], [], F, N, rfl, .nil, rfl, (fun _ h => by cases h), (fun _ h => by cases h)⟩
  case new =>
    rintro j hx hy ⟨m, nn, oc, cv, vs, rest, rs, F, N, r1, r2, r3, r4, r5⟩ hk
    have hno : hh.get? hh.objs.size = none := Heap.get?_none_of_le (Nat.le_refl _)
    refine ⟨m, nn, oc, cv, vs, rest, rs, fr_ne F (show hh.objs.size + 2 ≠ hh.objs.size by omega) hno hk, news_mov N (fun q hq => ?_) hk, r1, r2, r3, r4, r5⟩
    rcases List.mem_cons.mp hq with rfl | hq
    · exact show hh.objs.size + 3 ≠ hh.objs.size by omega
    · rcases List.mem_cons.mp hq with rfl | hq
      · exact show hh.objs.size + 1 ≠ hh.objs.size by omega
      · exact Nat.ne_of_gt (Nat.lt_of_le_of_lt (Nat.le_add_right _ 3) (r5 q hq))
  case lk => rintro j hx ⟨m, nn, oc, cv, vs, rest, rs, F, N, r1, r2, r3, r4, r5⟩ o e; exact F.keep _ _ e
  case fin =>
    rintro hx tkx ⟨m9, nn, oc, cv, vs, rest, rs, F9, N9, r1, r2, r3, r4, r5⟩
    have F2 := Fr.keeps F F9.keep
    have hgo : ∀ b, hh.get? b = none → (ghostOf s1.heap [(115, 111), (108, 104), (89, 85)]).get? b = none := fun b e => by
      cases q : (ghostOf s1.heap [(115, 111), (108, 104), (89, 85)]).get? b with
      | none => rfl
      | some o => rw [F.keep _ _ q] at e; cases e
    obtain ⟨oC, esC, epC, hoC, hrC⟩ := F9.ns
    have N3 : News (ghostOf s1.heap [(115, 111), (108, 104), (89, 85)]) s1.heap.objs.size hx ((hh.objs.size + 2, oC) :: (hh.objs.size + 1, listOf vs.toArray nn) :: (s1.heap.objs.size + 1, wc) :: (111, tabObj #[]) :: (104, tabObj #[]) :: (85, tabObj #[]) :: rest) := by
      intro p hp
      have hN := News.keeps N F9.keep
      rcases List.mem_cons.mp hp with rfl | hp
      · exact ⟨hoC, Nat.ne_of_gt (show s1.heap.objs.size < hh.objs.size + 2 by omega), hgo _ (Heap.get?_none_of_le (show hh.objs.size ≤ hh.objs.size + 2 by omega))⟩
      rcases List.mem_cons.mp hp with rfl | hp
      · exact ⟨(N9 _ (.tail _ (.head _))).1, Nat.ne_of_gt (show s1.heap.objs.size < hh.objs.size + 1 by omega), hgo _ (N9 _ (.tail _ (.head _))).2.2⟩
      rcases List.mem_cons.mp hp with rfl | hp
      · exact hN _ (.tail _ (.tail _ (.tail _ (.tail _ (.head _)))))
      rcases List.mem_cons.mp hp with rfl | hp
      · exact hN _ (.tail _ (.tail _ (.tail _ (.tail _ (.tail _ (.head _))))))
      rcases List.mem_cons.mp hp with rfl | hp
      · exact hN _ (.tail _ (.tail _ (.tail _ (.tail _ (.tail _ (.tail _ (.head _)))))))
      rcases List.mem_cons.mp hp with rfl | hp
      · exact hN _ (.tail _ (.tail _ (.tail _ (.tail _ (.tail _ (.tail _ (.tail _ (.head _))))))))
      · have q := N9 p (.tail _ (.tail _ hp))
        exact ⟨q.1, Nat.ne_of_gt (Nat.lt_trans hcC (Nat.lt_of_le_of_lt (Nat.le_add_right _ 3) (r5 p hp))), hgo _ q.2.2⟩
    show wpAny _ _ (assign (.Name (Str.ofString "rules") _) _ (.ref (hh.objs.size + 1))) (fun _ s'' => ∃ m, s''.heap.Ns (hh.objs.size + 2) m ∧ ∀ h', Heap.SameBut (hh.objs.size + 2) s''.heap h' → _) _ _
    refine wpAny_assign_Name (stLocN F2 N3 fun h4 F4 N4 => ?_)
    refine ⟨m9, ⟨oC, esC, epC, (N4 _ (.head _)).1, hrC⟩, fun h5 hs5 => ?_⟩
    have F5 := fr_ne F4 (show s1.heap.objs.size ≠ hh.objs.size + 2 by omega) (hgo _ (Heap.get?_none_of_le (show hh.objs.size ≤ hh.objs.size + 2 by omega))) (fun b o hb e => hs5.extBut b o hb e)
    have N5 := news_mov (I := hh.objs.size + 2) (News.right (a := [(hh.objs.size + 2, oC)]) N4) (fun q hq => ?ne) (fun b o hb e => hs5.extBut b o hb e)
    case ne =>
      rcases List.mem_cons.mp hq with rfl | hq
      · show hh.objs.size + 1 ≠ hh.objs.size + 2; omega
      rcases List.mem_cons.mp hq with rfl | hq
      · show s1.heap.objs.size + 1 ≠ hh.objs.size + 2; omega
      rcases List.mem_cons.mp hq with rfl | hq
      · show 111 ≠ hh.objs.size + 2; omega
      rcases List.mem_cons.mp hq with rfl | hq
      · show 104 ≠ hh.objs.size + 2; omega
      rcases List.mem_cons.mp hq with rfl | hq
      · show 85 ≠ hh.objs.size + 2; omega
      · exact Nat.ne_of_gt (Nat.lt_of_le_of_lt (show hh.objs.size + 2 ≤ hh.objs.size + 3 by omega) (r5 q hq))
    clear F2 N3 F4 N4 F9 N9 F N X2 T2
    dsimp only
    walk_at "goF"
    rename_i h6 F6 N6
    rename @LT.lt Nat _ (hh.objs.size + 1) _ ∧ _ ∧ _ ∧ _ ∧ _ ∧ AllLt _ rest => a1
    obtain ⟨a11, a12, _, _, _, a16⟩ := a1
    obtain ⟨rec, d, ua, rl, t1, t2, t3, t4, m6, hm1, hm2, F7, N7, od1, od2, od3, od4, od5, od6⟩ : ∃ (rec d ua rl : Addr) (t1 t2 t3 t4 : Tok) (m6 : Str → Option Value), m6 (Str.ofString "record") = some (.ref rec) ∧ m6 (Str.ofString "rules") = some (.ref (hh.objs.size + 1)) ∧
      Fr (ghostOf s1.heap [(115, 111), (108, 104), (89, 85)]) s1.heap.objs.size h6 m6 ∧ News (ghostOf s1.heap [(115, 111), (108, 104), (89, 85)]) s1.heap.objs.size h6 ((rl, listOf #[] 0) :: (ua, listOf #[] 0) :: (rec, instObj 52 d) :: (d, recDict w ua rl t1 t2 t3 t4) :: (hh.objs.size + 1, listOf vs.toArray nn) :: (s1.heap.objs.size + 1, wc) :: (111, tabObj #[]) :: (104, tabObj #[]) :: (85, tabObj #[]) :: rest) ∧
      @LT.lt Nat _ (hh.objs.size + 1) d ∧ AllLt d rest ∧ @LT.lt Nat _ d rec ∧ @LT.lt Nat _ rec ua ∧ @LT.lt Nat _ ua rl ∧ 111 < s1.heap.objs.size := ⟨_, _, _, _, _, _, _, _, _, rfl, rfl, F6, N6, a11, a16, by omega, by omega, by omega, by omega⟩
    rename_i zlift zh4 ztk3 zx zd zh7 zl2 zg zL zh6 zB zX zT ztk2 zl1' zh5 zl11 zh4' ztk1 zl' zh3 zl1 zh2 ztk zh1 zh0 zF zN zTc zkX zf2 zf1 zf0
    clear F6 N6 zf0 zf1 zf2 a11 a12 a16 zTc zkX zN zF ek qk lifted zlift zl1 zl11 zl2 zT zX zB hs5 hrC hoC r1
    have hrest : ∀ p ∈ rest, @LT.lt Nat _ (hh.objs.size + 3) p.1 ∧ @LT.lt Nat _ p.1 d := fun p hp => ⟨r5 p hp, allLt_mem od2 p hp⟩
    have hg85 : (ghostOf s1.heap [(115, 111), (108, 104), (89, 85)]).get? 85 = none := (N7 _ (.tail _ (.tail _ (.tail _ (.tail _ (.tail _ (.tail _ (.tail _ (.tail _ (.head _)))))))))).2.2
    have hLc : @LT.lt Nat _ s1.heap.objs.size h6.objs.size := F7.ns.lt
    have hrlc : @LT.lt Nat _ rl h6.objs.size := Heap.lt_size (N7 _ (.head _)).1
    refine for_listI (l := hh.objs.size + 1) (items := vs.toArray) rfl
      (fun i h => ∃ (m : Str → Option Value) (K : List (Addr × Obj)) (rvs : List Value) (nr : Nat) (o85 : Obj), Fr (ghostOf s1.heap [(115, 111), (108, 104), (89, 85)]) s1.heap.objs.size h m ∧
        News (ghostOf s1.heap [(115, 111), (108, 104), (89, 85)]) s1.heap.objs.size h ((rl, listOf rvs.toArray nr) :: (ua, listOf #[] 0) :: (rec, instObj 52 d) :: (d, recDict w ua rl t1 t2 t3 t4) :: (hh.objs.size + 1, listOf vs.toArray nn) :: (s1.heap.objs.size + 1, wc) :: (111, tabObj #[]) :: (104, tabObj #[]) :: (85, o85) :: K) ∧
        m (Str.ofString "record") = some (.ref rec) ∧ m (Str.ofString "rules") = some (.ref (hh.objs.size + 1)) ∧ RulesAre w (ghostOf s1.heap [(115, 111), (108, 104), (89, 85)]) K rvs (rs.take i) ∧ TabL (ghostOf s1.heap [(115, 111), (108, 104), (89, 85)]) K o85 ∧ (∀ p ∈ rest, p ∈ K) ∧ (∀ p ∈ K, ApartK s1.heap.objs.size rl rec d p) ∧ (∀ p ∈ K, p.1 ≠ h6.objs.size)) ?hi ?hl ?h0 ?new ?go ?stp ?fn
    case hi =>
      walk_at "go"
      all_goals first | rfl | exact ⟨_, rfl⟩ | exact ⟨rfl, _, rfl⟩
    case hl => exact News.isList N7 (.tail _ (.tail _ (.tail _ (.tail _ (.head _)))))
    case h0 => 
      refine ⟨_, rest, [], 0, _, F7, N7, hm1, hm2, .nil, .inl rfl, fun _ h => h, fun p hp => ?_, fun p hp => ?_⟩
      all_goals obtain ⟨q1, q2⟩ := hrest p hp
      rotate_left
      · exact Nat.ne_of_lt (by omega)
      refine ⟨?_, ?_, ?_, ?_, ?_, ?_, ?_⟩ <;> intro e <;> rw [e] at q1 q2 <;> omega
    case new =>
      rintro i h h' ⟨m, K, rvs, nr, o85, F, N, q⟩ hk
      refine ⟨m, K, rvs, nr, o85, fr_mov F hLc hk, news_mov N (fun p hp => ?_) hk, q⟩
      rcases List.mem_cons.mp hp with rfl | hp
      · exact Nat.ne_of_lt hrlc
      rcases List.mem_cons.mp hp with rfl | hp
      · exact Nat.ne_of_lt (show @LT.lt Nat _ ua h6.objs.size by omega)
      rcases List.mem_cons.mp hp with rfl | hp
      · exact Nat.ne_of_lt (show @LT.lt Nat _ rec h6.objs.size by omega)
      rcases List.mem_cons.mp hp with rfl | hp
      · exact Nat.ne_of_lt (show @LT.lt Nat _ d h6.objs.size by omega)
      rcases List.mem_cons.mp hp with rfl | hp
      · exact Nat.ne_of_lt (show @LT.lt Nat _ (hh.objs.size + 1) h6.objs.size by omega)
      rcases List.mem_cons.mp hp with rfl | hp
      · exact Nat.ne_of_lt (show @LT.lt Nat _ (s1.heap.objs.size + 1) h6.objs.size by omega)
      rcases List.mem_cons.mp hp with rfl | hp
      · exact Nat.ne_of_lt (show @LT.lt Nat _ 111 h6.objs.size by omega)
      rcases List.mem_cons.mp hp with rfl | hp
      · exact Nat.ne_of_lt (show @LT.lt Nat _ 104 h6.objs.size by omega)
      rcases List.mem_cons.mp hp with rfl | hp
      · exact Nat.ne_of_lt (show @LT.lt Nat _ 85 h6.objs.size by omega)
      · exact q.2.2.2.2.2.2 p hp
    case go =>
      intro i s' v Q' E' hv hit hq
      obtain ⟨q, b, tp, _, rfl, _⟩ := (r2.at (h := h6) fun p hp => (N7 p (.tail _ (.tail _ (.tail _ (.tail _ (.tail _ (.tail _ (.tail _ (.tail _ (.tail _ hp)))))))))).1).get (by simpa using hv)
      exact wpAny_letOwnedTupleGo_listiter hit hq
    case fn =>
      clear F7 N7 hm1 hm2
      rintro h tkh ⟨m, K, rvs, nr, o85, F, N, hm1, hm2, hRu, hTab, hsub, hAp, hAI⟩
      rw [show vs.toArray.size = rs.length by simp [r2.length], List.take_length] at hRu
      have hRn : rs.length < 50 := by rw [r3, List.size_toArray, hI.length]; simp; omega
      dsimp only
      walk_at "go"
      rename Fr _ _ _ _ => F; rename News _ _ _ _ => N
      refine wpAny_call (levels_spec (X.keeps F.keep) (T.keeps F.keep) (show callerA.depth + 1 < 700 by decide) rfl (News.isList N (.tail _ (.tail _ (.tail _ (.tail _ (.head _)))))) (r2.at fun p hp => (N p (.tail _ (.tail _ (.tail _ (.tail _ (.tail _ (.tail _ (.tail _ (.tail _ (.tail _ (hsub p hp))))))))))).1) hRn r4 fun h2 tk2 lv lvs nl hlv hIl hnl hk2 => ?_)
      dsimp only at hnl hk2 ⊢
      have hlvn : ∀ a o, h.get? a = some o → lv ≠ a := fun a o e q => by rw [q, e] at hnl; cases hnl
      have hlvL : lv ≠ s1.heap.objs.size := by
        obtain ⟨oL, _, _, hoL, _⟩ := F.ns
        exact hlvn _ _ hoL
      have hlvG : (ghostOf s1.heap [(115, 111), (108, 104), (89, 85)]).get? lv = none := by
        cases q : (ghostOf s1.heap [(115, 111), (108, 104), (89, 85)]).get? lv with
        | none => rfl
        | some o => rw [F.keep _ _ q] at hnl; cases hnl
      have hlv104 : lv ≠ 104 := hlvn _ _ (N (104, tabObj #[]) (by walk_at "mem")).1
      have hlv111 : lv ≠ 111 := hlvn _ _ (N (111, tabObj #[]) (by walk_at "mem")).1
      have hlvc : lv ≠ s1.heap.objs.size + 1 := hlvn _ _ (N (s1.heap.objs.size + 1, wc) (by walk_at "mem")).1
      have N2 := news_add (News.keeps N hk2) hlv hlvL hlvG
      have F2 := Fr.keeps F hk2
      have hn50 : (levelsOf rs).length < 50 := Nat.lt_of_le_of_lt (levelsOf_length rs) hRn
      clear N F
      walk_at "go"
      rename Fr _ _ _ _ => F; rename News _ _ _ _ => N
      refine wpAny_call (posts_spec (g := (ghostOf s1.heap [(115, 111), (108, 104), (89, 85)])) X T (show callerA.depth + 1 < 600 by decide) rfl (units_ok _) F.keep C2 (N (104, tabObj #[]) (by walk_at "mem")).2.2 (.inl (N (104, tabObj #[]) (by walk_at "mem")).1) (News.isList N (.tail _ (.tail _ (.tail _ (.tail _ (.tail _ (.head _))))))) (r2.at fun p hp => (N p (.tail _ (.tail _ (.tail _ (.tail _ (.tail _ (.tail _ (.tail _ (.tail _ (.tail _ (.tail _ (hsub p hp)))))))))))).1) hRn r4 (show hh.objs.size + 1 ≠ 104 by omega) (News.isList N (.head _)) hIl hn50 hlv104 fun h3 tk3 pd hT3 hD3 hpn hps hpm hk3 => ?_)
      dsimp only at hpn hps hk3 ⊢
      obtain ⟨ps4, h104⟩ : ∃ ps4, h3.get? 104 = some (tabObj ps4) := by
        rcases hT3 with e | ⟨c', e, _⟩
        · exact ⟨_, e⟩
        · exact ⟨_, e⟩
      obtain ⟨opd, hopd, hMap⟩ : ∃ opd, h3.get? pd = some opd ∧ ∀ h' : Heap, h'.get? pd = some opd → h'.MapOf (PySem.strKind PySem.Challenge.rw_ny0145_01.row.prog w) pd (valueAt (postsOf (levelsOf rs) rs rs)) := by
        have hM := hD3.mapOf
        obtain ⟨o, es, n, ho, r⟩ := hM
        exact ⟨o, ho, fun h' e => ⟨o, es, n, e, r⟩⟩
      clear hD3 hT3
      have hg104 : (ghostOf s1.heap [(115, 111), (108, 104), (89, 85)]).get? 104 = none := (N (104, tabObj #[]) (by walk_at "mem")).2.2
      have F3 := fr_ne F (show s1.heap.objs.size ≠ 104 by omega) hg104 hk3
      have hpda : ∀ a o, (a, o) ∈ (lv, listOf lvs.toArray nl) :: (rl, listOf rvs.toArray nr) :: (ua, listOf #[] 0) :: (rec, instObj 52 d) :: (d, recDict w ua rl t1 t2 t3 t4) :: (hh.objs.size + 1, listOf vs.toArray nn) :: (s1.heap.objs.size + 1, wc) :: (111, tabObj #[]) :: (104, tabObj #[]) :: (85, o85) :: K → pd ≠ a := fun a o ha q => by
        have := (N (a, o) ha).1
        rw [← q] at this
        rw [hpn] at this
        cases this
      have hpdL : pd ≠ s1.heap.objs.size := by
        obtain ⟨oL, _, _, hoL, _⟩ := F.ns
        intro q; rw [← q, hpn] at hoL; cases hoL
      have hpdG : (ghostOf s1.heap [(115, 111), (108, 104), (89, 85)]).get? pd = none := by
        cases q : (ghostOf s1.heap [(115, 111), (108, 104), (89, 85)]).get? pd with
        | none => rfl
        | some o => rw [F.keep _ _ q] at hpn; cases hpn
      have N3 : News (ghostOf s1.heap [(115, 111), (108, 104), (89, 85)]) s1.heap.objs.size h3 ((pd, opd) :: (lv, listOf lvs.toArray nl) :: (rl, listOf rvs.toArray nr) :: (ua, listOf #[] 0) :: (rec, instObj 52 d) :: (d, recDict w ua rl t1 t2 t3 t4) :: (hh.objs.size + 1, listOf vs.toArray nn) :: (s1.heap.objs.size + 1, wc) :: (111, tabObj #[]) :: (104, tabObj ps4) :: (85, o85) :: K) := fun p hp => by
        rcases List.mem_cons.mp hp with rfl | hp
        · exact ⟨hopd, hpdL, hpdG⟩
        rcases List.mem_cons.mp hp with rfl | hp
        · have q := N _ (.head _); exact ⟨hk3 _ _ hlv104 q.1, q.2⟩
        rcases List.mem_cons.mp hp with rfl | hp
        · have q := N _ (.tail _ (.head _)); exact ⟨hk3 _ _ (Nat.ne_of_gt (show @LT.lt Nat _ 104 rl by omega)) q.1, q.2⟩
        rcases List.mem_cons.mp hp with rfl | hp
        · have q := N _ (.tail _ (.tail _ (.head _))); exact ⟨hk3 _ _ (Nat.ne_of_gt (show @LT.lt Nat _ 104 ua by omega)) q.1, q.2⟩
        rcases List.mem_cons.mp hp with rfl | hp
        · have q := N _ (.tail _ (.tail _ (.tail _ (.head _)))); exact ⟨hk3 _ _ (Nat.ne_of_gt (show @LT.lt Nat _ 104 rec by omega)) q.1, q.2⟩
        rcases List.mem_cons.mp hp with rfl | hp
        · have q := N _ (.tail _ (.tail _ (.tail _ (.tail _ (.head _))))); exact ⟨hk3 _ _ (Nat.ne_of_gt (show @LT.lt Nat _ 104 d by omega)) q.1, q.2⟩
        rcases List.mem_cons.mp hp with rfl | hp
        · have q := N _ (.tail _ (.tail _ (.tail _ (.tail _ (.tail _ (.head _)))))); exact ⟨hk3 _ _ (show hh.objs.size + 1 ≠ 104 by omega) q.1, q.2⟩
        rcases List.mem_cons.mp hp with rfl | hp
        · have q := N _ (.tail _ (.tail _ (.tail _ (.tail _ (.tail _ (.tail _ (.head _))))))); exact ⟨hk3 _ _ (show s1.heap.objs.size + 1 ≠ 104 by omega) q.1, q.2⟩
        rcases List.mem_cons.mp hp with rfl | hp
        · have q := N (111, tabObj #[]) (by walk_at "mem"); exact ⟨hk3 _ _ (by decide) q.1, q.2⟩
        rcases List.mem_cons.mp hp with rfl | hp
        · exact ⟨h104, (show 104 ≠ s1.heap.objs.size by omega), hg104⟩
        rcases List.mem_cons.mp hp with rfl | hp
        · have q := N (85, o85) (by walk_at "mem"); exact ⟨hk3 _ _ (by decide : (85 : Nat) ≠ 104) q.1, q.2⟩
        · have q := N p (by walk_at "mem"); exact ⟨hk3 _ _ (hAp p hp).2.1 q.1, q.2⟩
      clear N F
      walk_at "go"
      refine wpAny_For ?_
      walk_at "go"
      rename IsRange _ _ _ _ _ _ _ _ => hrg; rename Fr _ _ _ _ => F; rename News _ _ _ _ => N
      rename_i hA FA NA h8 tk8 t8 u8 v8 hk8
      clear FA NA hk8
      have hL8 : @LT.lt Nat _ s1.heap.objs.size h8.objs.size := F.ns.lt
      have hlt8 : ∀ a ∈ ([pd, lv, rl, ua, rec, d, hh.objs.size + 1, s1.heap.objs.size + 1, 111, 104, 85] : List Nat), @LT.lt Nat _ a h8.objs.size := fun a ha => by
        have hx : ∀ p ∈ ((pd, opd) :: (lv, listOf lvs.toArray nl) :: (rl, listOf rvs.toArray nr) :: (ua, listOf #[] 0) :: (rec, instObj 52 d) :: (d, recDict w ua rl t1 t2 t3 t4) :: (hh.objs.size + 1, listOf vs.toArray nn) :: (s1.heap.objs.size + 1, wc) :: (111, tabObj #[]) :: (104, tabObj ps4) :: (85, o85) :: K), @LT.lt Nat _ p.1 h8.objs.size := fun p hp => Heap.lt_size (N p hp).1
        rcases List.mem_cons.mp ha with e | ha
        · rw [e]; exact hx (pd, opd) (by walk_at "mem")
        rcases List.mem_cons.mp ha with e | ha
        · rw [e]; exact hx (lv, listOf lvs.toArray nl) (by walk_at "mem")
        rcases List.mem_cons.mp ha with e | ha
        · rw [e]; exact hx (rl, listOf rvs.toArray nr) (by walk_at "mem")
        rcases List.mem_cons.mp ha with e | ha
        · rw [e]; exact hx (ua, listOf #[] 0) (by walk_at "mem")
        rcases List.mem_cons.mp ha with e | ha
        · rw [e]; exact hx (rec, instObj 52 d) (by walk_at "mem")
        rcases List.mem_cons.mp ha with e | ha
        · rw [e]; exact hx (d, recDict w ua rl t1 t2 t3 t4) (by walk_at "mem")
        rcases List.mem_cons.mp ha with e | ha
        · rw [e]; exact hx (hh.objs.size + 1, listOf vs.toArray nn) (by walk_at "mem")
        rcases List.mem_cons.mp ha with e | ha
        · rw [e]; exact hx (s1.heap.objs.size + 1, wc) (by walk_at "mem")
        rcases List.mem_cons.mp ha with e | ha
        · rw [e]; exact hx (111, tabObj #[]) (by walk_at "mem")
        rcases List.mem_cons.mp ha with e | ha
        · rw [e]; exact hx (104, tabObj ps4) (by walk_at "mem")
        rcases List.mem_cons.mp ha with e | ha
        · rw [e]; exact hx (85, o85) (by walk_at "mem")
        cases ha
      have hK8 : ∀ p ∈ K, @LT.lt Nat _ p.1 h8.objs.size := fun p hp => Heap.lt_size (N p (by walk_at "mem")).1
      refine iter_rangeI (n := 5) rfl (fun i h => ∃ (m : Str → Option Value) (oc : Obj) (cv : Option Value) (o111 : Obj) (K5 : List (Addr × Obj)), Fr (ghostOf s1.heap [(115, 111), (108, 104), (89, 85)]) s1.heap.objs.size h m ∧ News (ghostOf s1.heap [(115, 111), (108, 104), (89, 85)]) s1.heap.objs.size h ((pd, opd) :: (lv, listOf lvs.toArray nl) :: (rl, listOf rvs.toArray nr) :: (ua, listOf #[] 0) :: (rec, instObj 52 d) :: (d, recDict w ua rl t1 t2 t3 t4) :: (hh.objs.size + 1, listOf vs.toArray nn) :: (s1.heap.objs.size + 1, oc) :: (111, o111) :: (104, tabObj ps4) :: (85, o85) :: K5) ∧ oc.data = .cell cv ∧ Tab5 (ghostOf s1.heap [(115, 111), (108, 104), (89, 85)]) K5 o111 ∧ (∀ p ∈ K, p ∈ K5) ∧ (∀ p ∈ K5, p.1 ≠ 111 ∧ p.1 ≠ s1.heap.objs.size + 1 ∧ p.1 ≠ h8.objs.size) ∧ m (Str.ofString "levels") = some (.ref lv) ∧ m (Str.ofString "posts") = some (.ref pd) ∧ m (Str.ofString "record") = some (.ref rec)) hrg (by decide) (by decide) ?h0 ?new ?stq ?fin
      case h0 => exact ⟨_, wc, _, _, K, F, N, hwc, .inl rfl, fun _ h => h, fun p hp => ⟨(hAp p hp).2.2.1, (hAp p hp).2.2.2.1, Nat.ne_of_lt (hK8 p hp)⟩, rfl, rfl, hm1⟩
      case new =>
        rintro i h h' ⟨m, oc, cv, o111, K5, F, N, g1, g2, g3, g4, g5⟩ hk
        refine ⟨m, oc, cv, o111, K5, fr_mov F hL8 hk, news_mov N (fun p hp => ?_) hk, g1, g2, g3, g4, g5⟩
        rcases List.mem_cons.mp hp with rfl | hp
        · exact Nat.ne_of_lt (hlt8 _ (by walk_at "mem"))
        rcases List.mem_cons.mp hp with rfl | hp
        · exact Nat.ne_of_lt (hlt8 _ (by walk_at "mem"))
        rcases List.mem_cons.mp hp with rfl | hp
        · exact Nat.ne_of_lt (hlt8 _ (by walk_at "mem"))
        rcases List.mem_cons.mp hp with rfl | hp
        · exact Nat.ne_of_lt (hlt8 _ (by walk_at "mem"))
        rcases List.mem_cons.mp hp with rfl | hp
        · exact Nat.ne_of_lt (hlt8 _ (by walk_at "mem"))
        rcases List.mem_cons.mp hp with rfl | hp
        · exact Nat.ne_of_lt (hlt8 _ (by walk_at "mem"))
        rcases List.mem_cons.mp hp with rfl | hp
        · exact Nat.ne_of_lt (hlt8 _ (by walk_at "mem"))
        rcases List.mem_cons.mp hp with rfl | hp
        · exact Nat.ne_of_lt (hlt8 _ (by walk_at "mem"))
        rcases List.mem_cons.mp hp with rfl | hp
        · exact Nat.ne_of_lt (hlt8 _ (by walk_at "mem"))
        rcases List.mem_cons.mp hp with rfl | hp
        · exact Nat.ne_of_lt (hlt8 _ (by walk_at "mem"))
        rcases List.mem_cons.mp hp with rfl | hp
        · exact Nat.ne_of_lt (hlt8 _ (by walk_at "mem"))
        exact (g4 p hp).2.2
      case fin =>
        rintro h tk' ⟨m, oc, cv, o111, K5, F, N, g1, g2, g3, g4, g5, g6, g7⟩
        dsimp only
        iterate 4 (first | walk1 | (dsimp only; walk1))
        case refine_1 =>
          exact ⟨.inl ⟨.bool true, .bool true, [], rfl, fun _ => rfl, .bool true, post_true _, fun _ => ⟨List.nodup_nil, fun _ h => by cases h⟩⟩, F.keep, rfl, hgens⟩
        case refine_2 =>
          refine ⟨?_, ⟨_, (N (104, tabObj ps4) (by walk_at "mem")).1⟩, ?_, trivial⟩
          · have e := (N (111, o111) (by walk_at "mem")).1
            rcases g2 with rfl | ⟨_, _, rfl, _⟩
            · exact ⟨_, e⟩
            · exact ⟨_, e⟩
          · have e := (N (85, o85) (by walk_at "mem")).1
            rcases hTab with rfl | ⟨_, _, _, _, rfl, _⟩
            · exact ⟨_, e⟩
            · exact ⟨_, e⟩
      case stq =>
        clear F N
        rintro i ti h tkh oI hi ⟨m, oc, cv, o111, K5, F, N, g1, g2, g3, g4, g5, g6, g7⟩ hoI hdI
        replace N := news_cons F N hoI (show s1.heap.objs.size < h8.objs.size from hL8)
        have ei : (0 : Int) + (i : Int) * 1 = (i : Int) := by omega
        rw [ei]
        dsimp only at N ⊢
        walk_at "go"
        refine wpAny_For ?_
        walk_at "go"
        rename IsRange _ _ _ _ _ _ _ _ => hrg; rename Fr _ _ _ _ => F; rename News _ _ _ _ => N
        rename_i hB FB NB h9 tk9 t9 u9 v9 hk9
        clear FB NB hk9
        have hL9 : @LT.lt Nat _ s1.heap.objs.size h9.objs.size := F.ns.lt
        have h89 : @LT.lt Nat _ h8.objs.size h9.objs.size := Heap.lt_size (N (h8.objs.size, oI) (by walk_at "mem")).1
        have hlt9 : ∀ a ∈ ([h8.objs.size, pd, lv, rl, ua, rec, d, hh.objs.size + 1, s1.heap.objs.size + 1, 111, 104, 85] : List Nat), @LT.lt Nat _ a h9.objs.size := fun a ha => by
          rcases List.mem_cons.mp ha with e | ha
          · rw [e]; exact h89
          · exact Nat.lt_trans (hlt8 a ha) h89
        have hK9 : ∀ p ∈ K5, @LT.lt Nat _ p.1 h9.objs.size := fun p hp => Heap.lt_size (N p (by walk_at "mem")).1
        have hpw : (2 : Int) ^ ((i : Int).toNat) = ((2 ^ i : Nat) : Int) := by simp
        rw [hpw] at hrg
        have hp16 : 2 ^ i ≤ 16 := by
          rcases (show i = 0 ∨ i = 1 ∨ i = 2 ∨ i = 3 ∨ i = 4 by omega) with rfl | rfl | rfl | rfl | rfl <;> decide
        refine iter_rangeI (n := 2 ^ i) rfl (fun j h => ∃ (m : Str → Option Value) (oc : Obj) (cv : Option Value) (o111 : Obj) (K5 : List (Addr × Obj)), Fr (ghostOf s1.heap [(115, 111), (108, 104), (89, 85)]) s1.heap.objs.size h m ∧ News (ghostOf s1.heap [(115, 111), (108, 104), (89, 85)]) s1.heap.objs.size h ((h8.objs.size, oI) :: (pd, opd) :: (lv, listOf lvs.toArray nl) :: (rl, listOf rvs.toArray nr) :: (ua, listOf #[] 0) :: (rec, instObj 52 d) :: (d, recDict w ua rl t1 t2 t3 t4) :: (hh.objs.size + 1, listOf vs.toArray nn) :: (s1.heap.objs.size + 1, oc) :: (111, o111) :: (104, tabObj ps4) :: (85, o85) :: K5) ∧ oc.data = .cell cv ∧ Tab5 (ghostOf s1.heap [(115, 111), (108, 104), (89, 85)]) K5 o111 ∧ (∀ p ∈ K, p ∈ K5) ∧ (∀ p ∈ K5, p.1 ≠ 111 ∧ p.1 ≠ s1.heap.objs.size + 1 ∧ p.1 ≠ h8.objs.size ∧ p.1 ≠ h9.objs.size) ∧ m (Str.ofString "levels") = some (.ref lv) ∧ m (Str.ofString "posts") = some (.ref pd) ∧ m (Str.ofString "record") = some (.ref rec) ∧ m (Str.ofString "size") = some (.int (i : Int) ti)) hrg (small_len hp16) (size_len _) ?h0 ?new ?stz ?fin
        case h0 => exact ⟨_, oc, _, _, K5, F, N, g1, g2, g3, fun p hp => ⟨(g4 p hp).1, (g4 p hp).2.1, (g4 p hp).2.2, Nat.ne_of_lt (hK9 p hp)⟩, g5, g6, g7, rfl⟩
        case new =>
          rintro j h h' ⟨m, oc, cv, o111, K5, F, N, g1, g2, g3, g4, g5⟩ hk
          refine ⟨m, oc, cv, o111, K5, fr_mov F hL9 hk, news_mov N (fun p hp => ?_) hk, g1, g2, g3, g4, g5⟩
          rcases List.mem_cons.mp hp with rfl | hp
          · exact Nat.ne_of_lt (hlt9 _ (by walk_at "mem"))
          rcases List.mem_cons.mp hp with rfl | hp
          · exact Nat.ne_of_lt (hlt9 _ (by walk_at "mem"))
          rcases List.mem_cons.mp hp with rfl | hp
          · exact Nat.ne_of_lt (hlt9 _ (by walk_at "mem"))
          rcases List.mem_cons.mp hp with rfl | hp
          · exact Nat.ne_of_lt (hlt9 _ (by walk_at "mem"))
          rcases List.mem_cons.mp hp with rfl | hp
          · exact Nat.ne_of_lt (hlt9 _ (by walk_at "mem"))
          rcases List.mem_cons.mp hp with rfl | hp
          · exact Nat.ne_of_lt (hlt9 _ (by walk_at "mem"))
          rcases List.mem_cons.mp hp with rfl | hp
          · exact Nat.ne_of_lt (hlt9 _ (by walk_at "mem"))
          rcases List.mem_cons.mp hp with rfl | hp
          · exact Nat.ne_of_lt (hlt9 _ (by walk_at "mem"))
          rcases List.mem_cons.mp hp with rfl | hp
          · exact Nat.ne_of_lt (hlt9 _ (by walk_at "mem"))
          rcases List.mem_cons.mp hp with rfl | hp
          · exact Nat.ne_of_lt (hlt9 _ (by walk_at "mem"))
          rcases List.mem_cons.mp hp with rfl | hp
          · exact Nat.ne_of_lt (hlt9 _ (by walk_at "mem"))
          rcases List.mem_cons.mp hp with rfl | hp
          · exact Nat.ne_of_lt (hlt9 _ (by walk_at "mem"))
          exact (g4 p hp).2.2.2
        case fin =>
          rintro h tk' ⟨m, oc, cv, o111, K5, F, N, g1, g2, g3, g4, g5, g6, g7, g8⟩
          dsimp only
          walk_at "go"
          exact ⟨_, _, rfl, ⟨m, oc, cv, o111, K5, F, fun p hp => N p (.tail _ hp), g1, g2, g3, fun p hp => ⟨(g4 p hp).1, (g4 p hp).2.1, (g4 p hp).2.2.1⟩, g5, g6, g7⟩, (N _ (.head _)).1⟩
        case stz =>
          clear F N g1 g2 g3 g4 g5 g6 g7
          clear hK9
          rintro j tj h tkj oJ hj ⟨m, oc, cv, o111, K5, F, N, g1, g2, g3, g4, g5, g6, g7, g8⟩ hoJ hdJ
          replace N := news_cons F N hoJ (show s1.heap.objs.size < h9.objs.size from hL9)
          have ej : (0 : Int) + (j : Int) * 1 = (j : Int) := by omega
          rw [ej]
          dsimp only at N ⊢
          walk_at "go"
          have NC : News (ghostOf s1.heap [(115, 111), (108, 104), (89, 85)]) s1.heap.objs.size h ((s1.heap.objs.size + 1, oc) :: (h9.objs.size, oJ) :: (h8.objs.size, oI) :: (pd, opd) :: (lv, listOf lvs.toArray nl) :: (rl, listOf rvs.toArray nr) :: (ua, listOf #[] 0) :: (rec, instObj 52 d) :: (d, recDict w ua rl t1 t2 t3 t4) :: (hh.objs.size + 1, listOf vs.toArray nn) :: (111, o111) :: (104, tabObj ps4) :: (85, o85) :: K5) := fun p hp => by
            rcases List.mem_cons.mp hp with rfl | hp
            · exact N _ (by walk_at "mem")
            rcases List.mem_cons.mp hp with rfl | hp
            · exact N _ (by walk_at "mem")
            rcases List.mem_cons.mp hp with rfl | hp
            · exact N _ (by walk_at "mem")
            rcases List.mem_cons.mp hp with rfl | hp
            · exact N _ (by walk_at "mem")
            rcases List.mem_cons.mp hp with rfl | hp
            · exact N _ (by walk_at "mem")
            rcases List.mem_cons.mp hp with rfl | hp
            · exact N _ (by walk_at "mem")
            rcases List.mem_cons.mp hp with rfl | hp
            · exact N _ (by walk_at "mem")
            rcases List.mem_cons.mp hp with rfl | hp
            · exact N _ (by walk_at "mem")
            rcases List.mem_cons.mp hp with rfl | hp
            · exact N _ (by walk_at "mem")
            rcases List.mem_cons.mp hp with rfl | hp
            · exact N _ (by walk_at "mem")
            rcases List.mem_cons.mp hp with rfl | hp
            · exact N _ (by walk_at "mem")
            rcases List.mem_cons.mp hp with rfl | hp
            · exact N _ (by walk_at "mem")
            rcases List.mem_cons.mp hp with rfl | hp
            · exact N _ (by walk_at "mem")
            exact N p (by walk_at "mem")
          refine stCN (own := []) F NC rfl g1 (fun _ h => by cases h) ?nec (fun hs ocs Fs Ns gs => ?_)
          case nec =>
            intro p hp
            rcases List.mem_cons.mp hp with rfl | hp
            · exact Nat.ne_of_gt (hlt9 (s1.heap.objs.size + 1) (by walk_at "mem"))
            rcases List.mem_cons.mp hp with rfl | hp
            · exact Nat.ne_of_gt (hlt8 (s1.heap.objs.size + 1) (by walk_at "mem"))
            rcases List.mem_cons.mp hp with rfl | hp
            · exact hpda _ wc (by walk_at "mem")
            rcases List.mem_cons.mp hp with rfl | hp
            · exact hlvc
            rcases List.mem_cons.mp hp with rfl | hp
            · exact Nat.ne_of_gt (show @LT.lt Nat _ (s1.heap.objs.size + 1) rl by omega)
            rcases List.mem_cons.mp hp with rfl | hp
            · exact Nat.ne_of_gt (show @LT.lt Nat _ (s1.heap.objs.size + 1) ua by omega)
            rcases List.mem_cons.mp hp with rfl | hp
            · exact Nat.ne_of_gt (show @LT.lt Nat _ (s1.heap.objs.size + 1) rec by omega)
            rcases List.mem_cons.mp hp with rfl | hp
            · exact Nat.ne_of_gt (show @LT.lt Nat _ (s1.heap.objs.size + 1) d by omega)
            rcases List.mem_cons.mp hp with rfl | hp
            · show hh.objs.size + 1 ≠ s1.heap.objs.size + 1; omega
            rcases List.mem_cons.mp hp with rfl | hp
            · show 111 ≠ s1.heap.objs.size + 1; omega
            rcases List.mem_cons.mp hp with rfl | hp
            · show 104 ≠ s1.heap.objs.size + 1; omega
            rcases List.mem_cons.mp hp with rfl | hp
            · show 85 ≠ s1.heap.objs.size + 1; omega
            exact (g4 p hp).2.1
          clear F N NC g1
          dsimp only [List.nil_append] at Ns ⊢
          walk_at "go"
          refine comp_open (fun _ => rfl) rfl rfl (by decide) ?_
          walk_at "go"
          rename IsRange _ _ _ _ _ _ _ _ => hr
          rename Fr _ _ _ _ => F3; rename News _ _ _ _ => N3
          refine letters (len := i) rfl (by decide) rfl rfl (by omega) hr rfl rfl ?he ?fin
          case he => 
            intro k ti h4 m4 news4 tk4 Q4 hk4 F4 N4 hmk hQ4
            have X4 := X.keeps F3.keep
            have T4 := T.keeps F3.keep
            have hcell := (N3 (s1.heap.objs.size + 1, ocs) (by walk_at "mem")).1
            clear N3 F3
            dsimp only at hcell
            walk_at "go"
            rename Fr _ _ _ _ => F5; rename News _ _ _ _ => N5
            exact hQ4 _ _ _ _ (item_one _) F5 N5
          case fin =>
            intro h4 tk4 ss ys nn4 hc4 ha4 hl4 hg4 hk4
            have F4 := Fr.keeps F3 hk4
            have N4 := News.keeps N3 hk4
            clear F3 N3
            dsimp only
            walk_at "go"
            refine KT.join_1 (l := ss) (g := fun a => a) ⟨_, hg4, rfl, _, rfl⟩ hc4 ha4 (by omega) fun tj' kj hjj => ?_
            rw [List.map_id'] at hjj ⊢
            have hnm4 : (Txt.join (Str.ofString "") ss).length ≤ 4 := by rw [hjj, hl4]; omega
            generalize Txt.join (Str.ofString "") ss = nm at hnm4 hjj ⊢
            clear hg4 hc4 ha4 hk4 hjj
            dsimp only
            walk_at "go"
            rename Fr _ _ _ _ => F5; rename News _ _ _ _ => N5
            have hg111 : (ghostOf s1.heap [(115, 111), (108, 104), (89, 85)]).get? 111 = none := (N5 (111, o111) (by walk_at "mem")).2.2
            refine wpAny_call (place_spec (g := ghostOf s1.heap [(115, 111), (108, 104), (89, 85)]) (f := postF rs) X T (show callerA.depth + 1 < 700 by decide) rfl F5.keep C3 hg111 (g2.tab (N5 (111, o111) (by walk_at "mem")).1 (fun p hp => (N5 p (by walk_at "mem")).1) F5.keep) (News.isList N5 (by walk_at "mem")) hIl hn50 hnm4 hpm (hpda 111 (tabObj #[]) (by walk_at "mem")) hlv111 ((posts_map rs) ▸ hMap _ (N5 (pd, opd) (by walk_at "mem")).1) fun h7 tk7 tv hT7 hk7 => ?_)
            dsimp only at hk7 ⊢
            have F7 := fr_ne F5 (show s1.heap.objs.size ≠ 111 by omega) hg111 hk7
            obtain ⟨o111n, Kc, h111n, hTabP, hKc⟩ := Tab5.told (g := ghostOf s1.heap [(115, 111), (108, 104), (89, 85)]) hT7 F7.keep
            have hold : ∀ p ∈ (h9.objs.size, oJ) :: (h8.objs.size, oI) :: (pd, opd) :: (lv, listOf lvs.toArray nl) :: (rl, listOf rvs.toArray nr) :: (ua, listOf #[] 0) :: (rec, instObj 52 d) :: (d, recDict w ua rl t1 t2 t3 t4) :: (hh.objs.size + 1, listOf vs.toArray nn) :: (s1.heap.objs.size + 1, ocs) :: (104, tabObj ps4) :: (85, o85) :: K5, h7.get? p.1 = some p.2 ∧ p.1 ≠ s1.heap.objs.size ∧ (ghostOf s1.heap [(115, 111), (108, 104), (89, 85)]).get? p.1 = none := fun p hp => by
              have hN : p ∈ (s1.heap.objs.size + 1, ocs) :: (h9.objs.size, oJ) :: (h8.objs.size, oI) :: (pd, opd) :: (lv, listOf lvs.toArray nl) :: (rl, listOf rvs.toArray nr) :: (ua, listOf #[] 0) :: (rec, instObj 52 d) :: (d, recDict w ua rl t1 t2 t3 t4) :: (hh.objs.size + 1, listOf vs.toArray nn) :: (111, o111) :: (104, tabObj ps4) :: (85, o85) :: K5 ∧ p.1 ≠ 111 := by
                rcases List.mem_cons.mp hp with rfl | hp
                · exact ⟨by walk_at "mem", Nat.ne_of_gt (hlt9 111 (by walk_at "mem"))⟩
                rcases List.mem_cons.mp hp with rfl | hp
                · exact ⟨by walk_at "mem", Nat.ne_of_gt (hlt8 111 (by walk_at "mem"))⟩
                rcases List.mem_cons.mp hp with rfl | hp
                · exact ⟨by walk_at "mem", hpda 111 (tabObj #[]) (by walk_at "mem")⟩
                rcases List.mem_cons.mp hp with rfl | hp
                · exact ⟨by walk_at "mem", hlv111⟩
                rcases List.mem_cons.mp hp with rfl | hp
                · exact ⟨by walk_at "mem", Nat.ne_of_gt (show @LT.lt Nat _ 111 rl by omega)⟩
                rcases List.mem_cons.mp hp with rfl | hp
                · exact ⟨by walk_at "mem", Nat.ne_of_gt (show @LT.lt Nat _ 111 ua by omega)⟩
                rcases List.mem_cons.mp hp with rfl | hp
                · exact ⟨by walk_at "mem", Nat.ne_of_gt (show @LT.lt Nat _ 111 rec by omega)⟩
                rcases List.mem_cons.mp hp with rfl | hp
                · exact ⟨by walk_at "mem", Nat.ne_of_gt (show @LT.lt Nat _ 111 d by omega)⟩
                rcases List.mem_cons.mp hp with rfl | hp
                · exact ⟨by walk_at "mem", show hh.objs.size + 1 ≠ 111 by omega⟩
                rcases List.mem_cons.mp hp with rfl | hp
                · exact ⟨by walk_at "mem", show s1.heap.objs.size + 1 ≠ 111 by omega⟩
                rcases List.mem_cons.mp hp with rfl | hp
                · exact ⟨by walk_at "mem", (by decide : (104 : Nat) ≠ 111)⟩
                rcases List.mem_cons.mp hp with rfl | hp
                · exact ⟨by walk_at "mem", (by decide : (85 : Nat) ≠ 111)⟩
                exact ⟨by walk_at "mem", (g4 p hp).1⟩
              have q := N5 p hN.1
              exact ⟨hk7 _ _ hN.2 q.1, q.2⟩
            have hKn : ∀ p ∈ Kc ++ K5, p.1 ≠ 111 ∧ p.1 ≠ s1.heap.objs.size + 1 ∧ p.1 ≠ h8.objs.size ∧ p.1 ≠ h9.objs.size := fun p hp => by
              rcases List.mem_append.mp hp with hp | hp
              · obtain ⟨a1, a2, a3, a4⟩ := hKc p hp
                refine ⟨a4, ?_, ?_, ?_⟩
                · exact codeP_ne a1 a3 (hold (s1.heap.objs.size + 1, ocs) (by walk_at "mem")).1 fun vs t e _ => by rw [gs] at e; cases e
                · obtain ⟨x, y, z, e0⟩ := hdI
                  exact codeP_ne a1 a3 (hold (h8.objs.size, oI) (by walk_at "mem")).1 fun vs t e q => by rw [e0] at e; cases e; simp [rawInt] at q
                · obtain ⟨x, y, z, e0⟩ := hdJ
                  exact codeP_ne a1 a3 (hold (h9.objs.size, oJ) (by walk_at "mem")).1 fun vs t e q => by rw [e0] at e; cases e; simp [rawInt] at q
              · exact g4 p hp
            have N7 : News (ghostOf s1.heap [(115, 111), (108, 104), (89, 85)]) s1.heap.objs.size h7 ((h9.objs.size, oJ) :: (h8.objs.size, oI) :: (pd, opd) :: (lv, listOf lvs.toArray nl) :: (rl, listOf rvs.toArray nr) :: (ua, listOf #[] 0) :: (rec, instObj 52 d) :: (d, recDict w ua rl t1 t2 t3 t4) :: (hh.objs.size + 1, listOf vs.toArray nn) :: (s1.heap.objs.size + 1, ocs) :: (111, o111n) :: (104, tabObj ps4) :: (85, o85) :: (Kc ++ K5)) := fun p hp => by
              rcases List.mem_cons.mp hp with rfl | hp
              · exact hold _ (by walk_at "mem")
              rcases List.mem_cons.mp hp with rfl | hp
              · exact hold _ (by walk_at "mem")
              rcases List.mem_cons.mp hp with rfl | hp
              · exact hold _ (by walk_at "mem")
              rcases List.mem_cons.mp hp with rfl | hp
              · exact hold _ (by walk_at "mem")
              rcases List.mem_cons.mp hp with rfl | hp
              · exact hold _ (by walk_at "mem")
              rcases List.mem_cons.mp hp with rfl | hp
              · exact hold _ (by walk_at "mem")
              rcases List.mem_cons.mp hp with rfl | hp
              · exact hold _ (by walk_at "mem")
              rcases List.mem_cons.mp hp with rfl | hp
              · exact hold _ (by walk_at "mem")
              rcases List.mem_cons.mp hp with rfl | hp
              · exact hold _ (by walk_at "mem")
              rcases List.mem_cons.mp hp with rfl | hp
              · exact hold _ (by walk_at "mem")
              rcases List.mem_cons.mp hp with rfl | hp
              · exact ⟨h111n, show 111 ≠ s1.heap.objs.size by omega, hg111⟩
              rcases List.mem_cons.mp hp with rfl | hp
              · exact hold _ (by walk_at "mem")
              rcases List.mem_cons.mp hp with rfl | hp
              · exact hold _ (by walk_at "mem")
              rcases List.mem_append.mp hp with hp | hp
              · have hKL : p.1 ≠ s1.heap.objs.size := by
                  obtain ⟨oL, esL, epL, hoL, hdL, _⟩ := F7.ns
                  exact codeP_ne (hKc p hp).1 (hKc p hp).2.2.1 hoL fun vs t e _ => by rw [hdL] at e; cases e
                exact ⟨(hKc p hp).1, hKL, (hKc p hp).2.1⟩
              · exact hold p (by walk_at "mem")
            have hTabN := hTabP (Kc ++ K5) fun p hp => List.mem_append_left _ hp
            have hsubN : ∀ p ∈ K, p ∈ Kc ++ K5 := fun p hp => List.mem_append_right _ (g3 p hp)
            have hMap7 := (posts_map rs) ▸ hMap _ (N7 (pd, opd) (by walk_at "mem")).1
            clear F5 N5 hold hT7 hTabP hKc h111n
            rcases plain_law rs nm with ⟨e0, hal⟩ | ⟨i0, z, e0, hz, hpz⟩
            · rw [e0]
              walk_at "goS"
              refine ite_yes (by decide) ?_
              walk_at "goS"
              rename Fr _ _ _ _ => F8; rename News _ _ _ _ => N8
              refine wpAny_call (allow_spec (g := ghostOf s1.heap [(115, 111), (108, 104), (89, 85)]) (L0 := K) X T (show callerA.depth + 1 < 700 by decide) rfl F8.keep (N8 (rec, instObj 52 d) (by walk_at "mem")).1 (N8 (d, recDict w ua rl t1 t2 t3 t4) (by walk_at "mem")).1 (N8 (rec, instObj 52 d) (by walk_at "mem")).2.2 (N8 (d, recDict w ua rl t1 t2 t3 t4) (by walk_at "mem")).2.2 (News.isList N8 (by walk_at "mem")) (fun p hp => (N8 p (by have := hsubN p hp; walk_at "mem")).1) (fun p hp => ⟨(hAp p hp).2.2.2.2.2.1, (hAp p hp).2.2.2.2.2.2⟩) hRu hnm4 hRn fun h10 tk10 hk10 => ?_)
              dsimp only at hk10 ⊢
              have F10 := Fr.keeps F8 hk10
              have N10 := News.keeps N8 hk10
              clear F8 N8
              rw [hal]
              walk_at "goS"
              refine ite_no (by decide) ?_
              walk_at "goS"
              rename Fr _ _ _ _ => F11; rename News _ _ _ _ => N11
              exact ⟨_, _, rfl, ⟨_, ocs, _, o111n, Kc ++ K5, F11, fun p hp => N11 p (.tail _ hp), gs, hTabN, hsubN, hKn, g5, g6, g7, g8⟩, (N11 _ (.head _)).1⟩
            · rw [e0]
              obtain ⟨tz, hzv⟩ := intsAre_idx hIl hz
              walk_at "goS"
              refine ite_no (place_pos _) ?_
              walk_at "goS"
              rename News _ _ _ _ => N8
              refine lv_item (News.isList N8 (by walk_at "mem")) (idx_lt hz hn50) hzv ?_
              walk_at "goS"
              rename News _ _ _ _ => N8
              refine pd_item ((posts_map rs) ▸ hMap _ (N8 (pd, opd) (by walk_at "mem")).1) hpz ?_
              walk_at "goS"
              rename Fr _ _ _ _ => F8; rename News _ _ _ _ => N8
              refine wpAny_call (allow_spec (g := ghostOf s1.heap [(115, 111), (108, 104), (89, 85)]) (L0 := K) X T (show callerA.depth + 1 < 700 by decide) rfl F8.keep (N8 (rec, instObj 52 d) (by walk_at "mem")).1 (N8 (d, recDict w ua rl t1 t2 t3 t4) (by walk_at "mem")).1 (N8 (rec, instObj 52 d) (by walk_at "mem")).2.2 (N8 (d, recDict w ua rl t1 t2 t3 t4) (by walk_at "mem")).2.2 (News.isList N8 (by walk_at "mem")) (fun p hp => (N8 p (by have := hsubN p hp; walk_at "mem")).1) (fun p hp => ⟨(hAp p hp).2.2.2.2.2.1, (hAp p hp).2.2.2.2.2.2⟩) hRu hnm4 hRn fun h10 tk10 hk10 => ?_)
              dsimp only at hk10 ⊢
              have F10 := Fr.keeps F8 hk10
              have N10 := News.keeps N8 hk10
              clear F8 N8
              walk_at "goS"
              refine ite_no (same_bool _) ?_
              walk_at "goS"
              rename Fr _ _ _ _ => F11; rename News _ _ _ _ => N11
              exact ⟨_, _, rfl, ⟨_, ocs, _, o111n, Kc ++ K5, F11, fun p hp => N11 p (.tail _ hp), gs, hTabN, hsubN, hKn, g5, g6, g7, g8⟩, (N11 _ (.head _)).1⟩
    case stp =>
      clear F7 N7 hm1 hm2
      rintro i v h tkh oI hi hv ⟨m, K, rvs, nr, o85, F, N, hm1, hm2, hRu, hTab, hsub, hAp, hAI⟩ hoI hdI hL2
      obtain ⟨q, b, tp, hq, rfl, hT⟩ := (r2.at (h := h) fun p hp => (N p (.tail _ (.tail _ (.tail _ (.tail _ (.tail _ (.tail _ (.tail _ (.tail _ (.tail _ (hsub p hp))))))))))).1).get (by simpa using hv)
      have hq4 := r4 q (List.mem_of_getElem? hq)
      have hRo := (N (hh.objs.size + 1, listOf vs.toArray nn) (by walk_at "mem")).1
      have hRL := hRu.length
      have hRn : rs.length < 50 := by rw [r3, List.size_toArray, hI.length]; simp; omega
      replace N := news_add N hoI (show h6.objs.size ≠ s1.heap.objs.size by omega) (Heap.get?_none_of_le (Nat.le_trans F.above (Nat.le_of_lt hLc)))
      dsimp only at N ⊢
      walk_at "go"
      rename Fr _ _ _ _ => F4; rename News _ _ _ _ => N4
      rename_i h4
      refine wpAny_call (rule_spec (g := ghostOf s1.heap [(115, 111), (108, 104), (89, 85)]) X T (show callerA.depth + 1 < 700 by decide) rfl F4.keep (Nat.le_trans F4.above (Nat.le_of_lt F4.ns.lt)) codeHd hg85 (hTab.tab (N4 _ (.tail _ (.tail _ (.tail _ (.tail _ (.tail _ (.tail _ (.tail _ (.tail _ (.tail _ (.head _))))))))))).1 fun p hp => (N4 _ (.tail _ (.tail _ (.tail _ (.tail _ (.tail _ (.tail _ (.tail _ (.tail _ (.tail _ (.tail _ hp))))))))))).1) hq4 fun h5 tk5 f L0 hT5 hl0 hg0 hap0 hRule hk5 => ?_)
      obtain ⟨o85', Kc, h85', hTabL, hKc⟩ := hT5.told
      dsimp only at hk5 ⊢
      have hLn : ∀ p : Addr × Obj, h5.get? p.1 = some p.2 → (h4.objs.size ≤ p.1 ∨ CodeO p.2) → p.1 ≠ s1.heap.objs.size := fun p hp hc => by
        obtain ⟨oL, esL, epL, hoL, hdL, _⟩ := F4.ns
        exact code_ne hp hc (hk5 _ _ (show s1.heap.objs.size ≠ 85 by omega) hoL) (Heap.lt_size hoL) fun vs t e _ => by rw [hdL] at e; cases e
      have F5 := fr_ne F4 (show s1.heap.objs.size ≠ 85 by omega) hg85 hk5
      have hold : ∀ p ∈ (h6.objs.size, oI) :: (rl, listOf rvs.toArray nr) :: (ua, listOf #[] 0) :: (rec, instObj 52 d) :: (d, recDict w ua rl t1 t2 t3 t4) :: (hh.objs.size + 1, listOf vs.toArray nn) :: (s1.heap.objs.size + 1, wc) :: (111, tabObj #[]) :: [(104, tabObj #[])], (h5.get? p.1 = some p.2 ∧ p.1 ≠ s1.heap.objs.size ∧ (ghostOf s1.heap [(115, 111), (108, 104), (89, 85)]).get? p.1 = none) ∧ @LT.lt Nat _ p.1 h4.objs.size := fun p hp => by
        have hN := N4 p (List.mem_append_left ((85, o85) :: K) hp)
        refine ⟨⟨hk5 _ _ ?_ hN.1, hN.2⟩, Heap.lt_size hN.1⟩
        rcases List.mem_cons.mp hp with rfl | hp
        · show h6.objs.size ≠ 85; omega
        rcases List.mem_cons.mp hp with rfl | hp
        · exact Nat.ne_of_gt (show @LT.lt Nat _ 85 rl by omega)
        rcases List.mem_cons.mp hp with rfl | hp
        · exact Nat.ne_of_gt (show @LT.lt Nat _ 85 ua by omega)
        rcases List.mem_cons.mp hp with rfl | hp
        · exact Nat.ne_of_gt (show @LT.lt Nat _ 85 rec by omega)
        rcases List.mem_cons.mp hp with rfl | hp
        · exact Nat.ne_of_gt (show @LT.lt Nat _ 85 d by omega)
        rcases List.mem_cons.mp hp with rfl | hp
        · show hh.objs.size + 1 ≠ 85; omega
        rcases List.mem_cons.mp hp with rfl | hp
        · show s1.heap.objs.size + 1 ≠ 85; omega
        rcases List.mem_cons.mp hp with rfl | hp
        · exact (by decide : (111 : Nat) ≠ 85)
        rcases List.mem_singleton.mp hp with rfl
        exact (by decide : (104 : Nat) ≠ 85)
      have hnew : ∀ p ∈ Kc ++ L0, h5.get? p.1 = some p.2 ∧ (ghostOf s1.heap [(115, 111), (108, 104), (89, 85)]).get? p.1 = none ∧ (h4.objs.size ≤ p.1 ∨ CodeO p.2) ∧ p.1 ≠ 85 := fun p hp => by
        rcases List.mem_append.mp hp with hp | hp
        · exact ⟨(hKc p hp).1, (hKc p hp).2.1, .inr (hKc p hp).2.2.1, (hKc p hp).2.2.2⟩
        · exact ⟨hl0 p hp, hg0 p hp, (hap0 p hp).2.2.1, (hap0 p hp).1⟩
      have N5 : News (ghostOf s1.heap [(115, 111), (108, 104), (89, 85)]) s1.heap.objs.size h5 ((rl, listOf rvs.toArray nr) :: (h6.objs.size, oI) :: (ua, listOf #[] 0) :: (rec, instObj 52 d) :: (d, recDict w ua rl t1 t2 t3 t4) :: (hh.objs.size + 1, listOf vs.toArray nn) :: (s1.heap.objs.size + 1, wc) :: (111, tabObj #[]) :: (104, tabObj #[]) :: (85, o85') :: ((Kc ++ L0) ++ K)) := fun p hp => by
        rcases List.mem_cons.mp hp with rfl | hp
        · exact (hold _ (by walk_at "mem")).1
        rcases List.mem_cons.mp hp with rfl | hp
        · exact (hold _ (by walk_at "mem")).1
        rcases List.mem_cons.mp hp with rfl | hp
        · exact (hold _ (by walk_at "mem")).1
        rcases List.mem_cons.mp hp with rfl | hp
        · exact (hold _ (by walk_at "mem")).1
        rcases List.mem_cons.mp hp with rfl | hp
        · exact (hold _ (by walk_at "mem")).1
        rcases List.mem_cons.mp hp with rfl | hp
        · exact (hold _ (by walk_at "mem")).1
        rcases List.mem_cons.mp hp with rfl | hp
        · exact (hold _ (by walk_at "mem")).1
        rcases List.mem_cons.mp hp with rfl | hp
        · exact (hold _ (by walk_at "mem")).1
        rcases List.mem_cons.mp hp with rfl | hp
        · exact (hold _ (by walk_at "mem")).1
        rcases List.mem_cons.mp hp with rfl | hp
        · exact ⟨h85', (show 85 ≠ s1.heap.objs.size by omega), hg85⟩
        rcases List.mem_append.mp hp with hp | hp
        · exact ⟨(hnew p hp).1, hLn p (hnew p hp).1 (hnew p hp).2.2.1, (hnew p hp).2.1⟩
        · have hN := N4 p (by walk_at "mem")
          exact ⟨hk5 _ _ (hAp p hp).1 hN.1, hN.2⟩
      have hne : ∀ p ∈ Kc ++ L0, ∀ a o, (a, o) ∈ (h6.objs.size, oI) :: (rl, listOf rvs.toArray nr) :: (ua, listOf #[] 0) :: (rec, instObj 52 d) :: (d, recDict w ua rl t1 t2 t3 t4) :: (hh.objs.size + 1, listOf vs.toArray nn) :: (s1.heap.objs.size + 1, wc) :: (111, tabObj #[]) :: [(104, tabObj #[])] → (∀ vs t, o.data = .fields vs → vs[1]? = some (.str (Str.ofString "_law_rule.<locals>.<lambda>") t) → False) → p.1 ≠ a := fun p hp a o ha hx => code_ne (hnew p hp).1 (hnew p hp).2.2.1 (hold _ ha).1.1 (hold _ ha).2 hx
      have hnrl : ∀ p ∈ Kc ++ L0, p.1 ≠ rl := fun p hp => hne p hp rl _ (by walk_at "mem") fun _ _ e _ => by cases e
      have hApN : ∀ p ∈ (Kc ++ L0) ++ K, ApartK s1.heap.objs.size rl rec d p ∧ p.1 ≠ h6.objs.size := fun p hp => by
        rcases List.mem_append.mp hp with hp | hp
        · refine ⟨⟨(hnew p hp).2.2.2, hne p hp 104 _ (by walk_at "mem") ?_, hne p hp 111 _ (by walk_at "mem") ?_, hne p hp _ wc (by walk_at "mem") ?_, hnrl p hp, hne p hp rec _ (by walk_at "mem") ?_, hne p hp d _ (by walk_at "mem") ?_⟩, hne p hp _ oI (by walk_at "mem") ?_⟩
          · intro vs t e e2; cases e; simp at e2
          · intro vs t e e2; cases e; simp at e2
          · intro vs t e e2; rw [hwc] at e; cases e
          · intro vs t e e2; cases e
          · intro vs t e e2; cases e
          · intro vs t e e2; rw [hdI] at e; cases e; simp at e2
        · exact ⟨hAp p hp, hAI p hp⟩
      clear N4 F4
      walk_at "go"
      refine append_head F5 N5 ?ap (fun h7 F7 N7 => ?_) (by rw [List.size_toArray, hRL, sizeLine_eq, List.length_take]; omega)
      case ap =>
        intro p hp
        rcases List.mem_cons.mp hp with rfl | hp
        · exact Nat.ne_of_gt hrlc
        rcases List.mem_cons.mp hp with rfl | hp
        · exact Nat.ne_of_lt od5
        rcases List.mem_cons.mp hp with rfl | hp
        · exact Nat.ne_of_lt (show @LT.lt Nat _ rec rl by omega)
        rcases List.mem_cons.mp hp with rfl | hp
        · exact Nat.ne_of_lt (show @LT.lt Nat _ d rl by omega)
        rcases List.mem_cons.mp hp with rfl | hp
        · exact Nat.ne_of_lt (show @LT.lt Nat _ (hh.objs.size + 1) rl by omega)
        rcases List.mem_cons.mp hp with rfl | hp
        · exact Nat.ne_of_lt (show @LT.lt Nat _ (s1.heap.objs.size + 1) rl by omega)
        rcases List.mem_cons.mp hp with rfl | hp
        · exact Nat.ne_of_lt (show @LT.lt Nat _ 111 rl by omega)
        rcases List.mem_cons.mp hp with rfl | hp
        · exact Nat.ne_of_lt (show @LT.lt Nat _ 104 rl by omega)
        rcases List.mem_cons.mp hp with rfl | hp
        · exact Nat.ne_of_lt (show @LT.lt Nat _ 85 rl by omega)
        · exact (hApN p hp).1.2.2.2.2.1
      clear F5 N5
      dsimp only
      walk_at "go"
      refine ⟨_, _, rfl, ⟨_, (Kc ++ L0) ++ K, rvs ++ [.ref f], nr + 1, o85', F7, ?_, hm1, hm2, ?_, ?_, ?_, fun p hp => (hApN p hp).1, fun p hp => (hApN p hp).2⟩, (N7 _ (.tail _ (.head _))).1, ?_⟩
      · intro p hp
        rcases List.mem_cons.mp hp with rfl | hp
        · have := N7 _ (.head _)
          rw [List.push_toArray] at this
          exact this
        · exact N7 p (.tail _ (.tail _ hp))
      · rw [List.take_add_one, hq, Option.toList_some]
        exact (hRu.mono fun p hp => List.mem_append_right _ hp).snoc (hRule.mono fun p hp => List.mem_append_left _ (List.mem_append_right _ hp))
      · exact hTabL _ fun p hp => List.mem_append_left _ (List.mem_append_left _ hp)
      · exact fun p hp => List.mem_append_right _ (hsub p hp)
      · intro o e
        rw [hRo] at e
        cases e
        exact (N7 (hh.objs.size + 1, listOf vs.toArray nn) (by walk_at "mem")).1
  case step =>
    rintro j v hx tkx oI hj hv ⟨m, nn, oc, cv, vs, rest, rs, F1, N1, r1, r2, r3, r4, r5⟩ hoI
    obtain ⟨n, tn, rfl⟩ := intsAre_at hI (by simpa using hv)
    clear F N X T K lifted hv
    have hne : ∀ p ∈ (hh.objs.size + 1, listOf vs.toArray nn) :: rest, p.1 ≠ hh.objs.size + 3 := fun p hp => by
      rcases List.mem_cons.mp hp with rfl | hp
      · exact show hh.objs.size + 1 ≠ hh.objs.size + 3 by omega
      · exact Nat.ne_of_gt (r5 p hp)
    dsimp only
    walk_at "go"
    refine storeCompCell F1 N1 hne rfl r1 (fun hy ocy Fy Ny ry hky => ?_) rfl rfl
    have hoI2 := hky _ _ (show hh.objs.size ≠ hh.objs.size + 3 by omega) hoI
    clear F1 N1 r1 hoI hky
    replace Ny := news_add Ny hoI2 (show hh.objs.size ≠ hh.objs.size + 2 by omega) (Heap.get?_none_of_le (Nat.le_refl _))
    dsimp only at Ny ⊢
    walk_at "go"
    refine comp_open (fun _ => rfl) rfl rfl (by decide) ?_
    walk_at "go"
    rename IsRange _ _ _ _ _ _ _ _ => hr
    rename Fr _ _ _ _ => F3; rename News _ _ _ _ => N3
    have hb0 : 0 ≤ (n.fdiv 2).fmod 5 := fmod_lo _ (by decide)
    have hb1 : (n.fdiv 2).fmod 5 < 5 := fmod_hi _ (by decide)
    refine letters (len := ((n.fdiv 2).fmod 5).toNat) rfl (by decide) rfl ?hb ?hlen hr rfl rfl ?he ?fin
    case hb => omega
    case hlen => omega
    case he =>
      intro k ti h4 m4 news4 tk4 Q4 hk4 F4 N4 hmk hQ4
      have X4 := X2.keeps F3.keep
      have T4 := T2.keeps F3.keep
      have hcell := (N3 _ (.tail _ (.head _))).1
      clear X2 T2 N3 F3
      dsimp only at hcell
      walk_at "go"
      rename Fr _ _ _ _ => F5; rename News _ _ _ _ => N5
      exact hQ4 _ _ _ _ (item_one _) F5 N5
    case fin =>
      intro h4 tk4 ss ys nn4 hc4 ha4 hl4 hg4 hk4
      have F4 := Fr.keeps F3 hk4
      have N4 := News.keeps N3 hk4
      have N4k := fun p hp => (N4 p hp).1
      clear F3 N3
      dsimp only
      walk_at "go"
      refine KT.join_1 (l := ss) (g := fun a => a) ⟨_, hg4, rfl, _, rfl⟩ hc4 ha4 (by omega) fun tj kj hjj => ?_
      rw [List.map_id'] at hjj ⊢
      dsimp only
      walk_at "go"
      rename Fr hh _ _ _ => F5; rename News hh _ _ _ => N5
      show wpAny _ _ (call (.builtin "list.append") [.ref (hh.objs.size + 1), .ref h4.objs.size]) _ _ _
      have hT4 : @LT.lt Nat _ (hh.objs.size + 3) h4.objs.size := Heap.lt_size (N4k _ (.tail _ (.head _)))
      refine append_head F5 (news_fourth N5) (fun p hp => ?ap) (fun h6 F6 N6 => ?_) (by rw [List.size_toArray, r2.length, r3, sizeLine_eq]; have := hI.length; simp at hj; simp at this; omega)
      case ap =>
        rcases List.mem_cons.mp hp with rfl | hp
        · exact Nat.ne_of_gt (show @LT.lt Nat _ (hh.objs.size + 1) h4.objs.size by omega)
        rcases List.mem_cons.mp hp with rfl | hp
        · show hh.objs.size ≠ hh.objs.size + 1; omega
        rcases List.mem_cons.mp hp with rfl | hp
        · show hh.objs.size + 3 ≠ hh.objs.size + 1; omega
        · exact Nat.ne_of_gt (Nat.lt_of_le_of_lt (show hh.objs.size + 1 ≤ hh.objs.size + 3 by omega) (r5 p hp))
      refine ⟨_, _, rfl, ⟨_, nn + 1, ocy, _, vs ++ [.ref h4.objs.size], (h4.objs.size, { cls := .type "tuple", data := .seq #[.str (Txt.join (Str.ofString "") ss) tj, .bool (n.fmod 2 == 1)] }) :: rest, rs ++ [(Txt.join (Str.ofString "") ss, n.fmod 2 == 1)], F6, ?_, ry, ?_, ?_, ?_, ?_⟩, (N6 _ (.tail _ (.tail _ (.head _)))).1, fun o e => F6.keep _ _ e⟩
      · intro p hp
        rcases List.mem_cons.mp hp with rfl | hp
        · exact N6 _ (.tail _ (.tail _ (.tail _ (.head _))))
        rcases List.mem_cons.mp hp with rfl | hp
        · have := N6 _ (.head _)
          rw [List.push_toArray] at this
          exact this
        rcases List.mem_cons.mp hp with rfl | hp
        · exact N6 _ (.tail _ (.head _))
        · exact N6 _ (.tail _ (.tail _ (.tail _ (.tail _ hp))))
      · exact (r2.mono fun p hp => .tail _ hp).snoc (.head _) rfl rfl
      · rw [List.length_append, r3]; rfl
      · intro q hq
        rcases List.mem_append.mp hq with hq | hq
        · exact r4 q hq
        · rw [List.mem_singleton.mp hq]; dsimp only; rw [hjj, hl4]; omega
      · intro p hp
        rcases List.mem_cons.mp hp with rfl | hp
        · exact hT4
        · exact r5 p hp))
end Mine

theorem PySem.Challenge.cw_ny0145_01_holds : PySem.Challenge.rw_ny0145_01.Holds :=
  Mine.tt

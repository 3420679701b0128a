import PyProof.Rows.All
import Wide.All
import OpenK.AllK
import Wide.FinOn
import PySem.Challenge.RW_bw0039_01
open PySem PySem.W PyProof.Rows
set_option Elab.async false
set_option maxRecDepth 100000
set_option maxHeartbeats 8000000
open_top Mine.hd for PySem.Challenge.rw_bw0039_01

theorem Mine.calmC1 : True ∧ True := by
  w_top off
  first | (walk1; fail "no") | exact ⟨trivial, trivial⟩

namespace Mine
open PySem PySem.W PyProof.Rows PySem.Calls Builtin
set_option maxHeartbeats 8000000

theorem int_mul_declines (a : Int) (t : Tok) (x C dx : Addr) :
    Meets (Builtin.«int.__mul__» ⟨[.int a t, .ref x], []⟩) (fun _ R s => s.heap.get? x = some (instObj C dx) ∧ R (.ok (.ret Value.notImplemented)) s) :=
  .of_wp fun prog w A R s h => by obtain ⟨hp, g, d, tk, os⟩ := s; obtain ⟨hl, h⟩ := h; wp_walk; exact ⟨_, rfl, h⟩

theorem rmul_K {prog : Program} {w : World} {A : Around} {E : Value → Shared → Prop} {s : Shared} {K : Frag} {x C L f g dx : Addr} {h₀ : Heap} {m : Str → Option Value} {od : Option Obj} {c : Int} {t : Tok} {Q : Value → Shared → Prop}
    (F : Fr h₀ L s.heap m) (X₀ : K.In h₀) (I : InstAt s.heap x (instObj C dx) C od) (hc : selfFirst K C = true)
    (hm : findIn K (.ref C) (PySem.dunder "mul") = some (some (.ref g)))
    (hs : findIn K (.ref C) (dunderR "mul") = some (some (.ref f))) (hf : isFn K (.ref f) = true) (hsub : subIn K (.ref C) (.type "int") = some false)
    (h : wpAny (model prog w) A (call (.ref f) [.ref x, .int c t]) (PySem.W.CmpBack Q) E s) : wpAny (model prog w) A (binaryOp .Mult (.int c t) (.ref x)) Q E s := by
  have X := X₀.keeps F.keep
  obtain ⟨cd, rest, hcd, hmr⟩ := ksp_first hc
  have one := ksp_try X I hs hf h
  have hx := I.at_
  obtain ⟨hh, gg, d, tt, os⟩ := s
  have L1 : Looks (model prog w) hh (typeOf (.ref x)) (.ref C) := I.type
  have L2 : Looks (model prog w) hh (typeOf (.int c t)) (.type "int") := Looks.of_pure rfl
  have L3 : Looks (model prog w) hh (fillsNumberSlot (.ref C) "mul") true := fills_K X hcd hmr hm
  have L4 : Looks (model prog w) hh (fillsNumberSlot (.type "int") "mul") true := Looks.of_pure PySem.F.fills_int_mul
  have L5 : Looks (model prog w) hh (isSubtype (.ref C) (.type "int")) false := looks_subIn X hsub
  have L7 : Looks (model prog w) hh (numberSlotInPython (.type "int") "mul") false := Looks.of_pure rfl
  have hne : (Value.type "int" == Value.ref C) = false := Bool.eq_false_iff.mpr fun q => by cases beq_iff_eq.mp q
  unfold binaryOp
  refine wpAny_holding (wpAny_bind ?_)
  unfold binaryOp1
  refine wpAny_bind (L2.at (wpAny_bind (L1.at (wpAny_bind (L4.at ?_)))))
  simp only [hne, Bool.false_eq_true, if_false]
  ksp_lk
  refine wpAny_tryMethod_declines (typeIs_int _ _ _) PySem.F.slot_int_mul ?_
  refine call_meets PySem.F.slot_int_mul (typeIs_int _ _ _) PySem.F.entry_int_mul (PySem.F.args_int_mul_2 _ _) (int_mul_declines c t x C dx) ⟨hx, ?_⟩
  refine ⟨rfl, ?_⟩
  simp only [Bool.false_eq_true, if_false, Bool.not_false, Bool.and_self, if_true]
  refine wpAny_bind (wpAny_mono one (fun r s' hr' => ?_) fun _ _ e => e)
  obtain ⟨v, rfl, hq⟩ := hr'
  exact wpAny_bind (wpAny_rule (wpAny_pure (wpAny_pure hq)))

local macro_rules | `(tactic| k_room) => `(tactic| ((try simp only [depth_under_make, depth_under_kw, depth_in1, depth_deeper, depth_caller]); (simp only [recursionLimit] at *); omega))
local macro_rules | `(tactic| k_units) => `(tactic| ((have hcL9 := cLine_is); (try simp only [units_in1, units_deeper, Around.mark_units, units_caller] at *); omega))
local macro_rules | `(tactic| k_enter) => `(tactic| (refine' code_def ?k1 ?k2 ?k3 ?k4 ?k5 ?kA ?kF ?kK ?k6 ?k7 ?k8 ?k9 ?kB ?_ ?c2 ?c3 ?c4 ?c5; (case kA => exact rfl); (case kF => first | assumption | exact rfl); (case kK => first | assumption | exact rfl); (case k1 => k_asm); (case k2 => k_asm); (case k3 => k_asm); (case k4 => k_asm); (case k5 => k_asm); (case k6 => k_is); (case k7 => k_is); (case k8 => k_room); (case k9 => first | exact BindsTo.of_eq rfl | exact binds_K (by k_in) rfl (by k_is) rfl rfl rfl | fail "k_enter: no rule for these arguments"); (case c5 => decide); (case kB => exact locs rfl); (case c2 => exact rfl); (case c3 => exact rfl); (case c4 => exact rfl); k_whole; intro g' L' h' FG' F' N' B' X' T'; (try dsimp only); (try k_lift B'); (try k_fold)))
local macro_rules | `(tactic| walk_at "ite") => `(tactic| first | (refine ite_pos (by with_reducible assumption) ?_) | (refine ite_neg (by with_reducible assumption) ?_) | (refine ite_isFalse (by with_reducible assumption) ?_))

local macro_rules | `(tactic| walk_at "binaryOp Mult int ref") => `(tactic| (k_here; (with_reducible show wpAny _ _ (binaryOp Operator.Mult (Value.int _ _) (Value.ref _)) _ _ _); k_dflt (refine' rmul_K ?F ?X ?I ?hC ?hM ?hS ?hF ?hU ?_; (case F => k_asm); (case X => k_asm); (case I => k_inst); (case hC => k_is); (case hM => k_is); (case hS => k_is); (case hF => k_is); (case hU => k_is); k_whole)))
/-- the dict of an FQ -/
abbrev fqD (w : World) (p n : Int) (k1 t1 k2 t2 : Tok) : Obj :=
  dictOf [{ hash := PyData.keyHash w.params (Str.ofString "field_modulus"), key := Value.str (Str.ofString "field_modulus") k1, val := Value.int p t1 },
    { hash := PyData.keyHash w.params (Str.ofString "n"), key := Value.str (Str.ofString "n") k2, val := Value.int n t2 }] 2
/-- what a call that makes one FQ hands on -/
abbrev FqRet (w : World) (C : Addr) (h₀ : Heap) (L : Addr) (m : Str → Option Value) (news : List (Addr × Obj)) (s : Shared) (Q : Value → Shared → Prop) (p n : Int) : Prop :=
  ∀ (x dx : Addr) (h' : Heap) (tk' : Nat) (k1 t1 k2 t2 : Tok), Fr h₀ L h' m → News h₀ L h' ((x, instObj C dx) :: (dx, fqD w p n k1 t1 k2 t2) :: news) →
    (∀ q ∈ news, q.1 < dx) → dx < x → 0 ≤ n → n < p → Q (.ref x) { s with heap := h', toks := tk' }
/-- what a call that hands back a plain value hands on -/
abbrev PlRet (h₀ : Heap) (L : Addr) (m : Str → Option Value) (news : List (Addr × Obj)) (s : Shared) (Q : Value → Shared → Prop) (v : Tok → Value) : Prop :=
  ∀ (t : Tok) (h' : Heap) (tk' : Nat), Fr h₀ L h' m → News h₀ L h' news → Q (v t) { s with heap := h', toks := tk' }
/-- field arithmetic on residues -/
def mu (p a b : Int) : Int := a * b % p
def su (p a b : Int) : Int := (a - b) % p
def powF (p : Int) : Nat → Int → Int → Int
  | 0, a, _ => a
  | k + 1, a, n => if n = 0 then 1 % p else if n = 1 then a % p else if n % 2 = 0 then powF p k (mu p a a) (n / 2) else mu p (powF p k (mu p a a) (n / 2)) a
def bnd : Nat → Int
  | 0 => 0
  | k + 1 => max 2 (2 * bnd k)
theorem mu_nn {p a b : Int} (hp : 0 < p) : 0 ≤ mu p a b := Int.emod_nonneg _ (by omega)
theorem mu_lt {p a b : Int} (hp : 0 < p) : mu p a b < p := Int.emod_lt_of_pos _ hp
theorem su_nn {p a b : Int} (hp : 0 < p) : 0 ≤ su p a b := Int.emod_nonneg _ (by omega)
theorem su_lt {p a b : Int} (hp : 0 < p) : su p a b < p := Int.emod_lt_of_pos _ hp
theorem fm1 {p x : Int} (hp : 0 < p) : x.fmod p = x % p := Int.fmod_eq_emod_of_nonneg x (by omega)
theorem fd1 {p x : Int} (hp : 0 < p) : x.fdiv p = x / p := Int.fdiv_eq_ediv_of_nonneg x (by omega)
theorem fm2 {p x : Int} (hp : 0 < p) : (x.fmod p).fmod p = x % p := by rw [fm1 hp, fm1 hp, Int.emod_emod]

section
variable {w : World} {A A₀ : Around} {env : Env} {outer : List Env} {base h₀ : Heap} {L : Addr} {m mg mb : Str → Option Value} {loose : List Str} {mean : ExcName → Option Value} {news : List (Addr × Obj)} {s : Shared} {Q E : Value → Shared → Prop}

theorem c_new_o {v p : Int} {t tp : Tok}
  (B : Below A₀ base outer h₀) (F : Fr h₀ L s.heap m) (X : (Mine.hd.heap_39 w.params).In h₀) (N : News h₀ L s.heap news) (T : Top Mine.hd.view_39 loose mean mg mb h₀)
  (hA : A.frames = some (env :: outer)) (hf : env.frame = some L) (hk : env.scope.kind = .function) (hd : A.depth + 2 < recursionLimit) (hu : A.units + 20 < cLine) (hp : 0 < p)
  (hret : FqRet w 368 h₀ L m news s Q p (v % p)) :
  wpAny (model PySem.Challenge.rw_bw0039_01.row.prog w) A (call (.ref 368) [.int v t, .int p tp]) Q E s := by
  revert X; k_fill; intro X
  obtain ⟨hdl, dp, fr, gd, un⟩ := A
  subst hA
  dsimp only at hd hu
  have b1 : 0 ≤ v % p := Int.emod_nonneg _ (by omega)
  have b2 : v % p < p := Int.emod_lt_of_pos _ hp
  rw [← fm1 hp] at hret b1 b2
  k_steps
  (refine' hret _ _ _ _ _ _ _ _ ?e1_1 ?e2_1 ?e3_1 ?e4_1 ?e5_1 ?e6_1; (case e1_1 => k_asm); (case e2_1 => first | k_asm | exact cb_drop (by assumption) (by kcf_all)); (case e3_1 => first | assumption | exact ktn_ltOf (by tbn_find)); (case e4_1 => first | assumption | omega); (case e5_1 => first | assumption | exact mu_nn (by assumption)); (case e6_1 => first | assumption | exact mu_lt (by assumption)))

local macro_rules | `(tactic| walk_at "call ref") => `(tactic| (k_here; (with_reducible show wpAny _ _ (call (Value.ref 368) [Value.int _ _, Value.int _ _]) _ _ _); k_dflt (refine' c_new_o ?k1 ?k2 ?k3 ?k4 ?k5 ?kA ?kF ?kK ?kd ?ku ?kp ?_; (case k1 => k_asm); (case k2 => k_asm); (case k3 => k_asm); (case k4 => k_asm); (case k5 => k_asm); (case kA => exact rfl); (case kF => first | assumption | exact rfl); (case kK => first | assumption | exact rfl); (case kp => assumption); (case kd => k_room); (case ku => k_units); k_whole); intro x' d' h' tk' a1 a2 a3 a4 F' N' l1 l2 b1 b2; (try k_lt l1); (try k_lt2 l2); (try k_sweep); (try dsimp only); (try dsimp only [PySem.W.CmpBack])))

theorem c_mul_o {x dx y dy : Addr} {p a b : Int} {k1 t1 k2 t2 k3 t3 k4 t4 : Tok}
  (B : Below A₀ base outer h₀) (F : Fr h₀ L s.heap m) (X : (Mine.hd.heap_39 w.params).In h₀) (N : News h₀ L s.heap news) (T : Top Mine.hd.view_39 loose mean mg mb h₀)
  (hA : A.frames = some (env :: outer)) (hf : env.frame = some L) (hk : env.scope.kind = .function) (hd : A.depth + 5 < recursionLimit) (hu : A.units + 50 < cLine)
  (x1 : (x, instObj 368 dx) ∈ news) (x2 : (dx, fqD w p a k1 t1 k2 t2) ∈ news) (y1 : (y, instObj 368 dy) ∈ news) (y2 : (dy, fqD w p b k3 t3 k4 t4) ∈ news) (hp : 0 < p) (hp2 : p < 100) (ha : 0 ≤ a) (ha2 : a < p)
  (hret : FqRet w 368 h₀ L m news s Q p (mu p a b)) :
  wpAny (model PySem.Challenge.rw_bw0039_01.row.prog w) A (binaryOp .Mult (.ref x) (.ref y)) Q E s := by
  revert X; k_fill; intro X
  obtain ⟨hdl, dp, fr, gd, un⟩ := A
  subst hA
  dsimp only at hd hu
  have e9 : mu p a b = ((a * b).fmod p) % p := by rw [fm1 hp, Int.emod_emod]; rfl
  rw [e9] at hret
  k_steps
  (refine' hret _ _ _ _ _ _ _ _ ?e1_2 ?e2_2 ?e3_2 ?e4_2 ?e5_2 ?e6_2; (case e1_2 => k_asm); (case e2_2 => first | k_asm | exact cb_drop (by assumption) (by kcf_all)); (case e3_2 => first | assumption | exact ktn_ltOf (by tbn_find)); (case e4_2 => first | assumption | omega); (case e5_2 => first | assumption | exact mu_nn (by assumption)); (case e6_2 => first | assumption | exact mu_lt (by assumption)))

theorem c_sub_o {x dx y dy : Addr} {p a b : Int} {k1 t1 k2 t2 k3 t3 k4 t4 : Tok}
  (B : Below A₀ base outer h₀) (F : Fr h₀ L s.heap m) (X : (Mine.hd.heap_39 w.params).In h₀) (N : News h₀ L s.heap news) (T : Top Mine.hd.view_39 loose mean mg mb h₀)
  (hA : A.frames = some (env :: outer)) (hf : env.frame = some L) (hk : env.scope.kind = .function) (hd : A.depth + 5 < recursionLimit) (hu : A.units + 50 < cLine)
  (x1 : (x, instObj 368 dx) ∈ news) (x2 : (dx, fqD w p a k1 t1 k2 t2) ∈ news) (y1 : (y, instObj 368 dy) ∈ news) (y2 : (dy, fqD w p b k3 t3 k4 t4) ∈ news) (hp : 0 < p)
  (hret : FqRet w 368 h₀ L m news s Q p (su p a b)) :
  wpAny (model PySem.Challenge.rw_bw0039_01.row.prog w) A (binaryOp .Sub (.ref x) (.ref y)) Q E s := by
  revert X; k_fill; intro X
  obtain ⟨hdl, dp, fr, gd, un⟩ := A
  subst hA
  dsimp only at hd hu
  have e9 : su p a b = ((a - b).fmod p) % p := by rw [fm1 hp, Int.emod_emod]; rfl
  rw [e9] at hret
  k_steps
  (refine' hret _ _ _ _ _ _ _ _ ?e1_3 ?e2_3 ?e3_3 ?e4_3 ?e5_3 ?e6_3; (case e1_3 => k_asm); (case e2_3 => first | k_asm | exact cb_drop (by assumption) (by kcf_all)); (case e3_3 => first | assumption | exact ktn_ltOf (by tbn_find)); (case e4_3 => first | assumption | omega); (case e5_3 => first | assumption | exact mu_nn (by assumption)); (case e6_3 => first | assumption | exact mu_lt (by assumption)))

theorem c_rmul_o {x dx : Addr} {c p a : Int} {k1 t1 k2 t2 tc : Tok}
  (B : Below A₀ base outer h₀) (F : Fr h₀ L s.heap m) (X : (Mine.hd.heap_39 w.params).In h₀) (N : News h₀ L s.heap news) (T : Top Mine.hd.view_39 loose mean mg mb h₀)
  (hA : A.frames = some (env :: outer)) (hf : env.frame = some L) (hk : env.scope.kind = .function) (hd : A.depth + 8 < recursionLimit) (hu : A.units + 80 < cLine)
  (x1 : (x, instObj 368 dx) ∈ news) (x2 : (dx, fqD w p a k1 t1 k2 t2) ∈ news) (hp : 0 < p) (hp2 : p < 100) (ha : 0 ≤ a) (ha2 : a < p)
  (hret : FqRet w 368 h₀ L m news s Q p (mu p a c)) :
  wpAny (model PySem.Challenge.rw_bw0039_01.row.prog w) A (binaryOp .Mult (.int c tc) (.ref x)) Q E s := by
  revert X; k_fill; intro X
  obtain ⟨hdl, dp, fr, gd, un⟩ := A
  subst hA
  dsimp only at hd hu
  have e9 : mu p a c = ((a * c).fmod p) % p := by rw [fm1 hp, Int.emod_emod]; rfl
  rw [e9] at hret
  k_steps
  (refine' hret _ _ _ _ _ _ _ _ ?e1_4 ?e2_4 ?e3_4 ?e4_4 ?e5_4 ?e6_4; (case e1_4 => k_asm); (case e2_4 => first | k_asm | exact cb_drop (by assumption) (by kcf_all)); (case e3_4 => first | assumption | exact ktn_ltOf (by tbn_find)); (case e4_4 => first | assumption | omega); (case e5_4 => first | assumption | exact mu_nn (by assumption)); (case e6_4 => first | assumption | exact mu_lt (by assumption)))

theorem c_eq_o {x dx y dy : Addr} {p q a b : Int} {k1 t1 k2 t2 k3 t3 k4 t4 : Tok}
  (B : Below A₀ base outer h₀) (F : Fr h₀ L s.heap m) (X : (Mine.hd.heap_39 w.params).In h₀) (N : News h₀ L s.heap news) (T : Top Mine.hd.view_39 loose mean mg mb h₀)
  (hA : A.frames = some (env :: outer)) (hf : env.frame = some L) (hk : env.scope.kind = .function) (hd : A.depth + 5 < recursionLimit) (hu : A.units + 50 < cLine)
  (x1 : (x, instObj 368 dx) ∈ news) (x2 : (dx, fqD w p a k1 t1 k2 t2) ∈ news) (y1 : (y, instObj 368 dy) ∈ news) (y2 : (dy, fqD w q b k3 t3 k4 t4) ∈ news)
  (hret : PlRet h₀ L m news s Q (fun _ => .bool (a == b))) :
  wpAny (model PySem.Challenge.rw_bw0039_01.row.prog w) A (compareOp .Eq (.ref x) (.ref y)) Q E s := by
  revert X; k_fill; intro X
  obtain ⟨hdl, dp, fr, gd, un⟩ := A
  subst hA
  dsimp only at hd hu
  k_steps
  exact hret 0 _ _ (by k_asm) (by k_asm)

theorem c_one_o {x dx : Addr} {p a : Int} {k1 t1 k2 t2 : Tok}
  (B : Below A₀ base outer h₀) (F : Fr h₀ L s.heap m) (X : (Mine.hd.heap_39 w.params).In h₀) (N : News h₀ L s.heap news) (T : Top Mine.hd.view_39 loose mean mg mb h₀)
  (hA : A.frames = some (env :: outer)) (hf : env.frame = some L) (hk : env.scope.kind = .function) (hd : A.depth + 6 < recursionLimit) (hu : A.units + 60 < cLine)
  (x1 : (x, instObj 368 dx) ∈ news) (x2 : (dx, fqD w p a k1 t1 k2 t2) ∈ news) (hp : 0 < p)
  (hret : FqRet w 368 h₀ L m news s Q p (1 % p)) :
  wpAny (model PySem.Challenge.rw_bw0039_01.row.prog w) A (call (.ref 358) [.ref x]) Q E s := by
  revert X; k_fill; intro X
  obtain ⟨hdl, dp, fr, gd, un⟩ := A
  subst hA
  dsimp only at hd hu
  k_steps
  (refine' hret _ _ _ _ _ _ _ _ ?e1_5 ?e2_5 ?e3_5 ?e4_5 ?e5_5 ?e6_5; (case e1_5 => k_asm); (case e2_5 => first | k_asm | exact cb_drop (by assumption) (by kcf_all)); (case e3_5 => first | assumption | exact ktn_ltOf (by tbn_find)); (case e4_5 => first | assumption | omega); (case e5_5 => first | assumption | exact mu_nn (by assumption)); (case e6_5 => first | assumption | exact mu_lt (by assumption)))

theorem c_zero_o {x dx : Addr} {p a : Int} {k1 t1 k2 t2 : Tok}
  (B : Below A₀ base outer h₀) (F : Fr h₀ L s.heap m) (X : (Mine.hd.heap_39 w.params).In h₀) (N : News h₀ L s.heap news) (T : Top Mine.hd.view_39 loose mean mg mb h₀)
  (hA : A.frames = some (env :: outer)) (hf : env.frame = some L) (hk : env.scope.kind = .function) (hd : A.depth + 6 < recursionLimit) (hu : A.units + 60 < cLine)
  (x1 : (x, instObj 368 dx) ∈ news) (x2 : (dx, fqD w p a k1 t1 k2 t2) ∈ news) (hp : 0 < p)
  (hret : FqRet w 368 h₀ L m news s Q p (0 % p)) :
  wpAny (model PySem.Challenge.rw_bw0039_01.row.prog w) A (call (.ref 365) [.ref x]) Q E s := by
  revert X; k_fill; intro X
  obtain ⟨hdl, dp, fr, gd, un⟩ := A
  subst hA
  dsimp only at hd hu
  k_steps
  (refine' hret _ _ _ _ _ _ _ _ ?e1_6 ?e2_6 ?e3_6 ?e4_6 ?e5_6 ?e6_6; (case e1_6 => k_asm); (case e2_6 => first | k_asm | exact cb_drop (by assumption) (by kcf_all)); (case e3_6 => first | assumption | exact ktn_ltOf (by tbn_find)); (case e4_6 => first | assumption | omega); (case e5_6 => first | assumption | exact mu_nn (by assumption)); (case e6_6 => first | assumption | exact mu_lt (by assumption)))

theorem c_new_p {v p : Int} {t tp : Tok}
  (B : Below A₀ base outer h₀) (F : Fr h₀ L s.heap m) (X : (Mine.hd.heap_39 w.params).In h₀) (N : News h₀ L s.heap news) (T : Top Mine.hd.view_39 loose mean mg mb h₀)
  (hA : A.frames = some (env :: outer)) (hf : env.frame = some L) (hk : env.scope.kind = .function) (hd : A.depth + 2 < recursionLimit) (hu : A.units + 20 < cLine) (hp : 0 < p)
  (hret : FqRet w 206 h₀ L m news s Q p (v % p)) :
  wpAny (model PySem.Challenge.rw_bw0039_01.row.prog w) A (call (.ref 206) [.int v t, .int p tp]) Q E s := by
  revert X; k_fill; intro X
  obtain ⟨hdl, dp, fr, gd, un⟩ := A
  subst hA
  dsimp only at hd hu
  have b1 : 0 ≤ v % p := Int.emod_nonneg _ (by omega)
  have b2 : v % p < p := Int.emod_lt_of_pos _ hp
  rw [← fm1 hp] at hret b1 b2
  k_steps
  (refine' hret _ _ _ _ _ _ _ _ ?e1_7 ?e2_7 ?e3_7 ?e4_7 ?e5_7 ?e6_7; (case e1_7 => k_asm); (case e2_7 => first | k_asm | exact cb_drop (by assumption) (by kcf_all)); (case e3_7 => first | assumption | exact ktn_ltOf (by tbn_find)); (case e4_7 => first | assumption | omega); (case e5_7 => first | assumption | exact mu_nn (by assumption)); (case e6_7 => first | assumption | exact mu_lt (by assumption)))

local macro_rules | `(tactic| walk_at "call ref") => `(tactic| (k_here; (with_reducible show wpAny _ _ (call (Value.ref 206) [Value.int _ _, Value.int _ _]) _ _ _); k_dflt (refine' c_new_p ?k1 ?k2 ?k3 ?k4 ?k5 ?kA ?kF ?kK ?kd ?ku ?kp ?_; (case k1 => k_asm); (case k2 => k_asm); (case k3 => k_asm); (case k4 => k_asm); (case k5 => k_asm); (case kA => exact rfl); (case kF => first | assumption | exact rfl); (case kK => first | assumption | exact rfl); (case kp => assumption); (case kd => k_room); (case ku => k_units); k_whole); intro x' d' h' tk' a1 a2 a3 a4 F' N' l1 l2 b1 b2; (try k_lt l1); (try k_lt2 l2); (try k_sweep); (try dsimp only); (try dsimp only [PySem.W.CmpBack])))

theorem c_mul_p {x dx y dy : Addr} {p a b : Int} {k1 t1 k2 t2 k3 t3 k4 t4 : Tok}
  (B : Below A₀ base outer h₀) (F : Fr h₀ L s.heap m) (X : (Mine.hd.heap_39 w.params).In h₀) (N : News h₀ L s.heap news) (T : Top Mine.hd.view_39 loose mean mg mb h₀)
  (hA : A.frames = some (env :: outer)) (hf : env.frame = some L) (hk : env.scope.kind = .function) (hd : A.depth + 5 < recursionLimit) (hu : A.units + 50 < cLine)
  (x1 : (x, instObj 206 dx) ∈ news) (x2 : (dx, fqD w p a k1 t1 k2 t2) ∈ news) (y1 : (y, instObj 206 dy) ∈ news) (y2 : (dy, fqD w p b k3 t3 k4 t4) ∈ news) (hp : 0 < p) (hp2 : p < 100) (ha : 0 ≤ a) (ha2 : a < p)
  (hret : FqRet w 206 h₀ L m news s Q p (mu p a b)) :
  wpAny (model PySem.Challenge.rw_bw0039_01.row.prog w) A (binaryOp .Mult (.ref x) (.ref y)) Q E s := by
  revert X; k_fill; intro X
  obtain ⟨hdl, dp, fr, gd, un⟩ := A
  subst hA
  dsimp only at hd hu
  have e9 : mu p a b = ((a * b).fmod p) % p := by rw [fm1 hp, Int.emod_emod]; rfl
  rw [e9] at hret
  k_steps
  (refine' hret _ _ _ _ _ _ _ _ ?e1_8 ?e2_8 ?e3_8 ?e4_8 ?e5_8 ?e6_8; (case e1_8 => k_asm); (case e2_8 => first | k_asm | exact cb_drop (by assumption) (by kcf_all)); (case e3_8 => first | assumption | exact ktn_ltOf (by tbn_find)); (case e4_8 => first | assumption | omega); (case e5_8 => first | assumption | exact mu_nn (by assumption)); (case e6_8 => first | assumption | exact mu_lt (by assumption)))

end
end Mine

theorem Mine.calmC2 : True ∧ True := by
  w_top off
  first | (walk1; fail "no") | exact ⟨trivial, trivial⟩

namespace Mine
open PySem PySem.W PyProof.Rows PySem.Calls Builtin
set_option maxHeartbeats 8000000

local macro_rules | `(tactic| k_room) => `(tactic| ((try simp only [depth_under_make, depth_under_kw, depth_in1, depth_deeper, depth_caller]); (simp only [recursionLimit] at *); omega))
local macro_rules | `(tactic| k_units) => `(tactic| ((have hcL9 := cLine_is); (try simp only [units_in1, units_deeper, Around.mark_units, units_caller] at *); omega))
local macro_rules | `(tactic| k_enter) => `(tactic| (refine' code_def ?k1 ?k2 ?k3 ?k4 ?k5 ?kA ?kF ?kK ?k6 ?k7 ?k8 ?k9 ?kB ?_ ?c2 ?c3 ?c4 ?c5; (case kA => exact rfl); (case kF => first | assumption | exact rfl); (case kK => first | assumption | exact rfl); (case k1 => k_asm); (case k2 => k_asm); (case k3 => k_asm); (case k4 => k_asm); (case k5 => k_asm); (case k6 => k_is); (case k7 => k_is); (case k8 => k_room); (case k9 => first | exact BindsTo.of_eq rfl | exact binds_K (by k_in) rfl (by k_is) rfl rfl rfl | fail "k_enter: no rule for these arguments"); (case c5 => decide); (case kB => exact locs rfl); (case c2 => exact rfl); (case c3 => exact rfl); (case c4 => exact rfl); k_whole; intro g' L' h' FG' F' N' B' X' T'; (try dsimp only); (try k_lift B'); (try k_fold)))
local macro_rules | `(tactic| k_mem) => `(tactic| first | with_reducible assumption | exact List.mem_cons_self | (refine List.mem_cons_of_mem _ ?_; k_mem))
local macro_rules | `(tactic| walk_at "ite") => `(tactic| first | (refine ite_pos (by with_reducible assumption) ?_) | (refine ite_neg (by with_reducible assumption) ?_) | (refine ite_isFalse (by with_reducible assumption) ?_))

section
variable {w : World} {A A₀ : Around} {env : Env} {outer : List Env} {base h₀ : Heap} {L : Addr} {m mg mb : Str → Option Value} {loose : List Str} {mean : ExcName → Option Value} {news : List (Addr × Obj)} {s : Shared} {Q E : Value → Shared → Prop}

local macro_rules | `(tactic| walk_at "call ref") => `(tactic| (k_here; (with_reducible show wpAny _ _ (call (Value.ref 368) [Value.int _ _, Value.int _ _]) _ _ _); k_dflt (refine' c_new_o ?k1 ?k2 ?k3 ?k4 ?k5 ?kA ?kF ?kK ?kd ?ku ?kp ?_; (case k1 => k_asm); (case k2 => k_asm); (case k3 => k_asm); (case k4 => k_asm); (case k5 => k_asm); (case kA => exact rfl); (case kF => first | assumption | exact rfl); (case kK => first | assumption | exact rfl); (case kp => assumption); (case kd => k_room); (case ku => k_units); k_whole); intro x' d' h' tk' a1 a2 a3 a4 F' N' l1 l2 b1 b2; (try k_lt l1); (try k_lt2 l2); (try k_sweep); (try dsimp only); (try dsimp only [PySem.W.CmpBack])))

local macro_rules | `(tactic| walk_at "binaryOp Mult") => `(tactic| (k_here; (with_reducible show wpAny _ _ (binaryOp Operator.Mult (Value.ref _) (Value.ref _)) _ _ _); k_dflt (refine' c_mul_o ?k1 ?k2 ?k3 ?k4 ?k5 ?kA ?kF ?kK ?kd ?ku ?x1 ?x2 ?y1 ?y2 ?hp ?hp2 ?ha ?ha2 ?_; (case k1 => k_asm); (case k2 => k_asm); (case k3 => k_asm); (case k4 => k_asm); (case k5 => k_asm); (case kA => exact rfl); (case kF => first | assumption | exact rfl); (case kK => first | assumption | exact rfl); (case x1 => k_mem); (case x2 => k_mem); (case y1 => k_mem); (case y2 => k_mem); (case hp => assumption); (case hp2 => first | assumption | omega); (case ha => first | assumption | omega); (case ha2 => first | assumption | omega); (case kd => k_room); (case ku => k_units); k_whole); intro x' d' h' tk' a1 a2 a3 a4 F' N' l1 l2 b1 b2; (try k_lt l1); (try k_lt2 l2); (try k_sweep); (try dsimp only); (try dsimp only [PySem.W.CmpBack])))

def PowClaim_o (w : World) (k : Nat) : Prop :=
  ∀ {A A₀ : Around} {env : Env} {outer : List Env} {base h₀ : Heap} {L : Addr} {m mg mb : Str → Option Value} {loose : List Str} {mean : ExcName → Option Value} {news : List (Addr × Obj)} {s : Shared} {Q E : Value → Shared → Prop}
  {x dx : Addr} {p a n : Int} {k1 t1 k2 t2 tn : Tok}
  (_ : Below A₀ base outer h₀) (_ : Fr h₀ L s.heap m) (_ : (Mine.hd.heap_39 w.params).In h₀) (_ : News h₀ L s.heap news) (_ : Top Mine.hd.view_39 loose mean mg mb h₀)
  (_ : A.frames = some (env :: outer)) (_ : env.frame = some L) (_ : env.scope.kind = .function) (_ : A.depth + 6 * k + 6 < recursionLimit) (_ : A.units + 60 * k + 60 < cLine)
  (_ : (x, instObj 368 dx) ∈ news) (_ : (dx, fqD w p a k1 t1 k2 t2) ∈ news) (_ : 0 < p) (_ : p < 100) (_ : 0 ≤ a) (_ : a < p) (_ : 0 ≤ n) (_ : n < bnd k)
  (_ : FqRet w 368 h₀ L m news s Q p (powF p k a n)),
  wpAny (model PySem.Challenge.rw_bw0039_01.row.prog w) A (call (.ref 294) [.ref x, .int n tn]) Q E s
theorem c_pow_use_o {k : Nat} {x dx : Addr} {p a n : Int} {k1 t1 k2 t2 tn : Tok}
  (B : Below A₀ base outer h₀) (F : Fr h₀ L s.heap m) (X : (Mine.hd.heap_39 w.params).In h₀) (N : News h₀ L s.heap news) (T : Top Mine.hd.view_39 loose mean mg mb h₀)
  (hA : A.frames = some (env :: outer)) (hf : env.frame = some L) (hk : env.scope.kind = .function) (hd : A.depth + 6 * k + 6 < recursionLimit) (hu : A.units + 60 * k + 60 < cLine)
  (hI : PowClaim_o w k) (x1 : (x, instObj 368 dx) ∈ news) (x2 : (dx, fqD w p a k1 t1 k2 t2) ∈ news) (hp : 0 < p) (hp2 : p < 100) (ha : 0 ≤ a) (ha2 : a < p) (hn : 0 ≤ n) (hn2 : n < bnd k)
  (hret : FqRet w 368 h₀ L m news s Q p (powF p k a n)) :
  wpAny (model PySem.Challenge.rw_bw0039_01.row.prog w) A (call (.ref 294) [.ref x, .int n tn]) Q E s := hI B F X N T hA hf hk hd hu x1 x2 hp hp2 ha ha2 hn hn2 hret

local macro_rules | `(tactic| walk_at "call ref") => `(tactic| (k_here; (with_reducible show wpAny _ _ (call (Value.ref 294) [Value.ref _, Value.int _ _]) _ _ _); k_dflt (refine' c_pow_use_o ?k1 ?k2 ?k3 ?k4 ?k5 ?kA ?kF ?kK ?kd ?ku ?hI ?x1 ?x2 ?hp ?hp2 ?ha ?ha2 ?hn ?hn2 ?_; (case k1 => k_asm); (case k2 => k_asm); (case k3 => k_asm); (case k4 => k_asm); (case k5 => k_asm); (case kA => exact rfl); (case kF => first | assumption | exact rfl); (case kK => first | assumption | exact rfl); (case hI => assumption); (case x1 => k_mem); (case x2 => k_mem); (case hp => assumption); (case hp2 => first | assumption | omega); (case ha => first | assumption | omega); (case ha2 => first | assumption | omega); (case hn => first | assumption | omega); (case hn2 => first | assumption | omega); (case kd => k_room); (case ku => k_units); k_whole); intro x' d' h' tk' a1 a2 a3 a4 F' N' l1 l2 b1 b2; (try k_lt l1); (try k_lt2 l2); (try k_sweep); (try dsimp only); (try dsimp only [PySem.W.CmpBack])))

theorem c_pow_step_o {k : Nat} (hI : PowClaim_o w k) : PowClaim_o w (k + 1) := by
  intro A A₀ env outer base h₀ L m mg mb loose mean news s Q E x dx p a n k1 t1 k2 t2 tn B F X N T hA hf hk hd hu x1 x2 hp hp2 ha ha2 hn hn2 hret
  revert X; k_fill; intro X
  obtain ⟨hdl, dp, fr, gd, un⟩ := A
  subst hA
  dsimp only at hd hu
  simp only [bnd] at hn2
  have hs9 : (n / 2).fdiv 2 = n / 2 / 2 := fd1 (by omega)
  have hfd : n.fdiv 2 = n / 2 := fd1 (by omega)
  have hfm : n.fmod 2 = n % 2 := fm1 (by omega)
  have hsq := mu_nn (p := p) (a := a) (b := a) hp
  have hsq2 := mu_lt (p := p) (a := a) (b := a) hp
  by_cases q0 : n = 0
  · subst q0
    have e9 : powF p (k + 1) a 0 = 1 % p := by simp [powF]
    rw [e9] at hret
    refine wpAny_call ?_
    k_dflt k_enter
    k_steps
    (refine' hret _ _ _ _ _ _ _ _ ?e1_1 ?e2_1 ?e3_1 ?e4_1 ?e5_1 ?e6_1; (case e1_1 => k_asm); (case e2_1 => first | k_asm | exact cb_drop (by assumption) (by kcf_all)); (case e3_1 => first | assumption | exact ktn_ltOf (by tbn_find)); (case e4_1 => first | assumption | omega); (case e5_1 => first | assumption | exact mu_nn (by assumption)); (case e6_1 => first | assumption | exact mu_lt (by assumption)))

  by_cases q1 : n = 1
  · subst q1
    have e9 : powF p (k + 1) a 1 = a % p := by simp [powF]
    rw [e9] at hret
    refine wpAny_call ?_
    k_dflt k_enter
    k_steps
    (refine' hret _ _ _ _ _ _ _ _ ?e1_2 ?e2_2 ?e3_2 ?e4_2 ?e5_2 ?e6_2; (case e1_2 => k_asm); (case e2_2 => first | k_asm | exact cb_drop (by assumption) (by kcf_all)); (case e3_2 => first | assumption | exact ktn_ltOf (by tbn_find)); (case e4_2 => first | assumption | omega); (case e5_2 => first | assumption | exact mu_nn (by assumption)); (case e6_2 => first | assumption | exact mu_lt (by assumption)))

  have z0 : (n == 0) = false := by simpa using q0
  have z1 : (n == 1) = false := by simpa using q1
  by_cases q2 : n % 2 = 0
  · have z2 : (n.fmod 2 == 0) = true := by rw [hfm, q2]; rfl
    have e9 : powF p (k + 1) a n = powF p k (mu p a a) (n.fdiv 2) := by rw [hfd]; simp [powF, q0, q1, q2]
    rw [e9] at hret
    refine wpAny_call ?_
    k_dflt k_enter
    k_steps
    (refine' hret _ _ _ _ _ _ _ _ ?e1_3 ?e2_3 ?e3_3 ?e4_3 ?e5_3 ?e6_3; (case e1_3 => k_asm); (case e2_3 => first | k_asm | exact cb_drop (by assumption) (by kcf_all)); (case e3_3 => first | assumption | exact ktn_ltOf (by tbn_find)); (case e4_3 => first | assumption | omega); (case e5_3 => first | assumption | exact mu_nn (by assumption)); (case e6_3 => first | assumption | exact mu_lt (by assumption)))

  · have e9 : powF p (k + 1) a n = mu p (powF p k (mu p a a) (n.fdiv 2)) a := by rw [hfd]; simp [powF, q0, q1, q2]
    rw [e9] at hret
    have z2 : (n.fmod 2 == 0) = false := by rw [hfm]; simpa using q2
    refine wpAny_call ?_
    k_dflt k_enter
    k_steps
    (refine' hret _ _ _ _ _ _ _ _ ?e1_4 ?e2_4 ?e3_4 ?e4_4 ?e5_4 ?e6_4; (case e1_4 => k_asm); (case e2_4 => first | k_asm | exact cb_drop (by assumption) (by kcf_all)); (case e3_4 => first | assumption | exact ktn_ltOf (by tbn_find)); (case e4_4 => first | assumption | omega); (case e5_4 => first | assumption | exact mu_nn (by assumption)); (case e6_4 => first | assumption | exact mu_lt (by assumption)))

theorem c_pow_o (k : Nat) : PowClaim_o w k := by
  induction k with
  | zero =>
    intro A A₀ env outer base h₀ L m mg mb loose mean news s Q E x dx p a n k1 t1 k2 t2 tn B F X N T hA hf hk hd hu x1 x2 hp hp2 ha ha2 hn hn2 hret
    simp only [bnd] at hn2
    omega
  | succ k ih => exact c_pow_step_o ih

local macro_rules | `(tactic| walk_at "call ref") => `(tactic| (k_here; (with_reducible show wpAny _ _ (call (Value.ref 206) [Value.int _ _, Value.int _ _]) _ _ _); k_dflt (refine' c_new_p ?k1 ?k2 ?k3 ?k4 ?k5 ?kA ?kF ?kK ?kd ?ku ?kp ?_; (case k1 => k_asm); (case k2 => k_asm); (case k3 => k_asm); (case k4 => k_asm); (case k5 => k_asm); (case kA => exact rfl); (case kF => first | assumption | exact rfl); (case kK => first | assumption | exact rfl); (case kp => assumption); (case kd => k_room); (case ku => k_units); k_whole); intro x' d' h' tk' a1 a2 a3 a4 F' N' l1 l2 b1 b2; (try k_lt l1); (try k_lt2 l2); (try k_sweep); (try dsimp only); (try dsimp only [PySem.W.CmpBack])))

local macro_rules | `(tactic| walk_at "binaryOp Mult") => `(tactic| (k_here; (with_reducible show wpAny _ _ (binaryOp Operator.Mult (Value.ref _) (Value.ref _)) _ _ _); k_dflt (refine' c_mul_p ?k1 ?k2 ?k3 ?k4 ?k5 ?kA ?kF ?kK ?kd ?ku ?x1 ?x2 ?y1 ?y2 ?hp ?hp2 ?ha ?ha2 ?_; (case k1 => k_asm); (case k2 => k_asm); (case k3 => k_asm); (case k4 => k_asm); (case k5 => k_asm); (case kA => exact rfl); (case kF => first | assumption | exact rfl); (case kK => first | assumption | exact rfl); (case x1 => k_mem); (case x2 => k_mem); (case y1 => k_mem); (case y2 => k_mem); (case hp => assumption); (case hp2 => first | assumption | omega); (case ha => first | assumption | omega); (case ha2 => first | assumption | omega); (case kd => k_room); (case ku => k_units); k_whole); intro x' d' h' tk' a1 a2 a3 a4 F' N' l1 l2 b1 b2; (try k_lt l1); (try k_lt2 l2); (try k_sweep); (try dsimp only); (try dsimp only [PySem.W.CmpBack])))

def PowClaim_p (w : World) (k : Nat) : Prop :=
  ∀ {A A₀ : Around} {env : Env} {outer : List Env} {base h₀ : Heap} {L : Addr} {m mg mb : Str → Option Value} {loose : List Str} {mean : ExcName → Option Value} {news : List (Addr × Obj)} {s : Shared} {Q E : Value → Shared → Prop}
  {x dx : Addr} {p a n : Int} {k1 t1 k2 t2 tn : Tok}
  (_ : Below A₀ base outer h₀) (_ : Fr h₀ L s.heap m) (_ : (Mine.hd.heap_39 w.params).In h₀) (_ : News h₀ L s.heap news) (_ : Top Mine.hd.view_39 loose mean mg mb h₀)
  (_ : A.frames = some (env :: outer)) (_ : env.frame = some L) (_ : env.scope.kind = .function) (_ : A.depth + 6 * k + 6 < recursionLimit) (_ : A.units + 60 * k + 60 < cLine)
  (_ : (x, instObj 206 dx) ∈ news) (_ : (dx, fqD w p a k1 t1 k2 t2) ∈ news) (_ : 0 < p) (_ : p < 100) (_ : 0 ≤ a) (_ : a < p) (_ : 0 ≤ n) (_ : n < bnd k)
  (_ : FqRet w 206 h₀ L m news s Q p (powF p k a n)),
  wpAny (model PySem.Challenge.rw_bw0039_01.row.prog w) A (call (.ref 140) [.ref x, .int n tn]) Q E s
theorem c_pow_use_p {k : Nat} {x dx : Addr} {p a n : Int} {k1 t1 k2 t2 tn : Tok}
  (B : Below A₀ base outer h₀) (F : Fr h₀ L s.heap m) (X : (Mine.hd.heap_39 w.params).In h₀) (N : News h₀ L s.heap news) (T : Top Mine.hd.view_39 loose mean mg mb h₀)
  (hA : A.frames = some (env :: outer)) (hf : env.frame = some L) (hk : env.scope.kind = .function) (hd : A.depth + 6 * k + 6 < recursionLimit) (hu : A.units + 60 * k + 60 < cLine)
  (hI : PowClaim_p w k) (x1 : (x, instObj 206 dx) ∈ news) (x2 : (dx, fqD w p a k1 t1 k2 t2) ∈ news) (hp : 0 < p) (hp2 : p < 100) (ha : 0 ≤ a) (ha2 : a < p) (hn : 0 ≤ n) (hn2 : n < bnd k)
  (hret : FqRet w 206 h₀ L m news s Q p (powF p k a n)) :
  wpAny (model PySem.Challenge.rw_bw0039_01.row.prog w) A (call (.ref 140) [.ref x, .int n tn]) Q E s := hI B F X N T hA hf hk hd hu x1 x2 hp hp2 ha ha2 hn hn2 hret

local macro_rules | `(tactic| walk_at "call ref") => `(tactic| (k_here; (with_reducible show wpAny _ _ (call (Value.ref 140) [Value.ref _, Value.int _ _]) _ _ _); k_dflt (refine' c_pow_use_p ?k1 ?k2 ?k3 ?k4 ?k5 ?kA ?kF ?kK ?kd ?ku ?hI ?x1 ?x2 ?hp ?hp2 ?ha ?ha2 ?hn ?hn2 ?_; (case k1 => k_asm); (case k2 => k_asm); (case k3 => k_asm); (case k4 => k_asm); (case k5 => k_asm); (case kA => exact rfl); (case kF => first | assumption | exact rfl); (case kK => first | assumption | exact rfl); (case hI => assumption); (case x1 => k_mem); (case x2 => k_mem); (case hp => assumption); (case hp2 => first | assumption | omega); (case ha => first | assumption | omega); (case ha2 => first | assumption | omega); (case hn => first | assumption | omega); (case hn2 => first | assumption | omega); (case kd => k_room); (case ku => k_units); k_whole); intro x' d' h' tk' a1 a2 a3 a4 F' N' l1 l2 b1 b2; (try k_lt l1); (try k_lt2 l2); (try k_sweep); (try dsimp only); (try dsimp only [PySem.W.CmpBack])))

theorem c_pow_step_p {k : Nat} (hI : PowClaim_p w k) : PowClaim_p w (k + 1) := by
  intro A A₀ env outer base h₀ L m mg mb loose mean news s Q E x dx p a n k1 t1 k2 t2 tn B F X N T hA hf hk hd hu x1 x2 hp hp2 ha ha2 hn hn2 hret
  revert X; k_fill; intro X
  obtain ⟨hdl, dp, fr, gd, un⟩ := A
  subst hA
  dsimp only at hd hu
  simp only [bnd] at hn2
  have hs9 : (n / 2).fdiv 2 = n / 2 / 2 := fd1 (by omega)
  have hfd : n.fdiv 2 = n / 2 := fd1 (by omega)
  have hfm : n.fmod 2 = n % 2 := fm1 (by omega)
  have hsq := mu_nn (p := p) (a := a) (b := a) hp
  have hsq2 := mu_lt (p := p) (a := a) (b := a) hp
  by_cases q0 : n = 0
  · subst q0
    have e9 : powF p (k + 1) a 0 = 1 % p := by simp [powF]
    rw [e9] at hret
    refine wpAny_call ?_
    k_dflt k_enter
    k_steps
    (refine' hret _ _ _ _ _ _ _ _ ?e1_5 ?e2_5 ?e3_5 ?e4_5 ?e5_5 ?e6_5; (case e1_5 => k_asm); (case e2_5 => first | k_asm | exact cb_drop (by assumption) (by kcf_all)); (case e3_5 => first | assumption | exact ktn_ltOf (by tbn_find)); (case e4_5 => first | assumption | omega); (case e5_5 => first | assumption | exact mu_nn (by assumption)); (case e6_5 => first | assumption | exact mu_lt (by assumption)))

  by_cases q1 : n = 1
  · subst q1
    have e9 : powF p (k + 1) a 1 = a % p := by simp [powF]
    rw [e9] at hret
    refine wpAny_call ?_
    k_dflt k_enter
    k_steps
    (refine' hret _ _ _ _ _ _ _ _ ?e1_6 ?e2_6 ?e3_6 ?e4_6 ?e5_6 ?e6_6; (case e1_6 => k_asm); (case e2_6 => first | k_asm | exact cb_drop (by assumption) (by kcf_all)); (case e3_6 => first | assumption | exact ktn_ltOf (by tbn_find)); (case e4_6 => first | assumption | omega); (case e5_6 => first | assumption | exact mu_nn (by assumption)); (case e6_6 => first | assumption | exact mu_lt (by assumption)))

  have z0 : (n == 0) = false := by simpa using q0
  have z1 : (n == 1) = false := by simpa using q1
  by_cases q2 : n % 2 = 0
  · have z2 : (n.fmod 2 == 0) = true := by rw [hfm, q2]; rfl
    have e9 : powF p (k + 1) a n = powF p k (mu p a a) (n.fdiv 2) := by rw [hfd]; simp [powF, q0, q1, q2]
    rw [e9] at hret
    refine wpAny_call ?_
    k_dflt k_enter
    k_steps
    (refine' hret _ _ _ _ _ _ _ _ ?e1_7 ?e2_7 ?e3_7 ?e4_7 ?e5_7 ?e6_7; (case e1_7 => k_asm); (case e2_7 => first | k_asm | exact cb_drop (by assumption) (by kcf_all)); (case e3_7 => first | assumption | exact ktn_ltOf (by tbn_find)); (case e4_7 => first | assumption | omega); (case e5_7 => first | assumption | exact mu_nn (by assumption)); (case e6_7 => first | assumption | exact mu_lt (by assumption)))

  · have e9 : powF p (k + 1) a n = mu p (powF p k (mu p a a) (n.fdiv 2)) a := by rw [hfd]; simp [powF, q0, q1, q2]
    rw [e9] at hret
    have z2 : (n.fmod 2 == 0) = false := by rw [hfm]; simpa using q2
    refine wpAny_call ?_
    k_dflt k_enter
    k_steps
    (refine' hret _ _ _ _ _ _ _ _ ?e1_8 ?e2_8 ?e3_8 ?e4_8 ?e5_8 ?e6_8; (case e1_8 => k_asm); (case e2_8 => first | k_asm | exact cb_drop (by assumption) (by kcf_all)); (case e3_8 => first | assumption | exact ktn_ltOf (by tbn_find)); (case e4_8 => first | assumption | omega); (case e5_8 => first | assumption | exact mu_nn (by assumption)); (case e6_8 => first | assumption | exact mu_lt (by assumption)))

theorem c_pow_p (k : Nat) : PowClaim_p w k := by
  induction k with
  | zero =>
    intro A A₀ env outer base h₀ L m mg mb loose mean news s Q E x dx p a n k1 t1 k2 t2 tn B F X N T hA hf hk hd hu x1 x2 hp hp2 ha ha2 hn hn2 hret
    simp only [bnd] at hn2
    omega
  | succ k ih => exact c_pow_step_p ih

end
end Mine

theorem Mine.calmC3 : True ∧ True := by
  w_top off
  first | (walk1; fail "no") | exact ⟨trivial, trivial⟩

namespace Mine
open PySem PySem.W PyProof.Rows PySem.Calls Builtin
set_option maxHeartbeats 8000000

local macro_rules | `(tactic| k_room) => `(tactic| ((try simp only [depth_under_make, depth_under_kw, depth_in1, depth_deeper, depth_caller]); (simp only [recursionLimit] at *); omega))
local macro_rules | `(tactic| k_units) => `(tactic| ((have hcL9 := cLine_is); (try simp only [units_in1, units_deeper, Around.mark_units, units_caller] at *); omega))
local macro_rules | `(tactic| k_enter) => `(tactic| (refine' code_def ?k1 ?k2 ?k3 ?k4 ?k5 ?kA ?kF ?kK ?k6 ?k7 ?k8 ?k9 ?kB ?_ ?c2 ?c3 ?c4 ?c5; (case kA => exact rfl); (case kF => first | assumption | exact rfl); (case kK => first | assumption | exact rfl); (case k1 => k_asm); (case k2 => k_asm); (case k3 => k_asm); (case k4 => k_asm); (case k5 => k_asm); (case k6 => k_is); (case k7 => k_is); (case k8 => k_room); (case k9 => first | exact BindsTo.of_eq rfl | exact binds_K (by k_in) rfl (by k_is) rfl rfl rfl | fail "k_enter: no rule for these arguments"); (case c5 => decide); (case kB => exact locs rfl); (case c2 => exact rfl); (case c3 => exact rfl); (case c4 => exact rfl); k_whole; intro g' L' h' FG' F' N' B' X' T'; (try dsimp only); (try k_lift B'); (try k_fold)))
local macro_rules | `(tactic| k_mem) => `(tactic| first | with_reducible assumption | exact List.mem_cons_self | (refine List.mem_cons_of_mem _ ?_; k_mem) | (refine List.mem_append_right _ ?_; k_mem))
local macro_rules | `(tactic| walk_at "ite") => `(tactic| first | (refine ite_pos (by with_reducible assumption) ?_) | (refine ite_neg (by with_reducible assumption) ?_) | (refine ite_isFalse (by with_reducible assumption) ?_))

abbrev tupO (vs : List Value) : Obj := { cls := .type "tuple", data := .seq vs.toArray }
abbrev Pt : Type := Int × Int × Int
abbrev PtOk (p : Int) (P : Pt) : Prop := (0 ≤ P.1 ∧ P.1 < p) ∧ (0 ≤ P.2.1 ∧ P.2.1 < p) ∧ (0 ≤ P.2.2 ∧ P.2.2 < p)
def PtIn (w : World) (news : List (Addr × Obj)) (t : Addr) (p : Int) (P : Pt) : Prop :=
  ∃ (x dx y dy z dz : Addr) (k1 t1 k2 t2 k3 t3 k4 t4 k5 t5 k6 t6 : Tok), (t, tupO [.ref x, .ref y, .ref z]) ∈ news ∧
    (x, instObj 368 dx) ∈ news ∧ (dx, fqD w p P.1 k1 t1 k2 t2) ∈ news ∧ (y, instObj 368 dy) ∈ news ∧ (dy, fqD w p P.2.1 k3 t3 k4 t4) ∈ news ∧
    (z, instObj 368 dz) ∈ news ∧ (dz, fqD w p P.2.2 k5 t5 k6 t6) ∈ news
theorem PtIn.mono {w : World} {news news' : List (Addr × Obj)} {t : Addr} {p : Int} {P : Pt} (h : PtIn w news t p P) (hs : ∀ q ∈ news, q ∈ news') : PtIn w news' t p P := by
  obtain ⟨x, dx, y, dy, z, dz, k1, t1, k2, t2, k3, t3, k4, t4, k5, t5, k6, t6, a0, a1, a2, a3, a4, a5, a6⟩ := h
  exact ⟨x, dx, y, dy, z, dz, k1, t1, k2, t2, k3, t3, k4, t4, k5, t5, k6, t6, hs _ a0, hs _ a1, hs _ a2, hs _ a3, hs _ a4, hs _ a5, hs _ a6⟩
theorem PtIn.write {w : World} {h₀ h : Heap} {L : Addr} {news : List (Addr × Obj)} {t : Addr} {p X Y Z : Int} {x dx y dy z dz : Addr} {k1 t1 k2 t2 k3 t3 k4 t4 k5 t5 k6 t6 : Tok}
    (N : News h₀ L h news) (a0 : (t, tupO [.ref x, .ref y, .ref z]) ∈ news) (a1 : (x, instObj 368 dx) ∈ news) (a2 : (dx, fqD w p X k1 t1 k2 t2) ∈ news) (a3 : (y, instObj 368 dy) ∈ news) (a4 : (dy, fqD w p Y k3 t3 k4 t4) ∈ news)
    (a5 : (z, instObj 368 dz) ∈ news) (a6 : (dz, fqD w p Z k5 t5 k6 t6) ∈ news) :
    News h₀ L h ((t, tupO [.ref x, .ref y, .ref z]) :: (x, instObj 368 dx) :: (dx, fqD w p X k1 t1 k2 t2) :: (y, instObj 368 dy) :: (dy, fqD w p Y k3 t3 k4 t4) :: (z, instObj 368 dz) :: (dz, fqD w p Z k5 t5 k6 t6) :: news) := by
  refine cb_drop N ?_
  intro q hq
  simp only [List.mem_cons] at hq
  rcases hq with rfl | rfl | rfl | rfl | rfl | rfl | rfl | hq
  all_goals assumption
abbrev PtRet (w : World) (h₀ : Heap) (L : Addr) (m : Str → Option Value) (news : List (Addr × Obj)) (s : Shared) (Q : Value → Shared → Prop) (p : Int) (P : Pt) : Prop :=
  ∀ (t : Addr) (h' : Heap) (tk' : Nat) (nw : List (Addr × Obj)), Fr h₀ L h' m → News h₀ L h' (nw ++ news) → PtIn w (nw ++ news) t p P → PtOk p P → Q (.ref t) { s with heap := h', toks := tk' }
theorem PtRet.use {w : World} {h₀ h' : Heap} {L : Addr} {m : Str → Option Value} {news nn : List (Addr × Obj)} {s : Shared} {Q : Value → Shared → Prop} {p : Int} {P : Pt} {t : Addr} {tk' : Nat} {x dx y dy z dz : Addr} {k1 t1 k2 t2 k3 t3 k4 t4 k5 t5 k6 t6 : Tok}
    (h : PtRet w h₀ L m news s Q p P) (F : Fr h₀ L h' m) (N : News h₀ L h' nn) (hs : ∀ q ∈ news, q ∈ nn) (ht : (t, tupO [.ref x, .ref y, .ref z]) ∈ nn)
    (hx : (x, instObj 368 dx) ∈ nn) (hx2 : (dx, fqD w p P.1 k1 t1 k2 t2) ∈ nn) (hy : (y, instObj 368 dy) ∈ nn) (hy2 : (dy, fqD w p P.2.1 k3 t3 k4 t4) ∈ nn)
    (hz : (z, instObj 368 dz) ∈ nn) (hz2 : (dz, fqD w p P.2.2 k5 t5 k6 t6) ∈ nn) (hok : PtOk p P) : Q (.ref t) { s with heap := h', toks := tk' } := by
  refine h t h' tk' [(t, tupO [.ref x, .ref y, .ref z]), (x, instObj 368 dx), (dx, fqD w p P.1 k1 t1 k2 t2), (y, instObj 368 dy), (dy, fqD w p P.2.1 k3 t3 k4 t4), (z, instObj 368 dz), (dz, fqD w p P.2.2 k5 t5 k6 t6)] F ?_ ?_ hok
  · refine cb_drop N ?_
    intro q hq
    simp only [List.cons_append, List.nil_append, List.mem_cons] at hq
    rcases hq with rfl | rfl | rfl | rfl | rfl | rfl | rfl | hq
    all_goals first | assumption | exact hs _ hq
  · exact ⟨x, dx, y, dy, z, dz, k1, t1, k2, t2, k3, t3, k4, t4, k5, t5, k6, t6, by simp, by simp, by simp, by simp, by simp, by simp, by simp⟩
def dblZ (p : Int) (P : Pt) : Pt :=
  let X := P.1; let Y := P.2.1; let Z := P.2.2
  let W := mu p (mu p X 3) X
  let S := mu p Y Z
  let B := mu p (mu p X Y) S
  let H := su p (mu p W W) (mu p B 8)
  let S2 := mu p S S
  (mu p (mu p H 2) S, su p (mu p W (su p (mu p B 4) H)) (mu p (mu p (mu p Y 8) Y) S2), mu p (mu p S 8) S2)
theorem dblZ_ok {p : Int} (hp : 0 < p) (P : Pt) : PtOk p (dblZ p P) := ⟨⟨mu_nn hp, mu_lt hp⟩, ⟨su_nn hp, su_lt hp⟩, ⟨mu_nn hp, mu_lt hp⟩⟩

section
variable {w : World} {A A₀ : Around} {env : Env} {outer : List Env} {base h₀ : Heap} {L : Addr} {m mg mb : Str → Option Value} {loose : List Str} {mean : ExcName → Option Value} {news : List (Addr × Obj)} {s : Shared} {Q E : Value → Shared → Prop}

local macro_rules | `(tactic| walk_at "binaryOp Mult") => `(tactic| (k_here; (with_reducible show wpAny _ _ (binaryOp Operator.Mult (Value.ref _) (Value.ref _)) _ _ _); k_dflt (refine' c_mul_o ?k1 ?k2 ?k3 ?k4 ?k5 ?kA ?kF ?kK ?kd ?ku ?x1 ?x2 ?y1 ?y2 ?hp ?hp2 ?ha ?ha2 ?_; (case k1 => k_asm); (case k2 => k_asm); (case k3 => k_asm); (case k4 => k_asm); (case k5 => k_asm); (case kA => exact rfl); (case kF => first | assumption | exact rfl); (case kK => first | assumption | exact rfl); (case x1 => k_mem); (case x2 => k_mem); (case y1 => k_mem); (case y2 => k_mem); (case hp => assumption); (case hp2 => first | assumption | omega); (case ha => first | assumption | exact mu_nn (by assumption) | exact su_nn (by assumption) | omega); (case ha2 => first | assumption | exact mu_lt (by assumption) | exact su_lt (by assumption) | omega); (case kd => k_room); (case ku => k_units); k_whole); intro x' d' h' tk' a1 a2 a3 a4 F' N' l1 l2 b1 b2; (try k_lt l1); (try k_lt2 l2); (try k_sweep); (try dsimp only); (try dsimp only [PySem.W.CmpBack])))

local macro_rules | `(tactic| walk_at "binaryOp Sub") => `(tactic| (k_here; (with_reducible show wpAny _ _ (binaryOp Operator.Sub (Value.ref _) (Value.ref _)) _ _ _); k_dflt (refine' c_sub_o ?k1 ?k2 ?k3 ?k4 ?k5 ?kA ?kF ?kK ?kd ?ku ?x1 ?x2 ?y1 ?y2 ?hp ?_; (case k1 => k_asm); (case k2 => k_asm); (case k3 => k_asm); (case k4 => k_asm); (case k5 => k_asm); (case kA => exact rfl); (case kF => first | assumption | exact rfl); (case kK => first | assumption | exact rfl); (case x1 => k_mem); (case x2 => k_mem); (case y1 => k_mem); (case y2 => k_mem); (case hp => assumption); (case kd => k_room); (case ku => k_units); k_whole); intro x' d' h' tk' a1 a2 a3 a4 F' N' l1 l2 b1 b2; (try k_lt l1); (try k_lt2 l2); (try k_sweep); (try dsimp only); (try dsimp only [PySem.W.CmpBack])))

local macro_rules | `(tactic| walk_at "binaryOp Mult int ref") => `(tactic| (k_here; (with_reducible show wpAny _ _ (binaryOp Operator.Mult (Value.int _ _) (Value.ref _)) _ _ _); k_dflt (refine' c_rmul_o ?k1 ?k2 ?k3 ?k4 ?k5 ?kA ?kF ?kK ?kd ?ku ?x1 ?x2 ?hp ?hp2 ?ha ?ha2 ?_; (case k1 => k_asm); (case k2 => k_asm); (case k3 => k_asm); (case k4 => k_asm); (case k5 => k_asm); (case kA => exact rfl); (case kF => first | assumption | exact rfl); (case kK => first | assumption | exact rfl); (case x1 => k_mem); (case x2 => k_mem); (case hp => assumption); (case hp2 => first | assumption | omega); (case ha => first | assumption | exact mu_nn (by assumption) | exact su_nn (by assumption) | omega); (case ha2 => first | assumption | exact mu_lt (by assumption) | exact su_lt (by assumption) | omega); (case kd => k_room); (case ku => k_units); k_whole); intro x' d' h' tk' a1 a2 a3 a4 F' N' l1 l2 b1 b2; (try k_lt l1); (try k_lt2 l2); (try k_sweep); (try dsimp only); (try dsimp only [PySem.W.CmpBack])))

local macro_rules | `(tactic| walk_at "compareOp Eq ref") => `(tactic| (k_here; (with_reducible show wpAny _ _ (compareOp CmpOp.Eq (Value.ref _) (Value.ref _)) _ _ _); k_dflt (refine' c_eq_o ?k1 ?k2 ?k3 ?k4 ?k5 ?kA ?kF ?kK ?kd ?ku ?x1 ?x2 ?y1 ?y2 ?_; (case k1 => k_asm); (case k2 => k_asm); (case k3 => k_asm); (case k4 => k_asm); (case k5 => k_asm); (case kA => exact rfl); (case kF => first | assumption | exact rfl); (case kK => first | assumption | exact rfl); (case x1 => k_mem); (case x2 => k_mem); (case y1 => k_mem); (case y2 => k_mem); (case kd => k_room); (case ku => k_units); k_whole); intro t' h' tk' F' N'; (try k_sweep); (try dsimp only); (try dsimp only [PySem.W.CmpBack])))

local macro_rules | `(tactic| walk_at "call ref") => `(tactic| (k_here; (with_reducible show wpAny _ _ (call (Value.ref 358) [Value.ref _]) _ _ _); k_dflt (refine' c_one_o ?k1 ?k2 ?k3 ?k4 ?k5 ?kA ?kF ?kK ?kd ?ku ?x1 ?x2 ?hp ?_; (case k1 => k_asm); (case k2 => k_asm); (case k3 => k_asm); (case k4 => k_asm); (case k5 => k_asm); (case kA => exact rfl); (case kF => first | assumption | exact rfl); (case kK => first | assumption | exact rfl); (case x1 => k_mem); (case x2 => k_mem); (case hp => assumption); (case kd => k_room); (case ku => k_units); k_whole); intro x' d' h' tk' a1 a2 a3 a4 F' N' l1 l2 b1 b2; (try k_lt l1); (try k_lt2 l2); (try k_sweep); (try dsimp only); (try dsimp only [PySem.W.CmpBack])))

local macro_rules | `(tactic| walk_at "call ref") => `(tactic| (k_here; (with_reducible show wpAny _ _ (call (Value.ref 365) [Value.ref _]) _ _ _); k_dflt (refine' c_zero_o ?k1 ?k2 ?k3 ?k4 ?k5 ?kA ?kF ?kK ?kd ?ku ?x1 ?x2 ?hp ?_; (case k1 => k_asm); (case k2 => k_asm); (case k3 => k_asm); (case k4 => k_asm); (case k5 => k_asm); (case kA => exact rfl); (case kF => first | assumption | exact rfl); (case kK => first | assumption | exact rfl); (case x1 => k_mem); (case x2 => k_mem); (case hp => assumption); (case kd => k_room); (case ku => k_units); k_whole); intro x' d' h' tk' a1 a2 a3 a4 F' N' l1 l2 b1 b2; (try k_lt l1); (try k_lt2 l2); (try k_sweep); (try dsimp only); (try dsimp only [PySem.W.CmpBack])))

local macro_rules | `(tactic| walk_at "call ref") => `(tactic| (k_here; (with_reducible show wpAny _ _ (call (Value.ref 368) [Value.int _ _, Value.int _ _]) _ _ _); k_dflt (refine' c_new_o ?k1 ?k2 ?k3 ?k4 ?k5 ?kA ?kF ?kK ?kd ?ku ?kp ?_; (case k1 => k_asm); (case k2 => k_asm); (case k3 => k_asm); (case k4 => k_asm); (case k5 => k_asm); (case kA => exact rfl); (case kF => first | assumption | exact rfl); (case kK => first | assumption | exact rfl); (case kp => assumption); (case kd => k_room); (case ku => k_units); k_whole); intro x' d' h' tk' a1 a2 a3 a4 F' N' l1 l2 b1 b2; (try k_lt l1); (try k_lt2 l2); (try k_sweep); (try dsimp only); (try dsimp only [PySem.W.CmpBack])))

theorem c_double {t : Addr} {p : Int} {P : Pt}
  (B : Below A₀ base outer h₀) (F : Fr h₀ L s.heap m) (X : (Mine.hd.heap_39 w.params).In h₀) (N : News h₀ L s.heap news) (T : Top Mine.hd.view_39 loose mean mg mb h₀)
  (hh : A.handled = none) (hA : A.frames = some (env :: outer)) (hf : env.frame = some L) (hk : env.scope.kind = .function) (hd : A.depth + 10 < recursionLimit) (hu : A.units + 100 < cLine)
  (hP : PtIn w news t p P) (hp : 0 < p) (hp2 : p < 100) (hok : PtOk p P)
  (hret : PtRet w h₀ L m news s Q p (dblZ p P)) :
  wpAny (model PySem.Challenge.rw_bw0039_01.row.prog w) A (call (.ref 42) [.ref t]) Q E s := by
  revert X; k_fill; intro X
  obtain ⟨hdl, dp, fr, gd, un⟩ := A
  subst hA
  dsimp only at hh
  subst hh
  dsimp only at hd hu
  obtain ⟨X0, Y0, Z0⟩ := P
  obtain ⟨x, dx, y, dy, z, dz, k1, t1, k2, t2, k3, t3, k4, t4, k5, t5, k6, t6, a0, a1, a2, a3, a4, a5, a6⟩ := hP
  obtain ⟨⟨o1, o2⟩, ⟨o3, o4⟩, o5, o6⟩ := hok
  dsimp only at a2 a4 a6 o1 o2 o3 o4 o5 o6
  have N1 := PtIn.write N a0 a1 a2 a3 a4 a5 a6
  clear N
  k_steps
  (refine' PtRet.use hret ?e1_1 ?e2_1 ?e3_1 ?e4_1 ?e5_1 ?e6_1 ?e7_1 ?e8_1 ?e9_1 ?e10_1 ?e11_1; (case e1_1 => k_asm); (case e2_1 => k_asm); (case e3_1 => kcf_all); (case e4_1 => k_mem); (case e5_1 => k_mem); (case e6_1 => k_mem); (case e7_1 => k_mem); (case e8_1 => k_mem); (case e9_1 => k_mem); (case e10_1 => k_mem); (case e11_1 => exact dblZ_ok hp _))

end
end Mine

theorem Mine.calmC4 : True ∧ True := by
  w_top off
  first | (walk1; fail "no") | exact ⟨trivial, trivial⟩

namespace Mine
open PySem PySem.W PyProof.Rows PySem.Calls Builtin
set_option maxHeartbeats 8000000

local macro_rules | `(tactic| k_room) => `(tactic| ((try simp only [depth_under_make, depth_under_kw, depth_in1, depth_deeper, depth_caller]); (simp only [recursionLimit] at *); omega))
local macro_rules | `(tactic| k_units) => `(tactic| ((have hcL9 := cLine_is); (try simp only [units_in1, units_deeper, Around.mark_units, units_caller] at *); omega))
local macro_rules | `(tactic| k_enter) => `(tactic| (refine' code_def ?k1 ?k2 ?k3 ?k4 ?k5 ?kA ?kF ?kK ?k6 ?k7 ?k8 ?k9 ?kB ?_ ?c2 ?c3 ?c4 ?c5; (case kA => exact rfl); (case kF => first | assumption | exact rfl); (case kK => first | assumption | exact rfl); (case k1 => k_asm); (case k2 => k_asm); (case k3 => k_asm); (case k4 => k_asm); (case k5 => k_asm); (case k6 => k_is); (case k7 => k_is); (case k8 => k_room); (case k9 => first | exact BindsTo.of_eq rfl | exact binds_K (by k_in) rfl (by k_is) rfl rfl rfl | fail "k_enter: no rule for these arguments"); (case c5 => decide); (case kB => exact locs rfl); (case c2 => exact rfl); (case c3 => exact rfl); (case c4 => exact rfl); k_whole; intro g' L' h' FG' F' N' B' X' T'; (try dsimp only); (try k_lift B'); (try k_fold)))
local macro_rules | `(tactic| k_mem) => `(tactic| first | with_reducible assumption | exact List.mem_cons_self | (refine List.mem_cons_of_mem _ ?_; k_mem) | (refine List.mem_append_right _ ?_; k_mem))
local macro_rules | `(tactic| walk_at "ite") => `(tactic| first | (refine ite_pos (by with_reducible assumption) ?_) | (refine ite_neg (by with_reducible assumption) ?_) | (refine ite_isFalse (by with_reducible assumption) ?_))

def addG (p x1 y1 z1 x2 y2 z2 : Int) : Pt :=
  let U1 := mu p y2 z1; let U2 := mu p y1 z2; let V1 := mu p x2 z1; let V2 := mu p x1 z2
  let U := su p U1 U2; let V := su p V1 V2; let Vs := mu p V V; let VsV2 := mu p Vs V2; let Vc := mu p V Vs; let W := mu p z1 z2
  let A := su p (su p (mu p (mu p U U) W) Vc) (mu p VsV2 2)
  (mu p V A, su p (mu p U (su p VsV2 A)) (mu p Vc U2), mu p Vc W)
def addZ (p : Int) (P1 P2 : Pt) : Pt :=
  if P2.2.2 = 0 then P1 else if P1.2.2 = 0 then P2 else
  if mu p P2.1 P1.2.2 = mu p P1.1 P2.2.2 then (if mu p P2.2.1 P1.2.2 = mu p P1.2.1 P2.2.2 then dblZ p P1 else (1 % p, 1 % p, 0))
  else addG p P1.1 P1.2.1 P1.2.2 P2.1 P2.2.1 P2.2.2
theorem addZ_ok {p : Int} (hp : 0 < p) {P1 P2 : Pt} (h1 : PtOk p P1) (h2 : PtOk p P2) : PtOk p (addZ p P1 P2) := by
  have e1 : 0 ≤ 1 % p := Int.emod_nonneg _ (by omega)
  have e2 : 1 % p < p := Int.emod_lt_of_pos _ hp
  unfold addZ
  split
  · exact h1
  split
  · exact h2
  split
  · split
    · exact dblZ_ok hp _
    · exact ⟨⟨e1, e2⟩, ⟨e1, e2⟩, Int.le_refl 0, hp⟩
  · exact ⟨⟨mu_nn hp, mu_lt hp⟩, ⟨su_nn hp, su_lt hp⟩, ⟨mu_nn hp, mu_lt hp⟩⟩

theorem PtRet.any {w : World} {h₀ h' : Heap} {L : Addr} {m : Str → Option Value} {news nn : List (Addr × Obj)} {s : Shared} {Q : Value → Shared → Prop} {p : Int} {P : Pt} {t : Addr} {tk' : Nat}
    (h : PtRet w h₀ L m news s Q p P) (F : Fr h₀ L h' m) (N : News h₀ L h' nn) (hs : ∀ q ∈ news, q ∈ nn) (hP : PtIn w nn t p P) (hok : PtOk p P) : Q (.ref t) { s with heap := h', toks := tk' } := by
  obtain ⟨x, dx, y, dy, z, dz, k1, t1, k2, t2, k3, t3, k4, t4, k5, t5, k6, t6, a0, a1, a2, a3, a4, a5, a6⟩ := hP
  exact PtRet.use h F N hs a0 a1 a2 a3 a4 a5 a6 hok

theorem tup_item {prog : Program} {w : World} {A : Around} {E : Value → Shared → Prop} {s : Shared} {h₀ : Heap} {L : Addr} {news : List (Addr × Obj)} {value slice : PySem.Expr} {t : Addr} {vs : List Value} {k : Int} {u : Tok} {j : Nat} {x : Value} {Q : Value → Shared → Prop}
    (N : News h₀ L s.heap news) (hm : (t, tupO vs) ∈ news) (hlo : -(2 ^ 63) ≤ k) (hhi : k < 2 ^ 63) (hj : seqIndex? k vs.length = some j) (hx : vs[j]? = some x) (h : Q x s)
    (hs : subscripted slice false (.ref t) (.int k u) = operate [.ref t, .int k u] (getItem (.ref t) (.int k u)) := by with_unfolding_all rfl) :
    wpAny (model prog w) A (subscriptTail value slice (.ref t) (.int k u)) Q E s := item_tupleT (News.isTup N hm) hlo hhi hj hx h hs

local macro_rules | `(tactic| walk_at "subscriptTail") => `(tactic| (k_here; (with_reducible show wpAny _ _ (subscriptTail _ _ (Value.ref _) (Value.int _ _)) _ _ _); k_dflt (refine' tup_item ?N ?m ?a ?b ?c ?d ?_ ?e; (case N => k_asm); (case m => k_mem); (case a => decide); (case b => decide); (case c => rfl); (case d => rfl); (case e => with_unfolding_all rfl); k_whole)))
local macro_rules | `(tactic| walk_at "subscriptTail Name Constant ref int") => `(tactic| (k_here; (with_reducible show wpAny _ _ (subscriptTail _ _ (Value.ref _) (Value.int _ _)) _ _ _); k_dflt (refine' tup_item ?N ?m ?a ?b ?c ?d ?_ ?e; (case N => k_asm); (case m => k_mem); (case a => decide); (case b => decide); (case c => rfl); (case d => rfl); (case e => with_unfolding_all rfl); k_whole)))
local macro_rules | `(tactic| walk_at "subscriptTail Name UnaryOp ref int") => `(tactic| (k_here; (with_reducible show wpAny _ _ (subscriptTail _ _ (Value.ref _) (Value.int _ _)) _ _ _); k_dflt (refine' tup_item ?N ?m ?a ?b ?c ?d ?_ ?e; (case N => k_asm); (case m => k_mem); (case a => decide); (case b => decide); (case c => rfl); (case d => rfl); (case e => with_unfolding_all rfl); k_whole)))

section
variable {w : World} {A A₀ : Around} {env : Env} {outer : List Env} {base h₀ : Heap} {L : Addr} {m mg mb : Str → Option Value} {loose : List Str} {mean : ExcName → Option Value} {news : List (Addr × Obj)} {s : Shared} {Q E : Value → Shared → Prop}

theorem c_zero_z {x dx : Addr} {p a : Int} {k1 t1 k2 t2 : Tok}
  (B : Below A₀ base outer h₀) (F : Fr h₀ L s.heap m) (X : (Mine.hd.heap_39 w.params).In h₀) (N : News h₀ L s.heap news) (T : Top Mine.hd.view_39 loose mean mg mb h₀)
  (hA : A.frames = some (env :: outer)) (hf : env.frame = some L) (hk : env.scope.kind = .function) (hd : A.depth + 6 < recursionLimit) (hu : A.units + 60 < cLine)
  (x1 : (x, instObj 368 dx) ∈ news) (x2 : (dx, fqD w p a k1 t1 k2 t2) ∈ news) (hp : 0 < p)
  (hret : FqRet w 368 h₀ L m news s Q p 0) :
  wpAny (model PySem.Challenge.rw_bw0039_01.row.prog w) A (call (.ref 365) [.ref x]) Q E s := c_zero_o B F X N T hA hf hk hd hu x1 x2 hp (by rw [Int.zero_emod]; exact hret)

local macro_rules | `(tactic| walk_at "binaryOp Mult") => `(tactic| (k_here; (with_reducible show wpAny _ _ (binaryOp Operator.Mult (Value.ref _) (Value.ref _)) _ _ _); k_dflt (refine' c_mul_o ?k1 ?k2 ?k3 ?k4 ?k5 ?kA ?kF ?kK ?kd ?ku ?x1 ?x2 ?y1 ?y2 ?hp ?hp2 ?ha ?ha2 ?_; (case k1 => k_asm); (case k2 => k_asm); (case k3 => k_asm); (case k4 => k_asm); (case k5 => k_asm); (case kA => exact rfl); (case kF => first | assumption | exact rfl); (case kK => first | assumption | exact rfl); (case x1 => k_mem); (case x2 => k_mem); (case y1 => k_mem); (case y2 => k_mem); (case hp => assumption); (case hp2 => first | assumption | omega); (case ha => first | assumption | exact mu_nn (by assumption) | exact su_nn (by assumption) | omega); (case ha2 => first | assumption | exact mu_lt (by assumption) | exact su_lt (by assumption) | omega); (case kd => k_room); (case ku => k_units); k_whole); intro x' d' h' tk' a1 a2 a3 a4 F' N' l1 l2 b1 b2; (try k_lt l1); (try k_lt2 l2); (try k_sweep); (try dsimp only); (try dsimp only [PySem.W.CmpBack])))

local macro_rules | `(tactic| walk_at "binaryOp Sub") => `(tactic| (k_here; (with_reducible show wpAny _ _ (binaryOp Operator.Sub (Value.ref _) (Value.ref _)) _ _ _); k_dflt (refine' c_sub_o ?k1 ?k2 ?k3 ?k4 ?k5 ?kA ?kF ?kK ?kd ?ku ?x1 ?x2 ?y1 ?y2 ?hp ?_; (case k1 => k_asm); (case k2 => k_asm); (case k3 => k_asm); (case k4 => k_asm); (case k5 => k_asm); (case kA => exact rfl); (case kF => first | assumption | exact rfl); (case kK => first | assumption | exact rfl); (case x1 => k_mem); (case x2 => k_mem); (case y1 => k_mem); (case y2 => k_mem); (case hp => assumption); (case kd => k_room); (case ku => k_units); k_whole); intro x' d' h' tk' a1 a2 a3 a4 F' N' l1 l2 b1 b2; (try k_lt l1); (try k_lt2 l2); (try k_sweep); (try dsimp only); (try dsimp only [PySem.W.CmpBack])))

local macro_rules | `(tactic| walk_at "binaryOp Mult int ref") => `(tactic| (k_here; (with_reducible show wpAny _ _ (binaryOp Operator.Mult (Value.int _ _) (Value.ref _)) _ _ _); k_dflt (refine' c_rmul_o ?k1 ?k2 ?k3 ?k4 ?k5 ?kA ?kF ?kK ?kd ?ku ?x1 ?x2 ?hp ?hp2 ?ha ?ha2 ?_; (case k1 => k_asm); (case k2 => k_asm); (case k3 => k_asm); (case k4 => k_asm); (case k5 => k_asm); (case kA => exact rfl); (case kF => first | assumption | exact rfl); (case kK => first | assumption | exact rfl); (case x1 => k_mem); (case x2 => k_mem); (case hp => assumption); (case hp2 => first | assumption | omega); (case ha => first | assumption | exact mu_nn (by assumption) | exact su_nn (by assumption) | omega); (case ha2 => first | assumption | exact mu_lt (by assumption) | exact su_lt (by assumption) | omega); (case kd => k_room); (case ku => k_units); k_whole); intro x' d' h' tk' a1 a2 a3 a4 F' N' l1 l2 b1 b2; (try k_lt l1); (try k_lt2 l2); (try k_sweep); (try dsimp only); (try dsimp only [PySem.W.CmpBack])))

local macro_rules | `(tactic| walk_at "compareOp Eq ref") => `(tactic| (k_here; (with_reducible show wpAny _ _ (compareOp CmpOp.Eq (Value.ref _) (Value.ref _)) _ _ _); k_dflt (refine' c_eq_o ?k1 ?k2 ?k3 ?k4 ?k5 ?kA ?kF ?kK ?kd ?ku ?x1 ?x2 ?y1 ?y2 ?_; (case k1 => k_asm); (case k2 => k_asm); (case k3 => k_asm); (case k4 => k_asm); (case k5 => k_asm); (case kA => exact rfl); (case kF => first | assumption | exact rfl); (case kK => first | assumption | exact rfl); (case x1 => k_mem); (case x2 => k_mem); (case y1 => k_mem); (case y2 => k_mem); (case kd => k_room); (case ku => k_units); k_whole); intro t' h' tk' F' N'; (try k_sweep); (try dsimp only); (try dsimp only [PySem.W.CmpBack])))

local macro_rules | `(tactic| walk_at "call ref") => `(tactic| (k_here; (with_reducible show wpAny _ _ (call (Value.ref 358) _) _ _ _); k_dflt (refine' c_one_o ?k1 ?k2 ?k3 ?k4 ?k5 ?kA ?kF ?kK ?kd ?ku ?x1 ?x2 ?hp ?_; (case k1 => k_asm); (case k2 => k_asm); (case k3 => k_asm); (case k4 => k_asm); (case k5 => k_asm); (case kA => exact rfl); (case kF => first | assumption | exact rfl); (case kK => first | assumption | exact rfl); (case x1 => k_mem); (case x2 => k_mem); (case hp => assumption); (case kd => k_room); (case ku => k_units); k_whole); intro x' d' h' tk' a1 a2 a3 a4 F' N' l1 l2 b1 b2; (try k_lt l1); (try k_lt2 l2); (try k_sweep); (try dsimp only); (try dsimp only [PySem.W.CmpBack])))

local macro_rules | `(tactic| walk_at "call ref") => `(tactic| (k_here; (with_reducible show wpAny _ _ (call (Value.ref 365) _) _ _ _); k_dflt (refine' c_zero_z ?k1 ?k2 ?k3 ?k4 ?k5 ?kA ?kF ?kK ?kd ?ku ?x1 ?x2 ?hp ?_; (case k1 => k_asm); (case k2 => k_asm); (case k3 => k_asm); (case k4 => k_asm); (case k5 => k_asm); (case kA => exact rfl); (case kF => first | assumption | exact rfl); (case kK => first | assumption | exact rfl); (case x1 => k_mem); (case x2 => k_mem); (case hp => assumption); (case kd => k_room); (case ku => k_units); k_whole); intro x' d' h' tk' a1 a2 a3 a4 F' N' l1 l2 b1 b2; (try k_lt l1); (try k_lt2 l2); (try k_sweep); (try dsimp only); (try dsimp only [PySem.W.CmpBack])))

local macro_rules | `(tactic| walk_at "call ref") => `(tactic| (k_here; (with_reducible show wpAny _ _ (call (Value.ref 368) [Value.int _ _, Value.int _ _]) _ _ _); k_dflt (refine' c_new_o ?k1 ?k2 ?k3 ?k4 ?k5 ?kA ?kF ?kK ?kd ?ku ?kp ?_; (case k1 => k_asm); (case k2 => k_asm); (case k3 => k_asm); (case k4 => k_asm); (case k5 => k_asm); (case kA => exact rfl); (case kF => first | assumption | exact rfl); (case kK => first | assumption | exact rfl); (case kp => assumption); (case kd => k_room); (case ku => k_units); k_whole); intro x' d' h' tk' a1 a2 a3 a4 F' N' l1 l2 b1 b2; (try k_lt l1); (try k_lt2 l2); (try k_sweep); (try dsimp only); (try dsimp only [PySem.W.CmpBack])))

local macro_rules | `(tactic| walk_at "call ref") => `(tactic| (k_here; (with_reducible show wpAny _ _ (call (Value.ref 42) [Value.ref _]) _ _ _); k_dflt (refine' c_double ?k1 ?k2 ?k3 ?k4 ?k5 ?kH ?kA ?kF ?kK ?kd ?ku ?hP ?hp ?hp2 ?hok ?_; (case k1 => k_asm); (case k2 => k_asm); (case k3 => k_asm); (case k4 => k_asm); (case k5 => k_asm); (case kH => exact rfl); (case kA => exact rfl); (case kF => first | assumption | exact rfl); (case kK => first | assumption | exact rfl); (case hP => first | assumption | exact PtIn.mono (by assumption) (by kcf_all)); (case hp => assumption); (case hp2 => first | assumption | omega); (case hok => assumption); (case kd => k_room); (case ku => k_units); k_whole); intro t' h' tk' nw' F' N' hP' hok'; (try k_sweep); (try dsimp only); (try dsimp only [PySem.W.CmpBack])))

theorem c_add {ta tb : Addr} {p : Int} {P1 P2 : Pt}
  (B : Below A₀ base outer h₀) (F : Fr h₀ L s.heap m) (X : (Mine.hd.heap_39 w.params).In h₀) (N : News h₀ L s.heap news) (T : Top Mine.hd.view_39 loose mean mg mb h₀)
  (hh : A.handled = none) (hA : A.frames = some (env :: outer)) (hf : env.frame = some L) (hk : env.scope.kind = .function) (hd : A.depth + 14 < recursionLimit) (hu : A.units + 140 < cLine)
  (hP : PtIn w news ta p P1) (hP2 : PtIn w news tb p P2) (hp : 0 < p) (hp2 : p < 100) (hok : PtOk p P1) (hok2 : PtOk p P2)
  (hret : PtRet w h₀ L m news s Q p (addZ p P1 P2)) :
  wpAny (model PySem.Challenge.rw_bw0039_01.row.prog w) A (call (.ref 49) [.ref ta, .ref tb]) Q E s := by
  revert X; k_fill; intro X
  obtain ⟨hdl, dp, fr, gd, un⟩ := A
  subst hA
  dsimp only at hh
  subst hh
  dsimp only at hd hu
  have hPs := hP
  have hPs2 := hP2
  have hoks := hok
  have hoks2 := hok2
  have hadd := addZ_ok hp hok hok2
  obtain ⟨X1, Y1, Z1⟩ := P1
  obtain ⟨X2, Y2, Z2⟩ := P2
  obtain ⟨xb, dxb, yb, dyb, zb, dzb, k1b, t1b, k2b, t2b, k3b, t3b, k4b, t4b, k5b, t5b, k6b, t6b, a0b, a1b, a2b, a3b, a4b, a5b, a6b⟩ := hP2
  dsimp only at a2b a4b a6b
  obtain ⟨xa, dxa, ya, dya, za, dza, k1a, t1a, k2a, t2a, k3a, t3a, k4a, t4a, k5a, t5a, k6a, t6a, a0a, a1a, a2a, a3a, a4a, a5a, a6a⟩ := hP
  dsimp only at a2a a4a a6a
  obtain ⟨⟨o1, o2⟩, ⟨o3, o4⟩, o5, o6⟩ := hok
  obtain ⟨⟨o7, o8⟩, ⟨o9, o10⟩, o11, o12⟩ := hok2
  dsimp only at o1 o2 o3 o4 o5 o6 o7 o8 o9 o10 o11 o12
  have N1 := PtIn.write N a0b a1b a2b a3b a4b a5b a6b
  have N2 := PtIn.write N1 (List.mem_append_right [_, _, _, _, _, _, _] a0a) (List.mem_append_right [_, _, _, _, _, _, _] a1a) (List.mem_append_right [_, _, _, _, _, _, _] a2a) (List.mem_append_right [_, _, _, _, _, _, _] a3a) (List.mem_append_right [_, _, _, _, _, _, _] a4a) (List.mem_append_right [_, _, _, _, _, _, _] a5a) (List.mem_append_right [_, _, _, _, _, _, _] a6a)
  clear N N1
  refine wpAny_call ?_
  k_dflt k_enter
  by_cases q2 : Z2 = 0
  · have z2 : (Z2 == 0) = true := by simpa using q2
    have e9 : addZ p (X1, Y1, Z1) (X2, Y2, Z2) = (X1, Y1, Z1) := by simp [addZ, q2]
    rw [e9] at hret
    by_cases q1 : Z1 = 0
    · have z1 : (Z1 == 0) = true := by simpa using q1
      k_steps
      (refine' hret _ _ _ [] ?f1 ?g1 hPs hoks; (case f1 => k_asm); (case g1 => exact cb_drop (by assumption) (by kcf_all)))
    · have z1 : (Z1 == 0) = false := by simpa using q1
      k_steps
      (refine' hret _ _ _ [] ?f2 ?g2 hPs hoks; (case f2 => k_asm); (case g2 => exact cb_drop (by assumption) (by kcf_all)))
  have z2 : (Z2 == 0) = false := by simpa using q2
  by_cases q1 : Z1 = 0
  · have z1 : (Z1 == 0) = true := by simpa using q1
    have e9 : addZ p (X1, Y1, Z1) (X2, Y2, Z2) = (X2, Y2, Z2) := by simp [addZ, q2, q1]
    rw [e9] at hret
    k_steps
    (refine' hret _ _ _ [] ?f3 ?g3 hPs2 hoks2; (case f3 => k_asm); (case g3 => exact cb_drop (by assumption) (by kcf_all)))
  have z1 : (Z1 == 0) = false := by simpa using q1
  by_cases qv : mu p X2 Z1 = mu p X1 Z2
  · have zv : (mu p X2 Z1 == mu p X1 Z2) = true := by simpa using qv
    by_cases qu : mu p Y2 Z1 = mu p Y1 Z2
    · have zu : (mu p Y2 Z1 == mu p Y1 Z2) = true := by simpa using qu
      have e9 : addZ p (X1, Y1, Z1) (X2, Y2, Z2) = dblZ p (X1, Y1, Z1) := by simp [addZ, q2, q1, qv, qu]
      rw [e9] at hret hadd
      k_steps
      (refine' PtRet.any hret ?f9 ?g9 ?s9 ?h9 hadd; (case f9 => k_asm); (case h9 => first | assumption | exact PtIn.mono (by assumption) (by kcf_all)); (case g9 => k_asm); (case s9 => kcf_all))
    · have zu : (mu p Y2 Z1 == mu p Y1 Z2) = false := by simpa using qu
      have e9 : addZ p (X1, Y1, Z1) (X2, Y2, Z2) = (1 % p, 1 % p, 0) := by simp [addZ, q2, q1, qv, qu]
      rw [e9] at hret hadd
      k_steps
      (refine' PtRet.use hret ?e1_1 ?e2_1 ?e3_1 ?e4_1 ?e5_1 ?e6_1 ?e7_1 ?e8_1 ?e9_1 ?e10_1 ?e11_1; (case e1_1 => k_asm); (case e2_1 => k_asm); (case e3_1 => kcf_all); (case e4_1 => k_mem); (case e5_1 => k_mem); (case e6_1 => k_mem); (case e7_1 => k_mem); (case e8_1 => k_mem); (case e9_1 => k_mem); (case e10_1 => k_mem); (case e11_1 => exact hadd))
  · have zv : (mu p X2 Z1 == mu p X1 Z2) = false := by simpa using qv
    have e9 : addZ p (X1, Y1, Z1) (X2, Y2, Z2) = addG p X1 Y1 Z1 X2 Y2 Z2 := by simp [addZ, q2, q1, qv]
    rw [e9] at hret hadd
    k_steps
    (refine' PtRet.use hret ?e1_2 ?e2_2 ?e3_2 ?e4_2 ?e5_2 ?e6_2 ?e7_2 ?e8_2 ?e9_2 ?e10_2 ?e11_2; (case e1_2 => k_asm); (case e2_2 => k_asm); (case e3_2 => kcf_all); (case e4_2 => k_mem); (case e5_2 => k_mem); (case e6_2 => k_mem); (case e7_2 => k_mem); (case e8_2 => k_mem); (case e9_2 => k_mem); (case e10_2 => k_mem); (case e11_2 => exact hadd))

end
end Mine

theorem Mine.calmC5 : True ∧ True := by
  w_top off
  first | (walk1; fail "no") | exact ⟨trivial, trivial⟩

namespace Mine
open PySem PySem.W PyProof.Rows PySem.Calls Builtin
set_option maxHeartbeats 8000000

local macro_rules | `(tactic| k_room) => `(tactic| ((try simp only [depth_under_make, depth_under_kw, depth_in1, depth_deeper, depth_caller]); (simp only [recursionLimit] at *); omega))
local macro_rules | `(tactic| k_units) => `(tactic| ((have hcL9 := cLine_is); (try simp only [units_in1, units_deeper, Around.mark_units, units_caller] at *); omega))
local macro_rules | `(tactic| k_enter) => `(tactic| (refine' code_def ?k1 ?k2 ?k3 ?k4 ?k5 ?kA ?kF ?kK ?k6 ?k7 ?k8 ?k9 ?kB ?_ ?c2 ?c3 ?c4 ?c5; (case kA => exact rfl); (case kF => first | assumption | exact rfl); (case kK => first | assumption | exact rfl); (case k1 => k_asm); (case k2 => k_asm); (case k3 => k_asm); (case k4 => k_asm); (case k5 => k_asm); (case k6 => k_is); (case k7 => k_is); (case k8 => k_room); (case k9 => first | exact BindsTo.of_eq rfl | exact binds_K (by k_in) rfl (by k_is) rfl rfl rfl | fail "k_enter: no rule for these arguments"); (case c5 => decide); (case kB => exact locs rfl); (case c2 => exact rfl); (case c3 => exact rfl); (case c4 => exact rfl); k_whole; intro g' L' h' FG' F' N' B' X' T'; (try dsimp only); (try k_lift B'); (try k_fold)))
local macro_rules | `(tactic| k_mem) => `(tactic| first | with_reducible assumption | exact List.mem_cons_self | (refine List.mem_cons_of_mem _ ?_; k_mem) | (refine List.mem_append_right _ ?_; k_mem))
local macro_rules | `(tactic| walk_at "ite") => `(tactic| first | (refine ite_pos (by with_reducible assumption) ?_) | (refine ite_neg (by with_reducible assumption) ?_) | (refine ite_isFalse (by with_reducible assumption) ?_))

def mulF (p : Int) : Nat → Pt → Int → Pt
  | 0, P, _ => P
  | k + 1, P, n => if n = 1 then P else if n % 2 = 0 then mulF p k (dblZ p P) (n / 2) else addZ p (mulF p k (dblZ p P) (n / 2)) P
theorem mulF_ok {p : Int} (hp : 0 < p) : ∀ (k : Nat) {P : Pt} {n : Int}, PtOk p P → PtOk p (mulF p k P n)
  | 0, _, _, h => h
  | k + 1, P, n, h => by
    unfold mulF
    split
    · exact h
    split
    · exact mulF_ok hp k (dblZ_ok hp P)
    · exact addZ_ok hp (mulF_ok hp k (dblZ_ok hp P)) h

local macro_rules | `(tactic| walk_at "subscriptTail") => `(tactic| (k_here; (with_reducible show wpAny _ _ (subscriptTail _ _ (Value.ref _) (Value.int _ _)) _ _ _); k_dflt (refine' tup_item ?N ?m ?a ?b ?c ?d ?_ ?e; (case N => k_asm); (case m => k_mem); (case a => decide); (case b => decide); (case c => rfl); (case d => rfl); (case e => with_unfolding_all rfl); k_whole)))
local macro_rules | `(tactic| walk_at "subscriptTail Name Constant ref int") => `(tactic| (k_here; (with_reducible show wpAny _ _ (subscriptTail _ _ (Value.ref _) (Value.int _ _)) _ _ _); k_dflt (refine' tup_item ?N ?m ?a ?b ?c ?d ?_ ?e; (case N => k_asm); (case m => k_mem); (case a => decide); (case b => decide); (case c => rfl); (case d => rfl); (case e => with_unfolding_all rfl); k_whole)))
local macro_rules | `(tactic| walk_at "subscriptTail Name UnaryOp ref int") => `(tactic| (k_here; (with_reducible show wpAny _ _ (subscriptTail _ _ (Value.ref _) (Value.int _ _)) _ _ _); k_dflt (refine' tup_item ?N ?m ?a ?b ?c ?d ?_ ?e; (case N => k_asm); (case m => k_mem); (case a => decide); (case b => decide); (case c => rfl); (case d => rfl); (case e => with_unfolding_all rfl); k_whole)))

section
variable {w : World} {A A₀ : Around} {env : Env} {outer : List Env} {base h₀ : Heap} {L : Addr} {m mg mb : Str → Option Value} {loose : List Str} {mean : ExcName → Option Value} {news : List (Addr × Obj)} {s : Shared} {Q E : Value → Shared → Prop}

local macro_rules | `(tactic| walk_at "binaryOp Mult") => `(tactic| (k_here; (with_reducible show wpAny _ _ (binaryOp Operator.Mult (Value.ref _) (Value.ref _)) _ _ _); k_dflt (refine' c_mul_o ?k1 ?k2 ?k3 ?k4 ?k5 ?kA ?kF ?kK ?kd ?ku ?x1 ?x2 ?y1 ?y2 ?hp ?hp2 ?ha ?ha2 ?_; (case k1 => k_asm); (case k2 => k_asm); (case k3 => k_asm); (case k4 => k_asm); (case k5 => k_asm); (case kA => exact rfl); (case kF => first | assumption | exact rfl); (case kK => first | assumption | exact rfl); (case x1 => k_mem); (case x2 => k_mem); (case y1 => k_mem); (case y2 => k_mem); (case hp => assumption); (case hp2 => first | assumption | omega); (case ha => first | assumption | exact mu_nn (by assumption) | exact su_nn (by assumption) | omega); (case ha2 => first | assumption | exact mu_lt (by assumption) | exact su_lt (by assumption) | omega); (case kd => k_room); (case ku => k_units); k_whole); intro x' d' h' tk' a1 a2 a3 a4 F' N' l1 l2 b1 b2; (try k_lt l1); (try k_lt2 l2); (try k_sweep); (try dsimp only); (try dsimp only [PySem.W.CmpBack])))

local macro_rules | `(tactic| walk_at "binaryOp Sub") => `(tactic| (k_here; (with_reducible show wpAny _ _ (binaryOp Operator.Sub (Value.ref _) (Value.ref _)) _ _ _); k_dflt (refine' c_sub_o ?k1 ?k2 ?k3 ?k4 ?k5 ?kA ?kF ?kK ?kd ?ku ?x1 ?x2 ?y1 ?y2 ?hp ?_; (case k1 => k_asm); (case k2 => k_asm); (case k3 => k_asm); (case k4 => k_asm); (case k5 => k_asm); (case kA => exact rfl); (case kF => first | assumption | exact rfl); (case kK => first | assumption | exact rfl); (case x1 => k_mem); (case x2 => k_mem); (case y1 => k_mem); (case y2 => k_mem); (case hp => assumption); (case kd => k_room); (case ku => k_units); k_whole); intro x' d' h' tk' a1 a2 a3 a4 F' N' l1 l2 b1 b2; (try k_lt l1); (try k_lt2 l2); (try k_sweep); (try dsimp only); (try dsimp only [PySem.W.CmpBack])))

local macro_rules | `(tactic| walk_at "binaryOp Mult int ref") => `(tactic| (k_here; (with_reducible show wpAny _ _ (binaryOp Operator.Mult (Value.int _ _) (Value.ref _)) _ _ _); k_dflt (refine' c_rmul_o ?k1 ?k2 ?k3 ?k4 ?k5 ?kA ?kF ?kK ?kd ?ku ?x1 ?x2 ?hp ?hp2 ?ha ?ha2 ?_; (case k1 => k_asm); (case k2 => k_asm); (case k3 => k_asm); (case k4 => k_asm); (case k5 => k_asm); (case kA => exact rfl); (case kF => first | assumption | exact rfl); (case kK => first | assumption | exact rfl); (case x1 => k_mem); (case x2 => k_mem); (case hp => assumption); (case hp2 => first | assumption | omega); (case ha => first | assumption | exact mu_nn (by assumption) | exact su_nn (by assumption) | omega); (case ha2 => first | assumption | exact mu_lt (by assumption) | exact su_lt (by assumption) | omega); (case kd => k_room); (case ku => k_units); k_whole); intro x' d' h' tk' a1 a2 a3 a4 F' N' l1 l2 b1 b2; (try k_lt l1); (try k_lt2 l2); (try k_sweep); (try dsimp only); (try dsimp only [PySem.W.CmpBack])))

local macro_rules | `(tactic| walk_at "compareOp Eq ref") => `(tactic| (k_here; (with_reducible show wpAny _ _ (compareOp CmpOp.Eq (Value.ref _) (Value.ref _)) _ _ _); k_dflt (refine' c_eq_o ?k1 ?k2 ?k3 ?k4 ?k5 ?kA ?kF ?kK ?kd ?ku ?x1 ?x2 ?y1 ?y2 ?_; (case k1 => k_asm); (case k2 => k_asm); (case k3 => k_asm); (case k4 => k_asm); (case k5 => k_asm); (case kA => exact rfl); (case kF => first | assumption | exact rfl); (case kK => first | assumption | exact rfl); (case x1 => k_mem); (case x2 => k_mem); (case y1 => k_mem); (case y2 => k_mem); (case kd => k_room); (case ku => k_units); k_whole); intro t' h' tk' F' N'; (try k_sweep); (try dsimp only); (try dsimp only [PySem.W.CmpBack])))

local macro_rules | `(tactic| walk_at "call ref") => `(tactic| (k_here; (with_reducible show wpAny _ _ (call (Value.ref 358) _) _ _ _); k_dflt (refine' c_one_o ?k1 ?k2 ?k3 ?k4 ?k5 ?kA ?kF ?kK ?kd ?ku ?x1 ?x2 ?hp ?_; (case k1 => k_asm); (case k2 => k_asm); (case k3 => k_asm); (case k4 => k_asm); (case k5 => k_asm); (case kA => exact rfl); (case kF => first | assumption | exact rfl); (case kK => first | assumption | exact rfl); (case x1 => k_mem); (case x2 => k_mem); (case hp => assumption); (case kd => k_room); (case ku => k_units); k_whole); intro x' d' h' tk' a1 a2 a3 a4 F' N' l1 l2 b1 b2; (try k_lt l1); (try k_lt2 l2); (try k_sweep); (try dsimp only); (try dsimp only [PySem.W.CmpBack])))

local macro_rules | `(tactic| walk_at "call ref") => `(tactic| (k_here; (with_reducible show wpAny _ _ (call (Value.ref 365) _) _ _ _); k_dflt (refine' c_zero_z ?k1 ?k2 ?k3 ?k4 ?k5 ?kA ?kF ?kK ?kd ?ku ?x1 ?x2 ?hp ?_; (case k1 => k_asm); (case k2 => k_asm); (case k3 => k_asm); (case k4 => k_asm); (case k5 => k_asm); (case kA => exact rfl); (case kF => first | assumption | exact rfl); (case kK => first | assumption | exact rfl); (case x1 => k_mem); (case x2 => k_mem); (case hp => assumption); (case kd => k_room); (case ku => k_units); k_whole); intro x' d' h' tk' a1 a2 a3 a4 F' N' l1 l2 b1 b2; (try k_lt l1); (try k_lt2 l2); (try k_sweep); (try dsimp only); (try dsimp only [PySem.W.CmpBack])))

local macro_rules | `(tactic| walk_at "call ref") => `(tactic| (k_here; (with_reducible show wpAny _ _ (call (Value.ref 368) [Value.int _ _, Value.int _ _]) _ _ _); k_dflt (refine' c_new_o ?k1 ?k2 ?k3 ?k4 ?k5 ?kA ?kF ?kK ?kd ?ku ?kp ?_; (case k1 => k_asm); (case k2 => k_asm); (case k3 => k_asm); (case k4 => k_asm); (case k5 => k_asm); (case kA => exact rfl); (case kF => first | assumption | exact rfl); (case kK => first | assumption | exact rfl); (case kp => assumption); (case kd => k_room); (case ku => k_units); k_whole); intro x' d' h' tk' a1 a2 a3 a4 F' N' l1 l2 b1 b2; (try k_lt l1); (try k_lt2 l2); (try k_sweep); (try dsimp only); (try dsimp only [PySem.W.CmpBack])))

local macro_rules | `(tactic| walk_at "call ref") => `(tactic| (k_here; (with_reducible show wpAny _ _ (call (Value.ref 42) [Value.ref _]) _ _ _); k_dflt (refine' c_double ?k1 ?k2 ?k3 ?k4 ?k5 ?kH ?kA ?kF ?kK ?kd ?ku ?hP ?hp ?hp2 ?hok ?_; (case k1 => k_asm); (case k2 => k_asm); (case k3 => k_asm); (case k4 => k_asm); (case k5 => k_asm); (case kH => exact rfl); (case kA => exact rfl); (case kF => first | assumption | exact rfl); (case kK => first | assumption | exact rfl); (case hP => first | assumption | exact PtIn.mono (by assumption) (by kcf_all)); (case hp => assumption); (case hp2 => first | assumption | omega); (case hok => assumption); (case kd => k_room); (case ku => k_units); k_whole); intro t' h' tk' nw' F' N' hP' hok'; (try k_sweep); (try dsimp only); (try dsimp only [PySem.W.CmpBack])))

local macro_rules | `(tactic| walk_at "call ref") => `(tactic| (k_here; (with_reducible show wpAny _ _ (call (Value.ref 49) [Value.ref _, Value.ref _]) _ _ _); k_dflt (refine' c_add ?k1 ?k2 ?k3 ?k4 ?k5 ?kH ?kA ?kF ?kK ?kd ?ku ?hP ?hP2 ?hp ?hp2 ?hok ?hok2 ?_; (case k1 => k_asm); (case k2 => k_asm); (case k3 => k_asm); (case k4 => k_asm); (case k5 => k_asm); (case kH => exact rfl); (case kA => exact rfl); (case kF => first | assumption | exact rfl); (case kK => first | assumption | exact rfl); (case hP => first | assumption | exact PtIn.mono (by assumption) (by kcf_all)); (case hP2 => first | assumption | exact PtIn.mono (by assumption) (by kcf_all)); (case hp => assumption); (case hp2 => first | assumption | omega); (case hok => assumption); (case hok2 => assumption); (case kd => k_room); (case ku => k_units); k_whole); intro t' h' tk' nw' F' N' hP' hok'; (try k_sweep); (try dsimp only); (try dsimp only [PySem.W.CmpBack])))

def MulClaim (w : World) (k : Nat) : Prop :=
  ∀ {A A₀ : Around} {env : Env} {outer : List Env} {base h₀ : Heap} {L : Addr} {m mg mb : Str → Option Value} {loose : List Str} {mean : ExcName → Option Value} {news : List (Addr × Obj)} {s : Shared} {Q E : Value → Shared → Prop}
  {t : Addr} {p n : Int} {P : Pt} {tn : Tok}
  (_ : Below A₀ base outer h₀) (_ : Fr h₀ L s.heap m) (_ : (Mine.hd.heap_39 w.params).In h₀) (_ : News h₀ L s.heap news) (_ : Top Mine.hd.view_39 loose mean mg mb h₀)
  (_ : A.handled = none) (_ : A.frames = some (env :: outer)) (_ : env.frame = some L) (_ : env.scope.kind = .function) (_ : A.depth + 20 * k + 20 < recursionLimit) (_ : A.units + 200 * k + 200 < cLine)
  (_ : PtIn w news t p P) (_ : 0 < p) (_ : p < 100) (_ : PtOk p P) (_ : 1 ≤ n) (_ : n < bnd k)
  (_ : PtRet w h₀ L m news s Q p (mulF p k P n)),
  wpAny (model PySem.Challenge.rw_bw0039_01.row.prog w) A (call (.ref 56) [.ref t, .int n tn]) Q E s
theorem c_mulp_use {k : Nat} {t : Addr} {p n : Int} {P : Pt} {tn : Tok}
  (B : Below A₀ base outer h₀) (F : Fr h₀ L s.heap m) (X : (Mine.hd.heap_39 w.params).In h₀) (N : News h₀ L s.heap news) (T : Top Mine.hd.view_39 loose mean mg mb h₀)
  (hh : A.handled = none) (hA : A.frames = some (env :: outer)) (hf : env.frame = some L) (hk : env.scope.kind = .function) (hd : A.depth + 20 * k + 20 < recursionLimit) (hu : A.units + 200 * k + 200 < cLine)
  (hI : MulClaim w k) (hP : PtIn w news t p P) (hp : 0 < p) (hp2 : p < 100) (hok : PtOk p P) (hn : 1 ≤ n) (hn2 : n < bnd k)
  (hret : PtRet w h₀ L m news s Q p (mulF p k P n)) :
  wpAny (model PySem.Challenge.rw_bw0039_01.row.prog w) A (call (.ref 56) [.ref t, .int n tn]) Q E s := hI B F X N T hh hA hf hk hd hu hP hp hp2 hok hn hn2 hret

local macro_rules | `(tactic| walk_at "call ref") => `(tactic| (k_here; (with_reducible show wpAny _ _ (call (Value.ref 56) [Value.ref _, Value.int _ _]) _ _ _); k_dflt (refine' c_mulp_use ?k1 ?k2 ?k3 ?k4 ?k5 ?kH ?kA ?kF ?kK ?kd ?ku ?hI ?hP ?hp ?hp2 ?hok ?hn ?hn2 ?_; (case k1 => k_asm); (case k2 => k_asm); (case k3 => k_asm); (case k4 => k_asm); (case k5 => k_asm); (case kH => exact rfl); (case kA => exact rfl); (case kF => first | assumption | exact rfl); (case kK => first | assumption | exact rfl); (case hI => assumption); (case hP => first | assumption | exact PtIn.mono (by assumption) (by kcf_all)); (case hp => assumption); (case hp2 => first | assumption | omega); (case hok => assumption); (case hn => first | assumption | omega); (case hn2 => first | assumption | omega); (case kd => k_room); (case ku => k_units); k_whole); intro t' h' tk' nw' F' N' hP' hok'; (try k_sweep); (try dsimp only); (try dsimp only [PySem.W.CmpBack])))

theorem c_mulp_step {k : Nat} (hI : MulClaim w k) : MulClaim w (k + 1) := by
  intro A A₀ env outer base h₀ L m mg mb loose mean news s Q E t p n P tn B F X N T hh hA hf hk hd hu hP hp hp2 hok hn hn2 hret
  revert X; k_fill; intro X
  obtain ⟨hdl, dp, fr, gd, un⟩ := A
  subst hA
  dsimp only at hh
  subst hh
  dsimp only at hd hu
  simp only [bnd] at hn2
  have hfd : n.fdiv 2 = n / 2 := fd1 (by omega)
  have hfm : n.fmod 2 = n % 2 := fm1 (by omega)
  have hres := mulF_ok hp (k + 1) (n := n) hok
  have hdok := dblZ_ok hp P
  have z0 : (n == 0) = false := by simpa using (show n ≠ 0 by omega)
  refine wpAny_call ?_
  k_dflt k_enter
  by_cases q1 : n = 1
  · have z1 : (n == 1) = true := by simpa using q1
    have e9 : mulF p (k + 1) P n = P := by simp [mulF, q1]
    rw [e9] at hret hres
    k_steps
    (refine' PtRet.any hret ?f1 ?g1 ?s1 ?h1 hres; (case f1 => k_asm); (case h1 => first | assumption | exact PtIn.mono (by assumption) (by kcf_all)); (case g1 => k_asm); (case s1 => kcf_all))
  have z1 : (n == 1) = false := by simpa using q1
  by_cases q2 : n % 2 = 0
  · have z2 : (n.fmod 2 == 0) = true := by rw [hfm, q2]; rfl
    have e9 : mulF p (k + 1) P n = mulF p k (dblZ p P) (n.fdiv 2) := by rw [hfd]; simp [mulF, q1, q2]
    rw [e9] at hret hres
    k_steps
    all_goals first | (exfalso; omega) | (refine' PtRet.any hret ?f2 ?g2 ?s2 ?h2 hres; (case f2 => k_asm); (case h2 => first | assumption | exact PtIn.mono (by assumption) (by kcf_all)); (case g2 => k_asm); (case s2 => kcf_all))
  · have z2 : (n.fmod 2 == 0) = false := by rw [hfm]; simpa using q2
    have e9 : mulF p (k + 1) P n = addZ p (mulF p k (dblZ p P) (n.fdiv 2)) P := by rw [hfd]; simp [mulF, q1, q2]
    rw [e9] at hret hres
    k_steps
    all_goals first | (exfalso; omega) | (refine' PtRet.any hret ?f3 ?g3 ?s3 ?h3 hres; (case f3 => k_asm); (case h3 => first | assumption | exact PtIn.mono (by assumption) (by kcf_all)); (case g3 => k_asm); (case s3 => kcf_all))

theorem c_mulp (k : Nat) : MulClaim w k := by
  induction k with
  | zero =>
    intro A A₀ env outer base h₀ L m mg mb loose mean news s Q E t p n P tn B F X N T hh hA hf hk hd hu hP hp hp2 hok hn hn2 hret
    simp only [bnd] at hn2
    omega
  | succ k ih => exact c_mulp_step ih
theorem c_isinf {t : Addr} {p : Int} {P : Pt}
  (B : Below A₀ base outer h₀) (F : Fr h₀ L s.heap m) (X : (Mine.hd.heap_39 w.params).In h₀) (N : News h₀ L s.heap news) (T : Top Mine.hd.view_39 loose mean mg mb h₀)
  (hh : A.handled = none) (hA : A.frames = some (env :: outer)) (hf : env.frame = some L) (hk : env.scope.kind = .function) (hd : A.depth + 10 < recursionLimit) (hu : A.units + 100 < cLine)
  (hP : PtIn w news t p P) (hp : 0 < p)
  (hret : PlRet h₀ L m news s Q (fun _ => .bool (P.2.2 == 0))) :
  wpAny (model PySem.Challenge.rw_bw0039_01.row.prog w) A (call (.ref 28) [.ref t]) Q E s := by
  revert X; k_fill; intro X
  obtain ⟨hdl, dp, fr, gd, un⟩ := A
  subst hA
  dsimp only at hh
  subst hh
  dsimp only at hd hu
  obtain ⟨X0, Y0, Z0⟩ := P
  obtain ⟨x, dx, y, dy, z, dz, k1, t1, k2, t2, k3, t3, k4, t4, k5, t5, k6, t6, a0, a1, a2, a3, a4, a5, a6⟩ := hP
  dsimp only at a2 a4 a6 hret
  have N1 := PtIn.write N a0 a1 a2 a3 a4 a5 a6
  clear N
  k_steps
  exact hret 0 _ _ (by k_asm) (cb_drop (by assumption) (by kcf_all))

end
end Mine

theorem Mine.calmC6 : True ∧ True := by
  w_top off
  first | (walk1; fail "no") | exact ⟨trivial, trivial⟩

namespace Mine
open PySem PySem.W PyProof.Rows PySem.Calls Builtin
set_option maxHeartbeats 8000000

local macro_rules | `(tactic| k_room) => `(tactic| ((try simp only [depth_under_make, depth_under_kw, depth_in1, depth_deeper, depth_caller]); (simp only [recursionLimit] at *); omega))
local macro_rules | `(tactic| k_units) => `(tactic| ((have hcL9 := cLine_is); (try simp only [units_in1, units_deeper, Around.mark_units, units_caller] at *); omega))
local macro_rules | `(tactic| k_enter) => `(tactic| (refine' code_def ?k1 ?k2 ?k3 ?k4 ?k5 ?kA ?kF ?kK ?k6 ?k7 ?k8 ?k9 ?kB ?_ ?c2 ?c3 ?c4 ?c5; (case kA => exact rfl); (case kF => first | assumption | exact rfl); (case kK => first | assumption | exact rfl); (case k1 => k_asm); (case k2 => k_asm); (case k3 => k_asm); (case k4 => k_asm); (case k5 => k_asm); (case k6 => k_is); (case k7 => k_is); (case k8 => k_room); (case k9 => first | exact BindsTo.of_eq rfl | exact binds_K (by k_in) rfl (by k_is) rfl rfl rfl | fail "k_enter: no rule for these arguments"); (case c5 => decide); (case kB => exact locs rfl); (case c2 => exact rfl); (case c3 => exact rfl); (case c4 => exact rfl); k_whole; intro g' L' h' FG' F' N' B' X' T'; (try dsimp only); (try k_lift B'); (try k_fold)))
local macro_rules | `(tactic| k_mem) => `(tactic| first | with_reducible assumption | exact List.mem_cons_self | (refine List.mem_cons_of_mem _ ?_; k_mem) | (refine List.mem_append_right _ ?_; k_mem))
local macro_rules | `(tactic| walk_at "ite") => `(tactic| first | (refine ite_pos (by with_reducible assumption) ?_) | (refine ite_neg (by with_reducible assumption) ?_) | (refine ite_isFalse (by with_reducible assumption) ?_))

def onZ (p : Int) (P : Pt) (b : Int) : Bool := su p (mu p (powF p 3 P.2.1 2) P.2.2) (powF p 3 P.1 3) == mu p b (powF p 3 P.2.2 3)

local macro_rules | `(tactic| walk_at "subscriptTail") => `(tactic| (k_here; (with_reducible show wpAny _ _ (subscriptTail _ _ (Value.ref _) (Value.int _ _)) _ _ _); k_dflt (refine' tup_item ?N ?m ?a ?b ?c ?d ?_ ?e; (case N => k_asm); (case m => k_mem); (case a => decide); (case b => decide); (case c => rfl); (case d => rfl); (case e => with_unfolding_all rfl); k_whole)))
local macro_rules | `(tactic| walk_at "subscriptTail Name Constant ref int") => `(tactic| (k_here; (with_reducible show wpAny _ _ (subscriptTail _ _ (Value.ref _) (Value.int _ _)) _ _ _); k_dflt (refine' tup_item ?N ?m ?a ?b ?c ?d ?_ ?e; (case N => k_asm); (case m => k_mem); (case a => decide); (case b => decide); (case c => rfl); (case d => rfl); (case e => with_unfolding_all rfl); k_whole)))
local macro_rules | `(tactic| walk_at "subscriptTail Name UnaryOp ref int") => `(tactic| (k_here; (with_reducible show wpAny _ _ (subscriptTail _ _ (Value.ref _) (Value.int _ _)) _ _ _); k_dflt (refine' tup_item ?N ?m ?a ?b ?c ?d ?_ ?e; (case N => k_asm); (case m => k_mem); (case a => decide); (case b => decide); (case c => rfl); (case d => rfl); (case e => with_unfolding_all rfl); k_whole)))

section
variable {w : World} {A A₀ : Around} {env : Env} {outer : List Env} {base h₀ : Heap} {L : Addr} {m mg mb : Str → Option Value} {loose : List Str} {mean : ExcName → Option Value} {news : List (Addr × Obj)} {s : Shared} {Q E : Value → Shared → Prop}

local macro_rules | `(tactic| walk_at "binaryOp Mult") => `(tactic| (k_here; (with_reducible show wpAny _ _ (binaryOp Operator.Mult (Value.ref _) (Value.ref _)) _ _ _); k_dflt (refine' c_mul_o ?k1 ?k2 ?k3 ?k4 ?k5 ?kA ?kF ?kK ?kd ?ku ?x1 ?x2 ?y1 ?y2 ?hp ?hp2 ?ha ?ha2 ?_; (case k1 => k_asm); (case k2 => k_asm); (case k3 => k_asm); (case k4 => k_asm); (case k5 => k_asm); (case kA => exact rfl); (case kF => first | assumption | exact rfl); (case kK => first | assumption | exact rfl); (case x1 => k_mem); (case x2 => k_mem); (case y1 => k_mem); (case y2 => k_mem); (case hp => assumption); (case hp2 => first | assumption | omega); (case ha => first | assumption | exact mu_nn (by assumption) | exact su_nn (by assumption) | omega); (case ha2 => first | assumption | exact mu_lt (by assumption) | exact su_lt (by assumption) | omega); (case kd => k_room); (case ku => k_units); k_whole); intro x' d' h' tk' a1 a2 a3 a4 F' N' l1 l2 b1 b2; (try k_lt l1); (try k_lt2 l2); (try k_sweep); (try dsimp only); (try dsimp only [PySem.W.CmpBack])))

local macro_rules | `(tactic| walk_at "binaryOp Sub") => `(tactic| (k_here; (with_reducible show wpAny _ _ (binaryOp Operator.Sub (Value.ref _) (Value.ref _)) _ _ _); k_dflt (refine' c_sub_o ?k1 ?k2 ?k3 ?k4 ?k5 ?kA ?kF ?kK ?kd ?ku ?x1 ?x2 ?y1 ?y2 ?hp ?_; (case k1 => k_asm); (case k2 => k_asm); (case k3 => k_asm); (case k4 => k_asm); (case k5 => k_asm); (case kA => exact rfl); (case kF => first | assumption | exact rfl); (case kK => first | assumption | exact rfl); (case x1 => k_mem); (case x2 => k_mem); (case y1 => k_mem); (case y2 => k_mem); (case hp => assumption); (case kd => k_room); (case ku => k_units); k_whole); intro x' d' h' tk' a1 a2 a3 a4 F' N' l1 l2 b1 b2; (try k_lt l1); (try k_lt2 l2); (try k_sweep); (try dsimp only); (try dsimp only [PySem.W.CmpBack])))

local macro_rules | `(tactic| walk_at "binaryOp Mult int ref") => `(tactic| (k_here; (with_reducible show wpAny _ _ (binaryOp Operator.Mult (Value.int _ _) (Value.ref _)) _ _ _); k_dflt (refine' c_rmul_o ?k1 ?k2 ?k3 ?k4 ?k5 ?kA ?kF ?kK ?kd ?ku ?x1 ?x2 ?hp ?hp2 ?ha ?ha2 ?_; (case k1 => k_asm); (case k2 => k_asm); (case k3 => k_asm); (case k4 => k_asm); (case k5 => k_asm); (case kA => exact rfl); (case kF => first | assumption | exact rfl); (case kK => first | assumption | exact rfl); (case x1 => k_mem); (case x2 => k_mem); (case hp => assumption); (case hp2 => first | assumption | omega); (case ha => first | assumption | exact mu_nn (by assumption) | exact su_nn (by assumption) | omega); (case ha2 => first | assumption | exact mu_lt (by assumption) | exact su_lt (by assumption) | omega); (case kd => k_room); (case ku => k_units); k_whole); intro x' d' h' tk' a1 a2 a3 a4 F' N' l1 l2 b1 b2; (try k_lt l1); (try k_lt2 l2); (try k_sweep); (try dsimp only); (try dsimp only [PySem.W.CmpBack])))

local macro_rules | `(tactic| walk_at "compareOp Eq ref") => `(tactic| (k_here; (with_reducible show wpAny _ _ (compareOp CmpOp.Eq (Value.ref _) (Value.ref _)) _ _ _); k_dflt (refine' c_eq_o ?k1 ?k2 ?k3 ?k4 ?k5 ?kA ?kF ?kK ?kd ?ku ?x1 ?x2 ?y1 ?y2 ?_; (case k1 => k_asm); (case k2 => k_asm); (case k3 => k_asm); (case k4 => k_asm); (case k5 => k_asm); (case kA => exact rfl); (case kF => first | assumption | exact rfl); (case kK => first | assumption | exact rfl); (case x1 => k_mem); (case x2 => k_mem); (case y1 => k_mem); (case y2 => k_mem); (case kd => k_room); (case ku => k_units); k_whole); intro t' h' tk' F' N'; (try k_sweep); (try dsimp only); (try dsimp only [PySem.W.CmpBack])))

local macro_rules | `(tactic| walk_at "call ref") => `(tactic| (k_here; (with_reducible show wpAny _ _ (call (Value.ref 294) [Value.ref _, Value.int _ _]) _ _ _); k_dflt (refine' c_pow_use_o ?k1 ?k2 ?k3 ?k4 ?k5 ?kA ?kF ?kK ?kd ?ku ?hI ?x1 ?x2 ?hp ?hp2 ?ha ?ha2 ?hn ?hn2 ?_; (case k1 => k_asm); (case k2 => k_asm); (case k3 => k_asm); (case k4 => k_asm); (case k5 => k_asm); (case kA => exact rfl); (case kF => first | assumption | exact rfl); (case kK => first | assumption | exact rfl); (case hI => assumption); (case x1 => k_mem); (case x2 => k_mem); (case hp => assumption); (case hp2 => first | assumption | omega); (case ha => first | assumption | omega); (case ha2 => first | assumption | omega); (case hn => first | assumption | omega); (case hn2 => first | assumption | omega); (case kd => k_room); (case ku => k_units); k_whole); intro x' d' h' tk' a1 a2 a3 a4 F' N' l1 l2 b1 b2; (try k_lt l1); (try k_lt2 l2); (try k_sweep); (try dsimp only); (try dsimp only [PySem.W.CmpBack])))

local macro_rules | `(tactic| walk_at "call ref") => `(tactic| (k_here; (with_reducible show wpAny _ _ (call (Value.ref 28) [Value.ref _]) _ _ _); k_dflt (refine' c_isinf ?k1 ?k2 ?k3 ?k4 ?k5 ?kH ?kA ?kF ?kK ?kd ?ku ?hP ?hp ?_; (case k1 => k_asm); (case k2 => k_asm); (case k3 => k_asm); (case k4 => k_asm); (case k5 => k_asm); (case kH => exact rfl); (case kA => exact rfl); (case kF => first | assumption | exact rfl); (case kK => first | assumption | exact rfl); (case hP => first | assumption | exact PtIn.mono (by assumption) (by kcf_all)); (case hp => assumption); (case kd => k_room); (case ku => k_units); k_whole); intro t' h' tk' F' N'; (try k_sweep); (try dsimp only)))

theorem c_oncurve {t x9 dx9 : Addr} {p b9 : Int} {P : Pt} {k19 t19 k29 t29 : Tok}
  (B : Below A₀ base outer h₀) (F : Fr h₀ L s.heap m) (X : (Mine.hd.heap_39 w.params).In h₀) (N : News h₀ L s.heap news) (T : Top Mine.hd.view_39 loose mean mg mb h₀)
  (hh : A.handled = none) (hA : A.frames = some (env :: outer)) (hf : env.frame = some L) (hk : env.scope.kind = .function) (hd : A.depth + 50 < recursionLimit) (hu : A.units + 400 < cLine)
  (hP : PtIn w news t p P) (x1 : (x9, instObj 368 dx9) ∈ news) (x2 : (dx9, fqD w p b9 k19 t19 k29 t29) ∈ news) (hp : 0 < p) (hp2 : p < 100) (hok : PtOk p P) (hb9 : 0 ≤ b9) (hb92 : b9 < p) (hz : P.2.2 ≠ 0)
  (hret : PlRet h₀ L m news s Q (fun _ => .bool (onZ p P b9))) :
  wpAny (model PySem.Challenge.rw_bw0039_01.row.prog w) A (call (.ref 35) [.ref t, .ref x9]) Q E s := by
  revert X; k_fill; intro X
  obtain ⟨hdl, dp, fr, gd, un⟩ := A
  subst hA
  dsimp only at hh
  subst hh
  dsimp only at hd hu
  have hPs := hP
  obtain ⟨X0, Y0, Z0⟩ := P
  obtain ⟨x, dx, y, dy, z, dz, k1, t1, k2, t2, k3, t3, k4, t4, k5, t5, k6, t6, a0, a1, a2, a3, a4, a5, a6⟩ := hP
  obtain ⟨⟨o1, o2⟩, ⟨o3, o4⟩, o5, o6⟩ := hok
  dsimp only at a2 a4 a6 hret hz o1 o2 o3 o4 o5 o6
  have z0 : (Z0 == 0) = false := by simpa using hz
  have hI3 : PowClaim_o w 3 := c_pow_o 3
  have hb2 : (2 : Int) < bnd 3 := by decide
  have hb3 : (3 : Int) < bnd 3 := by decide
  have hn0 : (0 : Int) ≤ 2 := by decide
  have hn3 : (0 : Int) ≤ 3 := by decide
  have N1 := PtIn.write N a0 a1 a2 a3 a4 a5 a6
  clear N
  k_steps
  exact hret 0 _ _ (by k_asm) (cb_drop (by assumption) (by kcf_all))

end
end Mine

theorem Mine.calmC7 : True ∧ True := by
  w_top off
  first | (walk1; fail "no") | exact ⟨trivial, trivial⟩

namespace Mine
open PySem PySem.W PyProof.Rows PySem.Calls Builtin
set_option maxHeartbeats 8000000

local macro_rules | `(tactic| k_room) => `(tactic| ((try simp only [depth_under_make, depth_under_kw, depth_in1, depth_deeper, depth_caller]); (simp only [recursionLimit] at *); omega))
local macro_rules | `(tactic| k_units) => `(tactic| ((have hcL9 := cLine_is); (try simp only [units_in1, units_deeper, Around.mark_units, units_caller] at *); omega))
local macro_rules | `(tactic| k_enter) => `(tactic| (refine' code_def ?k1 ?k2 ?k3 ?k4 ?k5 ?kA ?kF ?kK ?k6 ?k7 ?k8 ?k9 ?kB ?_ ?c2 ?c3 ?c4 ?c5; (case kA => exact rfl); (case kF => first | assumption | exact rfl); (case kK => first | assumption | exact rfl); (case k1 => k_asm); (case k2 => k_asm); (case k3 => k_asm); (case k4 => k_asm); (case k5 => k_asm); (case k6 => k_is); (case k7 => k_is); (case k8 => k_room); (case k9 => first | exact BindsTo.of_eq rfl | exact binds_K (by k_in) rfl (by k_is) rfl rfl rfl | fail "k_enter: no rule for these arguments"); (case c5 => decide); (case kB => exact locs rfl); (case c2 => exact rfl); (case c3 => exact rfl); (case c4 => exact rfl); k_whole; intro g' L' h' FG' F' N' B' X' T'; (try dsimp only); (try k_lift B'); (try k_fold)))
local macro_rules | `(tactic| k_mem) => `(tactic| first | with_reducible assumption | exact List.mem_cons_self | (refine List.mem_cons_of_mem _ ?_; k_mem) | (refine List.mem_append_right _ ?_; k_mem))
local macro_rules | `(tactic| walk_at "ite") => `(tactic| first | (refine ite_pos (by with_reducible assumption) ?_) | (refine ite_neg (by with_reducible assumption) ?_) | (refine ite_isFalse (by with_reducible assumption) ?_))

def markZ (p : Int) (a : Int) : Int := let f := powF p 6 (a % p) ((p - 1) / 2); if f = p - 1 then -1 else f

section
variable {w : World} {A A₀ : Around} {env : Env} {outer : List Env} {base h₀ : Heap} {L : Addr} {m mg mb : Str → Option Value} {loose : List Str} {mean : ExcName → Option Value} {news : List (Addr × Obj)} {s : Shared} {Q E : Value → Shared → Prop}

theorem c_at {l : Addr} {vs : List Value} {ns : List Int} {k : Int} {tk : Tok}
  (B : Below A₀ base outer h₀) (F : Fr h₀ L s.heap m) (X : (Mine.hd.heap_39 w.params).In h₀) (N : News h₀ L s.heap news) (T : Top Mine.hd.view_39 loose mean mg mb h₀)
  (hh : A.handled = none) (hA : A.frames = some (env :: outer)) (hf : env.frame = some L) (hk : env.scope.kind = .function) (hd : A.depth + 10 < recursionLimit) (hu : A.units + 100 < cLine)
  (hl : base.IsList l vs.toArray) (hi : IntsAre vs ns) (hlen : ns.length < 2 ^ 20) (hk0 : 0 ≤ k) (hk1 : k < 100)
  (hret : ∀ v : Int, PlRet h₀ L m news s Q (fun t => .int v t)) :
  wpAny (model PySem.Challenge.rw_bw0039_01.row.prog w) A (call (.ref 386) [.ref l, .int k tk]) Q E s := by
  revert X; k_fill; intro X
  obtain ⟨hdl, dp, fr, gd, un⟩ := A
  subst hA
  dsimp only at hh
  subst hh
  dsimp only at hd hu
  k_steps
  all_goals exact hret _ _ _ _ (by k_asm) (by k_asm)

local macro_rules | `(tactic| walk_at "call ref") => `(tactic| (k_here; (with_reducible show wpAny _ _ (call (Value.ref 294) [Value.ref _, Value.int _ _]) _ _ _); k_dflt (refine' c_pow_use_o ?k1 ?k2 ?k3 ?k4 ?k5 ?kA ?kF ?kK ?kd ?ku ?hI ?x1 ?x2 ?hp ?hp2 ?ha ?ha2 ?hn ?hn2 ?_; (case k1 => k_asm); (case k2 => k_asm); (case k3 => k_asm); (case k4 => k_asm); (case k5 => k_asm); (case kA => exact rfl); (case kF => first | assumption | exact rfl); (case kK => first | assumption | exact rfl); (case hI => assumption); (case x1 => k_mem); (case x2 => k_mem); (case hp => assumption); (case hp2 => first | assumption | omega); (case ha => first | assumption | omega); (case ha2 => first | assumption | omega); (case hn => first | assumption | omega); (case hn2 => first | assumption | omega); (case kd => k_room); (case ku => k_units); k_whole); intro x' d' h' tk' a1 a2 a3 a4 F' N' l1 l2 b1 b2; (try k_lt l1); (try k_lt2 l2); (try k_sweep); (try dsimp only); (try dsimp only [PySem.W.CmpBack])))

local macro_rules | `(tactic| walk_at "call ref") => `(tactic| (k_here; (with_reducible show wpAny _ _ (call (Value.ref 140) [Value.ref _, Value.int _ _]) _ _ _); k_dflt (refine' c_pow_use_p ?k1 ?k2 ?k3 ?k4 ?k5 ?kA ?kF ?kK ?kd ?ku ?hI ?x1 ?x2 ?hp ?hp2 ?ha ?ha2 ?hn ?hn2 ?_; (case k1 => k_asm); (case k2 => k_asm); (case k3 => k_asm); (case k4 => k_asm); (case k5 => k_asm); (case kA => exact rfl); (case kF => first | assumption | exact rfl); (case kK => first | assumption | exact rfl); (case hI => assumption); (case x1 => k_mem); (case x2 => k_mem); (case hp => assumption); (case hp2 => first | assumption | omega); (case ha => first | assumption | omega); (case ha2 => first | assumption | omega); (case hn => first | assumption | omega); (case hn2 => first | assumption | omega); (case kd => k_room); (case ku => k_units); k_whole); intro x' d' h' tk' a1 a2 a3 a4 F' N' l1 l2 b1 b2; (try k_lt l1); (try k_lt2 l2); (try k_sweep); (try dsimp only); (try dsimp only [PySem.W.CmpBack])))

local macro_rules | `(tactic| walk_at "call ref") => `(tactic| (k_here; (with_reducible show wpAny _ _ (call (Value.ref 368) [Value.int _ _, Value.int _ _]) _ _ _); k_dflt (refine' c_new_o ?k1 ?k2 ?k3 ?k4 ?k5 ?kA ?kF ?kK ?kd ?ku ?kp ?_; (case k1 => k_asm); (case k2 => k_asm); (case k3 => k_asm); (case k4 => k_asm); (case k5 => k_asm); (case kA => exact rfl); (case kF => first | assumption | exact rfl); (case kK => first | assumption | exact rfl); (case kp => assumption); (case kd => k_room); (case ku => k_units); k_whole); intro x' d' h' tk' a1 a2 a3 a4 F' N' l1 l2 b1 b2; (try k_lt l1); (try k_lt2 l2); (try k_sweep); (try dsimp only); (try dsimp only [PySem.W.CmpBack])))

local macro_rules | `(tactic| walk_at "call ref") => `(tactic| (k_here; (with_reducible show wpAny _ _ (call (Value.ref 206) [Value.int _ _, Value.int _ _]) _ _ _); k_dflt (refine' c_new_p ?k1 ?k2 ?k3 ?k4 ?k5 ?kA ?kF ?kK ?kd ?ku ?kp ?_; (case k1 => k_asm); (case k2 => k_asm); (case k3 => k_asm); (case k4 => k_asm); (case k5 => k_asm); (case kA => exact rfl); (case kF => first | assumption | exact rfl); (case kK => first | assumption | exact rfl); (case kp => assumption); (case kd => k_room); (case ku => k_units); k_whole); intro x' d' h' tk' a1 a2 a3 a4 F' N' l1 l2 b1 b2; (try k_lt l1); (try k_lt2 l2); (try k_sweep); (try dsimp only); (try dsimp only [PySem.W.CmpBack])))

theorem c_mark_o {a p : Int} {ta tp tk : Tok}
  (B : Below A₀ base outer h₀) (F : Fr h₀ L s.heap m) (X : (Mine.hd.heap_39 w.params).In h₀) (N : News h₀ L s.heap news) (T : Top Mine.hd.view_39 loose mean mg mb h₀)
  (hh : A.handled = none) (hA : A.frames = some (env :: outer)) (hf : env.frame = some L) (hk : env.scope.kind = .function) (hd : A.depth + 60 < recursionLimit) (hu : A.units + 600 < cLine)
  (hp : 1 < p) (hp2 : p < 100) (hk7 : tk = tk)
  (hret : PlRet h₀ L m news s Q (fun t => .int (markZ p a) t)) :
  wpAny (model PySem.Challenge.rw_bw0039_01.row.prog w) A (call (.ref 393) [.int a ta, .int p tp, .int 1 tk]) Q E s := by
  revert X; k_fill; intro X
  obtain ⟨hdl, dp, fr, gd, un⟩ := A
  subst hA
  dsimp only at hh
  subst hh
  dsimp only at hd hu
  have hI6 : PowClaim_o w 6 := c_pow_o 6
  have hp0 : 0 < p := by omega
  have hfd : (p - 1).fdiv 2 = (p - 1) / 2 := fd1 (by omega)
  have hb2 : (p - 1).fdiv 2 < bnd 6 := by rw [hfd, show bnd 6 = 64 from by decide]; omega
  have hn0 : 0 ≤ (p - 1).fdiv 2 := by rw [hfd]; omega
  by_cases q : powF p 6 (a % p) ((p - 1).fdiv 2) = p - 1
  · have zq : (powF p 6 (a % p) ((p - 1).fdiv 2) == p - 1) = true := by simpa using q
    have e9 : markZ p a = -1 := by unfold markZ; rw [← hfd]; simp [q]
    rw [e9] at hret
    k_steps
    exact hret _ _ _ (by k_asm) (cb_drop (by assumption) (by kcf_all))
  · have zq : (powF p 6 (a % p) ((p - 1).fdiv 2) == p - 1) = false := by simpa using q
    have e9 : markZ p a = powF p 6 (a % p) ((p - 1).fdiv 2) := by unfold markZ; rw [← hfd]; simp [q]
    rw [e9] at hret
    k_steps
    exact hret _ _ _ (by k_asm) (cb_drop (by assumption) (by kcf_all))

theorem c_mark_p {a p : Int} {ta tp tk : Tok}
  (B : Below A₀ base outer h₀) (F : Fr h₀ L s.heap m) (X : (Mine.hd.heap_39 w.params).In h₀) (N : News h₀ L s.heap news) (T : Top Mine.hd.view_39 loose mean mg mb h₀)
  (hh : A.handled = none) (hA : A.frames = some (env :: outer)) (hf : env.frame = some L) (hk : env.scope.kind = .function) (hd : A.depth + 60 < recursionLimit) (hu : A.units + 600 < cLine)
  (hp : 1 < p) (hp2 : p < 100) (hk7 : tk = tk)
  (hret : PlRet h₀ L m news s Q (fun t => .int (markZ p a) t)) :
  wpAny (model PySem.Challenge.rw_bw0039_01.row.prog w) A (call (.ref 393) [.int a ta, .int p tp, .int 0 tk]) Q E s := by
  revert X; k_fill; intro X
  obtain ⟨hdl, dp, fr, gd, un⟩ := A
  subst hA
  dsimp only at hh
  subst hh
  dsimp only at hd hu
  have hI6 : PowClaim_p w 6 := c_pow_p 6
  have hp0 : 0 < p := by omega
  have hfd : (p - 1).fdiv 2 = (p - 1) / 2 := fd1 (by omega)
  have hb2 : (p - 1).fdiv 2 < bnd 6 := by rw [hfd, show bnd 6 = 64 from by decide]; omega
  have hn0 : 0 ≤ (p - 1).fdiv 2 := by rw [hfd]; omega
  by_cases q : powF p 6 (a % p) ((p - 1).fdiv 2) = p - 1
  · have zq : (powF p 6 (a % p) ((p - 1).fdiv 2) == p - 1) = true := by simpa using q
    have e9 : markZ p a = -1 := by unfold markZ; rw [← hfd]; simp [q]
    rw [e9] at hret
    k_steps
    exact hret _ _ _ (by k_asm) (cb_drop (by assumption) (by kcf_all))
  · have zq : (powF p 6 (a % p) ((p - 1).fdiv 2) == p - 1) = false := by simpa using q
    have e9 : markZ p a = powF p 6 (a % p) ((p - 1).fdiv 2) := by unfold markZ; rw [← hfd]; simp [q]
    rw [e9] at hret
    k_steps
    exact hret _ _ _ (by k_asm) (cb_drop (by assumption) (by kcf_all))

theorem c_mark {a p kind : Int} {ta tp tk : Tok}
  (B : Below A₀ base outer h₀) (F : Fr h₀ L s.heap m) (X : (Mine.hd.heap_39 w.params).In h₀) (N : News h₀ L s.heap news) (T : Top Mine.hd.view_39 loose mean mg mb h₀)
  (hh : A.handled = none) (hA : A.frames = some (env :: outer)) (hf : env.frame = some L) (hk : env.scope.kind = .function) (hd : A.depth + 60 < recursionLimit) (hu : A.units + 600 < cLine)
  (hp : 1 < p) (hp2 : p < 100) (hk7 : kind = 0 ∨ kind = 1)
  (hret : PlRet h₀ L m news s Q (fun t => .int (markZ p a) t)) :
  wpAny (model PySem.Challenge.rw_bw0039_01.row.prog w) A (call (.ref 393) [.int a ta, .int p tp, .int kind tk]) Q E s := by
  rcases hk7 with rfl | rfl
  · exact c_mark_p B F X N T hh hA hf hk hd hu hp hp2 rfl hret
  · exact c_mark_o B F X N T hh hA hf hk hd hu hp hp2 rfl hret

end
end Mine

theorem Mine.calmP1 : True ∧ True := by
  w_top off
  first | (walk1; fail "no") | exact ⟨trivial, trivial⟩

namespace Mine
open PySem PySem.W PyProof.Rows PySem.Calls Builtin
set_option maxHeartbeats 4000000
abbrev RT : Type := Int × Addr × List Value × Nat
def KV (R : List RT) : List (Int × Value) := R.map fun r => (r.1, Value.ref r.2.1)
def LL (R : List RT) : List (Addr × Obj) := R.map fun r => (r.2.1, listOf r.2.2.1.toArray r.2.2.2)
def itsOf (R : List RT) (k : Int) : List Value := match R.find? (fun r => r.1 = k) with
  | some r => r.2.2.1
  | none => []
def rootsZ (p : Int) (i : Nat) (k : Int) : List Int := (rangeKs 0 i).filter fun y => y * y % p = k
def RInv (p : Int) (i : Nat) (R : List RT) : Prop := (∀ k, IntsAre (itsOf R k) (rootsZ p i k)) ∧ R.length ≤ i ∧ ∀ r ∈ R, r.2.2.1.length ≤ i
theorem LL_append (R1 R2 : List RT) : LL (R1 ++ R2) = LL R1 ++ LL R2 := List.map_append
theorem KV_append (R1 R2 : List RT) : KV (R1 ++ R2) = KV R1 ++ KV R2 := List.map_append
theorem valueAt_KV (R : List RT) (k : Int) : valueAt (KV R) k = (R.find? fun r => r.1 = k).map fun r => Value.ref r.2.1 := by
  unfold valueAt KV
  rw [List.find?_map]
  cases h : R.find? ((fun kv : Int × Value => decide (kv.1 = k)) ∘ fun r : RT => (r.1, Value.ref r.2.1)) with
  | none => 
    have : R.find? (fun r => r.1 = k) = none := h
    rw [this]; rfl
  | some r => 
    have : R.find? (fun r => r.1 = k) = some r := h
    rw [this]; rfl
theorem rangeKs_succ (i : Nat) : rangeKs 0 (i + 1) = rangeKs 0 i ++ [(i : Int)] := by
  simp [rangeKs, List.range_succ]
theorem rootsZ_succ (p : Int) (i : Nat) (k : Int) : rootsZ p (i + 1) k = if ((i : Int) * i % p = k) then rootsZ p i k ++ [(i : Int)] else rootsZ p i k := by
  unfold rootsZ
  rw [rangeKs_succ, List.filter_append]
  by_cases h : (i : Int) * i % p = k
  · simp [h]
  · simp [h]
theorem RInv.zero (p : Int) : RInv p 0 [] := ⟨fun _ => .nil, Nat.le_refl _, fun _ h => nomatch h⟩
theorem find_mid {R1 R2 : List RT} {r : RT} {k : Int} (h1 : R1.find? (fun r => r.1 = k) = none) (hr : r.1 = k) : (R1 ++ r :: R2).find? (fun r => r.1 = k) = some r := by
  rw [List.find?_append, h1]
  simp [hr]
theorem RInv.there {p : Int} {i : Nat} {R1 R2 : List RT} {a : Addr} {its : List Value} {n : Nat} {t : Tok} (h : RInv p i (R1 ++ ((i : Int) * i % p, a, its, n) :: R2))
    (h1 : R1.find? (fun r => r.1 = (i : Int) * i % p) = none) : RInv p (i + 1) (R1 ++ ((i : Int) * i % p, a, its ++ [Value.int (i : Int) t], n + 1) :: R2) := by
  obtain ⟨h, hl, hn⟩ := h
  refine ⟨fun k => ?_, ?_, ?_⟩
  · rw [rootsZ_succ]
    have hk := h k
    by_cases e : (i : Int) * i % p = k
    · rw [if_pos e]
      subst e
      unfold itsOf at hk ⊢
      rw [find_mid h1 rfl] at hk ⊢
      exact IntsAre.append hk (.cons _ t .nil)
    · rw [if_neg e]
      unfold itsOf at hk ⊢
      rw [List.find?_append] at hk ⊢
      rw [List.find?_cons_of_neg (by simpa using e)] at hk ⊢
      exact hk
  · simp only [List.length_append, List.length_cons] at hl ⊢
    omega
  · intro r hr
    rcases List.mem_append.mp hr with hr | hr
    · exact Nat.le_succ_of_le (hn r (List.mem_append_left _ hr))
    · rcases List.mem_cons.mp hr with rfl | hr
      · have := hn _ (List.mem_append_right R1 List.mem_cons_self)
        simp only [List.length_append, List.length_singleton] at this ⊢
        omega
      · exact Nat.le_succ_of_le (hn r (List.mem_append_right _ (List.mem_cons_of_mem _ hr)))
theorem RInv.new {p : Int} {i : Nat} {R : List RT} {a : Addr} {t : Tok} {n : Nat} (h : RInv p i R) (h1 : R.find? (fun r => r.1 = (i : Int) * i % p) = none) :
    RInv p (i + 1) (R ++ [((i : Int) * i % p, a, [Value.int (i : Int) t], n)]) := by
  obtain ⟨h, hl, hn⟩ := h
  refine ⟨fun k => ?_, ?_, ?_⟩
  · rw [rootsZ_succ]
    have hk := h k
    by_cases e : (i : Int) * i % p = k
    · rw [if_pos e]
      subst e
      unfold itsOf at hk ⊢
      rw [h1] at hk
      rw [find_mid h1 rfl]
      exact IntsAre.append hk (.cons _ t .nil)
    · rw [if_neg e]
      unfold itsOf at hk ⊢
      rw [List.find?_append, List.find?_cons_of_neg (by simpa using e), List.find?_nil, Option.or_none]
      exact hk
  · simp only [List.length_append, List.length_singleton]
    omega
  · intro r hr
    rcases List.mem_append.mp hr with hr | hr
    · exact Nat.le_succ_of_le (hn r hr)
    · rw [List.mem_singleton.mp hr]
      simp
theorem mem_LL {R : List RT} {q : Addr × Obj} (h : q ∈ LL R) : ∃ r ∈ R, q = (r.2.1, listOf r.2.2.1.toArray r.2.2.2) := by
  obtain ⟨r, hr, e⟩ := List.mem_map.mp h
  exact ⟨r, hr, e.symm⟩
def Apart (D : Addr) (R : List RT) (rest : List (Addr × Obj)) : Prop := (∀ r ∈ R, r.2.1 ≠ D) ∧ (∀ q ∈ rest, q.1 ≠ D) ∧ (R.map (·.2.1)).Nodup ∧ ∀ r ∈ R, ∀ q ∈ rest, q.1 ≠ r.2.1
theorem Apart.same {D : Addr} {R1 R2 : List RT} {r r' : RT} {rest : List (Addr × Obj)} (h : Apart D (R1 ++ r :: R2) rest) (e : r'.2.1 = r.2.1) : Apart D (R1 ++ r' :: R2) rest := by
  obtain ⟨h1, h2, h3, h4⟩ := h
  refine ⟨fun x hx => ?_, h2, ?_, fun x hx q hq => ?_⟩
  · rcases List.mem_append.mp hx with hx | hx
    · exact h1 x (List.mem_append_left _ hx)
    · rcases List.mem_cons.mp hx with rfl | hx
      · rw [e]; exact h1 r (List.mem_append_right _ List.mem_cons_self)
      · exact h1 x (List.mem_append_right _ (List.mem_cons_of_mem _ hx))
  · simpa [e] using h3
  · rcases List.mem_append.mp hx with hx | hx
    · exact h4 x (List.mem_append_left _ hx) q hq
    · rcases List.mem_cons.mp hx with rfl | hx
      · rw [e]; exact h4 r (List.mem_append_right _ List.mem_cons_self) q hq
      · exact h4 x (List.mem_append_right _ (List.mem_cons_of_mem _ hx)) q hq
theorem Apart.off {D : Addr} {R1 R2 : List RT} {r : RT} {rest : List (Addr × Obj)} (h : Apart D (R1 ++ r :: R2) rest) :
    D ≠ r.2.1 ∧ (∀ q ∈ rest, q.1 ≠ r.2.1) ∧ (∀ q ∈ LL R1, q.1 ≠ r.2.1) ∧ (∀ q ∈ LL R2, q.1 ≠ r.2.1) := by
  obtain ⟨h1, h2, h3, h4⟩ := h
  have hr : r ∈ R1 ++ r :: R2 := List.mem_append_right _ List.mem_cons_self
  rw [List.map_append, List.map_cons, List.nodup_append, List.nodup_cons] at h3
  refine ⟨(h1 r hr).symm, h4 r hr, fun q hq => ?_, fun q hq => ?_⟩
  · obtain ⟨x, hx, rfl⟩ := mem_LL hq
    exact h3.2.2 _ (List.mem_map_of_mem hx) _ List.mem_cons_self
  · obtain ⟨x, hx, rfl⟩ := mem_LL hq
    intro e
    exact h3.2.1.1 (e ▸ List.mem_map_of_mem hx)
theorem Apart.snoc {D l : Addr} {R : List RT} {rest : List (Addr × Obj)} {k : Int} {its : List Value} {n : Nat} (h : Apart D R rest) (hD : l ≠ D) (hR : ∀ q ∈ LL R, q.1 ≠ l) (hr : ∀ q ∈ rest, q.1 ≠ l) : Apart D (R ++ [(k, l, its, n)]) rest := by
  obtain ⟨h1, h2, h3, h4⟩ := h
  refine ⟨fun x hx => ?_, h2, ?_, fun x hx q hq => ?_⟩
  · rcases List.mem_append.mp hx with hx | hx
    · exact h1 x hx
    · rw [List.mem_singleton.mp hx]; exact hD
  · rw [List.map_append, List.nodup_append]
    refine ⟨h3, by simp, fun a ha b hb => ?_⟩
    obtain ⟨x, hx, rfl⟩ := List.mem_map.mp ha
    simp only [List.map_cons, List.map_nil, List.mem_singleton] at hb
    subst hb
    exact hR _ (List.mem_map_of_mem (f := fun r : RT => (r.2.1, listOf r.2.2.1.toArray r.2.2.2)) hx)
  · rcases List.mem_append.mp hx with hx | hx
    · exact h4 x hx q hq
    · rw [List.mem_singleton.mp hx]; exact hr q hq
theorem stored_new {kvs : List (Int × Value)} {k : Int} {v : Value} (h : valueAt kvs k = none) : stored kvs k v = kvs ++ [(k, v)] := by
  unfold stored
  unfold valueAt at h
  have h' : kvs.find? (fun kv => decide (kv.1 = k)) = none := by simpa using h
  rw [List.find?_eq_none] at h'
  rw [if_neg]
  intro hc
  obtain ⟨x, hx, hx2⟩ := List.any_eq_true.mp hc
  exact h' x hx hx2
theorem find_split {R : List RT} {k : Int} {v : Value} (h : valueAt (KV R) k = some v) : ∃ (R1 R2 : List RT) (a : Addr) (its : List Value) (n : Nat), R = R1 ++ (k, a, its, n) :: R2 ∧ R1.find? (fun r => r.1 = k) = none ∧ v = .ref a := by
  rw [valueAt_KV] at h
  cases hf : R.find? (fun r => r.1 = k) with
  | none => rw [hf] at h; cases h
  | some r =>
    rw [hf] at h
    obtain ⟨hr, R1, R2, e, h1⟩ := List.find?_eq_some_iff_append.mp hf
    obtain ⟨k', a, its, n⟩ := r
    have hk : k' = k := by simpa using hr
    subst hk
    refine ⟨R1, R2, a, its, n, e, ?_, by cases h; rfl⟩
    rw [List.find?_eq_none]
    intro x hx hp
    have := h1 x hx
    simp only [hp] at this
    cases this
theorem find_none {R : List RT} {k : Int} (h : valueAt (KV R) k = none) : R.find? (fun r => r.1 = k) = none := by
  rw [valueAt_KV] at h
  cases hf : R.find? (fun r => r.1 = k) with
  | none => rfl
  | some r => rw [hf] at h; cases h
theorem LL_mid (R1 R2 : List RT) (k : Int) (a : Addr) (its : List Value) (n : Nat) : LL (R1 ++ (k, a, its, n) :: R2) = LL R1 ++ (a, listOf its.toArray n) :: LL R2 := by simp [LL]
theorem shapeA {h₀ h : Heap} {L : Addr} {q0 q c3 c2 c1 : Addr × Obj} {R1 R2 : List RT} {k : Int} {a : Addr} {its : List Value} {n : Nat} {rest : List (Addr × Obj)} (N : News h₀ L h (q0 :: c3 :: c2 :: c1 :: q :: (LL (R1 ++ (k, a, its, n) :: R2) ++ rest))) :
    News h₀ L h ((a, listOf its.toArray n) :: c3 :: c2 :: c1 :: q :: (LL R1 ++ (LL R2 ++ rest))) := fun p hp => N p (by
  rw [LL_mid]
  simp only [List.mem_append, List.mem_cons] at hp ⊢
  rcases hp with h | h | h | h | h | h | h | h <;> simp [h])
end Mine

theorem Mine.calmP2 : True ∧ True := by
  w_top off
  first | (walk1; fail "no") | exact ⟨trivial, trivial⟩

namespace Mine
open PySem PySem.W PyProof.Rows PySem.Calls Builtin
set_option maxHeartbeats 4000000

abbrev PRG : Program := PySem.Challenge.rw_bw0039_01.row.prog
theorem news_swap {h₀ h h' : Heap} {L D : Addr} {all all₀ : List (Addr × Obj)} {oD o' : Obj} (N : News h₀ L h all) (hm : (D, oD) ∈ all) (hs : Heap.SameBut D h h') (ho : h'.get? D = some o')
    (h0 : ∀ q ∈ all₀, q ∈ all ∧ q.1 ≠ D) : News h₀ L h' ((D, o') :: all₀) := by
  intro q hq
  rcases List.mem_cons.mp hq with rfl | hq
  · exact ⟨ho, (N _ hm).2⟩
  · obtain ⟨h1, h2⟩ := h0 q hq
    exact ⟨(hs.2 q.1 h2).trans (N q h1).1, (N q h1).2⟩
theorem setdef_int {prog : Program} {w : World} {A : Around} {E : Value → Shared → Prop} {s : Shared} {h₀ : Heap} {L D l : Addr} {m : Str → Option Value} {all : List (Addr × Obj)} {oD : Obj} {kvs : List (Int × Value)} {k : Int} {t : Tok} {Q : Value → Shared → Prop}
    (F : Fr h₀ L s.heap m) (N : News h₀ L s.heap all) (hm : (D, oD) ∈ all) (hd : oD.IsDictOf (intKind prog w) kvs) (lo : (D == sysModules) = false) (hsz : kvs.length ≤ sizeLine)
    (h1 : ∀ v, valueAt kvs k = some v → Q v { s with toks := s.toks + 1 })
    (h2 : valueAt kvs k = none → ∀ h' o', Fr h₀ L h' m → Heap.SameBut D s.heap h' → h'.get? D = some o' → o'.IsDictOf (intKind prog w) (stored kvs k (.ref l)) → Q (.ref l) { s with heap := h', toks := s.toks + 1 }) :
    wpAny (model prog w) A (call (.builtin "dict.setdefault") [.ref D, .int k t, .ref l]) Q E s := by
  have hm' := N (D, oD) hm
  have hD : s.heap.DictOf (intKind prog w) D kvs := Heap.dictOf_iff.mpr ⟨oD, hm'.1, hd⟩
  refine call_meetsIn PySem.F.slot_dict_setdefault hD.typeIs PySem.F.entry_dict_setdefault (PySem.F.args_dict_setdefault_3 _ _ _) (kt_meets_setdefault (intKind prog w) D (intKind_is prog w k t) lo (.ref l)) ⟨kvs, hD, hsz, fun v hv => h1 v hv, fun hn h' hmm hs => ?_⟩
  obtain ⟨o', ho', hd'⟩ := Heap.dictOf_iff.mp hmm
  exact h2 hn h' o' (F.change hs hm'.2.1 hm'.2.2) hs ho' hd'
theorem append_L {prog : Program} {w : World} {A : Around} {E : Value → Shared → Prop} {s : Shared} {h₀ : Heap} {L a : Addr} {m : Str → Option Value} {all : List (Addr × Obj)} {its : List Value} {n : Nat} {v : Value} {Q : Value → Shared → Prop}
    (F : Fr h₀ L s.heap m) (N : News h₀ L s.heap all) (hm : (a, listOf its.toArray n) ∈ all) (hsz : its.length ≤ sizeLine)
    (h : ∀ h', Fr h₀ L h' m → Heap.SameBut a s.heap h' → h'.get? a = some (listOf (its ++ [v]).toArray (n + 1)) → Q .none { s with heap := h' }) :
    wpAny (model prog w) A (call (.builtin "list.append") [.ref a, v]) Q E s := by
  have hm' := N _ hm
  refine append_at hm'.1 (fun h' hs ho => h h' (F.change hs hm'.2.1 hm'.2.2) hs (by rw [ho, List.push_toArray])) (by simpa using hsz)
theorem range_at {n i : Nat} {k : Int} (h : (rangeKs 0 n)[i]? = some k) : k = (i : Int) ∧ i < n := by
  have hl : i < (rangeKs 0 n).length := by
    rcases Nat.lt_or_ge i (rangeKs 0 n).length with h1 | h1
    · exact h1
    · rw [List.getElem?_eq_none h1] at h; cases h
  rw [rangeKs_length] at hl
  simp [rangeKs, hl] at h
  exact ⟨h.symm, hl⟩
theorem shape3 {h₀ h : Heap} {L : Addr} {q c3 c2 c1 : Addr × Obj} {l news own : List (Addr × Obj)} (N : News h₀ L h ((q :: (l ++ (c3 :: c2 :: c1 :: news))) ++ own)) : News h₀ L h (c3 :: c2 :: c1 :: q :: (l ++ (news ++ own))) := fun p hp => N p (by
  simp only [List.mem_append, List.mem_cons] at hp ⊢
  rcases hp with h | h | h | h | h | h | h <;> simp [h])
def RJ (w : World) (D : Addr) (rest : List (Addr × Obj)) (p : Int) (i : Nat) (nx : List (Addr × Obj)) : Prop :=
  ∃ (R : List RT) (oD : Obj), nx = (D, oD) :: (LL R ++ rest) ∧ oD.IsDictOf (intKind PRG w) (KV R) ∧ RInv p i R ∧ Apart D R rest

theorem swapA {h₀ h h' : Heap} {L a : Addr} {q c3 c2 c1 : Addr × Obj} {o o' : Obj} {l1 l2 news own : List (Addr × Obj)} (N : News h₀ L h ((a, o) :: c3 :: c2 :: c1 :: q :: (l1 ++ (l2 ++ (news ++ own)))))
    (hs : Heap.SameBut a h h') (ho : h'.get? a = some o') (hq : q.1 ≠ a) (hr : ∀ x ∈ c3 :: c2 :: c1 :: news, x.1 ≠ a) (h1 : ∀ x ∈ l1, x.1 ≠ a) (h2 : ∀ x ∈ l2, x.1 ≠ a) (h3 : ∀ x ∈ own, x.1 ≠ a) :
    News h₀ L h' ((a, o') :: c3 :: c2 :: c1 :: q :: (l1 ++ (l2 ++ (news ++ own)))) := by
  refine news_swap N List.mem_cons_self hs ho fun x hx => ⟨List.mem_cons_of_mem _ hx, ?_⟩
  simp only [List.mem_append, List.mem_cons] at hx hr
  rcases hx with rfl | rfl | rfl | rfl | h | h | h | h
  · exact hr _ (.inl rfl)
  · exact hr _ (.inr (.inl rfl))
  · exact hr _ (.inr (.inr (.inl rfl)))
  · exact hq
  · exact h1 _ h
  · exact h2 _ h
  · exact hr _ (.inr (.inr (.inr h)))
  · exact h3 _ h
theorem KV_same (R1 R2 : List RT) (k : Int) (a : Addr) (its its' : List Value) (n n' : Nat) : KV (R1 ++ (k, a, its, n) :: R2) = KV (R1 ++ (k, a, its', n') :: R2) := by simp [KV]
theorem endA {w : World} {p : Int} {i : Nat} {h₀ h5 : Heap} {L D a : Addr} {s₁ : Shared} {tk : Nat} {m' : Str → Option Value} {oD : Obj} {c3 c2 c1 : Addr × Obj} {news own : List (Addr × Obj)} {R1 R2 : List RT} {its : List Value} {n : Nat} {t : Tok}
    (F : Fr h₀ L h5 m') (N : News h₀ L h5 ((a, listOf (its ++ [Value.int (i : Int) t]).toArray (n + 1)) :: c3 :: c2 :: c1 :: (D, oD) :: (LL R1 ++ (LL R2 ++ (news ++ own)))))
    (hoff : TbOff own ((D, oD) :: (LL (R1 ++ ((i : Int) * i % p, a, its, n) :: R2) ++ (c3 :: c2 :: c1 :: news))))
    (hd : oD.IsDictOf (intKind PRG w) (KV (R1 ++ ((i : Int) * i % p, a, its, n) :: R2))) (hI : RInv p i (R1 ++ ((i : Int) * i % p, a, its, n) :: R2)) (hf : R1.find? (fun r => r.1 = (i : Int) * i % p) = none)
    (hA : Apart D (R1 ++ ((i : Int) * i % p, a, its, n) :: R2) (c3 :: c2 :: c1 :: news)) :
    TbEnd h₀ L (fun _ nx => RJ w D (c3 :: c2 :: c1 :: news) p (i + 1) nx) own s₁ { s₁ with heap := h5, toks := tk } := by
  refine ⟨h5, tk, m', _, (D, oD) :: (LL (R1 ++ ((i : Int) * i % p, a, its ++ [Value.int (i : Int) t], n + 1) :: R2) ++ (c3 :: c2 :: c1 :: news)), rfl, F, N, ?_, ?_, ?_, _, oD, rfl, ?_, hI.there hf, hA.same rfl⟩
  · intro x hx
    rw [LL_mid] at hx
    simp only [List.mem_append, List.mem_cons] at hx ⊢
    rcases hx with h | (h | h | h) | h | h | h | h <;> simp [h]
  · intro x hx
    simp only [List.mem_append, List.mem_cons]
    simp [hx]
  · intro x hx y hy
    rw [LL_mid] at hoff hy
    simp only [List.mem_append, List.mem_cons] at hy
    have ha := hoff x hx (a, listOf its.toArray n) (by simp)
    rcases hy with h | (h | h | h) | h | h | h | h
    · exact hoff x hx y (by simp [h])
    · exact hoff x hx y (by simp [h])
    · rw [h]; exact ha
    · exact hoff x hx y (by simp [h])
    · exact hoff x hx y (by simp [h])
    · exact hoff x hx y (by simp [h])
    · exact hoff x hx y (by simp [h])
    · exact hoff x hx y (by simp [h])
  · rw [KV_same R1 R2 _ a _ its _ n]; exact hd
theorem swapD {h₀ h h' : Heap} {L D : Addr} {q0 c3 c2 c1 : Addr × Obj} {oD o' : Obj} {l news own : List (Addr × Obj)} (N : News h₀ L h (q0 :: c3 :: c2 :: c1 :: (D, oD) :: (l ++ (news ++ own))))
    (hs : Heap.SameBut D h h') (ho : h'.get? D = some o') (hq : q0.1 ≠ D) (hr : ∀ x ∈ c3 :: c2 :: c1 :: news, x.1 ≠ D) (h1 : ∀ x ∈ l, x.1 ≠ D) (h3 : ∀ x ∈ own, x.1 ≠ D) :
    News h₀ L h' ((D, o') :: q0 :: c3 :: c2 :: c1 :: (l ++ (news ++ own))) := by
  refine news_swap (oD := oD) N (by simp) hs ho fun x hx => ?_
  simp only [List.mem_append, List.mem_cons] at hx hr ⊢
  refine ⟨by rcases hx with h | h | h | h | h | h | h <;> simp [h], ?_⟩
  rcases hx with rfl | rfl | rfl | rfl | h | h | h
  · exact hq
  · exact hr _ (.inl rfl)
  · exact hr _ (.inr (.inl rfl))
  · exact hr _ (.inr (.inr (.inl rfl)))
  · exact h1 _ h
  · exact hr _ (.inr (.inr (.inr h)))
  · exact h3 _ h
theorem swapL {h₀ h h' : Heap} {L a : Addr} {q c3 c2 c1 : Addr × Obj} {o o' : Obj} {l : List (Addr × Obj)} (N : News h₀ L h (q :: (a, o) :: c3 :: c2 :: c1 :: l))
    (hs : Heap.SameBut a h h') (ho : h'.get? a = some o') (hq : q.1 ≠ a) (h3 : c3.1 ≠ a) (h2 : c2.1 ≠ a) (h1 : c1.1 ≠ a) (hl : ∀ x ∈ l, x.1 ≠ a) :
    News h₀ L h' ((a, o') :: q :: c3 :: c2 :: c1 :: l) := by
  refine news_swap (oD := o) N (by simp) hs ho fun x hx => ?_
  simp only [List.mem_cons] at hx ⊢
  refine ⟨by rcases hx with h | h | h | h | h <;> simp [h], ?_⟩
  rcases hx with rfl | rfl | rfl | rfl | h
  · exact hq
  · exact h3
  · exact h2
  · exact h1
  · exact hl _ h
theorem endB {w : World} {p : Int} {i : Nat} {h₀ h5 : Heap} {L D l : Addr} {s₁ : Shared} {tk : Nat} {m' : Str → Option Value} {oD oD' : Obj} {c3 c2 c1 : Addr × Obj} {news own : List (Addr × Obj)} {R : List RT} {t : Tok} {n : Nat}
    (F : Fr h₀ L h5 m') (N : News h₀ L h5 ((l, listOf ([] ++ [Value.int (i : Int) t]).toArray n) :: (D, oD') :: c3 :: c2 :: c1 :: (LL R ++ (news ++ own))))
    (hoff : TbOff own ((D, oD) :: (LL R ++ (c3 :: c2 :: c1 :: news))))
    (hd : oD'.IsDictOf (intKind PRG w) (stored (KV R) ((i : Int) * i % p) (.ref l))) (hv : valueAt (KV R) ((i : Int) * i % p) = none) (hI : RInv p i R) (hA : Apart D R (c3 :: c2 :: c1 :: news))
    (hD : l ≠ D) (hR : ∀ q ∈ LL R, q.1 ≠ l) (hr : ∀ q ∈ c3 :: c2 :: c1 :: news, q.1 ≠ l) (ho : ∀ q ∈ own, q.1 ≠ l) :
    TbEnd h₀ L (fun _ nx => RJ w D (c3 :: c2 :: c1 :: news) p (i + 1) nx) own s₁ { s₁ with heap := h5, toks := tk } := by
  refine ⟨h5, tk, m', _, (D, oD') :: (LL (R ++ [((i : Int) * i % p, l, [Value.int (i : Int) t], n)]) ++ (c3 :: c2 :: c1 :: news)), rfl, F, N, ?_, ?_, ?_, _, oD', rfl, ?_, hI.new (find_none hv), hA.snoc hD hR hr⟩
  · intro x hx
    rw [LL_append] at hx
    simp only [LL, List.map_cons, List.map_nil, List.mem_append, List.mem_cons, List.not_mem_nil, or_false, List.nil_append] at hx ⊢
    rcases hx with h | (h | h) | h | h | h | h <;> simp [h]
  · intro x hx
    simp only [List.mem_append, List.mem_cons]
    simp [hx]
  · intro x hx y hy
    rw [LL_append] at hy
    simp only [LL, List.map_cons, List.map_nil, List.mem_append, List.mem_cons, List.not_mem_nil, or_false] at hy
    rcases hy with h | (h | h) | h | h | h | h
    · rw [h]; exact hoff x hx (D, oD) (by simp)
    · exact hoff x hx y (by simp only [List.mem_cons, List.mem_append]; exact .inr (.inl h))
    · rw [h]; exact ho x hx
    · exact hoff x hx y (by simp [h])
    · exact hoff x hx y (by simp [h])
    · exact hoff x hx y (by simp [h])
    · exact hoff x hx y (by simp [h])
  · rw [stored_new hv] at hd
    rw [KV_append]; exact hd
theorem shape4 {h₀ h : Heap} {L : Addr} {q c3 c2 c1 : Addr × Obj} {l news : List (Addr × Obj)} (N : News h₀ L h (q :: (l ++ (c3 :: c2 :: c1 :: news)))) : News h₀ L h (c3 :: c2 :: c1 :: q :: (l ++ news)) := fun p hp => N p (by
  simp only [List.mem_append, List.mem_cons] at hp ⊢
  rcases hp with h | h | h | h | h | h <;> simp [h])
end Mine

theorem Mine.calmK2 : True ∧ True := by
  w_top off
  first | (walk1; fail "no") | exact ⟨trivial, trivial⟩

namespace Mine
open PySem PySem.W PyProof.Rows PySem.Calls Builtin
set_option maxHeartbeats 4000000
abbrev two (elt t1 i1 t2 i2 : PySem.Expr) (scope : Scope) (pos : Pos) : PySem.Expr := .ListComp elt [⟨t1, i1, [], 0⟩, ⟨t2, i2, [], 0⟩] scope pos
theorem turn_outer (elt t1 i1 t2 i2 : PySem.Expr) (scope : Scope) (pos : Pos) (it acc : Value) (env : Env) :
    compTurn (two elt t1 i1 t2 i2 scope pos) 0 it acc env = (standAt i1.pos >>= fun _ => pyNext it >>= fun r => match r with
      | none => pure (.done .next)
      | some v => letOwnedTupleGo t1 it v >>= fun _ => assign t1 env v >>= fun _ => eval i2 env >>= fun x => standAt i2.pos >>= fun _ => foldedSetIterable i2 env x >>= fun x => holding [x] (pyIter x) >>= fun it2 =>
          runOwn (.compStart (two elt t1 i1 t2 i2 scope pos) 1 it2 acc env) env >>= fun _ => again (.compLoop (two elt t1 i1 t2 i2 scope pos) 0 it acc env)) := by rfl
theorem turn_inner (elt t1 i1 t2 i2 : PySem.Expr) (scope : Scope) (pos : Pos) (it acc : Value) (env : Env) :
    compTurn (two elt t1 i1 t2 i2 scope pos) 1 it acc env = (standAt i2.pos >>= fun _ => pyNext it >>= fun r => match r with
      | none => pure (.done .next)
      | some v => letOwnedTupleGo t2 it v >>= fun _ => assign t2 env v >>= fun _ => (eval elt env >>= fun x => call (.builtin "list.append") [acc, x] >>= fun _ => pure ()) >>= fun _ =>
          again (.compLoop (two elt t1 i1 t2 i2 scope pos) 1 it acc env)) := by rfl
section
variable {prog : Program} {w : World} {A : Around} {E : Value → Shared → Prop} {R : Result → Shared → Prop} {s : Shared} {elt t1 i1 t2 i2 : PySem.Expr} {scope : Scope} {pos : Pos} {it acc : Value} {env : Env}
theorem start_inner (h0 : codeAny (model prog w) A (.compLoop (two elt t1 i1 t2 i2 scope pos) 1 it acc env) R s)
    (h : wpAny (model prog w) A (pyIter it) (fun it' s' => codeAny (model prog w) A (.compLoop (two elt t1 i1 t2 i2 scope pos) 1 it' acc env) R s') (notedBy (model prog w) A env fun x s' => R (.error x) s') s) :
    codeAny (model prog w) A (.compStart (two elt t1 i1 t2 i2 scope pos) 1 it acc env) R s := by
  refine codeAny_of_tree ?_
  show wpAny _ _ ((compStart (two elt t1 i1 t2 i2 scope pos) 1 it acc env).onRaise (fun x => do noteFrame x env; standAt theWindowsPlace)) _ _ s
  refine wpAny_notedAt ?_
  unfold compStart
  show wpAny _ _ (ask >>= _) _ _ s
  refine wpAny_bind (wpAny_askSetting (wpAny_ite ?_))
  split
  · first
      | exact wpAny_bind (wpAny_pure (wpAny_pure (And.intro rfl h0)))
      | exact wpAny_pure (And.intro rfl h0)
  · refine wpAny_bind (wpAny_rule ?_)
    show wpAny _ _ (standAt i2.pos >>= _) _ _ s
    exact wpAny_bind (wpAny_standAt (wpAny_bind (wpAny_mono h (fun it' s' h' => wpAny_pure (And.intro rfl h')) fun _ _ x => x)))
theorem loop_inner (I : Nat → Shared → Prop)
    (turn : ∀ n s, I n s → wpAny (model prog w) A (pyNext it) (fun r s₁ => match r with
      | none => R (.ok .next) s₁
      | some v => wpAny (model prog w) A (assign t2 env v) (fun _ s₂ => wpAny (model prog w) A (eval elt env) (fun x s₃ =>
          wpAny (model prog w) A (call (.builtin "list.append") [acc, x]) (fun _ s₄ => ∃ m, m < n ∧ I m s₄) (notedBy (model prog w) A env fun e s' => R (.error e) s') s₃)
          (notedBy (model prog w) A env fun e s' => R (.error e) s') s₂) (notedBy (model prog w) A env fun e s' => R (.error e) s') s₁) (notedBy (model prog w) A env fun e s' => R (.error e) s') s)
    (n : Nat) (h : I n s) (ht : ∀ v, letOwnedTupleGo t2 it v = pure ()) :
    codeAny (model prog w) A (.compLoop (two elt t1 i1 t2 i2 scope pos) 1 it acc env) R s := by
  refine codeAny_loop rfl I (fun n s hI => ?_) n h
  show wpAny _ _ ((compTurn (two elt t1 i1 t2 i2 scope pos) 1 it acc env).onRaise (fun x => do noteFrame x env; theTreesLotGoes x)) _ _ s
  refine wpAny_noted ?_
  rw [turn_inner]
  refine wpAny_bind (wpAny_standAt (wpAny_bind (wpAny_mono (turn n s hI) (fun r s₁ h₁ => ?_) fun _ _ h' => h')))
  cases r with
  | none => exact wpAny_pure h₁
  | some v =>
    refine wpAny_bind (wpAny_of_eq (ht v) ?_)
    exact wpAny_bind (wpAny_mono h₁ (fun _ s₂ h₂ => wpAny_bind (wpAny_bind (wpAny_mono h₂ (fun x s₃ h₃ => wpAny_bind (wpAny_mono h₃
      (fun _ s₄ h₄ => wpAny_pure (wpAny_pure ⟨rfl, h₄⟩)) fun _ _ h' => h')) fun _ _ h' => h'))) fun _ _ h' => h')
theorem loop_outer (I : Nat → Shared → Prop)
    (turn : ∀ n s, I n s → wpAny (model prog w) A (pyNext it) (fun r s₁ => match r with
      | none => R (.ok .next) s₁
      | some v => wpAny (model prog w) A (assign t1 env v) (fun _ s₂ => wpAny (model prog w) A (eval i2 env) (fun x s₃ =>
          wpAny (model prog w) A (pyIter x) (fun it2 s₄ => codeAny (model prog w) (A.mark none) (.compStart (two elt t1 i1 t2 i2 scope pos) 1 it2 acc env) (fun r s₅ => match r with
            | .ok _ => ∃ m, m < n ∧ I m s₅
            | .error _ => False) s₄) (fun _ _ => False) s₃)
          (fun _ _ => False) s₂) (fun _ _ => False) s₁) (fun _ _ => False) s)
    (n : Nat) (h : I n s) (ht : ∀ v, letOwnedTupleGo t1 it v = pure ()) (hs : ∀ x, foldedSetIterable i2 env x = pure x) :
    codeAny (model prog w) A (.compLoop (two elt t1 i1 t2 i2 scope pos) 0 it acc env) R s := by
  refine codeAny_loop rfl I (fun n s hI => ?_) n h
  show wpAny _ _ ((compTurn (two elt t1 i1 t2 i2 scope pos) 0 it acc env).onRaise (fun x => do noteFrame x env; theTreesLotGoes x)) _ _ s
  refine wpAny_noted ?_
  rw [turn_outer]
  refine wpAny_bind (wpAny_standAt (wpAny_bind (wpAny_mono (turn n s hI) (fun r s₁ h₁ => ?_) fun _ _ h' => h'.elim)))
  cases r with
  | none => exact wpAny_pure h₁
  | some v =>
    refine wpAny_bind (wpAny_of_eq (ht v) ?_)
    refine wpAny_bind (wpAny_mono h₁ (fun _ s₂ h₂ => wpAny_bind (wpAny_mono h₂ (fun x s₃ h₃ => wpAny_bind (wpAny_standAt (wpAny_bind (wpAny_of_eq (hs x) (wpAny_bind (wpAny_holding (wpAny_mono h₃ (fun it2 s₄ h₄ => ?_) fun _ _ h' => h'.elim))))))) fun _ _ h' => h'.elim)) fun _ _ h' => h'.elim)
    refine wpAny_bind (wpAny_runOwn (codeAny_mono h₄ fun r s₅ h₅ => ?_))
    cases r with
    | ok f => exact wpAny_pure ⟨rfl, h₅⟩
    | error e => exact h₅.elim
end
end Mine

theorem Mine.calmK3 : True ∧ True := by
  w_top off
  first | (walk1; fail "no") | exact ⟨trivial, trivial⟩

namespace Mine
open PySem PySem.W PyProof.Rows PySem.Calls Builtin
set_option maxHeartbeats 4000000
abbrev PT : Type := Addr × (Int × Tok) × (Int × Tok)
def LP (P : List PT) : List (Addr × Obj) := P.map fun q => (q.1, tupO [.int q.2.1.1 q.2.1.2, .int q.2.2.1 q.2.2.2])
def RP (P : List PT) : List Value := P.map fun q => Value.ref q.1
def XY (P : List PT) : List (Int × Int) := P.map fun q => (q.2.1.1, q.2.2.1)
structure CI (h₀ : Heap) (L : Addr) (m : Str → Option Value) (news : List (Addr × Obj)) (I C D : Addr) (P : List PT) (h : Heap) : Prop where
  F : Fr h₀ L h m
  N : News h₀ L h (LP P ++ news)
  off : ∀ q ∈ LP P ++ news, q.1 ≠ I ∧ q.1 ≠ C ∧ q.1 ≠ D
  d : h.get? D = some (listOf (RP P).toArray P.length)
section
variable {h₀ h h' : Heap} {L I C D z : Addr} {m : Str → Option Value} {news : List (Addr × Obj)} {P : List PT}
theorem CI.but (x : CI h₀ L m news I C D P h) (k : ∀ b o, b ≠ z → h.get? b = some o → h'.get? b = some o) (hD : D ≠ z) (hL : L ≠ z) (h0 : h₀.get? z = none) (hz : ∀ q ∈ LP P ++ news, q.1 ≠ z) : CI h₀ L m news I C D P h' :=
  ⟨⟨x.F.ns.at' fun o e => k L o hL e, fun b o e => k b o (fun q => by rw [q, h0] at e; cases e) (x.F.keep b o e), x.F.above⟩, fun p hp => ⟨k _ _ (hz p hp) (x.N p hp).1, (x.N p hp).2⟩, x.off, k _ _ hD x.d⟩
theorem CI.keeps (x : CI h₀ L m news I C D P h) (k : ∀ b o, h.get? b = some o → h'.get? b = some o) : CI h₀ L m news I C D P h' := ⟨x.F.keeps k, x.N.grown k, x.off, k _ _ x.d⟩
theorem CI.snoc {T : Addr} {a b : Int} {t u : Tok} (x : CI h₀ L m news I C D P h) (k : ∀ b o, b ≠ D → h.get? b = some o → h'.get? b = some o) (hD0 : h₀.get? D = none) (hDL : L ≠ D) (hT : h.get? T = some (tupO [.int a t, .int b u]))
    (hTI : T ≠ I) (hTC : T ≠ C) (hTD : T ≠ D) (hTL : T ≠ L) (hT0 : h₀.get? T = none) (hd : h'.get? D = some (listOf ((RP P).toArray.push (.ref T)) (P.length + 1))) : CI h₀ L m news I C D (P ++ [(T, (a, t), (b, u))]) h' := by
  have e1 : LP (P ++ [(T, (a, t), (b, u))]) = LP P ++ [(T, tupO [.int a t, .int b u])] := by simp [LP]
  refine ⟨⟨x.F.ns.at' fun o e => k L o hDL e, fun b o e => k b o (fun q => by rw [q, hD0] at e; cases e) (x.F.keep b o e), x.F.above⟩, ?_, ?_, ?_⟩
  · rw [e1]
    intro q hq
    simp only [List.mem_append, List.mem_singleton] at hq
    rcases hq with (hq | rfl) | hq
    · have hq' := List.mem_append_left news hq
      exact ⟨k _ _ (x.off q hq').2.2 (x.N q hq').1, (x.N q hq').2⟩
    · exact ⟨k _ _ hTD hT, hTL, hT0⟩
    · have hq' := List.mem_append_right (LP P) hq
      exact ⟨k _ _ (x.off q hq').2.2 (x.N q hq').1, (x.N q hq').2⟩
  · rw [e1]
    intro q hq
    simp only [List.mem_append, List.mem_singleton] at hq
    rcases hq with (hq | rfl) | hq
    · exact x.off q (List.mem_append_left news hq)
    · exact ⟨hTI, hTC, hTD⟩
    · exact x.off q (List.mem_append_right (LP P) hq)
  · rw [hd]
    simp [RP]
end
/-- the elements of the comprehension: a pair of the two names -/
def EltOk (prog : Program) (w : World) (A : Around) (elt : PySem.Expr) (x y : Str) (cenv : Env) (s : Shared) : Prop :=
  ∀ (h : Heap) (tk : Nat) (m₂ : Str → Option Value) (k j : Int) (t u : Tok) (Q E : Value → Shared → Prop), h.Ns cenv.locals m₂ → m₂ x = some (.int k t) → m₂ y = some (.int j u) →
    (∀ T h' tk', h.objs.size ≤ T → (∀ b o, h.get? b = some o → h'.get? b = some o) → h'.get? T = some (tupO [.int k t, .int j u]) → Q (.ref T) { s with heap := h', toks := tk' }) →
    wpAny (model prog w) A (eval elt cenv) Q E { s with heap := h, toks := tk }
section
variable {prog : Program} {w : World} {A : Around} {R : Result → Shared → Prop} {s : Shared} {elt i1 i2 : PySem.Expr} {x y : Str} {px py : Pos} {scope : Scope} {cl : List (Str × Addr)} {pos : Pos} {env cenv : Env}
  {h₀ : Heap} {L I C D I2 ax : Addr} {m : Str → Option Value} {news : List (Addr × Obj)} {P : List PT}
theorem inner {its : List Value} {js : List Int} {k : Int} {t : Tok} {m₁ : Str → Option Value} {oI : Obj} (hh : A.handled = none) (hC : cenv.locals = C) (hy : cenv.kindOf y = some .local) (hp : (cenv.scope.kind == .class || (cenv.scope.kind == .module && cenv.locals != cenv.globals)) = false) (hxy : x ≠ y)
    (he : EltOk prog w A elt x y cenv s) (hi : IntsAre its js)
    (hI0 : h₀.get? I = none) (hC0 : h₀.get? C = none) (hD0 : h₀.get? D = none) (h20 : h₀.get? I2 = none) (hIL : L ≠ I) (hCL : L ≠ C) (hDL : L ≠ D) (h2L : L ≠ I2) (hIC : I ≠ C) (hID : I ≠ D) (hCD : C ≠ D) (h2I : I2 ≠ I) (h2C : I2 ≠ C) (h2D : I2 ≠ D)
    (haI : ax ≠ I) (haC : ax ≠ C) (haD : ax ≠ D) (ha2 : ax ≠ I2)
    (X : CI h₀ L m news I C D P s.heap) (X2 : ∀ q ∈ LP P ++ news, q.1 ≠ I2) (hns : s.heap.Ns C m₁) (hx : m₁ x = some (.int k t)) (hl : s.heap.IsList ax its.toArray) (hIo : s.heap.get? I = some oI) (hit : s.heap.IsListIter I2 ax 0)
    (hsz : P.length + its.length ≤ 1000000)
    (hR : ∀ P' h' tk' m₁', CI h₀ L m news I C D P' h' → XY P' = XY P ++ js.map (fun j => (k, j)) → h'.Ns C m₁' → h'.get? I = some oI → R (.ok .next) { s with heap := h', toks := tk' }) :
    codeAny (model prog w) A (.compLoop (two elt (.Name x px) i1 (.Name y py) i2 scope pos) 1 (.ref I2) (.ref D) cenv) R s := by
  have hlen : its.length = js.length := hi.length
  refine loop_inner (fun n s' => ∃ h' tk' j P' m₁', s' = { s with heap := h', toks := tk' } ∧ j ≤ its.length ∧ n = its.length + 1 - j ∧ CI h₀ L m news I C D P' h' ∧ (∀ q ∈ LP P' ++ news, q.1 ≠ I2) ∧ XY P' = XY P ++ (js.take j).map (fun j => (k, j)) ∧ P'.length = P.length + j ∧ h'.Ns C m₁' ∧ m₁' x = some (.int k t) ∧
    h'.get? I = some oI ∧ h'.IsList ax its.toArray ∧ h'.IsListIter I2 ax j) ?_ (its.length + 1) ⟨s.heap, s.toks, 0, P, m₁, rfl, Nat.zero_le _, rfl, X, X2, by simp, rfl, hns, hx, hIo, hl, hit⟩ (by intro _; rfl)
  rintro n s' ⟨h', tk', j, P', m₁', rfl, hj, rfl, X', X2', hXY, hPl, hns', hx', hIo', hl', hit'⟩
  by_cases hlt : j < its.length
  · obtain ⟨jj, u, hv, hjj⟩ := IntsAre.at hi j its[j] (by simp [hlt])
    refine wpAny_pyNext_list_item hit' hl' (x := .int jj u) (by simp [hlt, hv]) fun h1 hit1 hs1 => ?_
    have X1 : CI h₀ L m news I C D P' h1 := X'.but (fun b o hb e => hs1.extBut b o hb e) (Ne.symm h2D) h2L h20 X2'
    have hns1 : h1.Ns cenv.locals m₁' := hC ▸ hns'.at' fun o e => hs1.extBut C o (Ne.symm h2C) e
    refine wpAny_assign_Name (wpAny_storeName_local hy hns1 (fun h2 hn2 hs2 => ?_) hp)
    rw [hC] at hs2
    have X3 : CI h₀ L m news I C D P' h2 := X1.but (fun b o hb e => hs2.extBut b o hb e) (Ne.symm hCD) hCL hC0 (fun q hq => (X1.off q hq).2.1)
    have hIo2 : h2.get? I = some oI := hs2.extBut _ _ hIC (hs1.extBut _ _ (Ne.symm h2I) hIo')
    have hl2 : h2.IsList ax its.toArray := (hl'.at fun o e => hs1.extBut _ _ ha2 e).at fun o e => hs2.extBut _ _ haC e
    have hit2 : h2.IsListIter I2 ax (j + 1) := hit1.at fun o e => hs2.extBut _ _ h2C e
    refine he h2 _ _ k jj t u _ _ hn2 ?_ ?_ fun T h3 tk3 hT hk3 hT3 => ?_
    · simp only [if_neg hxy]; exact hx'
    · simp
    have X4 := X3.keeps hk3
    have ltT : ∀ b o, h2.get? b = some o → T ≠ b := fun b o e => Nat.ne_of_gt (Nat.lt_of_lt_of_le (Heap.lt_size e) hT)
    obtain ⟨oC, _, _, hoC, _⟩ := id hn2
    rw [hC] at hoC
    obtain ⟨oL, _, _, hoL, _⟩ := id X3.F.ns
    have hT0 : h₀.get? T = none := by
      cases e : h₀.get? T with
      | none => rfl
      | some o => exact absurd rfl (ltT T o (X3.F.keep _ _ e))
    refine append_at X4.d (fun h4 hs4 ho4 => ?_) (by rw [sizeLine_eq]; simp only [RP, List.size_toArray, List.length_map]; omega)
    have X5 := X4.snoc (fun b o hb e => hs4.extBut b o hb e) hD0 hDL hT3 (ltT I oI hIo2) (ltT C oC hoC) (ltT D _ X3.d) (ltT L oL hoL) hT0 ho4
    obtain ⟨o2, ho2, _⟩ := id hit2
    refine ⟨its.length + 1 - (j + 1), by omega, h4, tk3, j + 1, _, (fun z => if z = y then some (.int jj u) else m₁' z), rfl, hlt, rfl, X5, ?_, ?_, ?_, ?_, ?_, ?_, ?_, ?_⟩
    · intro q hq
      have e1 : LP (P' ++ [(T, (k, t), (jj, u))]) = LP P' ++ [(T, tupO [.int k t, .int jj u])] := by simp [LP]
      rw [e1] at hq
      simp only [List.mem_append, List.mem_singleton] at hq
      rcases hq with (hq | rfl) | hq
      · exact X2' q (List.mem_append_left news hq)
      · exact ltT I2 o2 ho2
      · exact X2' q (List.mem_append_right (LP P') hq)
    · rw [show XY (P' ++ [(T, (k, t), (jj, u))]) = XY P' ++ [(k, jj)] by simp [XY], hXY, List.take_add_one, hjj]
      simp
    · simp only [List.length_append, List.length_singleton]; omega
    · exact ((hC ▸ hn2).keeps hk3).sameBut hs4 hCD
    · simp only [if_neg hxy]; exact hx'
    · exact hs4.extBut _ _ hID (hk3 _ _ hIo2)
    · exact (hl2.at fun o e => hk3 _ _ e).at fun o e => hs4.extBut _ _ haD e
    · exact (hit2.at fun o e => hk3 _ _ e).at fun o e => hs4.extBut _ _ h2D e
  · have hj' : j = its.length := by omega
    refine wpAny_pyNext_list_end hh hit' hl' (by simp [hj']) fun h1 he1 => ?_
    refine hR P' h1 tk' m₁' (X'.but (fun b o hb e => he1 b o hb e) (Ne.symm h2D) h2L h20 X2') ?_ (hns'.at' fun o e => he1 C o (Ne.symm h2C) e) (he1 _ _ (Ne.symm h2I) hIo')
    rw [hXY, hj', hlen, List.take_length]
end
end Mine

theorem Mine.calmK4 : True ∧ True := by
  w_top off
  first | (walk1; fail "no") | exact ⟨trivial, trivial⟩

namespace Mine
open PySem PySem.W PyProof.Rows PySem.Calls Builtin
set_option maxHeartbeats 4000000
def SrcOk (prog : Program) (w : World) (A : Around) (i2 : PySem.Expr) (x : Str) (cenv : Env) (s : Shared) (h₀ : Heap) (L : Addr) (m : Str → Option Value) (news : List (Addr × Obj)) (I C D : Addr) (n : Nat) (g : Int → List Int) : Prop :=
  ∀ (P : List PT) (h : Heap) (tk : Nat) (m₂ : Str → Option Value) (k : Int) (t : Tok) (Q E : Value → Shared → Prop), 0 ≤ k → k < n → CI h₀ L m news I C D P h → h.Ns C m₂ → m₂ x = some (.int k t) → (∃ oI, h.get? I = some oI) →
    (∀ ax its c h' tk', (∀ b o, h.get? b = some o → h'.get? b = some o) → h'.get? ax = some (listOf its.toArray c) → IntsAre its (g k) → ax ≠ I → ax ≠ C → ax ≠ D → Q (.ref ax) { s with heap := h', toks := tk' }) →
    wpAny (model prog w) A (eval i2 cenv) Q E { s with heap := h, toks := tk }
theorem mark_none (A : Around) : A.mark none = A := by cases A; rfl
def pairsZ (g : Int → List Int) (ks : List Int) : List (Int × Int) := ks.flatMap fun k => (g k).map fun j => (k, j)
section
variable {prog : Program} {w : World} {A : Around} {R : Result → Shared → Prop} {s : Shared} {elt i1 i2 : PySem.Expr} {x y : Str} {px py : Pos} {scope : Scope} {cl : List (Str × Addr)} {pos : Pos} {env cenv : Env}
  {h₀ : Heap} {L I C D : Addr} {m : Str → Option Value} {news : List (Addr × Obj)}
theorem outer {n : Nat} {g : Int → List Int} {m₁ : Str → Option Value} (hh : A.handled = none) (hC : cenv.locals = C) (hx : cenv.kindOf x = some .local) (hy : cenv.kindOf y = some .local) (hp : (cenv.scope.kind == .class || (cenv.scope.kind == .module && cenv.locals != cenv.globals)) = false) (hxy : x ≠ y)
    (hs : ∀ v, foldedSetIterable i2 cenv v = pure v)
    (he : EltOk prog w A elt x y cenv s) (hsrc : SrcOk prog w A i2 x cenv s h₀ L m news I C D n g) (hn : n ≤ 100) (hg : ∀ k, (g k).length ≤ 100)
    (hI0 : h₀.get? I = none) (hC0 : h₀.get? C = none) (hD0 : h₀.get? D = none) (hIL : L ≠ I) (hCL : L ≠ C) (hDL : L ≠ D) (hIC : I ≠ C) (hID : I ≠ D) (hCD : C ≠ D)
    (X : CI h₀ L m news I C D [] s.heap) (hns : s.heap.Ns C m₁) (hit : IsRangeIter s.heap I (0 + ((0 : Nat) : Int) * 1) ((n : Int) - ((0 : Nat) : Int)) 1)
    (hR : ∀ P' h' tk' m₁', CI h₀ L m news I C D P' h' → XY P' = pairsZ g (rangeKs 0 n) → P'.length ≤ 10000 → h'.Ns C m₁' → R (.ok .next) { s with heap := h', toks := tk' }) :
    codeAny (model prog w) A (.compLoop (two elt (.Name x px) i1 (.Name y py) i2 scope pos) 0 (.ref I) (.ref D) cenv) R s := by
  have W := Walks.range (prog := prog) (w := w) hh I 0 1 n
  refine loop_outer (fun q s' => ∃ h' tk' i P' m₁', s' = { s with heap := h', toks := tk' } ∧ i ≤ n ∧ q = n + 1 - i ∧ CI h₀ L m news I C D P' h' ∧ XY P' = pairsZ g ((rangeKs 0 n).take i) ∧ P'.length ≤ i * 100 ∧ h'.Ns C m₁' ∧
    IsRangeIter h' I (0 + (i : Int) * 1) ((n : Int) - (i : Int)) 1) ?_ (n + 1) ⟨s.heap, s.toks, 0, [], m₁, rfl, Nat.zero_le _, rfl, X, by simp [XY, pairsZ], Nat.zero_le _, hns, hit⟩ (by intro _; rfl) hs
  rintro q s' ⟨h', tk', i, P', m₁', rfl, hi, rfl, X', hXY, hPl, hns', hit'⟩
  by_cases hlt : i < n
  · refine W.item i _ _ _ hlt hit' fun v h1 tk1 hv hit1 hk1 => ?_
    obtain ⟨t, rfl⟩ := hv
    have e0 : (0 : Int) + (i : Int) * 1 = (i : Int) := by omega
    rw [e0]
    have k1 : ∀ b o, b ≠ I → h'.get? b = some o → h1.get? b = some o := fun b o hb e => hk1 b o (by simpa using hb) e
    have X1 : CI h₀ L m news I C D P' h1 := X'.but k1 (Ne.symm hID) hIL hI0 (fun q hq => (X'.off q hq).1)
    have hns1 : h1.Ns cenv.locals m₁' := hC ▸ hns'.at' fun o e => k1 C o (Ne.symm hIC) e
    refine wpAny_assign_Name (wpAny_storeName_local hx hns1 (fun h2 hn2 hs2 => ?_) hp)
    rw [hC] at hs2
    have X2 : CI h₀ L m news I C D P' h2 := X1.but (fun b o hb e => hs2.extBut b o hb e) (Ne.symm hCD) hCL hC0 (fun q hq => (X1.off q hq).2.1)
    have hit2 : IsRangeIter h2 I (0 + ((i + 1 : Nat) : Int) * 1) ((n : Int) - ((i + 1 : Nat) : Int)) 1 := hs2.extBut _ _ hIC hit1
    refine hsrc P' h2 _ _ (i : Int) t _ _ (by omega) (by omega) X2 (hC ▸ hn2) (by simp) ⟨_, hit2⟩ fun ax its c h3 tk3 hk3 hax his haI haC haD => ?_
    have X3 := X2.keeps hk3
    have hl3 : h3.IsList ax its.toArray := ⟨_, hax, rfl, c, rfl⟩
    refine wpAny_pyIter_list hl3 ?_
    rw [mark_none]
    have X4 : CI h₀ L m news I C D P' (h3.push { cls := .type "list_iterator", data := .fields #[.ref ax, .int 0 0] }) := X3.keeps fun b o e => Heap.get?_push_of_some _ e
    have lt3 : ∀ b o, h3.get? b = some o → h3.objs.size ≠ b := fun b o e => Nat.ne_of_gt (Heap.lt_size e)
    have h20 : h₀.get? h3.objs.size = none := by
      cases e : h₀.get? h3.objs.size with
      | none => rfl
      | some o => exact absurd rfl (lt3 _ o (X3.F.keep _ _ e))
    have hn2C : h2.Ns C (fun z => if z = x then some (.int (i : Int) t) else m₁' z) := hC ▸ hn2
    have hn3 := hn2C.keeps hk3
    have hn3' := hn3
    obtain ⟨oC, _, _, hoC, _⟩ := hn3'
    have hLn := X3.F.ns
    obtain ⟨oL, _, _, hoL, _⟩ := hLn
    have hI3 := hk3 _ _ hit2
    have hit4 : (h3.push { cls := .type "list_iterator", data := .fields #[.ref ax, .int 0 0] }).IsListIter h3.objs.size ax 0 := ⟨_, Heap.get?_push_size _ rfl, rfl, rfl⟩
    have up4 : ∀ b o, h3.get? b = some o → (h3.push { cls := .type "list_iterator", data := .fields #[.ref ax, .int 0 0] }).get? b = some o := fun b o e => Heap.get?_push_of_some _ e
    have go : codeAny (model prog w) A (.compLoop (two elt (.Name x px) i1 (.Name y py) i2 scope pos) 1 (.ref h3.objs.size) (.ref D) cenv) (fun r s₅ => match r with
        | .ok _ => ∃ q, q < n + 1 - i ∧ ∃ h' tk' i P' m₁', s₅ = { s with heap := h', toks := tk' } ∧ i ≤ n ∧ q = n + 1 - i ∧ CI h₀ L m news I C D P' h' ∧ XY P' = pairsZ g ((rangeKs 0 n).take i) ∧ P'.length ≤ i * 100 ∧ h'.Ns C m₁' ∧ IsRangeIter h' I (0 + (i : Int) * 1) ((n : Int) - (i : Int)) 1
        | .error _ => False) { s with heap := h3.push { cls := .type "list_iterator", data := .fields #[.ref ax, .int 0 0] }, toks := tk3 } := by
      refine inner (k := (i : Int)) (t := t) (js := g i) (its := its) (ax := ax) hh hC hy hp hxy he his hI0 hC0 hD0 h20 hIL hCL hDL (Ne.symm (lt3 L oL hoL)) hIC hID hCD (lt3 I _ hI3) (lt3 C oC hoC) (lt3 D _ X3.d) haI haC haD (Ne.symm (lt3 ax _ hax)) X4
        (fun q hq => Ne.symm (lt3 q.1 q.2 (X3.N q hq).1)) (hn3.keeps up4) (by simp) (hl3.push _) (up4 _ _ hI3) hit4 ?_ ?_
      · have := hg i
        have := his.length
        have : i * 100 ≤ 100 * 100 := Nat.mul_le_mul (by omega) (Nat.le_refl _)
        omega
      · intro P'' h'' tk'' m₁'' X'' hXY'' hns'' hI''
        refine ⟨n + 1 - (i + 1), by omega, h'', tk'', i + 1, P'', m₁'', rfl, hlt, rfl, X'', ?_, ?_, hns'', hI''⟩
        · rw [hXY'', hXY]
          have hk' : (rangeKs 0 n)[i]? = some (i : Int) := by simp [rangeKs, hlt]
          rw [List.take_add_one, hk']
          simp [pairsZ]
        · have hl1 : (XY P'').length = (XY P').length + (g i).length := by rw [hXY'']; simp
          have hl2 : (XY P'').length = P''.length := by simp [XY]
          have hl3 : (XY P').length = P'.length := by simp [XY]
          have := hg i
          rw [hl2, hl3] at hl1
          omega
    exact start_inner go (wpAny_pyIter_listiter hit4 go)
  · obtain rfl : i = n := by omega
    refine W.done _ _ _ hit' fun h1 tk1 hk1 => ?_
    have k1 : ∀ b o, b ≠ I → h'.get? b = some o → h1.get? b = some o := fun b o hb e => hk1 b o (by simpa using hb) e
    refine hR P' h1 tk1 m₁' (X'.but k1 (Ne.symm hID) hIL hI0 (fun q hq => (X'.off q hq).1)) ?_ (by omega) (hns'.at' fun o e => k1 C o (Ne.symm hIC) e)
    rw [hXY, List.take_of_length_le (Nat.le_of_eq (rangeKs_length _ _))]
end
end Mine

theorem Mine.calmK5 : True ∧ True := by
  w_top off
  first | (walk1; fail "no") | exact ⟨trivial, trivial⟩

namespace Mine
open PySem PySem.W PyProof.Rows PySem.Calls Builtin
set_option maxHeartbeats 4000000
section
variable {prog : Program} {w : World} {A : Around} {E : Value → Shared → Prop} {s : Shared} {elt i1 i2 : PySem.Expr} {x y : Str} {px py : Pos} {scope : Scope} {cl : List (Str × Addr)} {pos : Pos} {env : Env}
  {h₀ : Heap} {L : Addr} {m : Str → Option Value} {news : List (Addr × Obj)} {Q : Value → Shared → Prop}
theorem comp2 {n : Nat} {g : Int → List Int} (_F : Fr h₀ L s.heap m) (_N : News h₀ L s.heap news) (hh : A.handled = none) (hclos : closureFor scope env = pure cl) (hcell : ∀ z ∈ scope.names, z.2 ≠ .cell) (hkind : scope.kind = .function)
    (hnames : ∀ z ∈ scope.names, z.2 = .local → scope.names.lookup z.1 = some .local) (hx : scope.names.lookup x = some .local) (hy : scope.names.lookup y = some .local) (hxy : x ≠ y)
    (hs1 : ∀ v, foldedSetIterable i1 env v = pure v) (hs2 : ∀ C v, foldedSetIterable i2 (compEnvC scope cl C env) v = pure v) (hn : n ≤ 100) (hg : ∀ k, (g k).length ≤ 100)
    (h1 : wpAny (model prog w) A (eval i1 env) (fun xv s₁ => ∃ r t u v b, xv = .ref r ∧ (∃ hp tk, s₁ = { s with heap := hp, toks := tk }) ∧ IsRange s₁.heap r 0 b 1 t u v ∧ Builtin.Range.small 0 b 1 = true ∧ Builtin.Range.rangeSize 0 b 1 = (n : Int) ∧ Fr h₀ L s₁.heap m ∧ News h₀ L s₁.heap news) E s)
    (he : ∀ C, EltOk prog w A elt x y (compEnvC scope cl C env) s) (hsrc : ∀ I C D, h₀.get? C = none → C ≠ L → (∀ q ∈ news, q.1 ≠ C) → SrcOk prog w A i2 x (compEnvC scope cl C env) s h₀ L m news I C D n g)
    (fin : ∀ D P h tk, Fr h₀ L h m → News h₀ L h ((D, listOf (RP P).toArray P.length) :: (LP P ++ news)) → XY P = pairsZ g (rangeKs 0 n) → P.length ≤ 10000 → (∀ q ∈ LP P ++ news, q.1 ≠ D) → Q (.ref D) { s with heap := h, toks := tk }) :
    wpAny (model prog w) A (eval (two elt (.Name x px) i1 (.Name y py) i2 scope pos) env) Q E s := by
  rw [eval_ListComp]
  refine wpAny_comprehension_free (use := none) rfl hs1 hclos hkind hnames (wpAny_mono h1 (fun xv s₁ h₁ => ?_) fun _ _ e => e)
  obtain ⟨r, t, u, v, b, rfl, ⟨hp, tk, rfl⟩, hr, hsm, hsz, F, N⟩ := h₁
  refine wpAny_pyIter_range hr hsm ?_
  refine wpAny_newObj_type (wpAny_newFunctionEnv hcell (by intro z hz; simp at hz) (fun h₁ hns₁ hsb₁ => ?_) hkind)
  dsimp only at hns₁ hsb₁ F N hr ⊢
  generalize hH1 : hp.push { cls := .type "range_iterator", data := .fields #[rawInt 0, rawInt (Builtin.Range.rangeSize 0 b 1), rawInt 1] } = H1 at hns₁ hsb₁ ⊢
  generalize hH2 : H1.push { cls := .type "list", dict := none, data := .seq ([] : List Value).toArray } = H2 at hns₁ hsb₁ ⊢
  have up1 : ∀ a o, hp.get? a = some o → H1.get? a = some o := fun a o e => hH1 ▸ Heap.get?_push_of_some _ e
  have up2 : ∀ a o, H1.get? a = some o → H2.get? a = some o := fun a o e => hH2 ▸ Heap.get?_push_of_some _ e
  have up3 : ∀ a o, H2.get? a = some o → h₁.get? a = some o := fun a o e => hsb₁.extBut a o (Nat.ne_of_lt (Heap.lt_size e)) (Heap.get?_push_of_some _ e)
  have z1 : H1.objs.size = hp.objs.size + 1 := by rw [← hH1, Heap.size_push]
  have z2 : H2.objs.size = H1.objs.size + 1 := by rw [← hH2, Heap.size_push]
  have lt0 : ∀ a o, hp.get? a = some o → @LT.lt Nat _ a hp.objs.size := fun a o e => Heap.lt_size e
  have hI : H1.get? hp.objs.size = some { cls := .type "range_iterator", data := .fields #[rawInt 0, rawInt (Builtin.Range.rangeSize 0 b 1), rawInt 1] } := hH1 ▸ Heap.get?_push_size _ rfl
  have hD : H2.get? H1.objs.size = some { cls := .type "list", dict := none, data := .seq ([] : List Value).toArray } := hH2 ▸ Heap.get?_push_size _ rfl
  obtain ⟨oL, _, _, hoL, _⟩ := id F.ns
  have hLlt := lt0 L oL hoL
  have new0 : ∀ a : Nat, hp.objs.size ≤ a → h₀.get? a = none := fun a ha => by
    cases e : h₀.get? a with
    | none => rfl
    | some o => exact absurd (lt0 a o (F.keep _ _ e)) (Nat.not_lt.mpr ha)
  have X : CI h₀ L m news hp.objs.size H2.objs.size H1.objs.size [] h₁ := by
    refine ⟨F.keeps fun a o e => up3 _ _ (up2 _ _ (up1 _ _ e)), N.grown fun a o e => up3 _ _ (up2 _ _ (up1 _ _ e)), fun q hq => ?_, up3 _ _ hD⟩
    have hq' := lt0 q.1 q.2 (N q hq).1
    exact ⟨Nat.ne_of_lt hq', Nat.ne_of_lt (by omega), Nat.ne_of_lt (by omega)⟩
  have loop : codeAny (model prog w) A (.compLoop (two elt (.Name x px) i1 (.Name y py) i2 scope pos) 0 (.ref hp.objs.size) (.ref H1.objs.size) (compEnvC scope cl H2.objs.size env))
      (compPost (model prog w) A E none Q (.ref H1.objs.size) H2.objs.size) { s with heap := h₁, toks := tk + ([] : List (Str × Value)).length } := by
    refine outer (n := n) (g := g) (I := hp.objs.size) (C := H2.objs.size) (news := news) (h₀ := h₀) (L := L) (m := m) hh rfl (lookup_relabel_local hx) (lookup_relabel_local hy) (by simp [compEnvC, relabel, hkind]) hxy (hs2 _) (he _)
      (hsrc _ _ _ (new0 _ (by omega)) (Nat.ne_of_gt (by omega)) fun q hq => ?_) hn hg (new0 _ (Nat.le_refl _)) (new0 _ (by omega)) (new0 _ (by omega)) (Nat.ne_of_lt hLlt) (Nat.ne_of_lt (by omega)) (Nat.ne_of_lt (by omega)) (Nat.ne_of_lt (by omega)) (Nat.ne_of_lt (by omega)) (Nat.ne_of_gt (by omega)) X hns₁ ?_ ?_
    · have hq' := lt0 q.1 q.2 (N q hq).1
      exact Nat.ne_of_lt (by omega)
    · have := up3 _ _ (up2 _ _ hI)
      rw [hsz] at this
      simpa [IsRangeIter] using this
    · intro P' h' tk' m₁' X' hXY hPl hns'
      refine ⟨m₁', hns', fun h'' hs'' => ?_⟩
      have hCD : (H1.objs.size : Addr) ≠ H2.objs.size := Nat.ne_of_lt (by omega)
      have X'' := X'.but (z := H2.objs.size) (fun a o ha e => hs''.extBut a o ha e) hCD (Nat.ne_of_lt (by omega)) (new0 _ (by omega)) (fun q hq => (X'.off q hq).2.1)
      refine fin _ P' h'' tk' X''.F ?_ hXY hPl (fun q hq => (X''.off q hq).2.2)
      intro q hq
      rcases List.mem_cons.mp hq with rfl | hq
      · exact ⟨X''.d, Nat.ne_of_gt (by omega), new0 _ (by omega)⟩
      · exact X''.N q hq
  exact codeAny_compStart_list loop ((Walks.range (prog := prog) (w := w) hh hp.objs.size 0 1 n).self 0 _ _ _ (by have := up3 _ _ (up2 _ _ hI); rw [hsz] at this; simpa [IsRangeIter] using this) loop)
end
theorem shape5 {h₀ h : Heap} {L C : Addr} {m : Str → Option Value} {I D : Addr} {P : List PT} {oC : Obj} {q c3 c2 c1 : Addr × Obj} {l nw : List (Addr × Obj)} (X : CI h₀ L m (c3 :: c2 :: c1 :: q :: (l ++ nw)) I C D P h)
    (hC : h.get? C = some oC) (hCL : C ≠ L) (hC0 : h₀.get? C = none) : News h₀ L h ((C, oC) :: c3 :: c2 :: c1 :: q :: (l ++ (LP P ++ nw))) := by
  intro x hx
  rcases List.mem_cons.mp hx with rfl | hx
  · exact ⟨hC, hCL, hC0⟩
  · refine X.N x ?_
    simp only [List.mem_append, List.mem_cons] at hx ⊢
    rcases hx with h | h | h | h | h | h | h <;> simp [h]
theorem src_none {p : Int} {i : Nat} {R : List RT} {k : Int} (hI : RInv p i R) (hf : R.find? (fun r => r.1 = k) = none) : IntsAre [] (rootsZ p i k) := by
  have := hI.1 k
  unfold itsOf at this
  rw [hf] at this
  exact this
theorem src_some {p : Int} {i : Nat} {R : List RT} {k : Int} {r : RT} (hI : RInv p i R) (hf : R.find? (fun r => r.1 = k) = some r) : IntsAre r.2.2.1 (rootsZ p i k) ∧ (r.2.1, listOf r.2.2.1.toArray r.2.2.2) ∈ LL R := by
  have := hI.1 k
  unfold itsOf at this
  rw [hf] at this
  exact ⟨this, List.mem_map_of_mem (f := fun r : RT => (r.2.1, listOf r.2.2.1.toArray r.2.2.2)) (List.mem_of_find?_eq_some hf)⟩
theorem CI.at {h₀ h : Heap} {L : Addr} {m : Str → Option Value} {I C D : Addr} {P : List PT} {q c3 c2 c1 e : Addr × Obj} {l nw : List (Addr × Obj)} (X : CI h₀ L m (c3 :: c2 :: c1 :: q :: (l ++ nw)) I C D P h) (he : e ∈ l) :
    h.get? e.1 = some e.2 ∧ e.1 ≠ I ∧ e.1 ≠ C ∧ e.1 ≠ D := by
  have hm : e ∈ LP P ++ (c3 :: c2 :: c1 :: q :: (l ++ nw)) := by simp [he]
  exact ⟨(X.N _ hm).1, X.off _ hm⟩
theorem shape6 {h₀ h : Heap} {L : Addr} {d q c3 c2 c1 : Addr × Obj} {l p news : List (Addr × Obj)} (N : News h₀ L h (d :: (p ++ (c3 :: c2 :: c1 :: q :: (l ++ news))))) : News h₀ L h (d :: (p ++ news)) := fun x hx => N x (by
  simp only [List.mem_append, List.mem_cons] at hx ⊢
  rcases hx with h | h | h <;> simp [h])
def pointsZ (p b : Int) : List (Int × Int) := pairsZ (fun k => rootsZ p (p - 0).toNat ((k * k * k + b) % p)) (rangeKs 0 (p - 0).toNat)
abbrev PsRet (h₀ : Heap) (L : Addr) (m : Str → Option Value) (news : List (Addr × Obj)) (s : Shared) (Q : Value → Shared → Prop) (pts : List (Int × Int)) : Prop :=
  ∀ (D : Addr) (P : List PT) (h' : Heap) (tk' : Nat), Fr h₀ L h' m → News h₀ L h' ((D, listOf (RP P).toArray P.length) :: (LP P ++ news)) → XY P = pts → P.length ≤ 10000 → Q (.ref D) { s with heap := h', toks := tk' }
end Mine

theorem Mine.calmC8 : True ∧ True := by
  w_top off
  first | (walk1; fail "no") | exact ⟨trivial, trivial⟩

namespace Mine
open PySem PySem.W PyProof.Rows PySem.Calls Builtin
set_option maxHeartbeats 8000000

local macro_rules | `(tactic| k_room) => `(tactic| ((try simp only [depth_under_make, depth_under_kw, depth_in1, depth_deeper, depth_caller]); (simp only [recursionLimit] at *); omega))
local macro_rules | `(tactic| k_units) => `(tactic| ((have hcL9 := cLine_is); (try simp only [units_in1, units_deeper, Around.mark_units, units_caller] at *); omega))
local macro_rules | `(tactic| k_enter) => `(tactic| (refine' code_def ?k1 ?k2 ?k3 ?k4 ?k5 ?kA ?kF ?kK ?k6 ?k7 ?k8 ?k9 ?kB ?_ ?c2 ?c3 ?c4 ?c5; (case kA => exact rfl); (case kF => first | assumption | exact rfl); (case kK => first | assumption | exact rfl); (case k1 => k_asm); (case k2 => k_asm); (case k3 => k_asm); (case k4 => k_asm); (case k5 => k_asm); (case k6 => k_is); (case k7 => k_is); (case k8 => k_room); (case k9 => first | exact BindsTo.of_eq rfl | exact binds_K (by k_in) rfl (by k_is) rfl rfl rfl | fail "k_enter: no rule for these arguments"); (case c5 => decide); (case kB => exact locs rfl); (case c2 => exact rfl); (case c3 => exact rfl); (case c4 => exact rfl); k_whole; intro g' L' h' FG' F' N' B' X' T'; (try dsimp only); (try k_lift B'); (try k_fold)))
local macro_rules | `(tactic| k_mem) => `(tactic| first | with_reducible assumption | exact List.mem_cons_self | (refine List.mem_cons_of_mem _ ?_; k_mem) | (refine List.mem_append_right _ ?_; k_mem) | (refine List.mem_append_left _ ?_; k_mem))
local macro_rules | `(tactic| walk_at "ite") => `(tactic| first | (refine ite_pos (by with_reducible assumption) ?_) | (refine ite_neg (by with_reducible assumption) ?_) | (refine ite_isFalse (by with_reducible assumption) ?_))

local macro_rules | `(tactic| k_enter) => `(tactic| first
  | (refine' code_def ?k1 ?k2 ?k3 ?k4 ?k5 ?kA ?kF ?kK ?k6 ?k7 ?k8 ?k9 ?kB ?_ ?c2 ?c3 ?c4 ?c5; (case kA => exact rfl); (case kF => first | assumption | exact rfl); (case kK => first | assumption | exact rfl); (case k1 => k_asm); (case k2 => k_asm); (case k3 => k_asm); (case k4 => k_asm); (case k5 => k_asm); (case k6 => k_is); (case k7 => k_is); (case k8 => k_room); (case k9 => first | exact BindsTo.of_eq rfl | exact binds_K (by k_in) rfl (by k_is) rfl rfl rfl | fail "k_enter: no rule for these arguments"); (case c5 => decide); (case kB => exact locs rfl); (case c2 => exact rfl); (case c3 => exact rfl); (case c4 => exact rfl); k_whole; intro g' L' h' FG' F' N' B' X' T'; (try dsimp only); (try k_lift B'); (try k_fold))
  | (refine' code_defC ?k1 ?k2 ?k3 ?k4 ?k5 ?kA ?kF ?kK ?k6 ?k7 ?k8 ?k9 ?kB ?kD ?_ ?c2 ?c3 ?c4; (case kA => exact rfl); (case kF => first | assumption | exact rfl); (case kK => first | assumption | exact rfl); (case k1 => k_asm); (case k2 => k_asm); (case k3 => k_asm); (case k4 => k_asm); (case k5 => k_asm); (case k6 => k_is); (case k7 => k_is); (case k8 => k_room); (case k9 => first | exact BindsTo.of_eq rfl | exact binds_K (by k_in) rfl (by k_is) rfl rfl rfl | fail "k_enter: no rule for these arguments"); (case kB => exact rfl); (case kD => decide +kernel); (case c2 => exact rfl); (case c3 => exact rfl); (case c4 => exact rfl); k_whole; intro g' L' h' tk' cells' FG' F' N' Y' B' X' T' l1; (try k_lt l1); k_cells Y'; (try simp only [List.cons_append, List.nil_append] at N'); (try dsimp only); (try k_lift B'); (try k_fold)))

theorem far_all {L d : Nat} {news : List (Addr × Obj)} (h : ∀ p ∈ news, @LT.lt Nat _ p.1 L) (hle : L ≤ d) : ∀ p ∈ news, p.1 ≠ d := fun p hp => Nat.ne_of_lt (Nat.lt_of_lt_of_le (h p hp) hle)
local macro_rules | `(tactic| k_all) => `(tactic| (refine far_all (by assumption) ?_; omega))

local macro_rules | `(tactic| walk_at "getMethod ref") => `(tactic| (k_here; (with_reducible show wpAny _ _ (getMethod (Value.ref _) (Str.ofString "get") _) _ _ _); k_dflt (refine' kdg_method (knd := PySem.intKind _ _) ?N ?m ?d ?_; (case N => k_asm); (case m => k_mem); (case d => assumption); k_whole)))

local macro_rules | `(tactic| walk_at "getMethod ref") => `(tactic| (k_here; (with_reducible show wpAny _ _ (getMethod (Value.ref _) (Str.ofString "setdefault") _) _ _ _); k_dflt (refine' kob_method (knd := PySem.intKind _ _) PySem.F.slot_dict_setdefault PySem.F.type_dict_setdefault ?N ?m ?d ?_; (case N => k_asm); (case m => k_mem); (case d => assumption); k_whole)))

section
variable {w : World} {A A₀ : Around} {env : Env} {outer : List Env} {base h₀ : Heap} {L : Addr} {m mg mb : Str → Option Value} {loose : List Str} {mean : ExcName → Option Value} {news : List (Addr × Obj)} {s : Shared} {Q E : Value → Shared → Prop}

theorem c_points {p b : Int} {tp tb : Tok}
  (B : Below A₀ base outer h₀) (F : Fr h₀ L s.heap m) (X : (Mine.hd.heap_39 w.params).In h₀) (N : News h₀ L s.heap news) (T : Top Mine.hd.view_39 loose mean mg mb h₀)
  (hh : A.handled = none) (hA : A.frames = some (env :: outer)) (hf : env.frame = some L) (hk : env.scope.kind = .function) (hd : A.depth + 20 < recursionLimit) (hu : A.units + 200 < cLine)
  (hp : 0 < p) (hp2 : p < 100) (hb : 0 ≤ b) (hb2 : b < p)
  (hret : PsRet h₀ L m news s Q (pointsZ p b)) :
  wpAny (model PySem.Challenge.rw_bw0039_01.row.prog w) A (call (.ref 398) [.int p tp, .int b tb]) Q E s := by
  revert X; k_fill; intro X
  obtain ⟨hdl, dp, fr, gd, un⟩ := A
  subst hA
  dsimp only at hh
  subst hh
  dsimp only at hd hu
  repeat' ((fail_if_success (with_reducible show wpAny _ _ (exec (PySem.Stmt.For _ _ _ _ _) _) _ _ _)); (first | (k_unfold; (try dsimp only)) | (k_end; wrow_close) | walk1 | (dsimp only; walk1) | (leave1; walk_say "STEP leave1"; try dsimp only) | fail "no step"))
  (rename Fr _ _ _ _ => lF'); (with_unfolding_all refine' For_invVF lF' ?k1 ?k2 ?_; (case k1 => exact rfl); (case k2 => exact rfl))
  repeat' ((fail_if_success (with_reducible show wpAny _ _ (pyIter _) _ _ _)); (first | (k_unfold; (try dsimp only)) | (k_end; wrow_close) | walk1 | (dsimp only; walk1) | (leave1; walk_say "STEP leave1"; try dsimp only) | fail "no step"))
  rename Fr _ _ _ _ => lF'
  rename News _ _ _ _ => lN'
  rename IsRange _ _ _ _ _ _ _ _ => rgX
  rename (_ == sysModules) = false => lo9
  rename Obj.IsDictOf (PySem.intKind _ _) _ [] => hi9
  rename (_ ∧ _ ∧ _ ∧ AllLt _ _) => l9
  with_unfolding_all refine' tbr_invG (fun i _ nx => RJ w _ _ p i nx) (by rfl) rgX (small_one (by omega) (by omega) (by omega) (by omega)) (rangeSize_nat _ _) lF' lN' ⟨[], _, rfl, hi9, RInv.zero p, ?ap⟩ ?turn ?done
  case ap =>
    exact ⟨by simp, List.forall_mem_cons.mpr ⟨Nat.ne_of_lt l9.1, List.forall_mem_cons.mpr ⟨Nat.ne_of_lt l9.2.1, List.forall_mem_cons.mpr ⟨Nat.ne_of_lt l9.2.2.1, fun x hx => Nat.ne_of_lt (ktn_ltOf l9.2.2.2 x hx)⟩⟩⟩, by simp, by simp⟩
  case turn =>
    clear lF' lN' hi9 rgX
    intro i k t m₁ nx h tk own hk9 hoff hJ F₁ N₁
    obtain ⟨R, oD, rfl, hd9, hI9, hA9⟩ := hJ
    obtain ⟨rfl, hi0⟩ := range_at hk9
    have hi1 : (i : Int) < p := by omega
    have hi2 : (0 : Int) ≤ i := by omega
    have N₂ := shape3 N₁
    clear N₁
    repeat' ((fail_if_success (with_reducible show wpAny _ _ (call (Value.builtin "dict.setdefault") _) _ _ _)); (first | (k_unfold; (try dsimp only)) | (k_end; wrow_close) | walk1 | (dsimp only; walk1) | (leave1; walk_say "STEP leave1"; try dsimp only) | fail "no step"))
    rename Fr _ _ _ _ => F3
    rename News _ _ _ _ => N3
    rename (_ ∧ _ ∧ _ ∧ _ ∧ AllLt _ _) => l3
    have hsz9 : (KV R).length ≤ sizeLine := by rw [sizeLine_eq]; simp only [KV, List.length_map]; have := hI9.2.1; omega
    have hfm9 : ((i : Int) * i).fmod p = (i : Int) * i % p := fm1 hp
    rw [hfm9]
    refine setdef_int F3 N3 (by k_mem) hd9 lo9 hsz9 (fun v hv => ?_) (fun hn h₂ o₂ F4 hs4 ho4 hd4 => ?_)
    · obtain ⟨R1, R2, a, its, n9, rfl, hf9, rfl⟩ := find_split hv
      obtain ⟨hx1, hx2, hx3, hx4⟩ := hA9.off
      dsimp only at hx1 hx2 hx3 hx4
      have N4 := shapeA N3
      have hin9 : its.length ≤ i := hI9.2.2 _ (List.mem_append_right _ List.mem_cons_self)
      clear N3
      repeat' ((fail_if_success (with_reducible show wpAny _ _ (call (Value.builtin "list.append") _) _ _ _)); (first | (k_unfold; (try dsimp only)) | (k_end; wrow_close) | walk1 | (dsimp only; walk1) | (leave1; walk_say "STEP leave1"; try dsimp only) | fail "no step"))
      refine append_L F3 N4 (by k_mem) (by rw [sizeLine_eq]; omega) (fun h5 F5 hs5 ho5 => ?_)
      have hown : ∀ x ∈ own, x.1 ≠ a := fun x hx => hoff x hx (a, listOf its.toArray n9) (by rw [LL_mid]; simp)
      have N5 := swapA N4 hs5 ho5 hx1 hx2 hx3 hx4 hown
      clear N4
      repeat' (first | (k_unfold; (try dsimp only)) | walk1 | (dsimp only; walk1))
      exact endA F5 N5 hoff hd9 hI9 hf9 hA9
    · have hlD : (_ : Addr) ≠ _ := Nat.ne_of_gt l3.2.2.2.1
      have hLL : ∀ q ∈ LL R, q.1 ≠ _ := fun q hq => Nat.ne_of_lt (ktn_ltOf l3.2.2.2.2 q (List.mem_append_left _ hq))
      have hnw : ∀ q ∈ news, q.1 ≠ _ := fun q hq => Nat.ne_of_lt (ktn_ltOf l3.2.2.2.2 q (List.mem_append_right _ (List.mem_append_left _ hq)))
      have how : ∀ q ∈ own, q.1 ≠ _ := fun q hq => Nat.ne_of_lt (ktn_ltOf l3.2.2.2.2 q (List.mem_append_right _ (List.mem_append_right _ hq)))
      have N6 := swapD N3 hs4 ho4 hlD hA9.2.1 (fun x hx => by obtain ⟨r, hr, rfl⟩ := mem_LL hx; exact hA9.1 r hr) (fun x hx => hoff x hx _ List.mem_cons_self)
      clear N3 F3
      repeat' ((fail_if_success (with_reducible show wpAny _ _ (call (Value.builtin "list.append") _) _ _ _)); (first | (k_unfold; (try dsimp only)) | (k_end; wrow_close) | walk1 | (dsimp only; walk1) | (leave1; walk_say "STEP leave1"; try dsimp only) | fail "no step"))
      refine append_L (its := []) F4 N6 (by k_mem) (by rw [sizeLine_eq]; simp) (fun h5 F5 hs5 ho5 => ?_)
      have N7 := swapL N6 hs5 ho5 (Nat.ne_of_lt l3.2.2.2.1) (Nat.ne_of_lt l3.1) (Nat.ne_of_lt l3.2.1) (Nat.ne_of_lt l3.2.2.1) (fun x hx => Nat.ne_of_lt (ktn_ltOf l3.2.2.2.2 x hx))
      clear N6
      repeat' (first | (k_unfold; (try dsimp only)) | walk1 | (dsimp only; walk1))
      exact endB F5 N7 hoff hd4 hn hI9 hA9 hlD hLL (List.forall_mem_cons.mpr ⟨Nat.ne_of_lt l3.1, List.forall_mem_cons.mpr ⟨Nat.ne_of_lt l3.2.1, List.forall_mem_cons.mpr ⟨Nat.ne_of_lt l3.2.2.1, hnw⟩⟩⟩) how
  case done =>
    clear lF' lN' hi9 rgX
    intro m₁ nx h tk hJ F₁ N₁
    obtain ⟨R, oD, rfl, hd9, hI9, hA9⟩ := hJ
    repeat' ((fail_if_success (with_reducible show wpAny _ _ (eval (PySem.Expr.ListComp _ _ _ _) _) _ _ _)); (first | (k_unfold; (try dsimp only)) | (k_end; wrow_close) | walk1 | (dsimp only; walk1) | (leave1; walk_say "STEP leave1"; try dsimp only) | fail "no step"))
    have N₂ := shape4 N₁
    clear N₁
    with_unfolding_all refine' comp2 (n := (p - 0).toNat) (g := fun k => rootsZ p (p - 0).toNat ((k * k * k + b) % p)) F₁ N₂ (by rfl) (by with_unfolding_all rfl) (by decide) (by rfl) (by decide) (by rfl) (by rfl) (by decide) (by intro _; rfl) (by intro _ _; rfl) (by omega) ?hg ?h1 ?he ?hsrc ?fin
    case hg =>
      intro k
      have := List.length_filter_le (fun y => decide (y * y % p = (k * k * k + b) % p)) (rangeKs 0 (p - 0).toNat)
      rw [rangeKs_length] at this
      unfold rootsZ
      omega
    case h1 =>
      repeat' (first | walk1 | (dsimp only; walk1))
      all_goals first | k_asm | exact small_one (by omega) (by omega) (by omega) (by omega) | exact rangeSize_nat _ _
    case he =>
      intro C
      intro h tk m₂ k j t u Q E hns hx9 hy9 hret9
      refine Tuple_ ?_
      repeat' (first | (refine wpAny_Name (wpAny_loadName_local (by rfl) (by rfl) hns hx9 ?_) (by decide)) | (refine wpAny_Name (wpAny_loadName_local (by rfl) (by rfl) hns hy9 ?_) (by decide)) | ((fail_if_success (with_reducible show wpAny _ _ (newTuple _) _ _ _)); walk1) | ((fail_if_success (with_reducible show wpAny _ _ (newTuple _) _ _ _)); (dsimp only; walk1)))
      exact wpAny_newObj_type (hret9 _ _ _ (Nat.le_refl _) (fun b o e => Heap.get?_push_of_some _ e) (Heap.get?_push_size _ rfl)) (by show _ ≤ sizeLine; rw [sizeLine_eq]; exact Nat.le_of_ble_eq_true rfl)
    case hsrc =>
      intro I C D hC0 hCL hCn
      intro P h tk m₂ k t Q E hk0 hkn X9 hns hx9 hI99 hret9
      obtain ⟨oC, hoC, hNs⟩ := PyProof.Rows.LCg.ns_obj hns
      have N3 := shape5 X9 hoC hCL hC0
      have F3 := X9.F
      clear N₂ F₁
      repeat' ((fail_if_success (with_reducible show wpAny _ _ (newList _) _ _ _)); (first | (k_unfold; (try dsimp only)) | (k_end; wrow_close) | walk1 | (dsimp only; walk1) | (leave1; walk_say "STEP leave1"; try dsimp only) | fail "no step"))
      refine wpAny_newObj_type ?_ (by show _ ≤ sizeLine; rw [sizeLine_eq]; exact Nat.le_of_ble_eq_true rfl)
      repeat' ((fail_if_success (with_reducible show wpAny _ _ (call (Value.builtin "dict.get") _) _ _ _)); (first | walk1 | (dsimp only; walk1)))
      have hfm9 : (k * k * k + b).fmod p = (k * k * k + b) % p := fm1 hp
      rw [hfm9]
      refine kdg_get2 (knd := PySem.intKind _ _) (o := oD) (kvs := KV R) (N3.grown fun b o e => Heap.get?_push_of_some _ e) (by k_mem) hd9 lo9 (intKind_is _ _ _ _) _ (valueAt_KV R _) ?_
      cases hf9 : R.find? (fun r => r.1 = (k * k * k + b) % p) with
      | none =>
        simp only [Option.map_none, Option.getD_none]
        obtain ⟨oI, hoI⟩ := hI99
        exact hret9 _ [] 0 _ _ (fun b o e => Heap.get?_push_of_some _ e) (Heap.get?_push_size _ rfl) (src_none hI9 hf9) (Nat.ne_of_gt (Heap.lt_size hoI)) (Nat.ne_of_gt (Heap.lt_size hoC)) (Nat.ne_of_gt (Heap.lt_size X9.d))
      | some r =>
        simp only [Option.map_some, Option.getD_some]
        obtain ⟨his, hmem⟩ := src_some hI9 hf9
        have ho9 := X9.at hmem
        exact hret9 _ r.2.2.1 _ _ _ (fun b o e => Heap.get?_push_of_some _ e) (Heap.get?_push_of_some _ ho9.1) his ho9.2.1 ho9.2.2.1 ho9.2.2.2
    case fin =>
      intro D P h tk F9 N9 hXY hPl hoff9
      clear N₂ F₁
      repeat' (first | (k_unfold; (try dsimp only)) | walk1 | (dsimp only; walk1))
      exact hret D P _ _ (by k_asm) (shape6 (by assumption)) hXY hPl

end
end Mine

theorem Mine.calmM1 : True ∧ True := by
  w_top off
  first | (walk1; fail "no") | exact ⟨trivial, trivial⟩

namespace Mine
open PySem PySem.W PyProof.Rows PySem.Calls Builtin
set_option maxHeartbeats 4000000
/-- the five primes and their g -/
def PG (p g : Int) : Prop := (p = 7 ∧ g = 3) ∨ (p = 13 ∧ g = 2) ∨ (p = 19 ∧ g = 2) ∨ (p = 31 ∧ g = 3) ∨ (p = 37 ∧ g = 2)
theorem list_item {prog : Program} {w : World} {A : Around} {E : Value → Shared → Prop} {s : Shared} {h₀ : Heap} {L : Addr} {news : List (Addr × Obj)} {value slice : PySem.Expr} {l : Addr} {vs : List Value} {n : Nat} {k : Int} {u : Tok} {v : Value} {Q : Value → Shared → Prop}
    (N : News h₀ L s.heap news) (hm : (l, listOf vs.toArray n) ∈ news) (h0 : 0 ≤ k) (hhi : k < 2 ^ 63) (hx : vs[k.toNat]? = some v) (h : Q v s)
    (hs : subscripted slice false (.ref l) (.int k u) = operate [.ref l, .int k u] (getItem (.ref l) (.int k u)) := by with_unfolding_all rfl) :
    wpAny (model prog w) A (subscriptTail value slice (.ref l) (.int k u)) Q E s :=
  tail_any (N.isList hm).typeIs slot_list_getitem.lookup (wpAny_getItem_list (N.isList hm) h0 hhi (by simpa using hx) h) hs
theorem menu_item {prog : Program} {w : World} {A : Around} {E : Value → Shared → Prop} {s : Shared} {h₀ : Heap} {L : Addr} {news : List (Addr × Obj)} {value slice : PySem.Expr} {l t1 t2 t3 t4 t5 : Addr} {n : Nat} {k : Int} {u : Tok} {a1 b1 a2 b2 a3 b3 a4 b4 a5 b5 : Tok} {Q : Value → Shared → Prop}
    (N : News h₀ L s.heap news) (hm : (l, listOf [.ref t1, .ref t2, .ref t3, .ref t4, .ref t5].toArray n) ∈ news)
    (m1 : (t1, tupO [.int 7 a1, .int 3 b1]) ∈ news) (m2 : (t2, tupO [.int 13 a2, .int 2 b2]) ∈ news) (m3 : (t3, tupO [.int 19 a3, .int 2 b3]) ∈ news) (m4 : (t4, tupO [.int 31 a4, .int 3 b4]) ∈ news) (m5 : (t5, tupO [.int 37 a5, .int 2 b5]) ∈ news)
    (h0 : 0 ≤ k) (h5 : k < 5) (h : ∀ t p g a b, PG p g → (t, tupO [.int p a, .int g b]) ∈ news → Q (.ref t) s)
    (hs : subscripted slice false (.ref l) (.int k u) = operate [.ref l, .int k u] (getItem (.ref l) (.int k u)) := by with_unfolding_all rfl) :
    wpAny (model prog w) A (subscriptTail value slice (.ref l) (.int k u)) Q E s := by
  have e : k = 0 ∨ k = 1 ∨ k = 2 ∨ k = 3 ∨ k = 4 := by omega
  rcases e with rfl | rfl | rfl | rfl | rfl
  · exact list_item N hm (by decide) (by decide) rfl (h _ _ _ _ _ (.inl ⟨rfl, rfl⟩) m1) hs
  · exact list_item N hm (by decide) (by decide) rfl (h _ _ _ _ _ (.inr (.inl ⟨rfl, rfl⟩)) m2) hs
  · exact list_item N hm (by decide) (by decide) rfl (h _ _ _ _ _ (.inr (.inr (.inl ⟨rfl, rfl⟩))) m3) hs
  · exact list_item N hm (by decide) (by decide) rfl (h _ _ _ _ _ (.inr (.inr (.inr (.inl ⟨rfl, rfl⟩)))) m4) hs
  · exact list_item N hm (by decide) (by decide) rfl (h _ _ _ _ _ (.inr (.inr (.inr (.inr ⟨rfl, rfl⟩)))) m5) hs
theorem pow_six {prog : Program} {w : World} {A : Around} {E : Value → Shared → Prop} {s : Shared} {v p : Int} {t u : Tok} {Q : Value → Shared → Prop} (hp : 7 ≤ p) (hp2 : p ≤ 37)
    (h : ∀ r sx : Int, 1 ≤ r → r < p → sx = r ^ 6 → 0 ≤ sx → sx < 4294967296 → Q (.int sx s.toks) { s with toks := s.toks + 1 }) :
    wpAny (model prog w) A (binaryOp .Pow (.int (1 + v.fmod (p - 1)) t) (.int 6 u)) Q E s := by
  have h1 : 0 ≤ v.fmod (p - 1) := Int.fmod_nonneg_of_pos _ (by omega)
  have h2 : v.fmod (p - 1) < p - 1 := Int.fmod_lt_of_pos _ (by omega)
  refine pow_int_small (by decide) (by decide) (by omega) ?_
  refine h (1 + v.fmod (p - 1)) _ (by omega) (by omega) rfl ?_ ?_
  · exact Int.pow_nonneg (by omega)
  · have h3 : (1 + v.fmod (p - 1)) ^ 6 ≤ (37 : Int) ^ 6 := by
      have e : ∀ a b : Nat, a ≤ b → a ^ 6 ≤ b ^ 6 := fun a b hab => Nat.pow_le_pow_left hab 6
      obtain ⟨n, hn⟩ := Int.eq_ofNat_of_zero_le (show 0 ≤ 1 + v.fmod (p - 1) by omega)
      rw [hn]
      have := e n 37 (by omega)
      exact_mod_cast this
    have h4 : (37 : Int) ^ 6 < 4294967296 := by decide
    show (1 + v.fmod (p - 1)) ^ 6 < 4294967296
    omega
theorem fmod2 (v : Int) : v.fmod 2 = 0 ∨ v.fmod 2 = 1 := by
  have h1 : 0 ≤ v.fmod 2 := Int.fmod_nonneg_of_pos _ (by decide)
  have h2 : v.fmod 2 < 2 := Int.fmod_lt_of_pos _ (by decide)
  omega
end Mine

theorem Mine.calmK6 : True ∧ True := by
  w_top off
  first | (walk1; fail "no") | exact ⟨trivial, trivial⟩

namespace Mine
open PySem PySem.W PyProof.Rows PySem.Calls Builtin
set_option maxHeartbeats 4000000
theorem newEnv_cell {M : Model} {A : Around} {E : Value → Shared → Prop} {s : Shared} {scope : Scope} {cl : List (Str × Addr)} {env : Env} {x : Str} {Q : Env → Shared → Prop}
    (hcf : ∀ n acc, cellsFrom n scope.names acc = (x, n) :: acc) (hpc : ∀ h, pushCells h scope.names = h.push { cls := .type "cell", data := .cell none })
    (h : Q (newEnv scope s.heap.objs.size env.globals ((x, s.heap.objs.size + 1) :: cl) env.qual none .none (some env) builtinsNs) { s with heap := (s.heap.push { cls := .type "dict", data := .dict #[] }).push { cls := .type "cell", data := .cell none } }) :
    wpAny M A (newFunctionEnv scope env.globals cl [] env.qual none .none (some env)) Q E s := by
  simp only [newFunctionEnv, Option.isSome_some, if_true]
  refine wpAny_bind (wpAny_alloc ?_)
  refine wpAny_bind (wpAny_layCells _ (fun name kind cells => by cases hkc : kind == NameKind.cell <;> simp [hkc]) _ _ _ _ ?_)
  rw [hcf, hpc, List.forIn_nil]
  refine wpAny_bind (wpAny_pure (wpAny_pure ?_))
  rw [show ({ s with heap := s.heap.push { cls := .type "dict", data := .dict #[] } } : Shared).heap.objs.size = s.heap.objs.size + 1 from Heap.size_push ..]
  exact h
section
variable {prog : Program} {w : World} {A : Around} {E : Value → Shared → Prop} {s : Shared} {elt iter : PySem.Expr} {x : Str} {px : Pos} {scope : Scope} {cl : List (Str × Addr)} {pos : Pos} {env : Env}
  {h₀ : Heap} {L : Addr} {m : Str → Option Value} {news : List (Addr × Obj)} {Q : Value → Shared → Prop}
abbrev lstO (ys : List Value) : Obj := { cls := .type "list", data := .seq ys.toArray ys.length }
/-- what one turn shows -/
def CellTurn (prog : Program) (w : World) (A : Around) (elt : PySem.Expr) (x : Str) (scope : Scope) (cl : List (Str × Addr)) (env : Env) (s : Shared) (h₀ : Heap) (L : Addr) (m : Str → Option Value) (news : List (Addr × Obj)) (ks : List Int) (f : Int → Int) : Prop :=
  ∀ (k : Int) (t : Tok) (I C D c : Addr) (oI oC oc : Obj) (ys : List Value) (m₂ : Str → Option Value) (h : Heap) (tk : Nat) (Q' E' : Value → Shared → Prop), k ∈ ks → PyProof.Rows.LCg.NsObj oC m₂ → oc.data = .cell (some (.int k t)) → Fr h₀ L h m →
    News h₀ L h ((c, oc) :: (I, oI) :: (C, oC) :: (D, lstO ys) :: news) →
    (∀ t' h' tk', Fr h₀ L h' m → News h₀ L h' ((c, oc) :: (I, oI) :: (C, oC) :: (D, lstO ys) :: news) → Q' (.int (f k) t') { s with heap := h', toks := tk' }) →
    wpAny (model prog w) A (eval elt (compEnvC scope ((x, c) :: cl) C env)) Q' E' { s with heap := h, toks := tk }
theorem compC {ks : List Int} {f : Int → Int} (_F : Fr h₀ L s.heap m) (_N : News h₀ L s.heap news) (hh : A.handled = none) (hclos : closureFor scope env = pure cl) (hkind : scope.kind = .function)
    (hnames : ∀ z ∈ scope.names, z.2 = .local → scope.names.lookup z.1 = some .local)
    (hcf : ∀ n acc, cellsFrom n scope.names acc = (x, n) :: acc) (hpc : ∀ h, pushCells h scope.names = h.push { cls := .type "cell", data := .cell none })
    (hx : ∀ C cl, (compEnvC scope cl C env).kindOf x = some .cell) (hs1 : ∀ v, foldedSetIterable iter env v = pure v) (hks : ks.length ≤ 1000)
    (h1 : wpAny (model prog w) A (eval iter env) (fun xv s₁ => ∃ ax its n, xv = .ref ax ∧ (∃ hp tk, s₁ = { s with heap := hp, toks := tk }) ∧ (ax, ({ cls := .type "list", data := .seq its.toArray n } : Obj)) ∈ news ∧ IntsAre its ks ∧ Fr h₀ L s₁.heap m ∧ News h₀ L s₁.heap news) E s)
    (turn : CellTurn prog w A elt x scope cl env s h₀ L m news ks f)
    (fin : ∀ D ys h tk, Fr h₀ L h m → News h₀ L h ((D, lstO ys) :: news) → IntsAre ys (ks.map f) → (∀ q ∈ news, q.1 ≠ D) → Q (.ref D) { s with heap := h, toks := tk }) :
    wpAny (model prog w) A (eval (.ListComp elt [⟨.Name x px, iter, [], 0⟩] scope pos) env) Q E s := by
  rw [eval_ListComp]
  refine wpAny_comprehension_free (use := none) rfl hs1 hclos hkind hnames (wpAny_mono h1 (fun xv s₁ h₁ => ?_) fun _ _ e => e)
  obtain ⟨ax, its, n, rfl, ⟨hp, tk, rfl⟩, hm, his, F, N⟩ := h₁
  have hl : hp.IsList ax its.toArray := ⟨_, (N _ hm).1, rfl, n, rfl⟩
  refine wpAny_pyIter_list hl ?_
  refine wpAny_newObj_type (newEnv_cell hcf hpc ?_)
  dsimp only at F N ⊢
  generalize hH1 : hp.push { cls := .type "list_iterator", data := .fields #[.ref ax, .int 0 0] } = H1
  generalize hH2 : H1.push { cls := .type "list", dict := none, data := .seq ([] : List Value).toArray } = H2
  generalize hH3 : H2.push { cls := .type "dict", data := .dict #[] } = H3
  generalize hH4 : H3.push { cls := .type "cell", data := .cell none } = H4
  have z1 : H1.objs.size = hp.objs.size + 1 := by rw [← hH1, Heap.size_push]
  have z2 : H2.objs.size = H1.objs.size + 1 := by rw [← hH2, Heap.size_push]
  have z3 : H3.objs.size = H2.objs.size + 1 := by rw [← hH3, Heap.size_push]
  have up1 : ∀ a o, hp.get? a = some o → H1.get? a = some o := fun a o e => hH1 ▸ Heap.get?_push_of_some _ e
  have up2 : ∀ a o, H1.get? a = some o → H2.get? a = some o := fun a o e => hH2 ▸ Heap.get?_push_of_some _ e
  have up3 : ∀ a o, H2.get? a = some o → H3.get? a = some o := fun a o e => hH3 ▸ Heap.get?_push_of_some _ e
  have up4 : ∀ a o, H3.get? a = some o → H4.get? a = some o := fun a o e => hH4 ▸ Heap.get?_push_of_some _ e
  have hI : H1.get? hp.objs.size = some { cls := .type "list_iterator", data := .fields #[.ref ax, .int 0 0] } := hH1 ▸ Heap.get?_push_size _ rfl
  have hD : H2.get? H1.objs.size = some (lstO []) := hH2 ▸ Heap.get?_push_size _ rfl
  have hC : H3.Ns H2.objs.size (fun _ => none) := hH3 ▸ Heap.Ns.new H2 (.type "dict")
  have hc : H4.get? (H2.objs.size + 1) = some { cls := .type "cell", data := .cell none } := by rw [← z3, ← hH4]; exact Heap.get?_push_size _ rfl
  have lt0 : ∀ a o, hp.get? a = some o → @LT.lt Nat _ a hp.objs.size := fun a o e => Heap.lt_size e
  obtain ⟨oL, _, _, hoL, _⟩ := id F.ns
  have hLlt := lt0 L oL hoL
  have new0 : ∀ a : Nat, hp.objs.size ≤ a → h₀.get? a = none := fun a ha => by
    cases e : h₀.get? a with
    | none => rfl
    | some o => exact absurd (lt0 a o (F.keep _ _ e)) (Nat.not_lt.mpr ha)
  have nlt : ∀ q ∈ news, @LT.lt Nat _ q.1 hp.objs.size := fun q hq => lt0 q.1 q.2 (N q hq).1
  have upA : ∀ a o, hp.get? a = some o → H4.get? a = some o := fun a o e => up4 _ _ (up3 _ _ (up2 _ _ (up1 _ _ e)))
  have keep1 : ∀ {h h' : Heap} (z : Addr), (∀ b o, b ≠ z → h.get? b = some o → h'.get? b = some o) → hp.objs.size ≤ z → Fr h₀ L h m → News h₀ L h news → Fr h₀ L h' m ∧ News h₀ L h' news := fun z k hz F N =>
    ⟨⟨F.ns.at' fun o e => k L o (Nat.ne_of_lt (Nat.lt_of_lt_of_le hLlt hz)) e, fun b o e => k b o (fun q => by rw [q, new0 z hz] at e; cases e) (F.keep b o e), F.above⟩, fun p hp' => ⟨k _ _ (Nat.ne_of_lt (Nat.lt_of_lt_of_le (nlt p hp') hz)) (N p hp').1, (N p hp').2⟩⟩
  generalize hcA : (H2.objs.size + 1 : Nat) = c at hc
  have hcz : c = H2.objs.size + 1 := hcA.symm
  have loop : codeAny (model prog w) A (.compLoop (.ListComp elt [⟨.Name x px, iter, [], 0⟩] scope pos) 0 (.ref hp.objs.size) (.ref H1.objs.size) (compEnvC scope ((x, c) :: cl) H2.objs.size env))
      (compPost (model prog w) A E none Q (.ref H1.objs.size) H2.objs.size) { s with heap := H4, toks := tk } := by
    have hlen : its.length = ks.length := his.length
    refine codeAny_compLoop_list (fun q s' => ∃ h' tk' i ys m' oc v, s' = { s with heap := h', toks := tk' } ∧ i ≤ its.length ∧ q = its.length + 1 - i ∧ Fr h₀ L h' m ∧ News h₀ L h' news ∧ h'.get? H1.objs.size = some (lstO ys) ∧ IntsAre ys ((ks.take i).map f) ∧
      h'.Ns H2.objs.size m' ∧ h'.get? c = some oc ∧ oc.data = .cell v ∧ h'.IsListIter hp.objs.size ax i) ?_ (its.length + 1)
      ⟨H4, tk, 0, [], _, _, none, rfl, Nat.zero_le _, rfl, F.keeps upA, N.grown upA, up4 _ _ (up3 _ _ hD), .nil, hC.keeps up4, hc, rfl, ⟨_, up4 _ _ (up3 _ _ (up2 _ _ hI)), rfl, rfl⟩⟩
    rintro q s' ⟨h', tk', i, ys, m', oc, v0, rfl, hi, rfl, F', N', hD', hys, hC', hc', hcd', hit'⟩
    have hl' : h'.IsList ax its.toArray := ⟨_, (N' _ hm).1, rfl, n, rfl⟩
    have ys_len : ys.length ≤ i := by have := hys.length; rw [List.length_map, List.length_take] at this; omega
    by_cases hlt : i < its.length
    · obtain ⟨k, t, hv, hk⟩ := IntsAre.at his i its[i] (by simp [hlt])
      refine wpAny_pyNext_list_item hit' hl' (x := .int k t) (by simp [hlt, hv]) fun h1 hit1 hs1 => ?_
      obtain ⟨F1, N1⟩ := keep1 hp.objs.size (fun b o hb e => hs1.extBut b o hb e) (Nat.le_refl _) F' N'
      have k1 : ∀ b o, b ≠ (hp.objs.size : Addr) → h'.get? b = some o → h1.get? b = some o := fun b o hb e => hs1.extBut b o hb e
      have ncI : (c : Addr) ≠ hp.objs.size := Nat.ne_of_gt (by omega)
      have nCI : (H2.objs.size : Addr) ≠ hp.objs.size := Nat.ne_of_gt (by omega)
      have nDI : (H1.objs.size : Addr) ≠ hp.objs.size := Nat.ne_of_gt (by omega)
      have nCc : (H2.objs.size : Addr) ≠ c := Nat.ne_of_lt (by omega)
      have nDc : (H1.objs.size : Addr) ≠ c := Nat.ne_of_lt (by omega)
      have nCD : (H2.objs.size : Addr) ≠ H1.objs.size := Nat.ne_of_gt (by omega)
      refine wpAny_assign_Name (wpAny_storeName_cell hkind (hx _ _) (by simp [compEnvC]) ⟨oc, k1 _ _ ncI hc', hcd'⟩ fun h2 hv2 hs2 => ?_)
      obtain ⟨F2, N2⟩ := keep1 c (fun b o hb e => hs2.extBut b o hb e) (by omega) F1 N1
      obtain ⟨oc2, hoc2, hocd2⟩ := hv2
      have k2 : ∀ b o, b ≠ (c : Addr) → h1.get? b = some o → h2.get? b = some o := fun b o hb e => hs2.extBut b o hb e
      have hC2 : h2.Ns H2.objs.size m' := (hC'.at' fun o e => k1 _ o nCI e).at' fun o e => k2 _ o nCc e
      obtain ⟨oC, hoC, hNs⟩ := PyProof.Rows.LCg.ns_obj hC2
      obtain ⟨oI, hoI, hIc, hId⟩ := hit1
      have hoI2 := k2 _ _ (Ne.symm ncI) hoI
      have hD2 := k2 _ _ nDc (k1 _ _ nDI hD')
      refine turn k t hp.objs.size H2.objs.size H1.objs.size c oI oC oc2 ys m' h2 _ _ _ (List.mem_of_getElem? hk) hNs hocd2 F2 ?_ fun t3 h3 tk3 F3 N3 => ?_
      · intro p hp'
        simp only [List.mem_cons] at hp'
        rcases hp' with rfl | rfl | rfl | rfl | hp'
        · exact ⟨hoc2, Nat.ne_of_gt (by omega), new0 _ (by omega)⟩
        · exact ⟨hoI2, Nat.ne_of_gt (by omega), new0 _ (by omega)⟩
        · exact ⟨hoC, Nat.ne_of_gt (by omega), new0 _ (by omega)⟩
        · exact ⟨hD2, Nat.ne_of_gt (by omega), new0 _ (by omega)⟩
        · exact N2 p hp'
      have g1 := (N3 (c, oc2) (by simp)).1
      have g2 := (N3 (hp.objs.size, oI) (by simp)).1
      have g3 := (N3 (H2.objs.size, oC) (by simp)).1
      have g4 := (N3 (H1.objs.size, lstO ys) (by simp)).1
      have N3' : News h₀ L h3 news := fun p hp' => N3 p (by simp [hp'])
      refine append_at g4 (fun h4 hs4 ho4 => ?_) (by rw [sizeLine_eq]; simp only [List.size_toArray]; omega)
      have k4 : ∀ b o, b ≠ (H1.objs.size : Addr) → h3.get? b = some o → h4.get? b = some o := fun b o hb e => hs4.extBut b o hb e
      obtain ⟨F4, N4⟩ := keep1 H1.objs.size k4 (by omega) F3 N3'
      refine ⟨its.length + 1 - (i + 1), by omega, h4, tk3, i + 1, ys ++ [.int (f k) t3], m', oc2, _, rfl, hlt, rfl, F4, N4, ?_, ?_, (hNs.ns g3).at' fun o e => k4 _ o nCD e, k4 _ _ (Ne.symm nDc) g1, hocd2, ⟨oI, k4 _ _ (Ne.symm nDI) g2, hIc, hId⟩⟩
      · rw [ho4]; simp
      · rw [List.take_add_one, hk, List.map_append]
        exact IntsAre.append hys (.cons _ _ .nil)
    · have hi' : i = its.length := by omega
      refine wpAny_pyNext_list_end hh hit' hl' (by simp [hi']) fun h1 he1 => ?_
      obtain ⟨F1, N1⟩ := keep1 hp.objs.size he1 (Nat.le_refl _) F' N'
      have nCI : (H2.objs.size : Addr) ≠ hp.objs.size := Nat.ne_of_gt (by omega)
      have nDI : (H1.objs.size : Addr) ≠ hp.objs.size := Nat.ne_of_gt (by omega)
      refine ⟨m', hC'.at' fun o e => he1 _ o nCI e, fun h'' hs'' => ?_⟩
      have k5 : ∀ b o, b ≠ (H2.objs.size : Addr) → h1.get? b = some o → h''.get? b = some o := fun b o hb e => hs''.extBut b o hb e
      obtain ⟨F5, N5⟩ := keep1 H2.objs.size k5 (by omega) F1 N1
      refine fin _ ys h'' tk' F5 ?_ ?_ fun q hq => ?_
      · intro p hp'
        rcases List.mem_cons.mp hp' with rfl | hp'
        · exact ⟨k5 _ _ (Nat.ne_of_lt (by omega)) (he1 _ _ nDI hD'), Nat.ne_of_gt (by omega), new0 _ (by omega)⟩
        · exact N5 p hp'
      · rw [hi', hlen, List.take_length] at hys; exact hys
      · exact Nat.ne_of_lt (by have := nlt q hq; omega)
  subst hcA
  exact codeAny_compStart_list loop (wpAny_pyIter_listiter ⟨_, up4 _ _ (up3 _ _ (up2 _ _ hI)), rfl, rfl⟩ loop)
end
end Mine

theorem Mine.calmZ1 : True ∧ True := by
  w_top off
  first | (walk1; fail "no") | exact ⟨trivial, trivial⟩

namespace Mine
open PySem PySem.W PyProof.Rows PySem.Calls Builtin
set_option maxHeartbeats 4000000
theorem mmc (a b c d : Int) : a * b * (c * d) = a * c * (b * d) := by rw [Int.mul_assoc, Int.mul_left_comm b, ← Int.mul_assoc]
/-- congruence -/
def Cg (p a b : Int) : Prop := a % p = b % p
theorem Cg.rfl {p a : Int} : Cg p a a := Eq.refl _
theorem Cg.trans {p a b c : Int} (h : Cg p a b) (h' : Cg p b c) : Cg p a c := Eq.trans h h'
theorem Cg.symm {p a b : Int} (h : Cg p a b) : Cg p b a := Eq.symm h
theorem Cg.red {p a : Int} : Cg p (a % p) a := Int.emod_emod a p
theorem Cg.mul {p a b c d : Int} (h : Cg p a b) (h' : Cg p c d) : Cg p (a * c) (b * d) := by
  unfold Cg at *; rw [Int.mul_emod, h, h', ← Int.mul_emod]
theorem Cg.sub {p a b c d : Int} (h : Cg p a b) (h' : Cg p c d) : Cg p (a - c) (b - d) := by
  unfold Cg at *; rw [Int.sub_emod, h, h', ← Int.sub_emod]
theorem Cg.add {p a b c d : Int} (h : Cg p a b) (h' : Cg p c d) : Cg p (a + c) (b + d) := by
  unfold Cg at *; rw [Int.add_emod, h, h', ← Int.add_emod]
theorem Cg.of {p a b : Int} (h : a = b) : Cg p a b := h ▸ Cg.rfl
theorem Cg.mu {p a b : Int} : Cg p (mu p a b) (a * b) := Cg.red
theorem Cg.su {p a b : Int} : Cg p (su p a b) (a - b) := Cg.red
theorem cg_mu {p c d A B a b : Int} (h : Cg p A (c * a)) (h' : Cg p B (d * b)) : Cg p (mu p A B) (c * d * mu p a b) :=
  Cg.mu.trans ((h.mul h').trans ((Cg.of (by rw [Int.mul_assoc, Int.mul_left_comm a, ← Int.mul_assoc])).trans (Cg.rfl.mul Cg.mu.symm)))
theorem cg_su {p c A B a b : Int} (h : Cg p A (c * a)) (h' : Cg p B (c * b)) : Cg p (su p A B) (c * su p a b) :=
  Cg.su.trans ((h.sub h').trans ((Cg.of (Int.mul_sub ..).symm).trans (Cg.rfl.mul Cg.su.symm)))
/-- the scale of weight i, j -/
def sc (l u : Int) (i j : Nat) : Int := l ^ i * u ^ j
theorem sc_mul (l u : Int) (i j i' j' : Nat) : sc l u i j * sc l u i' j' = sc l u (i + i') (j + j') := by
  unfold sc; rw [Int.pow_add, Int.pow_add, mmc]
theorem sm {p l u A B a b : Int} {i j i' j' : Nat} (h : Cg p A (sc l u i j * a)) (h' : Cg p B (sc l u i' j' * b)) : Cg p (mu p A B) (sc l u (i + i') (j + j') * mu p a b) := by
  rw [← sc_mul]; exact cg_mu h h'
theorem smc {p l u A a k : Int} {i j : Nat} (h : Cg p A (sc l u i j * a)) : Cg p (mu p A k) (sc l u i j * mu p a k) := by
  have := cg_mu (d := 1) h (B := k) (b := k) (Cg.of (by rw [Int.one_mul]))
  rwa [Int.mul_one] at this
def Ut (p l : Int) : Prop := ∃ k, Cg p (l * k) 1
theorem Ut.mul {p l u : Int} (h : Ut p l) (h' : Ut p u) : Ut p (l * u) := by
  obtain ⟨k, hk⟩ := h; obtain ⟨k', hk'⟩ := h'
  exact ⟨k * k', (Cg.of (mmc ..)).trans ((hk.mul hk').trans (Cg.of (by decide)))⟩
theorem Ut.pow {p l : Int} (h : Ut p l) : ∀ i : Nat, Ut p (l ^ i)
  | 0 => ⟨1, Cg.of (by rw [Int.pow_zero, Int.one_mul])⟩
  | i + 1 => by rw [Int.pow_succ]; exact (Ut.pow h i).mul h
theorem Ut.sc {p l u : Int} (h : Ut p l) (h' : Ut p u) (i j : Nat) : Ut p (sc l u i j) := (h.pow i).mul (h'.pow j)
theorem Ut.cancel {p l a b : Int} (h : Ut p l) (e : Cg p (l * a) (l * b)) : Cg p a b := by
  obtain ⟨k, hk⟩ := h
  have h1 : ∀ x, Cg p (k * (l * x)) x := fun x => (Cg.of (by rw [← Int.mul_assoc, Int.mul_comm k l])).trans ((hk.mul Cg.rfl).trans (Cg.of (Int.one_mul x)))
  exact (h1 a).symm.trans ((Cg.rfl.mul e).trans (h1 b))
theorem Cg.eq {p a b : Int} (h : Cg p a b) (ha : 0 ≤ a) (ha2 : a < p) (hb : 0 ≤ b) (hb2 : b < p) : a = b := by
  unfold Cg at h; rwa [Int.emod_eq_of_lt ha ha2, Int.emod_eq_of_lt hb hb2] at h
/-- the same residue on both sides, or on neither -/
theorem Ut.iff {p l A B a b : Int} (h : Ut p l) (hA : Cg p A (l * a)) (hB : Cg p B (l * b)) (a1 : 0 ≤ a) (a2 : a < p) (b1 : 0 ≤ b) (b2 : b < p) (A1 : 0 ≤ A) (A2 : A < p) (B1 : 0 ≤ B) (B2 : B < p) : A = B ↔ a = b := by
  constructor
  · rintro rfl
    exact (h.cancel (hA.symm.trans hB)).eq a1 a2 b1 b2
  · rintro rfl
    exact (hA.trans hB.symm).eq A1 A2 B1 B2
theorem Ut.iff0 {p l A a : Int} (h : Ut p l) (hA : Cg p A (l * a)) (a1 : 0 ≤ a) (a2 : a < p) (A1 : 0 ≤ A) (A2 : A < p) : A = 0 ↔ a = 0 :=
  h.iff hA (Cg.of (by rw [Int.mul_zero])) a1 a2 (Int.le_refl 0) (by omega) A1 A2 (Int.le_refl 0) (by omega)
/-- the point P is P' scaled by l, moved by u to the sister -/
def Hm (p u l : Int) (P P' : Pt) : Prop := Cg p P.1 (sc l u 1 2 * P'.1) ∧ Cg p P.2.1 (sc l u 1 3 * P'.2.1) ∧ Cg p P.2.2 (sc l u 1 0 * P'.2.2)
def Rl (p u : Int) (P P' : Pt) : Prop := (P.2.2 = 0 ∧ P'.2.2 = 0) ∨ ∃ l, Ut p l ∧ Hm p u l P P'
theorem re {p x l u a : Int} {i e b : Nat} (h : Cg p x (sc l u i (e + b) * a)) : Cg p x (sc (sc l u i e) u 1 b * a) := by
  have : sc l u i (e + b) = sc (sc l u i e) u 1 b := by
    unfold sc; rw [Int.pow_add, ← Int.mul_assoc, Int.pow_succ (l ^ i * u ^ e), Int.pow_zero, Int.one_mul]
  rwa [this] at h
theorem dblZ_Hm {p u l : Int} {P P' : Pt} (h : Hm p u l P P') : Hm p u (sc l u 6 9) (dblZ p P) (dblZ p P') := by
  obtain ⟨hX, hY, hZ⟩ := h
  have W := sm (smc (k := 3) hX) hX
  have S := sm hY hZ
  have B := sm (sm hX hY) S
  have H := cg_su (sm W W) (smc (k := 8) B)
  have S2 := sm S S
  exact ⟨re (e := 9) (sm (smc (k := 2) H) S), re (e := 9) (cg_su (sm W (cg_su (smc (k := 4) B) H)) (sm (sm (smc (k := 8) hY) hY) S2)), re (e := 9) (sm (smc (k := 8) S) S2)⟩
theorem dblZ_zero {p : Int} {P : Pt} (h : P.2.2 = 0) : (dblZ p P).2.2 = 0 := by simp [dblZ, mu, h]
theorem dblZ_Rl {p u : Int} {P P' : Pt} (hu : Ut p u) (h : Rl p u P P') : Rl p u (dblZ p P) (dblZ p P') := by
  rcases h with ⟨h1, h2⟩ | ⟨l, hl, h⟩
  · exact .inl ⟨dblZ_zero h1, dblZ_zero h2⟩
  · exact .inr ⟨_, hl.sc hu 6 9, dblZ_Hm h⟩
/-- both scales as one -/
theorem twoS {p u l1 l2 A B a b : Int} {j j' : Nat} (h : Cg p A (sc l1 u 1 j * a)) (h' : Cg p B (sc l2 u 1 j' * b)) : Cg p (mu p A B) (sc (l1 * l2) u 1 (j + j') * mu p a b) := by
  have e : sc (l1 * l2) u 1 (j + j') = sc l1 u 1 j * sc l2 u 1 j' := by
    unfold sc; rw [Int.pow_add, Int.pow_succ, Int.pow_succ, Int.pow_succ]; simp only [Int.pow_zero, Int.one_mul]; exact mmc ..
  rw [e]; exact cg_mu h h'
theorem addG_Hm {p u l1 l2 x1 y1 z1 x2 y2 z2 X1 Y1 Z1 X2 Y2 Z2 : Int} (h1 : Hm p u l1 (X1, Y1, Z1) (x1, y1, z1)) (h2 : Hm p u l2 (X2, Y2, Z2) (x2, y2, z2)) :
    Hm p u (sc (l2 * l1) u 4 6) (addG p X1 Y1 Z1 X2 Y2 Z2) (addG p x1 y1 z1 x2 y2 z2) := by
  obtain ⟨hX1, hY1, hZ1⟩ := h1
  obtain ⟨hX2, hY2, hZ2⟩ := h2
  dsimp only at hX1 hY1 hZ1 hX2 hY2 hZ2
  have U1 := twoS hY2 hZ1
  have V1 := twoS hX2 hZ1
  have U2 := twoS hY1 hZ2
  have V2 := twoS hX1 hZ2
  have W := twoS hZ1 hZ2
  rw [Int.mul_comm l1 l2] at U2 V2 W
  have U := cg_su U1 U2
  have V := cg_su V1 V2
  have Vs := sm V V
  have VsV2 := sm Vs V2
  have Vc := sm V Vs
  have A := cg_su (cg_su (sm (sm U U) W) Vc) (smc (k := 2) VsV2)
  exact ⟨re (e := 6) (sm V A), re (e := 6) (cg_su (sm U (cg_su VsV2 A)) (sm Vc U2)), re (e := 6) (sm Vc W)⟩
theorem addZ_Rl {p u : Int} {P1 P2 P1' P2' : Pt} (hp : 0 < p) (hu : Ut p u) (o1 : PtOk p P1) (o2 : PtOk p P2) (o1' : PtOk p P1') (o2' : PtOk p P2') (h1 : Rl p u P1 P1') (h2 : Rl p u P2 P2') : Rl p u (addZ p P1 P2) (addZ p P1' P2') := by
  have z2 : P2.2.2 = 0 ↔ P2'.2.2 = 0 := by
    rcases h2 with ⟨a, b⟩ | ⟨l, hl, h⟩
    · simp [a, b]
    · exact (hl.sc hu 1 0).iff0 h.2.2 o2'.2.2.1 o2'.2.2.2 o2.2.2.1 o2.2.2.2
  have z1 : P1.2.2 = 0 ↔ P1'.2.2 = 0 := by
    rcases h1 with ⟨a, b⟩ | ⟨l, hl, h⟩
    · simp [a, b]
    · exact (hl.sc hu 1 0).iff0 h.2.2 o1'.2.2.1 o1'.2.2.2 o1.2.2.1 o1.2.2.2
  unfold addZ
  by_cases c2 : P2'.2.2 = 0
  · rw [if_pos (z2.mpr c2), if_pos c2]; exact h1
  rw [if_neg (fun h => c2 (z2.mp h)), if_neg c2]
  by_cases c1 : P1'.2.2 = 0
  · rw [if_pos (z1.mpr c1), if_pos c1]; exact h2
  rw [if_neg (fun h => c1 (z1.mp h)), if_neg c1]
  have h1s := h1
  rcases h1 with ⟨_, b⟩ | ⟨l1, hl1, H1⟩
  · exact absurd b c1
  rcases h2 with ⟨_, b⟩ | ⟨l2, hl2, H2⟩
  · exact absurd b c2
  have V1 := twoS H2.1 H1.2.2
  have V2 := twoS H1.1 H2.2.2
  have U1 := twoS H2.2.1 H1.2.2
  have U2 := twoS H1.2.1 H2.2.2
  rw [Int.mul_comm l1 l2] at U2 V2
  have eV := ((hl2.mul hl1).sc hu 1 _).iff V1 V2 (mu_nn hp) (mu_lt hp) (mu_nn hp) (mu_lt hp) (mu_nn hp) (mu_lt hp) (mu_nn hp) (mu_lt hp)
  have eU := ((hl2.mul hl1).sc hu 1 _).iff U1 U2 (mu_nn hp) (mu_lt hp) (mu_nn hp) (mu_lt hp) (mu_nn hp) (mu_lt hp) (mu_nn hp) (mu_lt hp)
  by_cases cV : mu p P2'.1 P1'.2.2 = mu p P1'.1 P2'.2.2
  · rw [if_pos (eV.mpr cV), if_pos cV]
    by_cases cU : mu p P2'.2.1 P1'.2.2 = mu p P1'.2.1 P2'.2.2
    · rw [if_pos (eU.mpr cU), if_pos cU]; exact dblZ_Rl hu h1s
    · rw [if_neg (fun h => cU (eU.mp h)), if_neg cU]; exact .inl ⟨rfl, rfl⟩
  · rw [if_neg (fun h => cV (eV.mp h)), if_neg cV]
    exact .inr ⟨_, (hl2.mul hl1).sc hu 4 6, addG_Hm H1 H2⟩
theorem mulF_Rl {p u : Int} (hp : 0 < p) (hu : Ut p u) : ∀ (k : Nat) {P P' : Pt} {n : Int}, PtOk p P → PtOk p P' → Rl p u P P' → Rl p u (mulF p k P n) (mulF p k P' n)
  | 0, _, _, _, _, _, h => h
  | k + 1, P, P', n, o, o', h => by
    unfold mulF
    split
    · exact h
    have hd := mulF_Rl hp hu k (n := n / 2) (dblZ_ok hp P) (dblZ_ok hp P') (dblZ_Rl hu h)
    split
    · exact hd
    · exact addZ_Rl hp hu (mulF_ok hp k (dblZ_ok hp P)) o (mulF_ok hp k (dblZ_ok hp P')) o' hd h
theorem mulF_zero {p u : Int} (hp : 0 < p) (hu : Ut p u) {k : Nat} {P P' : Pt} {n : Int} (o : PtOk p P) (o' : PtOk p P') (h : Rl p u P P') (hz : (mulF p k P' n).2.2 = 0) : (mulF p k P n).2.2 = 0 := by
  rcases mulF_Rl hp hu k (n := n) o o' h with ⟨h1, _⟩ | ⟨l, hl, H⟩
  · exact h1
  · exact ((hl.sc hu 1 0).iff0 H.2.2 (mulF_ok hp k o').2.2.1 (mulF_ok hp k o').2.2.2 (mulF_ok hp k o).2.2.1 (mulF_ok hp k o).2.2.2).mpr hz
end Mine

theorem Mine.calmZ2 : True ∧ True := by
  w_top off
  first | (walk1; fail "no") | exact ⟨trivial, trivial⟩

namespace Mine
open PySem PySem.W PyProof.Rows PySem.Calls Builtin
set_option maxHeartbeats 4000000
def shortF (p b : Int) : Int := 0 - (List.map (fun x => markZ p ((x * x * x + b) % p)) (rangeKs 0 (p - 0).toNat)).sum
theorem mem_rangeKs0 {k : Int} {n : Nat} : k ∈ rangeKs 0 n ↔ 0 ≤ k ∧ k < n := by
  unfold rangeKs
  simp only [List.mem_map, List.mem_range, Int.zero_add]
  constructor
  · rintro ⟨i, hi, rfl⟩; omega
  · rintro ⟨h1, h2⟩; exact ⟨k.toNat, by omega, by omega⟩
theorem mem_pointsZ {p b : Int} (hp : 0 < p) {P : Int × Int} : P ∈ pointsZ p b ↔ (0 ≤ P.1 ∧ P.1 < p) ∧ (0 ≤ P.2 ∧ P.2 < p) ∧ P.2 * P.2 % p = (P.1 * P.1 * P.1 + b) % p := by
  obtain ⟨x, y⟩ := P
  unfold pointsZ pairsZ rootsZ
  have e : ((p - 0).toNat : Int) = p := by omega
  simp only [List.mem_flatMap, List.mem_map, List.mem_filter, mem_rangeKs0, decide_eq_true_eq, Prod.mk.injEq, e]
  constructor
  · rintro ⟨k, ⟨h1, h2⟩, j, ⟨⟨h3, h4⟩, h5⟩, rfl, rfl⟩; exact ⟨⟨h1, h2⟩, ⟨h3, h4⟩, h5⟩
  · rintro ⟨⟨h1, h2⟩, ⟨h3, h4⟩, h5⟩; exact ⟨x, ⟨h1, h2⟩, y, ⟨⟨h3, h4⟩, h5⟩, rfl, rfl⟩
/-- roots of a residue are one more than its mark -/
def RootsOk (p : Int) : Prop := ∀ k ∈ rangeKs 0 p.toNat, ((rootsZ p (p - 0).toNat k).length : Int) = 1 + markZ p k
theorem roots7 : RootsOk 7 := by unfold RootsOk; decide +kernel
theorem roots13 : RootsOk 13 := by unfold RootsOk; decide +kernel
theorem roots19 : RootsOk 19 := by unfold RootsOk; decide +kernel
theorem roots31 : RootsOk 31 := by unfold RootsOk; decide +kernel
theorem roots37 : RootsOk 37 := by unfold RootsOk; decide +kernel
theorem rootsOk {p g : Int} (h : PG p g) : RootsOk p := by
  rcases h with ⟨rfl, _⟩ | ⟨rfl, _⟩ | ⟨rfl, _⟩ | ⟨rfl, _⟩ | ⟨rfl, _⟩
  · exact roots7
  · exact roots13
  · exact roots19
  · exact roots31
  · exact roots37
theorem pairs_len {g : Int → List Int} {f : Int → Int} : ∀ (ks : List Int), (∀ k ∈ ks, ((g k).length : Int) = 1 + f k) → ((pairsZ g ks).length : Int) = ks.length + (ks.map f).sum
  | [], _ => rfl
  | k :: ks, h => by
    have h1 := h k List.mem_cons_self
    have h2 := pairs_len ks fun k hk => h k (List.mem_cons_of_mem _ hk)
    unfold pairsZ at h2 ⊢
    simp only [List.flatMap_cons, List.length_append, List.length_map, List.map_cons, List.sum_cons, List.length_cons] at h2 ⊢
    omega
theorem points_len {p g b : Int} (h : PG p g) (hp : 0 < p) : ((pointsZ p b).length : Int) = p - shortF p b := by
  have hr := rootsOk h
  unfold pointsZ shortF
  rw [pairs_len (f := fun x => markZ p ((x * x * x + b) % p))]
  · have : (rangeKs 0 (p - 0).toNat).length = (p - 0).toNat := by simp [rangeKs]
    omega
  · intro k hk
    refine hr _ (mem_rangeKs0.mpr ⟨Int.emod_nonneg _ (by omega), ?_⟩)
    have := Int.emod_lt_of_pos (k * k * k + b) hp
    omega
/-- the shorts as a table -/
def tS (p : Int) : List Int := if p = 7 then [0, -4, -1, -5, 5, 1, 4] else if p = 13 then [0, 2, -5, 5, -7, -2, 7, 7, -2, -7, 5, -5, 2] else if p = 19 then [0, 8, 7, 7, -1, -7, -1, 8, -8, -1, 1, 8, -8, 1, 7, 1, -7, -7, -8]
  else if p = 31 then [0, -4, -4, -11, -4, -7, -11, 11, -4, -7, -7, 7, -11, 7, 11, 4, -4, -11, -7, 11, -7, 7, 7, 4, -11, 11, 7, 4, 11, 4, 4]
  else [0, -10, -11, -1, -1, 1, 10, -1, 10, 11, -10, -10, 11, 1, 10, -11, 11, -11, 1, 1, -11, 11, -11, 10, 1, 11, -10, -10, 11, 10, -1, 10, 1, -1, -1, -11, -10]
theorem tS7 : (rangeKs 0 7).map (shortF 7) = tS 7 := by decide +kernel
theorem tS13 : (rangeKs 0 13).map (shortF 13) = tS 13 := by decide +kernel
theorem tS19 : (rangeKs 0 19).map (shortF 19) = tS 19 := by decide +kernel
theorem tS31 : (rangeKs 0 31).map (shortF 31) = tS 31 := by decide +kernel
theorem tS37 : (rangeKs 0 37).map (shortF 37) = tS 37 := by decide +kernel
theorem tS_eq {p g : Int} (h : PG p g) : (rangeKs 0 p.toNat).map (shortF p) = tS p := by
  rcases h with ⟨rfl, _⟩ | ⟨rfl, _⟩ | ⟨rfl, _⟩ | ⟨rfl, _⟩ | ⟨rfl, _⟩
  · exact tS7
  · exact tS13
  · exact tS19
  · exact tS31
  · exact tS37
theorem short_tab {p g b : Int} (h : PG p g) (h0 : 0 ≤ b) (hb : b < p) : shortF p b = (tS p).getD b.toNat 0 := by
  have e := tS_eq h
  rw [← e]
  have hl : b.toNat < p.toNat := by omega
  simp [rangeKs, List.getD_eq_getElem?_getD, hl, Int.toNat_of_nonneg h0]
/-- the short of the sister k at g alone -/
def sG (p g : Int) (k : Nat) : Int := (tS p).getD (g ^ k % p).toNat 0
def ShortsOk (p g : Int) : Prop := ∀ r ∈ rangeKs 1 (p - 1).toNat, ∀ k ∈ List.range 6, (tS p).getD (g ^ k * r ^ 6 % p).toNat 0 = sG p g k
def SumsOk (p g : Int) : Prop := (sG p g 0 + sG p g 3 = 0 ∧ sG p g 1 + sG p g 4 = 0 ∧ sG p g 2 + sG p g 5 = 0) ∧ sG p g 0 + sG p g 2 + sG p g 4 = 0 ∧
  sG p g 0 * sG p g 0 + sG p g 1 * sG p g 1 + sG p g 2 * sG p g 2 + sG p g 3 * sG p g 3 + sG p g 4 * sG p g 4 + sG p g 5 * sG p g 5 = 12 * p
theorem shortsOk {p g : Int} (h : PG p g) : ShortsOk p g := by
  rcases h with ⟨rfl, rfl⟩ | ⟨rfl, rfl⟩ | ⟨rfl, rfl⟩ | ⟨rfl, rfl⟩ | ⟨rfl, rfl⟩ <;> unfold ShortsOk <;> decide +kernel
theorem sumsOk {p g : Int} (h : PG p g) : SumsOk p g := by
  rcases h with ⟨rfl, rfl⟩ | ⟨rfl, rfl⟩ | ⟨rfl, rfl⟩ | ⟨rfl, rfl⟩ | ⟨rfl, rfl⟩ <;> unfold SumsOk <;> decide +kernel
theorem short_k {p g r : Int} (h : PG p g) (hp : 0 < p) (h1 : 1 ≤ r) (h2 : r < p) {k : Nat} (hk : k < 6) : shortF p (g ^ k * r ^ 6 % p) = sG p g k := by
  rw [short_tab h (Int.emod_nonneg _ (by omega)) (Int.emod_lt_of_pos _ hp)]
  refine shortsOk h r ?_ k (List.mem_range.mpr hk)
  unfold rangeKs
  exact List.mem_map.mpr ⟨(r - 1).toNat, List.mem_range.mpr (by omega), by omega⟩
theorem sG_eq {p g : Int} (h : PG p g) (hp : 0 < p) (k : Nat) : shortF p (g ^ k % p) = sG p g k := short_tab h (Int.emod_nonneg _ (by omega)) (Int.emod_lt_of_pos _ hp)
def MulOk (p g : Int) (k : Nat) : Prop := ∀ P ∈ pointsZ p (g ^ k % p), (mulF p 6 (P.1, P.2, 1) (p + 1 - sG p g k)).2.2 = 0
theorem mulOk7 : ∀ k ∈ List.range 6, MulOk 7 3 k := by unfold MulOk; decide +kernel
theorem mulOk13 : ∀ k ∈ List.range 6, MulOk 13 2 k := by unfold MulOk; decide +kernel
theorem mulOk19 : ∀ k ∈ List.range 6, MulOk 19 2 k := by unfold MulOk; decide +kernel
theorem mulOk31a : ∀ k ∈ [0, 1, 2], MulOk 31 3 k := by unfold MulOk; decide +kernel
theorem mulOk31b : ∀ k ∈ [3, 4, 5], MulOk 31 3 k := by unfold MulOk; decide +kernel
theorem mulOk37a : ∀ k ∈ [0, 1, 2], MulOk 37 2 k := by unfold MulOk; decide +kernel
theorem mulOk37b : ∀ k ∈ [3, 4, 5], MulOk 37 2 k := by unfold MulOk; decide +kernel
theorem mulOk {p g : Int} (h : PG p g) {k : Nat} (hk : k < 6) : MulOk p g k := by
  have hm := List.mem_range.mpr hk
  have hs : k ∈ [0, 1, 2] ∨ k ∈ [3, 4, 5] := by
    simp only [List.mem_cons, List.not_mem_nil, or_false]; omega
  rcases h with ⟨rfl, rfl⟩ | ⟨rfl, rfl⟩ | ⟨rfl, rfl⟩ | ⟨rfl, rfl⟩ | ⟨rfl, rfl⟩
  · exact mulOk7 k hm
  · exact mulOk13 k hm
  · exact mulOk19 k hm
  · exact hs.elim (mulOk31a k) (mulOk31b k)
  · exact hs.elim (mulOk37a k) (mulOk37b k)
end Mine

theorem Mine.calmZ3 : True ∧ True := by
  w_top off
  first | (walk1; fail "no") | exact ⟨trivial, trivial⟩

namespace Mine
open PySem PySem.W PyProof.Rows PySem.Calls Builtin
set_option maxHeartbeats 4000000
def UtOk (p : Int) : Prop := ∀ r ∈ rangeKs 1 (p - 1).toNat, ∃ k ∈ rangeKs 1 (p - 1).toNat, r * k % p = 1
theorem utOk {p g : Int} (h : PG p g) : UtOk p := by
  rcases h with ⟨rfl, _⟩ | ⟨rfl, _⟩ | ⟨rfl, _⟩ | ⟨rfl, _⟩ | ⟨rfl, _⟩ <;> unfold UtOk <;> decide +kernel
theorem ut_of {p g r : Int} (h : PG p g) (hp : 1 < p) (h1 : 1 ≤ r) (h2 : r < p) : Ut p r := by
  obtain ⟨k, _, hk⟩ := utOk h r (by unfold rangeKs; exact List.mem_map.mpr ⟨(r - 1).toNat, List.mem_range.mpr (by omega), by omega⟩)
  exact ⟨k, by unfold Cg; rw [hk, Int.emod_eq_of_lt (by omega) hp]⟩
theorem Cg.pow {p a b : Int} (h : Cg p a b) : ∀ n : Nat, Cg p (a ^ n) (b ^ n)
  | 0 => Cg.of (by rw [Int.pow_zero, Int.pow_zero])
  | n + 1 => by rw [Int.pow_succ, Int.pow_succ]; exact (Cg.pow h n).mul h
theorem one_pow' (n : Nat) : (1 : Int) ^ n = 1 := by
  induction n with
  | zero => rfl
  | succ n ih => rw [Int.pow_succ, ih]; rfl
theorem point_inf {p g r x y s : Int} {k : Nat} (h : PG p g) (hp : 1 < p) (hr1 : 1 ≤ r) (hr2 : r < p) (hk : k < 6) (hs1 : 1 ≤ s) (hs2 : s < p)
    (hP : (x, y) ∈ pointsZ p (g ^ k * r ^ 6 % p)) : (mulF p 6 (x * s % p, y * s % p, s % p) (p + 1 - sG p g k)).2.2 = 0 := by
  have hp0 : 0 < p := by omega
  have hur := ut_of h hp hr1 hr2
  have hus := ut_of h hp hs1 hs2
  obtain ⟨v, hv⟩ := id hur
  obtain ⟨_, _, hc⟩ := (mem_pointsZ hp0).mp hP
  dsimp only at hc
  have md : ∀ z : Int, 0 ≤ z % p ∧ z % p < p := fun z => ⟨Int.emod_nonneg _ (by omega), Int.emod_lt_of_pos _ hp0⟩
  have m1 : (0 : Int) ≤ 1 ∧ 1 < p := ⟨by decide, hp⟩
  have e1 : Cg p ((v ^ 3 * y % p) * (v ^ 3 * y % p)) ((v ^ 2 * x % p) * (v ^ 2 * x % p) * (v ^ 2 * x % p) + g ^ k % p) := by
    have a1 : Cg p ((v ^ 3 * y % p) * (v ^ 3 * y % p)) (v ^ 6 * (y * y)) := (Cg.red.mul Cg.red).trans (Cg.of (by grind))
    have a2 : Cg p (y * y) (x * x * x + g ^ k * r ^ 6) := (show Cg p (y * y) _ from hc).trans (Cg.rfl.add Cg.red)
    have a3 : Cg p (v ^ 6 * (x * x * x + g ^ k * r ^ 6)) (v ^ 6 * (x * x * x) + g ^ k * (r * v) ^ 6) := Cg.of (by grind)
    have a4 : Cg p (v ^ 6 * (x * x * x) + g ^ k * (r * v) ^ 6) (v ^ 6 * (x * x * x) + g ^ k * 1 ^ 6) := Cg.rfl.add (Cg.rfl.mul (hv.pow 6))
    have a5 : Cg p ((v ^ 2 * x % p) * (v ^ 2 * x % p) * (v ^ 2 * x % p) + g ^ k % p) (v ^ 6 * (x * x * x) + g ^ k * 1 ^ 6) :=
      (((Cg.red.mul Cg.red).mul Cg.red).add Cg.red).trans (Cg.of (by grind))
    exact a1.trans ((Cg.rfl.mul a2).trans (a3.trans (a4.trans a5.symm)))
  have hb : (v ^ 2 * x % p, v ^ 3 * y % p) ∈ pointsZ p (g ^ k % p) := (mem_pointsZ hp0).mpr ⟨md _, md _, e1⟩
  have hz := mulOk h hk _ hb
  generalize hn : p + 1 - sG p g k = n at hz ⊢
  have o1 : PtOk p (x * s % p, y * s % p, s % p) := ⟨md _, md _, md _⟩
  have o2 : PtOk p (v ^ 2 * x % p, v ^ 3 * y % p, 1) := ⟨md _, md _, m1⟩
  refine mulF_zero hp0 hur o1 o2 (.inr ⟨s, hus, ?_, ?_, ?_⟩) hz
  · show Cg p (x * s % p) (sc s r 1 2 * (v ^ 2 * x % p))
    have c1 : Cg p (sc s r 1 2 * (v ^ 2 * x % p)) (sc s r 1 2 * (v ^ 2 * x)) := Cg.rfl.mul Cg.red
    have c2 : Cg p (sc s r 1 2 * (v ^ 2 * x)) ((r * v) ^ 2 * (x * s)) := Cg.of (by unfold sc; grind)
    have c3 : Cg p ((r * v) ^ 2 * (x * s)) (1 ^ 2 * (x * s)) := (hv.pow 2).mul Cg.rfl
    exact Cg.red.trans ((c1.trans (c2.trans (c3.trans (Cg.of (by grind))))).symm)
  · show Cg p (y * s % p) (sc s r 1 3 * (v ^ 3 * y % p))
    have c1 : Cg p (sc s r 1 3 * (v ^ 3 * y % p)) (sc s r 1 3 * (v ^ 3 * y)) := Cg.rfl.mul Cg.red
    have c2 : Cg p (sc s r 1 3 * (v ^ 3 * y)) ((r * v) ^ 3 * (y * s)) := Cg.of (by unfold sc; grind)
    have c3 : Cg p ((r * v) ^ 3 * (y * s)) (1 ^ 3 * (y * s)) := (hv.pow 3).mul Cg.rfl
    exact Cg.red.trans ((c1.trans (c2.trans (c3.trans (Cg.of (by grind))))).symm)
  · show Cg p (s % p) (sc s r 1 0 * 1)
    exact Cg.red.trans (Cg.of (by unfold sc; grind))
theorem powF2 {p a : Int} : Cg p (powF p 3 a 2) (a * a) := by
  have : powF p 3 a 2 = mu p a a % p := by simp [powF]
  rw [this]; exact Cg.red.trans Cg.mu
theorem powF3 {p a : Int} : Cg p (powF p 3 a 3) (a * a * a) := by
  have : powF p 3 a 3 = mu p (mu p a a % p) a := by simp [powF]
  rw [this]; exact Cg.mu.trans ((Cg.red.trans Cg.mu).mul Cg.rfl)
theorem point_on {p b x y s : Int} (hp : 0 < p) (hP : (x, y) ∈ pointsZ p b) : onZ p (x * s % p, y * s % p, s % p) (b % p) = true := by
  obtain ⟨_, _, hc⟩ := (mem_pointsZ hp).mp hP
  dsimp only at hc
  unfold onZ
  dsimp only
  rw [beq_iff_eq]
  refine Cg.eq ?_ (su_nn hp) (su_lt hp) (mu_nn hp) (mu_lt hp)
  have h1 : Cg p (mu p (powF p 3 (y * s % p) 2) (s % p)) (y * y * (s * s * s)) := Cg.mu.trans ((((powF2.trans (Cg.red.mul Cg.red)).mul Cg.red)).trans (Cg.of (by grind)))
  have h2 : Cg p (powF p 3 (x * s % p) 3) (x * x * x * (s * s * s)) := (powF3.trans ((Cg.red.mul Cg.red).mul Cg.red)).trans (Cg.of (by grind))
  have h3 : Cg p (mu p (b % p) (powF p 3 (s % p) 3)) (b * (s * s * s)) := Cg.mu.trans (Cg.red.mul (powF3.trans ((Cg.red.mul Cg.red).mul Cg.red)))
  refine (Cg.su.trans (h1.sub h2)).trans (Cg.trans ?_ h3.symm)
  have h4 : Cg p (y * y) (x * x * x + b) := hc
  exact ((h4.mul Cg.rfl).sub Cg.rfl).trans (Cg.of (by grind))
theorem short_bound {p g : Int} {k : Nat} (h : PG p g) (hk : k < 6) : 1 ≤ p + 1 - sG p g k ∧ p + 1 - sG p g k < 64 ∧ -12 < sG p g k ∧ sG p g k < 12 := by
  have : ∀ k ∈ List.range 6, 1 ≤ p + 1 - sG p g k ∧ p + 1 - sG p g k < 64 ∧ -12 < sG p g k ∧ sG p g k < 12 := by
    rcases h with ⟨rfl, rfl⟩ | ⟨rfl, rfl⟩ | ⟨rfl, rfl⟩ | ⟨rfl, rfl⟩ | ⟨rfl, rfl⟩ <;> decide +kernel
  exact this k (List.mem_range.mpr hk)
end Mine

theorem Mine.calmM2 : True ∧ True := by
  w_top off
  first | (walk1; fail "no") | exact ⟨trivial, trivial⟩

namespace Mine
open PySem PySem.W PyProof.Rows PySem.Calls Builtin
set_option maxHeartbeats 4000000
section
variable {prog : Program} {w : World} {A : Around} {E : Value → Shared → Prop} {s : Shared} {Q : Value → Shared → Prop}
theorem mul_xx {k p : Int} {t u : Tok} (h0 : 0 ≤ k) (h1 : k < 0 + ((p - 0).toNat : Int)) (hp : p ≤ 37) (h : Q (.int (k * k) s.toks) { s with toks := s.toks + 1 }) :
    wpAny (model prog w) A (binaryOp .Mult (.int k t) (.int k u)) Q E s :=
  mul_int (hm := PySem.IntMulOk.of_right (PySem.intBits_le_64 (by omega) (by omega))) h
theorem mul_xxx {k p : Int} {t u : Tok} (h0 : 0 ≤ k) (h1 : k < 0 + ((p - 0).toNat : Int)) (hp : p ≤ 37) (h : Q (.int (k * k * k) s.toks) { s with toks := s.toks + 1 }) :
    wpAny (model prog w) A (binaryOp .Mult (.int (k * k) t) (.int k u)) Q E s :=
  mul_int (hm := PySem.IntMulOk.of_right (PySem.intBits_le_64 (by omega) (by omega))) h
theorem range_item {n i : Nat} (h : i < n) : (rangeKs 0 n)[i]? = some (i : Int) := by simp [rangeKs, h]
theorem map_item {h₀ : Heap} {L : Addr} {news : List (Addr × Obj)} {value slice : PySem.Expr} {l : Addr} {vs : List Value} {n : Nat} {f : Int → Int} {k : Int} {u : Tok}
    (N : News h₀ L s.heap news) (hm : (l, lstO vs) ∈ news) (hi : IntsAre vs ((rangeKs 0 n).map f)) (h0 : 0 ≤ k) (h1 : k < n) (hn : n < 2 ^ 20) (h : ∀ t, Q (.int (f k) t) s)
    (hs : subscripted slice false (.ref l) (.int k u) = operate [.ref l, .int k u] (getItem (.ref l) (.int k u)) := by with_unfolding_all rfl) :
    wpAny (model prog w) A (subscriptTail value slice (.ref l) (.int k u)) Q E s := by
  have hlen := hi.length
  rw [List.length_map, rangeKs_length] at hlen
  have hk : k.toNat < n := by omega
  obtain ⟨z, t, hz, he⟩ := IntsAre.at hi k.toNat (vs[k.toNat]'(by omega)) (by simp)
  have e : z = f k := by
    rw [List.getElem?_map, range_item hk, Option.map_some] at he
    have := Option.some.inj he
    rw [← this, Int.toNat_of_nonneg h0]
  refine list_item N hm h0 (by omega) (v := .int z t) ?_ (e ▸ h t) hs
  rw [← hz]; simp
theorem mark_item {h₀ : Heap} {L : Addr} {news : List (Addr × Obj)} {value slice : PySem.Expr} {l : Addr} {vs : List Value} {p e : Int} {u : Tok}
    (N : News h₀ L s.heap news) (hm : (l, lstO vs) ∈ news) (hi : IntsAre vs ((rangeKs 0 (p - 0).toNat).map fun k' => markZ p k')) (hp : 7 ≤ p) (hp2 : p ≤ 37) (h : ∀ t, Q (.int (markZ p (e % p)) t) s)
    (hs : subscripted slice false (.ref l) (.int (e.fmod p) u) = operate [.ref l, .int (e.fmod p) u] (getItem (.ref l) (.int (e.fmod p) u)) := by with_unfolding_all rfl) :
    wpAny (model prog w) A (subscriptTail value slice (.ref l) (.int (e.fmod p) u)) Q E s := by
  have e1 : e.fmod p = e % p := fm1 (by omega)
  have h1 : 0 ≤ e % p := Int.emod_nonneg _ (by omega)
  have h2 : e % p < p := Int.emod_lt_of_pos _ (by omega)
  refine map_item N hm hi (by omega) (by omega) (by omega) (fun t => ?_) hs
  rw [e1]; exact h t
theorem sum_made {h₀ : Heap} {L : Addr} {m : Str → Option Value} {news : List (Addr × Obj)} {l : Addr} {vs : List Value} {ns : List Int} (hh : A.handled = none) (F : Fr h₀ L s.heap m) (N : News h₀ L s.heap news)
    (hm : (l, lstO vs) ∈ news) (hi : IntsAre vs ns) (h : ∀ h' tk t', Fr h₀ L h' m → News h₀ L h' news → Q (.int ns.sum t') { s with heap := h', toks := tk }) :
    wpAny (model prog w) A (call (.builtin "sum") [.ref l]) Q E s := sumK hh F N (N.isList hm) hi h
end
theorem off1_of {D : Addr} : ∀ {news : List (Addr × Obj)}, (∀ q ∈ news, q.1 ≠ D) → LCg.Off1 D news
  | [], _ => trivial
  | _ :: _, h => ⟨h _ List.mem_cons_self, off1_of fun q hq => h q (List.mem_cons_of_mem _ hq)⟩
theorem shorts_vals {p g r sx : Int} (h : PG p g) (hp : 7 ≤ p) (h1 : 1 ≤ r) (h2 : r < p) (hsx : sx = r ^ 6) :
    List.map (shortF p) (List.map (fun k' => (g ^ k'.toNat * sx).fmod p) (rangeKs 0 ((6 : Int) - 0).toNat)) = [sG p g 0, sG p g 1, sG p g 2, sG p g 3, sG p g 4, sG p g 5] := by
  have e : rangeKs 0 ((6 : Int) - 0).toNat = [0, 1, 2, 3, 4, 5] := by decide
  have hp0 : 0 < p := by omega
  subst hsx
  rw [e]
  simp only [List.map_cons, List.map_nil, fm1 hp0]
  rw [← short_k h hp0 h1 h2 (k := 0) (by decide), ← short_k h hp0 h1 h2 (k := 1) (by decide), ← short_k h hp0 h1 h2 (k := 2) (by decide), ← short_k h hp0 h1 h2 (k := 3) (by decide), ← short_k h hp0 h1 h2 (k := 4) (by decide), ← short_k h hp0 h1 h2 (k := 5) (by decide)]
  rfl
theorem ints6 {ys : List Value} {a b c d e f : Int} (h : IntsAre ys [a, b, c, d, e, f]) : ∃ t0 t1 t2 t3 t4 t5 : Tok, ys = [.int a t0, .int b t1, .int c t2, .int d t3, .int e t4, .int f t5] := by
  cases h with | cons _ t0 h => cases h with | cons _ t1 h => cases h with | cons _ t2 h => cases h with | cons _ t3 h => cases h with | cons _ t4 h => cases h with | cons _ t5 h => cases h; exact ⟨t0, t1, t2, t3, t4, t5, rfl⟩
/-- what is known of the six shorts -/
def SixOk (p : Int) (S : Nat → Int) : Prop := (S 0 + S 3 = 0 ∧ S 1 + S 4 = 0 ∧ S 2 + S 5 = 0) ∧ S 0 + S 2 + S 4 = 0 ∧ S 0 * S 0 + S 1 * S 1 + S 2 * S 2 + S 3 * S 3 + S 4 * S 4 + S 5 * S 5 = 12 * p
theorem sixOk {p g : Int} {S : Nat → Int} (h : PG p g) (e : sG p g = S) : SixOk p S := by subst e; exact sumsOk h
theorem sixBd {p g : Int} {S : Nat → Int} (h : PG p g) (e : sG p g = S) {k : Nat} (hk : k < 6) : -12 < S k ∧ S k < 12 := by subst e; exact (short_bound h hk).2.2
theorem six_item {prog : Program} {w : World} {A : Around} {E : Value → Shared → Prop} {s : Shared} {Q : Value → Shared → Prop} {h₀ : Heap} {L : Addr} {news : List (Addr × Obj)} {value slice : PySem.Expr} {l : Addr} {S : Nat → Int} {t0 t1 t2 t3 t4 t5 : Tok} {k : Int} {u : Tok}
    (N : News h₀ L s.heap news) (hm : (l, lstO [.int (S 0) t0, .int (S 1) t1, .int (S 2) t2, .int (S 3) t3, .int (S 4) t4, .int (S 5) t5]) ∈ news) (h0 : 0 ≤ k) (h1 : k < 6) (h : ∀ t, Q (.int (S k.toNat) t) s)
    (hs : subscripted slice false (.ref l) (.int k u) = operate [.ref l, .int k u] (getItem (.ref l) (.int k u)) := by with_unfolding_all rfl) :
    wpAny (model prog w) A (subscriptTail value slice (.ref l) (.int k u)) Q E s := by
  have e : k = 0 ∨ k = 1 ∨ k = 2 ∨ k = 3 ∨ k = 4 ∨ k = 5 := by omega
  rcases e with rfl | rfl | rfl | rfl | rfl | rfl
  · exact list_item N hm (by decide) (by decide) rfl (h t0) hs
  · exact list_item N hm (by decide) (by decide) rfl (h t1) hs
  · exact list_item N hm (by decide) (by decide) rfl (h t2) hs
  · exact list_item N hm (by decide) (by decide) rfl (h t3) hs
  · exact list_item N hm (by decide) (by decide) rfl (h t4) hs
  · exact list_item N hm (by decide) (by decide) rfl (h t5) hs
theorem lt3 {k : Int} (h : k < 0 + (((3 : Int) - 0).toNat : Int)) : k < 6 := by omega
theorem lt33 {k : Int} (h : k < 0 + (((3 : Int) - 0).toNat : Int)) : k + 3 < 6 := by omega
theorem nn33 {k : Int} (h : 0 ≤ k) : 0 ≤ k + 3 := by omega
theorem sums_ne {prog : Program} {w : World} {A : Around} {E : Value → Shared → Prop} {s : Shared} {Q : Value → Shared → Prop} {h₀ : Heap} {L : Addr} {news : List (Addr × Obj)} {a b : Addr} {ys : List Value} {S : Nat → Int} {p : Int} {t0 t1 t2 : Tok} {n : Nat}
    (N : News h₀ L s.heap news) (m1 : (a, lstO ys) ∈ news) (m2 : (b, listOf #[.int 0 t0, .int 0 t1, .int 0 t2] n) ∈ news) (hi : IntsAre ys (List.map (fun k' => S k'.toNat + S (k' + 3).toNat) (rangeKs 0 ((3 : Int) - 0).toNat)))
    (h6 : SixOk p S) (hu : A.units + 64 < cLine) (h : Q (.bool false) s) : wpAny (model prog w) A (compareOp .NotEq (.ref a) (.ref b)) Q E s := by
  have e : List.map (fun k' => S k'.toNat + S (k' + 3).toNat) (rangeKs 0 ((3 : Int) - 0).toNat) = [0, 0, 0] := by
    rw [show rangeKs 0 ((3 : Int) - 0).toNat = [0, 1, 2] from by decide]
    show [S 0 + S 3, S 1 + S 4, S 2 + S 5] = [0, 0, 0]
    rw [h6.1.1, h6.1.2.1, h6.1.2.2]
  rw [e] at hi
  refine ke_ne_ints (ys := [.int 0 t0, .int 0 t1, .int 0 t2]) (N.isList m1) (N.isList m2) hi (.cons _ _ (.cons _ _ (.cons _ _ .nil))) hu ?_
  rw [decide_eq_true rfl]; exact h
theorem mul_ss {prog : Program} {w : World} {A : Around} {E : Value → Shared → Prop} {s : Shared} {Q : Value → Shared → Prop} {a : Int} {t u : Tok} (h1 : -12 < a ∧ a < 12) (h : Q (.int (a * a) s.toks) { s with toks := s.toks + 1 }) :
    wpAny (model prog w) A (binaryOp .Mult (.int a t) (.int a u)) Q E s :=
  mul_int (hm := PySem.IntMulOk.of_right (PySem.intBits_le_64 (by omega) (by omega))) h
theorem mul_sm {prog : Program} {w : World} {A : Around} {E : Value → Shared → Prop} {s : Shared} {Q : Value → Shared → Prop} {a : Int} {l : List Int} {t u : Tok} (hm : a ∈ l) (hb : ∀ k ∈ l, -12 < k ∧ k < 12) (h : Q (.int (a * a) s.toks) { s with toks := s.toks + 1 }) :
    wpAny (model prog w) A (binaryOp .Mult (.int a t) (.int a u)) Q E s := mul_ss (hb a hm) h
theorem six_bds {p g : Int} {S : Nat → Int} (h : PG p g) (e : sG p g = S) : ∀ k ∈ [S 0, S 1, S 2, S 3, S 4, S 5], -12 < k ∧ k < 12 := by
  intro k hk
  simp only [List.mem_cons, List.not_mem_nil, or_false] at hk
  rcases hk with rfl | rfl | rfl | rfl | rfl | rfl
  · exact sixBd h e (by decide)
  · exact sixBd h e (by decide)
  · exact sixBd h e (by decide)
  · exact sixBd h e (by decide)
  · exact sixBd h e (by decide)
  · exact sixBd h e (by decide)
theorem sq_sum {p : Int} {S : Nat → Int} (h : SixOk p S) : ((List.map (fun k' => k' * k') [S 0, S 1, S 2, S 3, S 4, S 5]).sum != 12 * p) = false := by
  have := h.2.2
  simp only [List.map_cons, List.map_nil, List.sum_cons, List.sum_nil, bne_eq_false_iff_eq]
  omega
section
variable {prog : Program} {w : World} {A : Around} {E : Value → Shared → Prop} {s : Shared} {Q : Value → Shared → Prop} {h₀ : Heap} {L : Addr} {news : List (Addr × Obj)} {value slice : PySem.Expr}
theorem mod6 {v : Int} {t u : Tok} (h : ∀ j : Nat, j < 6 → Q (.int (j : Int) s.toks) { s with toks := s.toks + 1 }) : wpAny (model prog w) A (binaryOp .Mod (.int v t) (.int 6 u)) Q E s := by
  refine mod_int' (by decide) ?_
  have h1 : 0 ≤ v.fmod 6 := Int.fmod_nonneg_of_pos _ (by decide)
  have h2 : v.fmod 6 < 6 := Int.fmod_lt_of_pos _ (by decide)
  have := h (v.fmod 6).toNat (by omega)
  rwa [Int.toNat_of_nonneg h1] at this
theorem num_item {l : Addr} {ys : List Value} {g sx p : Int} {j : Nat} {u : Tok} (N : News h₀ L s.heap news) (hm : (l, lstO ys) ∈ news) (hi : IntsAre ys (List.map (fun k' => (g ^ k'.toNat * sx).fmod p) (rangeKs 0 ((6 : Int) - 0).toNat)))
    (hp : 7 ≤ p) (hj : j < 6) (h : ∀ b t, b = g ^ j * sx % p → 0 ≤ b → b < p → Q (.int b t) s)
    (hs : subscripted slice false (.ref l) (.int (j : Int) u) = operate [.ref l, .int (j : Int) u] (getItem (.ref l) (.int (j : Int) u)) := by with_unfolding_all rfl) :
    wpAny (model prog w) A (subscriptTail value slice (.ref l) (.int (j : Int) u)) Q E s := by
  have e : ((6 : Int) - 0).toNat = 6 := by decide
  rw [e] at hi
  refine map_item N hm hi (by omega) (by omega) (by decide) (fun t => ?_) hs
  have hp0 : 0 < p := by omega
  rw [fm1 hp0, Int.toNat_natCast]
  exact h _ t rfl (Int.emod_nonneg _ (by omega)) (Int.emod_lt_of_pos _ hp0)
theorem RP_length (P : List PT) : (RP P).length = P.length := List.length_map ..
theorem len_pts {l : Addr} {P : List PT} {n : Nat} (N : News h₀ L s.heap news) (hm : (l, listOf (RP P).toArray n) ∈ news) (hb : P.length ≤ 10000) (h : Q (.int (P.length : Int) (s.toks + 1)) { s with toks := s.toks + 1 + 1 }) :
    wpAny (model prog w) A (call (.builtin "len") [.ref l]) Q E s := by
  refine len_list (N.isList hm) (by rw [List.size_toArray, RP_length]; omega) ?_
  rw [List.size_toArray, RP_length]; exact h
theorem eq_nil_pts {l b : Addr} {P : List PT} {n n2 : Nat} (N : News h₀ L s.heap news) (m1 : (l, listOf (RP P).toArray n) ∈ news) (m2 : (b, listOf #[] n2) ∈ news) (hu : A.units < cLine) (h1 : P = [] → Q (.bool true) s) (h2 : P ≠ [] → Q (.bool false) s) :
    wpAny (model prog w) A (compareOp .Eq (.ref l) (.ref b)) Q E s := by
  have i1 : s.heap.IsList l (RP P).toArray := N.isList m1
  have i2 : s.heap.IsList b ([] : List Value).toArray := N.isList m2
  by_cases h : P = []
  · subst h
    refine PySem.SeqAt.eq_listAt (e := fun _ => true) i1 i2 rfl hu (fun j j1 _ => absurd j1 (Nat.not_lt_zero j)) ?_
    exact h1 rfl
  · refine PySem.SeqAt.eq_list_lengthsAt i1 i2 ?_ hu (h2 h)
    have : P.length ≠ 0 := fun e => h (List.eq_nil_of_length_eq_zero e)
    simp [RP_length, this]
theorem pts_item {l : Addr} {P : List PT} {n : Nat} {v : Int} {u : Tok} (N : News h₀ L s.heap news) (hm : (l, listOf (RP P).toArray n) ∈ news) (hne : P ≠ []) (hb : P.length ≤ 10000) (h : ∀ q ∈ P, Q (.ref q.1) s)
    (hs : subscripted slice false (.ref l) (.int (v.fmod (P.length : Int)) u) = operate [.ref l, .int (v.fmod (P.length : Int)) u] (getItem (.ref l) (.int (v.fmod (P.length : Int)) u)) := by with_unfolding_all rfl) :
    wpAny (model prog w) A (subscriptTail value slice (.ref l) (.int (v.fmod (P.length : Int)) u)) Q E s := by
  have h0 : P.length ≠ 0 := fun e => hne (List.eq_nil_of_length_eq_zero e)
  have h1 : 0 ≤ v.fmod (P.length : Int) := Int.fmod_nonneg_of_pos _ (by omega)
  have h2 : v.fmod (P.length : Int) < P.length := Int.fmod_lt_of_pos _ (by omega)
  have h3 : (v.fmod (P.length : Int)).toNat < P.length := by omega
  refine list_item N hm h1 (by omega) (v := .ref (P[(v.fmod (P.length : Int)).toNat]).1) ?_ (h _ (List.getElem_mem h3)) hs
  unfold RP
  rw [List.getElem?_map, List.getElem?_eq_getElem h3]; rfl
theorem scale_add {v p : Int} {t u : Tok} (hp : 7 ≤ p) (h : ∀ c : Int, 1 ≤ c → c < p → Q (.int c s.toks) { s with toks := s.toks + 1 }) : wpAny (model prog w) A (binaryOp .Add (.int 1 t) (.int (v.fmod (p - 1)) u)) Q E s := by
  have h1 : 0 ≤ v.fmod (p - 1) := Int.fmod_nonneg_of_pos _ (by omega)
  have h2 : v.fmod (p - 1) < p - 1 := Int.fmod_lt_of_pos _ (by omega)
  exact add_int (h _ (by omega) (by omega))
theorem mul_xs {x c p : Int} {t u : Tok} (h1 : 1 ≤ c) (h2 : c < p) (hp : p ≤ 37) (h : Q (.int (x * c) s.toks) { s with toks := s.toks + 1 }) : wpAny (model prog w) A (binaryOp .Mult (.int x t) (.int c u)) Q E s :=
  mul_int (hm := PySem.IntMulOk.of_right (PySem.intBits_le_64 (by omega) (by omega))) h
end
theorem pts_len_ne {p g r sx b : Int} {j : Nat} {S : Nat → Int} {P : List PT} (h : PG p g) (hp : 7 ≤ p) (h1 : 1 ≤ r) (h2 : r < p) (hsx : sx = r ^ 6) (hj : j < 6) (hsg : sG p g = S) (hb : b = g ^ j * sx % p) (hP : XY P = pointsZ p b) :
    ((P.length : Int) != p - S (j : Int).toNat) = false := by
  have hp0 : 0 < p := by omega
  have e := points_len (b := b) h hp0
  rw [hb, hsx, short_k h hp0 h1 h2 hj, hsg] at e
  have e2 : P.length = (pointsZ p b).length := by rw [← hP]; exact (List.length_map ..).symm
  rw [bne_eq_false_iff_eq, Int.toNat_natCast, e2, hb, hsx]
  exact e
theorem pts_mem {p b : Int} {P : List PT} {t : Addr} {x y : Int} {tx ty : Tok} (hP : XY P = pointsZ p b) (hq : (t, (x, tx), (y, ty)) ∈ P) : (x, y) ∈ pointsZ p b ∧ (t, tupO [.int x tx, .int y ty]) ∈ LP P :=
  ⟨hP ▸ List.mem_map_of_mem (f := fun q : PT => (q.2.1.1, q.2.2.1)) hq, List.mem_map_of_mem (f := fun q : PT => (q.1, tupO [.int q.2.1.1 q.2.1.2, .int q.2.2.1 q.2.2.2])) hq⟩
theorem law_inf {p g r sx b x y c : Int} {j : Nat} {S : Nat → Int} (h : PG p g) (hp : 7 ≤ p) (h1 : 1 ≤ r) (h2 : r < p) (hsx : sx = r ^ 6) (hj : j < 6) (hsg : sG p g = S) (hb : b = g ^ j * sx % p) (c1 : 1 ≤ c) (c2 : c < p) (hP : (x, y) ∈ pointsZ p b) :
    ((mulF p 6 (x * c % p, y * c % p, c % p) (p + 1 - S (j : Int).toNat)).2.2 == 0) = true := by
  rw [hb, hsx] at hP
  rw [← hsg, Int.toNat_natCast, beq_iff_eq]
  exact point_inf h (by omega) h1 h2 hj c1 c2 hP
theorem law_n {p g : Int} {j : Nat} {S : Nat → Int} (h : PG p g) (hj : j < 6) (hsg : sG p g = S) : 1 ≤ p + 1 - S (j : Int).toNat ∧ p + 1 - S (j : Int).toNat < bnd 6 := by
  have := short_bound h hj
  rw [← hsg, Int.toNat_natCast]
  exact ⟨this.1, this.2.1⟩
theorem lt20 {n : Nat} (h : ¬ ((63 : Nat) : Int) < (n : Int)) : n < 2 ^ 20 := by omega
theorem news_pick {h₀ h : Heap} {L : Addr} {a b q : Addr × Obj} {l rest : List (Addr × Obj)} (N : News h₀ L h (a :: b :: (l ++ rest))) (hq : q ∈ l) : News h₀ L h (q :: rest) := fun x hx => N x (by
  rcases List.mem_cons.mp hx with rfl | hx
  · exact List.mem_cons_of_mem _ (List.mem_cons_of_mem _ (List.mem_append_left _ hq))
  · exact List.mem_cons_of_mem _ (List.mem_cons_of_mem _ (List.mem_append_right _ hx)))
theorem PtIn.of {w : World} {news : List (Addr × Obj)} {t : Addr} {p X Y Z : Int} {x dx y dy z dz : Addr} {k1 t1 k2 t2 k3 t3 k4 t4 k5 t5 k6 t6 : Tok} (a0 : (t, tupO [.ref x, .ref y, .ref z]) ∈ news) (a1 : (x, instObj 368 dx) ∈ news) (a2 : (dx, fqD w p X k1 t1 k2 t2) ∈ news)
    (a3 : (y, instObj 368 dy) ∈ news) (a4 : (dy, fqD w p Y k3 t3 k4 t4) ∈ news) (a5 : (z, instObj 368 dz) ∈ news) (a6 : (dz, fqD w p Z k5 t5 k6 t6) ∈ news) : PtIn w news t p (X, Y, Z) :=
  ⟨x, dx, y, dy, z, dz, k1, t1, k2, t2, k3, t3, k4, t4, k5, t5, k6, t6, a0, a1, a2, a3, a4, a5, a6⟩
end Mine

theorem Mine.calmL3 : True ∧ True := by
  w_top off
  first | (walk1; fail "no") | exact ⟨trivial, trivial⟩

namespace Mine
open PySem PySem.W PyProof.Rows PySem.Calls Builtin
set_option maxHeartbeats 8000000

local macro_rules | `(tactic| k_mem) => `(tactic| first | with_reducible assumption | exact List.mem_cons_self | (refine List.mem_cons_of_mem _ ?_; k_mem) | (refine List.mem_append_right _ ?_; k_mem) | (refine List.mem_append_left _ ?_; k_mem))
local macro_rules | `(tactic| walk_at "ite") => `(tactic| first | (refine ite_pos (by with_reducible assumption) ?_) | (refine ite_neg (by with_reducible assumption) ?_) | (refine ite_isFalse (by with_reducible assumption) ?_))

local macro_rules | `(tactic| walk_at "call ref") => `(tactic| (k_here; (with_reducible show wpAny _ _ (call (Value.ref 386) [Value.ref _, Value.int _ _]) _ _ _); k_dflt (refine' c_at ?k1 ?k2 ?k3 ?k4 ?k5 ?kH ?kA ?kF ?kK ?kd ?ku ?hl ?hi ?hlen ?hk0 ?hk1 ?_; (case kH => exact rfl); (case kA => exact rfl); (case kF => first | assumption | exact rfl); (case kK => first | assumption | exact rfl); (case k1 => k_asm); (case k2 => k_asm); (case k3 => k_asm); (case k4 => k_asm); (case k5 => k_asm); (case hl => assumption); (case hi => assumption); (case hlen => first | assumption | omega); (case hk0 => decide); (case hk1 => decide); (case kd => k_room); (case ku => k_units); k_whole); intro v' t' h' tk' F' N'; (try k_sweep); (try dsimp only)))

local macro_rules | `(tactic| walk_at "call ref") => `(tactic| (k_here; (with_reducible show wpAny _ _ (call (Value.ref 393) [Value.int _ _, Value.int _ _, Value.int _ _]) _ _ _); k_dflt (refine' c_mark ?k1 ?k2 ?k3 ?k4 ?k5 ?kH ?kA ?kF ?kK ?kd ?ku ?hp ?hp2 ?hk7 ?_; (case kH => exact rfl); (case kA => exact rfl); (case kF => first | assumption | exact rfl); (case kK => first | assumption | exact rfl); (case k1 => k_asm); (case k2 => k_asm); (case k3 => k_asm); (case k4 => k_asm); (case k5 => k_asm); (case hp => first | assumption | omega); (case hp2 => first | assumption | omega); (case hk7 => first | assumption | exact fmod2 _); (case kd => k_room); (case ku => k_units); k_whole); intro t' h' tk' F' N'; (try k_sweep); (try dsimp only)))

local macro_rules | `(tactic| walk_at "call ref") => `(tactic| (k_here; (with_reducible show wpAny _ _ (call (Value.ref 398) [Value.int _ _, Value.int _ _]) _ _ _); k_dflt (refine' c_points ?k1 ?k2 ?k3 ?k4 ?k5 ?kH ?kA ?kF ?kK ?kd ?ku ?hp ?hp2 ?hb ?hb2 ?_; (case kH => exact rfl); (case kA => exact rfl); (case kF => first | assumption | exact rfl); (case kK => first | assumption | exact rfl); (case k1 => k_asm); (case k2 => k_asm); (case k3 => k_asm); (case k4 => k_asm); (case k5 => k_asm); (case hp => first | assumption | omega); (case hp2 => first | assumption | omega); (case hb => first | assumption | omega); (case hb2 => first | assumption | omega); (case kd => k_room); (case ku => k_units); k_whole); intro D' P' h' tk' F' N' hXY' hPl'; (try k_sweep); (try dsimp only)))

local macro_rules | `(tactic| walk_at "call ref") => `(tactic| (k_here; (with_reducible show wpAny _ _ (call (Value.ref 28) [Value.ref _]) _ _ _); k_dflt (refine' c_isinf ?k1 ?k2 ?k3 ?k4 ?k5 ?kH ?kA ?kF ?kK ?kd ?ku ?hP ?hp ?_; (case kH => exact rfl); (case kA => exact rfl); (case kF => first | assumption | exact rfl); (case kK => first | assumption | exact rfl); (case k1 => k_asm); (case k2 => k_asm); (case k3 => k_asm); (case k4 => k_asm); (case k5 => k_asm); (case hP => first | assumption | exact PtIn.mono (by assumption) (by kcf_all)); (case hp => assumption); (case kd => k_room); (case ku => k_units); k_whole); intro t' h' tk' F' N'; (try k_sweep); (try dsimp only)))

local macro_rules | `(tactic| walk_at "call ref") => `(tactic| (k_here; (with_reducible show wpAny _ _ (call (Value.ref 35) [Value.ref _, Value.ref _]) _ _ _); k_dflt (refine' c_oncurve ?k1 ?k2 ?k3 ?k4 ?k5 ?kH ?kA ?kF ?kK ?kd ?ku ?hP ?x1 ?x2 ?hp ?hp2 ?hok ?hb9 ?hb92 ?hz ?_; (case kH => exact rfl); (case kA => exact rfl); (case kF => first | assumption | exact rfl); (case kK => first | assumption | exact rfl); (case k1 => k_asm); (case k2 => k_asm); (case k3 => k_asm); (case k4 => k_asm); (case k5 => k_asm); (case hP => first | assumption | exact PtIn.mono (by assumption) (by kcf_all)); (case x1 => k_mem); (case x2 => k_mem); (case hp => assumption); (case hp2 => first | assumption | omega); (case hok => assumption); (case hb9 => assumption); (case hb92 => assumption); (case hz => assumption); (case kd => k_room); (case ku => k_units); k_whole); intro t' h' tk' F' N'; (try k_sweep); (try dsimp only)))

local macro_rules | `(tactic| walk_at "call ref") => `(tactic| (k_here; (with_reducible show wpAny _ _ (call (Value.ref 56) [Value.ref _, Value.int _ _]) _ _ _); k_dflt (refine' c_mulp_use ?k1 ?k2 ?k3 ?k4 ?k5 ?kH ?kA ?kF ?kK ?kd ?ku ?hI ?hP ?hp ?hp2 ?hok ?hn ?hn2 ?_; (case kH => exact rfl); (case kA => exact rfl); (case kF => first | assumption | exact rfl); (case kK => first | assumption | exact rfl); (case k1 => k_asm); (case k2 => k_asm); (case k3 => k_asm); (case k4 => k_asm); (case k5 => k_asm); (case hI => assumption); (case hP => first | assumption | exact PtIn.mono (by assumption) (by kcf_all)); (case hp => assumption); (case hp2 => first | assumption | omega); (case hok => assumption); (case hn => first | assumption | omega); (case hn2 => first | assumption | omega); (case kd => k_room); (case ku => k_units); k_whole); intro t' h' tk' nw' F' N' hP' hok'; (try k_sweep); (try dsimp only); (try dsimp only [PySem.W.CmpBack])))

local macro_rules | `(tactic| walk_at "call ref") => `(tactic| (k_here; (with_reducible show wpAny _ _ (call (Value.ref 368) [Value.int _ _, Value.int _ _]) _ _ _); k_dflt (refine' c_new_o ?k1 ?k2 ?k3 ?k4 ?k5 ?kA ?kF ?kK ?kd ?ku ?kp ?_; (case kA => exact rfl); (case kF => first | assumption | exact rfl); (case kK => first | assumption | exact rfl); (case k1 => k_asm); (case k2 => k_asm); (case k3 => k_asm); (case k4 => k_asm); (case k5 => k_asm); (case kp => assumption); (case kd => k_room); (case ku => k_units); k_whole); intro x' d' h' tk' a1 a2 a3 a4 F' N' l1 l2 b1 b2; (try k_lt l1); (try k_lt2 l2); (try k_sweep); (try dsimp only); (try dsimp only [PySem.W.CmpBack])))

local macro_rules | `(tactic| walk_at "eval Call") => `(tactic| ((with_reducible show wpAny _ _ (eval (PySem.Expr.Call (PySem.Expr.Name _ _) _ [] _) _) _ _ _); k_dflt (refine Call_ ?_)))

local macro_rules | `(tactic| walk_at "binaryOp Pow int int") => `(tactic| k_dflt (refine pow_int_small (by omega) (by omega) (by omega) ?_))

local macro_rules | `(tactic| walk_at "binaryOp Mult int int") => `(tactic| k_dflt (first | (with_reducible refine mul_xx (by assumption) (by assumption) (by assumption) ?_) | (with_reducible refine mul_xxx (by assumption) (by assumption) (by assumption) ?_) | (with_reducible refine mul_sm (by assumption) (by assumption) ?_) | (with_reducible refine mul_xs (by assumption) (by assumption) (by assumption) ?_) | (refine mul_int (hm := PySem.IntMulOk.of_right (PySem.intBits_le_64 (by omega) (by omega))) ?_) | (refine mul_int (hm := PySem.IntMulOk.of_left (PySem.intBits_le_64 (by omega) (by omega))) ?_)))

local macro_rules | `(tactic| walk_at "binaryOp Mod int int") => `(tactic| k_dflt (with_reducible refine mod_int' (by assumption) ?_))

local macro_rules | `(tactic| walk_at "call builtin:sum") => `(tactic| (k_here; (with_reducible show wpAny _ _ (call (Value.builtin "sum") [Value.ref _]) _ _ _); k_dflt (refine' sum_made ?h ?F ?N ?m ?i ?_; (case h => exact rfl); (case F => k_asm); (case N => k_asm); (case m => k_mem); (case i => assumption)); intro h' tk' t' F' N'; (try dsimp only)))

local macro_rules | `(tactic| walk_at "subscriptTail Name Name ref int") => `(tactic| (k_here; (with_reducible show wpAny _ _ (subscriptTail _ _ (Value.ref _) (Value.int _ _)) _ _ _); k_dflt (refine' six_item ?N ?m ?a ?b ?_ ?z; (case N => k_asm); (case m => k_mem); (case a => first | assumption | exact nn33 (by assumption) | exact Int.fmod_nonneg_of_pos _ (by decide) | decide); (case b => first | assumption | exact lt3 (by assumption) | exact lt33 (by assumption) | exact Int.fmod_lt_of_pos _ (by decide) | decide); (case z => with_unfolding_all rfl); intro t9i)))

local macro_rules | `(tactic| walk_at "subscriptTail Name BinOp ref int") => `(tactic| (k_here; (with_reducible show wpAny _ _ (subscriptTail _ _ (Value.ref _) (Value.int _ _)) _ _ _); k_dflt (refine' six_item ?N ?m ?a ?b ?_ ?z; (case N => k_asm); (case m => k_mem); (case a => first | assumption | exact nn33 (by assumption) | exact Int.fmod_nonneg_of_pos _ (by decide) | decide); (case b => first | assumption | exact lt3 (by assumption) | exact lt33 (by assumption) | exact Int.fmod_lt_of_pos _ (by decide) | decide); (case z => with_unfolding_all rfl); intro t9i)))

local macro_rules | `(tactic| walk_at "subscriptTail Name Constant ref int") => `(tactic| (k_here; (with_reducible show wpAny _ _ (subscriptTail _ _ (Value.ref _) (Value.int _ _)) _ _ _); k_dflt (refine' list_item ?N ?m ?a ?b ?c ?_ ?z; (case N => k_asm); (case m => k_mem); (case a => decide); (case b => decide); (case c => rfl); (case z => with_unfolding_all rfl))))

local macro_rules | `(tactic| walk_at "call builtin:len") => `(tactic| (k_here; (with_reducible show wpAny _ _ (call (Value.builtin "len") [Value.ref _]) _ _ _); k_dflt (refine' len_pts ?N ?m ?b ?_; (case N => k_asm); (case m => k_mem); (case b => assumption))))

local macro_rules | `(tactic| walk_at "compareOp NotEq ref ref") => `(tactic| (k_here; (with_reducible show wpAny _ _ (compareOp CmpOp.NotEq (Value.ref _) (Value.ref _)) _ _ _); k_dflt (refine' sums_ne ?N ?m ?n ?i ?h ?u ?_; (case N => k_asm); (case m => k_mem); (case n => k_mem); (case i => assumption); (case h => assumption); (case u => ke_room))))

local macro_rules | `(tactic| walk_at "subscriptTail Name BinOp ref int") => `(tactic| (k_here; (with_reducible show wpAny _ _ (subscriptTail _ _ (Value.ref _) (Value.int (Int.fmod _ _) _)) _ _ _); k_dflt (refine' mark_item ?N ?m ?i ?a ?b ?_ ?z; (case N => k_asm); (case m => k_mem); (case i => assumption); (case a => assumption); (case b => assumption); (case z => with_unfolding_all rfl); intro t9i)))

theorem law_holds : PySem.Challenge.rw_bw0039_01.Holds := Mine.hd (by
  k_go0
  repeat' ((fail_if_success (with_reducible show wpAny _ _ (subscriptTail _ _ _ _) _ _ _)); (first | (k_unfold; (try dsimp only)) | (k_end; wrow_close) | walk1 | (dsimp only; walk1) | (leave1; walk_say "STEP leave1"; try dsimp only) | fail "no step"))
  refine menu_item (by k_asm) (by k_mem) (by k_mem) (by k_mem) (by k_mem) (by k_mem) (by k_mem) (Int.fmod_nonneg_of_pos _ (by decide)) (Int.fmod_lt_of_pos _ (by decide)) ?_
  intro t9 p g a9 b9 hPG hm9
  have hp7 : 7 ≤ p := by rcases hPG with ⟨h, _⟩ | ⟨h, _⟩ | ⟨h, _⟩ | ⟨h, _⟩ | ⟨h, _⟩ <;> omega
  have hp37 : p ≤ 37 := by rcases hPG with ⟨h, _⟩ | ⟨h, _⟩ | ⟨h, _⟩ | ⟨h, _⟩ | ⟨h, _⟩ <;> omega
  have hg2 : 2 ≤ g := by rcases hPG with ⟨_, h⟩ | ⟨_, h⟩ | ⟨_, h⟩ | ⟨_, h⟩ | ⟨_, h⟩ <;> omega
  have hg3 : g ≤ 3 := by rcases hPG with ⟨_, h⟩ | ⟨_, h⟩ | ⟨_, h⟩ | ⟨_, h⟩ | ⟨_, h⟩ <;> omega
  have hp00 : p ≠ 0 := by omega
  repeat' ((fail_if_success (with_reducible show wpAny _ _ (binaryOp Operator.Pow (Value.int _ _) (Value.int _ _)) _ _ _)); (first | (k_unfold; (try dsimp only)) | (k_end; wrow_close) | walk1 | (dsimp only; walk1) | (leave1; walk_say "STEP leave1"; try dsimp only) | fail "no step"))
  refine pow_six hp7 hp37 ?_
  intro r sx hr1 hr2 hsx hsx0 hsx1
  repeat' ((fail_if_success (with_reducible show wpAny _ _ (exec (PySem.Stmt.Assign _ (PySem.Expr.ListComp _ _ _ _) _) _) _ _ _)); (first | (k_unfold; (try dsimp only)) | (k_end; wrow_close) | walk1 | (dsimp only; walk1) | (leave1; walk_say "STEP leave1"; try dsimp only) | fail "no step"))
  walk1
  repeat' ((fail_if_success (with_reducible show wpAny _ _ (exec (PySem.Stmt.Assign _ (PySem.Expr.ListComp _ _ _ _) _) _) _ _ _)); (first | (k_unfold; (try dsimp only)) | (k_end; wrow_close) | walk1 | (dsimp only; walk1) | (leave1; walk_say "STEP leave1"; try dsimp only) | fail "no step"))
  walk1
  repeat' ((fail_if_success (with_reducible show wpAny _ _ (exec (PySem.Stmt.Assign _ (PySem.Expr.ListComp _ _ _ _) _) _) _ _ _)); (first | (k_unfold; (try dsimp only)) | (k_end; wrow_close) | walk1 | (dsimp only; walk1) | (leave1; walk_say "STEP leave1"; try dsimp only) | fail "no step"))
  repeat' ((fail_if_success (with_reducible show wpAny _ _ (eval (PySem.Expr.ListComp _ _ _ _) _) _ _ _)); (first | (k_unfold; (try dsimp only)) | (k_end; wrow_close) | walk1 | (dsimp only; walk1) | (leave1; walk_say "STEP leave1"; try dsimp only) | fail "no step"))
  refine' compC (f := shortF p) (ks := List.map (fun k' => (g ^ k'.toNat * sx).fmod p) (rangeKs 0 ((6 : Int) - 0).toNat)) ?cF ?cN ?ch ?cc ?ck ?cn ?cf ?cp ?cx ?cs ?cl ?ci ?ct ?ce
  case cF => assumption
  case cN => assumption
  case ch => rfl
  case cc => with_unfolding_all rfl
  case ck => rfl
  case cn => decide
  case cf => intros; rfl
  case cp => intros; rfl
  case cx => intros; rfl
  case cs => intros; with_unfolding_all rfl
  case cl => rw [List.length_map]; decide
  case ci =>
    (repeat' walk1)
    · k_mem
    · assumption
    · assumption
    · assumption
  case ct =>
    intro k t I C D c oI oC oc ys2 m2 h2 tk2 Q2 E2 hk hNs hoc F2 N2 hQ2
    repeat' ((fail_if_success (with_reducible show wpAny _ _ (call (Value.builtin _) _) _ _ _)); walk1)
    repeat' walk1
    exact hQ2 _ _ _ (by k_asm) (cb_drop (by assumption) (by kcf_all))
  case ce =>
    intro D ys h3 tk3 F3 N3 hI3 hoff3
    have o13 := off1_of hoff3
    clear hoff3
    simp only [LCg.Off1, and_true] at o13
    rw [shorts_vals hPG hp7 hr1 hr2 hsx] at hI3
    obtain ⟨t0, t1, t2, t3, t4, t5, rfl⟩ := ints6 hI3
    clear hI3
    generalize hsg : sG p g = S at F3 N3 ⊢
    have h6 := sixOk hPG hsg
    have hz1 : (S 0 + S 2 + S 4 != 0) = false := by rw [h6.2.1]; rfl
    have hz2 := sq_sum h6
    have hbS := six_bds hPG hsg
    (repeat' ((fail_if_success (with_reducible show wpAny _ _ (exec (PySem.Stmt.If _ _ _ _) _) _ _ _)); (first | (k_unfold; (try dsimp only)) | (k_end; wrow_close) | walk1 | (dsimp only; walk1) | (leave1; walk_say "STEP leave1"; try dsimp only) | fail "no step")))
    (repeat' ((fail_if_success (with_reducible show wpAny _ _ (exec (PySem.Stmt.Assign _ (PySem.Expr.BinOp _ _ _ _) _) _) _ _ _)); (first | (k_unfold; (try dsimp only)) | (k_end; wrow_close) | walk1 | (dsimp only; walk1) | (leave1; walk_say "STEP leave1"; try dsimp only) | fail "no step")))
    have hl63 := lt20 (by assumption)
    have hp0 : 0 < p := by omega
    have hp1 : 1 < p := by omega
    have hp100 : p < 100 := by omega
    have hpm : p - 1 ≠ 0 := by omega
    rename World => w9
    have hI6 : MulClaim w9 6 := c_mulp 6
    repeat' ((fail_if_success (with_reducible show wpAny _ _ (binaryOp Operator.Mod (Value.int _ _) (Value.int 6 _)) _ _ _)); (first | (k_unfold; (try dsimp only)) | (k_end; wrow_close) | walk1 | (dsimp only; walk1) | (leave1; walk_say "STEP leave1"; try dsimp only) | fail "no step"))
    refine mod6 ?_
    intro j hj
    have hj0 : (0 : Int) ≤ (j : Int) := Int.natCast_nonneg j
    have hj6 : (j : Int) < 6 := Int.ofNat_lt.mpr hj
    obtain ⟨hn1, hn2⟩ := law_n hPG hj hsg
    repeat' ((fail_if_success (with_reducible show wpAny _ _ (subscriptTail _ _ _ _) _ _ _)); (first | (k_unfold; (try dsimp only)) | (k_end; wrow_close) | walk1 | (dsimp only; walk1) | (leave1; walk_say "STEP leave1"; try dsimp only) | fail "no step"))
    refine num_item (by k_asm) (by k_mem) (by assumption) hp7 hj ?_
    intro b tb hb hb0 hbp
    repeat' ((fail_if_success (with_reducible show wpAny _ _ (call (Value.ref 398) _) _ _ _)); (first | (k_unfold; (try dsimp only)) | (k_end; wrow_close) | walk1 | (dsimp only; walk1) | (leave1; walk_say "STEP leave1"; try dsimp only) | fail "no step"))
    k_dflt (refine' c_points ?k1 ?k2 ?k3 ?k4 ?k5 ?kH ?kA ?kF ?kK ?kd ?ku ?hp ?hp2 ?hb ?hb2 ?_; (case kH => exact rfl); (case kA => exact rfl); (case kF => first | assumption | exact rfl); (case kK => first | assumption | exact rfl); (case k1 => k_asm); (case k2 => k_asm); (case k3 => k_asm); (case k4 => k_asm); (case k5 => k_asm); (case hp => first | assumption | omega); (case hp2 => first | assumption | omega); (case hb => first | assumption | omega); (case hb2 => first | assumption | omega); (case kd => k_room); (case ku => k_units); k_whole); intro D4 P4 h4 tk4 F4 N4 hXY4 hPl4; (try k_sweep); (try dsimp only)
    have hlen4 := pts_len_ne hPG hp7 hr1 hr2 hsx hj hsg hb hXY4
    repeat' ((fail_if_success (with_reducible show wpAny _ _ (compareOp CmpOp.Eq (Value.ref _) (Value.ref _)) _ _ _)); (first | (k_unfold; (try dsimp only)) | (k_end; wrow_close) | walk1 | (dsimp only; walk1) | (leave1; walk_say "STEP leave1"; try dsimp only) | fail "no step"))
    refine eq_nil_pts (by k_asm) (by k_mem) (by k_mem) (by ke_room) ?z1 ?z2
    case z1 =>
      intro _
      k_steps
    case z2 =>
      intro hne
      have hPn : (P4.length : Int) ≠ 0 := fun e => hne (List.eq_nil_of_length_eq_zero (Int.natCast_eq_zero.mp e))
      repeat' ((fail_if_success (with_reducible show wpAny _ _ (subscriptTail _ _ _ _) _ _ _)); (first | (k_unfold; (try dsimp only)) | (k_end; wrow_close) | walk1 | (dsimp only; walk1) | (leave1; walk_say "STEP leave1"; try dsimp only) | fail "no step"))
      refine pts_item (by k_asm) (by k_mem) hne hPl4 ?_
      intro q hq
      obtain ⟨t5, ⟨x, tx⟩, ⟨y, ty⟩⟩ := q
      obtain ⟨hxy, hmt⟩ := pts_mem hXY4 hq
      rename News _ _ _ _ => lN9
      have N9 := news_pick lN9 hmt
      clear lN9
      obtain ⟨⟨hx0, hxp⟩, ⟨hy0, hyp⟩, _⟩ := (mem_pointsZ hp0).mp hxy
      dsimp only
      repeat' ((fail_if_success (with_reducible show wpAny _ _ (binaryOp Operator.Add (Value.int 1 _) (Value.int _ _)) _ _ _)); (first | (k_unfold; (try dsimp only)) | (k_end; wrow_close) | walk1 | (dsimp only; walk1) | (leave1; walk_say "STEP leave1"; try dsimp only) | fail "no step"))
      refine scale_add hp7 ?_
      intro c hc1 hc2
      have md : ∀ z : Int, 0 ≤ z % p ∧ z % p < p := fun z => ⟨Int.emod_nonneg _ hp00, Int.emod_lt_of_pos _ hp0⟩
      have hok9 : PtOk p (x * c % p, y * c % p, c % p) := ⟨md _, md _, md _⟩
      have hbb0 : 0 ≤ b % p := (md b).1
      have hbbp : b % p < p := (md b).2
      have hz9 : c % p ≠ 0 := by rw [Int.emod_eq_of_lt (Int.le_trans (by decide) hc1) hc2]; omega
      have hon9 := point_on (s := c) hp0 hxy
      have hinf9 := law_inf hPG hp7 hr1 hr2 hsx hj hsg hb hc1 hc2 hxy
      clear md
      repeat' ((fail_if_success (with_reducible show wpAny _ _ (call (Value.ref 35) _) _ _ _)); (first | (k_unfold; (try dsimp only)) | (k_end; wrow_close) | walk1 | (dsimp only; walk1) | (leave1; walk_say "STEP leave1"; try dsimp only) | fail "no step"))
      k_dflt (refine' c_oncurve (P := (x * c % p, y * c % p, c % p)) (b9 := b % p) ?k1 ?k2 ?k3 ?k4 ?k5 ?kH ?kA ?kF ?kK ?kd ?ku ?hP ?x1 ?x2 ?hp ?hp2 ?hok ?hb9 ?hb92 ?hz ?_; (case kH => exact rfl); (case kA => exact rfl); (case kF => first | assumption | exact rfl); (case kK => first | assumption | exact rfl); (case k1 => k_asm); (case k2 => k_asm); (case k3 => k_asm); (case k4 => k_asm); (case k5 => k_asm); (case hP => exact (PtIn.of (by repeat (first | with_reducible exact List.mem_cons_self | refine List.mem_cons_of_mem _ ?_)) (by repeat (first | with_reducible exact List.mem_cons_self | refine List.mem_cons_of_mem _ ?_)) (by repeat (first | with_reducible exact List.mem_cons_self | refine List.mem_cons_of_mem _ ?_)) (by repeat (first | with_reducible exact List.mem_cons_self | refine List.mem_cons_of_mem _ ?_)) (by repeat (first | with_reducible exact List.mem_cons_self | refine List.mem_cons_of_mem _ ?_)) (by repeat (first | with_reducible exact List.mem_cons_self | refine List.mem_cons_of_mem _ ?_)) (by repeat (first | with_reducible exact List.mem_cons_self | refine List.mem_cons_of_mem _ ?_)))); (case x1 => k_mem); (case x2 => k_mem); (case hp => assumption); (case hp2 => first | assumption | omega); (case hok => assumption); (case hb9 => assumption); (case hb92 => assumption); (case hz => exact hz9); (case kd => k_room); (case ku => k_units); k_whole); intro t8 h8 tk8 F8 N8; (try k_sweep); (try dsimp only)
      repeat' ((fail_if_success (with_reducible show wpAny _ _ (call (Value.ref 56) _) _ _ _)); (first | (k_unfold; (try dsimp only)) | (k_end; wrow_close) | walk1 | (dsimp only; walk1) | (leave1; walk_say "STEP leave1"; try dsimp only) | fail "no step"))
      k_dflt (refine' c_mulp_use (P := (x * c % p, y * c % p, c % p)) (n := p + 1 - S (j : Int).toNat) ?k1 ?k2 ?k3 ?k4 ?k5 ?kH ?kA ?kF ?kK ?kd ?ku ?hI ?hP ?hp ?hp2 ?hok ?hn ?hn2 ?_; (case kH => exact rfl); (case kA => exact rfl); (case kF => first | assumption | exact rfl); (case kK => first | assumption | exact rfl); (case k1 => k_asm); (case k2 => k_asm); (case k3 => k_asm); (case k4 => k_asm); (case k5 => k_asm); (case hI => assumption); (case hP => exact (PtIn.of (by repeat (first | with_reducible exact List.mem_cons_self | refine List.mem_cons_of_mem _ ?_)) (by repeat (first | with_reducible exact List.mem_cons_self | refine List.mem_cons_of_mem _ ?_)) (by repeat (first | with_reducible exact List.mem_cons_self | refine List.mem_cons_of_mem _ ?_)) (by repeat (first | with_reducible exact List.mem_cons_self | refine List.mem_cons_of_mem _ ?_)) (by repeat (first | with_reducible exact List.mem_cons_self | refine List.mem_cons_of_mem _ ?_)) (by repeat (first | with_reducible exact List.mem_cons_self | refine List.mem_cons_of_mem _ ?_)) (by repeat (first | with_reducible exact List.mem_cons_self | refine List.mem_cons_of_mem _ ?_)))); (case hp => assumption); (case hp2 => first | assumption | omega); (case hok => assumption); (case hn => first | assumption | omega); (case hn2 => first | assumption | omega); (case kd => k_room); (case ku => k_units); k_whole); intro t6 h6q tk6 nw6 F6 N6 hP6 hok6; (try k_sweep); (try dsimp only); (try dsimp only [PySem.W.CmpBack])
      repeat' ((fail_if_success (with_reducible show wpAny _ _ (call (Value.ref 28) _) _ _ _)); (first | (k_unfold; (try dsimp only)) | (k_end; wrow_close) | walk1 | (dsimp only; walk1) | (leave1; walk_say "STEP leave1"; try dsimp only) | fail "no step"))
      k_dflt (refine' c_isinf ?k1 ?k2 ?k3 ?k4 ?k5 ?kH ?kA ?kF ?kK ?kd ?ku ?hP ?hp ?_; (case kH => exact rfl); (case kA => exact rfl); (case kF => first | assumption | exact rfl); (case kK => first | assumption | exact rfl); (case k1 => k_asm); (case k2 => k_asm); (case k3 => k_asm); (case k4 => k_asm); (case k5 => k_asm); (case hP => first | assumption | exact PtIn.mono (by assumption) (by kcf_all)); (case hp => assumption); (case kd => k_room); (case ku => k_units); k_whole); intro t7 h7q tk7 F7 N7; (try k_sweep); (try dsimp only); rw [hinf9]
      kc_close)

end Mine

theorem PySem.Challenge.cw_bw0039_01_holds : PySem.Challenge.rw_bw0039_01.Holds := by
  exact Mine.law_holds

import PyProof.Rows.All
import Wide.All
import OpenK.AllK
import Wide.FinOn
import PySem.Challenge.RW_ko0140_01
open PySem PySem.W PyProof.Rows PySem.Calls
set_option Elab.async false
set_option maxRecDepth 100000
set_option maxHeartbeats 8000000
namespace Mine
open_top hd for PySem.Challenge.rw_ko0140_01
end Mine
open Mine
section
variable {prog : Program} {w : World} {A : Around} {E : Value → Shared → Prop} {s : Shared}
theorem Mine.topListAny {K : Frag} {h₀ : Heap} {L a : Addr} {m : Str → Option Value} {n : Nat} {value slice : PySem.Expr} {l : List Value} {ns : List Int} {dd : Option Addr} {sl : Array (Option Value)} {k : Int} {u : Tok} {Q : Value → Shared → Prop} (F : Fr h₀ L s.heap m) (X₀ : K.In h₀)
    (hl : K.lookup a = some ⟨.type "list", dd, .seq l.toArray n, sl⟩) (hi : IntsAre l ns) (h0 : 0 ≤ k) (h1 : k < ns.length) (hfit : k < 2 ^ 63) (h : ∀ t, Q (.int (ns.getD k.toNat 0) t) s)
    (hs : subscripted slice false (.ref a) (.int k u) = operate [.ref a, .int k u] (getItem (.ref a) (.int k u)) := by with_unfolding_all rfl) :
    wpAny (model prog w) A (subscriptTail value slice (.ref a) (.int k u)) Q E s := by
  obtain ⟨t, hx⟩ := hi.get k.toNat _ (ints_getD h0 h1)
  exact topList_K F X₀ hl h0 hfit hx (h t) hs
end

section
variable {prog : Program} {w : World} {A₀ : Around} {E : Value → Shared → Prop} {s' : Shared} {h₀ h : Heap} {outer : List Env} {L a e t : Addr} {m : Str → Option Value} {name : Str} {scope : Scope} {cd : Value}
  {vs : List Value} {n : Str} {b₀ : Stmt} {suite : List Stmt} {pos np : Pos} {rest : List ExceptHandler} {Q : Flow → Shared → Prop} {news : List (Addr × Obj)}
  {p : Program} {loose : List Str} {mean : ExcName → Option Value} {mg mb : Str → Option Value} {x : Str} {X T' : String}
theorem Mine.caught_KM (K : Below A₀ h₀ outer h₀) (F : Fr h₀ L h m) (hsm : h.UpToSlots s'.heap) (R : RaisedK h₀ (envOf name scope L a cd :: outer) e (.type X) t vs news s'.heap)
    (T : TopRead p loose mg mb h₀) (hv : bootBuiltins x = some (.type T'))
    (hexc : isSubtype (.type T') (.type "BaseException") = pure true) (hnt : isSubtype (.type ((Manifest.find? T').elim "type" fun y => y.metatype)) (.type "tuple") = pure false) (hsub : isSubtype (.type X) (.type T') = pure true)
    (k : ∀ h' d nt sl oe tk, Fr h₀ L h' (fun y => if y = n then some (.ref e) else m y) → News h₀ L h' ((t, ⟨.type "tuple", d, .seq vs.toArray nt, sl⟩) :: (e, oe) :: news) → Got ((t, ⟨.type "tuple", d, .seq vs.toArray nt, sl⟩) :: (e, oe) :: news) e t (.type X) vs →
      wpAny (model prog w) ((A₀.deeper (envOf name scope L a cd)).mark (some (.ref e))) (execs (b₀ :: suite) (envOf name scope L a cd))
        (fun f s₄ => wpAny (model prog w) (A₀.deeper (envOf name scope L a cd)) (do bindName (envOf name scope L a cd) n .none; unbindBehindTheSuite (envOf name scope L a cd) n pos) (fun _ s₅ => Q f s₅) E s₄)
        (AsSuiteRaised (model prog w) ((A₀.deeper (envOf name scope L a cd)).mark (some (.ref e))) (envOf name scope L a cd) n pos (notedBy (model prog w) ((A₀.deeper (envOf name scope L a cd)).mark (some (.ref e))) (envOf name scope L a cd) (cameBackBy (model prog w) (A₀.deeper (envOf name scope L a cd)) (envOf name scope L a cd) E)))
        { s' with heap := h', toks := tk })
    (h1 : x ∉ startupNames := by decide +kernel) (h2 : x ∉ loose := by decide +kernel) (h3 : x ∉ (recsOf p).map (·.name) := by decide +kernel) (h4 : x ∉ (litsOf p).map (·.1) := by decide +kernel) (h4c : x ∉ (clssOf p loose).map (·.name) := by decide +kernel) (hn : x ≠ "__name__" := by decide +kernel)
    (hk : scope.kind = .function := by rfl) (hlo : (envOf name scope L a cd).kindOf n = some .local := by rfl) (hx : (envOf name scope L a cd).kindOf x = some .globalImplicit := by rfl) (hd : (x == ("__debug__" : Str)) = false := by decide) :
    wpAny (model prog w) (A₀.deeper (envOf name scope L a cd)) (noteFrame (.ref e) (envOf name scope L a cd))
      (fun _ s₂ => wpAny (model prog w) (A₀.deeper (envOf name scope L a cd)) (setFlight (.ref e) none) (fun _ s₃ =>
        wpAny (model prog w) (A₀.deeper (envOf name scope L a cd)) (handleBy (.ref e) (envOf name scope L a cd) (.ExceptHandler (some (.Name x np)) (some n) (b₀ :: suite) pos :: rest)) Q E s₃) E s₂) E s' := by
  refine caught_KB (T' := T') K F hsm R T hv hexc hnt hsub (fun h' news₂ tk F' N₂ G N' => ?_) h1 h2 h3 h4 h4c hn hk hlo hx hd
  obtain ⟨oe, ot, ws, nt, m1, m2, c1, d1, w1, c2, d2⟩ := G
  obtain ⟨oc, od, oda, osl⟩ := ot
  dsimp only at c2 d2
  subst c2 d2
  refine k h' od nt osl oe tk F' (fun q hq => ?_) ⟨oe, _, ws, nt, .tail _ (.head _), .head _, c1, d1, w1, rfl, rfl⟩
  rcases List.mem_cons.mp hq with rfl | hq
  · exact N₂ _ m2
  · rcases List.mem_cons.mp hq with rfl | hq
    · exact N₂ _ m1
    · exact N' _ hq
end
def Mine.leap (y : Int) : Bool := (y.fmod 4 == 0) && ((y.fmod 100 != 0) || (y.fmod 400 == 0))
def Mine.dimL : List Int := [-1, 31, 28, 31, 30, 31, 30, 31, 31, 30, 31, 30, 31]
def Mine.dbmL : List Int := [-1, 0, 31, 59, 90, 120, 151, 181, 212, 243, 273, 304, 334]
def Mine.dim (y m : Int) : Int := if m = 2 ∧ leap y = true then 29 else dimL.getD m.toNat 0
def Mine.dbm (y m : Int) : Int := dbmL.getD m.toNat 365 + (if 2 < m ∧ leap y = true then 1 else 0)
theorem Mine.fm4 (y : Int) : y.fmod 4 = y % 4 := Int.fmod_eq_emod_of_nonneg y (by decide)
theorem Mine.fm100 (y : Int) : y.fmod 100 = y % 100 := Int.fmod_eq_emod_of_nonneg y (by decide)
theorem Mine.fm400 (y : Int) : y.fmod 400 = y % 400 := Int.fmod_eq_emod_of_nonneg y (by decide)
theorem Mine.leap_iff (y : Int) : leap y = true ↔ y % 4 = 0 ∧ (y % 100 ≠ 0 ∨ y % 400 = 0) := by
  simp only [leap, fm4, fm100, fm400, Bool.and_eq_true, Bool.or_eq_true, beq_iff_eq, bne_iff_ne]
theorem Mine.months {m : Int} (h1 : 1 ≤ m) (h2 : m ≤ 12) : m = 1 ∨ m = 2 ∨ m = 3 ∨ m = 4 ∨ m = 5 ∨ m = 6 ∨ m = 7 ∨ m = 8 ∨ m = 9 ∨ m = 10 ∨ m = 11 ∨ m = 12 := by omega
theorem Mine.lml_gen {y m : Int} (h1 : 1 ≤ m) (h2 : m ≤ 12) (hn : m ≠ 2) : 30 + (m + m.fdiv 8).fmod 2 = dim y m := by
  unfold dim
  rw [if_neg (fun h => hn h.1)]
  rcases months h1 h2 with rfl | rfl | rfl | rfl | rfl | rfl | rfl | rfl | rfl | rfl | rfl | rfl <;> first | rfl | exact absurd rfl hn
theorem Mine.lml_28 {y m : Int} (hm : m = 2) (h : y % 4 ≠ 0 ∨ (y % 400 = 100 ∨ y % 400 = 200 ∨ y % 400 = 300)) : 28 = dim y m := by
  subst hm
  unfold dim
  rw [if_neg (fun h' => by have := (leap_iff y).mp h'.2; omega)]
  rfl
theorem Mine.lml_29 {y m : Int} (hm : m = 2) (h4 : y % 4 = 0) (h : ¬ (y % 400 = 100 ∨ y % 400 = 200 ∨ y % 400 = 300)) : 29 = dim y m := by
  subst hm
  unfold dim
  rw [if_pos ⟨rfl, (leap_iff y).mpr (by omega)⟩]
theorem Mine.dbm_val {y m : Int} (h1 : 1 ≤ m) (h2 : m ≤ 12) : dbm y m = dbmL.getD m.toNat 0 + (if 2 < m ∧ leap y = true then 1 else 0) := by
  unfold dbm
  rcases months h1 h2 with rfl | rfl | rfl | rfl | rfl | rfl | rfl | rfl | rfl | rfl | rfl | rfl <;> rfl
theorem Mine.dbm_low {y m : Int} (h1 : 1 ≤ m) (h2 : m ≤ 12) (h : ¬ 2 < m) : (([-1, 0, 31, 59, 90, 120, 151, 181, 212, 243, 273, 304, 334] : List Int).getD m.toNat 0 + if decide (2 < m) = true then 1 else 0) = dbm y m := by
  rw [dbm_val h1 h2, if_neg (by simpa using h), if_neg (fun q => h q.1)]
  rfl
local macro_rules | `(tactic| cb_eq) => `(tactic| first | exact dbm_low (by assumption) (by assumption) (by first | omega | (simp_all; done)) | ((rw [dbm_val (by assumption) (by assumption)]; simp only [dbmL] at *); first | (simp_all; done) | (split <;> simp_all; done)) | exact lml_gen (by assumption) (by assumption) (by assumption) | (simp only [List.any_cons, List.any_nil, Bool.or_false, Bool.or_eq_true, Bool.or_eq_false_iff, beq_iff_eq, beq_eq_false_iff_ne, fm4, fm400] at *; first | exact lml_28 (by assumption) (by omega) | exact lml_29 (by assumption) (by omega) (by omega)) | (simp_all [leap, dim, dbm, dimL, dbmL]; done) | (simp only [leap, dim, dbm, dimL, dbmL] at *; simp_all; omega) | (simp only [leap, dim, dbm, dimL, dbmL] at *; split <;> simp_all; done) | (trace_state; fail "cb_eq"))
local macro_rules | `(tactic| walk_at "subscriptTail") => `(tactic| (k_here; (with_reducible show wpAny _ _ (subscriptTail _ _ (Value.ref _) (Value.int _ _)) _ _ _); kmn_open; (with_unfolding_all (refine' topListAny ?F ?X ?l ?i ?k3 ?k4 ?k5 ?_; (case F => k_asm); (case X => k_asm); (case l => k_is); (case i => l_ints); (case k3 => l_idx); (case k4 => l_idx); (case k5 => l_idx); k_whole)); intro _))
theorem Mine.leap_spec {w : World} {mean : ExcName → Option Value} {mg mb : Str → Option Value} {dp un : Nat} {gd : Option (List Code)} {cn : Str} {cs : Scope} {a : Addr} {ccd : Value} {cl : List (Str × Addr)} {outer : List Env} {A₀ : Around} {base h₀ : Heap} {L : Addr} {m : Str → Option Value} {s : Shared} {Q E : Value → Shared → Prop} {news : List (Addr × Obj)} {y : Int} {ty : Tok}
    (B : Below A₀ base outer h₀) (F : Fr h₀ L s.heap m) (X : (Mine.hd.heap_39 w.params).In h₀) (N : News h₀ L s.heap news) (T : Top Mine.hd.view_39 (looseW Mine.hd.view_39 [Str.ofString "_DAYS_IN_MONTH", Str.ofString "_DAYS_BEFORE_MONTH"]) mean mg mb h₀) (hk : cs.kind = .function) (hd : dp + 2 < recursionLimit) (hu : un + 16 < cLine)
    (hret : CbRet h₀ L m news s Q (fun _ => .bool (leap y))) :
    wpAny (model PySem.Challenge.pw_ko0140_01 w) (ktrTop dp un gd cn cs L a ccd cl outer) (call (.ref 28) [.int y ty]) Q E s := by
  have fillme : PySem.Challenge.rw_ko0140_01 = PySem.Challenge.rw_ko0140_01 ∧ Mine.hd.heap_39 = Mine.hd.heap_39 := by
    k_fill
    exact ⟨rfl, rfl⟩
  clear fillme
  refine wpAny_call ?_
  k_dflt cell_enter
  k_steps
  all_goals cb_end hret
local macro_rules | `(tactic| walk_at "call ref") => `(tactic| (k_here; k_dflt (refine' leap_spec ?k1 ?k2 ?k3 ?k4 ?k5 ?kK ?kd ?ku ?_; (case k1 => k_asm); (case k2 => k_asm); (case k3 => k_asm); (case k4 => k_asm); (case k5 => k_asm); (case kK => first | exact rfl | assumption); (case kd => ktr_room); (case ku => ktr_units)); intro t9 h9 tk9 F9 N9; (try dsimp only); (try k_fold)))
theorem Mine.dim_spec {w : World} {mean : ExcName → Option Value} {mg mb : Str → Option Value} {dp un : Nat} {gd : Option (List Code)} {cn : Str} {cs : Scope} {a : Addr} {ccd : Value} {cl : List (Str × Addr)} {outer : List Env} {A₀ : Around} {base h₀ : Heap} {L : Addr} {m : Str → Option Value} {s : Shared} {Q E : Value → Shared → Prop} {news : List (Addr × Obj)} {y : Int} {ty : Tok} {mo : Int} {tmo : Tok}
    (B : Below A₀ base outer h₀) (F : Fr h₀ L s.heap m) (X : (Mine.hd.heap_39 w.params).In h₀) (N : News h₀ L s.heap news) (T : Top Mine.hd.view_39 (looseW Mine.hd.view_39 [Str.ofString "_DAYS_IN_MONTH", Str.ofString "_DAYS_BEFORE_MONTH"]) mean mg mb h₀) (hk : cs.kind = .function) (hp0 : 1 ≤ mo) (hp1 : mo ≤ 12) (hd : dp + 4 < recursionLimit) (hu : un + 32 < cLine)
    (hret : CbRet h₀ L m news s Q (fun t => .int (dim y mo) t)) :
    wpAny (model PySem.Challenge.pw_ko0140_01 w) (ktrTop dp un gd cn cs L a ccd cl outer) (call (.ref 35) [.int y ty, .int mo tmo]) Q E s := by
  have fillme : PySem.Challenge.rw_ko0140_01 = PySem.Challenge.rw_ko0140_01 ∧ Mine.hd.heap_39 = Mine.hd.heap_39 := by
    k_fill
    exact ⟨rfl, rfl⟩
  clear fillme
  refine wpAny_call ?_
  k_dflt cell_enter
  k_steps
  all_goals cb_end hret
local macro_rules | `(tactic| walk_at "call ref") => `(tactic| (k_here; k_dflt (refine' dim_spec ?k1 ?k2 ?k3 ?k4 ?k5 ?kK ?kp0 ?kp1 ?kd ?ku ?_; (case k1 => k_asm); (case k2 => k_asm); (case k3 => k_asm); (case k4 => k_asm); (case k5 => k_asm); (case kK => first | exact rfl | assumption); (case kp0 => first | assumption | omega | ((try dsimp only); omega) | l_fact); (case kp1 => first | assumption | omega | ((try dsimp only); omega) | l_fact); (case kd => ktr_room); (case ku => ktr_units)); intro t9 h9 tk9 F9 N9; (try dsimp only); (try k_fold)))
theorem Mine.dbm_spec {w : World} {mean : ExcName → Option Value} {mg mb : Str → Option Value} {dp un : Nat} {gd : Option (List Code)} {cn : Str} {cs : Scope} {a : Addr} {ccd : Value} {cl : List (Str × Addr)} {outer : List Env} {A₀ : Around} {base h₀ : Heap} {L : Addr} {m : Str → Option Value} {s : Shared} {Q E : Value → Shared → Prop} {news : List (Addr × Obj)} {y : Int} {ty : Tok} {mo : Int} {tmo : Tok}
    (B : Below A₀ base outer h₀) (F : Fr h₀ L s.heap m) (X : (Mine.hd.heap_39 w.params).In h₀) (N : News h₀ L s.heap news) (T : Top Mine.hd.view_39 (looseW Mine.hd.view_39 [Str.ofString "_DAYS_IN_MONTH", Str.ofString "_DAYS_BEFORE_MONTH"]) mean mg mb h₀) (hk : cs.kind = .function) (hp0 : 1 ≤ mo) (hp1 : mo ≤ 12) (hd : dp + 4 < recursionLimit) (hu : un + 32 < cLine)
    (hret : CbRet h₀ L m news s Q (fun t => .int (dbm y mo) t)) :
    wpAny (model PySem.Challenge.pw_ko0140_01 w) (ktrTop dp un gd cn cs L a ccd cl outer) (call (.ref 42) [.int y ty, .int mo tmo]) Q E s := by
  have fillme : PySem.Challenge.rw_ko0140_01 = PySem.Challenge.rw_ko0140_01 ∧ Mine.hd.heap_39 = Mine.hd.heap_39 := by
    k_fill
    exact ⟨rfl, rfl⟩
  clear fillme
  refine wpAny_call ?_
  k_dflt cell_enter
  k_steps
  all_goals cb_end hret
local macro_rules | `(tactic| walk_at "call ref") => `(tactic| (k_here; k_dflt (refine' dbm_spec ?k1 ?k2 ?k3 ?k4 ?k5 ?kK ?kp0 ?kp1 ?kd ?ku ?_; (case k1 => k_asm); (case k2 => k_asm); (case k3 => k_asm); (case k4 => k_asm); (case k5 => k_asm); (case kK => first | exact rfl | assumption); (case kp0 => first | assumption | omega | ((try dsimp only); omega) | l_fact); (case kp1 => first | assumption | omega | ((try dsimp only); omega) | l_fact); (case kd => ktr_room); (case ku => ktr_units)); intro t9 h9 tk9 F9 N9; (try dsimp only); (try k_fold)))
theorem Mine.lml_spec {w : World} {mean : ExcName → Option Value} {mg mb : Str → Option Value} {dp un : Nat} {gd : Option (List Code)} {cn : Str} {cs : Scope} {a : Addr} {ccd : Value} {cl : List (Str × Addr)} {outer : List Env} {A₀ : Around} {base h₀ : Heap} {L : Addr} {m : Str → Option Value} {s : Shared} {Q E : Value → Shared → Prop} {news : List (Addr × Obj)} {y : Int} {ty : Tok} {mo : Int} {tmo : Tok}
    (B : Below A₀ base outer h₀) (F : Fr h₀ L s.heap m) (X : (Mine.hd.heap_39 w.params).In h₀) (N : News h₀ L s.heap news) (T : Top Mine.hd.view_39 (looseW Mine.hd.view_39 [Str.ofString "_DAYS_IN_MONTH", Str.ofString "_DAYS_BEFORE_MONTH"]) mean mg mb h₀) (hk : cs.kind = .function) (hp0 : 1 ≤ mo) (hp1 : mo ≤ 12) (hd : dp + 4 < recursionLimit) (hu : un + 32 < cLine)
    (hret : CbRet h₀ L m news s Q (fun t => .int (dim y mo) t)) :
    wpAny (model PySem.Challenge.pw_ko0140_01 w) (ktrTop dp un gd cn cs L a ccd cl outer) (call (.ref 49) [.int y ty, .int mo tmo]) Q E s := by
  have fillme : PySem.Challenge.rw_ko0140_01 = PySem.Challenge.rw_ko0140_01 ∧ Mine.hd.heap_39 = Mine.hd.heap_39 := by
    k_fill
    exact ⟨rfl, rfl⟩
  clear fillme
  refine wpAny_call ?_
  k_dflt cell_enter
  k_steps
  all_goals cb_end hret
local macro_rules | `(tactic| walk_at "call ref") => `(tactic| (k_here; k_dflt (refine' lml_spec ?k1 ?k2 ?k3 ?k4 ?k5 ?kK ?kp0 ?kp1 ?kd ?ku ?_; (case k1 => k_asm); (case k2 => k_asm); (case k3 => k_asm); (case k4 => k_asm); (case k5 => k_asm); (case kK => first | exact rfl | assumption); (case kp0 => first | assumption | omega | ((try dsimp only); omega) | l_fact); (case kp1 => first | assumption | omega | ((try dsimp only); omega) | l_fact); (case kd => ktr_room); (case ku => ktr_units)); intro t9 h9 tk9 F9 N9; (try dsimp only); (try k_fold)))
theorem Mine.dbm_init (y : Int) : 0 = dbm y (1 + (([] : List Int).length : Int)) := rfl
theorem Mine.dbm_next {y m : Int} (h1 : 1 ≤ m) (h2 : m ≤ 12) : dbm y m + dim y m = dbm y (1 + m) := by
  unfold dbm dim
  rcases months h1 h2 with rfl | rfl | rfl | rfl | rfl | rfl | rfl | rfl | rfl | rfl | rfl | rfl <;> cases leap y <;> rfl
theorem Mine.dbm_step {y a k : Int} {pre : List Int} (h : pre.length < (13 - 1 : Int).toNat) (hk : k = 1 + (pre.length : Int)) (ha : a = dbm y (1 + (pre.length : Int))) : a + dim y k = dbm y (1 + ((pre ++ [k]).length : Int)) := by
  have e : (1 + ((pre ++ [k]).length : Int)) = 1 + k := by simp [hk]; omega
  rw [ha, ← hk, e]
  exact dbm_next (by omega) (by omega)

local macro_rules | `(tactic| walk_at "pyIter ref") => `(tactic| (first | ((k_state_given ["year"] (fun y pre ahead => ahead = dbm y (1 + (pre.length : Int))) "ahead"); all_goals (try subst_vars)) | (k_search (fun _ => True))))
local macro_rules | `(tactic| walk_at "exec For") => `(tactic| (k_here; (rename Fr _ _ _ _ => lF'); (with_unfolding_all refine' For_invVF lF' ?k1 ?k2 ?_; (case k1 => exact rfl); (case k2 => exact rfl); k_whole)))
local macro_rules | `(tactic| walk_at "exec Assert") => `(tactic| refine wpAny_Assert_msg rfl ?_)
local macro_rules | `(tactic| walk_at "noteFrame ref") => `(tactic| (k_here; (rename RaisedK _ _ _ _ _ _ _ _ => rkX); (with_reducible show wpAny _ _ (noteFrame _ _) (fun _ s₂ => wpAny _ _ (setFlight _ none) (fun _ s₃ => wpAny _ _ (handleBy _ _ (ExceptHandler.ExceptHandler (some (Expr.Name ("AssertionError" : Str) _)) (some _) _ _ :: _)) _ _ s₃) _ s₂) _ _); (refine caught_KM (T' := "AssertionError") (by assumption) (by assumption) (by assumption) (by assumption) (by k_asm) PyProof.Rows.Boot.«AssertionError» PySem.F.isExc_AssertionError PySem.F.notTuple_AssertionError (by rw [isSubtype_type]; kernel_rfl) ?_); intro h' d' nt' sl' oe' tk' F' N' G'; (try k_sweep)))
theorem PySem.Challenge.cw_ko0140_01_holds : PySem.Challenge.rw_ko0140_01.Holds := by
  k_with "state" => exact dbm_init _
  k_with "state" => exact dbm_step (by assumption) (by first | rfl | assumption) (by first | rfl | assumption)
  exact Mine.hd (by w_strict k_go)

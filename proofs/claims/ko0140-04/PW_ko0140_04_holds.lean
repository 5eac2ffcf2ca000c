import PyProof.Rows.All
import Wide.All
import OpenK.AllK
import Wide.FinOn
import PySem.Challenge.RW_ko0140_04
open PySem PySem.W PyProof.Rows PySem.Calls
set_option Elab.async false
set_option maxRecDepth 100000
set_option maxHeartbeats 8000000
namespace Mine
open_top hd for PySem.Challenge.rw_ko0140_04
end Mine
namespace Mine
section
variable {prog : Program} {w : World} {A : Around} {E : Value → Shared → Prop} {s : Shared}
theorem topListAny {K : Frag} {h₀ : Heap} {L a : Addr} {m : Str → Option Value} {n : Nat} {value slice : PySem.Expr} {l : List Value} {ns : List Int} {dd : Option Addr} {sl : Array (Option Value)} {k : Int} {u : Tok} {Q : Value → Shared → Prop} (F : Fr h₀ L s.heap m) (X₀ : K.In h₀)
    (hl : K.lookup a = some ⟨.type "list", dd, .seq l.toArray n, sl⟩) (hi : IntsAre l ns) (h0 : 0 ≤ k) (h1 : k < ns.length) (hfit : k < 2 ^ 63) (h : ∀ t, Q (.int (ns.getD k.toNat 0) t) s)
    (hs : subscripted slice false (.ref a) (.int k u) = operate [.ref a, .int k u] (getItem (.ref a) (.int k u)) := by with_unfolding_all rfl) :
    wpAny (model prog w) A (subscriptTail value slice (.ref a) (.int k u)) Q E s := by
  obtain ⟨t, hx⟩ := hi.get k.toNat _ (ints_getD h0 h1)
  exact topList_K F X₀ hl h0 hfit hx (h t) hs
end

section
variable {prog : Program} {w : World} {A₀ : Around} {E : Value → Shared → Prop} {s' : Shared} {h₀ h : Heap} {outer : List Env} {L a e t : Addr} {m : Str → Option Value} {name : Str} {scope : Scope} {cd : Value}
  {vs : List Value} {n : Str} {b₀ : Stmt} {suite : List Stmt} {pos np : Pos} {rest : List ExceptHandler} {Q : Flow → Shared → Prop} {news : List (Addr × Obj)}
  {p : Program} {loose : List Str} {mean : ExcName → Option Value} {mg mb : Str → Option Value} {x : Str} {X T' : String}
theorem caught_KM (K : Below A₀ h₀ outer h₀) (F : Fr h₀ L h m) (hsm : h.UpToSlots s'.heap) (R : RaisedK h₀ (envOf name scope L a cd :: outer) e (.type X) t vs news s'.heap)
    (T : TopRead p loose mg mb h₀) (hv : bootBuiltins x = some (.type T'))
    (hexc : isSubtype (.type T') (.type "BaseException") = pure true) (hnt : isSubtype (.type ((Manifest.find? T').elim "type" fun y => y.metatype)) (.type "tuple") = pure false) (hsub : isSubtype (.type X) (.type T') = pure true)
    (k : ∀ h' d nt sl oe tk, Fr h₀ L h' (fun y => if y = n then some (.ref e) else m y) → News h₀ L h' ((t, ⟨.type "tuple", d, .seq vs.toArray nt, sl⟩) :: (e, oe) :: news) → Got ((t, ⟨.type "tuple", d, .seq vs.toArray nt, sl⟩) :: (e, oe) :: news) e t (.type X) vs →
      wpAny (model prog w) ((A₀.deeper (envOf name scope L a cd)).mark (some (.ref e))) (execs (b₀ :: suite) (envOf name scope L a cd))
        (fun f s₄ => wpAny (model prog w) (A₀.deeper (envOf name scope L a cd)) (do bindName (envOf name scope L a cd) n .none; unbindBehindTheSuite (envOf name scope L a cd) n pos) (fun _ s₅ => Q f s₅) E s₄)
        (AsSuiteRaised (model prog w) ((A₀.deeper (envOf name scope L a cd)).mark (some (.ref e))) (envOf name scope L a cd) n pos (notedBy (model prog w) ((A₀.deeper (envOf name scope L a cd)).mark (some (.ref e))) (envOf name scope L a cd) (cameBackBy (model prog w) (A₀.deeper (envOf name scope L a cd)) (envOf name scope L a cd) E)))
        { s' with heap := h', toks := tk })
    (h1 : x ∉ startupNames := by decide +kernel) (h2 : x ∉ loose := by decide +kernel) (h3 : x ∉ (recsOf p).map (·.name) := by decide +kernel) (h4 : x ∉ (litsOf p).map (·.1) := by decide +kernel) (h4c : x ∉ (clssOf p loose).map (·.name) := by decide +kernel) (hn : x ≠ "__name__" := by decide +kernel)
    (hk : scope.kind = .function := by rfl) (hlo : (envOf name scope L a cd).kindOf n = some .local := by rfl) (hx : (envOf name scope L a cd).kindOf x = some .globalImplicit := by rfl) (hd : (x == ("__debug__" : Str)) = false := by decide) :
    wpAny (model prog w) (A₀.deeper (envOf name scope L a cd)) (noteFrame (.ref e) (envOf name scope L a cd))
      (fun _ s₂ => wpAny (model prog w) (A₀.deeper (envOf name scope L a cd)) (setFlight (.ref e) none) (fun _ s₃ =>
        wpAny (model prog w) (A₀.deeper (envOf name scope L a cd)) (handleBy (.ref e) (envOf name scope L a cd) (.ExceptHandler (some (.Name x np)) (some n) (b₀ :: suite) pos :: rest)) Q E s₃) E s₂) E s' := by
  refine caught_KB (T' := T') K F hsm R T hv hexc hnt hsub (fun h' news₂ tk F' N₂ G N' => ?_) h1 h2 h3 h4 h4c hn hk hlo hx hd
  obtain ⟨oe, ot, ws, nt, m1, m2, c1, d1, w1, c2, d2⟩ := G
  obtain ⟨oc, od, oda, osl⟩ := ot
  dsimp only at c2 d2
  subst c2 d2
  refine k h' od nt osl oe tk F' (fun q hq => ?_) ⟨oe, _, ws, nt, .tail _ (.head _), .head _, c1, d1, w1, rfl, rfl⟩
  rcases List.mem_cons.mp hq with rfl | hq
  · exact N₂ _ m2
  · rcases List.mem_cons.mp hq with rfl | hq
    · exact N₂ _ m1
    · exact N' _ hq
end
end Mine
namespace Mine
section
variable {prog : Program} {w : World} {A : Around} {E : Value → Shared → Prop} {s : Shared} {Q : Value → Shared → Prop}
theorem dm_gen {h₀ : Heap} {L : Addr} {m : Str → Option Value} {news : List (Addr × Obj)} {a b : Int} {t u : Tok} (F : Fr h₀ L s.heap m) (N : News h₀ L s.heap news) (hb : 0 < b) (hb2 : b < 1073741824)
    (h : ∀ (D : Addr) (h' : Heap) (q r : Int) (t1 t2 : Tok) (tk' : Nat), a = b * q + r → 0 ≤ r → r < b → Fr h₀ L h' m → News h₀ L h' ((D, { cls := .type "tuple", data := .seq #[.int q t1, .int r t2] }) :: news) → (∀ p ∈ news, p.1 < D) →
      Q (.ref D) { s with heap := h', toks := tk' }) :
    wpAny (model prog w) A (call (.builtin "divmod") [.int a t, .int b u]) Q E s := by
  refine divmod_N F N (by omega) (fun h' F' N' => ?_) (Or.inl (PyProof.noPylong_small (by omega)))
  refine h _ h' _ _ _ _ _ ?_ ?_ ?_ F' N' (fun p hp => Heap.lt_size (N p hp).1)
  · rw [Int.fdiv_eq_ediv_of_nonneg a (by omega), Int.fmod_eq_emod_of_nonneg a (by omega)]
    exact (Int.mul_ediv_add_emod a b).symm
  · exact Int.fmod_nonneg_of_pos a hb
  · exact Int.fmod_lt_of_pos a hb
theorem rsh5 {x : Int} {t u : Tok} (h : ∀ M tM tk', 32 * M ≤ x → x < 32 * M + 32 → Q (.int M tM) { s with toks := tk' }) :
    wpAny (model prog w) A (binaryOp .RShift (.int x t) (.int 5 u)) Q E s := by
  refine rshift_int (by decide) ?_
  have e : x.fdiv (2 ^ (5 : Int).toNat) = x / 32 := Int.fdiv_eq_ediv_of_nonneg x (by decide)
  rw [e]
  exact h _ _ _ (by omega) (by omega)
end

section
variable {prog : Program} {w : World} {A : Around} {E : Value → Shared → Prop} {s : Shared} {Q : Value → Shared → Prop} {h₀ : Heap} {L a0 : Addr} {m : Str → Option Value} {cn : Str} {cs : Scope} {ccd : Value} {cl : List (Str × Addr)}
  {a b c : Str} {va vb vc c1 c2 c3 : Int} {ta tb tc : Tok} {k1 k2 k3 : Nat} {p1 p2 p3 p4 p5 p6 p7 p8 p9 p10 p11 : Pos} {bb : Bool}
theorem leap_join (F : Fr h₀ L s.heap m) (ha : m a = some (.int va ta)) (hb : m b = some (.int vb tb)) (hc : m c = some (.int vc tc))
    (h : ∀ tk', Q (.bool (va == c1 && (vb != c2 || vc == c3))) { s with toks := tk' })
    (hk : cs.kind = .function := by rfl) (hx : (envX cn cs L a0 ccd cl).kindOf a = some .local := by rfl) (hd : (a == ("__debug__" : Str)) = false := by decide)
    (hx2 : (envX cn cs L a0 ccd cl).kindOf b = some .local := by rfl) (hd2 : (b == ("__debug__" : Str)) = false := by decide)
    (hx3 : (envX cn cs L a0 ccd cl).kindOf c = some .local := by rfl) (hd3 : (c == ("__debug__" : Str)) = false := by decide) :
    wpAny (model prog w) A (eval (.BoolOp .And [.Compare (.Name a p1) [.Eq] [.Constant (.int c1) k1 p2] p3, .BoolOp .Or [.Compare (.Name b p4) [.NotEq] [.Constant (.int c2) k2 p5] p6, .Compare (.Name c p7) [.Eq] [.Constant (.int c3) k3 p8] p9] p10] p11) (envX cn cs L a0 ccd cl)) Q E s := by
  refine BoolOp_and (wpAny_Compare1 (nameX_L F ha (wpAny_Constant_int (PyProof.Rows.eq_int ?_)) hk hx hd))
  refine wpAny_truthy_bool ?_
  cases e1 : (va == c1)
  · rw [e1] at h
    exact h _
  · rw [e1] at h
    simp only [if_true]
    refine BoolOp_one (BoolOp_or (wpAny_Compare1 (nameX_L F hb (wpAny_Constant_int (PyProof.Rows.ne_int ?_)) hk hx2 hd2)))
    refine wpAny_truthy_bool ?_
    cases e2 : (vb != c2)
    · rw [e2] at h
      simp only [Bool.false_eq_true, if_false]
      refine BoolOp_one (wpAny_Compare1 (nameX_L F hc (wpAny_Constant_int (PyProof.Rows.eq_int ?_)) hk hx3 hd3))
      exact h _
    · rw [e2] at h
      simp only [if_true]
      exact h _
theorem gt_join (F : Fr h₀ L s.heap m) (ha : m a = some (.int va ta)) (hb : m b = some (.bool bb))
    (h : ∀ tk', Q (.bool (decide (c1 < va) && bb)) { s with toks := tk' })
    (hk : cs.kind = .function := by rfl) (hx : (envX cn cs L a0 ccd cl).kindOf a = some .local := by rfl) (hd : (a == ("__debug__" : Str)) = false := by decide)
    (hx2 : (envX cn cs L a0 ccd cl).kindOf b = some .local := by rfl) (hd2 : (b == ("__debug__" : Str)) = false := by decide) :
    wpAny (model prog w) A (eval (.BoolOp .And [.Compare (.Name a p1) [.Gt] [.Constant (.int c1) k1 p2] p3, .Name b p4] p11) (envX cn cs L a0 ccd cl)) Q E s := by
  refine BoolOp_and (wpAny_Compare1 (nameX_L F ha (wpAny_Constant_int (PyProof.Rows.gt_int ?_)) hk hx hd))
  refine wpAny_truthy_bool ?_
  cases e1 : (decide (c1 < va))
  · rw [e1] at h
    exact h _
  · rw [e1] at h
    simp only [if_true]
    exact BoolOp_one (nameX_L F hb (h _) hk hx2 hd2)
theorem eq_join (F : Fr h₀ L s.heap m) (ha : m a = some (.int va ta)) (hb : m b = some (.bool bb))
    (h : ∀ tk', Q (.bool (va == c1 && bb)) { s with toks := tk' })
    (hk : cs.kind = .function := by rfl) (hx : (envX cn cs L a0 ccd cl).kindOf a = some .local := by rfl) (hd : (a == ("__debug__" : Str)) = false := by decide)
    (hx2 : (envX cn cs L a0 ccd cl).kindOf b = some .local := by rfl) (hd2 : (b == ("__debug__" : Str)) = false := by decide) :
    wpAny (model prog w) A (eval (.BoolOp .And [.Compare (.Name a p1) [.Eq] [.Constant (.int c1) k1 p2] p3, .Name b p4] p11) (envX cn cs L a0 ccd cl)) Q E s := by
  refine BoolOp_and (wpAny_Compare1 (nameX_L F ha (wpAny_Constant_int (PyProof.Rows.eq_int ?_)) hk hx hd))
  refine wpAny_truthy_bool ?_
  cases e1 : (va == c1)
  · rw [e1] at h
    exact h _
  · rw [e1] at h
    simp only [if_true]
    exact BoolOp_one (nameX_L F hb (h _) hk hx2 hd2)
end
end Mine
namespace Mine
open PySem.Spec PyProof.Rows.LCg PyProof.Rows.LCt
def SrcTup (ax : Addr) (its : Array Value) (nw : List (Addr × Obj)) : Prop := ∃ o, (ax, o) ∈ nw ∧ o.cls = .type "tuple" ∧ ∃ n, o.data = .seq its n
section
variable {prog : Program} {w : World} {A : Around} {E : Value → Shared → Prop} {s : Shared} {h₀ : Heap} {L : Addr} {m : Str → Option Value} {env : Env}
theorem srcTup_at {h : Heap} {ax : Addr} {its : Array Value} {nw : List (Addr × Obj)} (S : SrcTup ax its nw) (N : News h₀ L h nw) : h.IsTuple ax its := by
  obtain ⟨o, hm, hc, n, hd⟩ := S
  exact ⟨o, (N _ hm).1, hc, n, hd⟩
theorem tup_st {ax I : Addr} {its : Array Value} : ∀ i (h h' : Heap) (o : Obj) (nw : List (Addr × Obj)), (h.IsTupleIter I ax i ∧ h.IsTuple ax its) → h.get? I = some o → h'.get? I = some o → (∀ b o, h₀.get? b = some o → h'.get? b = some o) → News h₀ L h' nw → SrcTup ax its nw → (h'.IsTupleIter I ax i ∧ h'.IsTuple ax its) := by
  rintro i h h' o nw ⟨⟨o', e, hc, hd⟩, _⟩ e1 e2 _ N S
  rw [e] at e1
  cases e1
  exact ⟨⟨_, e2, hc, hd⟩, srcTup_at S N⟩
theorem ListComp_Tt {ct elt iter : Expr} {x : Str} {px : Pos} {scope : Scope} {cl : List (Str × Addr)} {pos : Pos} {Q : Value → Shared → Prop} (F₀ : Fr h₀ L s.heap m)
    (hclos : closureFor scope env = pure cl) (hcell : ∀ y ∈ scope.names, y.2 ≠ .cell) (hkind : scope.kind = .function)
    (hnames : ∀ y ∈ scope.names, y.2 = .local → scope.names.lookup y.1 = some .local) (hx : scope.names.lookup x = some .local)
    (h : wpAny (model prog w) A (eval iter env) (fun xv s₁ => ∃ ax its news, xv = .ref ax ∧ A.handled = none ∧ Fr h₀ L s₁.heap m ∧ News h₀ L s₁.heap news ∧ SrcTup ax its news ∧ its.size ≤ sizeLine ∧
      ∀ g, CompRestT prog w A h₀ L m env ct elt x scope cl { s₁ with heap := g } (SrcTup ax its) (fun i v => its[i]? = some v) (FinE h₀ L m { s₁ with heap := g } Q) its.size 0 [] news) E s)
    (hs : ∀ x, foldedSetIterable iter env x = pure x := by intro _; rfl) :
    wpAny (model prog w) A (eval (.ListComp elt [⟨.Name x px, iter, [ct], 0⟩] scope pos) env) Q E s := by
  rw [eval_ListComp]
  refine wpAny_comprehension_free (use := none) rfl hs hclos hkind hnames (wpAny_mono h (fun xv s₁ h₁ => ?_) fun _ _ e => e)
  obtain ⟨ax, its, news, rfl, hh, F, N, S, hsz, R⟩ := h₁
  have hl := srcTup_at S N
  have hlt : ax < s₁.heap.objs.size := by
    obtain ⟨_, e, _⟩ := hl
    exact Heap.lt_size e
  refine wpAny_pyIter_tuple hl ?_
  have up : ∀ b o, s₁.heap.get? b = some o → (s₁.heap.push { cls := .type "tuple_iterator", data := .fields #[.ref ax, .int 0 0] }).get? b = some o := fun b o e => Heap.get?_push_of_some _ e
  refine block_T (Walks.tuple hh s₁.heap.objs.size ax (Nat.ne_of_lt hlt) its) hsz (fun i h st => by obtain ⟨o, e, _⟩ := st.1; exact ⟨o, e⟩) tup_st hcell hkind hx ⟨⟨_, Heap.get?_push_size _ rfl, rfl, rfl⟩, ?_⟩ (fun b hb => ?_)
    (F.keeps up) (N.grown up) (Nat.ne_of_lt F.ns.lt) (next_is_new F) (fun p hp => Nat.ne_of_lt (Heap.lt_size (N p hp).1)) S (R _) ?_
  · exact srcTup_at S (N.grown up)
  · show b < (s₁.heap.push _).objs.size
    rw [Heap.size_push]
    rcases List.mem_cons.mp hb with rfl | hb
    · exact Nat.lt_succ_self _
    · rw [List.mem_singleton.mp hb]
      exact Nat.lt_succ_of_lt hlt
  · intro D C h tk m' ys news' F' N' o1 hn hC₀ hD₀ hCL hDL hCD offC fin
    refine ⟨m', hn, fun h'' hs'' => fin D h'' tk (F'.change hs'' hCL hC₀) (fun p hp => ?_) o1⟩
    refine ⟨hs''.extBut _ _ ?_ (N' p hp).1, (N' p hp).2⟩
    rcases List.mem_cons.mp hp with rfl | hp
    · exact Ne.symm hCD
    · exact offC p hp
end
end Mine
namespace Mine
open PySem.Spec
theorem ok_lit (s : String) : PyData.strOk (PySem.Str.ofString s) = true := by
  rw [PySem.Str.ofString_eq_toList]
  unfold PyData.strOk
  rw [List.all_toArray, List.all_eq_true]
  intro c hc
  obtain ⟨d, _, rfl⟩ := List.mem_map.mp hc
  rcases d.valid with h | h
  · have h2 : d.toNat < 0xd800 := h
    exact decide_eq_true (by omega)
  · have h2 : d.toNat < 0x110000 := h.2
    exact decide_eq_true h2
theorem ok_add {a b : PySem.Str} (ha : PyData.strOk a = true) (hb : PyData.strOk b = true) : PyData.strOk (a ++ b) = true := by
  unfold PyData.strOk at *
  rw [PySem.Str.cps_append, Array.all_append, ha, hb]
  rfl
theorem shaped1 {x : PySem.Str} (h : PyData.strOk x = true) : SeqAt.shaped (.tuple [.str x]) = true := by
  simp [SeqAt.shaped, PyData.canLay0, PyData.canLayAll0, PyData.depth, PyData.depthAll, h]
theorem eqv1 (x : PySem.Str) : PyData.eqv (.tuple [.str x]) (.tuple [.str x]) = true := by
  simp [PyData.eqv, PyData.eqvAll]
theorem e_msg2 (a b : PySem.Str) : PySem.Str.empty ++ a ++ b = a ++ b := by rw [PySem.Str.empty_append]
theorem e_msg3 (a b c : PySem.Str) : PySem.Str.empty ++ a ++ b ++ c = a ++ b ++ c := by rw [PySem.Str.empty_append]
section
variable {prog : Program} {w : World} {A : Around} {E : Value → Shared → Prop} {s : Shared} {Q : Value → Shared → Prop}
theorem eq_1str {a b : Addr} {x y : PySem.Str} {as bs : List Addr} (ra : Reads s.heap (.ref a) (.tuple [.str x]) as) (rb : Reads s.heap (.ref b) (.tuple [.str y]) bs) (e : x = y) (ho : PyData.strOk y = true) (hu : A.units + 64 < cLine) (h : Q (.bool true) s) :
    wpAny (model prog w) A (compareOp .Eq (.ref a) (.ref b)) Q E s := by
  subst e
  exact eq_dataH ra rb (shaped1 ho) (shaped1 ho) hu (by rw [eqv1]; exact h)
end
end Mine
namespace Mine
def leap (y : Int) : Bool := (y.fmod 4 == 0) && ((y.fmod 100 != 0) || (y.fmod 400 == 0))
def dimL : List Int := [-1, 31, 28, 31, 30, 31, 30, 31, 31, 30, 31, 30, 31]
def dbmL : List Int := [-1, 0, 31, 59, 90, 120, 151, 181, 212, 243, 273, 304, 334]
def dim (y m : Int) : Int := if m = 2 ∧ leap y = true then 29 else dimL.getD m.toNat 0
def dbm (y m : Int) : Int := dbmL.getD m.toNat 365 + (if 2 < m ∧ leap y = true then 1 else 0)
def dby (y : Int) : Int := (y - 1) * 365 + (y - 1) / 4 - (y - 1) / 100 + (y - 1) / 400
def turns (y : Int) : Int := (dby y + 3) / 7
theorem fm4 (y : Int) : y.fmod 4 = y % 4 := Int.fmod_eq_emod_of_nonneg y (by decide)
theorem fm7 (y : Int) : y.fmod 7 = y % 7 := Int.fmod_eq_emod_of_nonneg y (by decide)
theorem fm100 (y : Int) : y.fmod 100 = y % 100 := Int.fmod_eq_emod_of_nonneg y (by decide)
theorem fm400 (y : Int) : y.fmod 400 = y % 400 := Int.fmod_eq_emod_of_nonneg y (by decide)
theorem fdv4 (y : Int) : y.fdiv 4 = y / 4 := Int.fdiv_eq_ediv_of_nonneg y (by decide)
theorem fdv7 (y : Int) : y.fdiv 7 = y / 7 := Int.fdiv_eq_ediv_of_nonneg y (by decide)
theorem fdv100 (y : Int) : y.fdiv 100 = y / 100 := Int.fdiv_eq_ediv_of_nonneg y (by decide)
theorem fdv400 (y : Int) : y.fdiv 400 = y / 400 := Int.fdiv_eq_ediv_of_nonneg y (by decide)
theorem leap_iff (y : Int) : leap y = true ↔ y % 4 = 0 ∧ (y % 100 ≠ 0 ∨ y % 400 = 0) := by
  simp only [leap, fm4, fm100, fm400, Bool.and_eq_true, Bool.or_eq_true, beq_iff_eq, bne_iff_ne]
theorem months {m : Int} (h1 : 1 ≤ m) (h2 : m ≤ 12) : m = 1 ∨ m = 2 ∨ m = 3 ∨ m = 4 ∨ m = 5 ∨ m = 6 ∨ m = 7 ∨ m = 8 ∨ m = 9 ∨ m = 10 ∨ m = 11 ∨ m = 12 := by omega
theorem lml_gen {y m : Int} (h1 : 1 ≤ m) (h2 : m ≤ 12) (hn : m ≠ 2) : 30 + (m + m.fdiv 8).fmod 2 = dim y m := by
  unfold dim
  rw [if_neg (fun h => hn h.1)]
  rcases months h1 h2 with rfl | rfl | rfl | rfl | rfl | rfl | rfl | rfl | rfl | rfl | rfl | rfl <;> first | rfl | exact absurd rfl hn
theorem lml_28 {y m : Int} (hm : m = 2) (h : y % 4 ≠ 0 ∨ (y % 400 = 100 ∨ y % 400 = 200 ∨ y % 400 = 300)) : 28 = dim y m := by
  subst hm
  unfold dim
  rw [if_neg (fun h' => by have := (leap_iff y).mp h'.2; omega)]
  rfl
theorem lml_29 {y m : Int} (hm : m = 2) (h4 : y % 4 = 0) (h : ¬ (y % 400 = 100 ∨ y % 400 = 200 ∨ y % 400 = 300)) : 29 = dim y m := by
  subst hm
  unfold dim
  rw [if_pos ⟨rfl, (leap_iff y).mpr (by omega)⟩]
theorem dbm_val {y m : Int} (h1 : 1 ≤ m) (h2 : m ≤ 12) : dbm y m = dbmL.getD m.toNat 0 + (if 2 < m ∧ leap y = true then 1 else 0) := by
  unfold dbm
  rcases months h1 h2 with rfl | rfl | rfl | rfl | rfl | rfl | rfl | rfl | rfl | rfl | rfl | rfl <;> rfl
theorem dbm_low {y m : Int} (h1 : 1 ≤ m) (h2 : m ≤ 12) (h : ¬ 2 < m) : (([-1, 0, 31, 59, 90, 120, 151, 181, 212, 243, 273, 304, 334] : List Int).getD m.toNat 0 + if decide (2 < m) = true then 1 else 0) = dbm y m := by
  rw [dbm_val h1 h2, if_neg (by simpa using h), if_neg (fun q => h q.1)]
  rfl
theorem dim_one (y : Int) : 1 ≤ dim y 1 := by
  unfold dim
  rw [if_neg (fun h => absurd h.1 (by decide))]
  decide
theorem dbm_one (y : Int) : dbm y 1 = 0 := rfl
theorem mon_lo {y : Int} (h : ¬ 3 < (dby y + dbm y 1 + 1 + 6).fmod 7) : dby y + dbm y 1 + 1 - (dby y + dbm y 1 + 1 + 6).fmod 7 = 7 * turns y + 1 := by
  rw [dbm_one] at *
  simp only [fm7, turns] at *
  omega
theorem mon_hi {y : Int} (h : 3 < (dby y + dbm y 1 + 1 + 6).fmod 7) : dby y + dbm y 1 + 1 - (dby y + dbm y 1 + 1 + 6).fmod 7 + 7 = 7 * turns y + 1 := by
  rw [dbm_one] at *
  simp only [fm7, turns] at *
  omega
def wk (y : Int) : Int := turns (y + 1) - turns y
theorem dby_next (y : Int) : dby (y + 1) = dby y + 365 + (if leap y = true then 1 else 0) := by
  have e := leap_iff y
  unfold dby
  cases h : leap y
  · rw [h] at e; simp only [Bool.false_eq_true, false_iff] at e; simp only [Bool.false_eq_true, if_false]; omega
  · rw [h] at e; simp only [true_iff] at e; simp only [if_true]; omega
theorem turns_next (y : Int) : 52 ≤ turns (y + 1) - turns y ∧ turns (y + 1) - turns y ≤ 53 := by
  have e := dby_next y
  unfold turns
  rw [e]
  split <;> omega
theorem turns_53 (y : Int) : turns (y + 1) - turns y = 53 ↔ ((dby y + dbm y 1 + 1).fmod 7 = 4 ∨ ((dby y + dbm y 1 + 1).fmod 7 = 3 ∧ leap y = true)) := by
  have e := dby_next y
  rw [dbm_one, fm7]
  unfold turns
  rw [e]
  cases leap y <;> simp only [Bool.false_eq_true, if_false, if_true, and_false, and_true, or_false] <;> omega
local macro_rules | `(tactic| cb_eq) => `(tactic| first | exact dbm_low (by assumption) (by assumption) (by first | omega | (simp_all; done)) | ((rw [dbm_val (by assumption) (by assumption)]; simp only [dbmL] at *); first | (simp_all; done) | (split <;> simp_all; done)) | exact lml_gen (by assumption) (by assumption) (by assumption) | (simp only [List.any_cons, List.any_nil, Bool.or_false, Bool.or_eq_true, Bool.or_eq_false_iff, beq_iff_eq, beq_eq_false_iff_ne, fm4, fm400] at *; first | exact lml_28 (by assumption) (by omega) | exact lml_29 (by assumption) (by omega) (by omega)) | (simp_all [leap, dim, dbm, dimL, dbmL]; done) | (simp only [leap, dim, dbm, dimL, dbmL] at *; simp_all; omega) | (simp only [leap, dim, dbm, dimL, dbmL] at *; split <;> simp_all; done) | fail "cb_eq")
local macro_rules | `(tactic| walk_at "subscriptTail") => `(tactic| (k_here; (with_reducible show wpAny _ _ (subscriptTail _ _ (Value.ref _) (Value.int _ _)) _ _ _); kmn_open; (with_unfolding_all (refine' topListAny ?F ?X ?l ?i ?k3 ?k4 ?k5 ?_; (case F => k_asm); (case X => k_asm); (case l => k_is); (case i => l_ints); (case k3 => l_idx); (case k4 => l_idx); (case k5 => l_idx); k_whole)); intro _))
theorem leap_spec {w : World} {mean : ExcName → Option Value} {mg mb : Str → Option Value} {dp un : Nat} {gd : Option (List Code)} {cn : Str} {cs : Scope} {a : Addr} {ccd : Value} {cl : List (Str × Addr)} {outer : List Env} {A₀ : Around} {base h₀ : Heap} {L : Addr} {m : Str → Option Value} {s : Shared} {Q E : Value → Shared → Prop} {news : List (Addr × Obj)} {y : Int} {ty : Tok}
    (B : Below A₀ base outer h₀) (F : Fr h₀ L s.heap m) (X : (Mine.hd.heap_39 w.params).In h₀) (N : News h₀ L s.heap news) (T : Top Mine.hd.view_39 (looseW Mine.hd.view_39 [Str.ofString "_DAYS_IN_MONTH", Str.ofString "_DAYS_BEFORE_MONTH", Str.ofString "_DI400Y", Str.ofString "_DI100Y", Str.ofString "_DI4Y"]) mean mg mb h₀) (hk : cs.kind = .function) (hd : dp + 2 < recursionLimit) (hu : un + 16 < cLine)
    (hret : CbRet h₀ L m news s Q (fun _ => .bool (leap y))) :
    wpAny (model PySem.Challenge.pw_ko0140_04 w) (ktrTop dp un gd cn cs L a ccd cl outer) (call (.ref 28) [.int y ty]) Q E s := by
  have fillme : PySem.Challenge.rw_ko0140_04 = PySem.Challenge.rw_ko0140_04 ∧ Mine.hd.heap_39 = Mine.hd.heap_39 := by
    k_fill
    exact ⟨rfl, rfl⟩
  clear fillme
  refine wpAny_call ?_
  k_dflt cell_enter
  k_steps
  all_goals cb_end hret
local macro_rules | `(tactic| walk_at "call ref") => `(tactic| (k_here; k_dflt (refine' leap_spec ?k1 ?k2 ?k3 ?k4 ?k5 ?kK ?kd ?ku ?_; (case k1 => k_asm); (case k2 => k_asm); (case k3 => k_asm); (case k4 => k_asm); (case k5 => k_asm); (case kK => first | exact rfl | assumption); (case kd => ktr_room); (case ku => ktr_units)); intro t9 h9 tk9 F9 N9; (try dsimp only); (try k_fold)))
theorem dim_spec {w : World} {mean : ExcName → Option Value} {mg mb : Str → Option Value} {dp un : Nat} {gd : Option (List Code)} {cn : Str} {cs : Scope} {a : Addr} {ccd : Value} {cl : List (Str × Addr)} {outer : List Env} {A₀ : Around} {base h₀ : Heap} {L : Addr} {m : Str → Option Value} {s : Shared} {Q E : Value → Shared → Prop} {news : List (Addr × Obj)} {y : Int} {ty : Tok} {mo : Int} {tmo : Tok}
    (B : Below A₀ base outer h₀) (F : Fr h₀ L s.heap m) (X : (Mine.hd.heap_39 w.params).In h₀) (N : News h₀ L s.heap news) (T : Top Mine.hd.view_39 (looseW Mine.hd.view_39 [Str.ofString "_DAYS_IN_MONTH", Str.ofString "_DAYS_BEFORE_MONTH", Str.ofString "_DI400Y", Str.ofString "_DI100Y", Str.ofString "_DI4Y"]) mean mg mb h₀) (hk : cs.kind = .function) (hp0 : 1 ≤ mo) (hp1 : mo ≤ 12) (hd : dp + 4 < recursionLimit) (hu : un + 32 < cLine)
    (hret : CbRet h₀ L m news s Q (fun t => .int (dim y mo) t)) :
    wpAny (model PySem.Challenge.pw_ko0140_04 w) (ktrTop dp un gd cn cs L a ccd cl outer) (call (.ref 42) [.int y ty, .int mo tmo]) Q E s := by
  have fillme : PySem.Challenge.rw_ko0140_04 = PySem.Challenge.rw_ko0140_04 ∧ Mine.hd.heap_39 = Mine.hd.heap_39 := by
    k_fill
    exact ⟨rfl, rfl⟩
  clear fillme
  refine wpAny_call ?_
  k_dflt cell_enter
  k_steps
  all_goals cb_end hret
local macro_rules | `(tactic| walk_at "call ref") => `(tactic| (k_here; k_dflt (refine' dim_spec ?k1 ?k2 ?k3 ?k4 ?k5 ?kK ?kp0 ?kp1 ?kd ?ku ?_; (case k1 => k_asm); (case k2 => k_asm); (case k3 => k_asm); (case k4 => k_asm); (case k5 => k_asm); (case kK => first | exact rfl | assumption); (case kp0 => first | assumption | omega | ((try dsimp only); omega) | exact dim_one _ | exact mo_low (by assumption) (by assumption) (by assumption) | l_fact); (case kp1 => first | assumption | omega | ((try dsimp only); omega) | exact dim_one _ | exact mo_low (by assumption) (by assumption) (by assumption) | l_fact); (case kd => ktr_room); (case ku => ktr_units)); intro t9 h9 tk9 F9 N9; (try dsimp only); (try k_fold)))
theorem dbm_spec {w : World} {mean : ExcName → Option Value} {mg mb : Str → Option Value} {dp un : Nat} {gd : Option (List Code)} {cn : Str} {cs : Scope} {a : Addr} {ccd : Value} {cl : List (Str × Addr)} {outer : List Env} {A₀ : Around} {base h₀ : Heap} {L : Addr} {m : Str → Option Value} {s : Shared} {Q E : Value → Shared → Prop} {news : List (Addr × Obj)} {y : Int} {ty : Tok} {mo : Int} {tmo : Tok}
    (B : Below A₀ base outer h₀) (F : Fr h₀ L s.heap m) (X : (Mine.hd.heap_39 w.params).In h₀) (N : News h₀ L s.heap news) (T : Top Mine.hd.view_39 (looseW Mine.hd.view_39 [Str.ofString "_DAYS_IN_MONTH", Str.ofString "_DAYS_BEFORE_MONTH", Str.ofString "_DI400Y", Str.ofString "_DI100Y", Str.ofString "_DI4Y"]) mean mg mb h₀) (hk : cs.kind = .function) (hp0 : 1 ≤ mo) (hp1 : mo ≤ 12) (hd : dp + 4 < recursionLimit) (hu : un + 32 < cLine)
    (hret : CbRet h₀ L m news s Q (fun t => .int (dbm y mo) t)) :
    wpAny (model PySem.Challenge.pw_ko0140_04 w) (ktrTop dp un gd cn cs L a ccd cl outer) (call (.ref 49) [.int y ty, .int mo tmo]) Q E s := by
  have fillme : PySem.Challenge.rw_ko0140_04 = PySem.Challenge.rw_ko0140_04 ∧ Mine.hd.heap_39 = Mine.hd.heap_39 := by
    k_fill
    exact ⟨rfl, rfl⟩
  clear fillme
  refine wpAny_call ?_
  k_dflt cell_enter
  k_steps
  all_goals cb_end hret
local macro_rules | `(tactic| walk_at "call ref") => `(tactic| (k_here; k_dflt (refine' dbm_spec ?k1 ?k2 ?k3 ?k4 ?k5 ?kK ?kp0 ?kp1 ?kd ?ku ?_; (case k1 => k_asm); (case k2 => k_asm); (case k3 => k_asm); (case k4 => k_asm); (case k5 => k_asm); (case kK => first | exact rfl | assumption); (case kp0 => first | assumption | omega | ((try dsimp only); omega) | exact dim_one _ | exact mo_low (by assumption) (by assumption) (by assumption) | l_fact); (case kp1 => first | assumption | omega | ((try dsimp only); omega) | exact dim_one _ | exact mo_low (by assumption) (by assumption) (by assumption) | l_fact); (case kd => ktr_room); (case ku => ktr_units)); intro t9 h9 tk9 F9 N9; (try dsimp only); (try k_fold)))
theorem lml_spec {w : World} {mean : ExcName → Option Value} {mg mb : Str → Option Value} {dp un : Nat} {gd : Option (List Code)} {cn : Str} {cs : Scope} {a : Addr} {ccd : Value} {cl : List (Str × Addr)} {outer : List Env} {A₀ : Around} {base h₀ : Heap} {L : Addr} {m : Str → Option Value} {s : Shared} {Q E : Value → Shared → Prop} {news : List (Addr × Obj)} {y : Int} {ty : Tok} {mo : Int} {tmo : Tok}
    (B : Below A₀ base outer h₀) (F : Fr h₀ L s.heap m) (X : (Mine.hd.heap_39 w.params).In h₀) (N : News h₀ L s.heap news) (T : Top Mine.hd.view_39 (looseW Mine.hd.view_39 [Str.ofString "_DAYS_IN_MONTH", Str.ofString "_DAYS_BEFORE_MONTH", Str.ofString "_DI400Y", Str.ofString "_DI100Y", Str.ofString "_DI4Y"]) mean mg mb h₀) (hk : cs.kind = .function) (hp0 : 1 ≤ mo) (hp1 : mo ≤ 12) (hd : dp + 4 < recursionLimit) (hu : un + 32 < cLine)
    (hret : CbRet h₀ L m news s Q (fun t => .int (dim y mo) t)) :
    wpAny (model PySem.Challenge.pw_ko0140_04 w) (ktrTop dp un gd cn cs L a ccd cl outer) (call (.ref 87) [.int y ty, .int mo tmo]) Q E s := by
  have fillme : PySem.Challenge.rw_ko0140_04 = PySem.Challenge.rw_ko0140_04 ∧ Mine.hd.heap_39 = Mine.hd.heap_39 := by
    k_fill
    exact ⟨rfl, rfl⟩
  clear fillme
  refine wpAny_call ?_
  k_dflt cell_enter
  k_steps
  all_goals cb_end hret
local macro_rules | `(tactic| walk_at "call ref") => `(tactic| (k_here; k_dflt (refine' lml_spec ?k1 ?k2 ?k3 ?k4 ?k5 ?kK ?kp0 ?kp1 ?kd ?ku ?_; (case k1 => k_asm); (case k2 => k_asm); (case k3 => k_asm); (case k4 => k_asm); (case k5 => k_asm); (case kK => first | exact rfl | assumption); (case kp0 => first | assumption | omega | ((try dsimp only); omega) | exact dim_one _ | exact mo_low (by assumption) (by assumption) (by assumption) | l_fact); (case kp1 => first | assumption | omega | ((try dsimp only); omega) | exact dim_one _ | exact mo_low (by assumption) (by assumption) (by assumption) | l_fact); (case kd => ktr_room); (case ku => ktr_units)); intro t9 h9 tk9 F9 N9; (try dsimp only); (try k_fold)))
local macro_rules | `(tactic| cb_eq) => `(tactic| first | rfl | (simp only [dby, turns, lcut, fdv4, fdv100, fdv400, fdv7, fm7] at *; done) | (simp only [dby, turns, lcut, fdv4, fdv100, fdv400, fdv7, fm7] at *; omega) | fail "cb_eq2")
theorem dby_spec {w : World} {mean : ExcName → Option Value} {mg mb : Str → Option Value} {dp un : Nat} {gd : Option (List Code)} {cn : Str} {cs : Scope} {a : Addr} {ccd : Value} {cl : List (Str × Addr)} {outer : List Env} {A₀ : Around} {base h₀ : Heap} {L : Addr} {m : Str → Option Value} {s : Shared} {Q E : Value → Shared → Prop} {news : List (Addr × Obj)} {y : Int} {ty : Tok}
    (B : Below A₀ base outer h₀) (F : Fr h₀ L s.heap m) (X : (Mine.hd.heap_39 w.params).In h₀) (N : News h₀ L s.heap news) (T : Top Mine.hd.view_39 (looseW Mine.hd.view_39 [Str.ofString "_DAYS_IN_MONTH", Str.ofString "_DAYS_BEFORE_MONTH", Str.ofString "_DI400Y", Str.ofString "_DI100Y", Str.ofString "_DI4Y"]) mean mg mb h₀) (hk : cs.kind = .function) (hd : dp + 2 < recursionLimit) (hu : un + 16 < cLine)
    (hret : CbRet h₀ L m news s Q (fun t => .int (dby y) t)) :
    wpAny (model PySem.Challenge.pw_ko0140_04 w) (ktrTop dp un gd cn cs L a ccd cl outer) (call (.ref 35) [.int y ty]) Q E s := by
  have fillme : PySem.Challenge.rw_ko0140_04 = PySem.Challenge.rw_ko0140_04 ∧ Mine.hd.heap_39 = Mine.hd.heap_39 := by
    k_fill
    exact ⟨rfl, rfl⟩
  clear fillme
  refine wpAny_call ?_
  k_dflt cell_enter
  k_steps
  all_goals cb_end hret
local macro_rules | `(tactic| walk_at "call ref") => `(tactic| (k_here; k_dflt (refine' dby_spec ?k1 ?k2 ?k3 ?k4 ?k5 ?kK ?kd ?ku ?_; (case k1 => k_asm); (case k2 => k_asm); (case k3 => k_asm); (case k4 => k_asm); (case k5 => k_asm); (case kK => first | exact rfl | assumption); (case kd => ktr_room); (case ku => ktr_units)); intro t9 h9 tk9 F9 N9; (try dsimp only); (try k_fold)))
theorem ymd_spec {w : World} {mean : ExcName → Option Value} {mg mb : Str → Option Value} {dp un : Nat} {gd : Option (List Code)} {cn : Str} {cs : Scope} {a : Addr} {ccd : Value} {cl : List (Str × Addr)} {outer : List Env} {A₀ : Around} {base h₀ : Heap} {L : Addr} {m : Str → Option Value} {s : Shared} {Q E : Value → Shared → Prop} {news : List (Addr × Obj)} {y : Int} {ty : Tok} {mo : Int} {tmo : Tok} {da : Int} {tda : Tok}
    (B : Below A₀ base outer h₀) (F : Fr h₀ L s.heap m) (X : (Mine.hd.heap_39 w.params).In h₀) (N : News h₀ L s.heap news) (T : Top Mine.hd.view_39 (looseW Mine.hd.view_39 [Str.ofString "_DAYS_IN_MONTH", Str.ofString "_DAYS_BEFORE_MONTH", Str.ofString "_DI400Y", Str.ofString "_DI100Y", Str.ofString "_DI4Y"]) mean mg mb h₀) (hk : cs.kind = .function) (hp0 : 1 ≤ mo) (hp1 : mo ≤ 12) (hp2 : 1 ≤ da) (hp3 : da ≤ dim y mo) (hd : dp + 6 < recursionLimit) (hu : un + 48 < cLine)
    (hret : CbRet h₀ L m news s Q (fun t => .int (dby y + dbm y mo + da) t)) :
    wpAny (model PySem.Challenge.pw_ko0140_04 w) (ktrTop dp un gd cn cs L a ccd cl outer) (call (.ref 56) [.int y ty, .int mo tmo, .int da tda]) Q E s := by
  have fillme : PySem.Challenge.rw_ko0140_04 = PySem.Challenge.rw_ko0140_04 ∧ Mine.hd.heap_39 = Mine.hd.heap_39 := by
    k_fill
    exact ⟨rfl, rfl⟩
  clear fillme
  refine wpAny_call ?_
  k_dflt cell_enter
  k_steps
  all_goals cb_end hret
local macro_rules | `(tactic| walk_at "call ref") => `(tactic| (k_here; k_dflt (refine' ymd_spec ?k1 ?k2 ?k3 ?k4 ?k5 ?kK ?kp0 ?kp1 ?kp2 ?kp3 ?kd ?ku ?_; (case k1 => k_asm); (case k2 => k_asm); (case k3 => k_asm); (case k4 => k_asm); (case k5 => k_asm); (case kK => first | exact rfl | assumption); (case kp0 => first | assumption | omega | ((try dsimp only); omega) | exact dim_one _ | exact mo_low (by assumption) (by assumption) (by assumption) | l_fact); (case kp1 => first | assumption | omega | ((try dsimp only); omega) | exact dim_one _ | exact mo_low (by assumption) (by assumption) (by assumption) | l_fact); (case kp2 => first | assumption | omega | ((try dsimp only); omega) | exact dim_one _ | exact mo_low (by assumption) (by assumption) (by assumption) | l_fact); (case kp3 => first | assumption | omega | ((try dsimp only); omega) | exact dim_one _ | exact mo_low (by assumption) (by assumption) (by assumption) | l_fact); (case kd => ktr_room); (case ku => ktr_units)); intro t9 h9 tk9 F9 N9; (try dsimp only); (try k_fold)))
end Mine
namespace Mine
local macro_rules | `(tactic| walk_at "call ref") => `(tactic| (k_here; k_dflt (refine' leap_spec ?k1 ?k2 ?k3 ?k4 ?k5 ?kK ?kd ?ku ?_; (case k1 => k_asm); (case k2 => k_asm); (case k3 => k_asm); (case k4 => k_asm); (case k5 => k_asm); (case kK => first | exact rfl | assumption); (case kd => ktr_room); (case ku => ktr_units)); intro t9 h9 tk9 F9 N9; (try dsimp only); (try k_fold)))
local macro_rules | `(tactic| walk_at "call ref") => `(tactic| (k_here; k_dflt (refine' dim_spec ?k1 ?k2 ?k3 ?k4 ?k5 ?kK ?kp0 ?kp1 ?kd ?ku ?_; (case k1 => k_asm); (case k2 => k_asm); (case k3 => k_asm); (case k4 => k_asm); (case k5 => k_asm); (case kK => first | exact rfl | assumption); (case kp0 => first | assumption | omega | ((try dsimp only); omega) | exact dim_one _ | exact mo_low (by assumption) (by assumption) (by assumption) | l_fact); (case kp1 => first | assumption | omega | ((try dsimp only); omega) | exact dim_one _ | exact mo_low (by assumption) (by assumption) (by assumption) | l_fact); (case kd => ktr_room); (case ku => ktr_units)); intro t9 h9 tk9 F9 N9; (try dsimp only); (try k_fold)))
local macro_rules | `(tactic| walk_at "call ref") => `(tactic| (k_here; k_dflt (refine' dbm_spec ?k1 ?k2 ?k3 ?k4 ?k5 ?kK ?kp0 ?kp1 ?kd ?ku ?_; (case k1 => k_asm); (case k2 => k_asm); (case k3 => k_asm); (case k4 => k_asm); (case k5 => k_asm); (case kK => first | exact rfl | assumption); (case kp0 => first | assumption | omega | ((try dsimp only); omega) | exact dim_one _ | exact mo_low (by assumption) (by assumption) (by assumption) | l_fact); (case kp1 => first | assumption | omega | ((try dsimp only); omega) | exact dim_one _ | exact mo_low (by assumption) (by assumption) (by assumption) | l_fact); (case kd => ktr_room); (case ku => ktr_units)); intro t9 h9 tk9 F9 N9; (try dsimp only); (try k_fold)))
local macro_rules | `(tactic| walk_at "call ref") => `(tactic| (k_here; k_dflt (refine' lml_spec ?k1 ?k2 ?k3 ?k4 ?k5 ?kK ?kp0 ?kp1 ?kd ?ku ?_; (case k1 => k_asm); (case k2 => k_asm); (case k3 => k_asm); (case k4 => k_asm); (case k5 => k_asm); (case kK => first | exact rfl | assumption); (case kp0 => first | assumption | omega | ((try dsimp only); omega) | exact dim_one _ | exact mo_low (by assumption) (by assumption) (by assumption) | l_fact); (case kp1 => first | assumption | omega | ((try dsimp only); omega) | exact dim_one _ | exact mo_low (by assumption) (by assumption) (by assumption) | l_fact); (case kd => ktr_room); (case ku => ktr_units)); intro t9 h9 tk9 F9 N9; (try dsimp only); (try k_fold)))
local macro_rules | `(tactic| walk_at "call ref") => `(tactic| (k_here; k_dflt (refine' dby_spec ?k1 ?k2 ?k3 ?k4 ?k5 ?kK ?kd ?ku ?_; (case k1 => k_asm); (case k2 => k_asm); (case k3 => k_asm); (case k4 => k_asm); (case k5 => k_asm); (case kK => first | exact rfl | assumption); (case kd => ktr_room); (case ku => ktr_units)); intro t9 h9 tk9 F9 N9; (try dsimp only); (try k_fold)))
local macro_rules | `(tactic| walk_at "call ref") => `(tactic| (k_here; k_dflt (refine' ymd_spec ?k1 ?k2 ?k3 ?k4 ?k5 ?kK ?kp0 ?kp1 ?kp2 ?kp3 ?kd ?ku ?_; (case k1 => k_asm); (case k2 => k_asm); (case k3 => k_asm); (case k4 => k_asm); (case k5 => k_asm); (case kK => first | exact rfl | assumption); (case kp0 => first | assumption | omega | ((try dsimp only); omega) | exact dim_one _ | exact mo_low (by assumption) (by assumption) (by assumption) | l_fact); (case kp1 => first | assumption | omega | ((try dsimp only); omega) | exact dim_one _ | exact mo_low (by assumption) (by assumption) (by assumption) | l_fact); (case kp2 => first | assumption | omega | ((try dsimp only); omega) | exact dim_one _ | exact mo_low (by assumption) (by assumption) (by assumption) | l_fact); (case kp3 => first | assumption | omega | ((try dsimp only); omega) | exact dim_one _ | exact mo_low (by assumption) (by assumption) (by assumption) | l_fact); (case kd => ktr_room); (case ku => ktr_units)); intro t9 h9 tk9 F9 N9; (try dsimp only); (try k_fold)))
local macro_rules | `(tactic| cb_eq) => `(tactic| first | rfl | exact mon_lo (by first | assumption | omega | (simp_all; done)) | exact mon_hi (by first | assumption | omega | (simp_all; done)) | fail "cb_eq4")
local macro_rules | `(tactic| walk_at "none such") => `(tactic| fail "none such")
theorem mon_spec {w : World} {mean : ExcName → Option Value} {mg mb : Str → Option Value} {dp un : Nat} {gd : Option (List Code)} {cn : Str} {cs : Scope} {a : Addr} {ccd : Value} {cl : List (Str × Addr)} {outer : List Env} {A₀ : Around} {base h₀ : Heap} {L : Addr} {m : Str → Option Value} {s : Shared} {Q E : Value → Shared → Prop} {news : List (Addr × Obj)} {y : Int} {ty : Tok}
    (B : Below A₀ base outer h₀) (F : Fr h₀ L s.heap m) (X : (Mine.hd.heap_39 w.params).In h₀) (N : News h₀ L s.heap news) (T : Top Mine.hd.view_39 (looseW Mine.hd.view_39 [Str.ofString "_DAYS_IN_MONTH", Str.ofString "_DAYS_BEFORE_MONTH", Str.ofString "_DI400Y", Str.ofString "_DI100Y", Str.ofString "_DI4Y"]) mean mg mb h₀) (hk : cs.kind = .function) (hd : dp + 8 < recursionLimit) (hu : un + 64 < cLine)
    (hret : CbRet h₀ L m news s Q (fun t => .int (7 * turns y + 1) t)) :
    wpAny (model PySem.Challenge.pw_ko0140_04 w) (ktrTop dp un gd cn cs L a ccd cl outer) (call (.ref 80) [.int y ty]) Q E s := by
  have fillme : PySem.Challenge.rw_ko0140_04 = PySem.Challenge.rw_ko0140_04 ∧ Mine.hd.heap_39 = Mine.hd.heap_39 := by
    k_fill
    exact ⟨rfl, rfl⟩
  clear fillme
  refine wpAny_call ?_
  k_dflt cell_enter
  k_steps
  all_goals cb_end hret
local macro_rules | `(tactic| walk_at "call ref") => `(tactic| (k_here; k_dflt (refine' mon_spec ?k1 ?k2 ?k3 ?k4 ?k5 ?kK ?kd ?ku ?_; (case k1 => k_asm); (case k2 => k_asm); (case k3 => k_asm); (case k4 => k_asm); (case k5 => k_asm); (case kK => first | exact rfl | assumption); (case kd => ktr_room); (case ku => ktr_units)); intro t9 h9 tk9 F9 N9; (try dsimp only); (try k_fold)))
end Mine
namespace Mine
theorem day_core {y r M : Int} (h0 : 0 ≤ r) (h1 : r < 365) (m1 : 32 * M ≤ r + 50) (m2 : r + 50 < 32 * M + 32) :
    1 ≤ M ∧ M ≤ 12 ∧ (¬ r < dbm y M → r - dbm y M < dim y M) ∧ (r < dbm y M → 1 ≤ M - 1 ∧ dbm y M - dim y (M - 1) = dbm y (M - 1) ∧ 0 ≤ r - dbm y (M - 1) ∧ r - dbm y (M - 1) < dim y (M - 1)) := by
  have hM1 : 1 ≤ M := by omega
  have hM2 : M ≤ 12 := by omega
  refine ⟨hM1, hM2, ?_⟩
  rcases months hM1 hM2 with rfl | rfl | rfl | rfl | rfl | rfl | rfl | rfl | rfl | rfl | rfl | rfl <;> cases hl : leap y <;> simp [dbm, dim, dbmL, dimL, hl] <;> omega
theorem year_leap {q n100 n4 n1 : Int} (h1 : 0 ≤ n100) (h2 : n100 ≤ 3) (h3 : 0 ≤ n4) (h4 : n4 ≤ 24) (h5 : 0 ≤ n1) (h6 : n1 ≤ 3) :
    leap (q * 400 + 1 + (n100 * 100 + n4 * 4 + n1)) = (n1 == 3 && (n4 != 24 || n100 == 3)) := by
  have e := leap_iff (q * 400 + 1 + (n100 * 100 + n4 * 4 + n1))
  have e2 : (n1 == 3 && (n4 != 24 || n100 == 3)) = true ↔ (n1 = 3 ∧ (n4 ≠ 24 ∨ n100 = 3)) := by
    rw [Bool.and_eq_true, Bool.or_eq_true, beq_iff_eq, bne_iff_ne, beq_iff_eq]
  have e3 : leap (q * 400 + 1 + (n100 * 100 + n4 * 4 + n1)) = true ↔ (n1 == 3 && (n4 != 24 || n100 == 3)) = true := by
    rw [e, e2]
    omega
  exact Bool.eq_iff_iff.mpr e3
theorem year_dby {n q a b c d n100 n4 n1 : Int} (e1 : n - 1 = 146097 * q + a) (a0 : 0 ≤ a) (a1 : a < 146097) (e2 : a = 36524 * n100 + b) (b0 : 0 ≤ b) (b1 : b < 36524) (e3 : b = 1461 * n4 + c) (c0 : 0 ≤ c) (c1 : c < 1461) (e4 : c = 365 * n1 + d) (d0 : 0 ≤ d) (d1 : d < 365)
    (h1 : n1 ≠ 4) (h2 : n100 ≠ 4) : dby (q * 400 + 1 + (n100 * 100 + n4 * 4 + n1)) + d = n - 1 := by
  unfold dby
  have k1 : (q * 400 + 1 + (n100 * 100 + n4 * 4 + n1) - 1) / 4 = q * 100 + n100 * 25 + n4 := by omega
  have k2 : (q * 400 + 1 + (n100 * 100 + n4 * 4 + n1) - 1) / 100 = q * 4 + n100 := by omega
  have k3 : (q * 400 + 1 + (n100 * 100 + n4 * 4 + n1) - 1) / 400 = q := by omega
  rw [k1, k2, k3]
  omega
theorem pre_dbm {y M : Int} {b : Bool} (h1 : 1 ≤ M) (h2 : M ≤ 12) (hb : (b == leap y) = true) :
    (([-1, 0, 31, 59, 90, 120, 151, 181, 212, 243, 273, 304, 334] : List Int).getD M.toNat 0 + if (decide (2 < M) && b) = true then 1 else 0) = dbm y M := by
  have hb' : b = leap y := by simpa using hb
  rw [dbm_val h1 h2, hb']
  simp only [Bool.and_eq_true, decide_eq_true_eq]
  rfl
theorem pre_dim {y M : Int} {b : Bool} (h1 : 1 ≤ M) (h2 : M ≤ 12) (hb : (b == leap y) = true) :
    (([-1, 31, 28, 31, 30, 31, 30, 31, 31, 30, 31, 30, 31] : List Int).getD M.toNat 0 + if (M == 2 && b) = true then 1 else 0) = dim y M := by
  have hb' : b = leap y := by simpa using hb
  unfold dim
  rw [hb']
  rcases months h1 h2 with rfl | rfl | rfl | rfl | rfl | rfl | rfl | rfl | rfl | rfl | rfl | rfl <;> cases leap y <;> rfl
theorem mo_low {r M : Int} {b : Bool} (h : r < ([-1, 0, 31, 59, 90, 120, 151, 181, 212, 243, 273, 304, 334] : List Int).getD M.toNat 0 + if (decide (2 < M) && b) = true then 1 else 0) (h0 : 0 ≤ r) (m2 : r + 50 < 32 * M + 32) : 1 ≤ M - 1 := by
  have hM : 1 ≤ M := by omega
  by_cases e : M = 1
  · subst e
    simp at h
    omega
  · omega
section
variable {n q a b c d n100 n4 n1 M : Int}
theorem oE_leap (hb : ((n1 == 3 && (n4 != 24 || n100 == 3)) == leap (q * 400 + 1 + (n100 * 100 + n4 * 4 + n1))) = false) (e2 : a = 36524 * n100 + b) (a0 : 0 ≤ a) (a1 : a < 146097) (b0 : 0 ≤ b) (b1 : b < 36524) (e3 : b = 1461 * n4 + c) (c0 : 0 ≤ c) (c1 : c < 1461) (e4 : c = 365 * n1 + d) (d0 : 0 ≤ d) (d1 : d < 365)
    (h1 : n1 ≠ 4) (h2 : n100 ≠ 4) : False := by
  rw [year_leap (by omega) (by omega) (by omega) (by omega) (by omega) (by omega)] at hb
  simp at hb
theorem oQ_A (hb : ((n1 == 3 && (n4 != 24 || n100 == 3)) == leap (q * 400 + 1 + (n100 * 100 + n4 * 4 + n1))) = true) (e1 : n - 1 = 146097 * q + a) (a0 : 0 ≤ a) (a1 : a < 146097) (e2 : a = 36524 * n100 + b) (b0 : 0 ≤ b) (b1 : b < 36524) (e3 : b = 1461 * n4 + c) (c0 : 0 ≤ c) (c1 : c < 1461) (e4 : c = 365 * n1 + d) (d0 : 0 ≤ d) (d1 : d < 365)
    (h1 : n1 ≠ 4) (h2 : n100 ≠ 4) (m1 : 32 * M ≤ d + 50) (m2 : d + 50 < 32 * M + 32)
    (hP : ¬ d < ([-1, 0, 31, 59, 90, 120, 151, 181, 212, 243, 273, 304, 334] : List Int).getD M.toNat 0 + if (decide (2 < M) && (n1 == 3 && (n4 != 24 || n100 == 3))) = true then 1 else 0) :
    1 ≤ M ∧ M ≤ 12 ∧ 1 ≤ d - (([-1, 0, 31, 59, 90, 120, 151, 181, 212, 243, 273, 304, 334] : List Int).getD M.toNat 0 + if (decide (2 < M) && (n1 == 3 && (n4 != 24 || n100 == 3))) = true then 1 else 0) + 1 ∧
    d - (([-1, 0, 31, 59, 90, 120, 151, 181, 212, 243, 273, 304, 334] : List Int).getD M.toNat 0 + if (decide (2 < M) && (n1 == 3 && (n4 != 24 || n100 == 3))) = true then 1 else 0) + 1 ≤ dim (q * 400 + 1 + (n100 * 100 + n4 * 4 + n1)) M ∧
    dby (q * 400 + 1 + (n100 * 100 + n4 * 4 + n1)) + dbm (q * 400 + 1 + (n100 * 100 + n4 * 4 + n1)) M + (d - (([-1, 0, 31, 59, 90, 120, 151, 181, 212, 243, 273, 304, 334] : List Int).getD M.toNat 0 + if (decide (2 < M) && (n1 == 3 && (n4 != 24 || n100 == 3))) = true then 1 else 0) + 1) = n := by
  have K := day_core (y := q * 400 + 1 + (n100 * 100 + n4 * 4 + n1)) d0 d1 m1 m2
  obtain ⟨k1, k2, k3, k4⟩ := K
  rw [pre_dbm k1 k2 hb] at *
  have Y := year_dby e1 a0 a1 e2 b0 b1 e3 c0 c1 e4 d0 d1 h1 h2
  have k := k3 hP
  refine ⟨k1, k2, ?_, ?_, ?_⟩ <;> omega
theorem oE_A (h : ¬ d - (([-1, 0, 31, 59, 90, 120, 151, 181, 212, 243, 273, 304, 334] : List Int).getD M.toNat 0 + if (decide (2 < M) && (n1 == 3 && (n4 != 24 || n100 == 3))) = true then 1 else 0) < dim (q * 400 + 1 + (n100 * 100 + n4 * 4 + n1)) M)
    (hb : ((n1 == 3 && (n4 != 24 || n100 == 3)) == leap (q * 400 + 1 + (n100 * 100 + n4 * 4 + n1))) = true) (d0 : 0 ≤ d) (d1 : d < 365) (m1 : 32 * M ≤ d + 50) (m2 : d + 50 < 32 * M + 32)
    (hP : ¬ d < ([-1, 0, 31, 59, 90, 120, 151, 181, 212, 243, 273, 304, 334] : List Int).getD M.toNat 0 + if (decide (2 < M) && (n1 == 3 && (n4 != 24 || n100 == 3))) = true then 1 else 0) : False := by
  obtain ⟨k1, k2, k3, k4⟩ := day_core (y := q * 400 + 1 + (n100 * 100 + n4 * 4 + n1)) d0 d1 m1 m2
  rw [pre_dbm k1 k2 hb] at *
  exact h (k3 hP)
theorem adj {y : Int} {B : Bool} (hb : (B == leap y) = true) (d0 : 0 ≤ d) (d1 : d < 365) (m1 : 32 * M ≤ d + 50) (m2 : d + 50 < 32 * M + 32)
    (hP : d < ([-1, 0, 31, 59, 90, 120, 151, 181, 212, 243, 273, 304, 334] : List Int).getD M.toNat 0 + if (decide (2 < M) && B) = true then 1 else 0) :
    1 ≤ M - 1 ∧ M - 1 ≤ 12 ∧ (([-1, 0, 31, 59, 90, 120, 151, 181, 212, 243, 273, 304, 334] : List Int).getD M.toNat 0 + if (decide (2 < M) && B) = true then 1 else 0) - (([-1, 31, 28, 31, 30, 31, 30, 31, 31, 30, 31, 30, 31] : List Int).getD (M - 1).toNat 0 + if (M - 1 == 2 && B) = true then 1 else 0) = dbm y (M - 1) ∧
    0 ≤ d - dbm y (M - 1) ∧ d - dbm y (M - 1) < dim y (M - 1) := by
  obtain ⟨k1, k2, k3, k4⟩ := day_core (y := y) d0 d1 m1 m2
  rw [pre_dbm k1 k2 hb] at *
  obtain ⟨j1, j2, j3, j4⟩ := k4 hP
  refine ⟨j1, by omega, ?_, j3, j4⟩
  rw [pre_dim j1 (by omega) hb]
  exact j2
theorem oE_B1 {y : Int} {B : Bool} (h : ¬ 0 ≤ d - ((([-1, 0, 31, 59, 90, 120, 151, 181, 212, 243, 273, 304, 334] : List Int).getD M.toNat 0 + if (decide (2 < M) && B) = true then 1 else 0) - (([-1, 31, 28, 31, 30, 31, 30, 31, 31, 30, 31, 30, 31] : List Int).getD (M - 1).toNat 0 + if (M - 1 == 2 && B) = true then 1 else 0)))
    (hb : (B == leap y) = true) (d0 : 0 ≤ d) (d1 : d < 365) (m1 : 32 * M ≤ d + 50) (m2 : d + 50 < 32 * M + 32)
    (hP : d < ([-1, 0, 31, 59, 90, 120, 151, 181, 212, 243, 273, 304, 334] : List Int).getD M.toNat 0 + if (decide (2 < M) && B) = true then 1 else 0) : False := by
  obtain ⟨k1, k2, k3, k4, k5⟩ := adj hb d0 d1 m1 m2 hP
  rw [k3] at h
  exact h k4
theorem oE_B2 {y : Int} {B : Bool} (h : ¬ d - ((([-1, 0, 31, 59, 90, 120, 151, 181, 212, 243, 273, 304, 334] : List Int).getD M.toNat 0 + if (decide (2 < M) && B) = true then 1 else 0) - (([-1, 31, 28, 31, 30, 31, 30, 31, 31, 30, 31, 30, 31] : List Int).getD (M - 1).toNat 0 + if (M - 1 == 2 && B) = true then 1 else 0)) < dim y (M - 1))
    (hb : (B == leap y) = true) (d0 : 0 ≤ d) (d1 : d < 365) (m1 : 32 * M ≤ d + 50) (m2 : d + 50 < 32 * M + 32)
    (hP : d < ([-1, 0, 31, 59, 90, 120, 151, 181, 212, 243, 273, 304, 334] : List Int).getD M.toNat 0 + if (decide (2 < M) && B) = true then 1 else 0) : False := by
  obtain ⟨k1, k2, k3, k4, k5⟩ := adj hb d0 d1 m1 m2 hP
  rw [k3] at h
  exact h k5
theorem oQ_B (hb : ((n1 == 3 && (n4 != 24 || n100 == 3)) == leap (q * 400 + 1 + (n100 * 100 + n4 * 4 + n1))) = true) (e1 : n - 1 = 146097 * q + a) (a0 : 0 ≤ a) (a1 : a < 146097) (e2 : a = 36524 * n100 + b) (b0 : 0 ≤ b) (b1 : b < 36524) (e3 : b = 1461 * n4 + c) (c0 : 0 ≤ c) (c1 : c < 1461) (e4 : c = 365 * n1 + d) (d0 : 0 ≤ d) (d1 : d < 365)
    (h1 : n1 ≠ 4) (h2 : n100 ≠ 4) (m1 : 32 * M ≤ d + 50) (m2 : d + 50 < 32 * M + 32)
    (hP : d < ([-1, 0, 31, 59, 90, 120, 151, 181, 212, 243, 273, 304, 334] : List Int).getD M.toNat 0 + if (decide (2 < M) && (n1 == 3 && (n4 != 24 || n100 == 3))) = true then 1 else 0) {P2 : Int}
    (eP : P2 = (([-1, 0, 31, 59, 90, 120, 151, 181, 212, 243, 273, 304, 334] : List Int).getD M.toNat 0 + if (decide (2 < M) && (n1 == 3 && (n4 != 24 || n100 == 3))) = true then 1 else 0) - (([-1, 31, 28, 31, 30, 31, 30, 31, 31, 30, 31, 30, 31] : List Int).getD (M - 1).toNat 0 + if (M - 1 == 2 && (n1 == 3 && (n4 != 24 || n100 == 3))) = true then 1 else 0)) :
    1 ≤ M - 1 ∧ M - 1 ≤ 12 ∧ 1 ≤ d - P2 + 1 ∧ d - P2 + 1 ≤ dim (q * 400 + 1 + (n100 * 100 + n4 * 4 + n1)) (M - 1) ∧
    dby (q * 400 + 1 + (n100 * 100 + n4 * 4 + n1)) + dbm (q * 400 + 1 + (n100 * 100 + n4 * 4 + n1)) (M - 1) + (d - P2 + 1) = n := by
  obtain ⟨k1, k2, k3, k4, k5⟩ := adj hb d0 d1 m1 m2 hP
  rw [k3] at eP
  subst eP
  have Y := year_dby e1 a0 a1 e2 b0 b1 e3 c0 c1 e4 d0 d1 h1 h2
  refine ⟨k1, k2, ?_, ?_, ?_⟩ <;> omega
theorem oQ_L (h : n1 = 4 ∨ n100 = 4) (e1 : n - 1 = 146097 * q + a) (a0 : 0 ≤ a) (a1 : a < 146097) (e2 : a = 36524 * n100 + b) (b0 : 0 ≤ b) (b1 : b < 36524) (e3 : b = 1461 * n4 + c) (c0 : 0 ≤ c) (c1 : c < 1461) (e4 : c = 365 * n1 + d) (d0 : 0 ≤ d) (d1 : d < 365) :
    1 ≤ (12 : Int) ∧ (12 : Int) ≤ 12 ∧ 1 ≤ (31 : Int) ∧ (31 : Int) ≤ dim (q * 400 + 1 + (n100 * 100 + n4 * 4 + n1) - 1) 12 ∧
    dby (q * 400 + 1 + (n100 * 100 + n4 * 4 + n1) - 1) + dbm (q * 400 + 1 + (n100 * 100 + n4 * 4 + n1) - 1) 12 + 31 = n := by
  have hl : leap (q * 400 + 1 + (n100 * 100 + n4 * 4 + n1) - 1) = true := by
    rw [leap_iff]
    omega
  have hd : dim (q * 400 + 1 + (n100 * 100 + n4 * 4 + n1) - 1) 12 = 31 := rfl
  have hm : dbm (q * 400 + 1 + (n100 * 100 + n4 * 4 + n1) - 1) 12 = 335 := by
    unfold dbm
    rw [hl]
    rfl
  refine ⟨by decide, by decide, by decide, by rw [hd]; decide, ?_⟩
  rw [hm]
  unfold dby
  have k1 : (q * 400 + 1 + (n100 * 100 + n4 * 4 + n1) - 1 - 1) / 4 = q * 100 + n100 * 25 + n4 + (n1 - 1) / 4 := by omega
  have k2 : (q * 400 + 1 + (n100 * 100 + n4 * 4 + n1) - 1 - 1) / 100 = q * 4 + n100 + (n4 * 4 + n1 - 1) / 100 := by omega
  have k3 : (q * 400 + 1 + (n100 * 100 + n4 * 4 + n1) - 1 - 1) / 400 = q + (n100 * 100 + n4 * 4 + n1 - 1) / 400 := by omega
  rw [k1, k2, k3]
  omega
end
end Mine
namespace Mine
local macro_rules | `(tactic| walk_at "call ref") => `(tactic| (k_here; k_dflt (refine' leap_spec ?k1 ?k2 ?k3 ?k4 ?k5 ?kK ?kd ?ku ?_; (case k1 => k_asm); (case k2 => k_asm); (case k3 => k_asm); (case k4 => k_asm); (case k5 => k_asm); (case kK => first | exact rfl | assumption); (case kd => ktr_room); (case ku => ktr_units)); intro t9 h9 tk9 F9 N9; (try dsimp only); (try k_fold)))
local macro_rules | `(tactic| walk_at "call ref") => `(tactic| (k_here; k_dflt (refine' dim_spec ?k1 ?k2 ?k3 ?k4 ?k5 ?kK ?kp0 ?kp1 ?kd ?ku ?_; (case k1 => k_asm); (case k2 => k_asm); (case k3 => k_asm); (case k4 => k_asm); (case k5 => k_asm); (case kK => first | exact rfl | assumption); (case kp0 => first | assumption | omega | ((try dsimp only); omega) | exact dim_one _ | exact mo_low (by assumption) (by assumption) (by assumption) | l_fact); (case kp1 => first | assumption | omega | ((try dsimp only); omega) | exact dim_one _ | exact mo_low (by assumption) (by assumption) (by assumption) | l_fact); (case kd => ktr_room); (case ku => ktr_units)); intro t9 h9 tk9 F9 N9; (try dsimp only); (try k_fold)))
local macro_rules | `(tactic| walk_at "call ref") => `(tactic| (k_here; k_dflt (refine' dbm_spec ?k1 ?k2 ?k3 ?k4 ?k5 ?kK ?kp0 ?kp1 ?kd ?ku ?_; (case k1 => k_asm); (case k2 => k_asm); (case k3 => k_asm); (case k4 => k_asm); (case k5 => k_asm); (case kK => first | exact rfl | assumption); (case kp0 => first | assumption | omega | ((try dsimp only); omega) | exact dim_one _ | exact mo_low (by assumption) (by assumption) (by assumption) | l_fact); (case kp1 => first | assumption | omega | ((try dsimp only); omega) | exact dim_one _ | exact mo_low (by assumption) (by assumption) (by assumption) | l_fact); (case kd => ktr_room); (case ku => ktr_units)); intro t9 h9 tk9 F9 N9; (try dsimp only); (try k_fold)))
local macro_rules | `(tactic| walk_at "call ref") => `(tactic| (k_here; k_dflt (refine' lml_spec ?k1 ?k2 ?k3 ?k4 ?k5 ?kK ?kp0 ?kp1 ?kd ?ku ?_; (case k1 => k_asm); (case k2 => k_asm); (case k3 => k_asm); (case k4 => k_asm); (case k5 => k_asm); (case kK => first | exact rfl | assumption); (case kp0 => first | assumption | omega | ((try dsimp only); omega) | exact dim_one _ | exact mo_low (by assumption) (by assumption) (by assumption) | l_fact); (case kp1 => first | assumption | omega | ((try dsimp only); omega) | exact dim_one _ | exact mo_low (by assumption) (by assumption) (by assumption) | l_fact); (case kd => ktr_room); (case ku => ktr_units)); intro t9 h9 tk9 F9 N9; (try dsimp only); (try k_fold)))
local macro_rules | `(tactic| walk_at "call ref") => `(tactic| (k_here; k_dflt (refine' dby_spec ?k1 ?k2 ?k3 ?k4 ?k5 ?kK ?kd ?ku ?_; (case k1 => k_asm); (case k2 => k_asm); (case k3 => k_asm); (case k4 => k_asm); (case k5 => k_asm); (case kK => first | exact rfl | assumption); (case kd => ktr_room); (case ku => ktr_units)); intro t9 h9 tk9 F9 N9; (try dsimp only); (try k_fold)))
local macro_rules | `(tactic| walk_at "call ref") => `(tactic| (k_here; k_dflt (refine' ymd_spec ?k1 ?k2 ?k3 ?k4 ?k5 ?kK ?kp0 ?kp1 ?kp2 ?kp3 ?kd ?ku ?_; (case k1 => k_asm); (case k2 => k_asm); (case k3 => k_asm); (case k4 => k_asm); (case k5 => k_asm); (case kK => first | exact rfl | assumption); (case kp0 => first | assumption | omega | ((try dsimp only); omega) | exact dim_one _ | exact mo_low (by assumption) (by assumption) (by assumption) | l_fact); (case kp1 => first | assumption | omega | ((try dsimp only); omega) | exact dim_one _ | exact mo_low (by assumption) (by assumption) (by assumption) | l_fact); (case kp2 => first | assumption | omega | ((try dsimp only); omega) | exact dim_one _ | exact mo_low (by assumption) (by assumption) (by assumption) | l_fact); (case kp3 => first | assumption | omega | ((try dsimp only); omega) | exact dim_one _ | exact mo_low (by assumption) (by assumption) (by assumption) | l_fact); (case kd => ktr_room); (case ku => ktr_units)); intro t9 h9 tk9 F9 N9; (try dsimp only); (try k_fold)))
local macro_rules | `(tactic| walk_at "eval BoolOp") => `(tactic| (k_here; k_dflt (first
  | (refine' leap_join ?F ?a ?b ?c ?_; (case F => k_asm); (case a => rfl); (case b => rfl); (case c => rfl); k_whole; intro tk2')
  | (refine' gt_join ?F ?a ?b ?_; (case F => k_asm); (case a => rfl); (case b => rfl); k_whole; intro tk2')
  | (refine' eq_join ?F ?a ?b ?_; (case F => k_asm); (case a => rfl); (case b => rfl); k_whole; intro tk2'))))
local macro_rules | `(tactic| walk_at "call builtin:divmod") => `(tactic| (k_here; (with_reducible show wpAny _ _ (PySem.call (Value.builtin _) [Value.int _ _, Value.int _ _]) _ _ _); k_dflt (refine' dm_gen ?F ?N (by decide) (by decide) ?_; (case F => k_asm); (case N => k_asm); k_whole); intro D' h' q' r' t1' t2' tk' e1' e2' e3' F' N' l1'; (try k_lt l1'); (try k_sweep)))
local macro_rules | `(tactic| walk_at "binaryOp RShift int int") => `(tactic| (with_reducible refine rsh5 ?_; intro M' tM' tk' m1' m2'; (try dsimp only)))
local macro_rules | `(tactic| walk_at "subscriptTail") => `(tactic| (k_here; (with_reducible show wpAny _ _ (subscriptTail _ _ (Value.ref _) (Value.int _ _)) _ _ _); kmn_open; (with_unfolding_all (refine' topListAny ?F ?X ?l ?i ?k3 ?k4 ?k5 ?_; (case F => k_asm); (case X => k_asm); (case l => k_is); (case i => l_ints); (case k3 => first | omega | l_idx); (case k4 => first | ((simp only [List.length_cons, List.length_nil]); omega) | l_idx); (case k5 => first | omega | l_idx); k_whole)); intro _))
theorem ord_spec {w : World} {mean : ExcName → Option Value} {mg mb : Str → Option Value} {dp un : Nat} {gd : Option (List Code)} {cn : Str} {cs : Scope} {a : Addr} {ccd : Value} {cl : List (Str × Addr)} {outer : List Env} {A₀ : Around} {base h₀ : Heap} {L : Addr} {m : Str → Option Value} {s : Shared} {Q E : Value → Shared → Prop} {news : List (Addr × Obj)} {n : Int} {tn : Tok}
    (B : Below A₀ base outer h₀) (F : Fr h₀ L s.heap m) (X : (Mine.hd.heap_39 w.params).In h₀) (N : News h₀ L s.heap news) (T : Top Mine.hd.view_39 (looseW Mine.hd.view_39 [Str.ofString "_DAYS_IN_MONTH", Str.ofString "_DAYS_BEFORE_MONTH", Str.ofString "_DI400Y", Str.ofString "_DI100Y", Str.ofString "_DI4Y"]) mean mg mb h₀) (hk : cs.kind = .function) (hd : dp + 8 < recursionLimit) (hu : un + 64 < cLine)
    (hret : ∀ (r : Addr) (Y M D : Int) (tY tM tD : Tok) (h' : Heap) (tk' : Nat), Fr h₀ L h' m → News h₀ L h' ((r, { cls := .type "tuple", data := .seq #[.int Y tY, .int M tM, .int D tD] }) :: news) → (1 ≤ M ∧ M ≤ 12 ∧ 1 ≤ D ∧ D ≤ dim Y M ∧ dby Y + dbm Y M + D = n) → Q (.ref r) { s with heap := h', toks := tk' }) :
    wpAny (model PySem.Challenge.pw_ko0140_04 w) (ktrTop dp un gd cn cs L a ccd cl outer) (call (.ref 66) [.int n tn]) Q E s := by
  have fillme : PySem.Challenge.rw_ko0140_04 = PySem.Challenge.rw_ko0140_04 ∧ Mine.hd.heap_39 = Mine.hd.heap_39 := by
    k_fill
    exact ⟨rfl, rfl⟩
  clear fillme
  refine wpAny_call ?_
  k_dflt cell_enter
  k_steps
  all_goals first
    | (refine hret _ _ _ _ _ _ _ _ _ (by assumption) (cb_drop (by assumption) (List.forall_mem_cons.mpr ⟨List.Mem.head _, fun p hp => by repeat (first | exact hp | refine List.Mem.tail _ ?_)⟩)) ?_
       first
         | exact oQ_L (by first | exact Or.inl (by assumption) | exact Or.inr (by assumption)) (by assumption) (by assumption) (by assumption) (by assumption) (by assumption) (by assumption) (by assumption) (by assumption) (by assumption) (by assumption) (by assumption) (by assumption)
         | exact oQ_A (by assumption) (by assumption) (by assumption) (by assumption) (by assumption) (by assumption) (by assumption) (by assumption) (by assumption) (by assumption) (by assumption) (by assumption) (by assumption) (by assumption) (by assumption) (by assumption) (by assumption) (by assumption)
         | exact oQ_B (by assumption) (by assumption) (by assumption) (by assumption) (by assumption) (by assumption) (by assumption) (by assumption) (by assumption) (by assumption) (by assumption) (by assumption) (by assumption) (by assumption) (by assumption) (by assumption) (by assumption) (by assumption) rfl)
    | (exfalso; clear hret; first
         | omega
         | exact oE_leap (by assumption) (by assumption) (by assumption) (by assumption) (by assumption) (by assumption) (by assumption) (by assumption) (by assumption) (by assumption) (by assumption) (by assumption) (by assumption) (by assumption)
         | exact oE_A (by assumption) (by assumption) (by assumption) (by assumption) (by assumption) (by assumption) (by assumption)
         | exact oE_B1 (by assumption) (by assumption) (by assumption) (by assumption) (by assumption) (by assumption) (by assumption)
         | exact oE_B2 (by assumption) (by assumption) (by assumption) (by assumption) (by assumption) (by assumption) (by assumption))
end Mine
namespace Mine
local macro_rules | `(tactic| walk_at "call ref") => `(tactic| (k_here; k_dflt (refine' leap_spec ?k1 ?k2 ?k3 ?k4 ?k5 ?kK ?kd ?ku ?_; (case k1 => k_asm); (case k2 => k_asm); (case k3 => k_asm); (case k4 => k_asm); (case k5 => k_asm); (case kK => first | exact rfl | assumption); (case kd => ktr_room); (case ku => ktr_units)); intro t9 h9 tk9 F9 N9; (try dsimp only); (try k_fold)))
local macro_rules | `(tactic| walk_at "call ref") => `(tactic| (k_here; k_dflt (refine' dim_spec ?k1 ?k2 ?k3 ?k4 ?k5 ?kK ?kp0 ?kp1 ?kd ?ku ?_; (case k1 => k_asm); (case k2 => k_asm); (case k3 => k_asm); (case k4 => k_asm); (case k5 => k_asm); (case kK => first | exact rfl | assumption); (case kp0 => first | assumption | omega | ((try dsimp only); omega) | exact dim_one _ | exact mo_low (by assumption) (by assumption) (by assumption) | l_fact); (case kp1 => first | assumption | omega | ((try dsimp only); omega) | exact dim_one _ | exact mo_low (by assumption) (by assumption) (by assumption) | l_fact); (case kd => ktr_room); (case ku => ktr_units)); intro t9 h9 tk9 F9 N9; (try dsimp only); (try k_fold)))
local macro_rules | `(tactic| walk_at "call ref") => `(tactic| (k_here; k_dflt (refine' dbm_spec ?k1 ?k2 ?k3 ?k4 ?k5 ?kK ?kp0 ?kp1 ?kd ?ku ?_; (case k1 => k_asm); (case k2 => k_asm); (case k3 => k_asm); (case k4 => k_asm); (case k5 => k_asm); (case kK => first | exact rfl | assumption); (case kp0 => first | assumption | omega | ((try dsimp only); omega) | exact dim_one _ | exact mo_low (by assumption) (by assumption) (by assumption) | l_fact); (case kp1 => first | assumption | omega | ((try dsimp only); omega) | exact dim_one _ | exact mo_low (by assumption) (by assumption) (by assumption) | l_fact); (case kd => ktr_room); (case ku => ktr_units)); intro t9 h9 tk9 F9 N9; (try dsimp only); (try k_fold)))
local macro_rules | `(tactic| walk_at "call ref") => `(tactic| (k_here; k_dflt (refine' lml_spec ?k1 ?k2 ?k3 ?k4 ?k5 ?kK ?kp0 ?kp1 ?kd ?ku ?_; (case k1 => k_asm); (case k2 => k_asm); (case k3 => k_asm); (case k4 => k_asm); (case k5 => k_asm); (case kK => first | exact rfl | assumption); (case kp0 => first | assumption | omega | ((try dsimp only); omega) | exact dim_one _ | exact mo_low (by assumption) (by assumption) (by assumption) | l_fact); (case kp1 => first | assumption | omega | ((try dsimp only); omega) | exact dim_one _ | exact mo_low (by assumption) (by assumption) (by assumption) | l_fact); (case kd => ktr_room); (case ku => ktr_units)); intro t9 h9 tk9 F9 N9; (try dsimp only); (try k_fold)))
local macro_rules | `(tactic| walk_at "call ref") => `(tactic| (k_here; k_dflt (refine' dby_spec ?k1 ?k2 ?k3 ?k4 ?k5 ?kK ?kd ?ku ?_; (case k1 => k_asm); (case k2 => k_asm); (case k3 => k_asm); (case k4 => k_asm); (case k5 => k_asm); (case kK => first | exact rfl | assumption); (case kd => ktr_room); (case ku => ktr_units)); intro t9 h9 tk9 F9 N9; (try dsimp only); (try k_fold)))
local macro_rules | `(tactic| walk_at "call ref") => `(tactic| (k_here; k_dflt (refine' ymd_spec ?k1 ?k2 ?k3 ?k4 ?k5 ?kK ?kp0 ?kp1 ?kp2 ?kp3 ?kd ?ku ?_; (case k1 => k_asm); (case k2 => k_asm); (case k3 => k_asm); (case k4 => k_asm); (case k5 => k_asm); (case kK => first | exact rfl | assumption); (case kp0 => first | assumption | omega | ((try dsimp only); omega) | exact dim_one _ | exact mo_low (by assumption) (by assumption) (by assumption) | l_fact); (case kp1 => first | assumption | omega | ((try dsimp only); omega) | exact dim_one _ | exact mo_low (by assumption) (by assumption) (by assumption) | l_fact); (case kp2 => first | assumption | omega | ((try dsimp only); omega) | exact dim_one _ | exact mo_low (by assumption) (by assumption) (by assumption) | l_fact); (case kp3 => first | assumption | omega | ((try dsimp only); omega) | exact dim_one _ | exact mo_low (by assumption) (by assumption) (by assumption) | l_fact); (case kd => ktr_room); (case ku => ktr_units)); intro t9 h9 tk9 F9 N9; (try dsimp only); (try k_fold)))
local macro_rules | `(tactic| walk_at "call ref") => `(tactic| (k_here; k_dflt (refine' mon_spec ?k1 ?k2 ?k3 ?k4 ?k5 ?kK ?kd ?ku ?_; (case k1 => k_asm); (case k2 => k_asm); (case k3 => k_asm); (case k4 => k_asm); (case k5 => k_asm); (case kK => first | exact rfl | assumption); (case kd => ktr_room); (case ku => ktr_units)); intro t9 h9 tk9 F9 N9; (try dsimp only); (try k_fold)))
local macro_rules | `(tactic| walk_at "call ref") => `(tactic| (k_here; k_dflt (refine' ord_spec ?k1 ?k2 ?k3 ?k4 ?k5 ?kK ?kd ?ku ?_; (case k1 => k_asm); (case k2 => k_asm); (case k3 => k_asm); (case k4 => k_asm); (case k5 => k_asm); (case kK => first | exact rfl | assumption); (case kd => ktr_room); (case ku => ktr_units)); intro r9 Y9 M9 D9 tY9 tM9 tD9 h9 tk9 F9 N9 hf9; (obtain ⟨hf1, hf2, hf3, hf4, hf5⟩ := hf9); (try dsimp only); (try k_fold)))
def Sm (x : Int) : Prop := x.natAbs.log2 < 1920
theorem sm_out {x : Int} (h : Sm x) : x.natAbs.log2 < 1920 := h
theorem len_txt {x : Int} (h : Sm x) : (PySem.Str.ofString (toString x)).length ≤ 1921 := int_text_len_1921 h
theorem sm_of {x : Int} (h1 : -(2 ^ 200) < x) (h2 : x < 2 ^ 200) : Sm x :=
  shown (N := 2 ^ 200) h1 h2 (by decide +kernel)
theorem len_l1 : (PySem.Str.ofString "Year is out of range: ").length ≤ 64 := by decide +kernel
theorem len_l2 : (PySem.Str.ofString "Invalid week: ").length ≤ 64 := by decide +kernel
theorem len_l3 : (PySem.Str.ofString "Invalid weekday: ").length ≤ 64 := by decide +kernel
theorem len_l4 : (PySem.Str.ofString " (range is [1, 7])").length ≤ 64 := by decide +kernel
theorem len_l5 : (PySem.Str.empty).length ≤ 64 := by decide +kernel
theorem le_line {n : Nat} {a : PySem.Str} (h : a.length ≤ n) (hn : n ≤ 16777216) : a.length ≤ sizeLine := by
  rw [PySem.sizeLine_eq]
  omega
theorem len_add {a b : PySem.Str} {m n : Nat} (ha : a.length ≤ m) (hb : b.length ≤ n) : (a ++ b).length ≤ m + n := by
  rw [PySem.Str.length_append]
  omega
theorem msg1 {x : Int} (h : Sm x) : (PySem.Str.empty ++ PySem.Str.ofString "Year is out of range: " ++ PySem.Str.ofString (toString x)).length ≤ sizeLine :=
  le_line (len_add (len_add len_l5 len_l1) (len_txt h)) (by decide)
theorem msg2 {x : Int} (h : Sm x) : (PySem.Str.empty ++ PySem.Str.ofString "Invalid week: " ++ PySem.Str.ofString (toString x)).length ≤ sizeLine :=
  le_line (len_add (len_add len_l5 len_l2) (len_txt h)) (by decide)
theorem msg3 {x : Int} (h : Sm x) : (PySem.Str.empty ++ PySem.Str.ofString "Invalid weekday: " ++ PySem.Str.ofString (toString x) ++ PySem.Str.ofString " (range is [1, 7])").length ≤ sizeLine :=
  le_line (len_add (len_add (len_add len_l5 len_l3) (len_txt h)) len_l4) (by decide)
theorem msg3a {x : Int} (h : Sm x) : (PySem.Str.empty ++ PySem.Str.ofString "Invalid weekday: " ++ PySem.Str.ofString (toString x)).length ≤ sizeLine :=
  le_line (len_add (len_add len_l5 len_l3) (len_txt h)) (by decide)
theorem msg1p : (PySem.Str.empty ++ PySem.Str.ofString "Year is out of range: ").length ≤ sizeLine := le_line (len_add len_l5 len_l1) (by decide)
theorem msg2p : (PySem.Str.empty ++ PySem.Str.ofString "Invalid week: ").length ≤ sizeLine := le_line (len_add len_l5 len_l2) (by decide)
theorem msg3p : (PySem.Str.empty ++ PySem.Str.ofString "Invalid weekday: ").length ≤ sizeLine := le_line (len_add len_l5 len_l3) (by decide)
theorem line_add {a b : PySem.Str} {m n : Nat} (ha : a.length ≤ m) (hb : b.length ≤ n) (h : m + n ≤ 16777216) : a.length + b.length ≤ sizeLine := by
  rw [PySem.sizeLine_eq]
  omega
theorem msg1q {x : Int} (h : Sm x) : (PySem.Str.ofString "Year is out of range: ").length + (PySem.Str.ofString (toString x)).length ≤ sizeLine :=
  line_add len_l1 (len_txt h) (by decide)
theorem msg2q {x : Int} (h : Sm x) : (PySem.Str.ofString "Invalid week: ").length + (PySem.Str.ofString (toString x)).length ≤ sizeLine :=
  line_add len_l2 (len_txt h) (by decide)
theorem msg3q {x : Int} (h : Sm x) : (PySem.Str.ofString "Invalid weekday: " ++ PySem.Str.ofString (toString x)).length + (PySem.Str.ofString " (range is [1, 7])").length ≤ sizeLine :=
  line_add (len_add len_l3 (len_txt h)) len_l4 (by decide)
theorem msg3aq {x : Int} (h : Sm x) : (PySem.Str.ofString "Invalid weekday: ").length + (PySem.Str.ofString (toString x)).length ≤ sizeLine :=
  line_add len_l3 (len_txt h) (by decide)
theorem wk_le {y wk : Int} (h : wk < 53 ∨ (wk = 53 ∧ ((dby y + dbm y 1 + 1).fmod 7 = 4 ∨ ((dby y + dbm y 1 + 1).fmod 7 = 3 ∧ leap y = true)))) : wk ≤ turns (y + 1) - turns y := by
  have h1 := turns_next y
  rcases h with h | ⟨h, h2⟩
  · omega
  · have := (turns_53 y).mpr h2
    omega
theorem wk_gt {y wk : Int} (h : ¬ 0 < wk ∨ (¬ wk < 53 ∧ wk ≠ 53) ∨ (wk = 53 ∧ (dby y + dbm y 1 + 1).fmod 7 ≠ 4 ∧ ((dby y + dbm y 1 + 1).fmod 7 ≠ 3 ∨ leap y = false))) : wk < 1 ∨ turns (y + 1) - turns y < wk := by
  have h1 := turns_next y
  rcases h with h | ⟨h, h2⟩ | ⟨h, h2, h3⟩
  · omega
  · omega
  · right
    have h4 : turns (y + 1) - turns y ≠ 53 := fun e => by
      rcases (turns_53 y).mp e with q | ⟨q, q2⟩
      · exact h2 q
      · rcases h3 with r | r
        · exact r q
        · rw [r] at q2; cases q2
    omega
local macro_rules | `(tactic| walk_at "joinParts") => `(tactic| (k_here; (first | (with_reducible show wpAny _ _ (joinParts _ []) _ _ _) | (with_reducible show wpAny _ _ (joinParts _ (evalEach [] _)) _ _ _)); k_dflt (refine' joinParts_nil ?_ ?z9; (case z9 => first | with_reducible exact msg1 (by assumption) | with_reducible exact msg2 (by assumption) | with_reducible exact msg3 (by assumption) | with_reducible exact msg3a (by assumption) | with_reducible exact msg1p | with_reducible exact msg2p | with_reducible exact msg3p))))
local macro_rules | `(tactic| walk_at "And") => `(tactic| ((with_reducible show PySem.Str.length _ ≤ sizeLine ∧ wpAny _ _ (joinParts _ _) _ _ _); refine ⟨by first | with_reducible exact msg1 (by assumption) | with_reducible exact msg2 (by assumption) | with_reducible exact msg3 (by assumption) | with_reducible exact msg3a (by assumption) | with_reducible exact msg1p | with_reducible exact msg2p | with_reducible exact msg3p, ?_⟩))
local macro_rules | `(tactic| walk_at "formatField int") => `(tactic| (k_here; (with_reducible show wpAny _ _ (formatField (Value.int _ _) _) _ _ _); (refine wpAny_formatField_int (sm_out (by assumption)) ?_)))
local macro_rules | `(tactic| walk_at "call type:str") => `(tactic| (k_here; (with_reducible show wpAny _ _ (PySem.call (Value.type "str") [Value.int _ _]) _ _ _); (refine P.str_of_int (sm_out (by assumption)) ?_)))
theorem iso_spec {w : World} {mean : ExcName → Option Value} {mg mb : Str → Option Value} {dp un : Nat} {gd : Option (List Code)} {cn : Str} {cs : Scope} {a : Addr} {ccd : Value} {cl : List (Str × Addr)} {outer : List Env} {A₀ : Around} {base h₀ : Heap} {L : Addr} {m : Str → Option Value} {s : Shared} {Q E : Value → Shared → Prop} {news : List (Addr × Obj)} {y wk da : Int} {ty tw td : Tok}
    (B : Below A₀ base outer h₀) (F : Fr h₀ L s.heap m) (X : (Mine.hd.heap_39 w.params).In h₀) (N : News h₀ L s.heap news) (T : Top Mine.hd.view_39 (looseW Mine.hd.view_39 [Str.ofString "_DAYS_IN_MONTH", Str.ofString "_DAYS_BEFORE_MONTH", Str.ofString "_DI400Y", Str.ofString "_DI100Y", Str.ofString "_DI4Y"]) mean mg mb h₀) (hk : cs.kind = .function) (sy : Sm y) (sw : Sm wk) (sd : Sm da) (hd : dp + 12 < recursionLimit) (hu : un + 96 < cLine)
    (hret : ∀ (r : Addr) (Y M D : Int) (tY tM tD : Tok) (h' : Heap) (tk' : Nat), Fr h₀ L h' m → News h₀ L h' ((r, { cls := .type "tuple", data := .seq #[.int Y tY, .int M tM, .int D tD] }) :: news) →
      1 ≤ y → y ≤ 9999 → 1 ≤ wk → wk ≤ turns (y + 1) - turns y → 1 ≤ da → da ≤ 7 → 1 ≤ M → M ≤ 12 → 1 ≤ D → D ≤ dim Y M → dby Y + dbm Y M + D = 7 * turns y + 1 + ((wk - 1) * 7 + (da - 1)) → Q (.ref r) { s with heap := h', toks := tk' })
    (hE1 : ∀ (g : Heap) (e t : Addr) (tm : Tok) (h' : Heap) (tk' : Nat), Fr h₀ L g m → g.UpToSlots h' → RaisedK base (envX cn cs L a ccd cl :: outer) e (.type "ValueError") t [.str (Str.empty ++ Str.ofString "Year is out of range: " ++ Str.ofString (toString y)) tm] news h' →
      (y < 1 ∨ 9999 < y) → E (.ref e) { s with heap := h', toks := tk' })
    (hE2 : ∀ (g : Heap) (e t : Addr) (tm : Tok) (h' : Heap) (tk' : Nat), Fr h₀ L g m → g.UpToSlots h' → RaisedK base (envX cn cs L a ccd cl :: outer) e (.type "ValueError") t [.str (Str.empty ++ Str.ofString "Invalid week: " ++ Str.ofString (toString wk)) tm] news h' →
      1 ≤ y → y ≤ 9999 → (wk < 1 ∨ turns (y + 1) - turns y < wk) → E (.ref e) { s with heap := h', toks := tk' })
    (hE3 : ∀ (g : Heap) (e t : Addr) (tm : Tok) (h' : Heap) (tk' : Nat), Fr h₀ L g m → g.UpToSlots h' → RaisedK base (envX cn cs L a ccd cl :: outer) e (.type "ValueError") t [.str (Str.empty ++ Str.ofString "Invalid weekday: " ++ Str.ofString (toString da) ++ Str.ofString " (range is [1, 7])") tm] news h' →
      1 ≤ y → y ≤ 9999 → 1 ≤ wk → wk ≤ turns (y + 1) - turns y → (da < 1 ∨ 7 < da) → E (.ref e) { s with heap := h', toks := tk' }) :
    wpAny (model PySem.Challenge.pw_ko0140_04 w) (ktrTop dp un gd cn cs L a ccd cl outer) (call (.ref 73) [.int y ty, .int wk tw, .int da td]) Q E s := by
  have fillme : PySem.Challenge.rw_ko0140_04 = PySem.Challenge.rw_ko0140_04 ∧ Mine.hd.heap_39 = Mine.hd.heap_39 := by
    k_fill
    exact ⟨rfl, rfl⟩
  clear fillme
  refine wpAny_call ?_
  k_dflt cell_enter
  k_steps
  all_goals first
    | (refine hret _ _ _ _ _ _ _ _ _ (by assumption) (by assumption) ?_ ?_ ?_ ?_ ?_ ?_ (by assumption) (by assumption) (by assumption) (by assumption) (by assumption)
       · assumption
       · assumption
       · clear hret hE1 hE2 hE3; omega
       · first | exact wk_le (Or.inl (by assumption)) | exact wk_le (Or.inr ⟨by assumption, Or.inl (by assumption)⟩) | exact wk_le (Or.inr ⟨by assumption, Or.inr ⟨by assumption, by assumption⟩⟩)
       · clear hret hE1 hE2 hE3; omega
       · clear hret hE1 hE2 hE3; omega)
    | (exfalso; clear hret hE1 hE2 hE3; omega)
    | (first
       | ((with_reducible rename RaisedK _ _ _ _ _ [Value.str (Str.empty ++ Str.ofString "Invalid weekday: " ++ _ ++ _) _] _ _ => rk)
          refine hE3 _ _ _ _ _ _ (by assumption) (by assumption) rk ?_ ?_ ?_ ?_ ?_
          · assumption
          · assumption
          · clear hret hE1 hE2 hE3; omega
          · first | exact wk_le (Or.inl (by assumption)) | exact wk_le (Or.inr ⟨by assumption, Or.inl (by assumption)⟩) | exact wk_le (Or.inr ⟨by assumption, Or.inr ⟨by assumption, by assumption⟩⟩)
          · clear hret hE1 hE2 hE3; omega)
       | ((with_reducible rename RaisedK _ _ _ _ _ [Value.str (Str.empty ++ Str.ofString "Invalid week: " ++ _) _] _ _ => rk)
          refine hE2 _ _ _ _ _ _ (by assumption) (by assumption) rk ?_ ?_ ?_
          · assumption
          · assumption
          · first | exact wk_gt (Or.inl (by assumption)) | exact wk_gt (Or.inr (Or.inl ⟨by assumption, by assumption⟩)) | exact wk_gt (Or.inr (Or.inr ⟨by assumption, by assumption, Or.inl (by assumption)⟩)) | exact wk_gt (Or.inr (Or.inr ⟨by assumption, by assumption, Or.inr (by assumption)⟩)))
       | ((with_reducible rename RaisedK _ _ _ _ _ [Value.str (Str.empty ++ Str.ofString "Year is out of range: " ++ _) _] _ _ => rk)
          refine hE1 _ _ _ _ _ _ (by assumption) (by assumption) rk ?_
          clear hret hE1 hE2 hE3; omega))
end Mine
namespace Mine
theorem dbm_init0 (n e : Int) : n = n + dbm e (1 + (([] : List Int).length : Int)) := by
  have h : dbm e (1 + (([] : List Int).length : Int)) = 0 := rfl
  rw [h]
  omega
theorem dbm_next {y m : Int} (h1 : 1 ≤ m) (h2 : m ≤ 12) : dbm y m + dim y m = dbm y (1 + m) := by
  unfold dbm dim
  rcases months h1 h2 with rfl | rfl | rfl | rfl | rfl | rfl | rfl | rfl | rfl | rfl | rfl | rfl <;> cases leap y <;> rfl
theorem dbm_stepN {y a n k : Int} {pre : List Int} (h : pre.length < (13 - 1 : Int).toNat) (hk : k = 1 + (pre.length : Int)) (ha : a = n + dbm y (1 + (pre.length : Int))) : a + dim y k = n + dbm y (1 + ((pre ++ [k]).length : Int)) := by
  have e : (1 + ((pre ++ [k]).length : Int)) = 1 + k := by simp [hk]; omega
  have h2 := dbm_next (y := y) (m := k) (by omega) (by omega)
  rw [ha, ← hk, e]
  omega
theorem dby_one : dby 1 = 0 := rfl
theorem dby_init (n : Int) : n = n + dby (1 + (([] : List Int).length : Int)) := by
  have h : dby (1 + (([] : List Int).length : Int)) = 0 := rfl
  rw [h]
  omega
theorem dbm_end (y : Int) : dbm y (1 + ((rangeKs 1 (13 - 1 : Int).toNat).length : Int)) = 365 + (if leap y = true then 1 else 0) := by
  have e : (rangeKs 1 (13 - 1 : Int).toNat).length = 12 := by
    rw [PySem.W.rangeKs_length]
    rfl
  rw [e]
  unfold dbm
  cases leap y <;> rfl
theorem dby_step {a n k b : Int} {pre : List Int} (hk : k = 1 + (pre.length : Int)) (ha : a = n + dby (1 + (pre.length : Int))) (hb : b = a + dbm k (1 + ((rangeKs 1 (13 - 1 : Int).toNat).length : Int))) : b = n + dby (1 + ((pre ++ [k]).length : Int)) := by
  have e : (1 + ((pre ++ [k]).length : Int)) = k + 1 := by simp [hk]; omega
  rw [dbm_end] at hb
  rw [e, dby_next, hb, ha, ← hk]
  omega
theorem num_end {y q r a : Int} (h1 : y - 1 = 400 * q + r) (h2 : 0 ≤ r) (ha : a = 146097 * q + 1 + dby (1 + ((rangeKs 1 (r + 1 - 1 : Int).toNat).length : Int))) : a = dby y + 1 := by
  rw [PySem.W.rangeKs_length] at ha
  have e : ((r + 1 - 1 : Int).toNat : Int) = r := by omega
  rw [e] at ha
  have hy : y = 400 * q + (1 + r) := by omega
  rw [ha, hy]
  unfold dby
  omega
end Mine
namespace Mine
local macro_rules | `(tactic| walk_at "call ref") => `(tactic| (k_here; k_dflt (refine' leap_spec ?k1 ?k2 ?k3 ?k4 ?k5 ?kK ?kd ?ku ?_; (case k1 => k_asm); (case k2 => k_asm); (case k3 => k_asm); (case k4 => k_asm); (case k5 => k_asm); (case kK => first | exact rfl | assumption); (case kd => ktr_room); (case ku => ktr_units)); intro t9 h9 tk9 F9 N9; (try dsimp only); (try k_fold)))
local macro_rules | `(tactic| walk_at "call ref") => `(tactic| (k_here; k_dflt (refine' dim_spec ?k1 ?k2 ?k3 ?k4 ?k5 ?kK ?kp0 ?kp1 ?kd ?ku ?_; (case k1 => k_asm); (case k2 => k_asm); (case k3 => k_asm); (case k4 => k_asm); (case k5 => k_asm); (case kK => first | exact rfl | assumption); (case kp0 => first | assumption | omega | ((try dsimp only); omega) | exact dim_one _ | exact mo_low (by assumption) (by assumption) (by assumption) | l_fact); (case kp1 => first | assumption | omega | ((try dsimp only); omega) | exact dim_one _ | exact mo_low (by assumption) (by assumption) (by assumption) | l_fact); (case kd => ktr_room); (case ku => ktr_units)); intro t9 h9 tk9 F9 N9; (try dsimp only); (try k_fold)))
local macro_rules | `(tactic| walk_at "call ref") => `(tactic| (k_here; k_dflt (refine' dbm_spec ?k1 ?k2 ?k3 ?k4 ?k5 ?kK ?kp0 ?kp1 ?kd ?ku ?_; (case k1 => k_asm); (case k2 => k_asm); (case k3 => k_asm); (case k4 => k_asm); (case k5 => k_asm); (case kK => first | exact rfl | assumption); (case kp0 => first | assumption | omega | ((try dsimp only); omega) | exact dim_one _ | exact mo_low (by assumption) (by assumption) (by assumption) | l_fact); (case kp1 => first | assumption | omega | ((try dsimp only); omega) | exact dim_one _ | exact mo_low (by assumption) (by assumption) (by assumption) | l_fact); (case kd => ktr_room); (case ku => ktr_units)); intro t9 h9 tk9 F9 N9; (try dsimp only); (try k_fold)))
local macro_rules | `(tactic| walk_at "call ref") => `(tactic| (k_here; k_dflt (refine' lml_spec ?k1 ?k2 ?k3 ?k4 ?k5 ?kK ?kp0 ?kp1 ?kd ?ku ?_; (case k1 => k_asm); (case k2 => k_asm); (case k3 => k_asm); (case k4 => k_asm); (case k5 => k_asm); (case kK => first | exact rfl | assumption); (case kp0 => first | assumption | omega | ((try dsimp only); omega) | exact dim_one _ | exact mo_low (by assumption) (by assumption) (by assumption) | l_fact); (case kp1 => first | assumption | omega | ((try dsimp only); omega) | exact dim_one _ | exact mo_low (by assumption) (by assumption) (by assumption) | l_fact); (case kd => ktr_room); (case ku => ktr_units)); intro t9 h9 tk9 F9 N9; (try dsimp only); (try k_fold)))
local macro_rules | `(tactic| walk_at "call ref") => `(tactic| (k_here; k_dflt (refine' dby_spec ?k1 ?k2 ?k3 ?k4 ?k5 ?kK ?kd ?ku ?_; (case k1 => k_asm); (case k2 => k_asm); (case k3 => k_asm); (case k4 => k_asm); (case k5 => k_asm); (case kK => first | exact rfl | assumption); (case kd => ktr_room); (case ku => ktr_units)); intro t9 h9 tk9 F9 N9; (try dsimp only); (try k_fold)))
local macro_rules | `(tactic| walk_at "call ref") => `(tactic| (k_here; k_dflt (refine' ymd_spec ?k1 ?k2 ?k3 ?k4 ?k5 ?kK ?kp0 ?kp1 ?kp2 ?kp3 ?kd ?ku ?_; (case k1 => k_asm); (case k2 => k_asm); (case k3 => k_asm); (case k4 => k_asm); (case k5 => k_asm); (case kK => first | exact rfl | assumption); (case kp0 => first | assumption | omega | ((try dsimp only); omega) | exact dim_one _ | exact mo_low (by assumption) (by assumption) (by assumption) | l_fact); (case kp1 => first | assumption | omega | ((try dsimp only); omega) | exact dim_one _ | exact mo_low (by assumption) (by assumption) (by assumption) | l_fact); (case kp2 => first | assumption | omega | ((try dsimp only); omega) | exact dim_one _ | exact mo_low (by assumption) (by assumption) (by assumption) | l_fact); (case kp3 => first | assumption | omega | ((try dsimp only); omega) | exact dim_one _ | exact mo_low (by assumption) (by assumption) (by assumption) | l_fact); (case kd => ktr_room); (case ku => ktr_units)); intro t9 h9 tk9 F9 N9; (try dsimp only); (try k_fold)))
local macro_rules | `(tactic| walk_at "call builtin:divmod") => `(tactic| (k_here; (with_reducible show wpAny _ _ (PySem.call (Value.builtin _) [Value.int _ _, Value.int _ _]) _ _ _); k_dflt (refine' dm_gen ?F ?N (by decide) (by decide) ?_; (case F => k_asm); (case N => k_asm); k_whole); intro D' h' q' r' t1' t2' tk' e1' e2' e3' F' N' l1'; (try k_lt l1'); (try k_sweep)))
local macro_rules | `(tactic| walk_at "pyIter ref") => `(tactic| (first
  | (k_of "m" => k_state_given ["earlier", "number!"] (fun e n pre number => number = n + dbm e (1 + (pre.length : Int))) "number")
  | (k_of "earlier" => k_state_given ["number!"] (fun n pre number => number = n + dby (1 + (pre.length : Int))) "number")))
local macro_rules | `(tactic| cb_eq) => `(tactic| exact num_end (by assumption) (by assumption) (by assumption))
theorem num_spec {w : World} {mean : ExcName → Option Value} {mg mb : Str → Option Value} {dp un : Nat} {gd : Option (List Code)} {cn : Str} {cs : Scope} {a : Addr} {ccd : Value} {cl : List (Str × Addr)} {outer : List Env} {A₀ : Around} {base h₀ : Heap} {L : Addr} {m : Str → Option Value} {s : Shared} {Q E : Value → Shared → Prop} {news : List (Addr × Obj)} {y : Int} {ty : Tok}
    (B : Below A₀ base outer h₀) (F : Fr h₀ L s.heap m) (X : (Mine.hd.heap_39 w.params).In h₀) (N : News h₀ L s.heap news) (T : Top Mine.hd.view_39 (looseW Mine.hd.view_39 [Str.ofString "_DAYS_IN_MONTH", Str.ofString "_DAYS_BEFORE_MONTH", Str.ofString "_DI400Y", Str.ofString "_DI100Y", Str.ofString "_DI4Y"]) mean mg mb h₀) (hk : cs.kind = .function) (hd : dp + 8 < recursionLimit) (hu : un + 64 < cLine)
    (hret : CbRet h₀ L m news s Q (fun t => .int (dby y + 1) t)) :
    wpAny (model PySem.Challenge.pw_ko0140_04 w) (ktrTop dp un gd cn cs L a ccd cl outer) (call (.ref 94) [.int y ty]) Q E s := by
  have fillme : PySem.Challenge.rw_ko0140_04 = PySem.Challenge.rw_ko0140_04 ∧ Mine.hd.heap_39 = Mine.hd.heap_39 := by
    k_fill
    exact ⟨rfl, rfl⟩
  clear fillme
  refine wpAny_call ?_
  k_dflt cell_enter
  k_with "state" => exact dbm_init0 _ _
  k_with "state" => exact dby_init _
  k_with "state" => exact dbm_stepN (by assumption) (by first | rfl | assumption) (by first | rfl | assumption)
  k_with "state" => exact dby_step (by assumption) (by assumption) (by assumption)
  k_steps
  all_goals cb_end hret
local macro_rules | `(tactic| walk_at "call ref") => `(tactic| (k_here; k_dflt (refine' num_spec ?k1 ?k2 ?k3 ?k4 ?k5 ?kK ?kd ?ku ?_; (case k1 => k_asm); (case k2 => k_asm); (case k3 => k_asm); (case k4 => k_asm); (case k5 => k_asm); (case kK => first | exact rfl | assumption); (case kd => ktr_room); (case ku => ktr_units)); intro t9 h9 tk9 F9 N9; (try dsimp only); (try k_fold)))
end Mine
namespace Mine
theorem dim_pos {y m : Int} (h1 : 1 ≤ m) (h2 : m ≤ 12) : 28 ≤ dim y m := by
  unfold dim
  split
  · decide
  · rcases months h1 h2 with rfl | rfl | rfl | rfl | rfl | rfl | rfl | rfl | rfl | rfl | rfl | rfl <;> decide
theorem dbm_all (y : Int) : dbm y 12 + dim y 12 = 365 + (if leap y = true then 1 else 0) := by
  unfold dbm dim
  cases leap y <;> rfl
theorem day_init {n q r : Int} (h1 : n - 1 = 146097 * q + r) (h2 : 0 ≤ r) : (1 : Int) ≤ 1 ∧ (1 : Int) ≤ 12 ∧ 0 ≤ r ∧ dby (400 * q + 1) + dbm (400 * q + 1) 1 + r + 1 = n := by
  refine ⟨by decide, by decide, h2, ?_⟩
  have e : dbm (400 * q + 1) 1 = 0 := rfl
  rw [e]
  unfold dby
  omega
theorem day_turn {n y m r : Int} (a : 1 ≤ m) (b : m ≤ 12) (c : 0 ≤ r) (d : dby y + dbm y m + r + 1 = n) (hg : dim y m ≤ r) (hn : m + 1 ≠ 13) : 1 ≤ m + 1 ∧ m + 1 ≤ 12 ∧ 0 ≤ r - dim y m ∧ dby y + dbm y (m + 1) + (r - dim y m) + 1 = n := by
  have e := dbm_next (y := y) a b
  rw [Int.add_comm m 1, ← e]
  refine ⟨by omega, by omega, by omega, by omega⟩
theorem day_year {n y m r : Int} (a : 1 ≤ m) (b : m ≤ 12) (c : 0 ≤ r) (d : dby y + dbm y m + r + 1 = n) (hg : dim y m ≤ r) (hn : m + 1 = 13) : (1 : Int) ≤ 1 ∧ (1 : Int) ≤ 12 ∧ 0 ≤ r - dim y m ∧ dby (y + 1) + dbm (y + 1) 1 + (r - dim y m) + 1 = n := by
  have hm : m = 12 := by omega
  subst hm
  have e := dbm_all y
  have f : dbm (y + 1) 1 = 0 := rfl
  rw [f, dby_next]
  refine ⟨by decide, by decide, by omega, by omega⟩
theorem day_less {n y m r : Int} (a : 1 ≤ m) (b : m ≤ 12) (c : 0 ≤ r) (d : dby y + dbm y m + r + 1 = n) (hg : dim y m ≤ r) : (r - dim y m).toNat < r.toNat := by
  have := dim_pos (y := y) a b
  omega
theorem day_end {n y m r : Int} (a : 1 ≤ m) (b : m ≤ 12) (c : 0 ≤ r) (d : dby y + dbm y m + r + 1 = n) (hg : ¬ dim y m ≤ r) : 1 ≤ m ∧ m ≤ 12 ∧ 1 ≤ r + 1 ∧ r + 1 ≤ dim y m ∧ dby y + dbm y m + (r + 1) = n := by
  refine ⟨a, b, by omega, by omega, by omega⟩
theorem day_end' {n y m r : Int} (a : 1 ≤ m) (b : m ≤ 12) (c : 0 ≤ r) (d : dby y + dbm y m + r + 1 = n) (hg : r < dim y m) : 1 ≤ m ∧ m ≤ 12 ∧ 1 ≤ r + 1 ∧ r + 1 ≤ dim y m ∧ dby y + dbm y m + (r + 1) = n := day_end a b c d (by omega)
end Mine
namespace Mine
local macro_rules | `(tactic| walk_at "call ref") => `(tactic| (k_here; k_dflt (refine' leap_spec ?k1 ?k2 ?k3 ?k4 ?k5 ?kK ?kd ?ku ?_; (case k1 => k_asm); (case k2 => k_asm); (case k3 => k_asm); (case k4 => k_asm); (case k5 => k_asm); (case kK => first | exact rfl | assumption); (case kd => ktr_room); (case ku => ktr_units)); intro t9 h9 tk9 F9 N9; (try dsimp only); (try k_fold)))
local macro_rules | `(tactic| walk_at "call ref") => `(tactic| (k_here; k_dflt (refine' dim_spec ?k1 ?k2 ?k3 ?k4 ?k5 ?kK ?kp0 ?kp1 ?kd ?ku ?_; (case k1 => k_asm); (case k2 => k_asm); (case k3 => k_asm); (case k4 => k_asm); (case k5 => k_asm); (case kK => first | exact rfl | assumption); (case kp0 => first | assumption | omega | ((try dsimp only); omega) | exact dim_one _ | exact mo_low (by assumption) (by assumption) (by assumption) | l_fact); (case kp1 => first | assumption | omega | ((try dsimp only); omega) | exact dim_one _ | exact mo_low (by assumption) (by assumption) (by assumption) | l_fact); (case kd => ktr_room); (case ku => ktr_units)); intro t9 h9 tk9 F9 N9; (try dsimp only); (try k_fold)))
local macro_rules | `(tactic| walk_at "call ref") => `(tactic| (k_here; k_dflt (refine' dbm_spec ?k1 ?k2 ?k3 ?k4 ?k5 ?kK ?kp0 ?kp1 ?kd ?ku ?_; (case k1 => k_asm); (case k2 => k_asm); (case k3 => k_asm); (case k4 => k_asm); (case k5 => k_asm); (case kK => first | exact rfl | assumption); (case kp0 => first | assumption | omega | ((try dsimp only); omega) | exact dim_one _ | exact mo_low (by assumption) (by assumption) (by assumption) | l_fact); (case kp1 => first | assumption | omega | ((try dsimp only); omega) | exact dim_one _ | exact mo_low (by assumption) (by assumption) (by assumption) | l_fact); (case kd => ktr_room); (case ku => ktr_units)); intro t9 h9 tk9 F9 N9; (try dsimp only); (try k_fold)))
local macro_rules | `(tactic| walk_at "call ref") => `(tactic| (k_here; k_dflt (refine' lml_spec ?k1 ?k2 ?k3 ?k4 ?k5 ?kK ?kp0 ?kp1 ?kd ?ku ?_; (case k1 => k_asm); (case k2 => k_asm); (case k3 => k_asm); (case k4 => k_asm); (case k5 => k_asm); (case kK => first | exact rfl | assumption); (case kp0 => first | assumption | omega | ((try dsimp only); omega) | exact dim_one _ | exact mo_low (by assumption) (by assumption) (by assumption) | l_fact); (case kp1 => first | assumption | omega | ((try dsimp only); omega) | exact dim_one _ | exact mo_low (by assumption) (by assumption) (by assumption) | l_fact); (case kd => ktr_room); (case ku => ktr_units)); intro t9 h9 tk9 F9 N9; (try dsimp only); (try k_fold)))
local macro_rules | `(tactic| walk_at "call ref") => `(tactic| (k_here; k_dflt (refine' dby_spec ?k1 ?k2 ?k3 ?k4 ?k5 ?kK ?kd ?ku ?_; (case k1 => k_asm); (case k2 => k_asm); (case k3 => k_asm); (case k4 => k_asm); (case k5 => k_asm); (case kK => first | exact rfl | assumption); (case kd => ktr_room); (case ku => ktr_units)); intro t9 h9 tk9 F9 N9; (try dsimp only); (try k_fold)))
local macro_rules | `(tactic| walk_at "call ref") => `(tactic| (k_here; k_dflt (refine' ymd_spec ?k1 ?k2 ?k3 ?k4 ?k5 ?kK ?kp0 ?kp1 ?kp2 ?kp3 ?kd ?ku ?_; (case k1 => k_asm); (case k2 => k_asm); (case k3 => k_asm); (case k4 => k_asm); (case k5 => k_asm); (case kK => first | exact rfl | assumption); (case kp0 => first | assumption | omega | ((try dsimp only); omega) | exact dim_one _ | exact mo_low (by assumption) (by assumption) (by assumption) | l_fact); (case kp1 => first | assumption | omega | ((try dsimp only); omega) | exact dim_one _ | exact mo_low (by assumption) (by assumption) (by assumption) | l_fact); (case kp2 => first | assumption | omega | ((try dsimp only); omega) | exact dim_one _ | exact mo_low (by assumption) (by assumption) (by assumption) | l_fact); (case kp3 => first | assumption | omega | ((try dsimp only); omega) | exact dim_one _ | exact mo_low (by assumption) (by assumption) (by assumption) | l_fact); (case kd => ktr_room); (case ku => ktr_units)); intro t9 h9 tk9 F9 N9; (try dsimp only); (try k_fold)))
local macro_rules | `(tactic| walk_at "call builtin:divmod") => `(tactic| (k_here; (with_reducible show wpAny _ _ (PySem.call (Value.builtin _) [Value.int _ _, Value.int _ _]) _ _ _); k_dflt (refine' dm_gen ?F ?N (by decide) (by decide) ?_; (case F => k_asm); (case N => k_asm); k_whole); intro D' h' q' r' t1' t2' tk' e1' e2' e3' F' N' l1'; (try k_lt l1'); (try k_sweep)))
theorem day_spec {w : World} {mean : ExcName → Option Value} {mg mb : Str → Option Value} {dp un : Nat} {gd : Option (List Code)} {cn : Str} {cs : Scope} {a : Addr} {ccd : Value} {cl : List (Str × Addr)} {outer : List Env} {A₀ : Around} {base h₀ : Heap} {L : Addr} {m : Str → Option Value} {s : Shared} {Q E : Value → Shared → Prop} {news : List (Addr × Obj)} {n : Int} {tn : Tok}
    (B : Below A₀ base outer h₀) (F : Fr h₀ L s.heap m) (X : (Mine.hd.heap_39 w.params).In h₀) (N : News h₀ L s.heap news) (T : Top Mine.hd.view_39 (looseW Mine.hd.view_39 [Str.ofString "_DAYS_IN_MONTH", Str.ofString "_DAYS_BEFORE_MONTH", Str.ofString "_DI400Y", Str.ofString "_DI100Y", Str.ofString "_DI4Y"]) mean mg mb h₀) (hk : cs.kind = .function) (hd : dp + 8 < recursionLimit) (hu : un + 64 < cLine)
    (hret : ∀ (r : Addr) (Y M D : Int) (tY tM tD : Tok) (h' : Heap) (tk' : Nat), Fr h₀ L h' m → News h₀ L h' ((r, { cls := .type "tuple", data := .seq #[.int Y tY, .int M tM, .int D tD] }) :: news) → (1 ≤ M ∧ M ≤ 12 ∧ 1 ≤ D ∧ D ≤ dim Y M ∧ dby Y + dbm Y M + D = n) → Q (.ref r) { s with heap := h', toks := tk' }) :
    wpAny (model PySem.Challenge.pw_ko0140_04 w) (ktrTop dp un gd cn cs L a ccd cl outer) (call (.ref 101) [.int n tn]) Q E s := by
  have fillme : PySem.Challenge.rw_ko0140_04 = PySem.Challenge.rw_ko0140_04 ∧ Mine.hd.heap_39 = Mine.hd.heap_39 := by
    k_fill
    exact ⟨rfl, rfl⟩
  clear fillme
  refine wpAny_call ?_
  k_dflt cell_enter
  k_with "exec While Compare cons nil" => k_while_given ["number"] (fun number _ rest year month => 1 ≤ month ∧ month ≤ 12 ∧ 0 ≤ rest ∧ dby year + dbm year month + rest + 1 = number) (fun _ _ rest _ _ => rest.toNat) "rest" "year" "month"
  k_with "state" => with_reducible exact day_init (by assumption) (by assumption)
  k_with "state" => with_reducible exact day_turn (by assumption) (by assumption) (by assumption) (by assumption) (by assumption) (by assumption)
  k_with "state" => with_reducible exact day_year (by assumption) (by assumption) (by assumption) (by assumption) (by assumption) (by assumption)
  k_with "measure" => with_reducible exact day_less (by assumption) (by assumption) (by assumption) (by assumption) (by assumption)
  k_steps
  all_goals
    (refine hret _ _ _ _ _ _ _ _ _ (by assumption) (cb_drop (by assumption) (List.forall_mem_cons.mpr ⟨List.Mem.head _, fun p hp => by repeat (first | exact hp | refine List.Mem.tail _ ?_)⟩)) ?_
     first | exact day_end (by assumption) (by assumption) (by assumption) (by assumption) (by assumption) | exact day_end' (by assumption) (by assumption) (by assumption) (by assumption) (by assumption))
end Mine
namespace Mine
@[irreducible] def e30 : Int := 1000000000000000000000000000000
theorem e30_pow : (10 : Int) ^ (30 : Int).toNat = e30 := by
  unfold e30
  decide +kernel
theorem e30_ne : (2 : Int) * e30 ≠ 0 := by
  unfold e30
  decide +kernel
theorem e30_pos : 0 < e30 := by
  unfold e30
  decide +kernel
def lcut (x : Int) : Int := (x + e30).fmod (2 * e30) - e30
theorem lcut_lo (x : Int) : - e30 ≤ lcut x := by
  have h := Int.fmod_nonneg_of_pos (x + e30) (b := 2 * e30) (by have := e30_pos; omega)
  unfold lcut
  omega
theorem lcut_hi (x : Int) : lcut x < e30 := by
  have h := Int.fmod_lt_of_pos (x + e30) (b := 2 * e30) (by have := e30_pos; omega)
  unfold lcut
  omega
section
variable {prog : Program} {w : World} {A : Around} {E : Value → Shared → Prop} {s : Shared} {t u : Tok} {Q : Value → Shared → Prop}
theorem pow30 (h : Q (.int e30 s.toks) { s with toks := s.toks + 1 }) : wpAny (model prog w) A (binaryOp .Pow (.int 10 t) (.int 30 u)) Q E s := by
  refine pow_int_small (by decide) (by decide) (by decide) ?_
  rw [e30_pow]
  exact h
theorem mod30 {a : Int} (h : Q (.int (a.fmod (2 * e30)) s.toks) { s with toks := s.toks + 1 }) : wpAny (model prog w) A (binaryOp .Mod (.int a t) (.int (2 * e30) u)) Q E s := mod_int' e30_ne h
end
theorem dby_mono {a b : Int} (h : a ≤ b) : dby a ≤ dby b := by
  unfold dby
  omega
theorem dbm_mono {y a b : Int} (h1 : 1 ≤ a) (h2 : a < b) (h3 : b ≤ 12) : dbm y a + dim y a ≤ dbm y b := by
  have ha : a ≤ 12 := by omega
  have hb : 1 ≤ b := by omega
  unfold dbm dim
  rcases months h1 ha with rfl | rfl | rfl | rfl | rfl | rfl | rfl | rfl | rfl | rfl | rfl | rfl <;> rcases months hb h3 with rfl | rfl | rfl | rfl | rfl | rfl | rfl | rfl | rfl | rfl | rfl | rfl <;> first | (exfalso; omega) | (cases leap y <;> decide)
theorem dbm_nonneg {y m : Int} (h1 : 1 ≤ m) (h2 : m ≤ 12) : 0 ≤ dbm y m := by
  unfold dbm
  rcases months h1 h2 with rfl | rfl | rfl | rfl | rfl | rfl | rfl | rfl | rfl | rfl | rfl | rfl <;> cases leap y <;> decide
theorem date_in {Y M D n : Int} (h1 : 1 ≤ M) (h2 : M ≤ 12) (h3 : 1 ≤ D) (h4 : D ≤ dim Y M) (h5 : dby Y + dbm Y M + D = n) : dby Y + 1 ≤ n ∧ n ≤ dby (Y + 1) := by
  have a := dbm_nonneg (y := Y) h1 h2
  have b := dby_next Y
  have c := dbm_all Y
  have d : dbm Y M + dim Y M ≤ dbm Y 12 + dim Y 12 := by
    by_cases e : M = 12
    · rw [e]; omega
    · have := dbm_mono (y := Y) h1 (show M < 12 by omega) (by decide)
      have := dim_pos (y := Y) (m := 12) (by decide) (by decide)
      omega
  omega
theorem date_uniq {Y M D Y' M' D' n : Int} (h1 : 1 ≤ M) (h2 : M ≤ 12) (h3 : 1 ≤ D) (h4 : D ≤ dim Y M) (h5 : dby Y + dbm Y M + D = n)
    (g1 : 1 ≤ M') (g2 : M' ≤ 12) (g3 : 1 ≤ D') (g4 : D' ≤ dim Y' M') (g5 : dby Y' + dbm Y' M' + D' = n) : Y = Y' ∧ M = M' ∧ D = D' := by
  have a := date_in h1 h2 h3 h4 h5
  have b := date_in g1 g2 g3 g4 g5
  have e : Y = Y' := by
    rcases Int.lt_trichotomy Y Y' with h | h | h
    · have := dby_mono (show Y + 1 ≤ Y' by omega); omega
    · exact h
    · have := dby_mono (show Y' + 1 ≤ Y by omega); omega
  subst e
  have f : M = M' := by
    rcases Int.lt_trichotomy M M' with h | h | h
    · have := dbm_mono (y := Y) h1 h g2; omega
    · exact h
    · have := dbm_mono (y := Y) g1 h h2; omega
  subst f
  exact ⟨rfl, rfl, by omega⟩
def thu (y wk : Int) : Int := 7 * turns y + 4 + 7 * (wk - 1)
theorem thu_eq (y wk : Int) : dby y + 1 + (4 - (dby y + 1)).fmod 7 + 7 * (wk - 1) = thu y wk := by
  rw [fm7]
  unfold thu turns
  omega
theorem thu_in {y wk : Int} {M D : Int} (h1 : 1 ≤ M) (h2 : M ≤ 12) (h3 : 1 ≤ D) (h4 : D ≤ dim y M) (h5 : dby y + dbm y M + D = thu y wk) : 1 ≤ wk ∧ wk ≤ turns (y + 1) - turns y := by
  have a := date_in h1 h2 h3 h4 h5
  unfold thu turns at *
  omega
theorem thu_out {y wk Y : Int} {M D : Int} (h5 : dby Y + dbm Y M + D = thu y wk) (hn : Y ≠ y) (h1 : 1 ≤ M) (h2 : M ≤ 12) (h3 : 1 ≤ D) (h4 : D ≤ dim Y M) : wk < 1 ∨ turns (y + 1) - turns y < wk := by
  have a := date_in h1 h2 h3 h4 h5
  rcases Int.lt_or_gt_of_ne hn with h | h
  · left
    have := dby_mono (show Y + 1 ≤ y by omega)
    unfold thu turns at *
    omega
  · right
    have := dby_mono (show y + 1 ≤ Y by omega)
    unfold thu turns at *
    omega
def IsDue (y wk da Y M D : Int) : Prop := 1 ≤ M ∧ M ≤ 12 ∧ 1 ≤ D ∧ D ≤ dim Y M ∧ dby Y + dbm Y M + D = thu y wk + da - 4
theorem due_uniq {y wk da Y M D Y' M' D' : Int} (h : IsDue y wk da Y' M' D') (h5 : dby Y + dbm Y M + D = 7 * turns y + 1 + ((wk - 1) * 7 + (da - 1))) (h1 : 1 ≤ M) (h2 : M ≤ 12) (h3 : 1 ≤ D) (h4 : D ≤ dim Y M) : Y' = Y ∧ M' = M ∧ D' = D := by
  obtain ⟨g1, g2, g3, g4, g5⟩ := h
  refine date_uniq g1 g2 g3 g4 g5 h1 h2 h3 h4 ?_
  rw [h5]
  unfold thu
  omega
def ldraw (x lo hi : Int) : Int := if x.fmod 2 = 0 then x.fdiv 2 else lo - 1 + (x.fdiv 2).fmod (hi - lo + 3)
theorem ldraw_even {x lo hi : Int} (h : x.fmod 2 = 0) : x.fdiv 2 = ldraw x lo hi := by
  unfold ldraw
  rw [if_pos h]
theorem ldraw_odd {x lo hi : Int} (h : x.fmod 2 ≠ 0) : lo - 1 + (x.fdiv 2).fmod (hi - lo + 3) = ldraw x lo hi := by
  unfold ldraw
  rw [if_neg h]
theorem e30_small : e30 < 2 ^ 100 := by
  unfold e30
  decide +kernel
theorem sm_cut (c : Int) : Sm (lcut c) := by
  have h3 := lcut_lo c
  have h4 := lcut_hi c
  have h5 := e30_small
  exact sm_of (by omega) (by omega)
theorem thu_in' {y wk Y : Int} {M D : Int} (h5 : dby Y + dbm Y M + D = thu y wk) (e : Y = y) (h1 : 1 ≤ M) (h2 : M ≤ 12) (h3 : 1 ≤ D) (h4 : D ≤ dim Y M) : 1 ≤ wk ∧ wk ≤ turns (y + 1) - turns y := by
  subst e
  exact thu_in h1 h2 h3 h4 h5
end Mine
namespace Mine
local macro_rules | `(tactic| walk_at "call ref") => `(tactic| (k_here; k_dflt (refine' num_spec ?k1 ?k2 ?k3 ?k4 ?k5 ?kK ?kd ?ku ?_; (case k1 => k_asm); (case k2 => k_asm); (case k3 => k_asm); (case k4 => k_asm); (case k5 => k_asm); (case kK => first | exact rfl | assumption); (case kd => ktr_room); (case ku => ktr_units)); intro t9 h9 tk9 F9 N9; (try dsimp only); (try k_fold)))
local macro_rules | `(tactic| cb_eq) => `(tactic| first | rfl | exact thu_eq _ _ | exact ldraw_even (by assumption) | exact ldraw_odd (by assumption) | fail "cb_eqT")
local macro_rules | `(tactic| walk_at "binaryOp Mod int int") => `(tactic| (with_reducible refine mod_int' (by assumption) ?_))
theorem thu_spec {w : World} {mean : ExcName → Option Value} {mg mb : Str → Option Value} {dp un : Nat} {gd : Option (List Code)} {cn : Str} {cs : Scope} {a : Addr} {ccd : Value} {cl : List (Str × Addr)} {outer : List Env} {A₀ : Around} {base h₀ : Heap} {L : Addr} {m : Str → Option Value} {s : Shared} {Q E : Value → Shared → Prop} {news : List (Addr × Obj)} {y : Int} {ty : Tok} {wk : Int} {twk : Tok}
    (B : Below A₀ base outer h₀) (F : Fr h₀ L s.heap m) (X : (Mine.hd.heap_39 w.params).In h₀) (N : News h₀ L s.heap news) (T : Top Mine.hd.view_39 (looseW Mine.hd.view_39 [Str.ofString "_DAYS_IN_MONTH", Str.ofString "_DAYS_BEFORE_MONTH", Str.ofString "_DI400Y", Str.ofString "_DI100Y", Str.ofString "_DI4Y"]) mean mg mb h₀) (hk : cs.kind = .function) (hd : dp + 12 < recursionLimit) (hu : un + 96 < cLine)
    (hret : CbRet h₀ L m news s Q (fun t => .int (thu y wk) t)) :
    wpAny (model PySem.Challenge.pw_ko0140_04 w) (ktrTop dp un gd cn cs L a ccd cl outer) (call (.ref 108) [.int y ty, .int wk twk]) Q E s := by
  have fillme : PySem.Challenge.rw_ko0140_04 = PySem.Challenge.rw_ko0140_04 ∧ Mine.hd.heap_39 = Mine.hd.heap_39 := by
    k_fill
    exact ⟨rfl, rfl⟩
  clear fillme
  refine wpAny_call ?_
  k_dflt cell_enter
  k_steps
  all_goals cb_end hret
local macro_rules | `(tactic| walk_at "call ref") => `(tactic| (k_here; k_dflt (refine' thu_spec ?k1 ?k2 ?k3 ?k4 ?k5 ?kK ?kd ?ku ?_; (case k1 => k_asm); (case k2 => k_asm); (case k3 => k_asm); (case k4 => k_asm); (case k5 => k_asm); (case kK => first | exact rfl | assumption); (case kd => ktr_room); (case ku => ktr_units)); intro t9 h9 tk9 F9 N9; (try dsimp only); (try k_fold)))
theorem draw_spec {w : World} {mean : ExcName → Option Value} {mg mb : Str → Option Value} {dp un : Nat} {gd : Option (List Code)} {cn : Str} {cs : Scope} {a : Addr} {ccd : Value} {cl : List (Str × Addr)} {outer : List Env} {A₀ : Around} {base h₀ : Heap} {L : Addr} {m : Str → Option Value} {s : Shared} {Q E : Value → Shared → Prop} {news : List (Addr × Obj)} {x : Int} {tx : Tok} {lo : Int} {tlo : Tok} {hi : Int} {thi : Tok}
    (B : Below A₀ base outer h₀) (F : Fr h₀ L s.heap m) (X : (Mine.hd.heap_39 w.params).In h₀) (N : News h₀ L s.heap news) (T : Top Mine.hd.view_39 (looseW Mine.hd.view_39 [Str.ofString "_DAYS_IN_MONTH", Str.ofString "_DAYS_BEFORE_MONTH", Str.ofString "_DI400Y", Str.ofString "_DI100Y", Str.ofString "_DI4Y"]) mean mg mb h₀) (hk : cs.kind = .function) (hp0 : hi - lo + 3 ≠ 0) (hd : dp + 4 < recursionLimit) (hu : un + 32 < cLine)
    (hret : CbRet h₀ L m news s Q (fun t => .int (ldraw x lo hi) t)) :
    wpAny (model PySem.Challenge.pw_ko0140_04 w) (ktrTop dp un gd cn cs L a ccd cl outer) (call (.ref 115) [.int x tx, .int lo tlo, .int hi thi]) Q E s := by
  have fillme : PySem.Challenge.rw_ko0140_04 = PySem.Challenge.rw_ko0140_04 ∧ Mine.hd.heap_39 = Mine.hd.heap_39 := by
    k_fill
    exact ⟨rfl, rfl⟩
  clear fillme
  refine wpAny_call ?_
  k_dflt cell_enter
  k_steps
  all_goals cb_end hret
local macro_rules | `(tactic| walk_at "call ref") => `(tactic| (k_here; k_dflt (refine' draw_spec ?k1 ?k2 ?k3 ?k4 ?k5 ?kK ?kp0 ?kd ?ku ?_; (case k1 => k_asm); (case k2 => k_asm); (case k3 => k_asm); (case k4 => k_asm); (case k5 => k_asm); (case kK => first | exact rfl | assumption); (case kp0 => first | assumption | omega | ((try dsimp only); omega) | exact dim_one _ | exact mo_low (by assumption) (by assumption) (by assumption) | l_fact); (case kd => ktr_room); (case ku => ktr_units)); intro t9 h9 tk9 F9 N9; (try dsimp only); (try k_fold)))
end Mine
namespace Mine
local macro_rules | `(tactic| walk_at "call ref") => `(tactic| (k_here; k_dflt (refine' thu_spec ?k1 ?k2 ?k3 ?k4 ?k5 ?kK ?kd ?ku ?_; (case k1 => k_asm); (case k2 => k_asm); (case k3 => k_asm); (case k4 => k_asm); (case k5 => k_asm); (case kK => first | exact rfl | assumption); (case kd => ktr_room); (case ku => ktr_units)); intro t9 h9 tk9 F9 N9; (try dsimp only); (try k_fold)))
local macro_rules | `(tactic| walk_at "call ref") => `(tactic| (k_here; k_dflt (refine' draw_spec ?k1 ?k2 ?k3 ?k4 ?k5 ?kK ?kp0 ?kd ?ku ?_; (case k1 => k_asm); (case k2 => k_asm); (case k3 => k_asm); (case k4 => k_asm); (case k5 => k_asm); (case kK => first | exact rfl | assumption); (case kp0 => first | assumption | omega | ((try dsimp only); omega) | exact dim_one _ | exact mo_low (by assumption) (by assumption) (by assumption) | l_fact); (case kd => ktr_room); (case ku => ktr_units)); intro t9 h9 tk9 F9 N9; (try dsimp only); (try k_fold)))
local macro_rules | `(tactic| cb_eq) => `(tactic| first | rfl | fail "cb_eq5")
local macro_rules | `(tactic| walk_at "binaryOp Pow int int") => `(tactic| (with_reducible refine pow30 ?_))
local macro_rules | `(tactic| walk_at "binaryOp Mod int int") => `(tactic| (with_reducible refine mod30 ?_))
theorem cut_spec {w : World} {mean : ExcName → Option Value} {mg mb : Str → Option Value} {dp un : Nat} {gd : Option (List Code)} {cn : Str} {cs : Scope} {a : Addr} {ccd : Value} {cl : List (Str × Addr)} {outer : List Env} {A₀ : Around} {base h₀ : Heap} {L : Addr} {m : Str → Option Value} {s : Shared} {Q E : Value → Shared → Prop} {news : List (Addr × Obj)} {x lo hi : Int} {tx tl th : Tok}
    (B : Below A₀ base outer h₀) (F : Fr h₀ L s.heap m) (X : (Mine.hd.heap_39 w.params).In h₀) (N : News h₀ L s.heap news) (T : Top Mine.hd.view_39 (looseW Mine.hd.view_39 [Str.ofString "_DAYS_IN_MONTH", Str.ofString "_DAYS_BEFORE_MONTH", Str.ofString "_DI400Y", Str.ofString "_DI100Y", Str.ofString "_DI4Y"]) mean mg mb h₀) (hk : cs.kind = .function) (hp0 : hi - lo + 3 ≠ 0) (hd : dp + 8 < recursionLimit) (hu : un + 64 < cLine)
    (hret : ∀ (v : Int) (t : Tok) (h' : Heap) (tk' : Nat), Fr h₀ L h' m → News h₀ L h' news → Sm v → Q (.int v t) { s with heap := h', toks := tk' }) :
    wpAny (model PySem.Challenge.pw_ko0140_04 w) (ktrTop dp un gd cn cs L a ccd cl outer) (call (.ref 122) [.int x tx, .int lo tl, .int hi th]) Q E s := by
  have fillme : PySem.Challenge.rw_ko0140_04 = PySem.Challenge.rw_ko0140_04 ∧ Mine.hd.heap_39 = Mine.hd.heap_39 := by
    k_fill
    exact ⟨rfl, rfl⟩
  clear fillme
  have hret2 : CbRet h₀ L m news s Q (fun t => .int (lcut (ldraw x lo hi)) t) := fun t h' tk' F' N' => hret _ t h' tk' F' N' (sm_cut _)
  clear hret
  have hret := hret2
  clear hret2
  refine wpAny_call ?_
  k_dflt cell_enter
  k_steps
  all_goals cb_end hret
end Mine
namespace Mine
local macro_rules | `(tactic| walk_at "call ref") => `(tactic| (k_here; k_dflt (refine' thu_spec ?k1 ?k2 ?k3 ?k4 ?k5 ?kK ?kd ?ku ?_; (case k1 => k_asm); (case k2 => k_asm); (case k3 => k_asm); (case k4 => k_asm); (case k5 => k_asm); (case kK => first | exact rfl | assumption); (case kd => ktr_room); (case ku => ktr_units)); intro t9 h9 tk9 F9 N9; (try dsimp only); (try k_fold)))
local macro_rules | `(tactic| walk_at "call ref") => `(tactic| (k_here; k_dflt (refine' draw_spec ?k1 ?k2 ?k3 ?k4 ?k5 ?kK ?kp0 ?kd ?ku ?_; (case k1 => k_asm); (case k2 => k_asm); (case k3 => k_asm); (case k4 => k_asm); (case k5 => k_asm); (case kK => first | exact rfl | assumption); (case kp0 => first | assumption | omega | ((try dsimp only); omega) | exact dim_one _ | exact mo_low (by assumption) (by assumption) (by assumption) | l_fact); (case kd => ktr_room); (case ku => ktr_units)); intro t9 h9 tk9 F9 N9; (try dsimp only); (try k_fold)))
local macro_rules | `(tactic| walk_at "call ref") => `(tactic| (k_here; k_dflt (refine' day_spec ?k1 ?k2 ?k3 ?k4 ?k5 ?kK ?kd ?ku ?_; (case k1 => k_asm); (case k2 => k_asm); (case k3 => k_asm); (case k4 => k_asm); (case k5 => k_asm); (case kK => first | exact rfl | assumption); (case kd => ktr_room); (case ku => ktr_units)); intro r9 Y9 M9 D9 tY9 tM9 tD9 h9 tk9 F9 N9 hf9; (obtain ⟨hf1, hf2, hf3, hf4, hf5⟩ := hf9); (try dsimp only); (try k_fold)))
local macro_rules | `(tactic| walk_at "call type:str") => `(tactic| (k_here; (with_reducible show wpAny _ _ (PySem.call (Value.type "str") [Value.int _ _]) _ _ _); (refine P.str_of_int (sm_out (by assumption)) ?_)))
local macro_rules | `(tactic| walk_at "binaryOp Add str str") => `(tactic| (refine SBL.add (hsz := ?hsz) ?_; (case hsz => first | with_reducible exact msg1q (by assumption) | with_reducible exact msg2q (by assumption) | with_reducible exact msg3q (by assumption) | with_reducible exact msg3aq (by assumption)); intro _ _ _))
theorem due_spec {w : World} {mean : ExcName → Option Value} {mg mb : Str → Option Value} {dp un : Nat} {gd : Option (List Code)} {cn : Str} {cs : Scope} {a : Addr} {ccd : Value} {cl : List (Str × Addr)} {outer : List Env} {A₀ : Around} {base h₀ : Heap} {L : Addr} {m : Str → Option Value} {s : Shared} {Q E : Value → Shared → Prop} {news : List (Addr × Obj)} {y wk da : Int} {ty tw td : Tok}
    (B : Below A₀ base outer h₀) (F : Fr h₀ L s.heap m) (X : (Mine.hd.heap_39 w.params).In h₀) (N : News h₀ L s.heap news) (T : Top Mine.hd.view_39 (looseW Mine.hd.view_39 [Str.ofString "_DAYS_IN_MONTH", Str.ofString "_DAYS_BEFORE_MONTH", Str.ofString "_DI400Y", Str.ofString "_DI100Y", Str.ofString "_DI4Y"]) mean mg mb h₀) (hk : cs.kind = .function) (sy : Sm y) (sw : Sm wk) (sd : Sm da) (hd : dp + 16 < recursionLimit) (hu : un + 128 < cLine)
    (hR1 : ∀ (r : Addr) (tm : Tok) (h' : Heap) (tk' : Nat), Fr h₀ L h' m → News h₀ L h' ((r, { cls := .type "tuple", data := .seq #[.str (Str.ofString "Year is out of range: " ++ Str.ofString (toString y)) tm] }) :: news) → (y < 1 ∨ 9999 < y) → Q (.ref r) { s with heap := h', toks := tk' })
    (hR2 : ∀ (r : Addr) (tm : Tok) (h' : Heap) (tk' : Nat), Fr h₀ L h' m → News h₀ L h' ((r, { cls := .type "tuple", data := .seq #[.str (Str.ofString "Invalid week: " ++ Str.ofString (toString wk)) tm] }) :: news) → 1 ≤ y → y ≤ 9999 → (wk < 1 ∨ turns (y + 1) - turns y < wk) → Q (.ref r) { s with heap := h', toks := tk' })
    (hR3 : ∀ (r : Addr) (tm : Tok) (h' : Heap) (tk' : Nat), Fr h₀ L h' m → News h₀ L h' ((r, { cls := .type "tuple", data := .seq #[.str (Str.ofString "Invalid weekday: " ++ Str.ofString (toString da) ++ Str.ofString " (range is [1, 7])") tm] }) :: news) → 1 ≤ y → y ≤ 9999 → 1 ≤ wk → wk ≤ turns (y + 1) - turns y → (da < 1 ∨ 7 < da) → Q (.ref r) { s with heap := h', toks := tk' })
    (hret : ∀ (r : Addr) (Y M D : Int) (tY tM tD : Tok) (h' : Heap) (tk' : Nat), Fr h₀ L h' m → News h₀ L h' ((r, { cls := .type "tuple", data := .seq #[.int Y tY, .int M tM, .int D tD] }) :: news) → 1 ≤ y → y ≤ 9999 → 1 ≤ wk → wk ≤ turns (y + 1) - turns y → 1 ≤ da → da ≤ 7 → IsDue y wk da Y M D → Q (.ref r) { s with heap := h', toks := tk' }) :
    wpAny (model PySem.Challenge.pw_ko0140_04 w) (ktrTop dp un gd cn cs L a ccd cl outer) (call (.ref 129) [.int y ty, .int wk tw, .int da td]) Q E s := by
  have fillme : PySem.Challenge.rw_ko0140_04 = PySem.Challenge.rw_ko0140_04 ∧ Mine.hd.heap_39 = Mine.hd.heap_39 := by
    k_fill
    exact ⟨rfl, rfl⟩
  clear fillme
  refine wpAny_call ?_
  k_dflt cell_enter
  k_steps
  all_goals first
    | (refine hR1 _ _ _ _ (by assumption) (cb_drop (by assumption) (List.forall_mem_cons.mpr ⟨by with_reducible exact List.mem_cons_self .., fun p hp => by repeat (first | exact hp | refine List.Mem.tail _ ?_)⟩)) ?_
       clear hR1 hR2 hR3 hret; omega)
    | (refine hR2 _ _ _ _ (by assumption) (cb_drop (by assumption) (List.forall_mem_cons.mpr ⟨by with_reducible exact List.mem_cons_self .., fun p hp => by repeat (first | exact hp | refine List.Mem.tail _ ?_)⟩)) ?_ ?_ ?_
       · clear hR1 hR2 hR3 hret; omega
       · clear hR1 hR2 hR3 hret; omega
       · exact thu_out (by with_reducible assumption) (by assumption) (by assumption) (by assumption) (by assumption) (by assumption))
    | (have h9 := thu_in' (by with_reducible assumption) (by assumption) (by assumption) (by assumption) (by assumption) (by assumption)
       first
         | (refine hR3 _ _ _ _ (by assumption) (cb_drop (by assumption) (List.forall_mem_cons.mpr ⟨by with_reducible exact List.mem_cons_self .., fun p hp => by repeat (first | exact hp | refine List.Mem.tail _ ?_)⟩)) ?_ ?_ h9.1 h9.2 ?_
            · clear hR1 hR2 hR3 hret; omega
            · clear hR1 hR2 hR3 hret; omega
            · clear hR1 hR2 hR3 hret; omega)
         | (refine hret _ _ _ _ _ _ _ _ _ (by assumption) (cb_drop (by assumption) (List.forall_mem_cons.mpr ⟨by with_reducible exact List.mem_cons_self .., fun p hp => by repeat (first | exact hp | refine List.Mem.tail _ ?_)⟩)) ?_ ?_ h9.1 h9.2 ?_ ?_ ⟨by assumption, by assumption, by assumption, by assumption, by assumption⟩
            · clear hR1 hR2 hR3 hret; omega
            · clear hR1 hR2 hR3 hret; omega
            · clear hR1 hR2 hR3 hret; omega
            · clear hR1 hR2 hR3 hret; omega))
end Mine
namespace Mine
end Mine
open Mine
section
local macro_rules | `(tactic| walk_at "call ref") => `(tactic| (k_here; k_dflt (refine' cut_spec ?k1 ?k2 ?k3 ?k4 ?k5 ?kK ?kp0 ?kd ?ku ?_; (case k1 => k_asm); (case k2 => k_asm); (case k3 => k_asm); (case k4 => k_asm); (case k5 => k_asm); (case kK => first | exact rfl | assumption); (case kp0 => omega); (case kd => ktr_room); (case ku => ktr_units)); intro v9 t9 h9 tk9 F9 N9 sm9; (try dsimp only); (try k_fold)))
local macro_rules | `(tactic| walk_at "call ref") => `(tactic| (k_here; k_dflt (refine' due_spec ?k1 ?k2 ?k3 ?k4 ?k5 ?kK ?sy ?sw ?sd ?kd ?ku ?_ ?_ ?_ ?_; (case k1 => k_asm); (case k2 => k_asm); (case k3 => k_asm); (case k4 => k_asm); (case k5 => k_asm); (case kK => first | exact rfl | assumption); (case sy => assumption); (case sw => assumption); (case sd => assumption); (case kd => ktr_room); (case ku => ktr_units)); all_goals (intros; (try dsimp only); (try k_fold))))
local macro_rules | `(tactic| walk_at "call ref") => `(tactic| (k_here; k_dflt (refine' iso_spec ?k1 ?k2 ?k3 ?k4 ?k5 ?kK ?sy ?sw ?sd ?kd ?ku ?_ ?_ ?_ ?_; (case k1 => k_asm); (case k2 => k_asm); (case k3 => k_asm); (case k4 => k_asm); (case k5 => k_asm); (case kK => first | exact rfl | assumption); (case sy => assumption); (case sw => assumption); (case sd => assumption); (case kd => ktr_room); (case ku => ktr_units)); all_goals (intros; first | (exfalso; omega) | ((obtain ⟨q1, q2, q3⟩ := due_uniq (by with_reducible assumption) (by with_reducible assumption) (by with_reducible assumption) (by with_reducible assumption) (by with_reducible assumption) (by with_reducible assumption)); subst q1; subst q2; subst q3; (try dsimp only); (try k_fold)) | ((try dsimp only); (try k_fold)))))
local macro_rules | `(tactic| walk_at "noteFrame ref") => `(tactic| (k_here; (rename RaisedK _ _ _ _ _ _ _ _ => rkX); (with_reducible show wpAny _ _ (noteFrame _ _) (fun _ s₂ => wpAny _ _ (setFlight _ none) (fun _ s₃ => wpAny _ _ (handleBy _ _ (ExceptHandler.ExceptHandler (some (Expr.Name ("ValueError" : Str) _)) (some _) _ _ :: _)) _ _ s₃) _ s₂) _ _); (refine caught_KM (T' := "ValueError") (by assumption) (by assumption) (by assumption) (by assumption) (by k_asm) PyProof.Rows.Boot.«ValueError» PySem.F.isExc_ValueError PySem.F.notTuple_ValueError (by rw [isSubtype_type]; kernel_rfl) ?_); intro h' d' nt' sl' oe' tk' F' N' G'; (try k_sweep)))
local macro_rules | `(tactic| walk_at "joinParts") => `(tactic| (k_here; (first | (with_reducible show wpAny _ _ (joinParts _ []) _ _ _) | (with_reducible show wpAny _ _ (joinParts _ (evalEach [] _)) _ _ _)); k_dflt (refine' joinParts_nil ?_ ?z9; (case z9 => first | with_reducible exact msg1 (by assumption) | with_reducible exact msg2 (by assumption) | with_reducible exact msg3 (by assumption) | with_reducible exact msg3a (by assumption) | with_reducible exact msg1p | with_reducible exact msg2p | with_reducible exact msg3p))))
local macro_rules | `(tactic| walk_at "And") => `(tactic| ((with_reducible show PySem.Str.length _ ≤ sizeLine ∧ wpAny _ _ (joinParts _ _) _ _ _); refine ⟨by first | with_reducible exact msg1 (by assumption) | with_reducible exact msg2 (by assumption) | with_reducible exact msg3 (by assumption) | with_reducible exact msg3a (by assumption) | with_reducible exact msg1p | with_reducible exact msg2p | with_reducible exact msg3p, ?_⟩))
local macro_rules | `(tactic| walk_at "formatField int") => `(tactic| (k_here; (with_reducible show wpAny _ _ (formatField (Value.int _ _) _) _ _ _); (refine wpAny_formatField_int (sm_out (by assumption)) ?_)))
local macro_rules | `(tactic| walk_at "call type:str") => `(tactic| (k_here; (with_reducible show wpAny _ _ (PySem.call (Value.type "str") [Value.int _ _]) _ _ _); (refine P.str_of_int (sm_out (by assumption)) ?_)))
local macro_rules | `(tactic| lcg_src) => `(tactic| exact ⟨_, by k_mem, rfl, _, rfl⟩)
local macro_rules | `(tactic| walk_at "eval ListComp") => `(tactic| (k_here; k_dflt (refine' ListComp_Tt (F₀ := ?F) ?a ?b ?c ?d ?e ?_; (case F => k_asm); (case a => with_unfolding_all rfl); (case b => decide); (case c => rfl); (case d => decide); (case e => rfl)); walk1; (try dsimp only); (k_dflt (refine ⟨_, _, _, rfl, rfl, by k_asm, by k_asm, ⟨_, by k_mem, rfl, _, rfl⟩, Nat.le_of_ble_eq_true rfl, ?_⟩)); intro g'; lct_lit))
local macro_rules | `(tactic| walk_at "compareOp Eq ref ref") => `(tactic| (k_here; k_dflt (refine' eq_1str ?a ?b ?e ?o ?u ?_; (case a => ked_read); (case b => ked_read); (case u => ke_room); (case o => with_reducible first | exact ok_add (ok_lit _) (ok_lit _) | exact ok_add (ok_add (ok_lit _) (ok_lit _)) (ok_lit _)); (case e => with_reducible first | exact e_msg2 _ _ | exact e_msg3 _ _ _ | rfl))))
local macro_rules | `(tactic| walk_at "subscriptTail List") => `(tactic| (k_here; k_dflt (refine kba_turn (value' := PySem.Expr.Name (PySem.Str.ofString "_") ⟨0, 0, 0, 0⟩) (fun _ => rfl) ?_)))
local macro_rules | `(tactic| walk_at "subscriptTail BinOp") => `(tactic| (k_here; k_dflt (refine kba_turn (value' := PySem.Expr.Name (PySem.Str.ofString "_") ⟨0, 0, 0, 0⟩) (fun _ => rfl) ?_)))
local macro_rules | `(tactic| walk_at "subscriptTail Name Slice ref ref") => `(tactic| (k_here; k_dflt (refine' kmk_slice_ints ?F ?N ?l ?p ?q ?i ?m ?c ?_ ?s ?t ?z; (case F => k_asm); (case N => k_asm); (case l => kmk_list); (case p => kmk_part); (case q => kmk_part); (case i => l_ints); (case m => first | exact kmk_upto (by assumption) (by decide) | exact kmk_from (by l_ints) (Int.natCast_nonneg _) | kmk_nums); (case c => kmk_len); (case s => with_unfolding_all rfl); (case t => kmk_pure); (case z => kmk_size)); intro D' ws' h' F' N' l1 hI' hC' hL'; (try k_lt l1); (try k_sweep)))
local macro_rules | `(tactic| walk_at "CompEnd") => `(tactic| (plain_pass; (rename News _ _ _ _ => nE'); (refine LCg.CompEnd.intro (by assumption) nE' _ (fun p hp => hp) ?off ?src ?_); (case off => first | assumption | (simp only [LCg.Off3, and_true]; assumption)); (case src => lcg_src)))
theorem PySem.Challenge.cw_ko0140_04_holds : PySem.Challenge.rw_ko0140_04.Holds := by
  exact Mine.hd (by w_strict k_go)
end

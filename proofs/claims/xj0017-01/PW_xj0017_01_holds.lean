import PyProof.Rows.All
import Wide.All
import OpenK.AllK
import Wide.FinOn
import PySem.Challenge.RW_xj0017_01

section
open PySem PySem.W PyProof.Rows PySem.Spec
set_option Elab.async false
set_option maxRecDepth 100000
set_option maxHeartbeats 8000000
namespace Mine
/-- the rows that open a module's text: __name__ = .. -/
def isNm : Stmt → Bool
  | .Assign [.Name x _] _ _ => x == Str.ofString "__name__"
  | _ => false
/-- the law's text without them -/
def view : Program := { PySem.Challenge.rw_xj0017_01.row.prog with main := { PySem.Challenge.rw_xj0017_01.row.prog.main with body := PySem.Challenge.rw_xj0017_01.row.prog.main.body.filter fun s => !isNm s } }
theorem said1 : looksOpen PySem.Challenge.rw_xj0017_01.row.prog = true := by
  unfold looksOpen
  simp only [Bool.and_eq_true]
  refine ⟨⟨⟨⟨⟨?_, ?_⟩, ?_⟩, ?_⟩, ?_⟩, ?_⟩ <;> ((try rw [PySem.W.Fast.te8326940854005059898]); (try rw [PySem.W.Fast.te17119622794617984870]); (try rw [PySem.W.Fast.te8377067652309620493]); (try rw [PySem.W.Fast.te8179353310426384613]); (try rw [PySem.W.Fast.te16286561074155671207]); decide +kernel)
theorem said2 : PySem.Challenge.rw_xj0017_01.row.partSaid = true := by
  unfold OpenRow.partSaid
  rw [said1, Bool.true_and]
  decide +kernel
theorem said3 : PySem.Challenge.rw_xj0017_01.row.wellSaid = true := by
  unfold OpenRow.wellSaid
  rw [said2, Bool.true_and]
  decide +kernel
theorem said : PySem.Challenge.rw_xj0017_01.wellSaid = true := by
  unfold OpenLaw.wellSaid
  rw [said3, Bool.true_and]
  simp only [Bool.and_eq_true]
  refine ⟨⟨⟨⟨⟨⟨⟨⟨⟨⟨⟨⟨⟨⟨⟨⟨⟨?_, ?_⟩, ?_⟩, ?_⟩, ?_⟩, ?_⟩, ?_⟩, ?_⟩, ?_⟩, ?_⟩, ?_⟩, ?_⟩, ?_⟩, ?_⟩, ?_⟩, ?_⟩, ?_⟩, ?_⟩ <;> ((try rw [PySem.W.Fast.te8326940854005059898]); (try rw [PySem.W.Fast.te17119622794617984870]); (try rw [PySem.W.Fast.te8377067652309620493]); (try rw [PySem.W.Fast.te8179353310426384613]); (try rw [PySem.W.Fast.te16286561074155671207]); decide +kernel)
/- the head by hand: the kit's own head lays twins of this file's own definitions, some 14 MB, into the compiled file;
   here only the library's twins (te..: a definition is its quick twin) are rewritten with -/
local macro_rules | `(tactic| o_law) => `(tactic| refine holds_law said fun said => ?_)
local macro_rules | `(tactic| o_head $H) => `(tactic| refine holds_open (q := view) (loose := []) (Xt := fun s => xlAt view [] s && recOk (RowW.records PySem.Challenge.rw_xj0017_01.row.toRowW) s) (XP := XL view []) (Yf := Hook.obs $H) (Ya := Hook.val $H) (YP := Hook.says $H) (N := 2400) ?hl (Hook.of $H) (Hook.keeps $H) (fun s e => xl_of s (Bool.and_eq_true_iff.mp e).1) XL.keeps (by rfl) (by rfl) (by rfl) (fun s e => recFacts_of (Bool.and_eq_true_iff.mp e).2) (by rfl) (by assumption) (by decide +kernel) ⟨rfl, rfl, rfl, rfl, rfl, by decide +kernel⟩ ?hw ?hc)
noncomputable def hd : (T : Prop) ×' (T → PySem.Challenge.rw_xj0017_01.Holds) := by
  refine ⟨?T, fun walk => ?_⟩
  rotate_left
  · w_on
    o_law
    k_head
    case hl =>
      intro w
      unfold openEnds fencedOpening topFrom
      rw [PySem.W.Fast.te14364793385576792824, PySem.W.Fast.te14082659384304107361, PySem.W.Fast.te10274390034422433532, PySem.W.Fast.te14289696077712309145, PySem.W.Fast.te1435165496053646825, PySem.W.Fast.te4187177175401517315]
      kernel_rfl
    case hw => w_witness2
    exact walk
end Mine
end

section
open PySem PySem.W PyProof.Rows
namespace Mine
/-- what a call of the function at f does, in any def's frame -/
def CallTo (w : World) (f : Addr) (news : List (Addr × Obj)) (vs : List Value) (d u : Nat)
    (Ret : Heap → Addr → (Str → Option Value) → Shared → (Value → Shared → Prop) → Prop) : Prop :=
  ∀ (p : Program) (loose : List Str) (mean : ExcName → Option Value) (mg mb : Str → Option Value) (dp un : Nat) (gd : Option (List Code)) (cn : Str) (cs : Scope) (a : Addr) (ccd : Value) (cl : List (Str × Addr)) (outer : List Env) (A₀ : Around) (base h₀ : Heap) (L : Addr) (m : Str → Option Value) (s : Shared) (Q E : Value → Shared → Prop),
    Below A₀ base outer h₀ → Fr h₀ L s.heap m → (hd.heap_1 w.params).In h₀ → News h₀ L s.heap news → Top p loose mean mg mb h₀ → cs.kind = .function → dp + d < recursionLimit → un + u < cLine → Ret h₀ L m s Q →
    wpAny (model PySem.Challenge.rw_xj0017_01.row.prog w) (ktrTop dp un gd cn cs L a ccd cl outer) (call (.ref f) vs) Q E s

/-- an int comes back -/
def RetI (news : List (Addr × Obj)) (x : Int) (h₀ : Heap) (L : Addr) (m : Str → Option Value) (s : Shared) (Q : Value → Shared → Prop) : Prop :=
  ∀ (t : Tok) (h' : Heap) (tk' : Nat), Fr h₀ L h' m → News h₀ L h' news → Q (.int x t) { s with heap := h', toks := tk' }
/-- a new pair of ints comes back -/
def RetP (news : List (Addr × Obj)) (x y : Int) (h₀ : Heap) (L : Addr) (m : Str → Option Value) (s : Shared) (Q : Value → Shared → Prop) : Prop :=
  ∀ (D : Addr) (t1 t2 : Tok) (c : Nat) (h' : Heap) (tk' : Nat), Fr h₀ L h' m → News h₀ L h' ((D, ({ cls := .type "tuple", data := .seq #[.int x t1, .int y t2] c } : Obj)) :: news) → (∀ p ∈ news, p.1 < D) → Q (.ref D) { s with heap := h', toks := tk' }
end Mine
end

section
open PySem PySem.W PyProof.Rows
set_option Elab.async false
set_option maxRecDepth 100000
set_option maxHeartbeats 8000000
namespace Mine
theorem CallTo.use {w : World} {f : Addr} {news : List (Addr × Obj)} {vs : List Value} {d u : Nat} {Ret : Heap → Addr → (Str → Option Value) → Shared → (Value → Shared → Prop) → Prop}
    {p : Program} {loose : List Str} {mean : ExcName → Option Value} {mg mb : Str → Option Value} {dp un : Nat} {gd : Option (List Code)} {cn : Str} {cs : Scope} {a : Addr} {ccd : Value} {cl : List (Str × Addr)} {outer : List Env} {A₀ : Around} {base h₀ : Heap} {L : Addr} {m : Str → Option Value} {s : Shared} {Q E : Value → Shared → Prop}
    (B : Below A₀ base outer h₀) (F : Fr h₀ L s.heap m) (X : (hd.heap_1 w.params).In h₀) (N : News h₀ L s.heap news) (T : Top p loose mean mg mb h₀) (hk : cs.kind = .function) (C : CallTo w f news vs d u Ret) (hd : dp + d < recursionLimit) (hu : un + u < cLine) (hR : Ret h₀ L m s Q) :
    wpAny (model PySem.Challenge.rw_xj0017_01.row.prog w) (ktrTop dp un gd cn cs L a ccd cl outer) (call (.ref f) vs) Q E s := C _ _ _ _ _ _ _ _ _ _ _ _ _ _ _ _ _ _ _ _ _ _ B F X N T hk hd hu hR

/-- a size in bits -/
def Bd (k : Nat) (a : Int) : Prop := a.natAbs < 2 ^ k
theorem Bd.mono {j k : Nat} {a : Int} (h : Bd j a) (hk : j ≤ k) : Bd k a := Nat.lt_of_lt_of_le h (Nat.pow_le_pow_right (by decide) hk)
theorem Bd.add {j k : Nat} {a b : Int} (ha : Bd j a) (hb : Bd k b) : Bd (max j k + 1) (a + b) := by
  have h1 := Bd.mono ha (Nat.le_max_left j k)
  have h2 := Bd.mono hb (Nat.le_max_right j k)
  unfold Bd at *
  rw [Nat.pow_succ]
  omega
theorem Bd.sub {j k : Nat} {a b : Int} (ha : Bd j a) (hb : Bd k b) : Bd (max j k + 1) (a - b) := by
  have h1 := Bd.mono ha (Nat.le_max_left j k)
  have h2 := Bd.mono hb (Nat.le_max_right j k)
  unfold Bd at *
  rw [Nat.pow_succ]
  omega
theorem Bd.mul {j k : Nat} {a b : Int} (ha : Bd j a) (hb : Bd k b) : Bd (j + k) (a * b) := by
  unfold Bd at *
  rw [Int.natAbs_mul, Nat.pow_add]
  exact Nat.mul_lt_mul'' ha hb
theorem Bd.bits {j : Nat} {a : Int} (h : Bd j a) : Builtin.Int.intBits a ≤ j := by
  unfold Builtin.Int.intBits
  by_cases ha : a = 0
  · simp [ha]
  · have : (a == 0) = false := by simpa using ha
    rw [this]
    have h0 : a.natAbs ≠ 0 := by omega
    have := (Nat.log2_lt h0).mpr h
    simp only [Bool.false_eq_true, if_false]
    omega
theorem bitsLine_is : bitsLine = 134217728 := by decide
theorem Bd.mulOk {j k : Nat} {a b : Int} (ha : Bd j a) (hb : Bd k b) (h : j + k ≤ 100000) : IntMulOk a b := by
  unfold IntMulOk Builtin.Int.intTooBig
  have h1 := ha.bits
  have h2 := hb.bits
  intro q
  simp only [Bool.and_eq_true, decide_eq_true_eq] at q
  have := q.2
  rw [bitsLine_is] at this
  omega

theorem bitsLine_def : bitsLine = 2 ^ 27 := rfl
section
variable {prog : Program} {w : World} {A : Around} {E : Value → Shared → Prop} {s : Shared} {a b n : Int} {t u : Tok} {Q : Value → Shared → Prop}
theorem lshift_bd {j : Nat} (hn : 0 ≤ n) (hn2 : n ≤ 1000) (ha : Bd j a) (hj : j ≤ 10000) (h : Q (.int (a * 2 ^ n.toNat) s.toks) { s with toks := s.toks + 1 }) :
    wpAny (model prog w) A (binaryOp .LShift (.int a t) (.int n u)) Q E s :=
  lshift_int hn (by have := ha.bits; omega) h
theorem mul_bd {j k : Nat} (ha : Bd j a) (hb : Bd k b) (hj : j + k ≤ 100000) (h : Q (.int (a * b) s.toks) { s with toks := s.toks + 1 }) :
    wpAny (model prog w) A (binaryOp .Mult (.int a t) (.int b u)) Q E s :=
  PyProof.Rows.mul_int h (ha.mulOk hb hj)
end
theorem Bd.pow {n : Int} (_h0 : 0 ≤ n) (hn : n ≤ 64) : Bd 65 (2 ^ n.toNat) := by
  unfold Bd
  have : n.toNat ≤ 64 := by omega
  have h1 : (2:Nat) ^ n.toNat ≤ 2 ^ 64 := Nat.pow_le_pow_right (by decide) this
  have : ((2:Int) ^ n.toNat).natAbs = 2 ^ n.toNat := by rw [Int.natAbs_pow]; rfl
  rw [this]
  omega
theorem Bd.lit {k : Nat} {a : Int} (h : decide (a.natAbs < 2 ^ k) = true) : Bd k a := by unfold Bd; exact of_decide_eq_true h
theorem Bd.of_lt {k : Nat} {a b : Int} (h0 : 0 ≤ a) (h : a ≤ b) (hb : Bd k b) : Bd k a := by unfold Bd at *; omega

theorem Bd.fdiv {k : Nat} {a b : Int} (h : Bd k a) : Bd k (a.fdiv b) := Nat.lt_of_le_of_lt (natAbs_fdiv_le a b) h
theorem Bd.fmod {j k : Nat} {a b : Int} (h : Bd j a) (h' : Bd k b) : Bd (max j k) (a.fmod b) := by
  by_cases hb : b = 0
  · rw [hb, Int.fmod_zero]; exact h.mono (Nat.le_max_left _ _)
  · exact Bd.mono (Nat.lt_of_le_of_lt (natAbs_fmod_le a b hb) h') (Nat.le_max_right _ _)
theorem bitOr_low {x y : Int} {k : Nat} (hx : 0 ≤ x) (hy : 0 ≤ y) (hy2 : y < 2 ^ k) : Builtin.bitOr (x * 2 ^ k) y = x * 2 ^ k + y := by
  obtain ⟨a, rfl⟩ := Int.eq_ofNat_of_zero_le hx
  obtain ⟨c, rfl⟩ := Int.eq_ofNat_of_zero_le hy
  have hc : c < 2 ^ k := by
    have : ((c : Nat) : Int) < ((2 ^ k : Nat) : Int) := by rw [kbt_cast]; exact hy2
    omega
  have e1 : (a : Int) * 2 ^ k = ((a * 2 ^ k : Nat) : Int) := by rw [← kbt_cast]; simp
  have e : ∀ m n : Nat, Builtin.bitOr (m : Int) (n : Int) = ((m ||| n : Nat) : Int) := by
    intro m n
    unfold Builtin.bitOr Builtin.bitAnd Builtin.bitNot
    have h1 : decide ((0:Int) ≤ -(m : Int) - 1) = false := by simp; omega
    have h2 : decide ((0:Int) ≤ -(n : Int) - 1) = false := by simp; omega
    rw [h1, h2]
    have h3 : (-(-(m : Int) - 1) - 1).toNat = m := by omega
    have h4 : (-(-(n : Int) - 1) - 1).toNat = n := by omega
    dsimp only
    rw [h3, h4]
    omega
  rw [e1, e]
  have := Nat.two_pow_add_eq_or_of_lt hc a
  rw [Nat.mul_comm a, ← this]
  simp
theorem Bd.log {k : Nat} {a : Int} (h : Bd k a) (hk : k ≤ 8000) : a.natAbs.log2 < 9000 := by
  by_cases h0 : a.natAbs = 0
  · rw [h0]; decide
  · have := (Nat.log2_lt h0).mpr h
    omega
theorem news_lt {h₀ h : Heap} {L : Addr} {news : List (Addr × Obj)} (N : News h₀ L h news) : ∀ p ∈ news, p.1 < h.objs.size := fun p hp => Heap.lt_size (N p hp).1
theorem news_sub {h₀ h : Heap} {L : Addr} {news news' : List (Addr × Obj)} (N : News h₀ L h news') (hs : news ⊆ news') : News h₀ L h news := fun p hp => N p (hs hp)
theorem divmod_A {prog : Program} {w : World} {A : Around} {E : Value → Shared → Prop} {s : Shared} {a b : Int} {t u : Tok} {Q : Value → Shared → Prop} {h₀ : Heap} {L : Addr} {m : Str → Option Value} {news : List (Addr × Obj)} (F : Fr h₀ L s.heap m) (N : News h₀ L s.heap news) (hb : b ≠ 0) (hl : b.natAbs.log2 < 9000)
    (h : ∀ D h' t1 t2 c, Fr h₀ L h' m → News h₀ L h' ((D, { cls := .type "tuple", data := .seq #[.int (a.fdiv b) t1, .int (a.fmod b) t2] c }) :: news) → (∀ p ∈ news, p.1 < D) →
      Q (.ref D) { s with toks := s.toks + 1 + 1, heap := h' }) :
    wpAny (model prog w) A (call (.builtin "divmod") [.int a t, .int b u]) Q E s :=
  divmod_N F N hb (fun h' F' N' => h _ h' _ _ _ F' N' (news_lt N)) (Or.inl (PyProof.noPylong_of_log2 hl))
end Mine
namespace Mine
/-- entering a def with nothing of the caller's in hand: the ledger begins anew -/
theorem code_defI {prog : Program} {w : World} {A A₀ : Around} {s : Shared} {K : Frag} {L : Addr} {h₀ base : Heap} {m mg mb : Str → Option Value} {p : Program} {loose : List Str} {mean : ExcName → Option Value} {env : Env} {outer : List Env} {R : Result → Shared → Prop} {name qual : Str} {params : Arguments} {body : List Stmt} {scope : Scope} {dV kV doc pm cdv ct oc : Value} {an od : Option Addr} {osl : Array (Option Value)} {f : Addr} {args : Args} {binds : List (Str × Value)}
    (B : Below A₀ base outer h₀) (F : Fr h₀ L s.heap m) (X₀ : K.In h₀) (T : Top p loose mean mg mb h₀) (hA : A.frames = some (env :: outer)) (hf : env.frame = some L) (hke : env.scope.kind = .function)
    (ho : K.lookup f = some ⟨oc, od, .func (fnOf name qual params body scope dV kV doc pm an cdv ct), osl⟩) (hcd : codeIn K cdv qual = true) (hroom : A.depth < recursionLimit)
    (hbind : BindsTo s (fnOf name qual params body scope dV kV doc pm an cdv ct) args binds) (hloc : ∀ y ∈ binds, scope.names.lookup y.1 = some .local)
    (h : ∀ g L' h₁, s.heap.StaysIn g → Fr h₀ L g m → Fr g L' h₁ (fun y => binds.reverse.lookup y) → News g L' h₁ [] → Below A base (env :: outer) g → K.In g → Top p loose mean mg mb g →
      wpAny (model prog w) (A.deeper (envOf qual scope L' f cdv)) (execs body (envOf qual scope L' f cdv))
        (fun fl s' => LeaveK h₀ L m g R (match fl with | .ret v => v | _ => .none) s')
        (fun e s' => wpAny (model prog w) (A.deeper (envOf qual scope L' f cdv)) (leaving (envOf qual scope L' f cdv) e) (fun _ s'' => R (.error e) s'') (fun e' s'' => R (.error e') s'') s')
        { s with heap := h₁, toks := s.toks + binds.length })
    (hco : scope.isCoroutine = false) (hgen : scope.isGenerator = false) (hk : scope.kind = .function)
    (hcell : ∀ x ∈ scope.names, x.2 ≠ .cell) : codeAny (model prog w) A (.call (.ref f) args) R s := by
  have N0 : News h₀ L s.heap [] := fun _ hp => nomatch hp
  obtain ⟨FG, BG, st, lv⟩ := groundX (R := R) B F N0 hA hf hke
  refine codeAny_call_def (fd := fnOf name qual params body scope dV kV doc pm an cdv ct) (body := body) (binds := binds) hroom ((X₀.keeps F.keep) _ _ ho) rfl (T.nolimit.keeps F.keep) (codeRec_of (X₀.keeps F.keep) hcd) rfl hbind hcell hloc (fun h₁ hns hk₁ => ?_) hco hgen hk
  have W := h _ s.heap.objs.size h₁ (fun b o e => hideAll_get [] e (fun q => nomatch q)) FG ⟨hns, fun b o e => hk₁ b o (of_hideAll _ e), Nat.le_of_eq (hideAll_size _ _)⟩ (fun _ hp => nomatch hp) BG (X₀.keeps st) (T.keeps st)
  exact wpAny_mono W (fun fl s' hl => lv _ _ hl) fun _ _ y => y
theorem iso_news {h₀ h g h' : Heap} {L L' : Addr} {m' : Str → Option Value} {news : List (Addr × Obj)} (N : News h₀ L h news) (KG : h.StaysIn g) (F' : Fr g L' h' m') : News h₀ L h' news :=
  fun p hp => ⟨F'.keep _ _ (KG _ _ (N p hp).1), (N p hp).2⟩
end Mine
end

section
theorem Mine.topOffM4 : True := by
  w_top off
  trivial
open PySem PySem.W PyProof.Rows
set_option Elab.async false
set_option maxRecDepth 100000
set_option maxHeartbeats 8000000
namespace Mine
local macro_rules | `(tactic| walk_at "call builtin:divmod") => `(tactic| (refine divmod_A (by assumption) (by assumption) (by assumption) (by assumption) ?_; intro _ _ _ _ _ _ _ l1; (try k_lt l1)))
theorem div2 (w : World) (news : List (Addr × Obj)) (a b n : Int) (t1 t2 t3 : Tok) (hb : b ≠ 0) (hn : 0 ≤ n) (ha : Bd 4000 a) (hbb : Bd 4000 b) :
   CallTo w 21 news [.int a t1, .int b t2, .int n t3] 10 100 (RetP news (a.fdiv b) (a.fmod b)) := by
  unfold CallTo
  k_fill
  intro p loose mean mg mb dp un gd cn cs a ccd cl outer A₀ base h₀ L m s Q E B F X N T hk hd hu hret
  have hab := ha.bits
  have hbl := hbb.log (by decide)
  refine wpAny_call ?_
  k_dflt cell_enter
  k_steps
  all_goals (refine' hret _ _ _ _ _ _ ?eF ?eN ?eL; (case eF => k_asm); (case eN => (refine' news_sub ?eA ?eB; (case eA => k_asm); (case eB => (repeat first | exact List.Subset.refl _ | refine' List.cons_subset_cons _ ?_ | refine' List.subset_cons_of_subset _ ?_)))); (case eL => first | assumption | exact ktn_ltOf (by assumption)))
end Mine
end

section
theorem Mine.topOffM5 : True := by
  w_top off
  trivial
open PySem PySem.W PyProof.Rows
set_option Elab.async false
set_option maxRecDepth 100000
set_option maxHeartbeats 8000000
namespace Mine
set_option linter.all false
local macro_rules | `(tactic| walk_at "binaryOp LShift int int") => `(tactic| k_dflt (refine' PyProof.Rows.lshift_int ?a ?b ?_; (case a => omega); (case b => assumption)))
local macro_rules | `(tactic| walk_at "binaryOp Mult int int") => `(tactic| k_dflt (refine' PyProof.Rows.mul_int ?_ ?a; (case a => assumption)))
local macro_rules | `(tactic| walk_at "mine pair") => `(tactic| (intro D t1 t2 c h' tk' F' N' l1; (try k_lt l1); (try dsimp only); (try k_sweep); (try k_fold)))
local macro_rules | `(tactic| walk_at "mine call") => `(tactic| (
  (case k1 => k_asm); (case k2 => k_asm); (case k3 => k_asm); (case k4 => k_asm); (case k5 => k_asm); (case kK => first | exact rfl | assumption); (case kd => ktr_room); (case ku => ktr_units)))
local macro_rules | `(tactic| walk_at "call ref") => `(tactic| (k_here; k_dflt (refine' CallTo.use ?k1 ?k2 ?k3 ?k4 ?k5 ?kK (div2 _ _ _ _ _ _ _ _ ?s1 ?s2 ?s3 ?s4) ?kd ?ku ?_; walk_at "mine call"; (case s1 => omega); (case s2 => omega); (case s3 => assumption); (case s4 => assumption); walk_at "mine pair")))
theorem wh_turn {b q r c : Int} (h1 : r < b) (h2 : q * b + r = c) (hr : r < 0) : r + b < b ∧ (q - 1) * b + (r + b) = c := by
  rw [Int.sub_mul, Int.one_mul]
  omega
theorem wh_meas {b r : Int} (hb : 0 < b) (hr : r < 0) : (-(r + b)).toNat < (-r).toNat := by omega
theorem wh_end {b q r c : Int} (h1 : r < b) (h2 : q * b + r = c) (hr : ¬ r < 0) : q = c / b ∧ r = c % b := by
  have := kbt_unique (a := c) (b := b) (q := q) (r := r) (by omega) (by rw [Int.mul_comm]; omega) (by omega) h1
  exact ⟨this.1.symm, this.2.symm⟩
theorem start1 {a12 a3 b b1 b2 : Int} {k : Nat} (hb1 : 0 < b1) (hb20 : 0 ≤ b2) (hb : b = b1 * 2 ^ k + b2) (ha30 : 0 ≤ a3) (ha3 : a3 < 2 ^ k) (ha : a12 * 2 ^ k + a3 < b * 2 ^ k) (h : a12.fdiv (2 ^ k) = b1) :
    Builtin.bitOr ((a12 - b1 * 2 ^ k + b1) * 2 ^ k) a3 - (1 * 2 ^ k - 1) * b2 < b ∧ (1 * 2 ^ k - 1) * b + (Builtin.bitOr ((a12 - b1 * 2 ^ k + b1) * 2 ^ k) a3 - (1 * 2 ^ k - 1) * b2) = a12 * 2 ^ k + a3 := by
  have hw := kbt_whole a12 k
  have hr := kbt_rest a12 k
  rw [h] at hw
  rw [bitOr_low (by omega) ha30 ha3]
  have hP := kbt_pos k
  generalize (2 : Int) ^ k = P at *
  have e : (1 * P - 1) * b + ((a12 - b1 * P + b1) * P + a3 - (1 * P - 1) * b2) = a12 * P + a3 := by
    rw [hb]
    simp only [Int.sub_mul, Int.add_mul, Int.mul_add, Int.mul_sub, Int.one_mul, Int.mul_one]
    have : b1 * P * P = P * (b1 * P) := Int.mul_comm _ _
    omega
  refine ⟨?_, e⟩
  have e2 : (1 * P - 1) * b = b * P - b := by rw [Int.sub_mul, Int.one_mul, Int.one_mul, Int.mul_comm]
  omega
theorem start2 {a12 a3 b b1 b2 : Int} {k : Nat} (hb1 : 0 < b1) (hb20 : 0 ≤ b2) (hb : b = b1 * 2 ^ k + b2) (ha30 : 0 ≤ a3) (ha3 : a3 < 2 ^ k) (ha12 : 0 ≤ a12) :
    Builtin.bitOr ((a12.fmod b1) * 2 ^ k) a3 - a12.fdiv b1 * b2 < b ∧ a12.fdiv b1 * b + (Builtin.bitOr (a12.fmod b1 * 2 ^ k) a3 - a12.fdiv b1 * b2) = a12 * 2 ^ k + a3 := by
  have hr0 : 0 ≤ a12.fmod b1 := fmod_lo a12 hb1
  have hr1 : a12.fmod b1 < b1 := fmod_hi a12 hb1
  have hw : b1 * a12.fdiv b1 + a12.fmod b1 = a12 := Int.mul_fdiv_add_fmod a12 b1
  have hq0 : 0 ≤ a12.fdiv b1 := by
    rw [Int.fdiv_eq_ediv_of_nonneg _ (by omega)]; exact Int.ediv_nonneg ha12 (by omega)
  rw [bitOr_low hr0 ha30 ha3]
  have hP := kbt_pos k
  generalize (2 : Int) ^ k = P at *
  generalize a12.fdiv b1 = q at *
  generalize a12.fmod b1 = r at *
  have h1 : (r + 1) * P ≤ b1 * P := Int.mul_le_mul_of_nonneg_right (by omega) (by omega)
  have h2 : 0 ≤ q * b2 := Int.mul_nonneg hq0 hb20
  rw [Int.add_mul, Int.one_mul] at h1
  refine ⟨by omega, ?_⟩
  rw [hb, ← hw]
  simp only [Int.add_mul, Int.mul_add]
  have : q * (b1 * P) = b1 * q * P := by rw [← Int.mul_assoc, Int.mul_comm q b1]
  omega
theorem div3 (w : World) (news : List (Addr × Obj)) (a12 a3 b b1 b2 n : Int) (t1 t2 t3 t4 t5 t6 : Tok)
   (hn : 1 ≤ n) (hn2 : n ≤ 64) (hb1 : 0 < b1) (hb1u : b1 < 2 ^ n.toNat) (hb20 : 0 ≤ b2) (hb2 : b2 < 2 ^ n.toNat) (hb : b = b1 * 2 ^ n.toNat + b2) (ha30 : 0 ≤ a3) (ha3 : a3 < 2 ^ n.toNat) (ha12 : 0 ≤ a12) (ha : a12 * 2 ^ n.toNat + a3 < b * 2 ^ n.toNat) :
   CallTo w 28 news [.int a12 t1, .int a3 t2, .int b t3, .int b1 t4, .int b2 t5, .int n t6] 20 200 (RetP news ((a12 * 2 ^ n.toNat + a3) / b) ((a12 * 2 ^ n.toNat + a3) % b)) := by
  have hP : Bd 65 (2 ^ n.toNat) := Bd.pow (by omega) hn2
  have hB1 : Bd 4000 b1 := (hP.of_lt (by omega) (by omega)).mono (by decide)
  have hB2 : Bd 65 b2 := (hP.of_lt (by omega) (by omega))
  have hBb : Bd 4000 b := by rw [hb]; exact (((hP.of_lt (by omega) (by omega)).mul hP).add hB2).mono (by decide)
  have hbp : 0 < b := by
    have := Int.mul_pos hb1 (kbt_pos n.toNat)
    omega
  have hlt : a12 < b := by
    have := kbt_pos n.toNat
    refine Int.lt_of_mul_lt_mul_right (a := 2 ^ n.toNat) (by omega) (by omega)
  have hBa : Bd 4000 a12 := hBb.of_lt ha12 (by omega)
  have one : Bd 2 1 := Bd.lit (by decide)
  have s1 : (Builtin.Int.intBits 1 : Int) + n ≤ 2 ^ 27 := by have := one.bits; omega
  have s2 : (Builtin.Int.intBits b1 : Int) + n ≤ 2 ^ 27 := by have := hB1.bits; omega
  have s3 : (Builtin.Int.intBits (a12 - b1 * 2 ^ n.toNat + b1) : Int) + n ≤ 2 ^ 27 := by have := ((hBa.sub (hB1.mul hP)).add hB1).bits; omega
  have s4 : (Builtin.Int.intBits (a12.fmod b1) : Int) + n ≤ 2 ^ 27 := by have := (hBa.fmod hB1).bits; omega
  have m1 : IntMulOk (1 * 2 ^ n.toNat - 1) b2 := ((one.mul hP).sub one).mulOk hB2 (by decide)
  have m2 : IntMulOk (a12.fdiv b1) b2 := (hBa.fdiv (b := b1)).mulOk hB2 (by decide)
  unfold CallTo
  k_fill
  intro p loose mean mg mb dp un gd cn cs a ccd cl outer A₀ base h₀ L m s Q E B F X N T hk hd hu hret
  k_with "state" => first | exact start1 hb1 hb20 hb ha30 ha3 ha (by assumption) | exact start2 hb1 hb20 hb ha30 ha3 ha12 | exact wh_turn (by assumption) (by assumption) (by first | assumption | omega)
  k_with "measure" => first | exact wh_meas hbp (by first | assumption | omega)
  k_with "exec While Compare cons nil" => k_while (fun script q r => r < b ∧ q * b + r = a12 * 2 ^ n.toNat + a3) (fun script q r => (-r).toNat) "q" "r"
  refine wpAny_call ?_
  k_dflt cell_enter
  k_steps
  all_goals (have he := wh_end (by assumption) (by assumption) (by assumption))
  all_goals (rw [← he.1, ← he.2] at hret)
  all_goals (refine' hret _ _ _ _ _ _ ?eF ?eN ?eL; (case eF => k_asm); (case eN => (refine' news_sub ?eA ?eB; (case eA => k_asm); (case eB => (repeat first | exact List.Subset.refl _ | refine' List.cons_subset_cons _ ?_ | refine' List.subset_cons_of_subset _ ?_)))); (case eL => first | assumption | exact ktn_ltOf (by assumption) | exact ktn_ltOf (And.right (by assumption))))
end Mine
end

section
open PySem PySem.W PyProof.Rows
set_option Elab.async false
set_option maxRecDepth 100000
set_option maxHeartbeats 8000000
namespace Mine
set_option linter.all false
/-- a number of twice h places -/
structure Nor (P h : Int) : Prop where
  lo : 7 ≤ h
  hi : h ≤ 64
  ge : (2:Int) ^ (2 * h.toNat - 1) ≤ P
  lt : P < (2:Int) ^ (2 * h.toNat)
theorem bits_bounds {P : Int} (h : 0 < P) : (2:Int) ^ (Builtin.Int.intBits P - 1) ≤ P ∧ P < (2:Int) ^ Builtin.Int.intBits P ∧ 0 < Builtin.Int.intBits P := by
  have e : Builtin.Int.intBits P = P.natAbs.log2 + 1 := by
    unfold Builtin.Int.intBits
    have : (P == 0) = false := by simp; omega
    rw [this]; rfl
  rw [e]
  have h0 : P.natAbs ≠ 0 := by omega
  have h1 := Nat.log2_self_le h0
  have h2 := @Nat.lt_log2_self P.natAbs
  have e1 : ((P.natAbs : Nat) : Int) = P := by omega
  refine ⟨?_, ?_, by omega⟩
  · rw [Nat.add_sub_cancel, ← kbt_cast]; omega
  · rw [← kbt_cast]; omega
theorem bits_uniq {P : Int} {k : Nat} (hk : 0 < k) (h1 : (2:Int) ^ (k - 1) ≤ P) (h2 : P < (2:Int) ^ k) : Builtin.Int.intBits P = k := by
  have hp : 0 < P := Int.lt_of_lt_of_le (kbt_pos _) h1
  obtain ⟨h3, h4, h5⟩ := bits_bounds hp
  have a1 : (2:Int) ^ (k - 1) < (2:Int) ^ Builtin.Int.intBits P := by omega
  have a2 : (2:Int) ^ (Builtin.Int.intBits P - 1) < (2:Int) ^ k := by omega
  rw [← kbt_cast, ← kbt_cast] at a1 a2
  have b1 := (Nat.pow_lt_pow_iff_right (a := 2) (by decide)).mp (Int.ofNat_lt.mp a1)
  have b2 := (Nat.pow_lt_pow_iff_right (a := 2) (by decide)).mp (Int.ofNat_lt.mp a2)
  omega
theorem bits_dbl {P : Int} (h : 0 < P) : Builtin.Int.intBits (2 * P) = Builtin.Int.intBits P + 1 := by
  obtain ⟨h3, h4, h5⟩ := bits_bounds h
  refine bits_uniq (by omega) ?_ ?_
  · have : Builtin.Int.intBits P + 1 - 1 = (Builtin.Int.intBits P - 1) + 1 := by omega
    rw [this, Int.pow_succ]; omega
  · rw [Int.pow_succ]; omega
theorem bits_le {P : Int} {k : Nat} (h0 : 0 < P) (h : P < (2:Int) ^ k) : Builtin.Int.intBits P ≤ k := by
  refine Bd.bits ?_
  unfold Bd
  rw [← kbt_cast] at h
  omega
theorem bits_ge {P : Int} {k : Nat} (h : (2:Int) ^ k ≤ P) : k < Builtin.Int.intBits P := by
  have hp : 0 < P := Int.lt_of_lt_of_le (kbt_pos _) h
  obtain ⟨h3, h4, h5⟩ := bits_bounds hp
  have a1 : (2:Int) ^ k < (2:Int) ^ Builtin.Int.intBits P := by omega
  rw [← kbt_cast, ← kbt_cast] at a1
  exact (Nat.pow_lt_pow_iff_right (a := 2) (by decide)).mp (Int.ofNat_lt.mp a1)
theorem nor_of {P : Int} (h1 : (2:Int) ^ 12 ≤ P) (h2 : P < (2:Int) ^ 121) (h3 : ((Builtin.Int.intBits P : Nat) : Int).fmod 2 = 0) : Nor P (((Builtin.Int.intBits P : Nat) : Int).fdiv 2) := by
  have g1 := bits_ge h1
  have hp : 0 < P := Int.lt_of_lt_of_le (kbt_pos _) h1
  have g2 := bits_le hp h2
  obtain ⟨b1, b2, b3⟩ := bits_bounds hp
  generalize Builtin.Int.intBits P = k at *
  have e3 : (k : Int) % 2 = 0 := by rw [← h3, Int.fmod_eq_emod_of_nonneg _ (by decide)]
  have e : ((k : Nat) : Int).fdiv 2 = ((k / 2 : Nat) : Int) := by rw [Int.fdiv_eq_ediv_of_nonneg _ (by decide)]; rfl
  have e2 : 2 * (((k : Nat) : Int).fdiv 2).toNat = k := by rw [e]; omega
  refine ⟨by rw [e]; omega, by rw [e]; omega, ?_, ?_⟩
  · rw [e2]; exact b1
  · rw [e2]; exact b2
theorem nor_even {P : Int} (h1 : 4096 ≤ P) (h2 : P < (2:Int) ^ 120) (h3 : ¬ ((Builtin.Int.intBits P : Nat) : Int).fmod 2 = 1) : Nor P (((Builtin.Int.intBits P : Nat) : Int).fdiv 2) := by
  refine nor_of (by omega) (by omega) ?_
  have := fmod_lo (Builtin.Int.intBits P : Int) (n := 2) (by decide)
  have := fmod_hi (Builtin.Int.intBits P : Int) (n := 2) (by decide)
  omega
theorem nor_odd {P : Int} (h1 : 4096 ≤ P) (h2 : P < (2:Int) ^ 120) (h3 : ((Builtin.Int.intBits P : Nat) : Int).fmod 2 = 1) : Nor (2 * P) (((Builtin.Int.intBits (2 * P) : Nat) : Int).fdiv 2) := by
  refine nor_of (by omega) (by omega) ?_
  rw [bits_dbl (by omega)]
  rw [Int.fmod_eq_emod_of_nonneg _ (by decide)] at h3 ⊢
  omega
section
variable {P h : Int} (N : Nor P h)
include N
theorem Nor.pos : 0 < P := Int.lt_of_lt_of_le (kbt_pos _) N.ge
theorem Nor.big : 128 ≤ (2:Int) ^ h.toNat := by
  have h1 := N.lo
  have : (2:Int) ^ 7 ≤ (2:Int) ^ h.toNat := by rw [← kbt_cast, ← kbt_cast]; exact Int.ofNat_le.mpr (Nat.pow_le_pow_right (by decide) (by omega))
  omega
theorem Nor.b1 : 0 < P.fdiv (2 ^ h.toNat) ∧ P.fdiv (2 ^ h.toNat) < 2 ^ h.toNat := by
  have h1 := N.lo
  have h2 := N.ge
  have h3 := N.lt
  have hw := kbt_whole P h.toNat
  have hr := kbt_rest P h.toNat
  have e1 : 2 * h.toNat = h.toNat + h.toNat := by omega
  have e2 : 2 * h.toNat - 1 = h.toNat + (h.toNat - 1) := by omega
  have hb := N.big
  rw [e1, Int.pow_add] at h3
  rw [e2, Int.pow_add] at h2
  have hq : (1:Int) ≤ 2 ^ (h.toNat - 1) := kbt_pos _
  have h4 : (2:Int) ^ h.toNat * 1 ≤ 2 ^ h.toNat * 2 ^ (h.toNat - 1) := Int.mul_le_mul_of_nonneg_left hq (by omega)
  generalize P.fdiv (2 ^ h.toNat) = q at *
  generalize P.fmod (2 ^ h.toNat) = r at *
  generalize (2:Int) ^ h.toNat = T at *
  constructor
  · refine Int.lt_of_not_ge fun hn => ?_
    have := Int.mul_le_mul_of_nonneg_right (c := T) hn (by omega)
    omega
  · refine Int.lt_of_not_ge fun hn => ?_
    have := Int.mul_le_mul_of_nonneg_right (c := T) hn (by omega)
    omega
end
end Mine
end

section
open PySem PySem.W PyProof.Rows
set_option Elab.async false
set_option maxRecDepth 100000
set_option maxHeartbeats 8000000
namespace Mine
set_option linter.all false
theorem div3k (w : World) (news : List (Addr × Obj)) (P less h : Int) (t1 t2 t3 t4 t5 t6 : Tok) (N : Nor P h) (h0 : 0 ≤ less) (h1 : less < 2 ^ h.toNat * P) {q r : Int} (hq : less / P = q) (hr : less % P = r) :
    CallTo w 28 news [.int (less.fdiv (2 ^ h.toNat)) t1, .int (Builtin.bitAnd less (2 ^ h.toNat - 1)) t2, .int P t3, .int (P.fdiv (2 ^ h.toNat)) t4, .int (Builtin.bitAnd P (2 ^ h.toNat - 1)) t5, .int h t6] 20 200
      (RetP news q r) := by
  have hw := kbt_whole less h.toNat
  have hwP := kbt_whole P h.toNat
  have hrP := kbt_rest P h.toNat
  have hrl := kbt_rest less h.toNat
  have hq0 : 0 ≤ less.fdiv (2 ^ h.toNat) := by
    rw [Int.fdiv_eq_ediv_of_nonneg _ (by have := kbt_pos h.toNat; omega)]; exact Int.ediv_nonneg h0 (by have := kbt_pos h.toNat; omega)
  rw [kbt_maskF, kbt_maskF]
  have D := div3 w news (less.fdiv (2 ^ h.toNat)) (less.fmod (2 ^ h.toNat)) P (P.fdiv (2 ^ h.toNat)) (P.fmod (2 ^ h.toNat)) h t1 t2 t3 t4 t5 t6 (by have := N.lo; omega) N.hi N.b1.1 N.b1.2 hrP.1 hrP.2 hwP.symm hrl.1 hrl.2 hq0 (by rw [hw, Int.mul_comm P]; exact h1)
  rw [hw, hq, hr] at D
  exact D
theorem less_lt {P less h : Int} (N : Nor P h) (h1 : less < 127 * P) : less < 2 ^ h.toNat * P := by
  have := Int.mul_le_mul_of_nonneg_right (c := P) N.big (by have := N.pos; omega)
  have := N.pos
  omega
/-- any whole -/
theorem div3g (w : World) (news : List (Addr × Obj)) (P less h : Int) (t1 t2 t3 t4 t5 t6 : Tok) (N : Nor P h) (h0 : 0 ≤ less) (h1 : less < 127 * P) :
    CallTo w 28 news [.int (less.fdiv (2 ^ h.toNat)) t1, .int (Builtin.bitAnd less (2 ^ h.toNat - 1)) t2, .int P t3, .int (P.fdiv (2 ^ h.toNat)) t4, .int (Builtin.bitAnd P (2 ^ h.toNat - 1)) t5, .int h t6] 20 200
      (RetP news (less / P) (less % P)) := div3k w news P less h t1 t2 t3 t4 t5 t6 N h0 (less_lt N h1) rfl rfl
theorem one_less {P x : Int} (hP : 0 < P) (t : Int) (hx : x = t * P) : (x - 1) / P = t - 1 ∧ (x - 1) % P = P - 1 := by
  refine kbt_unique hP ?_ (by omega) (by omega)
  rw [hx, Int.mul_sub, Int.mul_comm P t]; omega
/-- one less than some times the part -/
theorem div3m (w : World) (news : List (Addr × Obj)) (P t h : Int) (t1 t2 t3 t4 t5 t6 : Tok) (N : Nor P h) (h0 : 1 ≤ t) (h1 : t ≤ 2 ^ h.toNat) :
    CallTo w 28 news [.int ((t * P - 1).fdiv (2 ^ h.toNat)) t1, .int (Builtin.bitAnd (t * P - 1) (2 ^ h.toNat - 1)) t2, .int P t3, .int (P.fdiv (2 ^ h.toNat)) t4, .int (Builtin.bitAnd P (2 ^ h.toNat - 1)) t5, .int h t6] 20 200
      (RetP news (t - 1) (P - 1)) :=
  div3k w news P (t * P - 1) h t1 t2 t3 t4 t5 t6 N (by have := Int.mul_le_mul_of_nonneg_right (c := P) h0 (by have := N.pos; omega); have := N.pos; omega)
    (by have := Int.mul_le_mul_of_nonneg_right (c := P) h1 (by have := N.pos; omega); omega) (one_less N.pos t rfl).1 (one_less N.pos t rfl).2
/-- one less than a whole that leaves nothing -/
theorem div3e (w : World) (news : List (Addr × Obj)) (P x h : Int) (t1 t2 t3 t4 t5 t6 : Tok) (N : Nor P h) (h0 : 0 < x) (h1 : x < 127 * P) (he : x % P = 0) :
    CallTo w 28 news [.int ((x - 1).fdiv (2 ^ h.toNat)) t1, .int (Builtin.bitAnd (x - 1) (2 ^ h.toNat - 1)) t2, .int P t3, .int (P.fdiv (2 ^ h.toNat)) t4, .int (Builtin.bitAnd P (2 ^ h.toNat - 1)) t5, .int h t6] 20 200
      (RetP news (x / P - 1) (P - 1)) := by
  have hx : x = x / P * P := by have := Int.mul_ediv_add_emod x P; rw [he, Int.mul_comm] at this; omega
  exact div3k w news P (x - 1) h t1 t2 t3 t4 t5 t6 N (by omega) (less_lt N (by omega)) (one_less N.pos _ hx).1 (one_less N.pos _ hx).2
end Mine
end

section
theorem Mine.topOffM8 : True := by
  w_top off
  trivial
open PySem PySem.W PyProof.Rows
set_option Elab.async false
set_option maxRecDepth 100000
set_option maxHeartbeats 8000000
namespace Mine
set_option linter.all false
local macro_rules | `(tactic| walk_at "binaryOp Mult int int") => `(tactic| k_dflt (refine' mul_bd (j := 70) (k := 130) ?a ?b ?c ?_; (case a => assumption); (case b => assumption); (case c => decide)))
local macro_rules | `(tactic| walk_at "binaryOp Pow int int") => `(tactic| k_dflt (refine' PyProof.Rows.pow_int ?a ?b ?_; (case a => omega); (case b => assumption)))
local macro_rules | `(tactic| walk_at "mine pair") => `(tactic| (intro D t1 t2 c h' tk' F' N' l1; (try k_lt l1); (try dsimp only); (try k_sweep); (try k_fold)))
local macro_rules | `(tactic| walk_at "mine call") => `(tactic| (
  (case k1 => k_asm); (case k2 => k_asm); (case k3 => k_asm); (case k4 => k_asm); (case k5 => k_asm); (case kK => first | exact rfl | assumption); (case kd => ktr_room); (case ku => ktr_units)))
local macro_rules | `(tactic| walk_at "call ref") => `(tactic| (k_here; k_dflt (first
  | (refine' CallTo.use ?k1 ?k2 ?k3 ?k4 ?k5 ?kK (div3e _ _ _ _ _ _ _ _ _ _ _ ?s1 ?s2 ?s3 ?s4) ?kd ?ku ?_; (case s4 => with_reducible assumption); (case s1 => first | exact nor_odd (by assumption) (by assumption) (by assumption) | exact nor_even (by assumption) (by assumption) (by assumption)); (case s2 => omega); (case s3 => omega); walk_at "mine call"; walk_at "mine pair")
  | (refine' CallTo.use ?k1 ?k2 ?k3 ?k4 ?k5 ?kK (div3m _ _ _ _ _ _ _ _ _ _ _ ?s1 ?s2 ?s3) ?kd ?ku ?_; (case s1 => first | exact nor_odd (by assumption) (by assumption) (by assumption) | exact nor_even (by assumption) (by assumption) (by assumption)); (case s2 => omega); (case s3 => omega); walk_at "mine call"; walk_at "mine pair")
  | (refine' CallTo.use ?k1 ?k2 ?k3 ?k4 ?k5 ?kK (div3g _ _ _ _ _ _ _ _ _ _ _ ?s1 ?s2 ?s3) ?kd ?ku ?_; (case s1 => first | exact nor_odd (by assumption) (by assumption) (by assumption) | exact nor_even (by assumption) (by assumption) (by assumption)); (case s2 => omega); (case s3 => omega); walk_at "mine call"; walk_at "mine pair"))))
local macro_rules | `(tactic| walk_at "mine enter") => `(tactic| (refine wpAny_call ?_; k_dflt (refine' code_defI ?k1 ?k2 ?k3 ?k5 ?kA ?kF ?kK ?k6 ?k7 ?k8 ?k9 ?kB ?_ ?c2 ?c3 ?c4 ?c5; (case kA => exact rfl); (case kF => exact rfl); (case kK => assumption); (case k1 => k_asm); (case k2 => k_asm); (case k3 => k_asm); (case k5 => k_asm); (case k6 => k_is); (case k7 => k_is); (case k8 => ktr_room); (case k9 => exact BindsTo.of_eq rfl); (case c5 => decide); (case kB => exact locs rfl); (case c2 => exact rfl); (case c3 => exact rfl); (case c4 => exact rfl); k_whole; intro g' L' h' KG' FG' F' N' B' X' T'; (try dsimp only); (try k_lift B'); (try k_fold))))
def fitsV (whole part : Int) : Int := if whole % part = 0 then whole / part else 0
theorem fv1 {whole part : Int} (h : whole % part ≠ 0) : 0 = fitsV whole part := by unfold fitsV; rw [if_neg h]
theorem fv2 {whole part : Int} (h : whole % part = 0) : whole / part = fitsV whole part := by unfold fitsV; rw [if_pos h]
theorem fv3 {whole part : Int} (h : 2 * whole % (2 * part) ≠ 0) : 0 = fitsV whole part := by
  rw [Int.mul_emod_mul_of_pos _ _ (by decide)] at h
  exact fv1 (by omega)
theorem fv4 {whole part : Int} (h : 2 * whole % (2 * part) = 0) : 2 * whole / (2 * part) = fitsV whole part := by
  rw [Int.mul_emod_mul_of_pos _ _ (by decide)] at h
  rw [Int.mul_ediv_mul_of_pos _ _ (by decide)]
  exact fv2 (by omega)
theorem fits (w : World) (news : List (Addr × Obj)) (whole part : Int) (t1 t2 : Tok) (h1 : 4096 ≤ part) (h2 : part < (2:Int) ^ 120) (h0 : 0 < whole) (h3 : whole < 127 * part) :
    CallTo w 128 news [.int whole t1, .int part t2] 40 400 (RetI news (fitsV whole part)) := by
  unfold CallTo
  k_fill
  intro p loose mean mg mb dp un gd cn cs a ccd cl outer A₀ base h₀ L m s Q E B F X N T hk hd hu hret
  have hh1 : 6 ≤ ((Builtin.Int.intBits part : Nat) : Int).fdiv 2 ∧ ((Builtin.Int.intBits part : Nat) : Int).fdiv 2 ≤ 64 := by
    have := bits_ge (P := part) (k := 12) (by omega)
    have := bits_le (by omega) h2
    rw [Int.fdiv_eq_ediv_of_nonneg _ (by decide)]
    omega
  have hh2 : 7 ≤ ((Builtin.Int.intBits (2 * part) : Nat) : Int).fdiv 2 ∧ ((Builtin.Int.intBits (2 * part) : Nat) : Int).fdiv 2 ≤ 64 := by
    have := bits_ge (P := 2 * part) (k := 13) (by omega)
    have := bits_le (P := 2 * part) (k := 121) (by omega) (by omega)
    rw [Int.fdiv_eq_ediv_of_nonneg _ (by decide)]
    omega
  have e2 : Builtin.Int.intBits 2 = 2 := by decide
  have hp1 : (Builtin.Int.intBits 2 : Int) * ((Builtin.Int.intBits part : Nat) : Int).fdiv 2 ≤ 2 ^ 27 := by rw [e2]; omega
  have hp2 : (Builtin.Int.intBits 2 : Int) * ((Builtin.Int.intBits (2 * part) : Nat) : Int).fdiv 2 ≤ 2 ^ 27 := by rw [e2]; omega
  have hT1 : Bd 65 (2 ^ (((Builtin.Int.intBits part : Nat) : Int).fdiv 2).toNat) := Bd.pow (by omega) (by omega)
  have hT2 : Bd 65 (2 ^ (((Builtin.Int.intBits (2 * part) : Nat) : Int).fdiv 2).toNat) := Bd.pow (by omega) (by omega)
  have one : Bd 2 1 := Bd.lit (by decide)
  have c1 : Bd 70 (2 ^ (((Builtin.Int.intBits part : Nat) : Int).fdiv 2).toNat - 1 + 1) := ((hT1.sub one).add one).mono (by decide)
  have c2 : Bd 70 (2 ^ (((Builtin.Int.intBits part : Nat) : Int).fdiv 2).toNat - 1) := (hT1.sub one).mono (by decide)
  have c3 : Bd 70 (2 ^ (((Builtin.Int.intBits part : Nat) : Int).fdiv 2).toNat - 1 - 1) := ((hT1.sub one).sub one).mono (by decide)
  have d1 : Bd 70 (2 ^ (((Builtin.Int.intBits (2 * part) : Nat) : Int).fdiv 2).toNat - 1 + 1) := ((hT2.sub one).add one).mono (by decide)
  have d2 : Bd 70 (2 ^ (((Builtin.Int.intBits (2 * part) : Nat) : Int).fdiv 2).toNat - 1) := (hT2.sub one).mono (by decide)
  have d3 : Bd 70 (2 ^ (((Builtin.Int.intBits (2 * part) : Nat) : Int).fdiv 2).toNat - 1 - 1) := ((hT2.sub one).sub one).mono (by decide)
  have p1 : Bd 130 part := by unfold Bd; omega
  have p2 : Bd 130 (2 * part) := by unfold Bd; omega
  have g1 : 64 ≤ (2 : Int) ^ (((Builtin.Int.intBits part : Nat) : Int).fdiv 2).toNat := by
    have : (2:Int) ^ 6 ≤ (2:Int) ^ (((Builtin.Int.intBits part : Nat) : Int).fdiv 2).toNat := by rw [← kbt_cast, ← kbt_cast]; exact Int.ofNat_le.mpr (Nat.pow_le_pow_right (by decide) (by omega))
    omega
  have g2 : 64 ≤ (2 : Int) ^ (((Builtin.Int.intBits (2 * part) : Nat) : Int).fdiv 2).toNat := by
    have : (2:Int) ^ 6 ≤ (2:Int) ^ (((Builtin.Int.intBits (2 * part) : Nat) : Int).fdiv 2).toNat := by rw [← kbt_cast, ← kbt_cast]; exact Int.ofNat_le.mpr (Nat.pow_le_pow_right (by decide) (by omega))
    omega
  walk_at "mine enter"
  k_steps
  all_goals (refine' cb_retI (Q := Q) hret ?e1 ?e2 ?e3; (case e2 => k_asm); (case e3 => exact iso_news N (by assumption) (by with_reducible assumption)); (case e1 => first | exact fv1 (by with_reducible assumption) | exact fv3 (by with_reducible assumption) | exact fv2 (by with_reducible assumption) | exact fv4 (by with_reducible assumption)))
end Mine
end

section
open PySem PySem.W PyProof.Rows
set_option Elab.async false
set_option maxRecDepth 100000
set_option maxHeartbeats 8000000
namespace Mine
set_option linter.all false
def ampS : List Nat := [97, 109, 112, 59]
/-- as often as n: the list -/
def times (n : Nat) (l : List Nat) : List Nat := (List.replicate n l).flatten
/-- n letters, y signs bare -/
def bare (n y c : Nat) : Str := ⟨(times n [97] ++ times y [c]).toArray⟩
/-- n letters, y signs, each behind k ampersands' tails -/
def page (n y k : Nat) (e : List Nat) : Str := ⟨(times n [97] ++ times y (38 :: (times k ampS ++ e))).toArray⟩
def swap (c : Nat) (z : List Nat) (l : List Nat) : List Nat := l.flatMap fun s => if s = c then z else [s]
theorem swap_append (c : Nat) (z a b : List Nat) : swap c z (a ++ b) = swap c z a ++ swap c z b := by unfold swap; rw [List.flatMap_append]
theorem swap_free {c : Nat} {z l : List Nat} (h : c ∉ l) : swap c z l = l := by
  induction l with
  | nil => rfl
  | cons a r ih =>
    have h1 : ¬ a = c := fun e => h (e ▸ List.mem_cons_self ..)
    have h2 : c ∉ r := fun m => h (List.mem_cons_of_mem _ m)
    show (if a = c then z else [a]) ++ swap c z r = a :: r
    rw [if_neg h1, ih h2]; rfl
theorem swap_join (c : Nat) (z : Str) : ∀ parts : List Str, (∀ p ∈ parts, c ∉ p.cps.toList) → swap c z.cps.toList (Str.join ⟨#[c]⟩ parts).cps.toList = (Str.join z parts).cps.toList
  | [], _ => rfl
  | [p], h => swap_free (h p (List.mem_singleton.mpr rfl))
  | p :: q :: r, h => by
    have ih := swap_join c z (q :: r) fun a ha => h a (List.mem_cons_of_mem _ ha)
    show swap c z.cps.toList (p ++ ⟨#[c]⟩ ++ Str.join ⟨#[c]⟩ (q :: r)).cps.toList = (p ++ z ++ Str.join z (q :: r)).cps.toList
    simp only [Str.cps_append, Array.toList_append]
    rw [swap_append, swap_append, ih, swap_free (h p (List.mem_cons_self ..))]
    have : swap c z.cps.toList [c] = z.cps.toList := by simp [swap]
    rw [this]
theorem replace_swap (x z : Str) (c : Nat) : Txt.replace x ⟨#[c]⟩ z = ⟨(swap c z.cps.toList x.cps.toList).toArray⟩ := by
  have h1 := swap_join c z (Txt.split x ⟨#[c]⟩) (fun p hp => StrLaws.split_free x c p hp)
  rw [StrLaws.join_split] at h1
  rw [StrLaws.replace_one, h1]
theorem swap_times (c : Nat) (z l : List Nat) : ∀ n, swap c z (times n l) = times n (swap c z l)
  | 0 => rfl
  | n + 1 => by
    have ih := swap_times c z l n
    unfold times at *
    rw [List.replicate_succ, List.flatten_cons, List.replicate_succ, List.flatten_cons, swap_append, ih]
theorem mem_times {c n : Nat} {l : List Nat} (h : c ∈ times n l) : c ∈ l := by
  unfold times at h
  simp only [List.mem_flatten, List.mem_replicate] at h
  obtain ⟨x, ⟨_, rfl⟩, h⟩ := h
  exact h
theorem mem_times' {c n : Nat} {l : List Nat} (hn : 0 < n) (h : c ∈ l) : c ∈ times n l := by
  unfold times
  simp only [List.mem_flatten, List.mem_replicate]
  exact ⟨l, ⟨by omega, rfl⟩, h⟩
theorem len_times (n : Nat) (l : List Nat) : (times n l).length = n * l.length := by
  unfold times; simp [List.length_flatten]
theorem page_free {n y k c : Nat} {e : List Nat} (h : c ∉ 97 :: 38 :: (ampS ++ e)) : c ∉ (page n y k e).cps.toList := by
  intro hc
  refine h ?_
  show c ∈ [97] ++ (38 :: (ampS ++ e))
  rw [page] at hc
  simp only [List.toList_toArray, List.mem_append] at hc
  rcases hc with hc | hc
  · exact List.mem_append_left _ (mem_times hc)
  · refine List.mem_append_right _ ?_
    rcases List.mem_cons.mp (mem_times hc) with rfl | hc
    · exact .head _
    · refine .tail _ ?_
      rcases List.mem_append.mp hc with hc | hc
      · exact List.mem_append_left _ (mem_times hc)
      · exact List.mem_append_right _ hc
theorem bare_free {n y c d : Nat} (h : d ∉ [97, c]) : d ∉ (bare n y c).cps.toList := by
  intro hc
  refine h ?_
  rw [bare] at hc
  simp only [List.toList_toArray, List.mem_append] at hc
  rcases hc with hc | hc
  · have := mem_times hc; simp at this; simp [this]
  · have := mem_times hc; simp at this; simp [this]
theorem page_amp {n y k : Nat} {e : List Nat} (hy : 0 < y) : 38 ∈ (page n y k e).cps.toList := by
  rw [page]
  simp only [List.toList_toArray, List.mem_append]
  exact .inr (mem_times' hy (List.mem_cons_self ..))
theorem bare_has {n y c : Nat} (hy : 0 < y) : c ∈ (bare n y c).cps.toList := by
  rw [bare]
  simp only [List.toList_toArray, List.mem_append]
  exact .inr (mem_times' hy (List.mem_cons_self ..))
theorem times_succ (n : Nat) (l : List Nat) : times (n + 1) l = l ++ times n l := by unfold times; rw [List.replicate_succ, List.flatten_cons]
/-- one more layer -/
theorem page_layer {n y k : Nat} {e : List Nat} (h : 38 ∉ e) : Txt.replace (page n y k e) ⟨#[38]⟩ ⟨#[38, 97, 109, 112, 59]⟩ = page n y (k + 1) e := by
  rw [replace_swap]
  have h1 : swap 38 [38, 97, 109, 112, 59] (times n [97] ++ times y (38 :: (times k ampS ++ e))) = times n [97] ++ times y (38 :: (times (k + 1) ampS ++ e)) := by
    rw [swap_append, swap_times, swap_times]
    have a1 : swap 38 [38, 97, 109, 112, 59] [97] = [97] := by decide
    have a2 : swap 38 [38, 97, 109, 112, 59] (38 :: (times k ampS ++ e)) = [38, 97, 109, 112, 59] ++ (times k ampS ++ e) := by
      have : swap 38 [38, 97, 109, 112, 59] (times k ampS ++ e) = times k ampS ++ e := swap_free (by
        intro hc
        rcases List.mem_append.mp hc with hc | hc
        · have := mem_times hc; revert this; decide
        · exact h hc)
      show (if (38:Nat) = 38 then [38, 97, 109, 112, 59] else [38]) ++ swap 38 [38, 97, 109, 112, 59] (times k ampS ++ e) = _
      rw [if_pos rfl, this]
    rw [a1, a2, times_succ]
    simp [ampS]
  show (⟨(swap 38 [38, 97, 109, 112, 59] (times n [97] ++ times y (38 :: (times k ampS ++ e)))).toArray⟩ : Str) = _
  rw [h1]; rfl
/-- the first layer -/
theorem bare_layer {n y c : Nat} (hc : c ≠ 97) (e : List Nat) : Txt.replace (bare n y c) ⟨#[c]⟩ ⟨(38 :: e).toArray⟩ = page n y 0 e := by
  rw [replace_swap]
  have h1 : swap c (38 :: e) (times n [97] ++ times y [c]) = times n [97] ++ times y (38 :: (times 0 ampS ++ e)) := by
    rw [swap_append, swap_times, swap_times]
    have a1 : swap c (38 :: e) [97] = [97] := swap_free (by simpa using hc)
    have a2 : swap c (38 :: e) [c] = 38 :: e := by simp [swap]
    rw [a1, a2]; rfl
  show (⟨(swap c (38 :: e) (times n [97] ++ times y [c])).toArray⟩ : Str) = _
  rw [h1]; rfl
theorem page_len (n y k : Nat) (e : List Nat) : (page n y k e).length = n + y * (1 + 4 * k + e.length) := by
  show (times n [97] ++ times y (38 :: (times k ampS ++ e))).toArray.size = _
  have h4 : ampS.length = 4 := rfl
  simp only [List.size_toArray, List.length_append, len_times, List.length_cons, List.length_nil, h4, Nat.mul_one, Nat.zero_add]
  congr 1; congr 1; omega
theorem bare_len (n y c : Nat) : (bare n y c).length = n + y := by
  show (times n [97] ++ times y [c]).toArray.size = _
  simp only [List.size_toArray, List.length_append, len_times, List.length_cons, List.length_nil, Nat.mul_one, Nat.zero_add]

/-- what is asked of a page -/
structure PageOk (n y k : Nat) (e : List Nat) : Prop where
  some : 0 < y
  tail : ∀ c ∈ e, c ∈ [108, 116, 59, 103]
  short : (page n y k e).length ≤ 1000
theorem page_no {n y k c : Nat} {e : List Nat} (P : PageOk n y k e) (hc : c ∉ [97, 38, 109, 112, 59, 108, 116, 103]) : c ∉ (page n y k e).cps.toList := by
  refine page_free fun h => hc ?_
  rcases List.mem_cons.mp h with rfl | h
  · decide
  · rcases List.mem_cons.mp h with rfl | h
    · decide
    · rcases List.mem_append.mp h with h | h
      · have : ∀ c ∈ ampS, c ∈ [97, 38, 109, 112, 59, 108, 116, 103] := by decide
        exact this c h
      · have := P.tail c h
        have h2 : ∀ c ∈ [108, 116, 59, 103], c ∈ [97, 38, 109, 112, 59, 108, 116, 103] := by decide
        exact h2 c this
theorem page_tail {n y k : Nat} {e : List Nat} (P : PageOk n y k e) : 38 ∉ e := fun h => by
  have := P.tail _ h; revert this; decide
theorem o38 : Str.ofString "&" = ⟨#[38]⟩ := by decide
theorem o60 : Str.ofString "<" = ⟨#[60]⟩ := by decide
theorem o62 : Str.ofString ">" = ⟨#[62]⟩ := by decide
theorem o34 : Str.ofString "\"" = ⟨#[34]⟩ := by decide
theorem o13 : Str.ofString "\r" = ⟨#[13]⟩ := by decide
theorem o10 : Str.ofString "\n" = ⟨#[10]⟩ := by decide
theorem o9 : Str.ofString "\t" = ⟨#[9]⟩ := by decide
theorem oamp : Str.ofString "&amp;" = ⟨#[38, 97, 109, 112, 59]⟩ := by decide
theorem olt : Str.ofString "&lt;" = ⟨(38 :: [108, 116, 59]).toArray⟩ := by decide
theorem ogt : Str.ofString "&gt;" = ⟨(38 :: [103, 116, 59]).toArray⟩ := by decide
section
variable {prog : Program} {w : World} {A : Around} {E : Value → Shared → Prop} {s : Shared} {x y : Str} {t u v : Tok} {Q : Value → Shared → Prop}
theorem in_no {c : Nat} (hy : y = ⟨#[c]⟩) (hc : c ∉ x.cps.toList) (h : Q (.bool false) s) : wpAny (model prog w) A (compareOp .In (.str y u) (.str x t)) Q E s := by
  refine PyProof.Rows.in_str ?_
  rw [hy, StrLaws.found_one, decide_eq_false hc]
  exact h
theorem in_yes {c : Nat} (hy : y = ⟨#[c]⟩) (hc : c ∈ x.cps.toList) (h : Q (.bool true) s) : wpAny (model prog w) A (compareOp .In (.str y u) (.str x t)) Q E s := by
  refine PyProof.Rows.in_str ?_
  rw [hy, StrLaws.found_one, decide_eq_true hc]
  exact h
theorem rep_page {n yy k : Nat} {e : List Nat} (P : PageOk n yy k e) (hu : 0 < u) (hv : u < v) (hq : ∀ t' k', Q (.str (page n yy (k + 1) e) t') { s with toks := k' }) :
    wpAny (model prog w) A (call (.builtin "str.replace") [.str (page n yy k e) t, .str (Str.ofString "&") u, .str (Str.ofString "&amp;") v]) Q E s := by
  refine SC.replaceW (Nat.ne_of_gt hu) (Nat.ne_of_gt (Nat.lt_trans hu hv)) (Nat.ne_of_lt hv) (by decide) (Nat.le_trans P.short (by decide)) (by decide) ?_
  rw [o38, oamp, page_layer (page_tail P)]
  exact hq
theorem rep_bare_lt {n yy : Nat} (hl : (bare n yy 60).length ≤ 1000) (hu : 0 < u) (hv : u < v) (hq : ∀ t' k', Q (.str (page n yy 0 [108, 116, 59]) t') { s with toks := k' }) :
    wpAny (model prog w) A (call (.builtin "str.replace") [.str (bare n yy 60) t, .str (Str.ofString "<") u, .str (Str.ofString "&lt;") v]) Q E s := by
  refine SC.replaceW (Nat.ne_of_gt hu) (Nat.ne_of_gt (Nat.lt_trans hu hv)) (Nat.ne_of_lt hv) (by decide) (Nat.le_trans hl (by decide)) (by decide) ?_
  rw [o60, olt, bare_layer (by decide)]
  exact hq
theorem rep_bare_gt {n yy : Nat} (hl : (bare n yy 62).length ≤ 1000) (hu : 0 < u) (hv : u < v) (hq : ∀ t' k', Q (.str (page n yy 0 [103, 116, 59]) t') { s with toks := k' }) :
    wpAny (model prog w) A (call (.builtin "str.replace") [.str (bare n yy 62) t, .str (Str.ofString ">") u, .str (Str.ofString "&gt;") v]) Q E s := by
  refine SC.replaceW (Nat.ne_of_gt hu) (Nat.ne_of_gt (Nat.lt_trans hu hv)) (Nat.ne_of_lt hv) (by decide) (Nat.le_trans hl (by decide)) (by decide) ?_
  rw [o62, ogt, bare_layer (by decide)]
  exact hq
end
theorem gen_toks {α : Type} {M : Model} {A : Around} {t : Sem α} {Q : α → Shared → Prop} {E : Value → Shared → Prop} {s : Shared} (hn : 0 < s.toks) (h : ∀ tk, 0 < tk → wpAny M A t Q E { s with toks := tk }) : wpAny M A t Q E s := h s.toks hn
end Mine
end

section
theorem Mine.topOffN2 : True := by
  w_top off
  trivial
open PySem PySem.W PyProof.Rows
set_option Elab.async false
set_option maxRecDepth 100000
set_option maxHeartbeats 8000000
namespace Mine
set_option linter.all false
/-- a str comes back -/
def RetS (news : List (Addr × Obj)) (x : Str) (h₀ : Heap) (L : Addr) (m : Str → Option Value) (s : Shared) (Q : Value → Shared → Prop) : Prop :=
  ∀ (t : Tok) (h' : Heap) (tk' : Nat), Fr h₀ L h' m → News h₀ L h' news → Q (.str x t) { s with heap := h', toks := tk' }
local macro_rules | `(tactic| walk_at "mine enter") => `(tactic| (refine wpAny_call ?_; k_dflt (refine' code_defI ?k1 ?k2 ?k3 ?k5 ?kA ?kF ?kK ?k6 ?k7 ?k8 ?k9 ?kB ?_ ?c2 ?c3 ?c4 ?c5; (case kA => exact rfl); (case kF => exact rfl); (case kK => assumption); (case k1 => k_asm); (case k2 => k_asm); (case k3 => k_asm); (case k5 => k_asm); (case k6 => k_is); (case k7 => k_is); (case k8 => ktr_room); (case k9 => exact BindsTo.of_eq rfl); (case c5 => decide); (case kB => exact locs rfl); (case c2 => exact rfl); (case c3 => exact rfl); (case c4 => exact rfl); k_whole; intro g' L' h' KG' FG' F' N' B' X' T'; (try dsimp only); (try k_lift B'); (try k_fold))))
local macro_rules | `(tactic| walk_at "compareOp In str str") => `(tactic| first
  | with_reducible exact in_yes o38 (page_amp (PageOk.some (by assumption))) ?_
  | (with_reducible refine' in_yes o38 (page_amp (PageOk.some ?P)) ?_; (case P => assumption))
  | (with_reducible refine' in_no o60 (page_no ?P ?b) ?_; (case P => assumption); (case b => decide))
  | (with_reducible refine' in_no o62 (page_no ?P ?b) ?_; (case P => assumption); (case b => decide))
  | (with_reducible refine' in_no o34 (page_no ?P ?b) ?_; (case P => assumption); (case b => decide))
  | (with_reducible refine' in_no o13 (page_no ?P ?b) ?_; (case P => assumption); (case b => decide))
  | (with_reducible refine' in_no o10 (page_no ?P ?b) ?_; (case P => assumption); (case b => decide))
  | (with_reducible refine' in_no o9 (page_no ?P ?b) ?_; (case P => assumption); (case b => decide)))
local macro_rules | `(tactic| walk_at "call builtin:str.replace") => `(tactic| k_dflt (first
  | (refine' rep_page ?P ?a ?b ?_; (case P => assumption); (case a => first | assumption | omega); (case b => first | exact Nat.lt_succ_self _ | omega))))
local macro_rules | `(tactic| walk_at "execs cons") => `(tactic| (k_here; k_dflt (refine' gen_toks ?h ?_; (case h => (dsimp only; first | omega | exact Nat.succ_pos _)); intro tk htk; (try dsimp only); refine wpAny_execs_cons ?_)))
theorem escA (w : World) (news : List (Addr × Obj)) (n y k : Nat) (e : List Nat) (t : Tok) (P : PageOk n y k e) (P2 : PageOk n y (k + 1) e) :
    CallTo w 86 news [.str (page n y k e) t] 20 200 (RetS news (page n y (k + 1) e)) := by
  unfold CallTo
  k_fill
  intro p loose mean mg mb dp un gd cn cs a ccd cl outer A₀ base h₀ L m s Q E B F X N T hk hd hu hret
  walk_at "mine enter"
  k_steps
  all_goals (refine' cb_retS (Q := Q) hret ?e1 ?e2 ?e3; (case e1 => exact rfl); (case e2 => k_asm); (case e3 => exact iso_news N (by assumption) (by with_reducible assumption)))
theorem escB (w : World) (news : List (Addr × Obj)) (n y k : Nat) (e : List Nat) (t : Tok) (P : PageOk n y k e) (P2 : PageOk n y (k + 1) e) :
    CallTo w 93 news [.str (page n y k e) t] 20 200 (RetS news (page n y (k + 1) e)) := by
  unfold CallTo
  k_fill
  intro p loose mean mg mb dp un gd cn cs a ccd cl outer A₀ base h₀ L m s Q E B F X N T hk hd hu hret
  walk_at "mine enter"
  k_steps
  all_goals (refine' cb_retS (Q := Q) hret ?e1 ?e2 ?e3; (case e1 => exact rfl); (case e2 => k_asm); (case e3 => exact iso_news N (by assumption) (by with_reducible assumption)))
theorem escC (w : World) (news : List (Addr × Obj)) (n y k : Nat) (e : List Nat) (t : Tok) (P : PageOk n y k e) (P2 : PageOk n y (k + 1) e) :
    CallTo w 100 news [.str (page n y k e) t] 20 200 (RetS news (page n y (k + 1) e)) := by
  unfold CallTo
  k_fill
  intro p loose mean mg mb dp un gd cn cs a ccd cl outer A₀ base h₀ L m s Q E B F X N T hk hd hu hret
  walk_at "mine enter"
  k_steps
  all_goals (refine' cb_retS (Q := Q) hret ?e1 ?e2 ?e3; (case e1 => exact rfl); (case e2 => k_asm); (case e3 => exact iso_news N (by assumption) (by with_reducible assumption)))
theorem escD (w : World) (news : List (Addr × Obj)) (n y k : Nat) (e : List Nat) (t : Tok) (P : PageOk n y k e) (P2 : PageOk n y (k + 1) e) :
    CallTo w 107 news [.str (page n y k e) t] 20 200 (RetS news (page n y (k + 1) e)) := by
  unfold CallTo
  k_fill
  intro p loose mean mg mb dp un gd cn cs a ccd cl outer A₀ base h₀ L m s Q E B F X N T hk hd hu hret
  walk_at "mine enter"
  k_steps
  all_goals (refine' cb_retS (Q := Q) hret ?e1 ?e2 ?e3; (case e1 => exact rfl); (case e2 => k_asm); (case e3 => exact iso_news N (by assumption) (by with_reducible assumption)))
theorem escE (w : World) (news : List (Addr × Obj)) (n y k : Nat) (e : List Nat) (t : Tok) (P : PageOk n y k e) (P2 : PageOk n y (k + 1) e) :
    CallTo w 114 news [.str (page n y k e) t] 20 200 (RetS news (page n y (k + 1) e)) := by
  unfold CallTo
  k_fill
  intro p loose mean mg mb dp un gd cn cs a ccd cl outer A₀ base h₀ L m s Q E B F X N T hk hd hu hret
  walk_at "mine enter"
  k_steps
  all_goals (refine' cb_retS (Q := Q) hret ?e1 ?e2 ?e3; (case e1 => exact rfl); (case e2 => k_asm); (case e3 => exact iso_news N (by assumption) (by with_reducible assumption)))
end Mine
end

section
local macro_rules | `(tactic| walk_at "pad 0") => `(tactic| fail)
theorem Mine.topOffN3 : True := by
  w_top off
  trivial
open PySem PySem.W PyProof.Rows
set_option Elab.async false
set_option maxRecDepth 100000
set_option maxHeartbeats 8000000
namespace Mine
set_option linter.all false
local macro_rules | `(tactic| walk_at "mine enter") => `(tactic| (refine wpAny_call ?_; k_dflt (refine' code_defI ?k1 ?k2 ?k3 ?k5 ?kA ?kF ?kK ?k6 ?k7 ?k8 ?k9 ?kB ?_ ?c2 ?c3 ?c4 ?c5; (case kA => exact rfl); (case kF => exact rfl); (case kK => assumption); (case k1 => k_asm); (case k2 => k_asm); (case k3 => k_asm); (case k5 => k_asm); (case k6 => k_is); (case k7 => k_is); (case k8 => ktr_room); (case k9 => exact BindsTo.of_eq rfl); (case c5 => decide); (case kB => exact locs rfl); (case c2 => exact rfl); (case c3 => exact rfl); (case c4 => exact rfl); k_whole; intro g' L' h' KG' FG' F' N' B' X' T'; (try dsimp only); (try k_lift B'); (try k_fold))))
local macro_rules | `(tactic| walk_at "compareOp In str str") => `(tactic| first
  | with_reducible exact in_yes o38 (page_amp (PageOk.some (by assumption))) ?_
  | (with_reducible refine' in_yes o38 (page_amp (PageOk.some ?P)) ?_; (case P => assumption))
  | (with_reducible refine' in_no o60 (page_no ?P ?b) ?_; (case P => assumption); (case b => decide))
  | (with_reducible refine' in_no o62 (page_no ?P ?b) ?_; (case P => assumption); (case b => decide))
  | (with_reducible refine' in_no o34 (page_no ?P ?b) ?_; (case P => assumption); (case b => decide))
  | (with_reducible refine' in_no o13 (page_no ?P ?b) ?_; (case P => assumption); (case b => decide))
  | (with_reducible refine' in_no o10 (page_no ?P ?b) ?_; (case P => assumption); (case b => decide))
  | (with_reducible refine' in_no o9 (page_no ?P ?b) ?_; (case P => assumption); (case b => decide))
  | (with_reducible refine' in_yes o60 (bare_has ?P) ?_; (case P => assumption))
  | (with_reducible refine' in_yes o62 (bare_has ?P) ?_; (case P => assumption))
  | (with_reducible refine' in_no o38 (bare_free ?b) ?_; (case b => decide))
  | (with_reducible refine' in_no o60 (bare_free ?b) ?_; (case b => decide))
  | (with_reducible refine' in_no o62 (bare_free ?b) ?_; (case b => decide))
  | (with_reducible refine' in_no o34 (bare_free ?b) ?_; (case b => decide))
  | (with_reducible refine' in_no o13 (bare_free ?b) ?_; (case b => decide))
  | (with_reducible refine' in_no o10 (bare_free ?b) ?_; (case b => decide))
  | (with_reducible refine' in_no o9 (bare_free ?b) ?_; (case b => decide)))
local macro_rules | `(tactic| walk_at "call builtin:str.replace") => `(tactic| k_dflt (first
  | (refine' rep_bare_lt ?P ?a ?b ?_; (case P => assumption); (case a => first | assumption | omega); (case b => first | exact Nat.lt_succ_self _ | omega))
  | (refine' rep_bare_gt ?P ?a ?b ?_; (case P => assumption); (case a => first | assumption | omega); (case b => first | exact Nat.lt_succ_self _ | omega))
  | (refine' rep_page ?P ?a ?b ?_; (case P => assumption); (case a => first | assumption | omega); (case b => first | exact Nat.lt_succ_self _ | omega))))
local macro_rules | `(tactic| walk_at "execs cons") => `(tactic| (k_here; k_dflt (refine' gen_toks ?h ?_; (case h => (dsimp only; first | omega | exact Nat.succ_pos _)); intro tk htk; (try dsimp only); refine wpAny_execs_cons ?_)))
theorem escA60 (w : World) (news : List (Addr × Obj)) (n y : Nat) (t : Tok) (hy : 0 < y) (hl : (bare n y 60).length ≤ 1000) (P : PageOk n y 0 [108, 116, 59]) :
    CallTo w 86 news [.str (bare n y 60) t] 20 200 (RetS news (page n y 0 [108, 116, 59])) := by
  unfold CallTo
  k_fill
  intro p loose mean mg mb dp un gd cn cs a ccd cl outer A₀ base h₀ L m s Q E B F X N T hk hd hu hret
  walk_at "mine enter"
  k_steps
  all_goals (refine' cb_retS (Q := Q) hret ?e1 ?e2 ?e3; (case e1 => exact rfl); (case e2 => k_asm); (case e3 => exact iso_news N (by assumption) (by with_reducible assumption)))
theorem escB60 (w : World) (news : List (Addr × Obj)) (n y : Nat) (t : Tok) (hy : 0 < y) (hl : (bare n y 60).length ≤ 1000) (P : PageOk n y 0 [108, 116, 59]) :
    CallTo w 93 news [.str (bare n y 60) t] 20 200 (RetS news (page n y 0 [108, 116, 59])) := by
  unfold CallTo
  k_fill
  intro p loose mean mg mb dp un gd cn cs a ccd cl outer A₀ base h₀ L m s Q E B F X N T hk hd hu hret
  walk_at "mine enter"
  k_steps
  all_goals (refine' cb_retS (Q := Q) hret ?e1 ?e2 ?e3; (case e1 => exact rfl); (case e2 => k_asm); (case e3 => exact iso_news N (by assumption) (by with_reducible assumption)))
theorem escD60 (w : World) (news : List (Addr × Obj)) (n y : Nat) (t : Tok) (hy : 0 < y) (hl : (bare n y 60).length ≤ 1000) (P : PageOk n y 0 [108, 116, 59]) :
    CallTo w 107 news [.str (bare n y 60) t] 20 200 (RetS news (page n y 0 [108, 116, 59])) := by
  unfold CallTo
  k_fill
  intro p loose mean mg mb dp un gd cn cs a ccd cl outer A₀ base h₀ L m s Q E B F X N T hk hd hu hret
  walk_at "mine enter"
  k_steps
  all_goals (refine' cb_retS (Q := Q) hret ?e1 ?e2 ?e3; (case e1 => exact rfl); (case e2 => k_asm); (case e3 => exact iso_news N (by assumption) (by with_reducible assumption)))
theorem escE60 (w : World) (news : List (Addr × Obj)) (n y : Nat) (t : Tok) (hy : 0 < y) (hl : (bare n y 60).length ≤ 1000) (P : PageOk n y 0 [108, 116, 59]) :
    CallTo w 114 news [.str (bare n y 60) t] 20 200 (RetS news (page n y 0 [108, 116, 59])) := by
  unfold CallTo
  k_fill
  intro p loose mean mg mb dp un gd cn cs a ccd cl outer A₀ base h₀ L m s Q E B F X N T hk hd hu hret
  walk_at "mine enter"
  k_steps
  all_goals (refine' cb_retS (Q := Q) hret ?e1 ?e2 ?e3; (case e1 => exact rfl); (case e2 => k_asm); (case e3 => exact iso_news N (by assumption) (by with_reducible assumption)))
theorem escA62 (w : World) (news : List (Addr × Obj)) (n y : Nat) (t : Tok) (hy : 0 < y) (hl : (bare n y 62).length ≤ 1000) (P : PageOk n y 0 [103, 116, 59]) :
    CallTo w 86 news [.str (bare n y 62) t] 20 200 (RetS news (page n y 0 [103, 116, 59])) := by
  unfold CallTo
  k_fill
  intro p loose mean mg mb dp un gd cn cs a ccd cl outer A₀ base h₀ L m s Q E B F X N T hk hd hu hret
  walk_at "mine enter"
  k_steps
  all_goals (refine' cb_retS (Q := Q) hret ?e1 ?e2 ?e3; (case e1 => exact rfl); (case e2 => k_asm); (case e3 => exact iso_news N (by assumption) (by with_reducible assumption)))
theorem escB62 (w : World) (news : List (Addr × Obj)) (n y : Nat) (t : Tok) (hy : 0 < y) (hl : (bare n y 62).length ≤ 1000) (P : PageOk n y 0 [103, 116, 59]) :
    CallTo w 93 news [.str (bare n y 62) t] 20 200 (RetS news (page n y 0 [103, 116, 59])) := by
  unfold CallTo
  k_fill
  intro p loose mean mg mb dp un gd cn cs a ccd cl outer A₀ base h₀ L m s Q E B F X N T hk hd hu hret
  walk_at "mine enter"
  k_steps
  all_goals (refine' cb_retS (Q := Q) hret ?e1 ?e2 ?e3; (case e1 => exact rfl); (case e2 => k_asm); (case e3 => exact iso_news N (by assumption) (by with_reducible assumption)))
theorem escC62 (w : World) (news : List (Addr × Obj)) (n y : Nat) (t : Tok) (hy : 0 < y) (hl : (bare n y 62).length ≤ 1000) (P : PageOk n y 0 [103, 116, 59]) :
    CallTo w 100 news [.str (bare n y 62) t] 20 200 (RetS news (page n y 0 [103, 116, 59])) := by
  unfold CallTo
  k_fill
  intro p loose mean mg mb dp un gd cn cs a ccd cl outer A₀ base h₀ L m s Q E B F X N T hk hd hu hret
  walk_at "mine enter"
  k_steps
  all_goals (refine' cb_retS (Q := Q) hret ?e1 ?e2 ?e3; (case e1 => exact rfl); (case e2 => k_asm); (case e3 => exact iso_news N (by assumption) (by with_reducible assumption)))
theorem escD62 (w : World) (news : List (Addr × Obj)) (n y : Nat) (t : Tok) (hy : 0 < y) (hl : (bare n y 62).length ≤ 1000) (P : PageOk n y 0 [103, 116, 59]) :
    CallTo w 107 news [.str (bare n y 62) t] 20 200 (RetS news (page n y 0 [103, 116, 59])) := by
  unfold CallTo
  k_fill
  intro p loose mean mg mb dp un gd cn cs a ccd cl outer A₀ base h₀ L m s Q E B F X N T hk hd hu hret
  walk_at "mine enter"
  k_steps
  all_goals (refine' cb_retS (Q := Q) hret ?e1 ?e2 ?e3; (case e1 => exact rfl); (case e2 => k_asm); (case e3 => exact iso_news N (by assumption) (by with_reducible assumption)))
end Mine
end

section
theorem Mine.topOffN4 : True := by
  w_top off
  trivial
open PySem PySem.W PyProof.Rows
set_option Elab.async false
set_option maxRecDepth 100000
set_option maxHeartbeats 8000000
namespace Mine
set_option linter.all false
local macro_rules | `(tactic| walk_at "mine enter") => `(tactic| (refine wpAny_call ?_; k_dflt (refine' code_defI ?k1 ?k2 ?k3 ?k5 ?kA ?kF ?kK ?k6 ?k7 ?k8 ?k9 ?kB ?_ ?c2 ?c3 ?c4 ?c5; (case kA => exact rfl); (case kF => exact rfl); (case kK => assumption); (case k1 => k_asm); (case k2 => k_asm); (case k3 => k_asm); (case k5 => k_asm); (case k6 => k_is); (case k7 => k_is); (case k8 => ktr_room); (case k9 => exact BindsTo.of_eq rfl); (case c5 => decide); (case kB => exact locs rfl); (case c2 => exact rfl); (case c3 => exact rfl); (case c4 => exact rfl); k_whole; intro g' L' h' KG' FG' F' N' B' X' T'; (try dsimp only); (try k_lift B'); (try k_fold))))
local macro_rules | `(tactic| walk_at "mine str") => `(tactic| (intro t9 h9 tk9 F9 N9; (try dsimp only); (try k_sweep); (try k_fold)))
local macro_rules | `(tactic| walk_at "mine call") => `(tactic| (
  (case k1 => k_asm); (case k2 => k_asm); (case k3 => k_asm); (case k4 => k_asm); (case k5 => k_asm); (case kK => first | exact rfl | assumption); (case kd => ktr_room); (case ku => ktr_units)))
local macro_rules | `(tactic| walk_at "call ref") => `(tactic| (k_here; k_dflt (first
  | (exfalso; omega)
  | (refine' CallTo.use ?k1 ?k2 ?k3 ?k4 ?k5 ?kK (escA _ _ _ _ _ _ _ ?s1 ?s2) ?kd ?ku ?_; (case s1 => assumption); (case s2 => assumption); walk_at "mine call"; walk_at "mine str")
  | (refine' CallTo.use ?k1 ?k2 ?k3 ?k4 ?k5 ?kK (escB _ _ _ _ _ _ _ ?s1 ?s2) ?kd ?ku ?_; (case s1 => assumption); (case s2 => assumption); walk_at "mine call"; walk_at "mine str")
  | (refine' CallTo.use ?k1 ?k2 ?k3 ?k4 ?k5 ?kK (escC _ _ _ _ _ _ _ ?s1 ?s2) ?kd ?ku ?_; (case s1 => assumption); (case s2 => assumption); walk_at "mine call"; walk_at "mine str")
  | (refine' CallTo.use ?k1 ?k2 ?k3 ?k4 ?k5 ?kK (escD _ _ _ _ _ _ _ ?s1 ?s2) ?kd ?ku ?_; (case s1 => assumption); (case s2 => assumption); walk_at "mine call"; walk_at "mine str")
  | (refine' CallTo.use ?k1 ?k2 ?k3 ?k4 ?k5 ?kK (escE _ _ _ _ _ _ _ ?s1 ?s2) ?kd ?ku ?_; (case s1 => assumption); (case s2 => assumption); walk_at "mine call"; walk_at "mine str")
  | (refine' CallTo.use ?k1 ?k2 ?k3 ?k4 ?k5 ?kK (escA60 _ _ _ _ _ ?s1 ?s2 ?s3) ?kd ?ku ?_; (case s1 => assumption); (case s2 => assumption); (case s3 => assumption); walk_at "mine call"; walk_at "mine str")
  | (refine' CallTo.use ?k1 ?k2 ?k3 ?k4 ?k5 ?kK (escB60 _ _ _ _ _ ?s1 ?s2 ?s3) ?kd ?ku ?_; (case s1 => assumption); (case s2 => assumption); (case s3 => assumption); walk_at "mine call"; walk_at "mine str")
  | (refine' CallTo.use ?k1 ?k2 ?k3 ?k4 ?k5 ?kK (escD60 _ _ _ _ _ ?s1 ?s2 ?s3) ?kd ?ku ?_; (case s1 => assumption); (case s2 => assumption); (case s3 => assumption); walk_at "mine call"; walk_at "mine str")
  | (refine' CallTo.use ?k1 ?k2 ?k3 ?k4 ?k5 ?kK (escE60 _ _ _ _ _ ?s1 ?s2 ?s3) ?kd ?ku ?_; (case s1 => assumption); (case s2 => assumption); (case s3 => assumption); walk_at "mine call"; walk_at "mine str")
  | (refine' CallTo.use ?k1 ?k2 ?k3 ?k4 ?k5 ?kK (escA62 _ _ _ _ _ ?s1 ?s2 ?s3) ?kd ?ku ?_; (case s1 => assumption); (case s2 => assumption); (case s3 => assumption); walk_at "mine call"; walk_at "mine str")
  | (refine' CallTo.use ?k1 ?k2 ?k3 ?k4 ?k5 ?kK (escB62 _ _ _ _ _ ?s1 ?s2 ?s3) ?kd ?ku ?_; (case s1 => assumption); (case s2 => assumption); (case s3 => assumption); walk_at "mine call"; walk_at "mine str")
  | (refine' CallTo.use ?k1 ?k2 ?k3 ?k4 ?k5 ?kK (escC62 _ _ _ _ _ ?s1 ?s2 ?s3) ?kd ?ku ?_; (case s1 => assumption); (case s2 => assumption); (case s3 => assumption); walk_at "mine call"; walk_at "mine str")
  | (refine' CallTo.use ?k1 ?k2 ?k3 ?k4 ?k5 ?kK (escD62 _ _ _ _ _ ?s1 ?s2 ?s3) ?kd ?ku ?_; (case s1 => assumption); (case s2 => assumption); (case s3 => assumption); walk_at "mine call"; walk_at "mine str"))))
theorem writ (w : World) (news : List (Addr × Obj)) (n y k : Nat) (e : List Nat) (hand : Int) (t0 t : Tok) (hh : 0 ≤ hand ∧ hand ≤ 4) (P : PageOk n y k e) (P2 : PageOk n y (k + 1) e) :
    CallTo w 121 news [.int hand t0, .str (page n y k e) t] 40 400 (RetS news (page n y (k + 1) e)) := by
  unfold CallTo
  k_fill
  intro p loose mean mg mb dp un gd cn cs a ccd cl outer A₀ base h₀ L m s Q E B F X N T hk hd hu hret
  walk_at "mine enter"
  k_steps
  all_goals (refine' cb_retS (Q := Q) hret ?e1 ?e2 ?e3; (case e1 => exact rfl); (case e2 => k_asm); (case e3 => exact iso_news N (by assumption) (by with_reducible assumption)))
theorem writ60 (w : World) (news : List (Addr × Obj)) (n y : Nat) (hand : Int) (t0 t : Tok) (hh : hand = 0 ∨ hand = 1 ∨ hand = 3 ∨ hand = 4) (hy : 0 < y) (hl : (bare n y 60).length ≤ 1000) (P : PageOk n y 0 [108, 116, 59]) :
    CallTo w 121 news [.int hand t0, .str (bare n y 60) t] 40 400 (RetS news (page n y 0 [108, 116, 59])) := by
  unfold CallTo
  k_fill
  intro p loose mean mg mb dp un gd cn cs a ccd cl outer A₀ base h₀ L m s Q E B F X N T hk hd hu hret
  walk_at "mine enter"
  k_steps
  all_goals (refine' cb_retS (Q := Q) hret ?e1 ?e2 ?e3; (case e1 => exact rfl); (case e2 => k_asm); (case e3 => exact iso_news N (by assumption) (by with_reducible assumption)))
theorem writ62 (w : World) (news : List (Addr × Obj)) (n y : Nat) (hand : Int) (t0 t : Tok) (hh : hand = 0 ∨ hand = 1 ∨ hand = 2 ∨ hand = 3) (hy : 0 < y) (hl : (bare n y 62).length ≤ 1000) (P : PageOk n y 0 [103, 116, 59]) :
    CallTo w 121 news [.int hand t0, .str (bare n y 62) t] 40 400 (RetS news (page n y 0 [103, 116, 59])) := by
  unfold CallTo
  k_fill
  intro p loose mean mg mb dp un gd cn cs a ccd cl outer A₀ base h₀ L m s Q E B F X N T hk hd hu hret
  walk_at "mine enter"
  k_steps
  all_goals (refine' cb_retS (Q := Q) hret ?e1 ?e2 ?e3; (case e1 => exact rfl); (case e2 => k_asm); (case e3 => exact iso_news N (by assumption) (by with_reducible assumption)))
end Mine
end

section
open PySem PySem.W PyProof.Rows
set_option Elab.async false
set_option maxRecDepth 100000
set_option maxHeartbeats 8000000
namespace Mine
set_option linter.all false
/-- what the reply is made of -/
def resp (c : Nat) (mid : List Nat) : Str := ⟨([50, 50, 57, 32, 40] ++ (c :: (mid ++ [c])) ++ [41]).toArray⟩
def respL (c : Nat) (mid : List Nat) : List Nat := [50, 50, 57, 32, 40] ++ (c :: (mid ++ [c])) ++ [41]
theorem resp_len (c : Nat) (mid : List Nat) : (resp c mid).length = mid.length + 8 := by
  show ([50, 50, 57, 32, 40] ++ (c :: (mid ++ [c])) ++ [41]).toArray.size = _
  simp
theorem resp_getD (c : Nat) (mid : List Nat) (v : Nat) : (resp c mid).cps.getD v 0 = (respL c mid).getD v 0 := by
  show ((respL c mid).toArray).getD v 0 = _
  simp [Array.getD_eq_getD_getElem?, List.getD_eq_getElem?_getD]
theorem respL_cons (c : Nat) (mid : List Nat) : respL c mid = 50 :: 50 :: 57 :: 32 :: 40 :: c :: (mid ++ [c, 41]) := by simp [respL]
theorem getD_left {a b : List Nat} {v : Nat} (h : v < a.length) : (a ++ b).getD v 0 = a.getD v 0 := by
  rw [List.getD_eq_getElem?_getD, List.getD_eq_getElem?_getD, List.getElem?_append_left h]
theorem getD_right {a b : List Nat} {v k : Nat} (h : v = a.length + k) : (a ++ b).getD v 0 = b.getD k 0 := by
  rw [List.getD_eq_getElem?_getD, List.getD_eq_getElem?_getD, List.getElem?_append_right (by omega)]
  congr 2; omega
theorem r_find (c : Nat) (mid : List Nat) : Txt.find (resp c mid) (Str.ofString "(") = 4 := by
  have e : Str.ofString "(" = ⟨#[40]⟩ := by decide
  rw [e, find_is_find3]
  have h4 : (resp c mid).cps.getD 4 0 = 40 := by rw [resp_getD, respL_cons]; rfl
  have hf : fromIndex (resp c mid).length 0 = 0 := rfl
  rcases StrLaws.find3_spec (resp c mid) 40 0 with ⟨_, h⟩ | ⟨k, h, _, hk, hc, hn⟩
  · exact absurd h4 (h 4 (by rw [hf]; omega) (by rw [resp_len]; omega))
  · rw [h]
    have h1 : ¬ 4 < k := fun q => hn 4 (by rw [hf]; omega) q h4
    have h2 : ¬ k < 4 := fun q => by
      rw [resp_getD, respL_cons] at hc
      match k, q with
      | 0, _ => revert hc; simp
      | 1, _ => revert hc; simp
      | 2, _ => revert hc; simp
      | 3, _ => revert hc; simp
    omega
theorem mid_get {l : List Nat} {d v : Nat} (h : d ∉ l) (hv : v < l.length) : l.getD v 0 ≠ d := by
  intro e
  rw [List.getD_eq_getElem?_getD, List.getElem?_eq_getElem hv] at e
  exact h (e ▸ List.getElem_mem hv)
theorem r_find3 {c : Nat} {mid : List Nat} (hc : c ≠ 41) (hm : 41 ∉ mid) : Txt.find3 (resp c mid) (Str.ofString ")") (4 + 1) = mid.length + 7 := by
  have e : Str.ofString ")" = ⟨#[41]⟩ := by decide
  rw [e]
  have hf : fromIndex (resp c mid).length (4 + 1) = 5 := rfl
  have at7 : (resp c mid).cps.getD (mid.length + 7) 0 = 41 := by
    rw [resp_getD, respL_cons]
    show (c :: (mid ++ [c, 41])).getD (mid.length + 2) 0 = 41
    rw [List.getD_cons_succ, getD_right (k := 1) (by omega)]; rfl
  have no : ∀ v, 5 ≤ v → v < mid.length + 7 → (resp c mid).cps.getD v 0 ≠ 41 := by
    intro v h1 h2
    rw [resp_getD, respL_cons]
    obtain ⟨u, rfl⟩ : ∃ u, v = u + 5 := ⟨v - 5, by omega⟩
    show (c :: (mid ++ [c, 41])).getD u 0 ≠ 41
    have e2 : c :: (mid ++ [c, 41]) = (c :: (mid ++ [c])) ++ [41] := by simp
    rw [e2, getD_left (by simp; omega)]
    refine mid_get ?_ (by simp; omega)
    intro h
    rcases List.mem_cons.mp h with h | h
    · exact hc h.symm
    · rcases List.mem_append.mp h with h | h
      · exact hm h
      · exact hc (List.mem_singleton.mp h).symm
  rcases StrLaws.find3_spec (resp c mid) 41 (4 + 1) with ⟨_, h⟩ | ⟨k, h, hk0, hk, hkc, hn⟩
  · exact absurd at7 (h _ (by rw [hf]; omega) (by rw [resp_len]; omega))
  · rw [h]
    rw [hf] at hk0
    have h1 : ¬ mid.length + 7 < k := fun q => hn _ (by rw [hf]; omega) q at7
    have h2 : ¬ k < mid.length + 7 := fun q => no k hk0 q hkc
    omega
theorem item_at {x : Str} {i : Int} {k : Nat} (hi : i = (k : Int)) (hk : k < x.length) : Txt.item x i = ⟨#[x.cps.getD k 0]⟩ := by
  unfold Txt.item Txt.charAt
  have : seqIndex? i x.length = some k := by
    subst hi
    unfold seqIndex?
    simp
    omega
  rw [this]
  simp [Array.getD_eq_getD_getElem?]
theorem r_item1 (c : Nat) (mid : List Nat) : Txt.item (resp c mid) (4 + 1) = ⟨#[c]⟩ := by
  rw [item_at (k := 5) (by rfl) (by rw [resp_len]; omega), resp_getD, respL_cons]; rfl
theorem r_item2 (c : Nat) (mid : List Nat) : Txt.item (resp c mid) (mid.length + 7 - 1) = ⟨#[c]⟩ := by
  rw [item_at (k := mid.length + 6) (by omega) (by rw [resp_len]; omega), resp_getD, respL_cons]
  show (⟨#[(c :: (mid ++ [c, 41])).getD (mid.length + 1) 0]⟩ : Str) = _
  rw [List.getD_cons_succ, getD_right (k := 0) (by omega)]; rfl
theorem r_slice1 (c : Nat) (mid : List Nat) : Txt.slice (resp c mid) none (some 3) = Str.ofString "229" := by
  have h := slice_closes_to (x := resp c mid) (j := 3) (by rw [toList_lenI, resp_len]; omega)
  rw [eq_of_beq h]
  have e : Str.ofString "229" = ⟨#[50, 50, 57]⟩ := by decide
  rw [e]
  show (⟨(((respL c mid).drop 0).take 3).toArray⟩ : Str) = _
  rw [respL_cons]; rfl
theorem r_slice2 (c : Nat) (mid : List Nat) : Txt.slice (resp c mid) (some (4 + 1)) (some (mid.length + 7)) = ⟨(c :: (mid ++ [c])).toArray⟩ := by
  have h := slice_closes (x := resp c mid) (i := 4 + 1) (j := mid.length + 7) (by rw [toList_lenI, resp_len]; omega)
  rw [eq_of_beq h]
  show (⟨(((respL c mid).drop 5).take ((mid.length : Int) + 7 - (4 + 1)).toNat).toArray⟩ : Str) = _
  have : ((mid.length : Int) + 7 - (4 + 1)).toNat = mid.length + 2 := by omega
  rw [this, respL_cons]
  show (⟨((c :: (mid ++ [c, 41])).take (mid.length + 2)).toArray⟩ : Str) = _
  have e2 : c :: (mid ++ [c, 41]) = (c :: (mid ++ [c])) ++ [41] := by simp
  rw [e2, List.take_append_of_le_length (by simp)]
  rw [List.take_of_length_le (by simp)]
theorem join_inj (c : Nat) : ∀ ps qs : List Str, ps ≠ [] → qs ≠ [] → (∀ p ∈ ps, c ∉ p.cps.toList) → (∀ q ∈ qs, c ∉ q.cps.toList) → (Str.join ⟨#[c]⟩ ps).cps.toList = (Str.join ⟨#[c]⟩ qs).cps.toList → ps = qs := by
  have key : ∀ (a b r t : List Nat), c ∉ a → c ∉ b → a ++ c :: r = b ++ c :: t → a = b ∧ r = t := by
    intro a
    induction a with
    | nil =>
      intro b r t _ hb h
      cases b with
      | nil => simp at h; exact ⟨rfl, h⟩
      | cons y b => simp at h; exact absurd (h.1 ▸ List.mem_cons_self ..) hb
    | cons x a ih =>
      intro b r t ha hb h
      cases b with
      | nil => simp at h; exact absurd (h.1 ▸ List.mem_cons_self ..) ha
      | cons y b =>
        simp only [List.cons_append, List.cons.injEq] at h
        obtain ⟨h1, h2⟩ := ih b r t (fun m => ha (List.mem_cons_of_mem _ m)) (fun m => hb (List.mem_cons_of_mem _ m)) h.2
        exact ⟨by rw [h.1, h1], h2⟩
  intro ps
  induction ps with
  | nil => intro _ h; exact absurd rfl h
  | cons p ps ih =>
    intro qs _ hq hp hqf h
    cases qs with
    | nil => exact absurd rfl hq
    | cons q qs =>
      cases ps with
      | nil =>
        cases qs with
        | nil =>
          have : p.cps.toList = q.cps.toList := h
          have : p = q := by cases p; cases q; simp at this; simp [this]
          rw [this]
        | cons q2 qs =>
          exfalso
          have h' : p.cps.toList = (q ++ ⟨#[c]⟩ ++ Str.join ⟨#[c]⟩ (q2 :: qs)).cps.toList := h
          refine hp p (List.mem_cons_self ..) ?_
          rw [h']; simp [Str.cps_append]
      | cons p2 ps =>
        cases qs with
        | nil =>
          exfalso
          have h' : (p ++ ⟨#[c]⟩ ++ Str.join ⟨#[c]⟩ (p2 :: ps)).cps.toList = q.cps.toList := h
          refine hqf q (List.mem_cons_self ..) ?_
          rw [← h']; simp [Str.cps_append]
        | cons q2 qs =>
          have h' : (p ++ ⟨#[c]⟩ ++ Str.join ⟨#[c]⟩ (p2 :: ps)).cps.toList = (q ++ ⟨#[c]⟩ ++ Str.join ⟨#[c]⟩ (q2 :: qs)).cps.toList := h
          simp only [Str.cps_append, Array.toList_append, List.append_assoc] at h'
          obtain ⟨h1, h2⟩ := key _ _ _ _ (hp p (List.mem_cons_self ..)) (hqf q (List.mem_cons_self ..)) h'
          have e1 : p = q := by cases p; cases q; simp at h1; simp [h1]
          have e2 := ih (q2 :: qs) (by simp) (by simp) (fun x hx => hp x (List.mem_cons_of_mem _ hx)) (fun x hx => hqf x (List.mem_cons_of_mem _ hx)) h2
          rw [e1, e2]
theorem split_is {c : Nat} {x : Str} {parts : List Str} (h0 : parts ≠ []) (hf : ∀ p ∈ parts, c ∉ p.cps.toList) (hx : x.cps.toList = (Str.join ⟨#[c]⟩ parts).cps.toList) : Txt.split x ⟨#[c]⟩ = parts := by
  refine join_inj c _ _ ?_ h0 (fun p hp => StrLaws.split_free x c p hp) hf ?_
  · intro e
    have := split_pos x ⟨#[c]⟩
    rw [e] at this
    exact absurd this (by decide)
  · rw [StrLaws.join_split]; exact hx
theorem r_split {c : Nat} {f1 f2 f3 : Str} (h1 : c ∉ f1.cps.toList) (h2 : c ∉ f2.cps.toList) (h3 : c ∉ f3.cps.toList) :
    Txt.split ⟨(c :: ((f1.cps.toList ++ c :: (f2.cps.toList ++ c :: f3.cps.toList)) ++ [c])).toArray⟩ ⟨#[c]⟩ = [⟨#[]⟩, f1, f2, f3, ⟨#[]⟩] := by
  refine split_is (by simp) ?_ ?_
  · intro p hp
    simp only [List.mem_cons, List.not_mem_nil, or_false] at hp
    rcases hp with rfl | rfl | rfl | rfl | rfl
    · simp
    · exact h1
    · exact h2
    · exact h3
    · simp
  · show _ = ((⟨#[]⟩ : Str) ++ ⟨#[c]⟩ ++ (f1 ++ ⟨#[c]⟩ ++ (f2 ++ ⟨#[c]⟩ ++ (f3 ++ ⟨#[c]⟩ ++ ⟨#[]⟩)))).cps.toList
    simp [Str.cps_append]
end Mine
end

section
theorem Mine.topOffN6 : True := by
  w_top off
  trivial
open PySem PySem.W PyProof.Rows
set_option Elab.async false
set_option maxRecDepth 100000
set_option maxHeartbeats 1000000
namespace Mine
set_option linter.all false
/-- a new pair of a str and an int comes back -/
def RetSI (news : List (Addr × Obj)) (x : Str) (y : Int) (h₀ : Heap) (L : Addr) (m : Str → Option Value) (s : Shared) (Q : Value → Shared → Prop) : Prop :=
  ∀ (D : Addr) (t1 t2 : Tok) (c : Nat) (h' : Heap) (tk' : Nat), Fr h₀ L h' m → News h₀ L h' ((D, ({ cls := .type "tuple", data := .seq #[.str x t1, .int y t2] c } : Obj)) :: news) → (∀ p ∈ news, @Ne Nat p.1 D) → Q (.ref D) { s with heap := h', toks := tk' }
theorem iso_more {h₀ h g h' : Heap} {L L' D : Addr} {o : Obj} {m' : Str → Option Value} {news news' : List (Addr × Obj)} (N : News h₀ L h news) (KG : h.StaysIn g) (F' : Fr g L' h' m') (kN : News h₀ L h' news') (hm : (D, o) ∈ news') : News h₀ L h' ((D, o) :: news) := fun p hp => by
  rcases List.mem_cons.mp hp with rfl | hp
  · exact kN _ hm
  · exact iso_news N KG F' p hp
theorem iso_ne {h₀ h g h' : Heap} {L L' D : Addr} {o : Obj} {news news' : List (Addr × Obj)} (N : News h₀ L h news) (KG : h.StaysIn g) (N' : News g L' h' news') (hm : (D, o) ∈ news') : ∀ p ∈ news, @Ne Nat p.1 D := fun p hp e => by
  have h1 := KG _ _ (N p hp).1
  have h2 := (N' _ hm).2.2
  have h3 : g.get? p.1 = none := e ▸ h2
  rw [h3] at h1; cases h1
theorem iso_list {h₀ h g : Heap} {L l : Addr} {items : Array Value} {n : Nat} {news : List (Addr × Obj)} (N : News h₀ L h news) (KG : h.StaysIn g) (hm : (l, listOf items n) ∈ news) : g.IsList l items := ⟨_, KG _ _ (N _ hm).1, rfl, n, rfl⟩
local macro_rules | `(tactic| walk_at "mine enter") => `(tactic| (refine wpAny_call ?_; k_dflt (refine' code_defI ?k1 ?k2 ?k3 ?k5 ?kA ?kF ?kK ?k6 ?k7 ?k8 ?k9 ?kB ?_ ?c2 ?c3 ?c4 ?c5; (case kA => exact rfl); (case kF => exact rfl); (case kK => assumption); (case k1 => k_asm); (case k2 => k_asm); (case k3 => k_asm); (case k5 => k_asm); (case k6 => k_is); (case k7 => k_is); (case k8 => ktr_room); (case k9 => exact BindsTo.of_eq rfl); (case c5 => decide); (case kB => exact locs rfl); (case c2 => exact rfl); (case c3 => exact rfl); (case c4 => exact rfl); k_whole; intro g' L' h' KG' FG' F' N' B' X' T'; (try dsimp only); (try k_lift B'); (try k_fold))))


section
variable {prog : Program} {w : World} {A : Around} {E : Value → Shared → Prop} {s : Shared} {x : Str} {t u v : Tok} {Q : Value → Shared → Prop} {h₀ : Heap} {L : Addr} {m : Str → Option Value} {news : List (Addr × Obj)} {value slice : Expr} {c : Nat} {mid : List Nat}
theorem sl1 {uj : Tok} (hF : Fr h₀ L s.heap m) (hN : News h₀ L s.heap news) (hlen : mid.length ≤ 4000) (h : ∀ h' t' k, Fr h₀ L h' m → News h₀ L h' news → Q (.str (Str.ofString "229") t') { s with heap := h', toks := k })
    (hs : subscripted slice false (.str (resp c mid) t) (.ref s.heap.objs.size) = operate [.ref s.heap.objs.size, .str (resp c mid) t] (getItem (.str (resp c mid) t) (.ref s.heap.objs.size)) := by with_unfolding_all rfl)
    (ht : ∀ r, letTemporaryGo value (.str (resp c mid) t) r = pure () := by intro _; with_unfolding_all rfl) :
    wpAny (model prog w) A (subscriptTail value slice (.str (resp c mid) t) (.ref s.heap.objs.size)) Q E { s with heap := s.heap.push { cls := .type "slice", data := .fields #[.none, .int 3 uj, .none] } } :=
  slice_strN_ns hF hN (by rw [r_slice1]; exact h) hs ht (by rw [resp_len, sizeLine_eq]; omega)
theorem sl2 {ui uj : Tok} (hF : Fr h₀ L s.heap m) (hN : News h₀ L s.heap news) (hlen : mid.length ≤ 4000) (h : ∀ h' t' k, Fr h₀ L h' m → News h₀ L h' news → Q (.str ⟨(c :: (mid ++ [c])).toArray⟩ t') { s with heap := h', toks := k })
    (hs : subscripted slice false (.str (resp c mid) t) (.ref s.heap.objs.size) = operate [.ref s.heap.objs.size, .str (resp c mid) t] (getItem (.str (resp c mid) t) (.ref s.heap.objs.size)) := by with_unfolding_all rfl)
    (ht : ∀ r, letTemporaryGo value (.str (resp c mid) t) r = pure () := by intro _; with_unfolding_all rfl) :
    wpAny (model prog w) A (subscriptTail value slice (.str (resp c mid) t) (.ref s.heap.objs.size)) Q E { s with heap := s.heap.push { cls := .type "slice", data := .fields #[.int (4 + 1) ui, .int ((mid.length : Int) + 7) uj, .none] } } :=
  slice_strN_ss hF hN (by rw [r_slice2]; exact h) hs ht (by rw [resp_len, sizeLine_eq]; omega)
theorem fd1 (h : Q (.int 4 s.toks) { s with toks := s.toks + 1 }) : wpAny (model prog w) A (call (.builtin "str.find") [.str (resp c mid) t, .str (Str.ofString "(") u]) Q E s :=
  SC.find (by rw [r_find]; exact h)
theorem fd2 (hc : c ≠ 41) (hm : 41 ∉ mid) (h : Q (.int ((mid.length : Int) + 7) s.toks) { s with toks := s.toks + 1 }) : wpAny (model prog w) A (call (.builtin "str.find") [.str (resp c mid) t, .str (Str.ofString ")") u, .int (4 + 1) v]) Q E s :=
  SC.find3 (by rw [r_find3 hc hm]; exact h)
theorem it1 (h : Q (.str ⟨#[c]⟩ s.toks) { s with toks := s.toks + 1 })
    (hs : subscripted slice false (.str (resp c mid) t) (.int (4 + 1) u) = operate [.str (resp c mid) t, .int (4 + 1) u] (getItem (.str (resp c mid) t) (.int (4 + 1) u)) := by with_unfolding_all rfl)
    (ht : ∀ r, letTemporaryGo value (.str (resp c mid) t) r = pure () := by intro _; with_unfolding_all rfl) :
    wpAny (model prog w) A (subscriptTail value slice (.str (resp c mid) t) (.int (4 + 1) u)) Q E s :=
  item_str (by decide) (by rw [resp_len]; omega) (by rw [resp_len]; omega) (fun _ => by rw [r_item1]; exact h) hs ht
theorem it2 (hlen : mid.length ≤ 4000) (h : Q (.str ⟨#[c]⟩ s.toks) { s with toks := s.toks + 1 })
    (hs : subscripted slice false (.str (resp c mid) t) (.int ((mid.length : Int) + 7 - 1) u) = operate [.str (resp c mid) t, .int ((mid.length : Int) + 7 - 1) u] (getItem (.str (resp c mid) t) (.int ((mid.length : Int) + 7 - 1) u)) := by with_unfolding_all rfl)
    (ht : ∀ r, letTemporaryGo value (.str (resp c mid) t) r = pure () := by intro _; with_unfolding_all rfl) :
    wpAny (model prog w) A (subscriptTail value slice (.str (resp c mid) t) (.int ((mid.length : Int) + 7 - 1) u)) Q E s :=
  item_str (fitsSsize_of (N := 9223372036854775808) (by omega) (by omega) (Int.le_refl _)) (by rw [resp_len]; omega) (by rw [resp_len]; omega) (fun _ => by rw [r_item2]; exact h) hs ht
theorem spl {f1 f2 f3 : Str} (hF : Fr h₀ L s.heap m) (hN : News h₀ L s.heap news) (h1 : c ∉ f1.cps.toList) (h2 : c ∉ f2.cps.toList) (h3 : c ∉ f3.cps.toList) (hlen : (f1.cps.toList ++ c :: (f2.cps.toList ++ c :: f3.cps.toList)).length ≤ 4000)
    (h : ∀ D t1 t2 t3 t4 t5 n h' k, Fr h₀ L h' m → News h₀ L h' ((D, listOf #[.str ⟨#[]⟩ t1, .str f1 t2, .str f2 t3, .str f3 t4, .str ⟨#[]⟩ t5] n) :: news) → (∀ p ∈ news, p.1 < D) → Q (.ref D) { s with heap := h', toks := k }) :
    wpAny (model prog w) A (call (.builtin "str.split") [.str ⟨(c :: ((f1.cps.toList ++ c :: (f2.cps.toList ++ c :: f3.cps.toList)) ++ [c])).toArray⟩ t, .str ⟨#[c]⟩ u]) Q E s := by
  refine splitN1 hF hN rfl (fun l h' k e F' N' => ?_) ?_
  · rw [r_split h1 h2 h3] at e
    match l, e with
    | [(_, t1), (_, t2), (_, t3), (_, t4), (_, t5)], e =>
      simp only [List.map_cons, List.map_nil, List.cons.injEq, and_true] at e
      obtain ⟨rfl, rfl, rfl, rfl, rfl⟩ := e
      exact h _ t1 t2 t3 t4 t5 _ h' k F' N' (news_lt hN)
  · show (c :: ((f1.cps.toList ++ c :: (f2.cps.toList ++ c :: f3.cps.toList)) ++ [c])).toArray.size + 2 ≤ _
    rw [List.size_toArray, List.length_cons, List.length_append, List.length_singleton, sizeLine_eq]
    omega
end
local macro_rules | `(tactic| walk_at "subscriptTail Name Slice str ref") => `(tactic| k_dflt (first
  | ((with_reducible rename Fr _ _ _ _ => F'); (with_reducible rename News _ _ _ _ => N'); (refine sl1 (s := ⟨_, _, _, _, _⟩) F' N' (by assumption) ?_); intro _ _ _ _ _)
  | ((with_reducible rename Fr _ _ _ _ => F'); (with_reducible rename News _ _ _ _ => N'); (refine sl2 (s := ⟨_, _, _, _, _⟩) F' N' (by assumption) ?_); intro _ _ _ _ _)))
local macro_rules | `(tactic| walk_at "call builtin:str.find") => `(tactic| k_dflt (first
  | (with_reducible refine fd1 ?_)
  | (with_reducible refine fd2 (by assumption) (by assumption) ?_)))
local macro_rules | `(tactic| walk_at "subscriptTail Name BinOp str int") => `(tactic| k_dflt (first
  | (with_reducible refine it1 ?_)
  | (with_reducible refine it2 (by assumption) ?_)))
local macro_rules | `(tactic| walk_at "call builtin:str.split") => `(tactic| k_dflt (refine' spl ?a ?b ?c ?d ?e ?f ?_; (case a => k_asm); (case b => k_asm); (case c => assumption); (case d => assumption); (case e => assumption); (case f => assumption); intro D' _ _ _ _ _ _ h' k' F' N' l1; (try k_lt l1); (try k_sweep)))
theorem bne_absurd {x : Str} (h : (x != x) = true) : False := by rw [bne_self_eq_false] at h; cases h
theorem parse (w : World) (news : List (Addr × Obj)) (c : Nat) (f1 f2 f3 host : Str) (z : Int) (l : Addr) (n : Nat) (t t1 t2 : Tok) (hm : (l, listOf #[.str host t1, .int 21 t2] n) ∈ news)
    (hc : c ≠ 41) (h41 : 41 ∉ f1.cps.toList ++ c :: (f2.cps.toList ++ c :: f3.cps.toList)) (hlen : (f1.cps.toList ++ c :: (f2.cps.toList ++ c :: f3.cps.toList)).length ≤ 4000) (h1 : c ∉ f1.cps.toList) (h2 : c ∉ f2.cps.toList) (h3 : c ∉ f3.cps.toList)
    (hz : PySem.intText? f3 = some z) (hl3 : f3.length ≤ 640) :
    CallTo w 72 news [.str (resp c (f1.cps.toList ++ c :: (f2.cps.toList ++ c :: f3.cps.toList))) t, .ref l] 40 400 (RetSI news host z) := by
  unfold CallTo
  k_fill
  intro p loose mean mg mb dp un gd cn cs a ccd cl outer A₀ base h₀ L m s Q E B F X0 N T hk hd hu hret
  walk_at "mine enter"
  have hl := iso_list N (by assumption) hm
  k_steps
  · exact (bne_absurd (by with_reducible assumption)).elim
  · refine' hret _ _ _ _ _ _ ?eF ?eN ?eL
    case eF => k_asm
    case eN => exact iso_more N (by assumption) (by with_reducible assumption) (by with_reducible assumption) (by k_mem)
    case eL => exact iso_ne N (by assumption) (by with_reducible assumption) (by k_mem)
end Mine
end

section
local macro_rules | `(tactic| walk_at "pad 0") => `(tactic| fail)
theorem Mine.topOffN7 : True := by
  w_top off
  trivial
open PySem PySem.W PyProof.Rows
set_option Elab.async false
set_option maxRecDepth 100000
set_option maxHeartbeats 2000000
namespace Mine
set_option linter.all false
local macro_rules | `(tactic| walk_at "mine enter") => `(tactic| (refine wpAny_call ?_; k_dflt (refine' code_defI ?k1 ?k2 ?k3 ?k5 ?kA ?kF ?kK ?k6 ?k7 ?k8 ?k9 ?kB ?_ ?c2 ?c3 ?c4 ?c5; (case kA => exact rfl); (case kF => exact rfl); (case kK => assumption); (case k1 => k_asm); (case k2 => k_asm); (case k3 => k_asm); (case k5 => k_asm); (case k6 => k_is); (case k7 => k_is); (case k8 => ktr_room); (case k9 => exact BindsTo.of_eq rfl); (case c5 => decide); (case kB => exact locs rfl); (case c2 => exact rfl); (case c3 => exact rfl); (case c4 => exact rfl); k_whole; intro g' L' h' KG' FG' F' N' B' X' T'; (try dsimp only); (try k_lift B'); (try k_fold))))


def mid3 (c : Nat) (f1 f2 f3 : Str) : List Nat := f1.cps.toList ++ c :: (f2.cps.toList ++ c :: f3.cps.toList)
theorem resp_eq (c : Nat) (f1 f2 f3 : Str) : Str.ofString "229 (" ++ ⟨#[c]⟩ ++ Str.join ⟨#[c]⟩ [f1, f2, f3] ++ ⟨#[c]⟩ ++ Str.ofString ")" = resp c (mid3 c f1 f2 f3) := by
  have e1 : Str.ofString "229 (" = ⟨#[50, 50, 57, 32, 40]⟩ := by decide
  have e2 : Str.ofString ")" = ⟨#[41]⟩ := by decide
  rw [e1, e2]
  show (⟨#[50, 50, 57, 32, 40]⟩ : Str) ++ ⟨#[c]⟩ ++ (f1 ++ ⟨#[c]⟩ ++ (f2 ++ ⟨#[c]⟩ ++ f3)) ++ ⟨#[c]⟩ ++ ⟨#[41]⟩ = _
  apply Str.ext'
  unfold resp mid3
  simp [Str.cps_append]
structure FieldsOk (c : Nat) (f1 f2 f3 : Str) (z : Int) : Prop where
  c41 : c ≠ 41
  no41 : 41 ∉ mid3 c f1 f2 f3
  len : (mid3 c f1 f2 f3).length ≤ 4000
  h1 : c ∉ f1.cps.toList
  h2 : c ∉ f2.cps.toList
  h3 : c ∉ f3.cps.toList
  hz : PySem.intText? f3 = some z
  hl3 : f3.length ≤ 640
theorem parseX (w : World) (news : List (Addr × Obj)) (c : Nat) (f1 f2 f3 host X : Str) (z : Int) (l : Addr) (n : Nat) (t t1 t2 : Tok) (O : FieldsOk c f1 f2 f3 z) (e : X = resp c (mid3 c f1 f2 f3)) (hm : (l, listOf #[.str host t1, .int 21 t2] n) ∈ news) :
    CallTo w 72 news [.str X t, .ref l] 40 400 (RetSI news host z) := by
  subst e
  exact parse w news c f1 f2 f3 host z l n t t1 t2 hm O.c41 O.no41 O.len O.h1 O.h2 O.h3 O.hz O.hl3
section
variable {prog : Program} {w : World} {A : Around} {E : Value → Shared → Prop} {s : Shared} {t u v : Tok} {Q : Value → Shared → Prop} {c : Nat} {f1 f2 f3 : Str}
theorem join_mid (c : Nat) (f1 f2 f3 : Str) : (Str.join ⟨#[c]⟩ [f1, f2, f3]).cps.toList = mid3 c f1 f2 f3 := by
  show ((f1 ++ ⟨#[c]⟩ ++ (f2 ++ ⟨#[c]⟩ ++ f3)) : Str).cps.toList = _
  unfold mid3
  simp [Str.cps_append]
theorem jn {l : Addr} {t1 t2 t3 : Tok} (hl : s.heap.IsList l #[.str f1 t1, .str f2 t2, .str f3 t3]) (hlen : (mid3 c f1 f2 f3).length ≤ 4000) (h : ∀ t' k, Q (.str (Str.join ⟨#[c]⟩ [f1, f2, f3]) t') { s with toks := k }) :
    wpAny (model prog w) A (call (.builtin "str.join") [.str ⟨#[c]⟩ t, .ref l]) Q E s := by
  refine PyProof.Rows.join_list hl (.cons _ _ (.cons _ _ (.cons _ _ .nil))) ?_ ?_
  · have e : (mid3 c f1 f2 f3).length = f1.length + f2.length + f3.length + 2 := by
      unfold mid3
      simp only [List.length_append, List.length_cons]
      have : ∀ x : Str, x.cps.toList.length = x.length := fun x => by simp [Str.length]
      rw [this, this, this]; omega
    show f1.length + (f2.length + (f3.length + 0)) + 3 * 1 ≤ _
    omega
  · intro t' k
    have : Txt.join ⟨#[c]⟩ [f1, f2, f3] = Str.join ⟨#[c]⟩ [f1, f2, f3] := by unfold Txt.join; rw [StrLaws.glued_eq_join]
    rw [this]; exact h t' k
end
local macro_rules | `(tactic| walk_at "call builtin:str.join") => `(tactic| k_dflt (refine' jn ?a ?b ?_; (case a => is_list); (case b => assumption); intro _ _))
local macro_rules | `(tactic| walk_at "binaryOp Add str str") => `(tactic| k_dflt (refine' PyProof.Rows.add_str ?_ ?hsz; (case hsz => (simp only [Str.length_append, sizeLine_eq]; omega)); intro _ _))
local macro_rules | `(tactic| walk_at "mine call") => `(tactic| (
  (case k1 => k_asm); (case k2 => k_asm); (case k3 => k_asm); (case k4 => k_asm); (case k5 => k_asm); (case kK => first | exact rfl | assumption); (case kd => ktr_room); (case ku => ktr_units)))
local macro_rules | `(tactic| walk_at "call ref") => `(tactic| (k_here; k_dflt (refine' CallTo.use ?k1 ?k2 ?k3 ?k4 ?k5 ?kK (parseX _ _ _ _ _ _ _ _ _ _ _ _ _ _ ?s1 ?s2 ?s3) ?kd ?ku ?_; (case s1 => assumption); (case s2 => exact resp_eq _ _ _ _); walk_at "mine call"; (case s3 => k_mem); intro D t1 t2 c h' tk' F' N' l1; (try dsimp only); (try k_sweep); (try k_fold))))
theorem told (w : World) (news : List (Addr × Obj)) (c : Nat) (host f1 f2 f3 : Str) (z : Int) (l : Addr) (n : Nat) (t t1 t2 t3 t4 : Tok) (O : FieldsOk c f1 f2 f3 z) (hm : (l, listOf #[.str f1 t1, .str f2 t2, .str f3 t3] n) ∈ news) :
    CallTo w 135 news [.str ⟨#[c]⟩ t, .str host t4, .ref l] 60 600 (RetSI news host z) := by
  unfold CallTo
  k_fill
  intro p loose mean mg mb dp un gd cn cs a ccd cl outer A₀ base h₀ L m s Q E B F X N T hk hd hu hret
  have o1 : (Str.ofString "229 (").length = 5 := by decide
  have o2 : (⟨#[c]⟩ : Str).length = 1 := rfl
  have o3 : (Str.ofString ")").length = 1 := by decide
  have o4 := O.len
  have o5 : (Str.join ⟨#[c]⟩ [f1, f2, f3]).length ≤ 4000 := by
    have := O.len
    rw [← join_mid] at this
    simpa [Str.length] using this
  walk_at "mine enter"
  have hl := iso_list N (by assumption) hm
  k_steps
  refine' hret _ _ _ _ _ _ ?eF ?eN ?eL
  case eF => k_asm
  case eN => exact iso_more N (by assumption) (by with_reducible assumption) (by with_reducible assumption) (by k_mem)
  case eL => exact iso_ne N (by assumption) (by with_reducible assumption) (by k_mem)
end Mine
end

section
open PySem PySem.W PyProof.Rows PySem.Builtin PySem.Builtin.Str PySem.Builtin.BaseException
set_option Elab.async false
set_option maxRecDepth 100000
set_option maxHeartbeats 2000000
namespace Mine
set_option linter.all false
/-- an own exception that holds one text -/
structure OwnExc (K : Frag) (C e : Addr) (m : PySem.Str) (tk : Tok) (h : Heap) : Prop where
  frag : K.In h
  find : findIn K (.ref C) "__str__" = some (some (.builtin "BaseException.__str__"))
  obj : ∃ oe ws t0 ot nt, h.get? e = some oe ∧ oe.cls = .ref C ∧ oe.data = .fields ws ∧ ws[0]? = some (.ref t0) ∧ h.get? t0 = some ot ∧ ot.data = .seq #[.str m tk] nt
  cls : ∃ nm q N bs bm hdct sn sub ab col dd k0 k1 k2 k3 k5 newId, h.get? C = some (excClassObj nm q C N bs bm hdct sn sub ab col dd k0 k1 k2 k3 k5 newId) ∧ (Value.ref C :: bm).contains (.type "BaseException") = true
section
variable {prog : Program} {w : World} {A : Around} {E : Value → Shared → Prop} {s : Shared} {K : Frag} {C e : Addr} {m : PySem.Str} {tk : Tok} {Q : Value → Shared → Prop}
theorem own_str_entry {Q : PySem.Fin → Shared → Prop} (O : OwnExc K C e m tk s.heap) (hq : Q (.done (.ret (.str m tk))) s) :
    wpAny (model prog w) A (Builtin.«BaseException.__str__» ⟨[.ref e], []⟩) Q E s := by
  obtain ⟨oe, ws, t0, ot, nt, ho, hc, hd, h0, hto, htd⟩ := O.obj
  have args : ∀ {M : Model} {Q : Value × List Value → Shared → Prop}, Q (.ref t0, [.str m tk]) s → wpAny M A (bexcArgs (.ref e)) Q E s := by
    intro M Q hq
    unfold bexcArgs
    refine wpAny_bind (wpAny_field ho hd h0 (wpAny_bind (wpAny_seqItems hto htd ?_)))
    exact wpAny_pure hq
  unfold Builtin.«BaseException.__str__»
  repeat (first | with_reducible refine args ?_ | wp_step)
  exact hq
theorem own_str_call (O : OwnExc K C e m tk s.heap) (hq : Q (.str m tk) s) : wpAny (model prog w) A (call (.builtin "BaseException.__str__") [.ref e]) Q E s := by
  have O' := O
  obtain ⟨nm, q, N, bs, bm, hdct, sn, sub, ab, col, dd, k0, k1, k2, k3, k5, newId, hC, hcB⟩ := O.cls
  obtain ⟨oe, ws, t0, ot, nt, ho, hc, hd, h0, hto, htd⟩ := O.obj
  refine wpAny_call (codeAny_call_builtin (by decide +kernel) PySem.F.entry_bexc_str ?_)
  have hk : builtinKind "BaseException.__str__" = some .slot := by decide +kernel
  have hsplit : splitId "BaseException.__str__" = some ("BaseException", "__str__") := by decide +kernel
  have ha := PySem.F.args_bexc_str (.ref e)
  obtain ⟨h, g, d, t, os⟩ := s
  simp only [checkBuiltinCall, hk, hsplit]
  refine wpAny_bind ?_
  unfold isInstance
  repeat (first | with_reducible refine own_str_entry O' ?_ | (with_reducible refine wpAny_loadPart_at ho ?_; rw [hc]) | (with_reducible refine wpAny_isSubtype_exc hC ?_; rw [hcB]) | wp_step)
  exact hq
theorem own_strOf (O : OwnExc K C e m tk s.heap) (hu : A.units < cLine) (hq : Q (.str m tk) s) : wpAny (model prog w) A (PySem.Builtin.Str.strOf (.ref e)) Q E s := by
  have FX := PySem.F.excStr_Exception
  have O' := O
  obtain ⟨oe, ws, t0, ot, nt, ho, hc, hd, h0, hto, htd⟩ := O.obj
  unfold PySem.Builtin.Str.strOf
  rw [show isExactStr (.ref e) = false from rfl]
  refine wpAny_bind (m := cRoomFor _ _) (wpAny_cRoomFor hu ?_)
  have ty : ∀ M : Model, Looks M s.heap (typeOf (.ref e)) (.ref C) := fun M => hc ▸ (show Looks M s.heap (typeOf (.ref e)) oe.cls from (Looks.ld ho).andThen .now)
  have hb := FX.str.bind (.ref e)
  refine wpAny_bind (m := callSpecial? (.ref e) (Str.ofString "__str__")) (wpAny_bind (wpAny_bind ((ty _).here ((looks_findIn O.frag O.find).here (wpAny_holding ?_)))))
  rw [hb]
  exact wpAny_bind (wpAny_pure (wpAny_bind (own_str_call O' (wpAny_pure (wpAny_pure hq)))))
theorem own_str (O : OwnExc K C e m tk s.heap) (hu : A.units + 2 < cLine) (h : Q (.str m tk) s) : wpAny (model prog w) A (call (.type "str") [.ref e]) Q E s :=
  callType_new PySem.F.called_str (by decide) (PySem.F.typeCall_str_1 _) (PySem.F.newCall_str_1 _) (fun obj => PySem.F.args_object_init_2 obj _) PySem.F.entry_str_new
    (meets_str_new (S := fun A' R s' => A'.units + 1 < cLine ∧ OwnExc K C e m tk s'.heap ∧ R (.ok (.ret (.str m tk))) s')
      fun _ _ A' _ _ hq => own_strOf (A := A'.in1) hq.2.1 hq.1 hq.2.2)
    ⟨(show A.units + 1 + 1 < cLine from hu), O, typeIs_str _ _ _, h⟩
end
end Mine
end

section
theorem Mine.topOffN8 : True := by
  w_top off
  trivial
open PySem PySem.W PyProof.Rows
set_option Elab.async false
set_option maxRecDepth 100000
set_option maxHeartbeats 2000000
namespace Mine
set_option linter.all false
/-- a bool comes back -/
def RetB (news : List (Addr × Obj)) (x : Bool) (h₀ : Heap) (L : Addr) (m : Str → Option Value) (s : Shared) (Q : Value → Shared → Prop) : Prop :=
  ∀ (t : Tok) (h' : Heap) (tk' : Nat), Fr h₀ L h' m → News h₀ L h' news → Q (.bool x) { s with heap := h', toks := tk' }
local macro_rules | `(tactic| walk_at "mine enter") => `(tactic| (refine wpAny_call ?_; k_dflt (refine' code_defI ?k1 ?k2 ?k3 ?k5 ?kA ?kF ?kK ?k6 ?k7 ?k8 ?k9 ?kB ?_ ?c2 ?c3 ?c4 ?c5; (case kA => exact rfl); (case kF => exact rfl); (case kK => assumption); (case k1 => k_asm); (case k2 => k_asm); (case k3 => k_asm); (case k5 => k_asm); (case k6 => k_is); (case k7 => k_is); (case k8 => ktr_room); (case k9 => exact BindsTo.of_eq rfl); (case c5 => decide); (case kB => exact locs rfl); (case c2 => exact rfl); (case c3 => exact rfl); (case c4 => exact rfl); k_whole; intro g' L' h' KG' FG' F' N' B' X' T'; (try dsimp only); (try k_lift B'); (try k_fold))))


local macro_rules | `(tactic| walk_at "call builtin:str.join") => `(tactic| k_dflt (refine' jn ?a ?b ?_; (case a => first | is_list | exact News.isList (by k_asm) (by assumption) | exact News.isList (by k_asm) (List.Mem.tail _ (List.Mem.tail _ (by assumption)))); (case b => assumption); intro _ _))
local macro_rules | `(tactic| walk_at "binaryOp Add str str") => `(tactic| k_dflt (refine' PyProof.Rows.add_str ?_ ?hsz; (case hsz => (simp only [Str.length_append, sizeLine_eq]; omega)); intro _ _))

local macro_rules | `(tactic| walk_at "subscriptTail Name Slice str ref") => `(tactic| k_dflt (first
  | ((with_reducible rename Fr _ _ _ _ => F'); (with_reducible rename News _ _ _ _ => N'); (refine sl1 (s := ⟨_, _, _, _, _⟩) F' N' (by assumption) ?_); intro _ _ _ _ _)
  | ((with_reducible rename Fr _ _ _ _ => F'); (with_reducible rename News _ _ _ _ => N'); (refine sl2 (s := ⟨_, _, _, _, _⟩) F' N' (by assumption) ?_); intro _ _ _ _ _)))
local macro_rules | `(tactic| walk_at "call builtin:str.find") => `(tactic| k_dflt (first
  | (with_reducible refine fd1 ?_)
  | (with_reducible refine fd2 (by assumption) (by assumption) ?_)))
local macro_rules | `(tactic| walk_at "subscriptTail Name BinOp str int") => `(tactic| k_dflt (first
  | (with_reducible refine it1 ?_)
  | (with_reducible refine it2 (by assumption) ?_)))

theorem splN {prog : Program} {w : World} {A : Around} {E : Value → Shared → Prop} {s : Shared} {t u : Tok} {Q : Value → Shared → Prop} {h₀ : Heap} {L : Addr} {m : Str → Option Value} {news : List (Addr × Obj)} {c : Nat} {mid : List Nat} (hF : Fr h₀ L s.heap m) (hN : News h₀ L s.heap news) (hlen : mid.length ≤ 4000)
    (h : ∀ D (l : List (Str × Tok)) n h' k, l.length = (Txt.split ⟨(c :: (mid ++ [c])).toArray⟩ ⟨#[c]⟩).length → Fr h₀ L h' m → News h₀ L h' ((D, listOf (strValues l).toArray n) :: news) → (∀ p ∈ news, p.1 < D) → Q (.ref D) { s with heap := h', toks := k }) :
    wpAny (model prog w) A (call (.builtin "str.split") [.str ⟨(c :: (mid ++ [c])).toArray⟩ t, .str ⟨#[c]⟩ u]) Q E s := by
  refine splitN1 hF hN rfl (fun l h' k e F' N' => ?_) ?_
  · exact h _ l _ h' k (by rw [← e, List.length_map]) F' N' (news_lt hN)
  · show (c :: (mid ++ [c])).toArray.size + 2 ≤ _
    rw [List.size_toArray, List.length_cons, List.length_append, List.length_singleton, sizeLine_eq]
    omega
local macro_rules | `(tactic| walk_at "call builtin:str.split") => `(tactic| k_dflt (refine' splN ?a ?b ?c ?_; (case a => k_asm); (case b => k_asm); (case c => assumption); intro D' _ _ h' k' _ F' N' l1; (try k_lt l1); (try k_sweep)))
/-- entering a def that is to catch, from a frame that may have cells -/
theorem code_defT {prog : Program} {w : World} {A A₀ : Around} {s : Shared} {K : Frag} {L : Addr} {h₀ base : Heap} {m mg mb : Str → Option Value} {p : Program} {loose : List Str} {mean : ExcName → Option Value} {news : List (Addr × Obj)} {cn : Str} {cs : Scope} {a : Addr} {ccd : Value} {cl : List (Str × Addr)} {R : Result → Shared → Prop} {name qual : Str} {params : Arguments} {body : List Stmt} {scope : Scope} {dV kV doc pm cdv ct oc : Value} {an od : Option Addr} {osl : Array (Option Value)} {f : Addr} {args : Args} {binds : List (Str × Value)}
    (B : Below A₀ base [] h₀) (F : Fr h₀ L s.heap m) (X₀ : K.In h₀) (N : News h₀ L s.heap news) (T : Top p loose mean mg mb h₀) (hA : A.frames = some [envX cn cs L a ccd cl])
    (ho : K.lookup f = some ⟨oc, od, .func (fnOf name qual params body scope dV kV doc pm an cdv ct), osl⟩) (hcd : codeIn K cdv qual = true) (hroom : A.depth < recursionLimit)
    (hbind : BindsTo s (fnOf name qual params body scope dV kV doc pm an cdv ct) args binds) (hloc : ∀ y ∈ binds, scope.names.lookup y.1 = some .local)
    (h : ∀ g L' h₁, Fr h₀ L g m → Fr g L' h₁ (fun y => binds.reverse.lookup y) → News g L' h₁ news → Below A base [envX cn cs L a ccd cl] g → K.In g → Top p loose mean mg mb g → KtsDicts ([envX cn cs L a ccd cl].filterMap (·.frame)) g →
      wpAny (model prog w) (A.deeper (envOf qual scope L' f cdv)) (execs body (envOf qual scope L' f cdv))
        (fun fl s' => LeaveS0 ([envX cn cs L a ccd cl].filterMap (·.frame)) h₀ L m g R (match fl with | .ret v => v | _ => .none) s')
        (fun e s' => wpAny (model prog w) (A.deeper (envOf qual scope L' f cdv)) (leaving (envOf qual scope L' f cdv) e) (fun _ s'' => R (.error e) s'') (fun e' s'' => R (.error e') s'') s')
        { s with heap := h₁, toks := s.toks + binds.length })
    (hck : cs.kind = .function) (hco : scope.isCoroutine = false) (hgen : scope.isGenerator = false) (hk : scope.kind = .function)
    (hcell : ∀ x ∈ scope.names, x.2 ≠ .cell) : codeAny (model prog w) A (.call (.ref f) args) R s := by
  have X := X₀.keeps F.keep
  refine codeAny_call_def (fd := fnOf name qual params body scope dV kV doc pm an cdv ct) (body := body) (binds := binds) hroom (X _ _ ho) rfl (T.nolimit.keeps F.keep) (codeRec_of X hcd) rfl hbind hcell hloc (fun h₁ hns hk₁ => ?_) hco hgen hk
  obtain ⟨FG, BG, st, _⟩ := groundX (R := R) (env := envX cn cs L a ccd cl) B F N hA rfl hck
  obtain ⟨oL, es, ep, hLg, hLd, hLk, hLf⟩ := FG.ns
  have hfm : ∀ b, b ∈ [envX cn cs L a ccd cl].filterMap (·.frame) → b = L := fun b hb => by
    simp at hb; exact hb
  refine wpAny_mono (h _ s.heap.objs.size h₁ FG ⟨hns, fun b o e => hk₁ b o (of_hideAll _ e), Nat.le_of_eq (hideAll_size _ _)⟩
    (fun p hp => ⟨hk₁ _ _ (N p hp).1, Nat.ne_of_lt (Heap.lt_size (N p hp).1), hideAll_none _ (List.mem_map_of_mem hp)⟩) BG (X₀.keeps st) (T.keeps st) (fun b hb => by
      obtain rfl := hfm b hb
      exact ⟨oL, es, ep, hLg, hLd⟩)) (fun fl s' hl => ?_) fun _ _ y => y
  obtain ⟨g', L', m', news', T', F', N', k⟩ := hl
  have nL₀ : h₀.get? L = none := by
    cases q : h₀.get? L with
    | none => rfl
    | some o => exact absurd (Nat.lt_of_lt_of_le (Heap.lt_size q) F.above) (Nat.lt_irrefl _)
  obtain ⟨sl, hs⟩ := T'.up hLg
  refine k ⟨⟨_, es, ep, F'.keep _ _ hs, hLd, hLk, hLf⟩, fun b o e => F'.keep b o (T'.other b o (st b o e) (fun q => by
    rw [hfm b q, nL₀] at e
    cases e)), F.above⟩ fun p hp => ⟨(N' p hp).1, fun q => ?_, ?_⟩
  · have := (N' p hp).2.2; rw [q, hs] at this; cases this
  · cases q : h₀.get? p.1 with
    | none => rfl
    | some o =>
      obtain ⟨sl', hs'⟩ := T'.up (st _ _ q)
      have := (N' p hp).2.2
      rw [hs'] at this
      cases this
local macro_rules | `(tactic| walk_at "call ref") => `(tactic| (k_here; rw [resp_eq]; walk_at "call ref"))
/-- a call from the law's own frame -/
def CallToL (w : World) (f : Addr) (news : List (Addr × Obj)) (vs : List Value)
    (Ret : Heap → Addr → (Str → Option Value) → Shared → (Value → Shared → Prop) → Prop) : Prop :=
  ∀ (mean : ExcName → Option Value) (mg mb : Str → Option Value) (cn : Str) (ns : List (Str × NameKind)) (ig ic : Bool) (mr : List (Str × Const)) (a : Addr) (ccd : Value) (cl : List (Str × Addr)) (h₀ : Heap) (L : Addr) (m : Str → Option Value) (s : Shared) (Q E : Value → Shared → Prop),
    Below callerA h₀ [] h₀ → Fr h₀ L s.heap m → (hd.heap_1 w.params).In h₀ → News h₀ L s.heap news → Top view (looseW view []) mean mg mb h₀ → Ret h₀ L m s Q →
    wpAny (model PySem.Challenge.rw_xj0017_01.row.prog w) (callerA.deeper (envX cn { kind := .function, names := ns, isGenerator := ig, isCoroutine := ic, more := mr } L a ccd cl)) (call (.ref f) vs) Q E s
theorem ne_yes {prog : Program} {w : World} {A : Around} {E : Value → Shared → Prop} {s : Shared} {Q : Value → Shared → Prop} {a b : Int} {t u : Tok} (h : a ≠ b) (hq : Q (.bool true) s) : wpAny (model prog w) A (compareOp .NotEq (.int a t) (.int b u)) Q E s :=
  PyProof.Rows.ne_int (by rw [show (a != b) = true by simpa using h]; exact hq)
theorem ne_same {prog : Program} {w : World} {A : Around} {E : Value → Shared → Prop} {s : Shared} {Q : Value → Shared → Prop} {x : Str} {t u : Tok} (hq : Q (.bool false) s) : wpAny (model prog w) A (compareOp .NotEq (.str x t) (.str x u)) Q E s :=
  PyProof.Rows.ne_str (by rw [bne_self_eq_false]; exact hq)
local macro_rules | `(tactic| walk_at "compareOp NotEq int int") => `(tactic| (with_reducible refine' ne_yes ?a ?_; (case a => with_reducible assumption)))
local macro_rules | `(tactic| walk_at "compareOp NotEq str str") => `(tactic| (with_reducible refine ne_same ?_))
theorem len_made {prog : Program} {w : World} {A : Around} {E : Value → Shared → Prop} {s : Shared} {Q : Value → Shared → Prop} {h₀ : Heap} {L D : Addr} {l : List (Str × Tok)} {n k : Nat} {news : List (Addr × Obj)} (N : News h₀ L s.heap news) (hm : (D, listOf (strValues l).toArray n) ∈ news) (hl : l.length = k) (hk : k ≤ 100000)
    (h : Q (.int (k : Int) (s.toks + 1)) { s with toks := s.toks + 1 + 1 }) : wpAny (model prog w) A (call (.builtin "len") [.ref D]) Q E s := by
  have e : (strValues l).toArray.size = k := by rw [List.size_toArray, ← hl]; simp [strValues]
  refine Calls.call_len_list (News.isList N hm) (by rw [e]; omega) ?_
  rw [e]; exact h
local macro_rules | `(tactic| walk_at "call builtin:len") => `(tactic| k_dflt (refine' len_made ?a ?b ?c ?d ?_; (case a => k_asm); (case b => k_mem); (case c => assumption); (case d => assumption)))

theorem str_bad {prog : Program} {w : World} {A : Around} {E : Value → Shared → Prop} {s : Shared} {Q : Value → Shared → Prop} {K : Frag} {g : Heap} {L C e t : Addr} {m mg mb : Str → Option Value} {n2 : List (Addr × Obj)} {x cname : Str} {tk : Tok} {p : Program} {loose : List Str} {bmB : List Value} {newId : String}
    (F : Fr g L s.heap m) (N : News g L s.heap n2) (G : Got n2 e t (.ref C) [.str x tk]) (X : K.In g) (T : TopRead p loose mg mb g) (ex : nsIn K mainGlobals cname = some (some (.ref C))) (q : excIn K C bmB newId = true) (hbase : bmB.contains (.type "BaseException") = true)
    (hs : findIn K (.ref C) "__str__" = some (some (.builtin "BaseException.__str__"))) (hu : A.units + 2 < cLine) (h : Q (.str x tk) s) : wpAny (model prog w) A (call (.type "str") [.ref e]) Q E s := by
  obtain ⟨bm, N0, nm, qn, bs, hdct, sn, sub, ab, col, dd, k0, k1, k2, k3, k5, mN, hC, hN, hni, TL⟩ := ((own_of_in X T ex q).keeps F.keep).obj
  obtain ⟨oe, ot, ws, nt, h1, h2, hoec, hoed, hoe0, hotc, hotd⟩ := G
  refine own_str (K := K) (C := C) ⟨X.keeps F.keep, hs, ⟨oe, ws, t, ot, nt, (N _ h1).1, hoec, hoed, hoe0, (N _ h2).1, hotd⟩, ⟨_, _, _, _, _, _, _, _, _, _, _, _, _, _, _, _, _, hC, ?_⟩⟩ hu h
  rw [List.contains_cons, TL.hasType hbase]; rfl
local macro_rules | `(tactic| walk_at "call type:str") => `(tactic| (k_here; k_dflt (refine' str_bad (cname := Str.ofString "error_proto") (bmB := [.type "Exception", .type "BaseException", .type "object"]) (newId := "Exception.__new__") ?F ?N ?G ?X ?T ?ex ?q ?hb ?hs ?hu ?_; (case G => assumption); (case F => k_asm); (case N => k_asm); (case X => k_asm); (case T => k_asm); (case ex => k_is); (case q => k_exc); (case hb => rfl); (case hs => k_is); (case hu => k_units))))
theorem refused (w : World) (news : List (Addr × Obj)) (c : Nat) (host f1 f2 f3 : Str) (l : Addr) (n : Nat) (t t1 t2 t3 t4 : Tok) (hm : (l, listOf #[.str f1 t1, .str f2 t2, .str f3 t3] n) ∈ news) (o4 : (mid3 c f1 f2 f3).length ≤ 4000) (h41 : c ≠ 41) (n41 : 41 ∉ mid3 c f1 f2 f3) (hne : (Txt.split ⟨(c :: (mid3 c f1 f2 f3 ++ [c])).toArray⟩ ⟨#[c]⟩).length ≠ 5) :
    CallToL w 142 news [.str ⟨#[c]⟩ t, .str host t4, .ref l] (RetB news true) := by
  unfold CallToL
  k_fill
  intro mean mg mb cn ns ig ic mr a ccd cl h₀ L m s Q E B F X N T hret
  have o1 : (Str.ofString "229 (").length = 5 := by decide
  have o2 : (⟨#[c]⟩ : Str).length = 1 := rfl
  have o3 : (Str.ofString ")").length = 1 := by decide
  have o5 : (Str.join ⟨#[c]⟩ [f1, f2, f3]).length ≤ 4000 := by
    have := o4
    rw [← join_mid] at this
    simpa [Str.length] using this
  have hns : (Txt.split ⟨(c :: (mid3 c f1 f2 f3 ++ [c])).toArray⟩ ⟨#[c]⟩).length ≤ 100000 := by
    have := (fact_split ⟨(c :: (mid3 c f1 f2 f3 ++ [c])).toArray⟩ ⟨#[c]⟩).2
    have e : (⟨(c :: (mid3 c f1 f2 f3 ++ [c])).toArray⟩ : Str).length = (mid3 c f1 f2 f3).length + 2 := by
      show (c :: (mid3 c f1 f2 f3 ++ [c])).toArray.size = _
      simp
    omega
  have hneI : (((Txt.split ⟨(c :: (mid3 c f1 f2 f3 ++ [c])).toArray⟩ ⟨#[c]⟩).length : Nat) : Int) ≠ 5 := by omega
  refine wpAny_call ?_
  k_dflt (refine' code_defT ?k1 ?k2 ?k3 ?k4 ?k5 ?kA ?k6 ?k7 ?k8 ?k9 ?kB ?_ ?cK ?c2 ?c3 ?c4 ?c5; (case kA => exact rfl); (case k1 => k_asm); (case k2 => k_asm); (case k3 => k_asm); (case k4 => k_asm); (case k5 => k_asm); (case k6 => k_is); (case k7 => k_is); (case k8 => k_room); (case k9 => exact BindsTo.of_eq rfl); (case kB => exact locs rfl); (case cK => exact rfl); (case c2 => exact rfl); (case c3 => exact rfl); (case c4 => exact rfl); (case c5 => decide); k_whole)
  intro g' L' h' FG' F' N' B' X' T' D'
  (try dsimp only)
  (try k_lift B')
  (try k_fold)
  k_steps
  rw [resp_eq, beq_self_eq_true]
  refine' hret 0 _ _ ?e2 ?e3
  case e2 => k_asm
  case e3 => exact news_sub (by with_reducible assumption) (List.subset_cons_of_subset _ (List.subset_cons_of_subset _ (List.Subset.refl _)))
end Mine
end

section
open PySem PySem.W PyProof.Rows
set_option Elab.async false
set_option maxRecDepth 100000
set_option maxHeartbeats 4000000
namespace Mine
set_option linter.all false
/-- the law's own statements, taken out of the given program -/
def lawBody : List Stmt := match PySem.Challenge.pw_xj0017_01.main.body.getLast? with
  | some (.FunctionDef _ _ b _ _ _ _ _ _ _) => b
  | _ => []
def lawScope : Scope := match PySem.Challenge.pw_xj0017_01.main.body.getLast? with
  | some (.FunctionDef _ _ _ _ _ _ sc _ _ _) => sc
  | _ => default
def scopeW : { sc : Scope // lawScope = sc } := by
  refine' ⟨_, ?h⟩
  case h =>
    conv => lhs; whnf
abbrev lawEnv (L fa : Addr) (cd : Value) : Env := envOfC (Str.ofString "law") scopeW.1 L fa cd
theorem lawBody_length : lawBody.length = 19 := by decide +kernel
end Mine
namespace Mine
def lawStmt (n : Nat) : Stmt := lawBody.getD n (.Pass default)
theorem lawBody_is : lawBody = [lawStmt 0, lawStmt 1, lawStmt 2, lawStmt 3, lawStmt 4, lawStmt 5, lawStmt 6, lawStmt 7, lawStmt 8, lawStmt 9, lawStmt 10, lawStmt 11, lawStmt 12, lawStmt 13, lawStmt 14, lawStmt 15, lawStmt 16, lawStmt 17, lawStmt 18] := rfl
def sizes : List Int := [5, 13, 17, 21, 29, 33, 37, 41, 45, 53, 57, 61]
end Mine
namespace Mine
theorem ldX_C {M : Model} {A : Around} {E : Value → Shared → Prop} {s : Shared} {h₀ : Heap} {L a : Addr} {cn : Str} {cs : Scope} {ccd : Value} {cl : List (Str × Addr)} {x : Str} {v : Value} {Q : Value → Shared → Prop} {news : List (Addr × Obj)} {c : Addr} {o : Obj}
    (N : News h₀ L s.heap news) (hc : cl.lookup x = some c) (hm : (c, o) ∈ news) (hd : o.data = .cell (some v)) (h : Q v s)
    (hk : cs.kind = .function := by rfl) (hx : (envX cn cs L a ccd cl).kindOf x = some .cell := by rfl) : wpAny M A (loadName (envX cn cs L a ccd cl) x) Q E s := wpAny_loadName_cell hk hx hc ⟨o, N.get hm, hd⟩ h
theorem size_in {r S : Int} (h0 : 0 ≤ r) (h1 : r < 16) (h : ([1, 9, 25, 49].any fun x => x == 4 * r + 1) = true) (hS : S = 4 * r + 1 + 4) : S ∈ sizes := by
  simp at h
  simp [sizes]; omega
theorem size_out {r S : Int} (h0 : 0 ≤ r) (h1 : r < 16) (h : ([1, 9, 25, 49].any fun x => x == 4 * r + 1) = false) (hS : S = 4 * r + 1) : S ∈ sizes := by
  simp at h
  simp [sizes]; omega
end Mine
end

section
theorem Mine.topOffL1 : True := by
  w_top off
  trivial
open PySem PySem.W PyProof.Rows
set_option Elab.async false
set_option maxRecDepth 100000
set_option maxHeartbeats 4000000
namespace Mine
set_option linter.all false
local macro_rules | `(tactic| k_all) => `(tactic| assumption)
theorem news_swap {h₀ h : Heap} {L : Addr} {a b : List (Addr × Obj)} (N : News h₀ L h (a ++ b)) : News h₀ L h (b ++ a) := fun p hp => N p ((List.mem_append.mp hp).elim (fun q => List.mem_append_right _ q) fun q => List.mem_append_left _ q)
theorem fr_eq {h₀ h : Heap} {L : Addr} {m m' : Str → Option Value} (F : Fr h₀ L h m) (e : ∀ y, m y = m' y) : Fr h₀ L h m' := (funext e : m = m') ▸ F
theorem segA (w : World) (mean : ExcName → Option Value) (mg mb : Str → Option Value) (h₀ : Heap) (L fa sc : Addr) (cd : Value) (ns : List Int) (vs : List Value) (s : Shared) (Q : Flow → Shared → Prop) (E : Value → Shared → Prop) (o1 o2 o3 : Obj)
    (B : Below callerA h₀ [] h₀) (F : Fr h₀ L s.heap (fun y => if y = Str.ofString "script" then some (.ref sc) else none)) (X : (hd.heap_1 w.params).In h₀) (T : Top view (looseW view []) mean mg mb h₀)
    (N : News h₀ L s.heap [(L + 3, o3), (L + 2, o2), (L + 1, o1)]) (hl : h₀.IsList sc vs.toArray) (hi : IntsAre vs ns) (hE : PassesOwn (model PySem.Challenge.rw_xj0017_01.row.prog w) (callerA.deeper (lawEnv L fa cd)) (lawEnv L fa cd) E)
    (K : ∀ (lc : Addr) (ws : List Value) (cs : List Int) (c : Nat) (m' : Str → Option Value) (h' : Heap) (tk : Nat), L + 3 < lc → IntsAre ws cs → cs.length = 3 → Fr h₀ L h' (fun y => if y = Str.ofString "cells" then some (.ref lc) else if y = Str.ofString "script" then some (.ref sc) else m' y) →
      News h₀ L h' [(lc, listOf ws.toArray c), (L + 3, o3), (L + 2, o2), (L + 1, o1)] → wpAny (model PySem.Challenge.rw_xj0017_01.row.prog w) (callerA.deeper (lawEnv L fa cd)) (execs (lawBody.drop 2) (lawEnv L fa cd)) Q E { s with heap := h', toks := tk }) :
    wpAny (model PySem.Challenge.rw_xj0017_01.row.prog w) (callerA.deeper (lawEnv L fa cd)) (execs lawBody (lawEnv L fa cd)) Q E s := by
  revert X
  k_fill
  intro X
  conv in (execs lawBody _) => arg 1; whnf
  k_steps
  rename_i lc _ ll _ _ _ _ _ _ _ _
  rename PairSrcL _ _ _ _ _ _ _ _ _ _ _ _ => PS
  refine PS (lawEnv L fa cd) rfl _ _ _ _ (fun i m nx => ∃ ws cs c, nx = [(lc, listOf (List.toArray ws) c), (L + 3, o3), (L + 2, o2), (L + 1, o1)] ∧ IntsAre ws cs ∧ cs.length = 3 ∧ ∀ y, y ≠ Str.ofString "place" → y ≠ Str.ofString "cell" → m y = (if y = Str.ofString "cells" then some (Value.ref lc) else if y = Str.ofString "script" then some (.ref sc) else none)) ⟨[_, _, _], _, _, rfl, .cons _ _ (.cons _ _ (.cons _ _ .nil)), rfl, fun _ _ _ => rfl⟩ ?step ?done
  case step =>
    rintro i a t v m₁ news₁ s₁ own ⟨h, tk, rfl⟩ hai hv ⟨ws, cs, c, rfl, hI, h3, hm⟩ hmap hown F₁ N₁
    obtain ⟨tv, rfl⟩ := ItemKind.int_is hv
    have F₂ := fr_eq F₁ (m' := fun y => if y = Str.ofString "cell" then some (.int a tv) else if y = Str.ofString "place" then some (.int i t) else if y = Str.ofString "cells" then some (Value.ref lc) else if y = Str.ofString "script" then some (.ref sc) else none) (by
      intro y
      by_cases h1 : y = Str.ofString "cell"
      · simp [h1]
      · by_cases h2 : y = Str.ofString "place"
        · simp [h2]
        · simp only [h1, h2, if_false]; exact hm y h2 h1)
    have N₂ := news_swap N₁
    have ho1 : ∀ p ∈ own, p.1 ≠ lc := fun p hp => hown p hp (lc, _) (.head _)
    clear F₁ N₁ PS
    dsimp only at F₂ N₂
    simp only [List.cons_append, List.nil_append] at N₂
    have g0 := fmod_lo (i : Int) (n := 3) (by decide)
    have g1 := fmod_hi (i : Int) (n := 3) (by decide)
    k_steps
    rename_i F' N' hi' hl' hs'
    refine LoopStep2.intro F' (news_swap (a := [_, _, _, _]) N') rfl ⟨_, _, _, rfl, hi', by rw [hl']; exact h3, fun y h1 h2 => ?_⟩
    simp only [h1, h2, if_false]
  case done =>
    rintro h' tk m' news' F' N' hmap ⟨ws, cs, c, rfl, hI, h3, hm⟩
    have F₂ := fr_eq F' (m' := fun y => if y = Str.ofString "cells" then some (Value.ref lc) else if y = Str.ofString "script" then some (.ref sc) else m' y) (by
      intro y
      by_cases h1 : y = Str.ofString "cells"
      · subst h1
        have := hm (Str.ofString "cells") (by decide) (by decide)
        simpa using this
      · by_cases h2 : y = Str.ofString "script"
        · subst h2
          have := hm (Str.ofString "script") (by decide) (by decide)
          simpa using this
        · simp [h1, h2])
    exact K lc ws cs c m' h' tk ll.1 hI h3 F₂ N'
end Mine
end

section
open PySem PySem.W PyProof.Rows
set_option Elab.async false
set_option maxRecDepth 100000
set_option maxHeartbeats 4000000
namespace Mine
set_option linter.all false
/-- the end of a turn: the iterator lies ahead of the ledger -/
def EndJ (h₀ : Heap) (L I : Addr) (oI : Obj) (J : (Str → Option Value) → List (Addr × Obj) → Prop) (s₁ s₂ : Shared) : Prop :=
  ∃ (h' : Heap) (tk : Nat) (m' : Str → Option Value) (nx : List (Addr × Obj)), s₂ = { s₁ with heap := h', toks := tk } ∧ Fr h₀ L h' m' ∧ News h₀ L h' ((I, oI) :: nx) ∧ (∀ p ∈ nx, @Ne Nat p.1 I) ∧ J m' nx
def PostJ (h₀ : Heap) (L I : Addr) (oI : Obj) (J : (Str → Option Value) → List (Addr × Obj) → Prop) (s₁ : Shared) (Q : Flow → Shared → Prop) (f : Flow) (s₂ : Shared) : Prop :=
  match f with
  | .ret v => Q (.ret v) s₂
  | .brk => Q .next s₂
  | _ => EndJ h₀ L I oI J s₁ s₂
theorem EndJ.intro {h₀ : Heap} {L I : Addr} {oI : Obj} {J : (Str → Option Value) → List (Addr × Obj) → Prop} {s₁ : Shared} {h' : Heap} {tk : Nat} {m' : Str → Option Value} {nx : List (Addr × Obj)}
    (F : Fr h₀ L h' m') (N : News h₀ L h' ((I, oI) :: nx)) (ha : ∀ p ∈ nx, @Ne Nat p.1 I) (hJ : J m' nx) : EndJ h₀ L I oI J s₁ { s₁ with heap := h', toks := tk } := ⟨h', tk, m', nx, rfl, F, N, ha, hJ⟩
section
variable {prog : Program} {w : World} {A : Around} {E : Value → Shared → Prop} {s : Shared} {env : Env} {h₀ : Heap} {target : Expr} {body : List Stmt} {Q : Flow → Shared → Prop}
theorem turnsJ {fp : List Addr} {n : Nat} {P : Nat → Value → Prop} {St : Nat → Heap → Prop} {I : Addr} {m : Str → Option Value} {news : List (Addr × Obj)} (J : Nat → (Str → Option Value) → List (Addr × Obj) → Prop)
    (W : Walks prog w A I fp [I] n P St) (hgo : ∀ i v (s : Shared) (Q : Unit → Shared → Prop) (E : Value → Shared → Prop), St i s.heap → Q () s → wpAny (model prog w) A (letOwnedTupleGo target (.ref I) v) Q E s)
    (hI : ∀ i h, St i h → ∃ o, h.get? I = some o) (hLf : env.locals ∉ fp) (hI₀ : h₀.get? I = none) (hst : St 0 s.heap)
    (hfp : ∀ b ∈ fp, b ≠ I → ∃ o, ∀ i m nx, J i m nx → (b, o) ∈ nx)
    (F : Fr h₀ env.locals s.heap m) (N : News h₀ env.locals s.heap news) (hnw : ∀ p ∈ news, @Ne Nat p.1 I) (h0 : J 0 m news)
    (turn : ∀ i v m₁ nx oI h tk, i < n → P i v → J i m₁ nx → (∀ p ∈ nx, @Ne Nat p.1 I) → Fr h₀ env.locals h m₁ → News h₀ env.locals h ((I, oI) :: nx) →
      wpAny (model prog w) A (assign target env v) (fun _ s₃ => wpAny (model prog w) A (execs body env) (PostJ h₀ env.locals I oI (J (i + 1)) { s with heap := h, toks := tk } Q) E s₃) E { s with heap := h, toks := tk })
    (done : ∀ m₁ nx h tk, J n m₁ nx → Fr h₀ env.locals h m₁ → News h₀ env.locals h nx → Q .next { s with heap := h, toks := tk }) :
    TurnsAt prog w A h₀ env target body Q E (.ref I) s := by
  refine ⟨I, fp, [I], n, _, _, St, m, news, J, rfl, KTurns.ofWalks W hgo, hLf, ?_, ?_, hst, F, N, h0, ?_, ?_⟩
  · intro b hb; rw [List.mem_singleton.mp hb]; exact hI₀
  · intro p hp hq; exact hnw p hp (List.mem_singleton.mp hq)
  · intro i v m₁ nx h₁ tk₁ own hin hP hJ hoff hown hget hall hst₁ F₁ N₁
    obtain ⟨oI, heI⟩ := hI _ _ hst₁
    have hmem := hall I (W.sub I (List.mem_singleton.mpr rfl)) hI₀ oI heI
    have hne : ∀ p ∈ nx, @Ne Nat p.1 I := fun p hp q => hoff p hp (List.mem_singleton.mpr q)
    have N₂ : News h₀ env.locals h₁ ((I, oI) :: nx) := fun p hp => by
      rcases List.mem_cons.mp hp with rfl | hp
      · exact N₁ _ (List.mem_append_left _ hmem)
      · exact N₁ _ (List.mem_append_right _ hp)
    refine wpAny_mono (turn i v m₁ nx oI h₁ tk₁ hin hP hJ hne F₁ N₂) (fun _ s₃ h₃ => wpAny_mono h₃ (fun f s₄ p => ?_) fun _ _ e => e) fun _ _ e => e
    have fin : EndJ h₀ env.locals I oI (J (i + 1)) { s with heap := h₁, toks := tk₁ } s₄ → LoopStepU h₀ env.locals [I] own (J (i + 1)) { s with heap := h₁, toks := tk₁ } .next s₄ := by
      rintro ⟨h', tk, m', nx', e, F', N', hn', hJ'⟩
      refine ⟨rfl, h', tk, m', nx', e, F', fun p hp => ?_, fun p hp hq => hn' p hp (List.mem_singleton.mp hq), hJ'⟩
      rcases List.mem_append.mp hp with hp | hp
      · have g := hget p hp
        by_cases hpI : p.1 = I
        · rw [hpI, heI] at g
          have : p = (I, oI) := Prod.ext hpI (Option.some.inj g).symm
          rw [this]; exact N' _ (.head _)
        · obtain ⟨o, ho'⟩ := hfp p.1 (hown p hp) hpI
          have ho := ho' _ _ _ hJ
          have g2 := (N₂ _ (List.mem_cons_of_mem _ ho)).1
          rw [show ((p.1, o) : Addr × Obj).1 = p.1 from rfl, g] at g2
          have : p = (p.1, o) := Prod.ext rfl (Option.some.inj g2)
          rw [this]
          exact N' _ (List.mem_cons_of_mem _ (ho' _ _ _ hJ'))
      · exact N' _ (List.mem_cons_of_mem _ hp)
    cases f with
    | ret v => exact LoopStepV.ret p
    | brk => exact LoopStepV.brk p
    | next => exact LoopStepV.next (fin p)
    | cont => exact LoopStepV.cont (fin p)
  · intro h' tk m' nx' F' N' _ hJ
    exact done m' nx' h' tk hJ F' N'
theorem For_listJ {iter : Expr} {pos : Pos} {l : Addr} {vs : List Value} {k : Nat} {m : Str → Option Value} {news : List (Addr × Obj)} (J : Nat → (Str → Option Value) → List (Addr × Obj) → Prop)
    (F : Fr h₀ env.locals s.heap m) (N : News h₀ env.locals s.heap news) (hl : (l, listOf vs.toArray k) ∈ news) (hh : A.handled = none)
    (hev : wpAny (model prog w) A (eval iter env) (fun xv s₁ => xv = .ref l ∧ ∃ tk, s₁ = { s with toks := tk }) E s) (h0 : J 0 m news)
    (turn : ∀ i v m₁ nx I oI h tk, vs[i]? = some v → (l, listOf vs.toArray k) ∈ nx → J i m₁ nx → (∀ p ∈ nx, @Ne Nat p.1 I) → Fr h₀ env.locals h m₁ → News h₀ env.locals h ((I, oI) :: nx) →
      wpAny (model prog w) A (assign target env v) (fun _ s₃ => wpAny (model prog w) A (execs body env) (PostJ h₀ env.locals I oI (fun m' nx' => (l, listOf vs.toArray k) ∈ nx' ∧ J (i + 1) m' nx') { s with heap := h, toks := tk } Q) E s₃) E { s with heap := h, toks := tk })
    (done : ∀ m₁ nx h tk, J vs.length m₁ nx → (l, listOf vs.toArray k) ∈ nx → Fr h₀ env.locals h m₁ → News h₀ env.locals h nx → Q .next { s with heap := h, toks := tk })
    (hs : ∀ x, foldedSetIterable iter env x = pure x := by intro _; rfl)
    (hE : PassesOwn (model prog w) A env E := by passes_own) :
    wpAny (model prog w) A (exec (.For target iter body [] pos) env) Q E s := by
  refine For_turns F (wpAny_mono hev (fun xv s₁ h₁ => ?_) fun _ _ e => e) hs hE
  obtain ⟨rfl, tk, rfl⟩ := h₁
  have hol : s.heap.get? l = some (listOf vs.toArray k) := (N _ hl).1
  have hls : s.heap.IsList l vs.toArray := ⟨_, hol, rfl, k, rfl⟩
  have hlt := Heap.lt_size hol
  have hne : l ≠ s.heap.objs.size := Nat.ne_of_lt hlt
  refine wpAny_pyIter_list (s := { s with toks := tk }) hls ?_
  have W := Walks.list (prog := prog) (w := w) hh s.heap.objs.size l hne vs.toArray
  have hlen : vs.toArray.size = vs.length := by simp
  rw [hlen] at W
  refine turnsJ (n := vs.length) (m := m) (news := news) (fun i m' nx' => (l, listOf vs.toArray k) ∈ nx' ∧ J i m' nx') W (fun i v s Q E st q => letGo_listiter st.1 q) (fun i h st => by obtain ⟨o, e, _⟩ := st.1; exact ⟨o, e⟩) ?_ (next_is_new F) ⟨⟨_, Heap.get?_push_size _ rfl, rfl, rfl⟩, hls.at fun o e => Heap.get?_push_of_some _ e⟩ ?_ (F.push _) (fun p hp => ⟨Heap.get?_push_of_some _ (N p hp).1, (N p hp).2⟩) (fun p hp => Nat.ne_of_lt (Heap.lt_size (N p hp).1)) ⟨hl, h0⟩ ?_ ?_
  · intro hm
    rcases List.mem_cons.mp hm with e | hm
    · exact absurd F.ns.lt (e ▸ Nat.lt_irrefl _)
    · exact (N _ hl).2.1 ((List.mem_singleton.mp hm).symm)
  · intro b hb hbI
    rcases List.mem_cons.mp hb with e | hb
    · exact absurd e hbI
    · exact ⟨_, fun i m' nx' hj => (List.mem_singleton.mp hb) ▸ hj.1⟩
  · intro i v m₁ nx oI h tk hin hP hj hne F₁ N₁
    exact turn i v m₁ nx _ oI h tk (by simpa using hP) hj.1 hj.2 hne F₁ N₁
  · intro m₁ nx h tk hj F₁ N₁
    exact done m₁ nx h tk hj.2 hj.1 F₁ N₁
theorem iter_rangeJ {r : Addr} {a b c : Int} {t₀ u₀ v₀ : Tok} {n : Nat} {m : Str → Option Value} {news : List (Addr × Obj)} (J : Nat → (Str → Option Value) → List (Addr × Obj) → Prop)
    (F : Fr h₀ env.locals s.heap m) (N : News h₀ env.locals s.heap news) (hr : IsRange s.heap r a b c t₀ u₀ v₀) (hsmall : Builtin.Range.small a b c = true) (hn : Builtin.Range.rangeSize a b c = (n : Int)) (hh : A.handled = none) (h0 : J 0 m news)
    (hgo : ∀ I v, letOwnedTupleGo target (.ref I) v = pure ())
    (turn : ∀ i m₁ nx I oI h tk t, i < n → J i m₁ nx → (∀ p ∈ nx, @Ne Nat p.1 I) → Fr h₀ env.locals h m₁ → News h₀ env.locals h ((I, oI) :: nx) →
      wpAny (model prog w) A (assign target env (.int (a + i * c) t)) (fun _ s₃ => wpAny (model prog w) A (execs body env) (PostJ h₀ env.locals I oI (J (i + 1)) { s with heap := h, toks := tk } Q) E s₃) E { s with heap := h, toks := tk })
    (done : ∀ m₁ nx h tk, J n m₁ nx → Fr h₀ env.locals h m₁ → News h₀ env.locals h nx → Q .next { s with heap := h, toks := tk }) :
    wpAny (model prog w) A (pyIter (.ref r)) (fun it s₂ => TurnsAt prog w A h₀ env target body Q E it s₂) E s := by
  refine wpAny_pyIter_range hr hsmall ?_
  have W : Walks prog w A s.heap.objs.size [s.heap.objs.size] [s.heap.objs.size] n (fun i v => i < n ∧ ∃ t, v = .int (a + i * c) t)
      (fun i h => IsRangeIter h s.heap.objs.size (a + (i : Nat) * c) ((n : Int) - (i : Nat)) c) := (Walks.range hh _ a c n).bound
  refine turnsJ (n := n) (m := m) (news := news) J W (fun i v s Q E st q => by rw [hgo]; exact wpAny_pure q) (fun i h st => ⟨_, st⟩) ?_ (next_is_new F) (by show IsRangeIter _ _ _ _ _; rw [hn]; simpa using Heap.get?_push_size _ rfl) ?_ (F.push _) (fun p hp => ⟨Heap.get?_push_of_some _ (N p hp).1, (N p hp).2⟩) (fun p hp => Nat.ne_of_lt (Heap.lt_size (N p hp).1)) h0 ?_ ?_
  · intro hm
    exact absurd F.ns.lt ((List.mem_singleton.mp hm) ▸ Nat.lt_irrefl _)
  · intro b hb hbI
    exact absurd (List.mem_singleton.mp hb) hbI
  · rintro i v m₁ nx oI h tk hin ⟨_, t, rfl⟩ hj hne F₁ N₁
    exact turn i m₁ nx _ oI h tk t hin hj hne F₁ N₁
  · intro m₁ nx h tk hj F₁ N₁
    exact done m₁ nx h tk hj F₁ N₁
end
/-- names that keep their values -/
def Same (xs : List String) (m m' : Str → Option Value) : Prop := ∀ y, (∀ x ∈ xs, y ≠ Str.ofString x) → m' y = m y
theorem Same.refl {xs : List String} {m : Str → Option Value} : Same xs m m := fun _ _ => rfl
theorem Same.trans {xs : List String} {m m' m'' : Str → Option Value} (h : Same xs m m') (k : Same xs m' m'') : Same xs m m'' := fun y hy => (k y hy).trans (h y hy)
theorem Same.mono {xs ys : List String} {m m' : Str → Option Value} (h : Same xs m m') (k : ∀ x ∈ xs, x ∈ ys) : Same ys m m' := fun y hy => h y fun x hx => hy x (k x hx)
theorem Same.at {xs : List String} {m m' : Str → Option Value} {y : Str} {v : Option Value} (h : Same xs m m') (hm : m y = v) (hy : ∀ x ∈ xs, y ≠ Str.ofString x) : m' y = v := (h y hy).trans hm
theorem Same.put {xs : List String} {m m' : Str → Option Value} {x : Str} {v : Option Value} (h : Same xs m m') (hx : ∃ z ∈ xs, x = Str.ofString z) : Same xs m (fun y => if y = x then v else m' y) := fun y hy => by
  obtain ⟨z, hz, rfl⟩ := hx
  show (if y = Str.ofString z then v else m' y) = m y
  rw [if_neg (hy z hz)]; exact h y hy
theorem Same.pin {xs : List String} {m m' : Str → Option Value} {x : Str} {v : Value} (h : Same xs m m') (hx : m x = some v) : Same xs m (fun y => if y = x then some v else m' y) := fun y hy => by
  show (if y = x then some v else m' y) = m y
  by_cases e : y = x
  · rw [if_pos e, e, hx]
  · rw [if_neg e]; exact h y hy
theorem pin {h₀ h : Heap} {L : Addr} {m m1 : Str → Option Value} {x : Str} {v : Value} (p : Fr h₀ L h m1 ∧ m1 = m) (hx : m x = some v) : Fr h₀ L h (fun y => if y = x then some v else m1 y) ∧ (fun y => if y = x then some v else m1 y) = m := by
  obtain ⟨F, rfl⟩ := p
  have e : (fun y => if y = x then some v else m1 y) = m1 := funext fun y => by
    by_cases e : y = x
    · rw [if_pos e, e, hx]
    · rw [if_neg e]
  exact ⟨e.symm ▸ F, e⟩
theorem Fr.pin {h₀ h : Heap} {L : Addr} {m : Str → Option Value} {x : Str} {v : Value} (F : Fr h₀ L h m) (hx : m x = some v) : Fr h₀ L h (fun y => if y = x then some v else m y) := by
  refine (funext fun y => ?_ : m = fun y => if y = x then some v else m y) ▸ F
  by_cases e : y = x
  · rw [if_pos e, e, hx]
  · rw [if_neg e]
end Mine
end

section
open PySem PySem.W PyProof.Rows
set_option Elab.async false
set_option maxRecDepth 100000
set_option maxHeartbeats 4000000
namespace Mine
set_option linter.all false
abbrev T3 := Int × Int × Int
def dat3 (p : T3) : Dat := .tuple [.int p.1, .int p.2.1, .int p.2.2]
def fitRow (S x : Int) (j : Nat) : List T3 := if x * x + 4 * (1 + (j : Int)) ≤ S ∧ 0 < fitsV (S - x * x) (4 * (1 + (j : Int))) then [(x, 1 + (j : Int), fitsV (S - x * x) (4 * (1 + (j : Int))))] else []
def millsRow (S x : Int) (n : Nat) : List T3 := (List.range n).flatMap (fitRow S x)
def millsTo (S : Int) (i : Nat) : List T3 := (List.range i).flatMap fun (i : Nat) => millsRow S (1 + (i : Int) * 2) 15
theorem millsRow_succ (S x : Int) (n : Nat) : millsRow S x (n + 1) = millsRow S x n ++ fitRow S x n := by
  unfold millsRow; rw [List.range_succ, List.flatMap_append]; simp
theorem millsTo_succ (S : Int) (n : Nat) : millsTo S (n + 1) = millsTo S n ++ millsRow S (1 + (n : Int) * 2) 15 := by
  unfold millsTo; rw [List.range_succ, List.flatMap_append]; simp
theorem fitsV_mul {a b u : Int} (hu : 0 < u) : fitsV (a * u) (b * u) = fitsV a b := by
  unfold fitsV
  rw [Int.mul_comm a, Int.mul_comm b, Int.mul_emod_mul_of_pos _ _ hu, Int.mul_ediv_mul_of_pos _ _ hu]
  have : (u * (a % b) = 0) = (a % b = 0) := by
    apply propext; constructor
    · intro h; rcases Int.mul_eq_zero.mp h with h | h
      · omega
      · exact h
    · intro h; rw [h]; simp
  simp only [this]
theorem fitsV_nonneg {a b : Int} (ha : 0 ≤ a) (hb : 0 < b) : 0 ≤ fitsV a b := by
  unfold fitsV; split
  · exact Int.ediv_nonneg ha (by omega)
  · exact Int.le_refl _
theorem dat_snoc {T : List (Addr × Obj)} {vs : List Value} {ts : List T3} {D : Addr} {x y z : Int} {a b c : Tok} {n : Nat} (h : DatAll T vs (ts.map dat3)) :
    DatAll ((D, ({ cls := .type "tuple", data := .seq #[.int x a, .int y b, .int z c] n } : Obj)) :: T) (vs ++ [.ref D]) ((ts ++ [(x, y, z)]).map dat3) := by
  rw [List.map_append]
  refine DatAll.append (h.mono fun p hp => .tail _ hp) (.one ?_)
  exact DatIn.tuple (vs := [.int x a, .int y b, .int z c]) (.head _) (.cons (.int _ _) (.cons (.int _ _) (.cons (.int _ _) .nil)))
theorem fitRow_len (S x : Int) (j : Nat) : (fitRow S x j).length ≤ 1 := by unfold fitRow; split <;> simp
theorem millsRow_len (S x : Int) : ∀ n, (millsRow S x n).length ≤ n
  | 0 => by simp [millsRow]
  | n + 1 => by rw [millsRow_succ, List.length_append]; have := millsRow_len S x n; have := fitRow_len S x n; omega
theorem millsTo_len (S : Int) : ∀ n, (millsTo S n).length ≤ 15 * n
  | 0 => by simp [millsTo]
  | n + 1 => by rw [millsTo_succ, List.length_append]; have := millsTo_len S n; have := millsRow_len S (1 + (n : Int) * 2) 15; omega
theorem news_rot {h₀ h : Heap} {L : Addr} {d a b c e f g i : Addr × Obj} {T : List (Addr × Obj)} (N : News h₀ L h (d :: a :: b :: c :: e :: f :: g :: i :: T)) : News h₀ L h (a :: b :: c :: e :: f :: g :: i :: d :: T) := fun p hp => N p (by
  simp only [List.mem_cons] at hp ⊢
  rcases hp with h | h | h | h | h | h | h | h | h <;> simp [h])
theorem fits10 (w : World) (news : List (Addr × Obj)) (S x y U : Int) (t1 t2 : Tok) (hc : x * x + 4 * y ≤ S) (hx : 1 ≤ x * x) (hy : 1 ≤ y ∧ y ≤ 15) (hS : 5 ≤ S ∧ S ≤ 61) (hU : 4096 ≤ U) (hU3 : U < (2 : Int) ^ 101) :
    CallTo w 128 news [.int ((S - x * x) * U) t1, .int (4 * y * U) t2] 40 400 (RetI news (fitsV (S - x * x) (4 * y))) := by
  rw [← fitsV_mul (u := U) (by omega)]
  generalize ha : S - x * x = a
  generalize hb : 4 * y = b
  have e1 : 1 * U ≤ b * U := Int.mul_le_mul_of_nonneg_right (by omega) (by omega)
  have e2 : b * U ≤ 60 * U := Int.mul_le_mul_of_nonneg_right (by omega) (by omega)
  have e3 : 1 * U ≤ a * U := Int.mul_le_mul_of_nonneg_right (by omega) (by omega)
  have e4 : a * U ≤ 60 * U := Int.mul_le_mul_of_nonneg_right (by omega) (by omega)
  exact fits w news _ _ t1 t2 (by omega) (by omega) (by omega) (by omega)
theorem fits16 (w : World) (news : List (Addr × Obj)) (S x U : Int) (t1 t2 : Tok) (hx : 1 ≤ x ∧ x ≤ 7) (hS : 5 ≤ S ∧ S ≤ 61) (hU : 4096 ≤ U) (hU3 : U < (2 : Int) ^ 101) :
    CallTo w 128 news [.int (S * U) t1, .int (x * U) t2] 40 400 (RetI news (fitsV S x)) := by
  rw [← fitsV_mul (u := U) (by omega)]
  have e1 : 1 * U ≤ x * U := Int.mul_le_mul_of_nonneg_right (by omega) (by omega)
  have e2 : x * U ≤ 7 * U := Int.mul_le_mul_of_nonneg_right (by omega) (by omega)
  have e3 : 1 * U ≤ S * U := Int.mul_le_mul_of_nonneg_right (by omega) (by omega)
  have e4 : S * U ≤ 61 * U := Int.mul_le_mul_of_nonneg_right (by omega) (by omega)
  exact fits w news _ _ t1 t2 (by omega) (by omega) (by omega) (by omega)
end Mine
end

section
theorem Mine.topOffP3 : True := by
  w_top off
  trivial
open PySem PySem.W PyProof.Rows
set_option Elab.async false
set_option maxRecDepth 100000
set_option maxHeartbeats 4000000
namespace Mine
set_option linter.all false
local macro_rules | `(tactic| walk_at "loadName") => `(tactic| (k_here; k_dflt (refine' ldX_C ?N ?c ?m ?d ?_ ?a ?b; (case a => rfl); (case b => rfl); (case N => k_asm); (case c => rfl); (case m => k_mem); (case d => k_asm))))
local macro_rules | `(tactic| walk_at "exec For Name Call cons nil") => `(tactic| (k_here; (rename Fr _ _ _ _ => lF'); (with_unfolding_all refine' For_turns lF' ?_; k_whole)))
local macro_rules | `(tactic| k_all) => `(tactic| assumption)
local macro_rules | `(tactic| walk_at "binaryOp Mult int int") => `(tactic| k_dflt (refine' mul_bd (j := 70) (k := 130) ?a ?b ?c ?_; (case a => assumption); (case b => assumption); (case c => decide)))
local macro_rules | `(tactic| walk_at "mine call") => `(tactic| (
  (case k1 => k_asm); (case k2 => k_asm); (case k3 => k_asm); (case k4 => k_asm); (case k5 => k_asm); (case kK => first | exact rfl | assumption); (case kd => ktr_room); (case ku => ktr_units)))
local macro_rules | `(tactic| walk_at "call ref") => `(tactic| (k_here; k_dflt (refine' CallTo.use ?k1 ?k2 ?k3 ?k4 ?k5 ?kK (fits10 _ _ _ _ _ _ _ _ ?s1 ?s2 ?s3 ?s4 ?s5 ?s6) ?kd ?ku ?_; (case s1 => with_reducible assumption); (case s2 => with_reducible assumption); (case s3 => with_reducible assumption); (case s4 => with_reducible assumption); (case s5 => with_reducible assumption); (case s6 => with_reducible assumption); walk_at "mine call"; (intro t' h' tk' F' N'; (try dsimp only)))))
local macro_rules | `(tactic| walk_at "call builtin:list.append") => `(tactic| (k_here; k_dflt (refine' append_K ?k1 ?k2 ?k3 ?_ ?z; (case k1 => k_asm); (case k2 => k_asm); (case k3 => k_upd); (case z => with_reducible assumption); k_whole); intro h' F' N'; (try k_sweep)))
theorem st10 (w : World) (mean : ExcName → Option Value) (mg mb : Str → Option Value) (h₀ : Heap) (L fa : Addr) (cd : Value) (s : Shared) (Q : Flow → Shared → Prop) (E : Value → Shared → Prop) (o1 o2 o3 lo : Obj)
    (lc lm : Addr) (S U : Int) (ts tu : Tok) (c : Nat) (m : Str → Option Value) (rest : List Stmt)
    (hS : S ∈ sizes) (d1 : o1.data = .cell (some (.int S ts))) (hU : 4096 ≤ U) (hU2 : U < 4096 + 10 ^ 30)
    (mu : m (Str.ofString "unit") = some (.int U tu)) (mm : m (Str.ofString "mills") = some (.ref lm))
    (B : Below callerA h₀ [] h₀) (F : Fr h₀ L s.heap m) (X : (hd.heap_1 w.params).In h₀) (T : Top view (looseW view []) mean mg mb h₀)
    (hlc : L + 3 < lc) (hlm : lc < lm)
    (N : News h₀ L s.heap [(lm, listOf #[] c), (L + 1, o1), (L + 2, o2), (L + 3, o3), (lc, lo)])
    (K : ∀ (vs : List Value) (k : Nat) (T : List (Addr × Obj)) (m' : Str → Option Value) (h' : Heap) (tk : Nat), Same ["x", "y", "z"] m m' → Fr h₀ L h' m' → DatAll T vs ((millsTo S 4).map dat3) →
      News h₀ L h' ((lm, listOf vs.toArray k) :: (L + 1, o1) :: (L + 2, o2) :: (L + 3, o3) :: (lc, lo) :: T) → (∀ p ∈ T, @LT.lt Nat _ lm p.1) → wpAny (model PySem.Challenge.rw_xj0017_01.row.prog w) (callerA.deeper (lawEnv L fa cd)) (execs rest (lawEnv L fa cd)) Q E { s with heap := h', toks := tk })
    (hE : PassesOwn (model PySem.Challenge.rw_xj0017_01.row.prog w) (callerA.deeper (lawEnv L fa cd)) (lawEnv L fa cd) E) :
    wpAny (model PySem.Challenge.rw_xj0017_01.row.prog w) (callerA.deeper (lawEnv L fa cd)) (execs (lawStmt 10 :: rest) (lawEnv L fa cd)) Q E s := by
  revert X
  k_fill
  intro X
  have F1 := (pin (pin ⟨F, rfl⟩ mu) mm).1
  conv in (lawStmt 10) => whnf
  k_steps
  rename IsRange _ _ _ _ _ _ _ _ => hr
  rename Fr _ _ _ _ => F2
  rename News _ _ _ _ => N2
  have hlm' : @LT.lt Nat _ lc lm := hlm
  have hlc' : @LT.lt Nat _ (L + 3) lc := hlc
  have hU3 : U < 2 ^ 101 := by omega
  have bU : Bd 130 U := by unfold Bd; omega
  have b4 : Bd 70 4 := Bd.lit (by decide)
  have hS5 : 5 ≤ S ∧ S ≤ 61 := by simp [sizes] at hS; omega
  refine iter_rangeJ (n := 4) (fun i m₁ nx => ∃ vs k T, nx = (lm, listOf vs.toArray k) :: (L + 1, o1) :: (L + 2, o2) :: (L + 3, o3) :: (lc, lo) :: T ∧ DatAll T vs ((millsTo S i).map dat3) ∧ (∀ p ∈ T, @LT.lt Nat _ lm p.1) ∧ Same ["x", "y", "z"] m m₁) F2 N2 hr (by decide) (by decide) rfl ⟨[], c, [], rfl, .nil, fun p hp => (nomatch hp), ?_⟩ (fun _ _ => rfl) ?_ ?_
  · intro y hy; exact congrFun (pin (pin ⟨F, rfl⟩ mu) mm).2 y
  · rintro i m₁ nx I oI h tk t hi ⟨vs, k, T', rfl, hD, hT, hsame⟩ hne F₁ N₁
    have F2 : Fr h₀ L h _ := F₁
    have N2 : News h₀ L h _ := N₁
    have F3 := (pin (pin ⟨F2, rfl⟩ (hsame.at mu (by decide))) (hsame.at mm (by decide))).1
    clear F₁ N₁ F2
    generalize hx : (1 + (i : Int) * 2) = x
    have hx1 : 1 ≤ x ∧ x ≤ 7 := by omega
    have hx7 : x * x ≤ 49 := by
      have := Int.mul_le_mul hx1.2 hx1.2 (by omega) (by decide); simpa using this
    have hxx : 1 ≤ x * x := by
      have := Int.mul_le_mul hx1.1 hx1.1 (by decide) (by omega); simpa using this
    have hneT : ∀ p ∈ T', @Ne Nat p.1 I := fun p hp => hne p (.tail _ (.tail _ (.tail _ (.tail _ (.tail _ hp)))))
    have hlI : @Ne Nat lm I := hne (lm, _) (.head _)
    have hL1 : @Ne Nat (L+1) I := hne (L+1, _) (.tail _ (.head _))
    have hL2 : @Ne Nat (L+2) I := hne (L+2, _) (.tail _ (.tail _ (.head _)))
    have hL3 : @Ne Nat (L+3) I := hne (L+3, _) (.tail _ (.tail _ (.tail _ (.head _))))
    have hL4 : @Ne Nat lc I := hne (lc, _) (.tail _ (.tail _ (.tail _ (.tail _ (.head _)))))
    k_steps
    rename IsRange _ _ _ _ _ _ _ _ => hr
    rename Fr _ _ _ _ => F4
    rename News _ _ _ _ => N4
    refine iter_rangeJ (n := 15) (fun j m₁ nx => ∃ vs k T, nx = (I, oI) :: (lm, listOf vs.toArray k) :: (L + 1, o1) :: (L + 2, o2) :: (L + 3, o3) :: (lc, lo) :: T ∧ DatAll T vs ((millsTo S i ++ millsRow S x j).map dat3) ∧ (∀ p ∈ T, @LT.lt Nat _ lm p.1) ∧ (∀ p ∈ T, @Ne Nat p.1 I) ∧ Same ["x", "y", "z"] m m₁ ∧ m₁ (Str.ofString "x") = some (.int x t)) F4 N4 hr (by decide) (by decide) rfl ⟨vs, k, T', rfl, by simpa [millsRow] using hD, hT, hneT, ?_, rfl⟩ (fun _ _ => rfl) ?_ ?_
    · exact (((hsame.pin ((hsame.at mu (by decide)).symm ▸ mu)).pin ((hsame.at mm (by decide)).symm ▸ mm))).put ⟨"x", by decide, rfl⟩
    · rintro j m₂ nx I' oI' h2 tk2 t2 hj ⟨vs, k, T', rfl, hD, hT, hneT, hsame, hxv⟩ hne' F₁ N₁
      have F2 : Fr h₀ L h2 _ := F₁
      have N2 : News h₀ L h2 _ := N₁
      have F3 := (pin (pin (pin ⟨F2, rfl⟩ (hsame.at mu (by decide))) (hsame.at mm (by decide))) hxv).1
      clear F₁ N₁ F2
      generalize hy : (1 + (j : Int) * 1) = y
      have hy1 : 1 ≤ y ∧ y ≤ 15 := by omega
      have hTlm : ∀ p ∈ T', p.1 ≠ lm := fun p hp => Nat.ne_of_gt (hT p hp)
      have hzs : vs.toArray.size ≤ sizeLine := by
        have e1 := hD.length
        rw [List.length_map, List.length_append] at e1
        have := millsTo_len S i
        have := millsRow_len S x j
        rw [List.size_toArray, sizeLine_eq]; omega
      have hq1 : @Ne Nat I lm := hlI.symm
      have hq2 : @Ne Nat I' lm := (hne' (lm, _) (.tail _ (.head _))).symm
      have hq3 : @Ne Nat I I' := hne' (I, _) (.head _)
      have b1 : Bd 70 x := by unfold Bd; omega
      have b2 : Bd 130 x := by unfold Bd; omega
      have b3 : Bd 130 y := by unfold Bd; omega
      have b5 : Bd 70 (S - x * x) := by unfold Bd; omega
      have b6 : Bd 70 (4 * y) := by unfold Bd; omega
      have g0 : x * x + 4 * y ≤ S → 0 ≤ fitsV (S - x * x) (4 * y) := fun _ => fitsV_nonneg (by omega) (by omega)
      k_steps
      · exfalso; omega
      · rename_i D' h' l1 h'' F6 N6
        have er : fitRow S x j = [(x, y, fitsV (S - x * x) (4 * y))] := by
          unfold fitRow
          rw [show 1 + (j : Int) = y by omega, if_pos (by omega)]
        rw [List.push_toArray] at N6
        refine EndJ.intro F6 (news_rot N6) ?_ ⟨_, _, _, rfl, ?_, ?_, ?_, ?_, rfl⟩
        · have := fun p hp => hne' p hp
          intro p hp
          rcases List.mem_cons.mp hp with rfl | hp
          · exact hq3
          · rcases List.mem_cons.mp hp with rfl | hp
            · exact hq2.symm
            · simp only [List.mem_cons] at hp
              rcases hp with h | h | h | h | h | h
              · exact this p (by simp [h])
              · exact this p (by simp [h])
              · exact this p (by simp [h])
              · exact this p (by simp [h])
              · rw [h]; exact Nat.ne_of_gt l1.1
              · exact this p (by simp [h])
        · rw [millsRow_succ, er, ← List.append_assoc]
          exact dat_snoc hD
        · exact List.forall_mem_cons.mpr ⟨l1.2.2.1, hT⟩
        · exact List.forall_mem_cons.mpr ⟨Nat.ne_of_gt l1.2.1, hneT⟩
        · exact ((((hsame.pin ((hsame.at mu (by decide)).symm ▸ mu)).pin ((hsame.at mm (by decide)).symm ▸ mm)).put ⟨"x", by decide, rfl⟩).put ⟨"y", by decide, rfl⟩).put ⟨"z", by decide, rfl⟩
      · rename Fr _ _ _ _ => F5
        rename News _ _ _ _ => N5
        have er : fitRow S x j = [] := by
          unfold fitRow
          rw [show 1 + (j : Int) = y by omega, if_neg (by omega)]
        refine EndJ.intro F5 N5 (fun p hp => hne' p hp) ⟨vs, k, T', rfl, by rw [millsRow_succ, er, List.append_nil]; exact hD, hT, hneT, ?_, rfl⟩
        exact ((((hsame.pin ((hsame.at mu (by decide)).symm ▸ mu)).pin ((hsame.at mm (by decide)).symm ▸ mm)).put ⟨"x", by decide, rfl⟩).put ⟨"y", by decide, rfl⟩).put ⟨"z", by decide, rfl⟩
      · rename Fr _ _ _ _ => F5
        rename News _ _ _ _ => N5
        have er : fitRow S x j = [] := by
          unfold fitRow
          rw [show 1 + (j : Int) = y by omega, if_neg (by omega)]
        refine EndJ.intro F5 N5 (fun p hp => hne' p hp) ⟨vs, k, T', rfl, by rw [millsRow_succ, er, List.append_nil]; exact hD, hT, hneT, ?_, rfl⟩
        exact ((((hsame.pin ((hsame.at mu (by decide)).symm ▸ mu)).pin ((hsame.at mm (by decide)).symm ▸ mm)).put ⟨"x", by decide, rfl⟩).put ⟨"y", by decide, rfl⟩)
    · rintro m₁ nx h tk ⟨vs, k, T', rfl, hD, hT, hneT, hsame, hxv⟩ F₁ N₁
      refine wpAny_execs_nil ?_
      refine EndJ.intro F₁ N₁ ?_ ⟨vs, k, T', rfl, ?_, hT, hsame⟩
      · exact List.forall_mem_cons.mpr ⟨hlI, List.forall_mem_cons.mpr ⟨hL1, List.forall_mem_cons.mpr ⟨hL2, List.forall_mem_cons.mpr ⟨hL3, List.forall_mem_cons.mpr ⟨hL4, hneT⟩⟩⟩⟩⟩
      · rw [millsTo_succ, hx]; exact hD
  · rintro m₁ nx h tk ⟨vs, k, T', rfl, hD, hT, hsame⟩ F₁ N₁
    exact K vs k T' m₁ h tk hsame F₁ hD N₁ hT
end Mine
end

section
open PySem PySem.W PyProof.Rows PySem.Spec PySem.Calls
open PyProof.Rows.LCg
set_option Elab.async false
set_option maxRecDepth 100000
set_option maxHeartbeats 4000000
namespace Mine
set_option linter.all false
section
variable {prog : Program} {w : World} {A : Around} {E : Value → Shared → Prop} {s : Shared} {h₀ : Heap} {L : Addr} {m : Str → Option Value} {env : Env}
/-- the tests of a clause, and the item where they hold -/
def TestJ (prog : Program) (w : World) (A : Around) (ifs : List PySem.Expr) (elt : PySem.Expr) (env : Env) (Yes : Value → Shared → Prop) (No : Shared → Prop) (E : Value → Shared → Prop) (s : Shared) : Prop :=
  wpAny (model prog w) A (forIn ifs true fun c r => if r = true then do let ok ← isTrue c env (eval c env); pure (ForInStep.yield ok) else pure (ForInStep.yield r))
    (fun ok s₃ => if ok = true then wpAny (model prog w) A (eval elt env) Yes E s₃ else No s₃) E s
theorem TestJ.nil {elt : PySem.Expr} {Yes : Value → Shared → Prop} {No : Shared → Prop} (h : wpAny (model prog w) A (eval elt env) Yes E s) : TestJ prog w A [] elt env Yes No E s :=
  wpAny_tests_nil (by simpa using h)
theorem TestJ.one {c elt : PySem.Expr} {Yes : Value → Shared → Prop} {No : Shared → Prop}
    (h : wpAny (model prog w) A (isTrue c env (eval c env)) (fun ok s₃ => if ok = true then wpAny (model prog w) A (eval elt env) Yes E s₃ else No s₃) E s) : TestJ prog w A [c] elt env Yes No E s := wpAny_tests_one h
theorem TestJ.mono {ifs : List PySem.Expr} {elt : PySem.Expr} {Yes Yes' : Value → Shared → Prop} {No No' : Shared → Prop} (h : TestJ prog w A ifs elt env Yes No E s) (hy : ∀ v s', Yes v s' → Yes' v s') (hn : ∀ s', No s' → No' s') : TestJ prog w A ifs elt env Yes' No' E s :=
  wpAny_mono h (fun ok s₃ h₃ => by
    cases ok with
    | true => exact wpAny_mono h₃ (fun v s' q => hy v s' q) fun _ _ e => e
    | false => exact hn _ h₃) fun _ _ e => e
theorem compLoopJ {elt iter target : PySem.Expr} {ifs : List PySem.Expr} {scope : Scope} {pos : Pos} {it acc : Value} {R : Result → Shared → Prop} (I : Nat → Shared → Prop)
    (turn : ∀ n s, I n s → wpAny (model prog w) A (pyNext it) (fun r s₁ => match r with
      | none => R (.ok .next) s₁
      | some v => wpAny (model prog w) A (letOwnedTupleGo target it v) (fun _ s₁' => wpAny (model prog w) A (assign target env v) (fun _ s₂ =>
          TestJ prog w A ifs elt env (fun x s₄ => wpAny (model prog w) A (call (.builtin "list.append") [acc, x]) (fun _ s₅ => ∃ m, m < n ∧ I m s₅) (notedBy (model prog w) A env fun e s' => R (.error e) s') s₄) (fun s₅ => ∃ m, m < n ∧ I m s₅) (notedBy (model prog w) A env fun e s' => R (.error e) s') s₂)
          (notedBy (model prog w) A env fun e s' => R (.error e) s') s₁') (notedBy (model prog w) A env fun e s' => R (.error e) s') s₁) (notedBy (model prog w) A env fun e s' => R (.error e) s') s)
    (n : Nat) (h : I n s) : codeAny (model prog w) A (.compLoop (.ListComp elt [⟨target, iter, ifs, 0⟩] scope pos) 0 it acc env) R s := by
  refine codeAny_loop rfl I (fun n s hI => ?_) n h
  show wpAny _ A ((compTurn (.ListComp elt [⟨target, iter, ifs, 0⟩] scope pos) 0 it acc env).onRaise (fun x => do noteFrame x env; theTreesLotGoes x)) _ _ s
  refine wpAny_noted ?_
  rw [compTurn_list]
  refine wpAny_bind (wpAny_standAt (wpAny_bind (wpAny_mono (turn n s hI) (fun r s₁ h₁ => ?_) fun _ _ h' => h')))
  cases r with
  | none => exact wpAny_pure h₁
  | some v =>
    refine wpAny_bind (wpAny_mono h₁ (fun _ s₁' h₁' => ?_) fun _ _ h' => h')
    refine wpAny_bind (wpAny_mono h₁' (fun _ s₂ h₂ => wpAny_bind (wpAny_mono h₂ (fun ok s₃ h₃ => ?_) fun _ _ h' => h')) fun _ _ h' => h')
    cases ok with
    | false => exact wpAny_pure ⟨rfl, h₃⟩
    | true =>
      exact wpAny_bind (wpAny_bind (wpAny_mono h₃ (fun x s₄ h₄ => wpAny_bind (wpAny_mono h₄ (fun _ s₅ h₅ => wpAny_pure (wpAny_pure ⟨rfl, h₅⟩)) fun _ _ h' => h')) fun _ _ h' => h'))
/-- one turn's names -/
def TurnJ (prog : Program) (w : World) (A : Around) (h₀ : Heap) (L : Addr) (m : Str → Option Value) (env : Env) (ifs : List PySem.Expr) (elt : PySem.Expr) (x y z : Str) (scope : Scope) (cl : List (Str × Addr)) (s : Shared) (S : List (Addr × Obj) → Prop)
    (J : Nat → List Value → List (Addr × Obj) → Prop) (i : Nat) (v : Value) (ys : List Value) (nx : List (Addr × Obj)) : Prop :=
  ∃ (t : Addr) (ot : Obj) (v₁ v₂ v₃ : Value) (nt : Nat), v = .ref t ∧ (t, ot) ∈ nx ∧ ot.cls = .type "tuple" ∧ ot.data = .seq #[v₁, v₂, v₃] nt ∧
    ∀ I oI C oC D m₂ h tk (E' : Value → Shared → Prop), NsObj oC m₂ → m₂ x = some v₁ → m₂ y = some v₂ → m₂ z = some v₃ → Fr h₀ L h m → News h₀ L h ((I, oI) :: (C, oC) :: (D, lst ys) :: nx) → Off3 I C D nx → ((@Ne Nat I C) ∧ (@Ne Nat I D) ∧ (@Ne Nat C D)) →
      TestJ prog w A ifs elt (compEnvC scope cl C env) (CompEnd h₀ L m { s with heap := h, toks := tk } I oI C oC D (lst ys) S (fun r nx' => J (i + 1) (ys ++ [r]) nx'))
        (CompEnd h₀ L m { s with heap := h, toks := tk } I oI C oC D (lst ys) S (fun _ nx' => J (i + 1) ys nx') .none) E' { s with heap := h, toks := tk }
theorem block3 {elt iter : PySem.Expr} {ifs : List PySem.Expr} {x y z : Str} {px py pz tp : Pos} {tk} {scope : Scope} {cl : List (Str × Addr)} {pos : Pos} {s₂ : Shared} {I l : Addr} {vs : List Value} {k : Nat} {news : List (Addr × Obj)}
    {J : Nat → List Value → List (Addr × Obj) → Prop} {RR : Value → Addr → Result → Shared → Prop}
    (hsz : vs.length ≤ sizeLine) (hlI : l ≠ I) (hst : s₂.heap.IsListIter I l 0 ∧ s₂.heap.IsList l vs.toArray)
    (hcell : ∀ y ∈ scope.names, y.2 ≠ .cell) (hkind : scope.kind = .function) (hx : scope.names.lookup x = some .local) (hy : scope.names.lookup y = some .local) (hz : scope.names.lookup z = some .local) (hxy : x ≠ y) (hxz : x ≠ z) (hyz : y ≠ z) (hh : A.handled = none)
    (F : Fr h₀ L s₂.heap m) (N : News h₀ L s₂.heap news) (hIL : L ≠ I) (hI₀ : h₀.get? I = none) (off : ∀ p ∈ news, p.1 ≠ I)
    (hl : (l, listOf vs.toArray k) ∈ news) (h0 : J 0 [] news)
    (turn : ∀ i v ys nx, vs[i]? = some v → ys.length ≤ i → (l, listOf vs.toArray k) ∈ nx → J i ys nx → TurnJ prog w A h₀ L m env ifs elt x y z scope cl s₂ (fun nx => (l, listOf vs.toArray k) ∈ nx) J i v ys nx)
    (hRR : ∀ D C h tk m' ys news', Fr h₀ L h m → News h₀ L h ((D, lst ys) :: news') → (∀ p ∈ news', p.1 ≠ D) → h.Ns C m' → h₀.get? C = none → h₀.get? D = none → C ≠ L → D ≠ L → C ≠ D → (∀ p ∈ news', p.1 ≠ C) → J vs.length ys news' → (l, listOf vs.toArray k) ∈ news' → RR (.ref D) C (.ok .next) { s₂ with heap := h, toks := tk }) :
    wpAny (model prog w) A (newList []) (fun acc s₃ => wpAny (model prog w) A (newFunctionEnv scope env.globals cl [] env.qual none .none (some env)) (fun cenv s₄ =>
      codeAny (model prog w) A (.compStart (.ListComp elt [⟨.Tuple [.Name x px, .Name y py, .Name z pz] tk tp, iter, ifs, 0⟩] scope pos) 0 (.ref I) acc { cenv with scope := relabel scope env }) (RR acc cenv.locals) s₄) E s₃) E s₂ := by
  refine wpAny_newObj_type (wpAny_newFunctionEnv hcell (by intro y hy; simp at hy) (fun h₁ hns₁ hsb₁ => ?_) hkind)
  dsimp only at hns₁ hsb₁ ⊢
  generalize hH2 : s₂.heap.push { cls := .type "list", dict := none, data := .seq ([] : List Value).toArray } = H2 at hns₁ hsb₁ ⊢
  have W := Walks.list (prog := prog) (w := w) hh I l hlI vs.toArray
  have hlen : vs.toArray.size = vs.length := by simp
  rw [hlen] at W
  have hC : H2.objs.size = s₂.heap.objs.size + 1 := by rw [← hH2, Heap.size_push]
  have hDC : s₂.heap.objs.size ≠ H2.objs.size := by rw [hC]; exact Nat.ne_of_lt (Nat.lt_succ_self _)
  have below : ∀ b, b < s₂.heap.objs.size → b ≠ H2.objs.size ∧ b ≠ s₂.heap.objs.size := fun b hb => ⟨by rw [hC]; exact Nat.ne_of_lt (Nat.lt_succ_of_lt hb), Nat.ne_of_lt hb⟩
  have hIlt : I < s₂.heap.objs.size := by obtain ⟨o, e, _⟩ := hst.1; exact Heap.lt_size e
  have old : ∀ b o, s₂.heap.get? b = some o → h₁.get? b = some o := fun b o e => hsb₁.extBut b o (below b (Heap.lt_size e)).1 (Heap.get?_push_of_some _ (hH2 ▸ Heap.get?_push_of_some _ e))
  have hacc : h₁.get? s₂.heap.objs.size = some (lst []) := hsb₁.extBut _ _ hDC (Heap.get?_push_of_some _ (hH2 ▸ Heap.get?_push_size _ rfl))
  have hst₁ : h₁.IsListIter I l 0 ∧ h₁.IsList l vs.toArray := W.frame _ _ _ hst fun b _ o e => old b o e
  have fresh : ∀ a, s₂.heap.objs.size ≤ a → s₂.heap.get? a = none := fun a ha => by
    cases e : s₂.heap.get? a with
    | none => rfl
    | some o' => exact absurd (Heap.lt_size e) (Nat.not_lt.mpr ha)
  have fresh₀ : ∀ a, s₂.heap.objs.size ≤ a → h₀.get? a = none := fun a ha => by
    cases e : h₀.get? a with
    | none => rfl
    | some o' => have := F.keep a o' e; rw [fresh a ha] at this; cases this
  have hD₀ : h₀.get? s₂.heap.objs.size = none := fresh₀ _ (Nat.le_refl _)
  have hC₀ : h₀.get? H2.objs.size = none := fresh₀ _ (by rw [hC]; exact Nat.le_succ _)
  have hLlt : L < s₂.heap.objs.size := F.ns.lt
  have hDL : s₂.heap.objs.size ≠ L := Ne.symm (below L hLlt).2
  have hCL : H2.objs.size ≠ L := Ne.symm (below L hLlt).1
  have hCI : I ≠ H2.objs.size := (below I hIlt).1
  have hDI : I ≠ s₂.heap.objs.size := (below I hIlt).2
  have hlD : l ≠ s₂.heap.objs.size := (below l (Heap.lt_size (N _ hl).1)).2
  have hlC : l ≠ H2.objs.size := (below l (Heap.lt_size (N _ hl).1)).1
  have off₀ : Off3 I H2.objs.size s₂.heap.objs.size news := Off3.of fun p hp => ⟨off p hp, (below _ (Heap.lt_size (N p hp).1)).1, (below _ (Heap.lt_size (N p hp).1)).2⟩
  have loop : ∀ s₃ : Shared, s₃ = { s₂ with heap := h₁, toks := s₂.toks + ([] : List (Str × Value)).length } →
      codeAny (model prog w) A (.compLoop (.ListComp elt [⟨.Tuple [.Name x px, .Name y py, .Name z pz] tk tp, iter, ifs, 0⟩] scope pos) 0 (.ref I) (.ref s₂.heap.objs.size) (compEnvC scope cl H2.objs.size env))
        (RR (.ref s₂.heap.objs.size) H2.objs.size) s₃ := by
    rintro s₃ rfl
    refine compLoopJ
      (fun kk s' => ∃ h' tk i ys m' news', s' = { s₂ with heap := h', toks := tk } ∧ i ≤ vs.length ∧ kk = vs.length + 1 - i ∧ ys.length ≤ i ∧ (h'.IsListIter I l i ∧ h'.IsList l vs.toArray) ∧ Fr h₀ L h' m ∧ h'.Ns H2.objs.size m' ∧ News h₀ L h' ((s₂.heap.objs.size, lst ys) :: news') ∧
        Off3 I H2.objs.size s₂.heap.objs.size news' ∧ (l, listOf vs.toArray k) ∈ news' ∧ J i ys news') ?_ (vs.length + 1)
      ⟨h₁, _, 0, [], _, news, rfl, Nat.zero_le _, rfl, Nat.le_refl _, hst₁, F.keeps old, hns₁, fun p hp => ?_, off₀, hl, h0⟩
    · rintro kk s' ⟨h', tk, i, ys, m', news', rfl, hi, rfl, hyl, hst', F', hn', N', off', hS', hJ'⟩
      by_cases hlt : i < vs.length
      · refine W.item i _ _ _ hlt hst' fun v h₂ tk₂ hPv hst₂ hk₂ => ?_
        obtain ⟨t, ot, v₁, v₂, v₃, nt, rfl, hmt, hct, hdt, R''⟩ := turn i v ys news' (by simpa using hPv) hyl hS' hJ'
        have off3 := off'.mem
        have N₂ : News h₀ L h₂ ((s₂.heap.objs.size, lst ys) :: news') := news_but N' hk₂ fun p hp => by
          rcases List.mem_cons.mp hp with rfl | hp
          · exact Ne.symm hDI
          · exact (off3 p hp).1
        have ht : IsTup h₂ t #[v₁, v₂, v₃] := ⟨ot, (N₂ _ (List.mem_cons_of_mem _ hmt)).1, hct, nt, hdt⟩
        refine wpAny_letOwnedTupleGo_listiter hst₂.1 ?_
        refine assign_Tuple_tuple hh ht rfl rfl fun h₅ he => ?_
        have he' : ∀ b o, h₂.get? b = some o → h₅.get? b = some o := fun b o e => he b o (Nat.ne_of_lt (Heap.lt_size e)) e
        refine assignInOrder_cons (wpAny_assign_Name (wpAny_storeName_local (lookup_relabel_local hx) ((hn'.at' fun o e => hk₂ _ o (by simpa using Ne.symm hCI) e).at' fun o e => he' _ o e) (fun h₆ hn₆ hs₆ => ?_) (by simp [compEnvC, relabel, hkind])))
        refine assignInOrder_cons (wpAny_assign_Name (wpAny_storeName_local (lookup_relabel_local hy) hn₆ (fun h₇ hn₇ hs₇ => ?_) (by simp [compEnvC, relabel, hkind])))
        refine assignInOrder_cons (wpAny_assign_Name (wpAny_storeName_local (lookup_relabel_local hz) hn₇ (fun h₃ hn₃ hs₃ => ?_) (by simp [compEnvC, relabel, hkind])))
        refine assignInOrder_nil ?_
        have old3 : ∀ b o, b ≠ H2.objs.size → h₂.get? b = some o → h₃.get? b = some o := fun b o hb e => hs₃.extBut b o hb (hs₇.extBut b o hb (hs₆.extBut b o hb (he' b o e)))
        have hst₃ : h₃.IsListIter I l (i + 1) ∧ h₃.IsList l vs.toArray := W.frame _ _ _ hst₂ fun b hb o e => old3 b o (fun q => by
          rcases List.mem_cons.mp hb with e | hb
          · exact hCI (e.symm.trans q)
          · exact hlC ((List.mem_singleton.mp hb).symm.trans q)) e
        obtain ⟨oI, heI, hcI, hdI⟩ := hst₃.1
        obtain ⟨oC, heC, hoC⟩ := ns_obj hn₃
        have F₃ : Fr h₀ L h₃ m := ((((fr_but F' hk₂ hIL hI₀).keeps he').change hs₆ hCL hC₀).change hs₇ hCL hC₀).change hs₃ hCL hC₀
        have N₃ : News h₀ L h₃ ((I, oI) :: (H2.objs.size, oC) :: (s₂.heap.objs.size, lst ys) :: news') := fun p hp => by
          rcases List.mem_cons.mp hp with rfl | hp
          · exact ⟨heI, Ne.symm hIL, hI₀⟩
          · rcases List.mem_cons.mp hp with rfl | hp
            · exact ⟨heC, hCL, hC₀⟩
            · have z := N₂ p hp
              refine ⟨old3 _ _ ?_ z.1, z.2⟩
              rcases List.mem_cons.mp hp with rfl | hp
              · exact hDC
              · exact (off3 p hp).2.1
        refine (R'' I oI H2.objs.size oC s₂.heap.objs.size _ h₃ _ _ hoC (by simp [hxy, hxz]) (by simp [hyz]) (by simp) F₃ N₃ off' ⟨hCI, hDI, Ne.symm hDC⟩).mono (fun r s₄ h₄ => ?_) fun s₄ h₄ => ?_
        · obtain ⟨h₄, tk₄, news₄, rfl, F₄, N₄, off₄, hS₄, J₄⟩ := h₄
          have zI := (N₄ (I, oI) List.mem_cons_self).1
          have zC := (N₄ (H2.objs.size, oC) (List.mem_cons_of_mem _ List.mem_cons_self)).1
          have zD := (N₄ (s₂.heap.objs.size, lst ys) (List.mem_cons_of_mem _ (List.mem_cons_of_mem _ List.mem_cons_self))).1
          have N₄' : News h₀ L h₄ news₄ := fun p hp => N₄ p (List.mem_cons_of_mem _ (List.mem_cons_of_mem _ (List.mem_cons_of_mem _ hp)))
          have hst₄ : h₄.IsListIter I l (i + 1) ∧ h₄.IsList l vs.toArray := ⟨⟨oI, zI, hcI, hdI⟩, ⟨_, (N₄' _ hS₄).1, rfl, k, rfl⟩⟩
          refine append_at (hsz := by show ys.toArray.size ≤ sizeLine; rw [List.size_toArray]; omega) zD fun h₅ hs₅ hD₅ => ?_
          have off4 := off₄.mem
          refine ⟨vs.length + 1 - (i + 1), by omega, h₅, tk₄, i + 1, ys ++ [r], _, news₄, rfl, hlt, rfl, by rw [List.length_append, List.length_singleton]; omega, W.frame _ _ _ hst₄ fun b hb o e => hs₅.extBut b o (fun q => ?_) e, F₄.change hs₅ hDL hD₀,
            (hoC.ns zC).sameBut hs₅ (Ne.symm hDC), fun p hp => ?_, off₄, hS₄, J₄⟩
          · rcases List.mem_cons.mp hb with e | hb
            · exact hDI (e.symm.trans q)
            · exact hlD ((List.mem_singleton.mp hb).symm.trans q)
          · rcases List.mem_cons.mp hp with rfl | hp
            · exact ⟨hD₅.trans (congrArg some (lst_snoc ys r)), hDL, hD₀⟩
            · exact ⟨hs₅.extBut _ _ (off4 p hp).2.2 (N₄' p hp).1, (N₄' p hp).2⟩
        · obtain ⟨h₄, tk₄, news₄, rfl, F₄, N₄, off₄, hS₄, J₄⟩ := h₄
          have zI := (N₄ (I, oI) List.mem_cons_self).1
          have zC := (N₄ (H2.objs.size, oC) (List.mem_cons_of_mem _ List.mem_cons_self)).1
          have N₄' : News h₀ L h₄ news₄ := fun p hp => N₄ p (List.mem_cons_of_mem _ (List.mem_cons_of_mem _ (List.mem_cons_of_mem _ hp)))
          have hst₄ : h₄.IsListIter I l (i + 1) ∧ h₄.IsList l vs.toArray := ⟨⟨oI, zI, hcI, hdI⟩, ⟨_, (N₄' _ hS₄).1, rfl, k, rfl⟩⟩
          exact ⟨vs.length + 1 - (i + 1), by omega, h₄, tk₄, i + 1, ys, _, news₄, rfl, hlt, rfl, by omega, hst₄, F₄, hoC.ns zC, fun p hp => N₄ p (List.mem_cons_of_mem _ (List.mem_cons_of_mem _ hp)), off₄, hS₄, J₄⟩
      · obtain rfl : i = vs.length := Nat.le_antisymm hi (Nat.not_lt.mp hlt)
        refine W.done _ _ _ hst' fun h₂ tk₂ hk₂ => ?_
        have off3 := off'.mem
        exact hRR _ _ h₂ tk₂ _ ys news' (fr_but F' hk₂ hIL hI₀) (news_but N' hk₂ fun p hp => by
          rcases List.mem_cons.mp hp with rfl | hp
          · exact Ne.symm hDI
          · exact (off3 p hp).1) (fun p hp => (off3 p hp).2.2) (hn'.at' fun o e => hk₂ _ o (by simpa using Ne.symm hCI) e) hC₀ hD₀ hCL hDL (Ne.symm hDC) (fun p hp => (off3 p hp).2.1) hJ' hS'
    · rcases List.mem_cons.mp hp with rfl | hp
      · exact ⟨hacc, hDL, hD₀⟩
      · exact ⟨old _ _ (N p hp).1, (N p hp).2⟩
  exact codeAny_compStart_list (loop _ rfl) (W.self 0 _ _ _ hst₁ (loop _ rfl))
theorem ListComp_3 {elt iter : PySem.Expr} {ifs : List PySem.Expr} {x y z : Str} {px py pz tp : Pos} {tk} {scope : Scope} {cl : List (Str × Addr)} {pos : Pos} {Q : Value → Shared → Prop} {l : Addr} {vs : List Value} {k : Nat} {news : List (Addr × Obj)}
    (J : Nat → List Value → List (Addr × Obj) → Prop) (F : Fr h₀ L s.heap m) (N : News h₀ L s.heap news) (hl : (l, listOf vs.toArray k) ∈ news) (hsz : vs.length ≤ sizeLine) (hh : A.handled = none)
    (hclos : closureFor scope env = pure cl) (hcell : ∀ y ∈ scope.names, y.2 ≠ .cell) (hkind : scope.kind = .function)
    (hnames : ∀ y ∈ scope.names, y.2 = .local → scope.names.lookup y.1 = some .local) (hx : scope.names.lookup x = some .local) (hy : scope.names.lookup y = some .local) (hz : scope.names.lookup z = some .local) (hxy : x ≠ y) (hxz : x ≠ z) (hyz : y ≠ z)
    (hev : wpAny (model prog w) A (eval iter env) (fun xv s₁ => xv = .ref l ∧ ∃ tk, s₁ = { s with toks := tk }) E s) (h0 : J 0 [] news)
    (turn : ∀ g tk₀ i v ys nx, vs[i]? = some v → ys.length ≤ i → (l, listOf vs.toArray k) ∈ nx → J i ys nx → TurnJ prog w A h₀ L m env ifs elt x y z scope cl { s with heap := g, toks := tk₀ } (fun nx => (l, listOf vs.toArray k) ∈ nx) J i v ys nx)
    (done : ∀ D h tk ys nx, J vs.length ys nx → (l, listOf vs.toArray k) ∈ nx → Fr h₀ L h m → News h₀ L h ((D, lst ys) :: nx) → (∀ p ∈ nx, p.1 ≠ D) → Q (.ref D) { s with heap := h, toks := tk })
    (hs : ∀ x, foldedSetIterable iter env x = pure x := by intro _; rfl) :
    wpAny (model prog w) A (eval (.ListComp elt [⟨.Tuple [.Name x px, .Name y py, .Name z pz] tk tp, iter, ifs, 0⟩] scope pos) env) Q E s := by
  rw [eval_ListComp]
  refine wpAny_comprehension_free (use := none) rfl hs hclos hkind hnames (wpAny_mono hev (fun xv s₁ h₁ => ?_) fun _ _ e => e)
  obtain ⟨rfl, tk₁, rfl⟩ := h₁
  have hol : s.heap.get? l = some (listOf vs.toArray k) := (N _ hl).1
  have hls : s.heap.IsList l vs.toArray := ⟨_, hol, rfl, k, rfl⟩
  have hlt := Heap.lt_size hol
  refine wpAny_pyIter_list (s := { s with toks := tk₁ }) hls ?_
  have up : ∀ b o, s.heap.get? b = some o → (s.heap.push { cls := .type "list_iterator", data := .fields #[.ref l, .int 0 0] }).get? b = some o := fun b o e => Heap.get?_push_of_some _ e
  refine block3 hsz (Nat.ne_of_lt hlt) ⟨⟨_, Heap.get?_push_size _ rfl, rfl, rfl⟩, hls.at fun o e => up _ o e⟩ hcell hkind hx hy hz hxy hxz hyz hh (F.keeps up) (N.grown up) (Nat.ne_of_lt F.ns.lt) (next_is_new F) (fun p hp => Nat.ne_of_lt (Heap.lt_size (N p hp).1)) hl h0 (fun i v ys nx => turn _ _ i v ys nx) ?_
  intro D C h tk m' ys news' F' N' o1 hn hC₀ hD₀ hCL hDL hCD offC fin hl'
  refine ⟨m', hn, fun h'' hs'' => done D h'' tk ys news' fin hl' (F'.change hs'' hCL hC₀) (fun p hp => ?_) o1⟩
  refine ⟨hs''.extBut _ _ ?_ (N' p hp).1, (N' p hp).2⟩
  rcases List.mem_cons.mp hp with rfl | hp
  · exact Ne.symm hCD
  · exact offC p hp
theorem Assign_ListComp_3 {elt iter : PySem.Expr} {ifs : List PySem.Expr} {x y z u : Str} {px py pz pu tp : Pos} {tk} {scope : Scope} {cl : List (Str × Addr)} {pos spos : Pos} {Q : Flow → Shared → Prop} {l : Addr} {vs : List Value} {k : Nat} {news : List (Addr × Obj)}
    (J : Nat → List Value → List (Addr × Obj) → Prop) (F : Fr h₀ L s.heap m) (N : News h₀ L s.heap news) (hl : (l, listOf vs.toArray k) ∈ news) (hsz : vs.length ≤ sizeLine) (hh : A.handled = none) (hLe : env.locals = L)
    (hsw : swapsWith (.ListComp elt [⟨.Tuple [.Name x px, .Name y py, .Name z pz] tk tp, iter, ifs, 0⟩] scope pos) (some (.Name u pu)) spos.line env = pure true)
    (hclos : closureFor scope env = pure cl) (hcell : ∀ y ∈ scope.names, y.2 ≠ .cell) (hkind : scope.kind = .function)
    (hnames : ∀ y ∈ scope.names, y.2 = .local → scope.names.lookup y.1 = some .local) (hx : scope.names.lookup x = some .local) (hy : scope.names.lookup y = some .local) (hz : scope.names.lookup z = some .local) (hxy : x ≠ y) (hxz : x ≠ z) (hyz : y ≠ z)
    (hu : env.kindOf u = some .local) (hp : (env.scope.kind == .class || (env.scope.kind == .module && env.locals != env.globals)) = false)
    (hev : wpAny (model prog w) A (eval iter env) (fun xv s₁ => xv = .ref l ∧ ∃ tk, s₁ = { s with toks := tk }) E s) (h0 : J 0 [] news)
    (turn : ∀ g tk₀ i v ys nx, vs[i]? = some v → ys.length ≤ i → (l, listOf vs.toArray k) ∈ nx → J i ys nx → TurnJ prog w A h₀ L m env ifs elt x y z scope cl { s with heap := g, toks := tk₀ } (fun nx => (l, listOf vs.toArray k) ∈ nx) J i v ys nx)
    (done : ∀ D h tk ys nx, J vs.length ys nx → (l, listOf vs.toArray k) ∈ nx → Fr h₀ L h (fun q => if q = u then some (.ref D) else m q) → News h₀ L h ((D, lst ys) :: nx) → (∀ p ∈ nx, p.1 ≠ D) → Q .next { s with heap := h, toks := tk })
    (hs : ∀ x, foldedSetIterable iter env x = pure x := by intro _; rfl) :
    wpAny (model prog w) A (exec (.Assign [.Name u pu] (.ListComp elt [⟨.Tuple [.Name x px, .Name y py, .Name z pz] tk tp, iter, ifs, 0⟩] scope pos) spos) env) Q E s := by
  subst hLe
  rw [exec_Assign_Name_used _ _ _ _ hsw]
  refine wpAny_bind (wpAny_standAt (wpAny_bind ?_))
  show wpAny _ A (do let _ ← comprehension (.ListComp elt [⟨.Tuple [.Name x px, .Name y py, .Name z pz] tk tp, iter, ifs, 0⟩] scope pos) scope env _ (newList []) false (eval iter env) (some (assign (.Name u pu) env))) _ _ s
  refine wpAny_bind (wpAny_mono (wpAny_comprehension_free (use := some (assign (.Name u pu) env)) (Q := fun _ s' => Q .next s') rfl hs hclos hkind hnames
    (wpAny_mono hev (fun xv s₁ h₁ => ?_) fun _ _ e => e)) (fun _ s' hq => wpAny_pure (wpAny_pure hq)) fun _ _ e => e)
  obtain ⟨rfl, tk₁, rfl⟩ := h₁
  have hol : s.heap.get? l = some (listOf vs.toArray k) := (N _ hl).1
  have hls : s.heap.IsList l vs.toArray := ⟨_, hol, rfl, k, rfl⟩
  have hlt := Heap.lt_size hol
  refine wpAny_pyIter_list (s := { s with toks := tk₁ }) hls ?_
  have up : ∀ b o, s.heap.get? b = some o → (s.heap.push { cls := .type "list_iterator", data := .fields #[.ref l, .int 0 0] }).get? b = some o := fun b o e => Heap.get?_push_of_some _ e
  refine block3 hsz (Nat.ne_of_lt hlt) ⟨⟨_, Heap.get?_push_size _ rfl, rfl, rfl⟩, hls.at fun o e => up _ o e⟩ hcell hkind hx hy hz hxy hxz hyz hh (F.keeps up) (N.grown up) (Nat.ne_of_lt F.ns.lt) (next_is_new F) (fun p hp => Nat.ne_of_lt (Heap.lt_size (N p hp).1)) hl h0 (fun i v ys nx => turn _ _ i v ys nx) ?_
  intro D C h' tk m' ys news' F' N' o1 hn hC₀ hD₀ hCL hDL hCD offC fin hl'
  show wpAny _ A (assign (.Name u pu) env (.ref D)) _ _ _
  refine wpAny_assign_Name (wpAny_storeName_local hu F'.ns (fun h₂ hn₂ hs₂ => ?_) hp)
  have hL₀ : h₀.get? env.locals = none := Heap.get?_none_of_le F'.above
  have F₂ : Fr h₀ env.locals h₂ (fun z => if z = u then some (.ref D) else m z) := ⟨hn₂, fun b o e => hs₂.extBut b o (fun q => by rw [q, hL₀] at e; cases e) (F'.keep b o e), F'.above⟩
  refine ⟨m', hn.sameBut hs₂ hCL, fun h'' hs'' => done D h'' _ ys news' fin hl' (F₂.change hs'' hCL hC₀) (fun p hp => ?_) o1⟩
  have z : h₂.get? p.1 = some p.2 := hs₂.extBut _ _ (N' p hp).2.1 (N' p hp).1
  refine ⟨hs''.extBut _ _ ?_ z, (N' p hp).2⟩
  rcases List.mem_cons.mp hp with rfl | hp
  · exact Ne.symm hCD
  · exact offC p hp
end
end Mine
end

section
open PySem PySem.W PyProof.Rows PySem.Spec PySem.Calls
open PyProof.Rows.LCg
set_option Elab.async false
set_option maxRecDepth 100000
set_option maxHeartbeats 4000000
namespace Mine
set_option linter.all false
section
variable {prog : Program} {w : World} {A : Around} {E : Value → Shared → Prop} {s : Shared} {h₀ : Heap} {L : Addr} {m : Str → Option Value} {env : Env}
theorem turn2_0 (elt t1 i1 t2 i2 : PySem.Expr) (ifs : List PySem.Expr) (scope : Scope) (pos : Pos) (it acc : Value) (env : Env) :
    compTurn (.ListComp elt [⟨t1, i1, [], 0⟩, ⟨t2, i2, ifs, 0⟩] scope pos) 0 it acc env = (do
      standAt i1.pos
      match ← pyNext it with
      | none => pure (.done .next)
      | some v =>
        letOwnedTupleGo t1 it v
        assign t1 env v
        let x ← eval i2 env
        standAt i2.pos
        let x ← foldedSetIterable i2 env x
        let it' ← holding [x] (pyIter x)
        let _ ← runOwn (.compStart (.ListComp elt [⟨t1, i1, [], 0⟩, ⟨t2, i2, ifs, 0⟩] scope pos) 1 it' acc env) env
        again (.compLoop (.ListComp elt [⟨t1, i1, [], 0⟩, ⟨t2, i2, ifs, 0⟩] scope pos) 0 it acc env)) := by rfl
theorem turn2_1 (elt t1 i1 t2 i2 : PySem.Expr) (ifs : List PySem.Expr) (scope : Scope) (pos : Pos) (it acc : Value) (env : Env) :
    compTurn (.ListComp elt [⟨t1, i1, [], 0⟩, ⟨t2, i2, ifs, 0⟩] scope pos) 1 it acc env = (do
      standAt i2.pos
      match ← pyNext it with
      | none => pure (.done .next)
      | some v =>
        letOwnedTupleGo t2 it v
        assign t2 env v
        let mut ok := true
        for c in ifs do
          if ok then ok ← isTrue c env (eval c env)
        if ok then
          (do let _ ← call (.builtin "list.append") [acc, ← eval elt env])
        again (.compLoop (.ListComp elt [⟨t1, i1, [], 0⟩, ⟨t2, i2, ifs, 0⟩] scope pos) 1 it acc env)) := by rfl
theorem start2_1 {elt t1 i1 t2 i2 : PySem.Expr} {ifs : List PySem.Expr} {scope : Scope} {pos : Pos} {it acc : Value} {R : Result → Shared → Prop}
    (h0 : codeAny (model prog w) A (.compLoop (.ListComp elt [⟨t1, i1, [], 0⟩, ⟨t2, i2, ifs, 0⟩] scope pos) 1 it acc env) R s)
    (h : wpAny (model prog w) A (pyIter it) (fun it' s' => codeAny (model prog w) A (.compLoop (.ListComp elt [⟨t1, i1, [], 0⟩, ⟨t2, i2, ifs, 0⟩] scope pos) 1 it' acc env) R s')
      (notedBy (model prog w) A env fun x s' => R (.error x) s') s) :
    codeAny (model prog w) A (.compStart (.ListComp elt [⟨t1, i1, [], 0⟩, ⟨t2, i2, ifs, 0⟩] scope pos) 1 it acc env) R s := by
  refine codeAny_of_tree ?_
  show wpAny _ _ ((compStart (.ListComp elt [⟨t1, i1, [], 0⟩, ⟨t2, i2, ifs, 0⟩] scope pos) 1 it acc env).onRaise (fun x => do noteFrame x env; standAt theWindowsPlace)) _ _ s
  refine wpAny_notedAt ?_
  unfold compStart
  show wpAny _ _ (ask >>= _) _ _ s
  refine wpAny_bind (wpAny_askSetting (wpAny_ite ?_))
  split
  · first
      | exact wpAny_bind (wpAny_pure (wpAny_pure (And.intro rfl h0)))
      | exact wpAny_pure (And.intro rfl h0)
  · refine wpAny_bind (wpAny_rule ?_)
    show wpAny _ _ (standAt i2.pos >>= _) _ _ s
    exact wpAny_bind (wpAny_standAt (wpAny_bind (wpAny_mono h (fun it' s' h' => wpAny_pure (And.intro rfl h')) fun _ _ x => x)))
theorem loop2_1 {elt t1 i1 t2 i2 : PySem.Expr} {ifs : List PySem.Expr} {scope : Scope} {pos : Pos} {it acc : Value} {R : Result → Shared → Prop} (I : Nat → Shared → Prop)
    (turn : ∀ n s, I n s → wpAny (model prog w) A (pyNext it) (fun r s₁ => match r with
      | none => R (.ok .next) s₁
      | some v => wpAny (model prog w) A (letOwnedTupleGo t2 it v) (fun _ s₁' => wpAny (model prog w) A (assign t2 env v) (fun _ s₂ =>
          TestJ prog w A ifs elt env (fun x s₄ => wpAny (model prog w) A (call (.builtin "list.append") [acc, x]) (fun _ s₅ => ∃ m, m < n ∧ I m s₅) (notedBy (model prog w) A env fun e s' => R (.error e) s') s₄) (fun s₅ => ∃ m, m < n ∧ I m s₅) (notedBy (model prog w) A env fun e s' => R (.error e) s') s₂)
          (notedBy (model prog w) A env fun e s' => R (.error e) s') s₁') (notedBy (model prog w) A env fun e s' => R (.error e) s') s₁) (notedBy (model prog w) A env fun e s' => R (.error e) s') s)
    (n : Nat) (h : I n s) : codeAny (model prog w) A (.compLoop (.ListComp elt [⟨t1, i1, [], 0⟩, ⟨t2, i2, ifs, 0⟩] scope pos) 1 it acc env) R s := by
  refine codeAny_loop rfl I (fun n s hI => ?_) n h
  show wpAny _ A ((compTurn (.ListComp elt [⟨t1, i1, [], 0⟩, ⟨t2, i2, ifs, 0⟩] scope pos) 1 it acc env).onRaise (fun x => do noteFrame x env; theTreesLotGoes x)) _ _ s
  refine wpAny_noted ?_
  rw [turn2_1]
  refine wpAny_bind (wpAny_standAt (wpAny_bind (wpAny_mono (turn n s hI) (fun r s₁ h₁ => ?_) fun _ _ h' => h')))
  cases r with
  | none => exact wpAny_pure h₁
  | some v =>
    refine wpAny_bind (wpAny_mono h₁ (fun _ s₁' h₁' => ?_) fun _ _ h' => h')
    refine wpAny_bind (wpAny_mono h₁' (fun _ s₂ h₂ => wpAny_bind (wpAny_mono h₂ (fun ok s₃ h₃ => ?_) fun _ _ h' => h')) fun _ _ h' => h')
    cases ok with
    | false => exact wpAny_pure ⟨rfl, h₃⟩
    | true =>
      exact wpAny_bind (wpAny_bind (wpAny_mono h₃ (fun x s₄ h₄ => wpAny_bind (wpAny_mono h₄ (fun _ s₅ h₅ => wpAny_pure (wpAny_pure ⟨rfl, h₅⟩)) fun _ _ h' => h')) fun _ _ h' => h'))
theorem loop2_0 {elt t1 i1 t2 i2 : PySem.Expr} {ifs : List PySem.Expr} {scope : Scope} {pos : Pos} {it acc : Value} {R : Result → Shared → Prop} (I : Nat → Shared → Prop)
    (turn : ∀ n s, I n s → wpAny (model prog w) A (pyNext it) (fun r s₁ => match r with
      | none => R (.ok .next) s₁
      | some v => wpAny (model prog w) A (letOwnedTupleGo t1 it v) (fun _ s₁' => wpAny (model prog w) A (assign t1 env v) (fun _ s₂ =>
          wpAny (model prog w) A (eval i2 env) (fun x s₃ => wpAny (model prog w) A (pyIter x) (fun it' s₄ =>
            codeAny (model prog w) A (.compStart (.ListComp elt [⟨t1, i1, [], 0⟩, ⟨t2, i2, ifs, 0⟩] scope pos) 1 it' acc env)
              (fun r s' => match r with | .ok f => ∃ m, m < n ∧ I m s' | .error e => cameBackBy (model prog w) A env (notedBy (model prog w) A env fun e s' => R (.error e) s') e s') s₄) (notedBy (model prog w) A env fun e s' => R (.error e) s') s₃) (notedBy (model prog w) A env fun e s' => R (.error e) s') s₂)
          (notedBy (model prog w) A env fun e s' => R (.error e) s') s₁') (notedBy (model prog w) A env fun e s' => R (.error e) s') s₁) (notedBy (model prog w) A env fun e s' => R (.error e) s') s)
    (hs : ∀ x, foldedSetIterable i2 env x = pure x)
    (n : Nat) (h : I n s) : codeAny (model prog w) A (.compLoop (.ListComp elt [⟨t1, i1, [], 0⟩, ⟨t2, i2, ifs, 0⟩] scope pos) 0 it acc env) R s := by
  refine codeAny_loop rfl I (fun n s hI => ?_) n h
  show wpAny _ A ((compTurn (.ListComp elt [⟨t1, i1, [], 0⟩, ⟨t2, i2, ifs, 0⟩] scope pos) 0 it acc env).onRaise (fun x => do noteFrame x env; theTreesLotGoes x)) _ _ s
  refine wpAny_noted ?_
  rw [turn2_0]
  refine wpAny_bind (wpAny_standAt (wpAny_bind (wpAny_mono (turn n s hI) (fun r s₁ h₁ => ?_) fun _ _ h' => h')))
  cases r with
  | none => exact wpAny_pure h₁
  | some v =>
    refine wpAny_bind (wpAny_mono h₁ (fun _ s₁' h₁' => ?_) fun _ _ h' => h')
    refine wpAny_bind (wpAny_mono h₁' (fun _ s₂ h₂ => ?_) fun _ _ h' => h')
    refine wpAny_bind (wpAny_mono h₂ (fun x s₃ h₃ => wpAny_bind (wpAny_standAt (wpAny_bind (wpAny_of_eq (hs x) (wpAny_bind (wpAny_holding (wpAny_mono h₃ (fun it' s₄ h₄ => ?_) fun _ _ h' => h'))))))) fun _ _ h' => h')
    refine wpAny_bind (wpAny_runOwn (codeAny_mono h₄ fun r s' h' => ?_))
    cases r with
    | ok f => exact wpAny_pure ⟨rfl, h'⟩
    | error e => exact h'
theorem rangeIter_at {h h' : Heap} {I : Addr} {a b c : Int} (x : IsRangeIter h I a b c) (e : ∀ o, h.get? I = some o → h'.get? I = some o) : IsRangeIter h' I a b c := e _ x
theorem block22 {elt i1 i2 : PySem.Expr} {ifs : List PySem.Expr} {x y : Str} {px py : Pos} {scope : Scope} {cl : List (Str × Addr)} {pos : Pos} {s₂ : Shared} {I : Addr} {news : List (Addr × Obj)} {a c d : Int} {n1 n2 : Nat}
    {J : Nat → Nat → List Value → List (Addr × Obj) → Prop} {RR : Value → Addr → Result → Shared → Prop}
    (hsz : n1 * n2 + n2 ≤ sizeLine) (hst : IsRangeIter s₂.heap I (a + ((0 : Nat) : Int) * 1) ((n1 : Int) - ((0 : Nat) : Int)) 1)
    (hsmall : Builtin.Range.small c d 1 = true) (hn2 : Builtin.Range.rangeSize c d 1 = (n2 : Int))
    (hcell : ∀ y ∈ scope.names, y.2 ≠ .cell) (hkind : scope.kind = .function) (hx : scope.names.lookup x = some .local) (hy : scope.names.lookup y = some .local) (hxy : x ≠ y) (hh : A.handled = none)
    (F : Fr h₀ L s₂.heap m) (N : News h₀ L s₂.heap news) (hIL : L ≠ I) (hI₀ : h₀.get? I = none) (off : ∀ p ∈ news, p.1 ≠ I)
    (h0 : J 0 0 [] news) (hJ : ∀ i ys nx, i < n1 → J i n2 ys nx → J (i + 1) 0 ys nx)
    (hs : ∀ env x, foldedSetIterable i2 env x = pure x)
    (hev2 : ∀ I oI C oC D ys nx h tk (E' : Value → Shared → Prop), Fr h₀ L h m → News h₀ L h ((I, oI) :: (C, oC) :: (D, lst ys) :: nx) →
      wpAny (model prog w) A (eval i2 (compEnvC scope cl C env)) (fun xv s₁ => ∃ r t u v h' tk', xv = .ref r ∧ s₁ = { s₂ with heap := h', toks := tk' } ∧ IsRange h' r c d 1 t u v ∧ Fr h₀ L h' m ∧ News h₀ L h' ((I, oI) :: (C, oC) :: (D, lst ys) :: nx)) E' { s₂ with heap := h, toks := tk })
    (turn : ∀ i j ys nx I1 o1 I oI C oC D m₂ h tk t u (E' : Value → Shared → Prop), i < n1 → j < n2 → J i j ys nx → (∀ p ∈ nx, p.1 ≠ I1) → NsObj oC m₂ → m₂ x = some (.int (a + (i : Int) * 1) t) → m₂ y = some (.int (c + (j : Int) * 1) u) → Fr h₀ L h m → News h₀ L h ((I, oI) :: (C, oC) :: (D, lst ys) :: (I1, o1) :: nx) → Off3 I C D ((I1, o1) :: nx) → ((@Ne Nat I C) ∧ (@Ne Nat I D) ∧ (@Ne Nat C D)) →
      TestJ prog w A ifs elt (compEnvC scope cl C env) (CompEnd h₀ L m { s₂ with heap := h, toks := tk } I oI C oC D (lst ys) (fun _ => True) (fun r nx' => ∃ nx'', nx' = (I1, o1) :: nx'' ∧ (∀ p ∈ nx'', p.1 ≠ I1) ∧ J i (j + 1) (ys ++ [r]) nx''))
        (CompEnd h₀ L m { s₂ with heap := h, toks := tk } I oI C oC D (lst ys) (fun _ => True) (fun _ nx' => ∃ nx'', nx' = (I1, o1) :: nx'' ∧ (∀ p ∈ nx'', p.1 ≠ I1) ∧ J i (j + 1) ys nx'') .none) E' { s₂ with heap := h, toks := tk })
    (hRR : ∀ D C h tk m' ys news', Fr h₀ L h m → News h₀ L h ((D, lst ys) :: news') → (∀ p ∈ news', p.1 ≠ D) → h.Ns C m' → h₀.get? C = none → h₀.get? D = none → C ≠ L → D ≠ L → C ≠ D → (∀ p ∈ news', p.1 ≠ C) → J n1 0 ys news' → RR (.ref D) C (.ok .next) { s₂ with heap := h, toks := tk }) :
    wpAny (model prog w) A (newList []) (fun acc s₃ => wpAny (model prog w) A (newFunctionEnv scope env.globals cl [] env.qual none .none (some env)) (fun cenv s₄ =>
      codeAny (model prog w) A (.compStart (.ListComp elt [⟨.Name x px, i1, [], 0⟩, ⟨.Name y py, i2, ifs, 0⟩] scope pos) 0 (.ref I) acc { cenv with scope := relabel scope env }) (RR acc cenv.locals) s₄) E s₃) E s₂ := by
  refine wpAny_newObj_type (wpAny_newFunctionEnv hcell (by intro y hy; simp at hy) (fun h₁ hns₁ hsb₁ => ?_) hkind)
  dsimp only at hns₁ hsb₁ ⊢
  generalize hH2 : s₂.heap.push { cls := .type "list", dict := none, data := .seq ([] : List Value).toArray } = H2 at hns₁ hsb₁ ⊢
  have W := (Walks.range (prog := prog) (w := w) hh I a 1 n1).bound
  have hC : H2.objs.size = s₂.heap.objs.size + 1 := by rw [← hH2, Heap.size_push]
  have hDC : s₂.heap.objs.size ≠ H2.objs.size := by rw [hC]; exact Nat.ne_of_lt (Nat.lt_succ_self _)
  have below : ∀ b, b < s₂.heap.objs.size → b ≠ H2.objs.size ∧ b ≠ s₂.heap.objs.size := fun b hb => ⟨by rw [hC]; exact Nat.ne_of_lt (Nat.lt_succ_of_lt hb), Nat.ne_of_lt hb⟩
  have hIlt : I < s₂.heap.objs.size := Heap.lt_size hst
  have old : ∀ b o, s₂.heap.get? b = some o → h₁.get? b = some o := fun b o e => hsb₁.extBut b o (below b (Heap.lt_size e)).1 (Heap.get?_push_of_some _ (hH2 ▸ Heap.get?_push_of_some _ e))
  have hacc : h₁.get? s₂.heap.objs.size = some (lst []) := hsb₁.extBut _ _ hDC (Heap.get?_push_of_some _ (hH2 ▸ Heap.get?_push_size _ rfl))
  have hst₁ : IsRangeIter h₁ I (a + ((0 : Nat) : Int) * 1) ((n1 : Int) - ((0 : Nat) : Int)) 1 := old _ _ hst
  have fresh : ∀ a, s₂.heap.objs.size ≤ a → s₂.heap.get? a = none := fun a ha => by
    cases e : s₂.heap.get? a with
    | none => rfl
    | some o' => exact absurd (Heap.lt_size e) (Nat.not_lt.mpr ha)
  have fresh₀ : ∀ a, s₂.heap.objs.size ≤ a → h₀.get? a = none := fun a ha => by
    cases e : h₀.get? a with
    | none => rfl
    | some o' => have := F.keep a o' e; rw [fresh a ha] at this; cases this
  have hD₀ : h₀.get? s₂.heap.objs.size = none := fresh₀ _ (Nat.le_refl _)
  have hC₀ : h₀.get? H2.objs.size = none := fresh₀ _ (by rw [hC]; exact Nat.le_succ _)
  have hLlt : L < s₂.heap.objs.size := F.ns.lt
  have hDL : s₂.heap.objs.size ≠ L := Ne.symm (below L hLlt).2
  have hCL : H2.objs.size ≠ L := Ne.symm (below L hLlt).1
  have hCI : I ≠ H2.objs.size := (below I hIlt).1
  have hDI : I ≠ s₂.heap.objs.size := (below I hIlt).2
  have off₀ : Off3 I H2.objs.size s₂.heap.objs.size news := Off3.of fun p hp => ⟨off p hp, (below _ (Heap.lt_size (N p hp).1)).1, (below _ (Heap.lt_size (N p hp).1)).2⟩
  have loop : ∀ s₃ : Shared, s₃ = { s₂ with heap := h₁, toks := s₂.toks + ([] : List (Str × Value)).length } →
      codeAny (model prog w) A (.compLoop (.ListComp elt [⟨.Name x px, i1, [], 0⟩, ⟨.Name y py, i2, ifs, 0⟩] scope pos) 0 (.ref I) (.ref s₂.heap.objs.size) (compEnvC scope cl H2.objs.size env))
        (RR (.ref s₂.heap.objs.size) H2.objs.size) s₃ := by
    rintro s₃ rfl
    refine loop2_0
      (fun kk s' => ∃ h' tk i ys m' news', s' = { s₂ with heap := h', toks := tk } ∧ i ≤ n1 ∧ kk = n1 + 1 - i ∧ ys.length ≤ i * n2 ∧ IsRangeIter h' I (a + (i : Int) * 1) ((n1 : Int) - (i : Int)) 1 ∧ Fr h₀ L h' m ∧ h'.Ns H2.objs.size m' ∧ News h₀ L h' ((s₂.heap.objs.size, lst ys) :: news') ∧
        Off3 I H2.objs.size s₂.heap.objs.size news' ∧ J i 0 ys news') ?_ (hs _) (n1 + 1)
      ⟨h₁, _, 0, [], _, news, rfl, Nat.zero_le _, rfl, by simp, hst₁, F.keeps old, hns₁, fun p hp => ?_, off₀, h0⟩
    · rintro kk s' ⟨h', tk, i, ys, m', news', rfl, hi, rfl, hyl, hst', F', hn', N', off', hJ'⟩
      by_cases hlt : i < n1
      · refine W.item i _ _ _ hlt hst' fun v h₂ tk₂ hPv hst₂ hk₂ => ?_
        obtain ⟨_, t, rfl⟩ := hPv
        have off3 := off'.mem
        have N₂ : News h₀ L h₂ ((s₂.heap.objs.size, lst ys) :: news') := news_but N' hk₂ fun p hp => by
          rcases List.mem_cons.mp hp with rfl | hp
          · exact Ne.symm hDI
          · exact (off3 p hp).1
        refine wpAny_of_eq (a := ()) rfl ?_
        refine (wpAny_assign_Name (wpAny_storeName_local (lookup_relabel_local hx) (hn'.at' fun o e => hk₂ _ o (by simpa using Ne.symm hCI) e) (fun h₃ hn₃ hs₃ => ?_) (by simp [compEnvC, relabel, hkind])))
        have F₃ : Fr h₀ L h₃ m := (fr_but F' hk₂ hIL hI₀).change hs₃ hCL hC₀
        obtain ⟨oI1, heI, hIR⟩ : ∃ o, h₃.get? I = some o ∧ ∀ h' : Heap, h'.get? I = some o → IsRangeIter h' I (a + ((i + 1 : Nat) : Int) * 1) ((n1 : Int) - ((i + 1 : Nat) : Int)) 1 := ⟨_, hs₃.extBut _ _ hCI hst₂, fun _ e => e⟩
        obtain ⟨oC, heC, hoC⟩ := ns_obj hn₃
        have N₃ : News h₀ L h₃ ((I, oI1) :: (H2.objs.size, oC) :: (s₂.heap.objs.size, lst ys) :: news') := fun p hp => by
          rcases List.mem_cons.mp hp with rfl | hp
          · exact ⟨heI, Ne.symm hIL, hI₀⟩
          · rcases List.mem_cons.mp hp with rfl | hp
            · exact ⟨heC, hCL, hC₀⟩
            · have z := N₂ p hp
              refine ⟨hs₃.extBut _ _ ?_ z.1, z.2⟩
              rcases List.mem_cons.mp hp with rfl | hp
              · exact hDC
              · exact (off3 p hp).2.1
        refine wpAny_mono (hev2 I _ _ _ _ _ _ h₃ _ _ F₃ N₃) (fun xv s₄ h₄ => ?_) fun _ _ e => e
        obtain ⟨r, t₀, u₀, v₀, h₄, tk₄, rfl, rfl, hr, F₄, N₄⟩ := h₄
        refine wpAny_pyIter_range hr hsmall ?_
        have up : ∀ b o, h₄.get? b = some o → (h₄.push { cls := .type "range_iterator", data := .fields #[rawInt c, rawInt (Builtin.Range.rangeSize c d 1), rawInt 1] }).get? b = some o := fun b o e => Heap.get?_push_of_some _ e
        have W2 := (Walks.range (prog := prog) (w := w) hh h₄.objs.size c 1 n2).bound
        have N₅ := N₄.grown up
        have F₅ := F₄.keeps up
        have big : ∀ p ∈ ((I, oI1) :: (H2.objs.size, oC) :: (s₂.heap.objs.size, lst ys) :: news' : List (Addr × Obj)), p.1 ≠ h₄.objs.size := fun p hp => Nat.ne_of_lt (Heap.lt_size (N₄ p hp).1)
        have hI2L : L ≠ h₄.objs.size := Nat.ne_of_lt F₄.ns.lt
        have hI2₀ : h₀.get? h₄.objs.size = none := next_is_new F₄
        have hI2C : h₄.objs.size ≠ H2.objs.size := (big _ (.tail _ (.head _))).symm
        have hI2D : h₄.objs.size ≠ s₂.heap.objs.size := (big _ (.tail _ (.tail _ (.head _)))).symm
        have hst₅ : IsRangeIter (h₄.push { cls := .type "range_iterator", data := .fields #[rawInt c, rawInt (Builtin.Range.rangeSize c d 1), rawInt 1] }) h₄.objs.size (c + ((0 : Nat) : Int) * 1) ((n2 : Int) - ((0 : Nat) : Int)) 1 := by
          show (Heap.push _ _).get? _ = _
          rw [hn2]; simpa using Heap.get?_push_size _ rfl
        have mx : (fun z => if z = x then some (.int (a + (i : Int) * 1) t) else m' z) x = some (.int (a + (i : Int) * 1) t) := by simp
        generalize hmm : (fun z => if z = x then some (.int (a + (i : Int) * 1) t) else m' z) = mC at hoC mx
        have inner : ∀ R : Result → Shared → Prop, (∀ f s', (∃ h' tk ys m' nx, s' = { s₂ with heap := h', toks := tk } ∧ ys.length ≤ (i + 1) * n2 ∧ IsRangeIter h' I (a + ((i + 1 : Nat) : Int) * 1) ((n1 : Int) - ((i + 1 : Nat) : Int)) 1 ∧ Fr h₀ L h' m ∧ h'.Ns H2.objs.size m' ∧ News h₀ L h' ((s₂.heap.objs.size, lst ys) :: nx) ∧ Off3 I H2.objs.size s₂.heap.objs.size nx ∧ J i n2 ys nx) → R (.ok f) s') → ∀ tk,
            codeAny (model prog w) A (.compLoop (.ListComp elt [⟨.Name x px, i1, [], 0⟩, ⟨.Name y py, i2, ifs, 0⟩] scope pos) 1 (.ref h₄.objs.size) (.ref s₂.heap.objs.size) (compEnvC scope cl H2.objs.size env)) R
              { s₂ with heap := h₄.push { cls := .type "range_iterator", data := .fields #[rawInt c, rawInt (Builtin.Range.rangeSize c d 1), rawInt 1] }, toks := tk } := by
          intro R hR tk₀
          refine loop2_1
            (fun kk s' => ∃ h' tk j ys m' nx, s' = { s₂ with heap := h', toks := tk } ∧ j ≤ n2 ∧ kk = n2 + 1 - j ∧ ys.length ≤ i * n2 + j ∧ IsRangeIter h' h₄.objs.size (c + (j : Int) * 1) ((n2 : Int) - (j : Int)) 1 ∧ Fr h₀ L h' m ∧ h'.Ns H2.objs.size m' ∧ m' x = some (.int (a + (i : Int) * 1) t) ∧
              News h₀ L h' ((s₂.heap.objs.size, lst ys) :: (I, oI1) :: nx) ∧ Off3 h₄.objs.size H2.objs.size s₂.heap.objs.size ((I, oI1) :: nx) ∧ (∀ p ∈ nx, p.1 ≠ I) ∧ J i j ys nx) ?_ (n2 + 1)
            ⟨_, tk₀, 0, ys, _, news', rfl, Nat.zero_le _, rfl, hyl, hst₅, F₅, hoC.ns (N₅ _ (.tail _ (.head _))).1, mx, fun p hp => ?_, Off3.of fun p hp => ?_, fun p hp => (off3 p hp).1, hJ'⟩
          · rintro kk s' ⟨h', tk, j, ys, m', nx, rfl, hj, rfl, hyl, hst', F', hn', hmx, N', off', hnI, hJ'⟩
            by_cases hlt2 : j < n2
            · refine W2.item j _ _ _ hlt2 hst' fun v h₂ tk₂ hPv hst₂ hk₂ => ?_
              obtain ⟨_, u, rfl⟩ := hPv
              have off3 := off'.mem
              have N₂ := news_but N' hk₂ fun p hp => by
                rcases List.mem_cons.mp hp with rfl | hp
                · exact Ne.symm hI2D
                · exact (off3 p hp).1
              refine wpAny_of_eq (a := ()) rfl ?_
              refine (wpAny_assign_Name (wpAny_storeName_local (lookup_relabel_local hy) (hn'.at' fun o e => hk₂ _ o (by simpa using Ne.symm hI2C) e) (fun h₃ hn₃ hs₃ => ?_) (by simp [compEnvC, relabel, hkind])))
              have F₃ : Fr h₀ L h₃ m := (fr_but F' hk₂ hI2L hI2₀).change hs₃ hCL hC₀
              obtain ⟨oI2, heI2, hIR2⟩ : ∃ o, h₃.get? h₄.objs.size = some o ∧ ∀ h' : Heap, h'.get? h₄.objs.size = some o → IsRangeIter h' h₄.objs.size (c + ((j + 1 : Nat) : Int) * 1) ((n2 : Int) - ((j + 1 : Nat) : Int)) 1 := ⟨_, hs₃.extBut _ _ hI2C hst₂, fun _ e => e⟩
              obtain ⟨oC', heC', hoC'⟩ := ns_obj hn₃
              have N₃ : News h₀ L h₃ ((h₄.objs.size, oI2) :: (H2.objs.size, oC') :: (s₂.heap.objs.size, lst ys) :: (I, oI1) :: nx) := fun p hp => by
                rcases List.mem_cons.mp hp with rfl | hp
                · exact ⟨heI2, Ne.symm hI2L, hI2₀⟩
                · rcases List.mem_cons.mp hp with rfl | hp
                  · exact ⟨heC', hCL, hC₀⟩
                  · have z := N₂ p hp
                    refine ⟨hs₃.extBut _ _ ?_ z.1, z.2⟩
                    rcases List.mem_cons.mp hp with rfl | hp
                    · exact hDC
                    · exact (off3 p hp).2.1
              refine (turn i j ys nx I _ h₄.objs.size _ H2.objs.size oC' s₂.heap.objs.size _ h₃ _ t u _ hlt hlt2 hJ' hnI hoC' (by simp [hxy, hmx]) (by simp) F₃ N₃ off' ⟨hI2C, hI2D, Ne.symm hDC⟩).mono (fun r s₄ h₄ => ?_) fun s₄ h₄ => ?_
              · obtain ⟨h₅, tk₅, news₅, rfl, F₅, N₅, off₅, _, nx'', rfl, hnI', J₅⟩ := h₄
                have zI := (N₅ _ List.mem_cons_self).1
                have zC := (N₅ _ (List.mem_cons_of_mem _ List.mem_cons_self)).1
                have zD := (N₅ _ (List.mem_cons_of_mem _ (List.mem_cons_of_mem _ List.mem_cons_self))).1
                have hys : ys.toArray.size ≤ sizeLine := by
                  have : i * n2 ≤ n1 * n2 := Nat.mul_le_mul_right _ (Nat.le_of_lt hlt)
                  rw [List.size_toArray]; omega
                refine append_at (hsz := hys) zD fun h₆ hs₆ hD₆ => ?_
                have off4 := off₅.mem
                refine ⟨n2 + 1 - (j + 1), by omega, h₆, tk₅, j + 1, ys ++ [r], _, nx'', rfl, hlt2, rfl, by rw [List.length_append, List.length_singleton]; omega, hIR2 _ (hs₆.extBut _ _ hI2D zI), F₅.change hs₆ hDL hD₀,
                  (hoC'.ns zC).sameBut hs₆ (Ne.symm hDC), by simp [hxy, hmx], fun p hp => ?_, off₅, hnI', J₅⟩
                rcases List.mem_cons.mp hp with rfl | hp
                · exact ⟨hD₆.trans (congrArg some (lst_snoc ys r)), hDL, hD₀⟩
                · have z := N₅ p (List.mem_cons_of_mem _ (List.mem_cons_of_mem _ (List.mem_cons_of_mem _ hp)))
                  exact ⟨hs₆.extBut _ _ (off4 p hp).2.2 z.1, z.2⟩
              · obtain ⟨h₅, tk₅, news₅, rfl, F₅, N₅, off₅, _, nx'', rfl, hnI', J₅⟩ := h₄
                have zI := (N₅ _ List.mem_cons_self).1
                have zC := (N₅ _ (List.mem_cons_of_mem _ List.mem_cons_self)).1
                exact ⟨n2 + 1 - (j + 1), by omega, h₅, tk₅, j + 1, ys, _, nx'', rfl, hlt2, rfl, by omega, hIR2 _ zI, F₅, hoC'.ns zC, by simp [hxy, hmx], fun p hp => N₅ p (List.mem_cons_of_mem _ (List.mem_cons_of_mem _ hp)), off₅, hnI', J₅⟩
            · obtain rfl : j = n2 := Nat.le_antisymm hj (Nat.not_lt.mp hlt2)
              refine W2.done _ _ _ hst' fun h₂ tk₂ hk₂ => hR _ _ ⟨h₂, tk₂, ys, m', nx, rfl, ?_, ?_, fr_but F' hk₂ hI2L hI2₀, hn'.at' fun o e => hk₂ _ o (by simpa using Ne.symm hI2C) e, ?_, ?_, hJ'⟩
              · rw [Nat.succ_mul]; exact hyl
              · exact hIR _ (hk₂ _ _ (by simpa using (off'.mem _ (.head _)).1) (N' _ (.tail _ (.head _))).1)
              · have N₂ := news_but N' hk₂ fun p hp => by
                  rcases List.mem_cons.mp hp with rfl | hp
                  · exact Ne.symm hI2D
                  · exact (off'.mem p hp).1
                intro p hp
                rcases List.mem_cons.mp hp with rfl | hp
                · exact N₂ _ (.head _)
                · exact N₂ _ (.tail _ (.tail _ hp))
              · exact Off3.of fun p hp => ⟨hnI p hp, (off'.mem p (.tail _ hp)).2.1, (off'.mem p (.tail _ hp)).2.2⟩
          · rcases List.mem_cons.mp hp with rfl | hp
            · exact N₅ _ (.tail _ (.tail _ (.head _)))
            · rcases List.mem_cons.mp hp with rfl | hp
              · exact N₅ _ (.head _)
              · exact N₅ _ (.tail _ (.tail _ (.tail _ hp)))
          · rcases List.mem_cons.mp hp with rfl | hp
            · exact ⟨big _ (.head _), hCI, hDI⟩
            · exact ⟨big _ (.tail _ (.tail _ (.tail _ hp))), (off3 p hp).2.1, (off3 p hp).2.2⟩
        refine start2_1 (inner _ ?_ _) (W2.self 0 _ _ _ hst₅ (inner _ ?_ _)) <;>
        · rintro f s' ⟨h', tk, ys, m', nx, rfl, hyl, hst', F', hn', N', off', hJ'⟩
          exact ⟨n1 + 1 - (i + 1), by omega, h', tk, i + 1, ys, m', nx, rfl, hlt, rfl, hyl, hst', F', hn', N', off', hJ _ _ _ hlt hJ'⟩
      · obtain rfl : i = n1 := Nat.le_antisymm hi (Nat.not_lt.mp hlt)
        refine W.done _ _ _ hst' fun h₂ tk₂ hk₂ => ?_
        have off3 := off'.mem
        exact hRR _ _ h₂ tk₂ _ ys news' (fr_but F' hk₂ hIL hI₀) (news_but N' hk₂ fun p hp => by
          rcases List.mem_cons.mp hp with rfl | hp
          · exact Ne.symm hDI
          · exact (off3 p hp).1) (fun p hp => (off3 p hp).2.2) (hn'.at' fun o e => hk₂ _ o (by simpa using Ne.symm hCI) e) hC₀ hD₀ hCL hDL (Ne.symm hDC) (fun p hp => (off3 p hp).2.1) hJ'
    · rcases List.mem_cons.mp hp with rfl | hp
      · exact ⟨hacc, hDL, hD₀⟩
      · exact ⟨old _ _ (N p hp).1, (N p hp).2⟩
  exact codeAny_compStart_list (loop _ rfl) (W.self 0 _ _ _ hst₁ (loop _ rfl))
theorem Assign_ListComp_22 {elt i1 i2 : PySem.Expr} {ifs : List PySem.Expr} {x y u : Str} {px py pu : Pos} {scope : Scope} {cl : List (Str × Addr)} {pos spos : Pos} {Q : Flow → Shared → Prop} {news : List (Addr × Obj)} {a b c d : Int} {n1 n2 : Nat}
    (J : Nat → Nat → List Value → List (Addr × Obj) → Prop) (hLe : env.locals = L)
    (hsmall1 : Builtin.Range.small a b 1 = true) (hn1 : Builtin.Range.rangeSize a b 1 = (n1 : Int))
    (hsz : n1 * n2 + n2 ≤ sizeLine) (hsmall : Builtin.Range.small c d 1 = true) (hn2 : Builtin.Range.rangeSize c d 1 = (n2 : Int)) (hh : A.handled = none)
    (hsw : swapsWith (.ListComp elt [⟨.Name x px, i1, [], 0⟩, ⟨.Name y py, i2, ifs, 0⟩] scope pos) (some (.Name u pu)) spos.line env = pure true)
    (hclos : closureFor scope env = pure cl) (hcell : ∀ y ∈ scope.names, y.2 ≠ .cell) (hkind : scope.kind = .function)
    (hnames : ∀ y ∈ scope.names, y.2 = .local → scope.names.lookup y.1 = some .local) (hx : scope.names.lookup x = some .local) (hy : scope.names.lookup y = some .local) (hxy : x ≠ y)
    (hu : env.kindOf u = some .local) (hp : (env.scope.kind == .class || (env.scope.kind == .module && env.locals != env.globals)) = false)
    (hev : wpAny (model prog w) A (eval i1 env) (fun xv s₁ => ∃ r t u v h' tk', xv = .ref r ∧ s₁ = { s with heap := h', toks := tk' } ∧ IsRange h' r a b 1 t u v ∧ Fr h₀ L h' m ∧ News h₀ L h' news) E s)
    (h0 : J 0 0 [] news) (hJ : ∀ i ys nx, i < n1 → J i n2 ys nx → J (i + 1) 0 ys nx)
    (hs : ∀ env x, foldedSetIterable i2 env x = pure x)
    (hev2 : ∀ I oI C oC D ys nx h tk (E' : Value → Shared → Prop), Fr h₀ L h m → News h₀ L h ((I, oI) :: (C, oC) :: (D, lst ys) :: nx) →
      wpAny (model prog w) A (eval i2 (compEnvC scope cl C env)) (fun xv s₁ => ∃ r t u v h' tk', xv = .ref r ∧ s₁ = { s with heap := h', toks := tk' } ∧ IsRange h' r c d 1 t u v ∧ Fr h₀ L h' m ∧ News h₀ L h' ((I, oI) :: (C, oC) :: (D, lst ys) :: nx)) E' { s with heap := h, toks := tk })
    (turn : ∀ i j ys nx I1 o1 I oI C oC D m₂ h tk t u (E' : Value → Shared → Prop), i < n1 → j < n2 → J i j ys nx → (∀ p ∈ nx, p.1 ≠ I1) → NsObj oC m₂ → m₂ x = some (.int (a + (i : Int) * 1) t) → m₂ y = some (.int (c + (j : Int) * 1) u) → Fr h₀ L h m → News h₀ L h ((I, oI) :: (C, oC) :: (D, lst ys) :: (I1, o1) :: nx) → Off3 I C D ((I1, o1) :: nx) → ((@Ne Nat I C) ∧ (@Ne Nat I D) ∧ (@Ne Nat C D)) →
      TestJ prog w A ifs elt (compEnvC scope cl C env) (CompEnd h₀ L m { s with heap := h, toks := tk } I oI C oC D (lst ys) (fun _ => True) (fun r nx' => ∃ nx'', nx' = (I1, o1) :: nx'' ∧ (∀ p ∈ nx'', p.1 ≠ I1) ∧ J i (j + 1) (ys ++ [r]) nx''))
        (CompEnd h₀ L m { s with heap := h, toks := tk } I oI C oC D (lst ys) (fun _ => True) (fun _ nx' => ∃ nx'', nx' = (I1, o1) :: nx'' ∧ (∀ p ∈ nx'', p.1 ≠ I1) ∧ J i (j + 1) ys nx'') .none) E' { s with heap := h, toks := tk })
    (done : ∀ D h tk ys nx, J n1 0 ys nx → Fr h₀ L h (fun q => if q = u then some (.ref D) else m q) → News h₀ L h ((D, lst ys) :: nx) → (∀ p ∈ nx, p.1 ≠ D) → Q .next { s with heap := h, toks := tk })
    (hs1 : ∀ x, foldedSetIterable i1 env x = pure x := by intro _; rfl) :
    wpAny (model prog w) A (exec (.Assign [.Name u pu] (.ListComp elt [⟨.Name x px, i1, [], 0⟩, ⟨.Name y py, i2, ifs, 0⟩] scope pos) spos) env) Q E s := by
  subst hLe
  rw [exec_Assign_Name_used _ _ _ _ hsw]
  refine wpAny_bind (wpAny_standAt (wpAny_bind ?_))
  show wpAny _ A (do let _ ← comprehension (.ListComp elt [⟨.Name x px, i1, [], 0⟩, ⟨.Name y py, i2, ifs, 0⟩] scope pos) scope env _ (newList []) false (eval i1 env) (some (assign (.Name u pu) env))) _ _ s
  refine wpAny_bind (wpAny_mono (wpAny_comprehension_free (use := some (assign (.Name u pu) env)) (Q := fun _ s' => Q .next s') rfl hs1 hclos hkind hnames
    (wpAny_mono hev (fun xv s₁ h₁ => ?_) fun _ _ e => e)) (fun _ s' hq => wpAny_pure (wpAny_pure hq)) fun _ _ e => e)
  obtain ⟨r, t₀, u₀, v₀, h', tk₁, rfl, rfl, hr, F, N⟩ := h₁
  refine wpAny_pyIter_range hr hsmall1 ?_
  have up : ∀ p o, h'.get? p = some o → (h'.push { cls := .type "range_iterator", data := .fields #[rawInt a, rawInt (Builtin.Range.rangeSize a b 1), rawInt 1] }).get? p = some o := fun b o e => Heap.get?_push_of_some _ e
  refine block22 (n1 := n1) (n2 := n2) (J := J) hsz (by show (Heap.push _ _).get? _ = _; rw [hn1]; simpa using Heap.get?_push_size _ rfl) hsmall hn2 hcell hkind hx hy hxy hh (F.keeps up) (N.grown up) (Nat.ne_of_lt F.ns.lt) (next_is_new F) (fun p hp => Nat.ne_of_lt (Heap.lt_size (N p hp).1)) h0 hJ hs hev2 turn ?_
  intro D C h₅ tk m' ys news' F' N' o1 hn hC₀ hD₀ hCL hDL hCD offC fin
  show wpAny _ A (assign (.Name u pu) env (.ref D)) _ _ _
  refine wpAny_assign_Name (wpAny_storeName_local hu F'.ns (fun h₂ hn₂ hs₂ => ?_) hp)
  have hL₀ : h₀.get? env.locals = none := Heap.get?_none_of_le F'.above
  have F₂ : Fr h₀ env.locals h₂ (fun z => if z = u then some (.ref D) else m z) := ⟨hn₂, fun b o e => hs₂.extBut b o (fun q => by rw [q, hL₀] at e; cases e) (F'.keep b o e), F'.above⟩
  refine ⟨m', hn.sameBut hs₂ hCL, fun h'' hs'' => done D h'' _ ys news' fin (F₂.change hs'' hCL hC₀) (fun p hp => ?_) o1⟩
  have z : h₂.get? p.1 = some p.2 := hs₂.extBut _ _ (N' p hp).2.1 (N' p hp).1
  refine ⟨hs''.extBut _ _ ?_ z, (N' p hp).2⟩
  rcases List.mem_cons.mp hp with rfl | hp
  · exact Ne.symm hCD
  · exact offC p hp
end
end Mine
end

section
open PySem PySem.W PyProof.Rows PySem.Spec PySem.Calls
set_option Elab.async false
set_option maxRecDepth 100000
set_option maxHeartbeats 4000000
namespace Mine
set_option linter.all false
def ltT (a b : T3) : Bool := if a.1 = b.1 then (if a.2.1 = b.2.1 then decide (a.2.2 < b.2.2) else decide (a.2.1 < b.2.1)) else decide (a.1 < b.1)
def runB {α : Type} (lt : Nat → Nat → Bool) (n : Nat) : KasT α → Option α
  | .ret a => some a
  | .ask i j k => if i < n ∧ j < n then runB lt n (k (lt i j)) else none
theorem runB_wp {α : Type} {lt : Nat → Nat → Bool} {n : Nat} {cmp : Nat → Nat → (Bool → Shared → Prop) → Shared → Prop} {Q : α → Shared → Prop} {s : Shared} {p : α}
    (hc : ∀ i j C, i < n → j < n → C (lt i j) s → cmp i j C s) (hQ : Q p s) : ∀ t : KasT α, runB lt n t = some p → t.kasWp cmp Q s
  | .ret a, h => by
    have : a = p := Option.some.inj h
    exact this ▸ hQ
  | .ask i j k, h => by
    unfold runB at h
    split at h
    · rename_i hij
      exact hc i j _ hij.1 hij.2 (runB_wp hc hQ (k (lt i j)) h)
    · cases h
def sortT (ts : List T3) : Option (List Nat) := (runB (fun i j => ltT (ts.getD i (0, 0, 0)) (ts.getD j (0, 0, 0))) ts.length (kas_sort ts.length)).map Array.toList
section
variable {prog : Program} {w : World} {A : Around} {E : Value → Shared → Prop} {s : Shared} {h₀ : Heap} {L : Addr} {m : Str → Option Value} {news : List (Addr × Obj)}
theorem dat_int1 {T : List (Addr × Obj)} {v : Value} {a : Int} (h : DatIn T v (.int a)) : ∃ x, v = .int a x := by
  cases h; exact ⟨_, rfl⟩
theorem dat_cons1 {T : List (Addr × Obj)} {vs : List Value} {d : Dat} {ds : List Dat} (h : DatAll T vs (d :: ds)) : ∃ v r, vs = v :: r ∧ DatIn T v d ∧ DatAll T r ds := by
  cases h with
  | cons a b => exact ⟨_, _, rfl, a, b⟩
theorem dat_nil1 {T : List (Addr × Obj)} {vs : List Value} (h : DatAll T vs []) : vs = [] := by
  cases h; rfl
theorem dat3_in {T : List (Addr × Obj)} {v : Value} {p : T3} (h : DatIn T v (dat3 p)) : ∃ a x y z n, v = .ref a ∧ (a, ({ cls := .type "tuple", data := .seq [.int p.1 x, .int p.2.1 y, .int p.2.2 z].toArray n } : Obj)) ∈ T := by
  unfold dat3 at h
  cases h with
  | tuple hm hd =>
    rename_i a vs n
    obtain ⟨v1, r1, rfl, i1, hd⟩ := dat_cons1 hd
    obtain ⟨v2, r2, rfl, i2, hd⟩ := dat_cons1 hd
    obtain ⟨v3, r3, rfl, i3, hd⟩ := dat_cons1 hd
    obtain rfl := dat_nil1 hd
    obtain ⟨x, rfl⟩ := dat_int1 i1
    obtain ⟨y, rfl⟩ := dat_int1 i2
    obtain ⟨z, rfl⟩ := dat_int1 i3
    exact ⟨a, x, y, z, n, rfl, hm⟩
theorem datAll_get {T : List (Addr × Obj)} {vs : List Value} {ts : List T3} (h : DatAll T vs (ts.map dat3)) {i : Nat} (hi : i < ts.length) : DatIn T (vs.getD i Value.none) (dat3 (ts.getD i (0, 0, 0))) := by
  obtain ⟨v, e, hv⟩ := h.get (k := i) (by simpa using hi)
  have : vs.getD i Value.none = v := by simp [List.getD, e]
  rw [this]
  have e2 : (ts.map dat3)[i]'(by simpa using hi) = dat3 (ts.getD i (0, 0, 0)) := by simp [List.getD, hi]
  exact e2 ▸ hv
theorem lt3 {a b : Addr} {p q : T3} {x y z x' y' z' : Tok} {n n' : Nat} {Q : Bool → Shared → Prop} (ha : s.heap.get? a = some ({ cls := .type "tuple", data := .seq [.int p.1 x, .int p.2.1 y, .int p.2.2 z].toArray n } : Obj)) (hb : s.heap.get? b = some ({ cls := .type "tuple", data := .seq [.int q.1 x', .int q.2.1 y', .int q.2.2 z'].toArray n' } : Obj))
    (h : Q (ltT p q) s) : wpAny (model prog w) A (keyLt' (tuples' true) (.ref a) (.ref b)) Q E s := by
  refine kat_lt ha rfl hb rfl ?_
  unfold ltT at h
  refine kat_cons (wpAny_eqBool_int ?_)
  by_cases e1 : p.1 = q.1
  · rw [if_pos e1] at h
    rw [show (p.1 == q.1) = true by simpa using e1]
    refine kat_yes (kat_cons (wpAny_eqBool_int ?_))
    by_cases e2 : p.2.1 = q.2.1
    · rw [if_pos e2] at h
      rw [show (p.2.1 == q.2.1) = true by simpa using e2]
      refine kat_yes (kat_cons (wpAny_eqBool_int ?_))
      by_cases e3 : p.2.2 = q.2.2
      · rw [show (p.2.2 == q.2.2) = true by simpa using e3]
        refine kat_yes (kat_nil ?_)
        have : decide (p.2.2 < q.2.2) = false := by simp [e3]
        rw [this] at h; exact h
      · rw [show (p.2.2 == q.2.2) = false by simpa using e3]
        exact kat_no (kat_one _ _ (lt_int h))
    · rw [if_neg e2] at h
      rw [show (p.2.1 == q.2.1) = false by simpa using e2]
      exact kat_no (kat_one _ _ (lt_int h))
  · rw [if_neg e1] at h
    rw [show (p.1 == q.1) = false by simpa using e1]
    exact kat_no (oneLt_int h)
theorem katTups_dat {T : List (Addr × Obj)} {h : Heap} (N : News h₀ L h T) : ∀ {vs : List Value} {ts : List T3}, DatAll T vs (ts.map dat3) → ∃ fs, KatTups h vs fs ∧ fs.length = ts.length ∧ ∀ v ∈ fs, ∃ i t, v = .int i t
  | [], [], _ => ⟨[], KatTups.nil, rfl, fun v hv => (nomatch hv)⟩
  | [], _ :: _, h => nomatch h
  | _ :: _, [], h => nomatch h
  | v :: vs, p :: ts, .cons hd r => by
    obtain ⟨fs, k, e, a⟩ := katTups_dat N r
    obtain ⟨b, x, y, z, n, rfl, hm⟩ := dat3_in hd
    exact ⟨.int p.1 x :: fs, KatTups.cons (N.get hm) rfl rfl rfl k, by simp [e], fun v hv => by
      rcases List.mem_cons.mp hv with rfl | hv
      · exact ⟨_, _, rfl⟩
      · exact a v hv⟩
theorem looks_int {M : Model} {h : Heap} {i : Int} {t : Tok} : Looks M h (typeOf (.int i t)) (.type "int") := fun _ _ _ _ _ q => wpAny_typeOf rfl q
theorem sorted2 {l : Addr} {vs : List Value} {k : Nat} {ts : List T3} {p : List Nat} {Q : Value → Shared → Prop} (F : Fr h₀ L s.heap m) (N : News h₀ L s.heap news) (hm : (l, listOf vs.toArray k) ∈ news) (hD : DatAll news vs (ts.map dat3))
    (h2 : 2 ≤ ts.length) (h64 : ts.length < 64) (hp : sortT ts = some p)
    (h : ∀ D e h', Fr h₀ L h' m → News h₀ L h' ((D, listOf (p.map fun i => vs.getD i Value.none).toArray e) :: news) → (∀ q ∈ news, q.1 < D) → Q (.ref D) { s with heap := h' }) :
    wpAny (model prog w) A (call (.builtin "sorted") [.ref l]) Q E s := by
  have hlen : vs.length = ts.length := by simpa using hD.length
  unfold sortT at hp
  obtain ⟨p', hp', rfl⟩ := Option.map_eq_some_iff.mp hp
  refine kat_sorted F N (N.isList hm) (by omega) (by omega) fun D e1 h' F' N' hlt => ?_
  have N₀ : News h₀ L h' news := fun p hp => N' p (.tail _ hp)
  obtain ⟨fs, kt, e, a⟩ := katTups_dat N₀ hD
  refine kat_kind (T := .type "int") kt (by omega) (fun v hv => ?_) rfl ?_
  · obtain ⟨i, t, rfl⟩ := a v hv
    exact looks_int
  · rw [hlen]
    refine runB_wp (fun i j C hi hj hC => ?_) (?_) _ hp'
    · obtain ⟨b, x, y, z, n, e1, m1⟩ := dat3_in (datAll_get hD hi)
      obtain ⟨b', x', y', z', n', e2, m2⟩ := dat3_in (datAll_get hD hj)
      unfold kas_ask
      rw [e1, e2]
      exact lt3 (s := { s with heap := h' }) (N₀.get m1) (N₀.get m2) hC
    · exact KasFin.intro (s := { s with heap := h' }) F' N' (.head fun q hq => Nat.ne_of_lt (hlt q hq)) fun h'' c F'' N'' => h D c h'' F'' N'' hlt
theorem sorted1 {l : Addr} {v : Value} {k : Nat} {Q : Value → Shared → Prop} (F : Fr h₀ L s.heap m) (N : News h₀ L s.heap news) (hm : (l, listOf [v].toArray k) ∈ news)
    (h : ∀ D e h', Fr h₀ L h' m → News h₀ L h' ((D, listOf [v].toArray e) :: news) → (∀ q ∈ news, q.1 < D) → Q (.ref D) { s with heap := h' }) :
    wpAny (model prog w) A (call (.builtin "sorted") [.ref l]) Q E s := by
  have hl : s.heap.IsList l [v].toArray := N.isList hm
  refine Calls.call_function_entry kind_sorted plain_sorted entry_sorted (args_sorted1 _) ?_
  unfold Builtin.«sorted»
  refine wpAny_bind (m := checkCount "sorted" 1 1 _) (wpAny_pure ?_)
  refine wpAny_bind (collect_list hl ?_ (by rw [sizeLine_eq]; show 1 ≤ 16777216; decide))
  refine wpAny_bind (wpAny_newList ?_ (by rw [sizeLine_eq]; show 1 ≤ 16777216; decide))
  have hsz : ((s.heap.push (seqObj "list" #[] 0)).update s.heap.objs.size (Obj.mapSeq (· ++ [v].toArray))).objs.size = s.heap.objs.size + 1 := by
    rw [Heap.size_update, size_push']
  have hoL : (((s.heap.push (seqObj "list" #[] 0)).update s.heap.objs.size (Obj.mapSeq (· ++ [v].toArray))).push (seqObj "list" [v].toArray 0)).get? (s.heap.objs.size + 1) = some (seqObj "list" [v].toArray 0) := by
    rw [← hsz]; exact Heap.get?_push_size _ rfl
  have keep : ∀ b o, s.heap.get? b = some o → (((s.heap.push (seqObj "list" #[] 0)).update s.heap.objs.size (Obj.mapSeq (· ++ [v].toArray))).push (seqObj "list" [v].toArray 0)).get? b = some o := fun b o q => by
    have hlt : b < s.heap.objs.size := Heap.lt_size q
    rw [Heap.get?_push_ne _ _ _ (by rw [hsz]; exact Nat.ne_of_lt (Nat.lt_succ_of_lt hlt)), Heap.get?_update_ne _ _ _ _ (Nat.ne_of_lt hlt), Heap.get?_push_ne _ _ _ (Nat.ne_of_lt hlt)]
    exact q
  have hL : L < s.heap.objs.size := F.ns.lt
  show wpAny _ _ _ _ _ { s with heap := ((s.heap.push (seqObj "list" #[] 0)).update s.heap.objs.size (Obj.mapSeq (· ++ [v].toArray))).push (seqObj "list" [v].toArray 0) }
  rw [hsz]
  refine wpAny_bind (wpAny_holding (wpAny_call_entry slot_list_sort ⟨_, hoL, rfl⟩ entry_list_sort ?body (args_list_sort _)))
  case body =>
    have F1 := F.kept keep
    have N1 := N.grown keep
    generalize (((s.heap.push (seqObj "list" #[] 0)).update s.heap.objs.size (Obj.mapSeq (· ++ [v].toArray))).push (seqObj "list" [v].toArray 0)) = H at hoL F1 N1
    have haL : s.heap.objs.size + 1 ≠ L := Nat.ne_of_gt (Nat.lt_succ_of_lt hL)
    have ha0 : h₀.get? (s.heap.objs.size + 1) = none := Heap.get?_none_of_le (Nat.le_trans F.above (Nat.le_succ_of_le (Nat.le_of_lt hL)))
    have hna : ∀ p ∈ news, p.1 ≠ s.heap.objs.size + 1 := fun p hp => Nat.ne_of_lt (Nat.lt_succ_of_lt (Heap.lt_size (N p hp).1))
    have hlt : ∀ q ∈ news, q.1 < s.heap.objs.size + 1 := fun q hq => Nat.lt_succ_of_lt (Heap.lt_size (N q hq).1)
    generalize s.heap.objs.size + 1 = a at hoL haL ha0 hna hlt ⊢
    have ha : a < H.objs.size := Heap.lt_size hoL
    have s1 := Heap.SameBut.update H a (Obj.mapSeq fun _ => (#[] : Array Value))
    obtain ⟨e1, ho1⟩ : ∃ e1, (H.update a (Obj.mapSeq fun _ => (#[] : Array Value))).get? a = some (seqObj "list" #[] e1) := ⟨_, get?_update_seq hoL fun _ => #[]⟩
    have F3 := ((kas_fr F1 s1 haL ha0).push (seqObj "tuple" [v].toArray 0)).push (seqObj "list" #[] 0)
    have N3 : News h₀ L (((H.update a (Obj.mapSeq fun _ => (#[] : Array Value))).push (seqObj "tuple" [v].toArray 0)).push (seqObj "list" #[] 0)) ((a, seqObj "list" #[] e1) :: news) := fun p hp => by
      rcases List.mem_cons.mp hp with rfl | hp
      · exact ⟨Heap.get?_push_of_some _ (Heap.get?_push_of_some _ ho1), haL, ha0⟩
      · exact ((kas_news N1 s1 hna).grown fun b x e => Heap.get?_push_of_some _ (Heap.get?_push_of_some _ e)) p hp
    rw [list_sort_plain]
    refine wpAny_bind (listItems_at hoL rfl ?_)
    refine wpAny_bind (listUpdate_at hoL rfl ?_ (by rw [sizeLine_eq]; show 1 ≤ 16777216; decide) (Nat.zero_le _))
    refine wpAny_bind (seqEpoch_at ho1 rfl ?_)
    refine wpAny_bind (wpAny_newTuple ?_ (by rw [sizeLine_eq]; show 1 ≤ 16777216; decide))
    refine wpAny_bind (wpAny_newList ?_ (Nat.zero_le _))
    refine wpAny_holding ?_
    have na := N3 _ (.head _)
    generalize (((H.update a (Obj.mapSeq fun _ => (#[] : Array Value))).push (seqObj "tuple" [v].toArray 0)).push (seqObj "list" #[] 0)) = H3 at F3 N3 na
    show wpAny (model prog w) _ _ _ E { s with heap := H3 }
    dsimp only
    have hn2 : #[v].size < 2 := by show 1 < 2; decide
    rw [if_pos hn2, if_pos hn2]
    refine wpAny_bind (wpAny_pure ?_)
    refine wpAny_bind (wpAny_pure ?_)
    dsimp only
    have hout : (arrOf (SortSt.mk' general' (#[v].zip #[v]) #[] 7 none)).map (·.2) = [v].toArray := by
      show (#[v].zip #[v]).map (·.2) = #[v]
      simp
    rw [hout]
    have s2 := Heap.SameBut.update H3 a (Obj.mapSeq fun _ => [v].toArray)
    obtain ⟨c2, hc2⟩ : ∃ c2, (H3.update a (Obj.mapSeq fun _ => [v].toArray)).get? a = some (seqObj "list" [v].toArray c2) := ⟨_, get?_update_seq na.1 fun _ => [v].toArray⟩
    refine wpAny_bind (seqEpoch_at na.1 rfl ?_)
    refine wpAny_bind (listUpdate_at na.1 rfl ?_ (Nat.zero_le _) (by rw [sizeLine_eq]; show 1 ≤ 16777216 + 1; decide))
    simp only [bne_self_eq_false, Bool.false_eq_true, if_false]
    refine wpAny_pure ⟨_, rfl, wpAny_pure ⟨_, rfl, h a c2 _ (kas_fr F3 s2 na.2.1 na.2.2) ?_ hlt⟩⟩
    intro p hp
    rcases List.mem_cons.mp hp with rfl | hp
    · exact ⟨hc2, haL, ha0⟩
    · exact ⟨(s2.2 p.1 (hna p hp)).trans (N3 p (.tail _ hp)).1, (N3 p (.tail _ hp)).2⟩
end
end Mine
end

section
theorem Mine.topOffP7 : True := by
  w_top off
  trivial
open PySem PySem.W PyProof.Rows
set_option Elab.async false
set_option maxRecDepth 100000
set_option maxHeartbeats 4000000
namespace Mine
set_option linter.all false
def tup3 (x y z : Int) (a b c : Tok) (n : Nat) : Obj := { cls := .type "tuple", data := .seq #[.int x a, .int y b, .int z c] n }
/-- a new triple of ints comes back -/
def RetT (news : List (Addr × Obj)) (p : T3) (h₀ : Heap) (L : Addr) (m : Str → Option Value) (s : Shared) (Q : Value → Shared → Prop) : Prop :=
  ∀ (D : Addr) (t1 t2 t3 : Tok) (c : Nat) (h' : Heap) (tk' : Nat), Fr h₀ L h' m → News h₀ L h' ((D, tup3 p.1 p.2.1 p.2.2 t1 t2 t3 c) :: news) → (∀ p ∈ news, p.1 < D) → Q (.ref D) { s with heap := h', toks := tk' }
def turnT (p : T3) : T3 := if p.1 < p.2.1 - p.2.2 then (p.1 + 2 * p.2.2, p.2.2, p.2.1 - p.1 - p.2.2) else if p.1 < 2 * p.2.1 then (2 * p.2.1 - p.1, p.2.1, p.1 - p.2.1 + p.2.2) else (p.1 - 2 * p.2.1, p.1 - p.2.1 + p.2.2, p.2.1)
local macro_rules | `(tactic| walk_at "binaryOp Mult int int") => `(tactic| k_dflt (refine' mul_bd (j := 70) (k := 130) ?a ?b ?c ?_; (case a => assumption); (case b => assumption); (case c => decide)))
theorem turned (w : World) (news : List (Addr × Obj)) (x y z : Int) (t1 t2 t3 : Tok) (hy : Bd 130 y) (hz : Bd 130 z) :
   CallTo w 149 news [.int x t1, .int y t2, .int z t3] 10 100 (RetT news (turnT (x, y, z))) := by
  unfold CallTo
  k_fill
  intro p loose mean mg mb dp un gd cn cs a ccd cl outer A₀ base h₀ L m s Q E B F X N T hk hd hu hret
  have h2 : Bd 70 2 := Bd.lit (by decide)
  refine wpAny_call ?_
  k_dflt cell_enter
  k_steps
  all_goals try unfold turnT at hret
  · rw [if_pos (by assumption)] at hret
    refine' hret _ _ _ _ _ _ _ ?eF ?eN ?eL; (case eF => k_asm); (case eN => (refine' news_sub ?eA ?eB; (case eA => k_asm); (case eB => (repeat first | exact List.Subset.refl _ | refine' List.cons_subset_cons _ ?_ | refine' List.subset_cons_of_subset _ ?_)))); (case eL => first | assumption | exact ktn_ltOf (by assumption))
  · rw [if_neg (by assumption), if_pos (by assumption)] at hret
    refine' hret _ _ _ _ _ _ _ ?eF ?eN ?eL; (case eF => k_asm); (case eN => (refine' news_sub ?eA ?eB; (case eA => k_asm); (case eB => (repeat first | exact List.Subset.refl _ | refine' List.cons_subset_cons _ ?_ | refine' List.subset_cons_of_subset _ ?_)))); (case eL => first | assumption | exact ktn_ltOf (by assumption))
  · rw [if_neg (by assumption), if_neg (by assumption)] at hret
    refine' hret _ _ _ _ _ _ _ ?eF ?eN ?eL; (case eF => k_asm); (case eN => (refine' news_sub ?eA ?eB; (case eA => k_asm); (case eB => (repeat first | exact List.Subset.refl _ | refine' List.cons_subset_cons _ ?_ | refine' List.subset_cons_of_subset _ ?_)))); (case eL => first | assumption | exact ktn_ltOf (by assumption))
end Mine
end

section
theorem Mine.topOffP8 : True := by
  w_top off
  trivial
open PySem PySem.W PyProof.Rows PySem.Spec PySem.Calls
open PyProof.Rows.LCg
set_option Elab.async false
set_option maxRecDepth 100000
set_option maxHeartbeats 4000000
namespace Mine
set_option linter.all false
def okSort (ts us : List T3) : Bool := match sortT us with
  | some p => p.all (fun i => decide (i < us.length)) && decide (p.map (fun i => us.getD i (0, 0, 0)) = ts) && decide (1 ≤ us.length) && decide (us.length < 64)
  | none => false
def swapT (p : T3) : T3 := (p.1, p.2.2, p.2.1)
theorem okSorts : ∀ S ∈ sizes, okSort (millsTo S 4) ((millsTo S 4).map swapT) = true ∧ okSort (millsTo S 4) ((millsTo S 4).map turnT) = true := by decide +kernel
theorem dat_pick {T : List (Addr × Obj)} {vs : List Value} {us : List T3} (h : DatAll T vs (us.map dat3)) : ∀ p : List Nat, (∀ i ∈ p, i < us.length) → DatAll T (p.map fun i => vs.getD i Value.none) ((p.map fun i => us.getD i (0, 0, 0)).map dat3)
  | [], _ => .nil
  | i :: p, hp => .cons (datAll_get h (hp i (.head _))) (dat_pick h p fun j hj => hp j (.tail _ hj))
section
variable {prog : Program} {w : World} {A : Around} {E : Value → Shared → Prop} {s : Shared} {h₀ : Heap} {L : Addr} {m : Str → Option Value} {news : List (Addr × Obj)}
theorem sortedT {l : Addr} {vs : List Value} {k : Nat} {ts us : List T3} {Q : Value → Shared → Prop} (F : Fr h₀ L s.heap m) (N : News h₀ L s.heap news) (hm : (l, listOf vs.toArray k) ∈ news) (hD : DatAll news vs (us.map dat3)) (ok : okSort ts us = true)
    (h : ∀ D e h' out, Fr h₀ L h' m → News h₀ L h' ((D, listOf (List.toArray out) e) :: news) → DatAll news out (ts.map dat3) → (∀ q ∈ news, q.1 < D) → Q (.ref D) { s with heap := h' }) :
    wpAny (model prog w) A (call (.builtin "sorted") [.ref l]) Q E s := by
  unfold okSort at ok
  split at ok
  · rename_i p hp
    simp only [Bool.and_eq_true, List.all_eq_true, decide_eq_true_eq] at ok
    obtain ⟨⟨⟨o1, o2⟩, o3⟩, o4⟩ := ok
    have hd := dat_pick hD p o1
    rw [o2] at hd
    by_cases h2 : 2 ≤ us.length
    · exact sorted2 F N hm hD h2 o4 hp fun D e h' F' N' hlt => h D e h' _ F' N' hd hlt
    · obtain ⟨u, rfl⟩ : ∃ u, us = [u] := List.length_eq_one_iff.mp (by omega)
      have hv : vs.length = 1 := by simpa using hD.length
      obtain ⟨v, rfl⟩ := List.length_eq_one_iff.mp hv
      have : p = [0] := by
        have e : sortT [u] = some [0] := rfl
        rw [e] at hp; exact (Option.some.inj hp).symm
      subst this
      exact sorted1 F N hm fun D e h' F' N' hlt => h D e h' _ F' N' hd hlt
  · cases ok
theorem ne_dat {a b : Addr} {xs ys : List Value} {ka kb : Nat} {ts : List T3} {Q : Value → Shared → Prop} (N : News h₀ L s.heap news) (ma : (a, listOf xs.toArray ka) ∈ news) (Da : DatAll news xs (ts.map dat3)) (mb : (b, listOf ys.toArray kb) ∈ news) (Db : DatAll news ys (ts.map dat3))
    (hu : A.units + 64 < cLine) (h : Q (.bool false) s) : wpAny (model prog w) A (compareOp .NotEq (.ref a) (.ref b)) Q E s :=
  kqd_ne N ma rfl rfl Da (fun _ h => h) mb rfl rfl Db (fun _ h => h) (by intro d hd; obtain ⟨p, _, rfl⟩ := List.mem_map.mp hd; rfl) (by intro d hd; obtain ⟨p, _, rfl⟩ := List.mem_map.mp hd; rfl) hu (by simpa using h)
end

section
variable {prog : Program} {w : World} {A : Around} {E : Value → Shared → Prop} {s : Shared} {h₀ : Heap} {L : Addr} {m : Str → Option Value} {news : List (Addr × Obj)} {env : Env}
def EltEnd (h₀ : Heap) (L : Addr) (m : Str → Option Value) (s : Shared) (q : T3) (nx : List (Addr × Obj)) (v : Value) (s' : Shared) : Prop :=
  ∃ D' a b c n h' tk', v = .ref D' ∧ s' = { s with heap := h', toks := tk' } ∧ Fr h₀ L h' m ∧ News h₀ L h' ((D', tup3 q.1 q.2.1 q.2.2 a b c n) :: nx) ∧ (∀ q ∈ nx, q.1 < D')
theorem EltEnd.intro {q : T3} {nx : List (Addr × Obj)} {D' : Addr} {a b c : Tok} {n : Nat} {h' : Heap} {tk' : Nat} (F : Fr h₀ L h' m) (N : News h₀ L h' ((D', tup3 q.1 q.2.1 q.2.2 a b c n) :: nx)) (l : ∀ q ∈ nx, q.1 < D') : EltEnd h₀ L m s q nx (.ref D') { s with heap := h', toks := tk' } :=
  ⟨D', a, b, c, n, h', tk', rfl, rfl, F, N, l⟩
/-- the item of a comprehension over triples is a new triple -/
def EltJ (prog : Program) (w : World) (A : Around) (h₀ : Heap) (L : Addr) (m : Str → Option Value) (env : Env) (elt : PySem.Expr) (scope : Scope) (cl : List (Str × Addr)) (f : T3 → T3) (s : Shared) (ts : List T3) (news : List (Addr × Obj)) : Prop :=
  ∀ (p : T3) (t1 t2 t3 : Tok) (I : Addr) (oI : Obj) (C : Addr) (oC : Obj) (D : Addr) (oD : Obj) (nx : List (Addr × Obj)) (m₂ : Str → Option Value) (h : Heap) (tk : Nat) (E' : Value → Shared → Prop), p ∈ ts → (∀ q ∈ news, q ∈ nx) → NsObj oC m₂ → m₂ (Str.ofString "x") = some (.int p.1 t1) → m₂ (Str.ofString "y") = some (.int p.2.1 t2) → m₂ (Str.ofString "z") = some (.int p.2.2 t3) →
    Fr h₀ L h m → News h₀ L h ((I, oI) :: (C, oC) :: (D, oD) :: nx) →
    wpAny (model prog w) A (eval elt (compEnvC scope cl C env)) (EltEnd h₀ L m s (f p) ((I, oI) :: (C, oC) :: (D, oD) :: nx)) E' { s with heap := h, toks := tk }
theorem dat_snoc' {T : List (Addr × Obj)} {vs : List Value} {ts : List T3} {D : Addr} {p : T3} {a b c : Tok} {n : Nat} (h : DatAll T vs (ts.map dat3)) :
    DatAll ((D, tup3 p.1 p.2.1 p.2.2 a b c n) :: T) (vs ++ [.ref D]) ((ts ++ [p]).map dat3) := dat_snoc h
theorem eval_map {elt iter : PySem.Expr} {px py pz tp : Pos} {tk} {scope : Scope} {cl : List (Str × Addr)} {pos : Pos} {Q : Value → Shared → Prop} {l : Addr} {vs : List Value} {k : Nat} {ts : List T3} (f : T3 → T3)
    (F : Fr h₀ L s.heap m) (N : News h₀ L s.heap news) (hl : (l, listOf vs.toArray k) ∈ news) (hD : DatAll news vs (ts.map dat3)) (hsz : ts.length ≤ sizeLine) (hh : A.handled = none)
    (hclos : closureFor scope env = pure cl) (hcell : ∀ y ∈ scope.names, y.2 ≠ .cell) (hkind : scope.kind = .function)
    (hnames : ∀ y ∈ scope.names, y.2 = .local → scope.names.lookup y.1 = some .local) (hx : scope.names.lookup (Str.ofString "x") = some .local) (hy : scope.names.lookup (Str.ofString "y") = some .local) (hz : scope.names.lookup (Str.ofString "z") = some .local)
    (hev : wpAny (model prog w) A (eval iter env) (fun xv s₁ => xv = .ref l ∧ ∃ tk, s₁ = { s with toks := tk }) E s)
    (helt : EltJ prog w A h₀ L m env elt scope cl f s ts news)
    (done : ∀ D h tk ys nx, (∀ p ∈ news, p ∈ nx) → DatAll nx ys ((ts.map f).map dat3) → Fr h₀ L h m → News h₀ L h ((D, lst ys) :: nx) → (∀ p ∈ nx, p.1 ≠ D) → Q (.ref D) { s with heap := h, toks := tk })
    (hs : ∀ x, foldedSetIterable iter env x = pure x := by intro _; rfl) :
    wpAny (model prog w) A (eval (.ListComp elt [⟨.Tuple [.Name (Str.ofString "x") px, .Name (Str.ofString "y") py, .Name (Str.ofString "z") pz] tk tp, iter, [], 0⟩] scope pos) env) Q E s := by
  have hlen : vs.length = ts.length := by simpa using hD.length
  refine ListComp_3 (fun i ys nx => (∀ p ∈ news, p ∈ nx) ∧ DatAll nx ys (((ts.take i).map f).map dat3)) F N hl (by omega) hh hclos hcell hkind hnames hx hy hz (by decide) (by decide) (by decide) hev ⟨fun _ h => h, by simpa using DatAll.nil⟩ ?_ ?_ hs
  · intro g tk₀ i v ys nx hv hyl hl' hJ
    obtain ⟨hsub, hys⟩ := hJ
    have hi : i < ts.length := by rw [← hlen]; exact (List.getElem?_eq_some_iff.mp hv).1
    have hd := datAll_get (hD.mono hsub) hi
    have ev : vs.getD i Value.none = v := by simp [List.getD, hv]
    rw [ev] at hd
    obtain ⟨t, a, b, c, n, rfl, hm⟩ := dat3_in hd
    refine ⟨t, _, _, _, _, n, rfl, hm, rfl, rfl, ?_⟩
    intro I oI C oC D m₂ h tk E' hC h1 h2 h3 F' N' off ne
    refine TestJ.nil (wpAny_mono (helt (ts.getD i (0, 0, 0)) a b c I oI C oC D (lst ys) nx m₂ h tk E' ?_ hsub hC h1 h2 h3 F' N') (fun r s' hr => ?_) fun _ _ e => e)
    · simp [List.getD, hi]
    · obtain ⟨D', a', b', c', n', h', tk', rfl, rfl, F'', N'', hlt⟩ := hr
      have e : ts.take (i + 1) = ts.take i ++ [ts.getD i (0, 0, 0)] := by rw [List.take_add_one]; simp [List.getD, hi]
      refine CompEnd.intro F'' N'' ((D', tup3 (f (ts.getD i (0, 0, 0))).1 (f (ts.getD i (0, 0, 0))).2.1 (f (ts.getD i (0, 0, 0))).2.2 a' b' c' n') :: nx) (fun p hp => ?_) (Off3.of fun p hp => ?_) (List.mem_cons_of_mem _ hl') ⟨fun p hp => List.mem_cons_of_mem _ (hsub p hp), ?_⟩
      · simp only [List.mem_cons] at hp ⊢
        rcases hp with h | h | h | h | h <;> simp [h]
      · rcases List.mem_cons.mp hp with rfl | hp
        · exact ⟨Nat.ne_of_gt (hlt _ (.head _)), Nat.ne_of_gt (hlt _ (.tail _ (.head _))), Nat.ne_of_gt (hlt _ (.tail _ (.tail _ (.head _))))⟩
        · exact off.mem p hp
      · rw [e, List.map_append]
        exact dat_snoc' hys
  · intro D h tk ys nx hJ hl' F' N' off
    have e : ts.take vs.length = ts := by rw [hlen]; simp
    rw [e] at hJ
    exact done D h tk ys nx hJ.1 hJ.2 F' N' off
end

local macro_rules | `(tactic| walk_at "loadName") => `(tactic| (k_here; k_dflt (refine' ldX_C ?N ?c ?m ?d ?_ ?a ?b; (case a => rfl); (case b => rfl); (case N => k_asm); (case c => rfl); (case m => k_mem); (case d => k_asm))))
def Stop (p : Prop) : Prop := p
theorem Stop.out {p : Prop} (h : Stop p) : p := h
theorem Stop.go {p : Prop} (h : p) : Stop p := h
theorem millsBd : ∀ S ∈ sizes, ∀ p ∈ millsTo S 4, 1 ≤ p.1 ∧ p.1 ≤ 7 ∧ 1 ≤ p.2.1 ∧ p.2.1 ≤ 15 ∧ 1 ≤ p.2.2 ∧ p.2.2 ≤ 15 ∧ p.1 * p.1 + 4 * p.2.1 * p.2.2 = S := by decide +kernel
local macro_rules | `(tactic| walk_at "mine call") => `(tactic| (
  (case k1 => k_asm); (case k2 => k_asm); (case k3 => k_asm); (case k4 => k_asm); (case k5 => k_asm); (case kK => first | exact rfl | assumption); (case kd => ktr_room); (case ku => ktr_units)))
local macro_rules | `(tactic| walk_at "call ref") => `(tactic| (k_here; k_dflt (refine' CallTo.use ?k1 ?k2 ?k3 ?k4 ?k5 ?kK (turned _ _ _ _ _ _ _ _ ?s1 ?s2) ?kd ?ku ?_; (case s1 => with_reducible assumption); (case s2 => with_reducible assumption); walk_at "mine call"; (intro D' t1' t2' t3' c' h' tk' F' N' l1; (try dsimp only)))))
local macro_rules | `(tactic| walk_at "compareOp NotEq ref ref") => `(tactic| (k_here; k_dflt (refine' ne_dat ?N ?a ?b ?c ?d ?e ?_; (case N => k_asm); (case a => with_reducible assumption); (case b => with_reducible assumption); (case c => with_reducible assumption); (case d => with_reducible assumption); (case e => ke_room))))
local macro_rules | `(tactic| walk_at "eval ListComp") => `(tactic| with_reducible refine Stop.out ?_)
theorem st12 (w : World) (mean : ExcName → Option Value) (mg mb : Str → Option Value) (h₀ : Heap) (L fa : Addr) (cd : Value) (s : Shared) (Q : Flow → Shared → Prop) (E : Value → Shared → Prop)
    (lm : Addr) (S : Int) (m : Str → Option Value) (rest : List Stmt) (vs : List Value) (k : Nat) (R : List (Addr × Obj))
    (hS : S ∈ sizes) (hD : DatAll R vs ((millsTo S 4).map dat3))
    (mm : m (Str.ofString "mills") = some (.ref lm))
    (B : Below callerA h₀ [] h₀) (F : Fr h₀ L s.heap m) (X : (hd.heap_1 w.params).In h₀) (T : Top view (looseW view []) mean mg mb h₀)
    (N : News h₀ L s.heap ((lm, listOf vs.toArray k) :: R))
    (K : ∀ (h' : Heap) (tk : Nat), Fr h₀ L h' m → News h₀ L h' ((lm, listOf vs.toArray k) :: R) → wpAny (model PySem.Challenge.rw_xj0017_01.row.prog w) (callerA.deeper (lawEnv L fa cd)) (execs rest (lawEnv L fa cd)) Q E { s with heap := h', toks := tk }) :
    wpAny (model PySem.Challenge.rw_xj0017_01.row.prog w) (callerA.deeper (lawEnv L fa cd)) (execs (lawStmt 12 :: rest) (lawEnv L fa cd)) Q E s := by
  revert X
  k_fill
  intro X
  have F1 := (pin ⟨F, rfl⟩ mm).1
  conv in (lawStmt 12) => whnf
  k_steps
  have hz : (millsTo S 4).length ≤ sizeLine := by have := millsTo_len S 4; rw [sizeLine_eq]; omega
  have hsub : ∀ p ∈ R, p ∈ (lm, listOf vs.toArray k) :: R := fun p hp => .tail _ hp
  have hb := millsBd S hS
  refine Stop.go (eval_map (L := L) (cl := []) (ts := millsTo S 4) swapT F1 N (.head _) (hD.mono hsub) hz rfl (by with_unfolding_all rfl) (by decide) rfl (by decide) rfl rfl rfl ?_ ?_ ?_)
  · k_steps
  · intro p t1 t2 t3 I oI C oC D oD nx m₂ h tk E' hp hsub hC h1 h2 h3 F' N'
    clear N F1 K
    k_steps
    rename_i D' h'' F2 N2 l1
    exact EltEnd.intro (q := swapT p) F2 N2 (ktn_ltOf l1)
  · intro D h tk ys nx hin hys F' N' hoff
    have N2 : News h₀ L h ((D, listOf ys.toArray ys.length) :: nx) := N'
    clear N'
    k_steps
    refine sortedT (ts := millsTo S 4) F' N2 (.head _) (hys.mono fun p hp => .tail _ hp) (okSorts S hS).1 ?_
    intro D2 e2 h2 out F3 N3 hout hlt
    have m1 : (D2, listOf (List.toArray out) e2) ∈ (D2, listOf (List.toArray out) e2) :: (D, listOf ys.toArray ys.length) :: nx := .head _
    have m2 : (lm, listOf vs.toArray k) ∈ (D2, listOf (List.toArray out) e2) :: (D, listOf ys.toArray ys.length) :: nx := .tail _ (.tail _ (hin _ (.head _)))
    have d1 : DatAll ((D2, listOf (List.toArray out) e2) :: (D, listOf ys.toArray ys.length) :: nx) out ((millsTo S 4).map dat3) := hout.mono fun p hp => .tail _ hp
    have d2 : DatAll ((D2, listOf (List.toArray out) e2) :: (D, listOf ys.toArray ys.length) :: nx) vs ((millsTo S 4).map dat3) := hD.mono fun p hp => .tail _ (.tail _ (hin _ (.tail _ hp)))
    clear N2 F'
    k_steps
    have N4 : News h₀ L h2 ((lm, listOf vs.toArray k) :: R) := fun p hp => N3 p (.tail _ (.tail _ (hin p hp)))
    clear N3 hin hys hout m1 m2 d1 d2 hoff hlt
    rename Fr _ _ _ _ => F4
    refine Stop.go (eval_map (L := L) (cl := []) (ts := millsTo S 4) turnT F4 N4 (.head _) (hD.mono hsub) hz rfl (by with_unfolding_all rfl) (by decide) rfl (by decide) rfl rfl rfl ?_ ?_ ?_)
    · k_steps
    · intro p t1 t2 t3 I oI C oC D oD nx m₂ h tk E' hp hsub hC h1 h2 h3 F' N'
      have bb := hb p hp
      have b1 : Bd 130 p.2.1 := by unfold Bd; omega
      have b2 : Bd 130 p.2.2 := by unfold Bd; omega
      clear N F1 K N4 F4
      k_steps
      rename_i l1
      rename Fr _ _ _ _ => F2
      rename News _ _ _ _ => N2
      exact EltEnd.intro (q := turnT p) F2 N2 l1
    · intro D h tk ys nx hin hys F' N' hoff
      have N2 : News h₀ L h ((D, listOf ys.toArray ys.length) :: nx) := N'
      clear N' N4 F4
      k_steps
      refine sortedT (ts := millsTo S 4) F' N2 (.head _) (hys.mono fun p hp => .tail _ hp) (okSorts S hS).2 ?_
      intro D2 e2 h2 out F3 N3 hout hlt
      have m1 : (D2, listOf (List.toArray out) e2) ∈ (D2, listOf (List.toArray out) e2) :: (D, listOf ys.toArray ys.length) :: nx := .head _
      have m2 : (lm, listOf vs.toArray k) ∈ (D2, listOf (List.toArray out) e2) :: (D, listOf ys.toArray ys.length) :: nx := .tail _ (.tail _ (hin _ (.head _)))
      have d1 : DatAll ((D2, listOf (List.toArray out) e2) :: (D, listOf ys.toArray ys.length) :: nx) out ((millsTo S 4).map dat3) := hout.mono fun p hp => .tail _ hp
      have d2 : DatAll ((D2, listOf (List.toArray out) e2) :: (D, listOf ys.toArray ys.length) :: nx) vs ((millsTo S 4).map dat3) := hD.mono fun p hp => .tail _ (.tail _ (hin _ (.tail _ hp)))
      clear N2 F'
      k_steps
      rename Fr _ _ _ _ => F5
      exact K _ _ ((pin ⟨F, rfl⟩ mm).2 ▸ F5) fun p hp => N3 p (.tail _ (.tail _ (hin p hp)))
end Mine
end

section
theorem Mine.topOffP9 : True := by
  w_top off
  trivial
open PySem PySem.W PyProof.Rows PySem.Spec PySem.Calls
open PyProof.Rows.LCg
set_option Elab.async false
set_option maxRecDepth 100000
set_option maxHeartbeats 1000000
namespace Mine
set_option linter.all false
abbrev T2 := Int × Int
def dat2 (p : T2) : Dat := .tuple [.int p.1, .int p.2]
def tup2 (x y : Int) (a b : Tok) (n : Nat) : Obj := { cls := .type "tuple", data := .seq #[.int x a, .int y b] n }
def wayAt (S x : Int) (j : Nat) : List T2 := if x * x + 4 * (1 + (j : Int) * 1) * (1 + (j : Int) * 1) = S then [(x, 1 + (j : Int) * 1)] else []
def waysRow (S x : Int) (n : Nat) : List T2 := (List.range n).flatMap (wayAt S x)
def waysTo (S : Int) (i : Nat) : List T2 := (List.range i).flatMap fun (i : Nat) => waysRow S (1 + (i : Int) * 1) 3
theorem waysRow_succ (S x : Int) (n : Nat) : waysRow S x (n + 1) = waysRow S x n ++ wayAt S x n := by
  unfold waysRow; rw [List.range_succ, List.flatMap_append]; simp
theorem waysTo_succ (S : Int) (n : Nat) : waysTo S (n + 1) = waysTo S n ++ waysRow S (1 + (n : Int) * 1) 3 := by
  unfold waysTo; rw [List.range_succ, List.flatMap_append]; simp
theorem dat2_snoc {T : List (Addr × Obj)} {vs : List Value} {ts : List T2} {D : Addr} {x y : Int} {a b : Tok} {n : Nat} (h : DatAll T vs (ts.map dat2)) :
    DatAll ((D, ({ cls := .type "tuple", data := .seq #[.int x a, .int y b] n } : Obj)) :: T) (vs ++ [.ref D]) ((ts ++ [(x, y)]).map dat2) := by
  rw [List.map_append]
  refine DatAll.append (h.mono fun p hp => .tail _ hp) (.one ?_)
  exact DatIn.tuple (vs := [.int x a, .int y b]) (.head _) (.cons (.int _ _) (.cons (.int _ _) .nil))
local macro_rules | `(tactic| walk_at "exec Assign cons ListComp") => `(tactic| with_reducible refine Stop.out ?_)
local macro_rules | `(tactic| walk_at "exec Assign") => `(tactic| with_reducible refine Stop.out ?_)
local macro_rules | `(tactic| walk_at "binaryOp Mult int int") => `(tactic| k_dflt (refine' mul_bd (j := 70) (k := 130) ?a ?b ?c ?_; (case a => assumption); (case b => assumption); (case c => decide)))
local macro_rules | `(tactic| walk_at "eval Name") => `(tactic| (k_here; (with_reducible show wpAny _ _ (eval (Expr.Name _ _) (compEnvC _ _ _ _)) _ _ _); k_dflt (first
  | (refine' lcf_cell ?N ?c ?m ?d ?_ ?a ?b; (case a => rfl); (case b => rfl); (case N => k_asm); (case c => rfl); (case m => with_reducible assumption); (case d => k_asm); k_whole)
  | (refine' lcf_free ?N ?c ?m ?d ?_ ?a ?b; (case a => rfl); (case b => rfl); (case N => k_asm); (case c => rfl); (case m => with_reducible assumption); (case d => k_asm); k_whole))))
theorem st13 (w : World) (mean : ExcName → Option Value) (mg mb : Str → Option Value) (h₀ : Heap) (L fa : Addr) (cd : Value) (s : Shared) (Q : Flow → Shared → Prop) (E : Value → Shared → Prop) (o1 : Obj)
    (S : Int) (ts : Tok) (m : Str → Option Value) (rest : List Stmt) (R : List (Addr × Obj))
    (hS : S ∈ sizes) (d1 : o1.data = .cell (some (.int S ts)))
    (B : Below callerA h₀ [] h₀) (F : Fr h₀ L s.heap m) (X : (hd.heap_1 w.params).In h₀) (T : Top view (looseW view []) mean mg mb h₀)
    (N : News h₀ L s.heap ((L + 1, o1) :: R))
    (K : ∀ (D : Addr) (ys : List Value) (k : Nat) (nx : List (Addr × Obj)) (h' : Heap) (tk : Nat), Fr h₀ L h' (fun y => if y = Str.ofString "ways" then some (.ref D) else m y) → News h₀ L h' ((D, listOf ys.toArray k) :: nx) → (∀ p ∈ R, p ∈ nx) → (L + 1, o1) ∈ nx → DatAll nx ys ((waysTo S 7).map dat2) → wpAny (model PySem.Challenge.rw_xj0017_01.row.prog w) (callerA.deeper (lawEnv L fa cd)) (execs rest (lawEnv L fa cd)) Q E { s with heap := h', toks := tk }) :
    wpAny (model PySem.Challenge.rw_xj0017_01.row.prog w) (callerA.deeper (lawEnv L fa cd)) (execs (lawStmt 13 :: rest) (lawEnv L fa cd)) Q E s := by
  revert X
  k_fill
  intro X
  conv in (lawStmt 13) => whnf
  k_steps
  refine Stop.go (Assign_ListComp_22 (L := L) (cl := [(Str.ofString "size", L + 1)]) (a := 1) (b := 8) (c := 1) (d := 4) (n1 := 7) (n2 := 3) (m := m) (h₀ := h₀) (news := (L + 1, o1) :: R)
    (fun i j ys nx => (∀ p ∈ (L + 1, o1) :: R, p ∈ nx) ∧ DatAll nx ys ((waysTo S i ++ waysRow S (1 + (i : Int) * 1) j).map dat2)) rfl (by decide) (by decide) (by rw [sizeLine_eq]; decide) (by decide) (by decide) rfl (by with_unfolding_all rfl) (by with_unfolding_all rfl) (by decide) rfl (by decide) rfl rfl (by decide) rfl rfl ?_ ?_ ?_ ?_ ?_ ?_ ?_)
  · k_steps
    all_goals assumption
  · exact ⟨fun _ h => h, .nil⟩
  · rintro i ys nx hi ⟨h1, h2⟩
    refine ⟨h1, ?_⟩
    rw [waysTo_succ]
    simpa [waysRow] using h2
  · intro _ _; rfl
  · intro I oI C oC D ys nx h tk E' F' N'
    k_steps
    all_goals assumption
  · intro i j ys nx I1 o1' I oI C oC D m₂ h tk t u E' hi hj hJ hn1 hC h1 h2 F' N' off ne
    refine TestJ.one ?_
    have hm1 : (L + 1, o1) ∈ (I, oI) :: (C, oC) :: (D, lst ys) :: (I1, o1') :: nx := .tail _ (.tail _ (.tail _ (.tail _ (hJ.1 _ (.head _)))))
    generalize hx : 1 + (i : Int) * 1 = x at h1 hJ
    generalize hy : 1 + (j : Int) * 1 = y at h2
    have b1 : Bd 70 x := by unfold Bd; omega
    have b2 : Bd 130 x := by unfold Bd; omega
    have b3 : Bd 130 y := by unfold Bd; omega
    have b4 : Bd 70 4 := Bd.lit (by decide)
    have b6 : Bd 70 (4 * y) := by unfold Bd; omega
    clear N F K
    k_steps
    · rename_i he D' h' F2 N2 l1
      have er : wayAt S x j = [(x, y)] := by
        unfold wayAt
        rw [hy, if_pos he]
      refine CompEnd.intro F2 N2 ((I1, o1') :: (D', ({ cls := .type "tuple", data := .seq #[.int x t, .int y u] } : Obj)) :: nx) (fun p hp => ?_) (Off3.of fun p hp => ?_) trivial ⟨_, rfl, fun p hp => ?_, fun p hp => .tail _ (hJ.1 p hp), ?_⟩
      · simp only [List.mem_cons] at hp ⊢
        rcases hp with h | h | h | h | h | h <;> simp [h]
      · rcases List.mem_cons.mp hp with rfl | hp
        · exact off.mem _ (.head _)
        · rcases List.mem_cons.mp hp with rfl | hp
          · exact ⟨Nat.ne_of_gt l1.1, Nat.ne_of_gt l1.2.1, Nat.ne_of_gt l1.2.2.1⟩
          · exact off.mem _ (.tail _ hp)
      · rcases List.mem_cons.mp hp with rfl | hp
        · exact Nat.ne_of_gt l1.2.2.2.1
        · exact hn1 p hp
      · rw [waysRow_succ, er, ← List.append_assoc]
        exact dat2_snoc hJ.2
    · rename_i he
      have er : wayAt S x j = [] := by
        unfold wayAt
        rw [hy, if_neg he]
      refine CompEnd.intro F' N' ((I1, o1') :: nx) (fun p hp => hp) off trivial ⟨_, rfl, hn1, hJ.1, ?_⟩
      rw [waysRow_succ, er, List.append_nil]
      exact hJ.2
  · intro D h tk ys nx hJ F' N' off
    exact K D ys _ nx h tk F' N' (fun p hp => hJ.1 p (.tail _ hp)) (hJ.1 _ (.head _)) (by simpa [waysRow] using hJ.2)
end Mine
end

section
theorem Mine.topOffP10 : True := by
  w_top off
  trivial
open PySem PySem.W PyProof.Rows PySem.Spec PySem.Calls
open PyProof.Rows.LCg
set_option Elab.async false
set_option maxRecDepth 100000
set_option maxHeartbeats 1000000
namespace Mine
set_option linter.all false
def eqYZ (ts : List T3) : List T2 := (ts.filter fun p => decide (p.2.1 = p.2.2)).map fun p => (p.1, p.2.1)
theorem eqYZ_ways : ∀ S ∈ sizes, eqYZ (millsTo S 4) = waysTo S 7 := by decide +kernel
theorem eqYZ_snoc (ts : List T3) (p : T3) : eqYZ (ts ++ [p]) = eqYZ ts ++ (if p.2.1 = p.2.2 then [(p.1, p.2.1)] else []) := by
  unfold eqYZ
  rw [List.filter_append, List.map_append]
  by_cases h : p.2.1 = p.2.2 <;> simp [h]
theorem ne_dat2 {prog : Program} {w : World} {A : Around} {E : Value → Shared → Prop} {s : Shared} {h₀ : Heap} {L : Addr} {news : List (Addr × Obj)} {a b : Addr} {xs ys : List Value} {ka kb : Nat} {ts : List T2} {Q : Value → Shared → Prop} (N : News h₀ L s.heap news) (ma : (a, listOf xs.toArray ka) ∈ news) (Da : DatAll news xs (ts.map dat2)) (mb : (b, listOf ys.toArray kb) ∈ news) (Db : DatAll news ys (ts.map dat2))
    (hu : A.units + 64 < cLine) (h : Q (.bool false) s) : wpAny (model prog w) A (compareOp .NotEq (.ref a) (.ref b)) Q E s :=
  kqd_ne N ma rfl rfl Da (fun _ h => h) mb rfl rfl Db (fun _ h => h) (by intro d hd; obtain ⟨p, _, rfl⟩ := List.mem_map.mp hd; rfl) (by intro d hd; obtain ⟨p, _, rfl⟩ := List.mem_map.mp hd; rfl) hu (by simpa using h)
local macro_rules | `(tactic| walk_at "compareOp NotEq ref ref") => `(tactic| (k_here; k_dflt (refine' ne_dat2 ?N ?a ?b ?c ?d ?e ?_; (case N => k_asm); (case a => with_reducible assumption); (case b => with_reducible assumption); (case c => with_reducible assumption); (case d => with_reducible assumption); (case e => ke_room))))
local macro_rules | `(tactic| walk_at "eval ListComp") => `(tactic| with_reducible refine Stop.out ?_)
theorem st14 (w : World) (mean : ExcName → Option Value) (mg mb : Str → Option Value) (h₀ : Heap) (L fa : Addr) (cd : Value) (s : Shared) (Q : Flow → Shared → Prop) (E : Value → Shared → Prop)
    (lm wD : Addr) (S : Int) (m : Str → Option Value) (rest : List Stmt) (vs ys : List Value) (k kw : Nat) (R : List (Addr × Obj))
    (hS : S ∈ sizes) (hD : DatAll R vs ((millsTo S 4).map dat3)) (hW : DatAll R ys ((waysTo S 7).map dat2)) (hlm : (lm, listOf vs.toArray k) ∈ R) (hlw : (wD, listOf ys.toArray kw) ∈ R)
    (mm : m (Str.ofString "mills") = some (.ref lm)) (mw : m (Str.ofString "ways") = some (.ref wD))
    (B : Below callerA h₀ [] h₀) (F : Fr h₀ L s.heap m) (X : (hd.heap_1 w.params).In h₀) (T : Top view (looseW view []) mean mg mb h₀)
    (N : News h₀ L s.heap R)
    (K : ∀ (h' : Heap) (tk : Nat), Fr h₀ L h' m → News h₀ L h' R → wpAny (model PySem.Challenge.rw_xj0017_01.row.prog w) (callerA.deeper (lawEnv L fa cd)) (execs rest (lawEnv L fa cd)) Q E { s with heap := h', toks := tk }) :
    wpAny (model PySem.Challenge.rw_xj0017_01.row.prog w) (callerA.deeper (lawEnv L fa cd)) (execs (lawStmt 14 :: rest) (lawEnv L fa cd)) Q E s := by
  revert X
  k_fill
  intro X
  have F1 := (pin (pin ⟨F, rfl⟩ mm) mw).1
  conv in (lawStmt 14) => whnf
  k_steps
  have hz : (millsTo S 4).length ≤ sizeLine := by have := millsTo_len S 4; rw [sizeLine_eq]; omega
  have hlen : vs.length = (millsTo S 4).length := by simpa using hD.length
  refine Stop.go (ListComp_3 (L := L) (cl := []) (fun i ys nx => (∀ p ∈ R, p ∈ nx) ∧ DatAll nx ys ((eqYZ ((millsTo S 4).take i)).map dat2)) F1 N hlm (by omega) rfl (by with_unfolding_all rfl) (by decide) rfl (by decide) rfl rfl rfl (by decide) (by decide) (by decide) ?_ ⟨fun _ h => h, by simpa [eqYZ] using DatAll.nil⟩ ?_ ?_)
  · k_steps
  · intro g tk₀ i v ys nx hv hyl hl' hJ
    obtain ⟨hsub, hys⟩ := hJ
    have hi : i < (millsTo S 4).length := by rw [← hlen]; exact (List.getElem?_eq_some_iff.mp hv).1
    have hd := datAll_get (hD.mono hsub) hi
    have ev : vs.getD i Value.none = v := by simp [List.getD, hv]
    rw [ev] at hd
    have e : (millsTo S 4).take (i + 1) = (millsTo S 4).take i ++ [(millsTo S 4).getD i (0, 0, 0)] := by rw [List.take_add_one]; simp [List.getD, hi]
    generalize (millsTo S 4).getD i (0, 0, 0) = p at hd e
    obtain ⟨t, a, b, c, n, rfl, hm⟩ := dat3_in hd
    refine ⟨t, _, _, _, _, n, rfl, hm, rfl, rfl, ?_⟩
    intro I oI C oC D m₂ h tk E' hC h1 h2 h3 F' N' off ne
    refine TestJ.one ?_
    clear N F F1 K
    k_steps
    · rename_i he D' h' F2 N2 l1
      refine CompEnd.intro F2 N2 ((D', ({ cls := .type "tuple", data := .seq #[.int p.1 a, .int p.2.1 b] } : Obj)) :: nx) (fun p hp => ?_) (Off3.of fun p hp => ?_) (.tail _ hl') ⟨fun p hp => .tail _ (hsub p hp), ?_⟩
      · simp only [List.mem_cons] at hp ⊢
        rcases hp with h | h | h | h | h <;> simp [h]
      · rcases List.mem_cons.mp hp with rfl | hp
        · exact ⟨Nat.ne_of_gt l1.1, Nat.ne_of_gt l1.2.1, Nat.ne_of_gt l1.2.2.1⟩
        · exact off.mem _ hp
      · rw [e, eqYZ_snoc, if_pos he]
        exact dat2_snoc hys
    · rename_i he
      refine CompEnd.intro F' N' nx (fun p hp => hp) off hl' ⟨hsub, ?_⟩
      rw [e, eqYZ_snoc, if_neg he, List.append_nil]
      exact hys
  · intro D h tk zs nx hJ hl' F' N' hoff
    have e : (millsTo S 4).take vs.length = millsTo S 4 := by rw [hlen]; simp
    rw [e, eqYZ_ways S hS] at hJ
    have N2 : News h₀ L h ((D, listOf zs.toArray zs.length) :: nx) := N'
    have m1 : (D, listOf zs.toArray zs.length) ∈ (D, listOf zs.toArray zs.length) :: nx := .head _
    have m2 : (wD, listOf ys.toArray kw) ∈ (D, listOf zs.toArray zs.length) :: nx := .tail _ (hJ.1 _ hlw)
    have d1 : DatAll ((D, listOf zs.toArray zs.length) :: nx) zs ((waysTo S 7).map dat2) := hJ.2.mono fun p hp => .tail _ hp
    have d2 : DatAll ((D, listOf zs.toArray zs.length) :: nx) ys ((waysTo S 7).map dat2) := hW.mono fun p hp => .tail _ (hJ.1 p hp)
    clear N'
    k_steps
    rename Fr _ _ _ _ => F5
    exact K _ _ ((pin (pin ⟨F, rfl⟩ mm) mw).2 ▸ F5) fun p hp => N2 p (.tail _ (hJ.1 p hp))
end Mine
end

section
theorem Mine.topOffP11 : True := by
  w_top off
  trivial
open PySem PySem.W PyProof.Rows PySem.Spec PySem.Calls
open PyProof.Rows.LCg
set_option Elab.async false
set_option maxRecDepth 100000
set_option maxHeartbeats 1000000
namespace Mine
set_option linter.all false
def partAt (S : Int) (i : Nat) : List T2 := if (1 + (i : Int) * 1) * (1 + (i : Int) * 1) < S ∧ 0 < fitsV S (1 + (i : Int) * 1) then [(1 + (i : Int) * 1, fitsV S (1 + (i : Int) * 1))] else []
def partsTo (S : Int) (i : Nat) : List T2 := (List.range i).flatMap (partAt S)
theorem partsTo_succ (S : Int) (n : Nat) : partsTo S (n + 1) = partsTo S n ++ partAt S n := by
  unfold partsTo; rw [List.range_succ, List.flatMap_append]; simp
theorem partsTo_len (S : Int) : ∀ n, (partsTo S n).length ≤ n
  | 0 => by simp [partsTo]
  | n + 1 => by
    rw [partsTo_succ, List.length_append]
    have := partsTo_len S n
    have : (partAt S n).length ≤ 1 := by unfold partAt; split <;> simp
    omega
local macro_rules | `(tactic| walk_at "loadName") => `(tactic| (k_here; k_dflt (refine' ldX_C ?N ?c ?m ?d ?_ ?a ?b; (case a => rfl); (case b => rfl); (case N => k_asm); (case c => rfl); (case m => with_reducible assumption); (case d => k_asm))))
local macro_rules | `(tactic| walk_at "exec For Name Call cons nil") => `(tactic| (k_here; (rename Fr _ _ _ _ => lF'); (with_unfolding_all refine' For_turns lF' ?_; k_whole)))
local macro_rules | `(tactic| walk_at "binaryOp Mult int int") => `(tactic| k_dflt (refine' mul_bd (j := 70) (k := 130) ?a ?b ?c ?_; (case a => assumption); (case b => assumption); (case c => decide)))
local macro_rules | `(tactic| walk_at "mine call") => `(tactic| (
  (case k1 => k_asm); (case k2 => k_asm); (case k3 => k_asm); (case k4 => k_asm); (case k5 => k_asm); (case kK => first | exact rfl | assumption); (case kd => ktr_room); (case ku => ktr_units)))
local macro_rules | `(tactic| walk_at "call ref") => `(tactic| (k_here; k_dflt (refine' CallTo.use ?k1 ?k2 ?k3 ?k4 ?k5 ?kK (fits16 _ _ _ _ _ _ _ ?s1 ?s2 ?s3 ?s4) ?kd ?ku ?_; (case s1 => with_reducible assumption); (case s2 => with_reducible assumption); (case s3 => with_reducible assumption); (case s4 => with_reducible assumption); walk_at "mine call"; (intro t' h' tk' F' N'; (try dsimp only)))))
local macro_rules | `(tactic| k_all) => `(tactic| assumption)
local macro_rules | `(tactic| walk_at "call builtin:list.append") => `(tactic| with_reducible refine Stop.out ?_)
theorem news_rot3 {h₀ h : Heap} {L : Addr} {d a b : Addr × Obj} {T : List (Addr × Obj)} (N : News h₀ L h (d :: a :: b :: T)) : News h₀ L h (a :: b :: d :: T) := fun p hp => N p (by
  simp only [List.mem_cons] at hp ⊢
  rcases hp with h | h | h | h <;> simp [h])
theorem st16 (w : World) (mean : ExcName → Option Value) (mg mb : Str → Option Value) (h₀ : Heap) (L fa : Addr) (cd : Value) (s : Shared) (Q : Flow → Shared → Prop) (E : Value → Shared → Prop) (o1 : Obj)
    (S U : Int) (ts tu : Tok) (m : Str → Option Value) (rest : List Stmt) (R : List (Addr × Obj))
    (hS : S ∈ sizes) (d1 : o1.data = .cell (some (.int S ts))) (hU : 4096 ≤ U) (hU2 : U < 4096 + 10 ^ 30) (hm1 : (L + 1, o1) ∈ R)
    (mu : m (Str.ofString "unit") = some (.int U tu))
    (B : Below callerA h₀ [] h₀) (F : Fr h₀ L s.heap m) (X : (hd.heap_1 w.params).In h₀) (T : Top view (looseW view []) mean mg mb h₀)
    (N : News h₀ L s.heap R)
    (K : ∀ (lp : Addr) (vs : List Value) (k : Nat) (nx : List (Addr × Obj)) (m' : Str → Option Value) (h' : Heap) (tk : Nat), Same ["x", "fits", "parts"] m m' → m' (Str.ofString "parts") = some (.ref lp) → Fr h₀ L h' m' → News h₀ L h' nx → (lp, listOf vs.toArray k) ∈ nx → (∀ p ∈ R, p ∈ nx) → DatAll nx vs ((partsTo S 7).map dat2) → wpAny (model PySem.Challenge.rw_xj0017_01.row.prog w) (callerA.deeper (lawEnv L fa cd)) (execs rest (lawEnv L fa cd)) Q E { s with heap := h', toks := tk })
    (hE : PassesOwn (model PySem.Challenge.rw_xj0017_01.row.prog w) (callerA.deeper (lawEnv L fa cd)) (lawEnv L fa cd) E) :
    wpAny (model PySem.Challenge.rw_xj0017_01.row.prog w) (callerA.deeper (lawEnv L fa cd)) (execs (lawStmt 15 :: lawStmt 16 :: rest) (lawEnv L fa cd)) Q E s := by
  revert X
  k_fill
  intro X
  have F1 := (pin ⟨F, rfl⟩ mu).1
  conv in (lawStmt 15) => whnf
  conv in (lawStmt 16) => whnf
  k_steps
  rename IsRange _ _ _ _ _ _ _ _ => hr
  rename Fr _ _ _ _ => F2
  rename News _ _ _ _ => N2
  rename ∀ p ∈ R, _ => l1
  rename_i lp _ _ _ _ _ _ _ _ _ _
  have hU3 : U < 2 ^ 101 := by omega
  have bU : Bd 130 U := by unfold Bd; omega
  have hS5 : 5 ≤ S ∧ S ≤ 61 := by simp [sizes] at hS; omega
  have bS : Bd 70 S := by unfold Bd; omega
  refine iter_rangeJ (n := 7) (fun i m₁ nx => ∃ vs k T, nx = (lp, listOf vs.toArray k) :: T ∧ DatAll T vs ((partsTo S i).map dat2) ∧ (∀ p ∈ R, p ∈ T) ∧ (∀ p ∈ T, @Ne Nat p.1 lp) ∧ m₁ (Str.ofString "parts") = some (.ref lp) ∧ Same ["x", "fits", "parts"] m m₁) F2 N2 hr (by decide) (by decide) rfl ⟨[], 0, R, rfl, .nil, fun p hp => hp, fun p hp => Nat.ne_of_lt (l1 p hp), rfl, ?_⟩ (fun _ _ => rfl) ?_ ?_
  · exact (Same.refl.pin mu).put ⟨"parts", by decide, rfl⟩
  · rintro i m₁ nx I oI h tk t hi ⟨vs, k, T', rfl, hD, hR, hT, hmp, hsame⟩ hne F₁ N₁
    have F2 : Fr h₀ L h _ := F₁
    have N2 : News h₀ L h _ := N₁
    have F3 := (pin (pin ⟨F2, rfl⟩ (hsame.at mu (by decide))) hmp).1
    clear F₁ N₁ F2 K
    generalize hx : (1 + (i : Int) * 1) = x
    have hx1 : 1 ≤ x ∧ x ≤ 7 := by omega
    have hm2 : (L + 1, o1) ∈ (I, oI) :: (lp, listOf vs.toArray k) :: T' := .tail _ (.tail _ (hR _ hm1))
    have b1 : Bd 70 x := by unfold Bd; omega
    have b2 : Bd 130 x := by unfold Bd; omega
    have hsz : vs.toArray.size ≤ sizeLine := by
      have e1 := hD.length
      rw [List.length_map] at e1
      have := partsTo_len S i
      rw [List.size_toArray, sizeLine_eq]; omega
    have g0 : 0 ≤ fitsV S x := fitsV_nonneg (by omega) (by omega)
    have hq1 : @Ne Nat I lp := (hne (lp, _) (.head _)).symm
    have hIT : ∀ p ∈ T', @Ne Nat p.1 I := fun p hp => hne p (.tail _ hp)
    k_steps
    · rename_i D' h' F5 N5 l1
      have er : partAt S i = [(x, fitsV S x)] := by
        unfold partAt
        rw [hx, if_pos ⟨by assumption, by assumption⟩]
      refine Stop.go (append_K F5 N5 (.tail (Nat.ne_of_gt l1.2.1) (.tail hq1 (.head hT))) ?_ hsz)
      intro h'' F6 N6
      k_steps
      rw [List.push_toArray] at N6
      refine EndJ.intro F6 (news_rot3 N6) ?_ ⟨_, _, _, rfl, ?_, fun p hp => .tail _ (hR p hp), ?_, rfl, ?_⟩
      · intro p hp
        rcases List.mem_cons.mp hp with rfl | hp
        · exact hq1.symm
        · rcases List.mem_cons.mp hp with rfl | hp
          · exact Nat.ne_of_gt l1.1
          · exact hIT p hp
      · rw [partsTo_succ, er]
        exact dat2_snoc hD
      · intro p hp
        rcases List.mem_cons.mp hp with rfl | hp
        · exact Nat.ne_of_gt l1.2.1
        · exact hT p hp
      · exact (((((hsame.pin ((hsame.at mu (by decide)).symm ▸ mu)).put ⟨"parts", by decide, rfl⟩).put ⟨"x", by decide, rfl⟩).put ⟨"fits", by decide, rfl⟩))
    · rename Fr _ _ _ _ => F5
      rename News _ _ _ _ => N5
      have er : partAt S i = [] := by
        unfold partAt
        rw [hx, if_neg (by omega)]
      exact EndJ.intro F5 N5 (fun p hp => hne p hp) ⟨vs, k, T', rfl, by rw [partsTo_succ, er, List.append_nil]; exact hD, hR, hT, rfl, (((((hsame.pin ((hsame.at mu (by decide)).symm ▸ mu)).put ⟨"parts", by decide, rfl⟩).put ⟨"x", by decide, rfl⟩).put ⟨"fits", by decide, rfl⟩))⟩
    · rename Fr _ _ _ _ => F5
      rename News _ _ _ _ => N5
      have er : partAt S i = [] := by
        unfold partAt
        rw [hx, if_neg (by omega)]
      exact EndJ.intro F5 N5 (fun p hp => hne p hp) ⟨vs, k, T', rfl, by rw [partsTo_succ, er, List.append_nil]; exact hD, hR, hT, rfl, ((((hsame.pin ((hsame.at mu (by decide)).symm ▸ mu)).put ⟨"parts", by decide, rfl⟩).put ⟨"x", by decide, rfl⟩))⟩
  · rintro m₁ nx h tk ⟨vs, k, T', rfl, hD, hR, hT, hmp, hsame⟩ F₁ N₁
    exact K lp vs k _ m₁ h tk hsame hmp F₁ N₁ (.head _) (fun p hp => .tail _ (hR p hp)) (hD.mono fun p hp => .tail _ hp)
end Mine
end

section
local macro_rules | `(tactic| walk_at "pad 0") => `(tactic| fail)
theorem Mine.topOffP12 : True := by
  w_top off
  trivial
open PySem PySem.W PyProof.Rows PySem.Spec PySem.Calls
open PyProof.Rows.LCg
set_option Elab.async false
set_option maxRecDepth 100000
set_option maxHeartbeats 1000000
namespace Mine
set_option linter.all false
def keptOf (ts : List T3) : List T2 := (ts.filter fun p => decide (turnT p = p)).map fun p => (p.1, p.1 + 4 * p.2.2)
theorem kept_parts : ∀ S ∈ sizes, keptOf (millsTo S 4) = partsTo S 7 ∧ (partsTo S 7).take 1 = [(1, S)] := by decide +kernel
theorem keptOf_snoc (ts : List T3) (p : T3) : keptOf (ts ++ [p]) = keptOf ts ++ (if turnT p = p then [(p.1, p.1 + 4 * p.2.2)] else []) := by
  unfold keptOf
  rw [List.filter_append, List.map_append]
  by_cases h : turnT p = p <;> simp [h]
section
variable {prog : Program} {w : World} {A : Around} {E : Value → Shared → Prop} {s : Shared} {h₀ : Heap} {L : Addr} {news : List (Addr × Obj)}
theorem eq_tup3 {a b : Addr} {p : T3} {x y z : Int} {ka kb : Nat} {t1 t2 t3 u1 u2 u3 : Tok} {Q : Value → Shared → Prop} (N : News h₀ L s.heap news) (ma : (a, tup3 p.1 p.2.1 p.2.2 t1 t2 t3 ka) ∈ news) (mb : (b, ({ cls := .type "tuple", data := .seq #[.int x u1, .int y u2, .int z u3] kb } : Obj)) ∈ news)
    (hu : A.units + 64 < cLine) (h : Q (.bool (decide (p = (x, y, z)))) s) : wpAny (model prog w) A (compareOp .Eq (.ref a) (.ref b)) Q E s := by
  refine eq_dataH (reads_tuple_at (N.get ma) rfl rfl (.cons (Reads.int _ _) (.cons (Reads.int _ _) (.cons (Reads.int _ _) .nil)))) (reads_tuple_at (N.get mb) rfl rfl (.cons (Reads.int _ _) (.cons (Reads.int _ _) (.cons (Reads.int _ _) .nil)))) ?_ ?_ hu ?_
  · rfl
  · rfl
  · have e : PyData.eqv (.tuple [.int p.1, .int p.2.1, .int p.2.2]) (.tuple [.int x, .int y, .int z]) = decide (p = (x, y, z)) := by
      obtain ⟨p1, p2, p3⟩ := p
      simp only [PyData.eqv, PyData.eqvAll, Bool.and_true, Prod.mk.injEq, Bool.decide_and]
      rfl
    rw [e]; exact h
theorem eq_dat2 {a b : Addr} {xs ys : List Value} {ka kb : Nat} {ts : List T2} {Q : Value → Shared → Prop} (N : News h₀ L s.heap news) (ma : (a, listOf xs.toArray ka) ∈ news) (Da : DatAll news xs (ts.map dat2)) (mb : (b, listOf ys.toArray kb) ∈ news) (Db : DatAll news ys (ts.map dat2))
    (hu : A.units + 64 < cLine) (h : Q (.bool true) s) : wpAny (model prog w) A (compareOp .Eq (.ref a) (.ref b)) Q E s :=
  kqd_eq N ma rfl rfl Da (fun _ h => h) mb rfl rfl Db (fun _ h => h) (by intro d hd; obtain ⟨p, _, rfl⟩ := List.mem_map.mp hd; rfl) (by intro d hd; obtain ⟨p, _, rfl⟩ := List.mem_map.mp hd; rfl) hu (by simpa using h)
end
local macro_rules | `(tactic| walk_at "exec Assign cons ListComp") => `(tactic| with_reducible refine Stop.out ?_)
local macro_rules | `(tactic| walk_at "exec Assign") => `(tactic| with_reducible refine Stop.out ?_)
local macro_rules | `(tactic| walk_at "binaryOp Mult int int") => `(tactic| k_dflt (refine' mul_bd (j := 70) (k := 130) ?a ?b ?c ?_; (case a => assumption); (case b => assumption); (case c => decide)))
local macro_rules | `(tactic| walk_at "mine call") => `(tactic| (
  (case k1 => k_asm); (case k2 => k_asm); (case k3 => k_asm); (case k4 => k_asm); (case k5 => k_asm); (case kK => first | exact rfl | assumption); (case kd => ktr_room); (case ku => ktr_units)))
local macro_rules | `(tactic| walk_at "call ref") => `(tactic| (k_here; k_dflt (refine' CallTo.use ?k1 ?k2 ?k3 ?k4 ?k5 ?kK (turned _ _ _ _ _ _ _ _ ?s1 ?s2) ?kd ?ku ?_; (case s1 => with_reducible assumption); (case s2 => with_reducible assumption); walk_at "mine call"; (intro D' t1' t2' t3' c' h' tk' F' N' l1; (try dsimp only)))))
local macro_rules | `(tactic| walk_at "compareOp Eq ref ref") => `(tactic| with_reducible refine Stop.out ?_)
theorem news_pick {h₀ h : Heap} {L : Addr} {d j k a b c : Addr × Obj} {T : List (Addr × Obj)} (N : News h₀ L h (d :: j :: k :: a :: b :: c :: T)) : News h₀ L h (a :: b :: c :: d :: T) := fun p hp => N p (by
  simp only [List.mem_cons] at hp ⊢
  rcases hp with h | h | h | h | h <;> simp [h])
theorem st17 (w : World) (mean : ExcName → Option Value) (mg mb : Str → Option Value) (h₀ : Heap) (L fa : Addr) (cd : Value) (s : Shared) (Q : Flow → Shared → Prop) (E : Value → Shared → Prop)
    (lm : Addr) (S : Int) (m : Str → Option Value) (rest : List Stmt) (vs : List Value) (k : Nat) (R : List (Addr × Obj))
    (hS : S ∈ sizes) (hD : DatAll R vs ((millsTo S 4).map dat3)) (hlm : (lm, listOf vs.toArray k) ∈ R)
    (mm : m (Str.ofString "mills") = some (.ref lm))
    (B : Below callerA h₀ [] h₀) (F : Fr h₀ L s.heap m) (X : (hd.heap_1 w.params).In h₀) (T : Top view (looseW view []) mean mg mb h₀)
    (N : News h₀ L s.heap R)
    (K : ∀ (D : Addr) (ys : List Value) (k : Nat) (nx : List (Addr × Obj)) (h' : Heap) (tk : Nat), Fr h₀ L h' (fun y => if y = Str.ofString "kept" then some (.ref D) else m y) → News h₀ L h' ((D, listOf ys.toArray k) :: nx) → (∀ p ∈ R, p ∈ nx) → DatAll nx ys ((partsTo S 7).map dat2) → wpAny (model PySem.Challenge.rw_xj0017_01.row.prog w) (callerA.deeper (lawEnv L fa cd)) (execs rest (lawEnv L fa cd)) Q E { s with heap := h', toks := tk }) :
    wpAny (model PySem.Challenge.rw_xj0017_01.row.prog w) (callerA.deeper (lawEnv L fa cd)) (execs (lawStmt 17 :: rest) (lawEnv L fa cd)) Q E s := by
  revert X
  k_fill
  intro X
  have F1 := (pin ⟨F, rfl⟩ mm).1
  conv in (lawStmt 17) => whnf
  k_steps
  have hz : (millsTo S 4).length ≤ sizeLine := by have := millsTo_len S 4; rw [sizeLine_eq]; omega
  have hlen : vs.length = (millsTo S 4).length := by simpa using hD.length
  have hb := millsBd S hS
  refine Stop.go (Assign_ListComp_3 (L := L) (cl := []) (fun i ys nx => (∀ p ∈ R, p ∈ nx) ∧ DatAll nx ys ((keptOf ((millsTo S 4).take i)).map dat2)) F1 N hlm (by omega) rfl rfl (by with_unfolding_all rfl) (by with_unfolding_all rfl) (by decide) rfl (by decide) rfl rfl rfl (by decide) (by decide) (by decide) rfl rfl ?_ ⟨fun _ h => h, by simpa [keptOf] using DatAll.nil⟩ ?_ ?_)
  · k_steps
  · intro g tk₀ i v ys nx hv hyl hl' hJ
    obtain ⟨hsub, hys⟩ := hJ
    have hi : i < (millsTo S 4).length := by rw [← hlen]; exact (List.getElem?_eq_some_iff.mp hv).1
    have hd := datAll_get (hD.mono hsub) hi
    have ev : vs.getD i Value.none = v := by simp [List.getD, hv]
    rw [ev] at hd
    have e : (millsTo S 4).take (i + 1) = (millsTo S 4).take i ++ [(millsTo S 4).getD i (0, 0, 0)] := by rw [List.take_add_one]; simp [List.getD, hi]
    have bb := hb ((millsTo S 4).getD i (0, 0, 0)) (by simp [List.getD, hi])
    generalize (millsTo S 4).getD i (0, 0, 0) = p at hd e bb
    obtain ⟨t, a, b, c, n, rfl, hm⟩ := dat3_in hd
    refine ⟨t, _, _, _, _, n, rfl, hm, rfl, rfl, ?_⟩
    intro I oI C oC D m₂ h tk E' hC h1 h2 h3 F' N' off ne
    refine TestJ.one ?_
    have b1 : Bd 130 p.2.1 := by unfold Bd; omega
    have b2 : Bd 130 p.2.2 := by unfold Bd; omega
    have b4 : Bd 70 4 := Bd.lit (by decide)
    clear N F F1 K
    k_steps
    rename News _ _ _ _ => N4
    refine Stop.go (eq_tup3 N4 (.tail _ (.head _)) (.head _) (by ke_room) ?_)
    by_cases hp : turnT p = p
    · rw [show decide (turnT (p.1, p.2.1, p.2.2) = (p.1, p.2.1, p.2.2)) = true by simpa using hp]
      k_steps
      rename Fr _ _ _ _ => F2
      rename News _ _ _ _ => N2
      rename_i l1
      unfold CompEnd
      refine ⟨_, _, _, rfl, F2, news_pick N2, Off3.of fun p hp => ?_, .tail _ hl', fun p hp => .tail _ (hsub p hp), ?_⟩
      · rcases List.mem_cons.mp hp with rfl | hp
        · exact ⟨Nat.ne_of_gt l1.2.2.1, Nat.ne_of_gt l1.2.2.2.1, Nat.ne_of_gt l1.2.2.2.2.1⟩
        · exact off.mem _ hp
      · rw [e, keptOf_snoc, if_pos hp]
        exact dat2_snoc hys
    · rw [show decide (turnT (p.1, p.2.1, p.2.2) = (p.1, p.2.1, p.2.2)) = false by simpa using hp]
      k_steps
      rename Fr _ _ _ _ => F2
      refine CompEnd.intro F2 N4 nx (fun p hp => .tail _ (.tail _ hp)) off hl' ⟨hsub, ?_⟩
      rw [e, keptOf_snoc, if_neg hp, List.append_nil]
      exact hys
  · intro D h tk zs nx hJ hl' F' N' hoff
    have e : (millsTo S 4).take vs.length = millsTo S 4 := by rw [hlen]; simp
    rw [e, (kept_parts S hS).1] at hJ
    exact K D zs _ nx h tk ((pin ⟨F, rfl⟩ mm).2 ▸ F') N' hJ.1 hJ.2
local macro_rules | `(tactic| walk_at "subscriptTail") => `(tactic| with_reducible refine Stop.out ?_)
local macro_rules | `(tactic| walk_at "loadName") => `(tactic| (k_here; k_dflt (refine' ldX_C ?N ?c ?m ?d ?_ ?a ?b; (case a => rfl); (case b => rfl); (case N => k_asm); (case c => rfl); (case m => with_reducible assumption); (case d => k_asm))))
theorem st18 (w : World) (mean : ExcName → Option Value) (mg mb : Str → Option Value) (h₀ : Heap) (L fa : Addr) (cd : Value) (s : Shared) (Q : Flow → Shared → Prop) (E : Value → Shared → Prop) (o1 : Obj)
    (lp kD : Addr) (S : Int) (ts : Tok) (m : Str → Option Value) (rest : List Stmt) (vs ys : List Value) (k kw : Nat) (R : List (Addr × Obj))
    (hS : S ∈ sizes) (d1 : o1.data = .cell (some (.int S ts))) (hm1 : (L + 1, o1) ∈ R)
    (hD : DatAll R vs ((partsTo S 7).map dat2)) (hW : DatAll R ys ((partsTo S 7).map dat2)) (hlm : (lp, listOf vs.toArray k) ∈ R) (hlw : (kD, listOf ys.toArray kw) ∈ R)
    (mm : m (Str.ofString "parts") = some (.ref lp)) (mw : m (Str.ofString "kept") = some (.ref kD))
    (B : Below callerA h₀ [] h₀) (F : Fr h₀ L s.heap m) (X : (hd.heap_1 w.params).In h₀) (T : Top view (looseW view []) mean mg mb h₀)
    (N : News h₀ L s.heap R)
    (K : ∀ (h' : Heap) (tk : Nat), Fr h₀ L h' m → Q (.ret (.bool true)) { s with heap := h', toks := tk }) :
    wpAny (model PySem.Challenge.rw_xj0017_01.row.prog w) (callerA.deeper (lawEnv L fa cd)) (execs [lawStmt 18] (lawEnv L fa cd)) Q E s := by
  revert X
  k_fill
  intro X
  have F1 := (pin (pin ⟨F, rfl⟩ mm) mw).1
  conv in (lawStmt 18) => whnf
  k_steps
  have hpl : vs.length = (partsTo S 7).length := by simpa using hD.length
  have hz : vs.toArray.size ≤ sizeLine := by have := partsTo_len S 7; rw [List.size_toArray, sizeLine_eq]; omega
  refine Stop.go (slice_list (s := { s with toks := s.toks + 1 }) F1 N (N.isList hlm) .none (.int 1 _) ?_ (by with_unfolding_all rfl) (by intro _; with_unfolding_all rfl) hz)
  have lt : ∀ q ∈ R, q.1 < s.heap.objs.size + 1 := fun q hq => Nat.lt_succ_of_lt (Heap.lt_size (N q hq).1)
  intro h' F2 N2
  dsimp only at N2 ⊢
  generalize s.heap.objs.size + 1 = sl at N2 lt ⊢
  have e1 : slicePick vs.toArray none (some 1) none = (vs.take 1).toArray := slicePick_upto' vs.toArray 1
  rw [e1] at N2
  have dS : DatAll R (vs.take 1) ([((1 : Int), S)].map dat2) := by
    rw [← (kept_parts S hS).2]
    obtain ⟨v, vr, rfl⟩ : ∃ v vr, vs = v :: vr := by
      cases vs with
      | nil => have := (kept_parts S hS).2; rw [List.length_nil] at hpl; have h0 := List.length_eq_zero_iff.mp hpl.symm; rw [h0] at this; cases this
      | cons v vr => exact ⟨v, vr, rfl⟩
    cases hp : partsTo S 7 with
    | nil => rw [hp] at hpl; cases hpl
    | cons p pr =>
      rw [hp] at hD
      cases hD with
      | cons hv _ => exact .cons hv .nil
  have hm2 : (L + 1, o1) ∈ (sl, ({ cls := .type "list", data := .seq (vs.take 1).toArray } : Obj)) :: R := .tail _ hm1
  have hpin := (pin (pin ⟨F, rfl⟩ mm) mw).2
  clear N F F1
  k_steps
  rename News _ _ _ _ => N4
  refine Stop.go (eq_dat2 (ka := 0) (ts := [(1, S)]) N4 (.tail _ (.tail _ (.head _))) (dS.mono fun p hp => .tail _ (.tail _ (.tail _ hp))) (.head _) (.one (DatIn.tuple (vs := [_, _]) (.tail _ (.head _)) (.cons (.int _ _) (.cons (.int _ _) .nil)))) (by ke_room) ?_)
  k_steps
  refine Stop.go (eq_dat2 (ts := partsTo S 7) N4 (.tail _ (.tail _ (.tail _ hlw))) (hW.mono fun p hp => .tail _ (.tail _ (.tail _ hp))) (.tail _ (.tail _ (.tail _ hlm))) (hD.mono fun p hp => .tail _ (.tail _ (.tail _ hp))) (by ke_room) ?_)
  k_steps
  rename Fr _ _ _ _ => F5
  exact K _ _ (hpin ▸ F5)
end Mine
end

section
theorem Mine.topOffL2 : True := by
  w_top off
  trivial
open PySem PySem.W PyProof.Rows
set_option Elab.async false
set_option maxRecDepth 100000
set_option maxHeartbeats 1000000
namespace Mine
set_option linter.all false
local macro_rules | `(tactic| walk_at "loadName") => `(tactic| (k_here; k_dflt (refine' ldX_C ?N ?c ?m ?d ?_ ?a ?b; (case a => rfl); (case b => rfl); (case N => k_asm); (case c => rfl); (case m => k_mem); (case d => k_asm))))
local macro_rules | `(tactic| walk_at "storeName") => `(tactic| with_reducible refine Stop.out ?_)
theorem st23 (w : World) (mean : ExcName → Option Value) (mg mb : Str → Option Value) (h₀ : Heap) (L fa : Addr) (cd : Value) (s : Shared) (Q : Flow → Shared → Prop) (E : Value → Shared → Prop) (o1 o2 o3 : Obj)
    (lc : Addr) (ws : List Value) (cs : List Int) (c : Nat) (m : Str → Option Value) (rest : List Stmt)
    (d1 : o1.data = .cell none) (mc : m (Str.ofString "cells") = some (.ref lc))
    (F : Fr h₀ L s.heap m) (X : (hd.heap_1 w.params).In h₀) (T : Top view (looseW view []) mean mg mb h₀)
    (hlc : @LT.lt Nat _ (L + 3) lc) (hI : IntsAre ws cs) (h3 : cs.length = 3)
    (N : News h₀ L s.heap [(lc, listOf ws.toArray c), (L + 3, o3), (L + 2, o2), (L + 1, o1)])
    (K : ∀ (S : Int) (t : Tok) (o1 : Obj) (h' : Heap) (tk : Nat), S ∈ sizes → o1.data = .cell (some (.int S t)) → Fr h₀ L h' m →
      News h₀ L h' [(lc, listOf ws.toArray c), (L + 3, o3), (L + 2, o2), (L + 1, o1)] → wpAny (model PySem.Challenge.rw_xj0017_01.row.prog w) (callerA.deeper (lawEnv L fa cd)) (execs rest (lawEnv L fa cd)) Q E { s with heap := h', toks := tk }) :
    wpAny (model PySem.Challenge.rw_xj0017_01.row.prog w) (callerA.deeper (lawEnv L fa cd)) (execs (lawStmt 2 :: lawStmt 3 :: rest) (lawEnv L fa cd)) Q E s := by
  revert X
  k_fill
  intro X
  have F1 := (pin ⟨F, rfl⟩ mc).1
  have hpin := (pin ⟨F, rfl⟩ mc).2
  clear F
  have U : ∀ o : Obj, UpdF (L + 1) o [(lc, listOf ws.toArray c), (L + 3, o3), (L + 2, o2), (L + 1, o)] (fun o' => [(lc, listOf ws.toArray c), (L + 3, o3), (L + 2, o2), (L + 1, o')]) := fun o =>
    .tail (Nat.ne_of_gt (by omega)) (.tail (Nat.ne_of_gt (by omega)) (.tail (Nat.ne_of_gt (by omega)) (.head (fun p hp => (nomatch hp)))))
  conv in (lawStmt 2) => whnf
  conv in (lawStmt 3) => whnf
  k_steps
  have g0 := fmod_lo (cs.getD (Int.toNat 0) 0) (n := 16) (by decide)
  have g1 := fmod_hi (cs.getD (Int.toNat 0) 0) (n := 16) (by decide)
  rename Fr _ _ _ _ => F2
  rename News _ _ _ _ => N2
  refine Stop.go (storeX_C F2 N2 rfl (U o1) d1 ?_ rfl rfl)
  intro h1 o1' F3 N3 d1'
  try dsimp only at N3
  generalize hr : (cs.getD (Int.toNat 0) 0).fmod 16 = r at g0 g1 d1' ⊢
  clear F2 N2
  k_steps
  · rename Fr _ _ _ _ => F4
    rename News _ _ _ _ => N4
    rename (([1, 9, 25, 49].any _) = true) => hin
    refine Stop.go (storeX_C F4 (fun p hp => N4 p (.tail _ hp)) rfl (U o1') d1' ?_ rfl rfl)
    intro h2 o1'' F5 N5 d1''
    try dsimp only at N5
    k_steps
    exact K _ _ o1'' _ _ (size_in g0 g1 hin rfl) d1'' (hpin ▸ F5) N5
  · rename Fr _ _ _ _ => F4
    rename News _ _ _ _ => N4
    rename (([1, 9, 25, 49].any _) = false) => hin
    exact K _ _ o1' _ _ (size_out g0 g1 hin rfl) d1' (hpin ▸ F4) (fun p hp => N4 p (.tail _ hp))
end Mine
end

section
local macro_rules | `(tactic| walk_at "pad 0") => `(tactic| fail)
theorem Mine.topOffL4 : True := by
  w_top off
  trivial
open PySem PySem.W PyProof.Rows
set_option Elab.async false
set_option maxRecDepth 100000
set_option maxHeartbeats 1000000
namespace Mine
set_option linter.all false
local macro_rules | `(tactic| walk_at "subscriptTail") => `(tactic| ((fail_if_success (with_reducible show wpAny _ _ (subscriptTail (PySem.Expr.Name _ _) _ _ _) _ _ _)); (fail_if_success (with_reducible show wpAny _ _ (subscriptTail (PySem.Expr.List _ _) _ _ _) _ _ _)); with_reducible refine Stop.out ?_))
local macro_rules | `(tactic| walk_at "subscriptTail Constant BinOp str int") => `(tactic| with_reducible refine Stop.out ?_)
def firstOk (W fi : Int) : Prop := 0 ≤ fi ∧ fi ≤ 4 ∧ (W = 0 → fi = 0 ∨ fi = 1 ∨ fi = 3 ∨ fi = 4) ∧ (W = 1 → fi = 0 ∨ fi = 1 ∨ fi = 2 ∨ fi = 3)
theorem st4 (w : World) (mean : ExcName → Option Value) (mg mb : Str → Option Value) (h₀ : Heap) (L fa : Addr) (cd : Value) (s : Shared) (Q : Flow → Shared → Prop) (E : Value → Shared → Prop)
    (lc : Addr) (ws : List Value) (cs : List Int) (c : Nat) (m : Str → Option Value) (rest : List Stmt) (R : List (Addr × Obj))
    (mc : m (Str.ofString "cells") = some (.ref lc))
    (F : Fr h₀ L s.heap m) (X : (hd.heap_1 w.params).In h₀) (T : Top view (looseW view []) mean mg mb h₀)
    (hI : IntsAre ws cs) (h3 : cs.length = 3)
    (N : News h₀ L s.heap ((lc, listOf ws.toArray c) :: R))
    (K : ∀ (W : Int) (t : Tok) (m' : Str → Option Value) (h' : Heap) (tk : Nat), (W = 0 ∨ W = 1) → Same ["way"] m m' → m' (Str.ofString "way") = some (.int W t) → Fr h₀ L h' m' →
      News h₀ L h' ((lc, listOf ws.toArray c) :: R) → wpAny (model PySem.Challenge.rw_xj0017_01.row.prog w) (callerA.deeper (lawEnv L fa cd)) (execs rest (lawEnv L fa cd)) Q E { s with heap := h', toks := tk }) :
    wpAny (model PySem.Challenge.rw_xj0017_01.row.prog w) (callerA.deeper (lawEnv L fa cd)) (execs (lawStmt 4 :: rest) (lawEnv L fa cd)) Q E s := by
  revert X
  k_fill
  intro X
  have F1 := (pin ⟨F, rfl⟩ mc).1
  conv in (lawStmt 4) => whnf
  k_steps
  rename Fr _ _ _ _ => F2
  rename News _ _ _ _ => N2
  have g0 := fmod_lo (cs.getD (Int.toNat 1) 0) (n := 2) (by decide)
  have g1 := fmod_hi (cs.getD (Int.toNat 1) 0) (n := 2) (by decide)
  exact K _ _ _ _ _ (by omega) ((Same.refl.pin mc).put ⟨"way", by decide, rfl⟩) rfl F2 N2
theorem st5a (V : Int) (g2 : 0 ≤ V) (g3 : V < 4) (l : List Value) (a b c d : Int) (t1 t2 t3 t4 : Tok) (hl : l = [.int a t1, .int b t2, .int c t3, .int d t4]) : ∃ fi t, l[V.toNat]? = some (.int fi t) ∧ (fi = a ∨ fi = b ∨ fi = c ∨ fi = d) := by
  subst hl
  have hVc : V = 0 ∨ V = 1 ∨ V = 2 ∨ V = 3 := by omega
  rcases hVc with rfl | rfl | rfl | rfl
  · exact ⟨_, _, rfl, by simp⟩
  · exact ⟨_, _, rfl, by simp⟩
  · exact ⟨_, _, rfl, by simp⟩
  · exact ⟨_, _, rfl, by simp⟩
theorem item_menu {prog : Program} {w : World} {A : Around} {E : Value → Shared → Prop} {s : Shared} {value slice : PySem.Expr} {l : Addr} {V : Int} {u : Tok} {a b c d : Int} {t1 t2 t3 t4 : Tok} {Q : Value → Shared → Prop} (hl : s.heap.IsList l #[.int a t1, .int b t2, .int c t3, .int d t4]) (g2 : 0 ≤ V) (g3 : V < 4)
    (h : ∀ fi t, (fi = a ∨ fi = b ∨ fi = c ∨ fi = d) → Q (.int fi t) s)
    (hs : subscripted slice false (.ref l) (.int V u) = operate [.ref l, .int V u] (getItem (.ref l) (.int V u)) := by with_unfolding_all rfl) :
    wpAny (model prog w) A (subscriptTail value slice (.ref l) (.int V u)) Q E s := by
  obtain ⟨fi, t, hx, hfi⟩ := st5a V g2 g3 [.int a t1, .int b t2, .int c t3, .int d t4] a b c d t1 t2 t3 t4 rfl
  exact subscriptTail_builtinR (x := .int fi t) hl.typeIs slot_list_getitem.lookup (wpAny_getItem_list hl g2 (by omega) (by simpa using hx) ⟨rfl, h fi t hfi⟩) hs
theorem st5 (w : World) (mean : ExcName → Option Value) (mg mb : Str → Option Value) (h₀ : Heap) (L fa : Addr) (cd : Value) (s : Shared) (Q : Flow → Shared → Prop) (E : Value → Shared → Prop)
    (lc : Addr) (ws : List Value) (cs : List Int) (c : Nat) (m : Str → Option Value) (rest : List Stmt) (R : List (Addr × Obj)) (W : Int) (tw : Tok) (hW : W = 0 ∨ W = 1)
    (mc : m (Str.ofString "cells") = some (.ref lc)) (mw : m (Str.ofString "way") = some (.int W tw))
    (F : Fr h₀ L s.heap m) (X : (hd.heap_1 w.params).In h₀) (T : Top view (looseW view []) mean mg mb h₀)
    (hI : IntsAre ws cs) (h3 : cs.length = 3)
    (N : News h₀ L s.heap ((lc, listOf ws.toArray c) :: R))
    (K : ∀ (fi : Int) (u : Tok) (m' : Str → Option Value) (h' : Heap) (tk : Nat), firstOk W fi → Same ["first"] m m' → m' (Str.ofString "first") = some (.int fi u) → Fr h₀ L h' m' →
      News h₀ L h' ((lc, listOf ws.toArray c) :: R) → wpAny (model PySem.Challenge.rw_xj0017_01.row.prog w) (callerA.deeper (lawEnv L fa cd)) (execs rest (lawEnv L fa cd)) Q E { s with heap := h', toks := tk }) :
    wpAny (model PySem.Challenge.rw_xj0017_01.row.prog w) (callerA.deeper (lawEnv L fa cd)) (execs (lawStmt 5 :: rest) (lawEnv L fa cd)) Q E s := by
  revert X
  k_fill
  intro X
  have g2 := fmod_lo ((cs.getD (Int.toNat 1) 0).fdiv 2) (n := 4) (by decide)
  have g3 := fmod_hi ((cs.getD (Int.toNat 1) 0).fdiv 2) (n := 4) (by decide)
  have F1 := (pin (pin ⟨F, rfl⟩ mc) mw).1
  conv in (lawStmt 5) => whnf
  rcases hW with rfl | rfl
  · k_steps
    rename News _ _ _ _ => N2
    refine Stop.go (item_menu (N2.isList (.tail _ (.tail _ (.head _)))) g2 g3 ?_)
    intro fi t hfi
    k_steps
    rename Fr _ _ _ _ => F3
    rename News _ _ _ _ => N3
    exact K _ _ _ _ _ (by unfold firstOk; omega) (((Same.refl.pin mc).pin mw).put ⟨"first", by decide, rfl⟩) rfl F3 (fun p hp => N3 p (.tail _ (.tail _ (.tail _ hp))))
  · k_steps
    rename News _ _ _ _ => N2
    refine Stop.go (item_menu (N2.isList (.tail _ (.head _))) g2 g3 ?_)
    intro fi t hfi
    k_steps
    rename Fr _ _ _ _ => F3
    rename News _ _ _ _ => N3
    exact K _ _ _ _ _ (by unfold firstOk; omega) (((Same.refl.pin mc).pin mw).put ⟨"first", by decide, rfl⟩) rfl F3 (fun p hp => N3 p (.tail _ (.tail _ (.tail _ hp))))
end Mine
end

section
theorem Mine.topOffL6 : True := by
  w_top off
  trivial
open PySem PySem.W PyProof.Rows
set_option Elab.async false
set_option maxRecDepth 100000
set_option maxHeartbeats 1000000
namespace Mine
set_option linter.all false
theorem mark_item {V : Int} (g0 : 0 ≤ V) (g1 : V < 8) : ∃ mk, mk ∈ [124, 33, 39, 34, 60, 62, 9, 13] ∧ Txt.item (Str.ofString "|!'\"<>\t\x0d") V = ⟨#[mk]⟩ := by
  have h : V = 0 ∨ V = 1 ∨ V = 2 ∨ V = 3 ∨ V = 4 ∨ V = 5 ∨ V = 6 ∨ V = 7 := by omega
  rcases h with rfl | rfl | rfl | rfl | rfl | rfl | rfl | rfl
  · exact ⟨124, by decide, by decide⟩
  · exact ⟨33, by decide, by decide⟩
  · exact ⟨39, by decide, by decide⟩
  · exact ⟨34, by decide, by decide⟩
  · exact ⟨60, by decide, by decide⟩
  · exact ⟨62, by decide, by decide⟩
  · exact ⟨9, by decide, by decide⟩
  · exact ⟨13, by decide, by decide⟩
theorem lent_item {V : Int} (g0 : 0 ≤ V) (g1 : V < 2) : ∃ mk, (mk = 59 ∨ mk = 38) ∧ Txt.item (Str.ofString ";&") V = ⟨#[mk]⟩ := by
  have h : V = 0 ∨ V = 1 := by omega
  rcases h with rfl | rfl
  · exact ⟨59, .inl rfl, by decide⟩
  · exact ⟨38, .inr rfl, by decide⟩
section
local macro_rules | `(tactic| walk_at "storeName") => `(tactic| with_reducible refine Stop.out ?_)
def markOk (mk : Nat) : Prop := mk ∈ [124, 33, 39, 34, 60, 62, 9, 13]
theorem st6 (w : World) (mean : ExcName → Option Value) (mg mb : Str → Option Value) (h₀ : Heap) (L fa : Addr) (cd : Value) (s : Shared) (Q : Flow → Shared → Prop) (E : Value → Shared → Prop) (o1 o2 o3 : Obj)
    (lc : Addr) (ws : List Value) (cs : List Int) (c : Nat) (m : Str → Option Value) (rest : List Stmt)
    (d2 : o2.data = .cell none) (mc : m (Str.ofString "cells") = some (.ref lc))
    (F : Fr h₀ L s.heap m) (X : (hd.heap_1 w.params).In h₀) (T : Top view (looseW view []) mean mg mb h₀)
    (hlc : @LT.lt Nat _ (L + 3) lc) (hI : IntsAre ws cs) (h3 : cs.length = 3)
    (N : News h₀ L s.heap [(lc, listOf ws.toArray c), (L + 3, o3), (L + 2, o2), (L + 1, o1)])
    (K : ∀ (mk : Nat) (t : Tok) (o2 : Obj) (h' : Heap) (tk : Nat), markOk mk → o2.data = .cell (some (.str ⟨#[mk]⟩ t)) → Fr h₀ L h' m →
      News h₀ L h' [(lc, listOf ws.toArray c), (L + 3, o3), (L + 2, o2), (L + 1, o1)] → wpAny (model PySem.Challenge.rw_xj0017_01.row.prog w) (callerA.deeper (lawEnv L fa cd)) (execs rest (lawEnv L fa cd)) Q E { s with heap := h', toks := tk }) :
    wpAny (model PySem.Challenge.rw_xj0017_01.row.prog w) (callerA.deeper (lawEnv L fa cd)) (execs (lawStmt 6 :: rest) (lawEnv L fa cd)) Q E s := by
  revert X
  k_fill
  intro X
  have F1 := (pin ⟨F, rfl⟩ mc).1
  have hpin := (pin ⟨F, rfl⟩ mc).2
  have U : ∀ o : Obj, UpdF (L + 2) o [(lc, listOf ws.toArray c), (L + 3, o3), (L + 2, o), (L + 1, o1)] (fun o' => [(lc, listOf ws.toArray c), (L + 3, o3), (L + 2, o'), (L + 1, o1)]) := fun o =>
    .tail (Nat.ne_of_gt (by omega)) (.tail (Nat.ne_of_gt (by omega)) (.head (List.forall_mem_cons.mpr ⟨Nat.ne_of_lt (by omega), fun p hp => (nomatch hp)⟩)))
  have g0 := fmod_lo ((cs.getD (Int.toNat 1) 0).fdiv 40) (n := 8) (by decide)
  have g1 := fmod_hi ((cs.getD (Int.toNat 1) 0).fdiv 40) (n := 8) (by decide)
  conv in (lawStmt 6) => whnf
  k_steps
  rename Fr _ _ _ _ => F2
  rename News _ _ _ _ => N2
  obtain ⟨mk, hmk, he⟩ := mark_item g0 g1
  rw [he]
  refine Stop.go (storeX_C F2 N2 rfl (U o2) d2 ?_ rfl rfl)
  intro h1 o2' F3 N3 d2'
  try dsimp only at N3
  k_steps
  rename Fr _ _ _ _ => F4
  rename News _ _ _ _ => N4
  exact K mk _ o2' _ _ hmk d2' (hpin ▸ F4) N4
end
theorem st7 (w : World) (mean : ExcName → Option Value) (mg mb : Str → Option Value) (h₀ : Heap) (L fa : Addr) (cd : Value) (s : Shared) (Q : Flow → Shared → Prop) (E : Value → Shared → Prop)
    (lc : Addr) (ws : List Value) (cs : List Int) (c : Nat) (m : Str → Option Value) (rest : List Stmt) (R : List (Addr × Obj))
    (mc : m (Str.ofString "cells") = some (.ref lc))
    (F : Fr h₀ L s.heap m) (X : (hd.heap_1 w.params).In h₀) (T : Top view (looseW view []) mean mg mb h₀)
    (hI : IntsAre ws cs) (h3 : cs.length = 3)
    (N : News h₀ L s.heap ((lc, listOf ws.toArray c) :: R))
    (K : ∀ (lk : Nat) (u : Tok) (m' : Str → Option Value) (h' : Heap) (tk : Nat), (lk = 59 ∨ lk = 38) → Same ["lent"] m m' → m' (Str.ofString "lent") = some (.str ⟨#[lk]⟩ u) → Fr h₀ L h' m' →
      News h₀ L h' ((lc, listOf ws.toArray c) :: R) → wpAny (model PySem.Challenge.rw_xj0017_01.row.prog w) (callerA.deeper (lawEnv L fa cd)) (execs rest (lawEnv L fa cd)) Q E { s with heap := h', toks := tk }) :
    wpAny (model PySem.Challenge.rw_xj0017_01.row.prog w) (callerA.deeper (lawEnv L fa cd)) (execs (lawStmt 7 :: rest) (lawEnv L fa cd)) Q E s := by
  revert X
  k_fill
  intro X
  have F1 := (pin ⟨F, rfl⟩ mc).1
  have g0 := fmod_lo ((cs.getD (Int.toNat 1) 0).fdiv 320) (n := 2) (by decide)
  have g1 := fmod_hi ((cs.getD (Int.toNat 1) 0).fdiv 320) (n := 2) (by decide)
  obtain ⟨lk, hlk, he⟩ := lent_item g0 g1
  conv in (lawStmt 7) => whnf
  k_steps
  rename Fr _ _ _ _ => F2
  rename News _ _ _ _ => N2
  exact K lk _ _ _ _ hlk ((Same.refl.pin mc).put ⟨"lent", by decide, rfl⟩) (by rw [← he]; rfl) F2 N2
theorem st8 (w : World) (mean : ExcName → Option Value) (mg mb : Str → Option Value) (h₀ : Heap) (L fa : Addr) (cd : Value) (s : Shared) (Q : Flow → Shared → Prop) (E : Value → Shared → Prop)
    (lc : Addr) (ws : List Value) (cs : List Int) (c : Nat) (m : Str → Option Value) (rest : List Stmt) (R : List (Addr × Obj))
    (mc : m (Str.ofString "cells") = some (.ref lc))
    (F : Fr h₀ L s.heap m) (X : (hd.heap_1 w.params).In h₀) (T : Top view (looseW view []) mean mg mb h₀)
    (hI : IntsAre ws cs) (h3 : cs.length = 3)
    (N : News h₀ L s.heap ((lc, listOf ws.toArray c) :: R))
    (K : ∀ (U : Int) (lm : Addr) (u : Tok) (m' : Str → Option Value) (h' : Heap) (tk : Nat), 4096 ≤ U → U < 4096 + 10 ^ 30 → Same ["unit", "mills"] m m' → m' (Str.ofString "unit") = some (.int U u) → m' (Str.ofString "mills") = some (.ref lm) → Fr h₀ L h' m' →
      News h₀ L h' ((lm, listOf #[] 0) :: (lc, listOf ws.toArray c) :: R) → (∀ p ∈ (lc, listOf ws.toArray c) :: R, @LT.lt Nat _ p.1 lm) → wpAny (model PySem.Challenge.rw_xj0017_01.row.prog w) (callerA.deeper (lawEnv L fa cd)) (execs rest (lawEnv L fa cd)) Q E { s with heap := h', toks := tk }) :
    wpAny (model PySem.Challenge.rw_xj0017_01.row.prog w) (callerA.deeper (lawEnv L fa cd)) (execs (lawStmt 8 :: lawStmt 9 :: rest) (lawEnv L fa cd)) Q E s := by
  revert X
  k_fill
  intro X
  have F1 := (pin ⟨F, rfl⟩ mc).1
  have g0 := fmod_lo (cs.getD (Int.toNat 2) 0) (n := 10 ^ 30) (by decide)
  have g1 := fmod_hi (cs.getD (Int.toNat 2) 0) (n := 10 ^ 30) (by decide)
  conv in (lawStmt 8) => whnf
  conv in (lawStmt 9) => whnf
  k_steps
  rename_i l1 h9 F2 N2
  have e30 : ((10 : Int) ^ Int.toNat 30) = 10 ^ 30 := rfl
  rw [e30] at F2
  exact K _ _ _ _ _ _ (by omega) (by omega) (((Same.refl.pin mc).put ⟨"unit", by decide, rfl⟩).put ⟨"mills", by decide, rfl⟩) rfl rfl F2 N2 (ktn_ltOf l1)
end Mine
end

section
open PySem PySem.W PyProof.Rows PySem.Calls PyProof.V PySem.Spec
set_option Elab.async false
set_option maxRecDepth 100000
namespace Mine
set_option linter.all false
def numS (n : Int) : Str := Str.ofString (toString n)
theorem num_digits {n : Int} (h0 : 0 ≤ n) : ∀ c ∈ (numS n).cps.toList, 48 ≤ c ∧ c ≤ 57 := by
  obtain ⟨m, rfl⟩ := Int.eq_ofNat_of_zero_le h0
  intro c hc
  unfold numS at hc
  rw [KIN.signs_num] at hc
  obtain ⟨ch, hch, e⟩ := List.mem_map.mp hc
  have r := digit_range (Nat.isDigit_of_mem_toDigits (by decide) (by decide) hch)
  rw [← e]
  exact r
theorem num_ne {n : Int} (h0 : 0 ≤ n) : (numS n).cps.toList ≠ [] := by
  obtain ⟨m, rfl⟩ := Int.eq_ofNat_of_zero_le h0
  unfold numS
  rw [KIN.signs_num]
  intro e
  have h := toDigits_len_ge 10 m
  rw [List.map_eq_nil_iff.mp e] at h
  exact absurd h (by decide)
theorem num_len {n : Int} (h0 : 0 ≤ n) (h1 : n < 10 ^ 40) : (numS n).length ≤ 40 := toString_length_le h0 (by decide) h1
theorem num_reads {n : Int} (h0 : 0 ≤ n) (h1 : n < 10 ^ 40) : PySem.intText? (numS n) = some n := by
  have hl := num_len h0 h1
  rw [intText_digits (num_digits h0) (num_ne h0) (by omega)]
  obtain ⟨m, rfl⟩ := Int.eq_ofNat_of_zero_le h0
  unfold numS
  rw [KIN.signs_num, KIN.val_back]
theorem join_count (c : Nat) : ∀ ps : List Str, ps ≠ [] → (∀ p ∈ ps, c ∉ p.cps.toList) → (Str.join ⟨#[c]⟩ ps).cps.toList.count c + 1 = ps.length
  | [], h, _ => absurd rfl h
  | [p], _, hf => by
    have : (Str.join ⟨#[c]⟩ [p]).cps.toList = p.cps.toList := rfl
    rw [this, List.count_eq_zero_of_not_mem (hf p (.head _))]; rfl
  | p :: q :: r, _, hf => by
    have h' : (Str.join ⟨#[c]⟩ (p :: q :: r)).cps.toList = (p ++ ⟨#[c]⟩ ++ Str.join ⟨#[c]⟩ (q :: r)).cps.toList := rfl
    rw [h']
    simp only [Str.cps_append, Array.toList_append, List.count_append]
    rw [List.count_eq_zero_of_not_mem (hf p (.head _))]
    have ih := join_count c (q :: r) (by simp) (fun x hx => hf x (.tail _ hx))
    have e1 : List.count c (⟨#[c]⟩ : Str).cps.toList = 1 := by simp
    rw [e1, List.length_cons]; omega
theorem split_count (x : Str) (c : Nat) : (Txt.split x ⟨#[c]⟩).length = x.cps.toList.count c + 1 := by
  have h := join_count c (Txt.split x ⟨#[c]⟩) (by
    intro e
    have := split_pos x ⟨#[c]⟩
    rw [e] at this
    exact absurd this (by decide)) (fun p hp => StrLaws.split_free x c p hp)
  rw [StrLaws.join_split] at h
  exact h.symm
theorem refused_ne {c : Nat} {f1 f2 f3 : Str} (h : c ∈ f1.cps.toList) : (Txt.split ⟨(c :: (mid3 c f1 f2 f3 ++ [c])).toArray⟩ ⟨#[c]⟩).length ≠ 5 := by
  rw [split_count]
  have h1 : 0 < List.count c f1.cps.toList := List.count_pos_iff.mpr h
  show List.count c (c :: (mid3 c f1 f2 f3 ++ [c])) + 1 ≠ 5
  unfold mid3
  simp only [List.count_append, List.count_cons_self, List.count_nil]
  omega
def markList : List Nat := [124, 33, 39, 34, 60, 62, 9, 13]
theorem mark_num {mk : Nat} (h : mk ∈ markList) {n : Int} (h0 : 0 ≤ n) : mk ∉ (numS n).cps.toList := fun q => by
  have := num_digits h0 mk q
  simp [markList] at h
  omega
theorem no41_num {n : Int} (h0 : 0 ≤ n) : 41 ∉ (numS n).cps.toList := fun q => by
  have := num_digits h0 41 q
  omega
theorem mid3_no41 {c : Nat} {f1 f2 f3 : Str} (hc : c ≠ 41) (h1 : 41 ∉ f1.cps.toList) (h2 : 41 ∉ f2.cps.toList) (h3 : 41 ∉ f3.cps.toList) : 41 ∉ mid3 c f1 f2 f3 := by
  unfold mid3
  simp only [List.mem_append, List.mem_cons, not_or]
  exact ⟨h1, fun e => hc e.symm, h2, fun e => hc e.symm, h3⟩
theorem mid3_len (c : Nat) (f1 f2 f3 : Str) : (mid3 c f1 f2 f3).length = f1.length + f2.length + f3.length + 2 := by
  unfold mid3
  simp only [List.length_append, List.length_cons, Array.length_toList]
  show f1.length + (f2.length + (f3.length + 1) + 1) = _
  omega
theorem fieldsText {mk : Nat} (hm : mk ∈ markList) {P : Str} {b n : Int} (hP : mk ∉ P.cps.toList) (hP41 : 41 ∉ P.cps.toList) (hPl : P.length ≤ 3000) (hb : 0 ≤ b) (hb1 : b < 10 ^ 40) (hn : 0 ≤ n) (hn1 : n < 10 ^ 40) : FieldsOk mk P (numS b) (numS n) n := by
  have l1 := num_len hb hb1
  have l2 := num_len hn hn1
  have c41 : mk ≠ 41 := by simp [markList] at hm; omega
  exact { c41 := c41, no41 := mid3_no41 c41 hP41 (no41_num hb) (no41_num hn), len := by rw [mid3_len]; omega, h1 := hP, h2 := mark_num hm hb, h3 := mark_num hm hn, hz := num_reads hn hn1, hl3 := by omega }
theorem fieldsNum {mk : Nat} (hm : mk ∈ markList) {a b n : Int} (ha : 0 ≤ a) (ha1 : a < 10 ^ 40) (hb : 0 ≤ b) (hb1 : b < 10 ^ 40) (hn : 0 ≤ n) (hn1 : n < 10 ^ 40) : FieldsOk mk (numS a) (numS b) (numS n) n :=
  fieldsText hm (mark_num hm ha) (no41_num ha) (by have := num_len ha ha1; omega) hb hb1 hn hn1
end Mine
end

section
theorem Mine.topOffQ0 : True := by
  w_top off
  trivial
open PySem PySem.W PyProof.Rows
set_option Elab.async false
set_option maxRecDepth 100000
set_option maxHeartbeats 1000000
namespace Mine
set_option linter.all false
def bodyB : List Stmt := match lawStmt 11 with
  | .For _ _ b _ _ => b
  | _ => []
def lawB (n : Nat) : Stmt := bodyB.getD n (.Pass default)
theorem bodyB_is : bodyB = [lawB 0, lawB 1, lawB 2, lawB 3, lawB 4, lawB 5, lawB 6, lawB 7, lawB 8, lawB 9] := rfl
section
local macro_rules | `(tactic| walk_at "storeName") => `(tactic| with_reducible refine Stop.out ?_)
theorem sb0 (w : World) (mean : ExcName → Option Value) (mg mb : Str → Option Value) (h₀ : Heap) (L fa : Addr) (cd : Value) (s : Shared) (Q : Flow → Shared → Prop) (E : Value → Shared → Prop) (o3 : Obj)
    (x y z : Int) (tx ty tz : Tok) (v3 : Option Value) (m : Str → Option Value) (rest : List Stmt) (R : List (Addr × Obj))
    (d3 : o3.data = .cell v3) (mx : m (Str.ofString "x") = some (.int x tx)) (my : m (Str.ofString "y") = some (.int y ty)) (mz : m (Str.ofString "z") = some (.int z tz))
    (hx : 1 ≤ x ∧ x ≤ 7) (hy : 1 ≤ y ∧ y ≤ 15) (hz : 1 ≤ z ∧ z ≤ 15)
    (B : Below callerA h₀ [] h₀) (F : Fr h₀ L s.heap m) (X : (hd.heap_1 w.params).In h₀) (T : Top view (looseW view []) mean mg mb h₀)
    (N : News h₀ L s.heap ((L + 3, o3) :: R)) (hR : ∀ p ∈ R, p.1 ≠ L + 3)
    (K : ∀ (lf : Addr) (o3 : Obj) (t1 t2 t3 : Tok) (h' : Heap) (tk : Nat), o3.data = .cell (some (.ref lf)) → Fr h₀ L h' m → News h₀ L h' ((lf, listOf #[.str (numS x) t1, .str (numS y) t2, .str (numS z) t3] 0) :: (L + 3, o3) :: R) → (∀ p ∈ (L + 3, o3) :: R, @LT.lt Nat _ p.1 lf) →
      wpAny (model PySem.Challenge.rw_xj0017_01.row.prog w) (callerA.deeper (lawEnv L fa cd)) (execs rest (lawEnv L fa cd)) Q E { s with heap := h', toks := tk }) :
    wpAny (model PySem.Challenge.rw_xj0017_01.row.prog w) (callerA.deeper (lawEnv L fa cd)) (execs (lawB 0 :: rest) (lawEnv L fa cd)) Q E s := by
  revert X
  k_fill
  intro X
  have F1 := (pin (pin (pin ⟨F, rfl⟩ mx) my) mz).1
  have hpin := (pin (pin (pin ⟨F, rfl⟩ mx) my) mz).2
  conv in (lawB 0) => whnf
  k_steps
  rename_i lf h1 F2 N2 l1
  have hl : ∀ p ∈ (L + 3, o3) :: R, p.1 < lf := ktn_ltOf l1
  refine Stop.go (storeX_C F2 N2 rfl (.tail (Nat.ne_of_gt l1.1) (.head hR)) d3 ?_ rfl rfl)
  intro h3 o3' F3 N3 d3'
  try dsimp only at N3
  k_steps
  rename Fr _ _ _ _ => F4
  rename News _ _ _ _ => N4
  exact K lf o3' _ _ _ _ _ d3' (hpin ▸ F4) N4 (List.forall_mem_cons.mpr ⟨l1.1, fun p hp => hl p (.tail _ hp)⟩)
end
def tupSI (x : Str) (y : Int) (a b : Tok) (n : Nat) : Obj := { cls := .type "tuple", data := .seq #[.str x a, .int y b] n }
theorem cend1 {h₀ : Heap} {L I C D D' : Addr} {m : Str → Option Value} {s₁ : Shared} {oI oC oD oT : Obj} {rest : Value → List (Addr × Obj) → Prop} {h' : Heap} {tk : Nat} {a1 a2 a3 : Addr × Obj} {nx : List (Addr × Obj)}
    (F : Fr h₀ L h' m) (N : News h₀ L h' ((D', oT) :: a1 :: a2 :: a3 :: (I, oI) :: (C, oC) :: (D, oD) :: nx)) (l1 : ∀ p ∈ a1 :: a2 :: a3 :: (I, oI) :: (C, oC) :: (D, oD) :: nx, @Ne Nat p.1 D') (off : LCg.Off3 I C D nx) (r : rest (.ref D') ((D', oT) :: nx)) :
    LCg.CompEnd h₀ L m s₁ I oI C oC D oD (fun _ => True) rest (.ref D') { s₁ with heap := h', toks := tk } := by
  refine LCg.CompEnd.intro F N ((D', oT) :: nx) (fun p hp => ?_) (LCg.Off3.of fun p hp => ?_) trivial r
  · simp only [List.mem_cons] at hp ⊢
    rcases hp with h | h | h | h | h <;> simp [h]
  · rcases List.mem_cons.mp hp with rfl | hp
    · exact ⟨(l1 _ (.tail _ (.tail _ (.tail _ (.head _))))).symm, (l1 _ (.tail _ (.tail _ (.tail _ (.tail _ (.head _)))))).symm, (l1 _ (.tail _ (.tail _ (.tail _ (.tail _ (.tail _ (.head _))))))).symm⟩
    · exact off.mem p hp
section
local macro_rules | `(tactic| walk_at "exec Assign cons ListComp") => `(tactic| with_reducible refine Stop.out ?_)
local macro_rules | `(tactic| walk_at "exec Assign") => `(tactic| with_reducible refine Stop.out ?_)
local macro_rules | `(tactic| walk_at "mine call") => `(tactic| (
  (case k1 => k_asm); (case k2 => k_asm); (case k3 => k_asm); (case k4 => k_asm); (case k5 => k_asm); (case kK => first | exact rfl | assumption); (case kd => ktr_room); (case ku => ktr_units)))
local macro_rules | `(tactic| walk_at "call ref") => `(tactic| (k_here; k_dflt (refine' CallTo.use ?k1 ?k2 ?k3 ?k4 ?k5 ?kK (told _ _ _ _ _ _ _ _ _ _ _ _ _ _ _ ?sO ?sm) ?kd ?ku ?_; (case k1 => k_asm); (case k2 => k_asm); (case k3 => k_asm); (case k4 => k_asm); (case k5 => k_asm); (case kK => first | exact rfl | assumption); (case sm => k_mem); (case sO => with_reducible assumption); (case kd => ktr_room); (case ku => ktr_units); (intro D' t1' t2' c' h' tk' F' N' l1; (try dsimp only)))))
local macro_rules | `(tactic| walk_at "CompEnd") => `(tactic| (k_dflt (refine' cend1 ?F ?N ?l ?o ?_; (case F => k_asm); (case N => k_asm); (case l => assumption); (case o => assumption))))
local macro_rules | `(tactic| walk_at "CompSrc") => `(tactic| (k_here; k_dflt (refine LCg.CompSrc.range (by rfl) (by k_asm) (by k_asm) (by assumption) (by first | decide | rfl) (by first | rfl | decide) (by first | size_fits | exact Nat.le_of_ble_eq_true rfl) ?_; intro g'; lcg_lit)))
theorem sb1 (w : World) (mean : ExcName → Option Value) (mg mb : Str → Option Value) (h₀ : Heap) (L fa : Addr) (cd : Value) (s : Shared) (Q : Flow → Shared → Prop) (E : Value → Shared → Prop) (o2 o3 : Obj)
    (x y z : Int) (mk : Nat) (tm t1 t2 t3 : Tok) (lf : Addr) (m : Str → Option Value) (rest : List Stmt) (R : List (Addr × Obj))
    (hmk : mk ∈ markList) (d2 : o2.data = .cell (some (.str ⟨#[mk]⟩ tm))) (d3 : o3.data = .cell (some (.ref lf)))
    (hx : 1 ≤ x ∧ x ≤ 7) (hy : 1 ≤ y ∧ y ≤ 15) (hz : 1 ≤ z ∧ z ≤ 15)
    (B : Below callerA h₀ [] h₀) (F : Fr h₀ L s.heap m) (X : (hd.heap_1 w.params).In h₀) (T : Top view (looseW view []) mean mg mb h₀)
    (N : News h₀ L s.heap ((lf, listOf #[.str (numS x) t1, .str (numS y) t2, .str (numS z) t3] 0) :: (L + 3, o3) :: (L + 2, o2) :: R))
    (K : ∀ (D a0 a1 a2 : Addr) (u0 u1 u2 v0 v1 v2 : Tok) (c0 c1 c2 : Nat) (h' : Heap) (tk : Nat), Fr h₀ L h' (fun y => if y = Str.ofString "told" then some (.ref D) else m y) →
      News h₀ L h' ((D, listOf #[.ref a0, .ref a1, .ref a2] 3) :: (a2, tupSI (Str.ofString "host") y u2 v2 c2) :: (a1, tupSI (Str.ofString "host") x u1 v1 c1) :: (a0, tupSI (Str.ofString "host") z u0 v0 c0) :: (lf, listOf #[.str (numS x) t1, .str (numS y) t2, .str (numS z) t3] 0) :: (L + 3, o3) :: (L + 2, o2) :: R) →
      wpAny (model PySem.Challenge.rw_xj0017_01.row.prog w) (callerA.deeper (lawEnv L fa cd)) (execs rest (lawEnv L fa cd)) Q E { s with heap := h', toks := tk }) :
    wpAny (model PySem.Challenge.rw_xj0017_01.row.prog w) (callerA.deeper (lawEnv L fa cd)) (execs (lawB 1 :: rest) (lawEnv L fa cd)) Q E s := by
  revert X
  k_fill
  intro X
  conv in (lawB 1) => whnf
  have hO0 : FieldsOk mk (numS x) (numS y) (numS z) z := fieldsNum hmk (by omega) (by omega) (by omega) (by omega) (by omega) (by omega)
  have hO1 : FieldsOk mk (numS y) (numS z) (numS x) x := fieldsNum hmk (by omega) (by omega) (by omega) (by omega) (by omega) (by omega)
  have hO2 : FieldsOk mk (numS z) (numS x) (numS y) y := fieldsNum hmk (by omega) (by omega) (by omega) (by omega) (by omega) (by omega)
  k_steps
  refine Stop.go ?_
  refine LCg.Assign_ListComp_U (F₀ := F) (by rfl) (by with_unfolding_all rfl) (by with_unfolding_all rfl) (by decide) (by rfl) (by decide) (by rfl) (by rfl) (by rfl) ?_
  k_steps
  rename Fr _ _ _ _ => F2
  rename News _ _ _ _ => N2
  exact K _ _ _ _ _ _ _ _ _ _ _ _ _ _ _ F2 N2
end
end Mine
end

section
theorem Mine.topOffQ2 : True := by
  w_top off
  trivial
open PySem PySem.W PyProof.Rows
set_option Elab.async false
set_option maxRecDepth 100000
set_option maxHeartbeats 1000000
namespace Mine
set_option linter.all false
theorem times_one (n c : Nat) : times n [c] = List.replicate n c := by
  unfold times; simp
theorem mul_times (n : Int) (c : Nat) : (Txt.mul ⟨#[c]⟩ n).cps.toList = times n.toNat [c] := by rw [mul_one_list, times_one]
theorem str_eq {a b : Str} (h : a.cps.toList = b.cps.toList) : a = b := by
  cases a; cases b; simp at h; simp [h]
theorem mul_bare (n y : Int) (c : Nat) : Txt.mul ⟨#[97]⟩ n ++ Txt.mul ⟨#[c]⟩ y = bare n.toNat y.toNat c := by
  apply str_eq
  rw [Str.cps_append, Array.toList_append, mul_times, mul_times]
  unfold bare
  simp
theorem sq_toNat (x : Int) : (x ^ Int.toNat 2) = x * x := by
  show x ^ 2 = x * x
  rw [Int.pow_succ, Int.pow_succ, Int.pow_zero, Int.one_mul]
def wayC (W : Int) : Nat := if W = 0 then 60 else 62
theorem way_item {W : Int} (hW : W = 0 ∨ W = 1) : Txt.item (Str.ofString "<>") W = ⟨#[wayC W]⟩ := by
  rcases hW with rfl | rfl <;> decide
section
local macro_rules | `(tactic| walk_at "binaryOp Mult str int") => `(tactic| (refine SB.mul (by with_reducible assumption) ?_; intro _ _))
local macro_rules | `(tactic| walk_at "binaryOp Add str str") => `(tactic| k_dflt (refine' PyProof.Rows.add_str ?_ ?hsz; (case hsz => (simp only [Str.length_append, sizeLine_eq]; omega)); intro _ _))
local macro_rules | `(tactic| walk_at "compareOp NotEq ref ref") => `(tactic| with_reducible refine Stop.out ?_)
theorem sb23 (w : World) (mean : ExcName → Option Value) (mg mb : Str → Option Value) (h₀ : Heap) (L fa : Addr) (cd : Value) (s : Shared) (Q : Flow → Shared → Prop) (E : Value → Shared → Prop)
    (x y z W : Int) (tx ty tz tw : Tok) (D a0 a1 a2 : Addr) (u0 u1 u2 v0 v1 v2 : Tok) (c0 c1 c2 : Nat) (m : Str → Option Value) (rest : List Stmt) (R : List (Addr × Obj))
    (hW : W = 0 ∨ W = 1) (hx : 1 ≤ x ∧ x ≤ 7) (hy : 1 ≤ y ∧ y ≤ 15) (hz : 1 ≤ z ∧ z ≤ 15)
    (mx : m (Str.ofString "x") = some (.int x tx)) (my : m (Str.ofString "y") = some (.int y ty)) (mz : m (Str.ofString "z") = some (.int z tz)) (mw : m (Str.ofString "way") = some (.int W tw)) (mt : m (Str.ofString "told") = some (.ref D))
    (B : Below callerA h₀ [] h₀) (F : Fr h₀ L s.heap m) (X : (hd.heap_1 w.params).In h₀) (T : Top view (looseW view []) mean mg mb h₀)
    (N : News h₀ L s.heap ((D, listOf #[.ref a0, .ref a1, .ref a2] 3) :: (a2, tupSI (Str.ofString "host") y u2 v2 c2) :: (a1, tupSI (Str.ofString "host") x u1 v1 c1) :: (a0, tupSI (Str.ofString "host") z u0 v0 c0) :: R))
    (K : ∀ (tp : Tok) (m' : Str → Option Value) (h' : Heap) (tk : Nat), Same ["page"] m m' → m' (Str.ofString "page") = some (.str (bare (x * x).toNat y.toNat (wayC W)) tp) → Fr h₀ L h' m' → News h₀ L h' ((D, listOf #[.ref a0, .ref a1, .ref a2] 3) :: (a2, tupSI (Str.ofString "host") y u2 v2 c2) :: (a1, tupSI (Str.ofString "host") x u1 v1 c1) :: (a0, tupSI (Str.ofString "host") z u0 v0 c0) :: R) →
      wpAny (model PySem.Challenge.rw_xj0017_01.row.prog w) (callerA.deeper (lawEnv L fa cd)) (execs rest (lawEnv L fa cd)) Q E { s with heap := h', toks := tk }) :
    wpAny (model PySem.Challenge.rw_xj0017_01.row.prog w) (callerA.deeper (lawEnv L fa cd)) (execs (lawB 2 :: lawB 3 :: rest) (lawEnv L fa cd)) Q E s := by
  unfold tupSI at N K
  have hsq := sq_toNat x
  have hx7 : x * x ≤ 49 := by
    have := Int.mul_le_mul hx.2 hx.2 (by omega) (by decide); simpa using this
  have hxx : 1 ≤ x * x := by
    have := Int.mul_le_mul hx.1 hx.1 (by decide) (by omega); simpa using this
  have ha : Str.ofString "a" = ⟨#[97]⟩ := by decide
  have hw := way_item hW
  have hM1 : MulOk (Str.ofString "a") (x ^ Int.toNat 2) := mulOk_of 16 1000 (by decide) (by rw [hsq]; omega) (by rw [hsq]; omega) (by decide) (by decide)
  have hM2 : MulOk (Txt.item (Str.ofString "<>") W) y := mulOk_of 16 1000 (by rw [hw]; show 1 ≤ 16; decide) (by omega) (by omega) (by decide) (by decide)
  have hl1 : (Txt.mul (Str.ofString "a") (x ^ Int.toNat 2)).length ≤ 49 := len_mul_one (c := 97) ha (by rw [hsq]; omega)
  have hl2 : (Txt.mul (Txt.item (Str.ofString "<>") W) y).length ≤ 15 := len_mul_one (c := wayC W) hw (by omega)
  have hpg : Txt.mul (Str.ofString "a") (x ^ Int.toNat 2) ++ Txt.mul (Txt.item (Str.ofString "<>") W) y = bare (x * x).toNat y.toNat (wayC W) := by rw [ha, hw, hsq]; exact mul_bare _ _ _
  revert X
  k_fill
  intro X
  have F1 := (pin (pin (pin (pin (pin ⟨F, rfl⟩ mx) my) mz) mw) mt).1
  conv in (lawB 2) => whnf
  conv in (lawB 3) => whnf
  k_steps
  rename News _ _ _ _ => N4
  have hok : ∀ d ∈ [Dat.tuple [.str (Str.ofString "host"), .int z], .tuple [.str (Str.ofString "host"), .int x], .tuple [.str (Str.ofString "host"), .int y]], kqdOk 8 d = true := by
    intro d hd
    simp only [List.mem_cons, List.not_mem_nil, or_false] at hd
    have hs : PyData.strOk (Str.ofString "host") = true := by decide +kernel
    rcases hd with rfl | rfl | rfl <;> simp [kqdOk, hs]
  refine Stop.go (kqd_ne (xs := [.ref a0, .ref a1, .ref a2]) (ys := [_, _, _]) (ds := [.tuple [.str (Str.ofString "host"), .int z], .tuple [.str (Str.ofString "host"), .int x], .tuple [.str (Str.ofString "host"), .int y]]) (es := [.tuple [.str (Str.ofString "host"), .int z], .tuple [.str (Str.ofString "host"), .int x], .tuple [.str (Str.ofString "host"), .int y]]) N4 (.tail _ (.tail _ (.tail _ (.tail _ (.head _))))) rfl rfl
    (.cons (.tuple (vs := [_, _]) (.tail _ (.tail _ (.tail _ (.tail _ (.tail _ (.tail _ (.tail _ (.head _)))))))) (.cons (.str _ _) (.cons (.int _ _) .nil))) (.cons (.tuple (vs := [_, _]) (.tail _ (.tail _ (.tail _ (.tail _ (.tail _ (.tail _ (.head _))))))) (.cons (.str _ _) (.cons (.int _ _) .nil))) (.cons (.tuple (vs := [_, _]) (.tail _ (.tail _ (.tail _ (.tail _ (.tail _ (.head _)))))) (.cons (.str _ _) (.cons (.int _ _) .nil))) .nil))) (fun _ h => h)
    (.head _) rfl rfl
    (.cons (.tuple (vs := [_, _]) (.tail _ (.tail _ (.tail _ (.head _)))) (.cons (.str _ _) (.cons (.int _ _) .nil))) (.cons (.tuple (vs := [_, _]) (.tail _ (.tail _ (.head _))) (.cons (.str _ _) (.cons (.int _ _) .nil))) (.cons (.tuple (vs := [_, _]) (.tail _ (.head _)) (.cons (.str _ _) (.cons (.int _ _) .nil))) .nil))) (fun _ h => h) hok hok (by ke_room) ?_)
  simp only [eq_self, decide_true, Bool.not_true]
  have N5 : News h₀ L _ _ := fun p hp => N4 p (.tail _ (.tail _ (.tail _ (.tail _ hp))))
  clear N4
  have hW0 : 0 ≤ W ∧ W < 2 := by omega
  k_steps
  rename Fr _ _ _ _ => F5
  rw [hpg] at F5
  rename News _ _ _ _ => N6
  exact K _ _ _ _ ((((((Same.refl.pin mx).pin my).pin mz).pin mw).pin mt).put ⟨"page", by decide, rfl⟩) rfl F5 N6
end
end Mine
end

section
theorem Mine.topOffQ3 : True := by
  w_top off
  trivial
open PySem PySem.W PyProof.Rows
set_option Elab.async false
set_option maxRecDepth 100000
set_option maxHeartbeats 1000000
namespace Mine
set_option linter.all false
def wayE (W : Int) : List Nat := if W = 0 then [108, 116, 59] else [103, 116, 59]
def pg (W : Int) (n y : Nat) : Nat → Str
  | 0 => bare n y (wayC W)
  | i + 1 => page n y i (wayE W)
theorem writ_any (w : World) (news : List (Addr × Obj)) (W : Int) (n y i : Nat) (hand : Int) (t0 t : Tok) (hW : W = 0 ∨ W = 1) (hh : 0 ≤ hand ∧ hand ≤ 4) (h0 : i = 0 → firstOk W hand) (hy : 0 < y) (hb : (bare n y (wayC W)).length ≤ 1000) (PP : ∀ k, k ≤ i → PageOk n y k (wayE W)) :
    CallTo w 121 news [.int hand t0, .str (pg W n y i) t] 40 400 (RetS news (pg W n y (i + 1))) := by
  cases i with
  | zero =>
    have hf := h0 rfl
    rcases hW with rfl | rfl
    · exact writ60 w news n y hand t0 t (hf.2.2.1 rfl) hy hb (PP 0 (Nat.le_refl _))
    · exact writ62 w news n y hand t0 t (hf.2.2.2 rfl) hy hb (PP 0 (Nat.le_refl _))
  | succ i => exact writ w news n y i (wayE W) hand t0 t hh (PP i (by omega)) (PP (i + 1) (Nat.le_refl _))
theorem range_z {z : Int} (hz : 1 ≤ z ∧ z ≤ 15) : Builtin.Range.small 0 z 1 = true ∧ Builtin.Range.rangeSize 0 z 1 = ((z.toNat : Nat) : Int) := by
  have h : z = 1 ∨ z = 2 ∨ z = 3 ∨ z = 4 ∨ z = 5 ∨ z = 6 ∨ z = 7 ∨ z = 8 ∨ z = 9 ∨ z = 10 ∨ z = 11 ∨ z = 12 ∨ z = 13 ∨ z = 14 ∨ z = 15 := by omega
  rcases h with rfl | rfl | rfl | rfl | rfl | rfl | rfl | rfl | rfl | rfl | rfl | rfl | rfl | rfl | rfl <;> decide
section
local macro_rules | `(tactic| walk_at "exec For Name Call cons nil") => `(tactic| (k_here; (rename Fr _ _ _ _ => lF'); (with_unfolding_all refine' For_turns lF' ?_; k_whole)))
local macro_rules | `(tactic| walk_at "call ref") => `(tactic| (k_here; k_dflt (refine' CallTo.use ?k1 ?k2 ?k3 ?k4 ?k5 ?kK (writ_any _ _ _ _ _ _ _ _ _ ?s1 ?s2 ?s3 ?s4 ?s5 ?s6) ?kd ?ku ?_; (case k1 => k_asm); (case k2 => k_asm); (case k3 => k_asm); (case k4 => k_asm); (case k5 => k_asm); (case kK => first | exact rfl | assumption); (case s1 => with_reducible assumption); (case s2 => with_reducible assumption); (case s3 => with_reducible assumption); (case s4 => with_reducible assumption); (case s5 => with_reducible assumption); (case s6 => with_reducible assumption); (case kd => ktr_room); (case ku => ktr_units); (intro t' h' tk' F' N'; (try dsimp only)))))
theorem sb45 (w : World) (mean : ExcName → Option Value) (mg mb : Str → Option Value) (h₀ : Heap) (L fa : Addr) (cd : Value) (s : Shared) (Q : Flow → Shared → Prop) (E : Value → Shared → Prop)
    (x y z W fi : Int) (tw tf tp : Tok) (D a0 a1 a2 lc : Addr) (ws : List Value) (cs : List Int) (c : Nat) (u0 v0 : Tok) (c0 cD : Nat) (m : Str → Option Value) (rest : List Stmt) (R : List (Addr × Obj)) (n yy : Nat)
    (hW : W = 0 ∨ W = 1) (hfi : firstOk W fi) (hz : 1 ≤ z ∧ z ≤ 15) (hyy : 0 < yy) (hb : (bare n yy (wayC W)).length ≤ 1000) (PP : ∀ k : Nat, (k : Int) < z → PageOk n yy k (wayE W))
    (hI : IntsAre ws cs) (h3 : cs.length = 3) (mc : m (Str.ofString "cells") = some (.ref lc))
    (mf : m (Str.ofString "first") = some (.int fi tf)) (mt : m (Str.ofString "told") = some (.ref D)) (mp : m (Str.ofString "page") = some (.str (bare n yy (wayC W)) tp))
    (B : Below callerA h₀ [] h₀) (F : Fr h₀ L s.heap m) (X : (hd.heap_1 w.params).In h₀) (T : Top view (looseW view []) mean mg mb h₀)
    (N : News h₀ L s.heap ((D, listOf #[.ref a0, .ref a1, .ref a2] cD) :: (a0, tupSI (Str.ofString "host") z u0 v0 c0) :: (lc, listOf ws.toArray c) :: R))
    (K : ∀ (tp : Tok) (m' : Str → Option Value) (h' : Heap) (tk : Nat), Same ["page", "hand", "layer"] m m' → m' (Str.ofString "page") = some (.str (pg W n yy z.toNat) tp) → Fr h₀ L h' m' → News h₀ L h' ((D, listOf #[.ref a0, .ref a1, .ref a2] cD) :: (a0, tupSI (Str.ofString "host") z u0 v0 c0) :: (lc, listOf ws.toArray c) :: R) →
      wpAny (model PySem.Challenge.rw_xj0017_01.row.prog w) (callerA.deeper (lawEnv L fa cd)) (execs rest (lawEnv L fa cd)) Q E { s with heap := h', toks := tk })
    (hE : PassesOwn (model PySem.Challenge.rw_xj0017_01.row.prog w) (callerA.deeper (lawEnv L fa cd)) (lawEnv L fa cd) E) :
    wpAny (model PySem.Challenge.rw_xj0017_01.row.prog w) (callerA.deeper (lawEnv L fa cd)) (execs (lawB 4 :: lawB 5 :: rest) (lawEnv L fa cd)) Q E s := by
  unfold tupSI at N K
  revert X
  k_fill
  intro X
  have F1 := (pin (pin (pin (pin ⟨F, rfl⟩ mc) mf) mt) mp).1
  conv in (lawB 4) => whnf
  conv in (lawB 5) => whnf
  k_steps
  rename IsRange _ _ _ _ _ _ _ _ => hr
  rename Fr _ _ _ _ => F2
  rename News _ _ _ _ => N2
  refine iter_rangeJ (n := z.toNat) (fun i m₁ nx => nx = (D, listOf #[.ref a0, .ref a1, .ref a2] cD) :: (a0, ({ cls := .type "tuple", data := .seq #[.str (Str.ofString "host") u0, .int z v0] c0 } : Obj)) :: (lc, listOf ws.toArray c) :: R ∧ (∃ hand th, m₁ (Str.ofString "hand") = some (.int hand th) ∧ (0 ≤ hand ∧ hand ≤ 4) ∧ (i = 0 → firstOk W hand)) ∧ (∃ tp, m₁ (Str.ofString "page") = some (.str (pg W n yy i) tp)) ∧ Same ["page", "hand", "layer"] m m₁) F2 N2 hr (range_z hz).1 (range_z hz).2 rfl ⟨rfl, ⟨fi, tf, rfl, ⟨hfi.1, hfi.2.1⟩, fun _ => hfi⟩, ⟨tp, rfl⟩, ?_⟩ (fun _ _ => rfl) ?_ ?_
  · exact ((((Same.refl.pin mc).pin mf).pin mt).pin mp).put ⟨"hand", by decide, rfl⟩
  · rintro i m₁ nx I oI h tk t hi ⟨rfl, ⟨hand, th, mh, hh, hf⟩, ⟨tq, mq⟩, hsame⟩ hne F₁ N₁
    have F2 : Fr h₀ L h _ := F₁
    have N2 : News h₀ L h _ := N₁
    have F3 := (pin (pin (pin ⟨F2, rfl⟩ (hsame.at mc (by decide))) mh) mq).1
    have hPP : ∀ k, k ≤ i → PageOk n yy k (wayE W) := fun k hk => PP k (by omega)
    clear F₁ N₁ F2 K
    have g0 := fmod_lo ((cs.getD (Int.toNat 1) 0).fdiv 8 + (0 + (i : Int) * 1)) (n := 5) (by decide)
    have g1 := fmod_hi ((cs.getD (Int.toNat 1) 0).fdiv 8 + (0 + (i : Int) * 1)) (n := 5) (by decide)
    k_steps
    rename Fr _ _ _ _ => F5
    rename News _ _ _ _ => N5
    exact EndJ.intro F5 N5 hne ⟨rfl, ⟨_, _, rfl, ⟨g0, by omega⟩, fun q => absurd q (Nat.succ_ne_zero i)⟩, ⟨_, rfl⟩, (((((hsame.pin mc).put ⟨"hand", by decide, rfl⟩).put ⟨"page", by decide, rfl⟩).put ⟨"layer", by decide, rfl⟩).put ⟨"page", by decide, rfl⟩).put ⟨"hand", by decide, rfl⟩⟩
  · rintro m₁ nx h tk ⟨rfl, _, ⟨tq, mq⟩, hsame⟩ F₁ N₁
    exact K tq m₁ h tk hsame mq F₁ N₁
end
end Mine
end

section
local macro_rules | `(tactic| walk_at "pad 0") => `(tactic| fail)
theorem Mine.topOffQ4 : True := by
  w_top off
  trivial
open PySem PySem.W PyProof.Rows
set_option Elab.async false
set_option maxRecDepth 100000
set_option maxHeartbeats 1000000
namespace Mine
set_option linter.all false
theorem fold_times (a : Array Nat) : ∀ (k : Nat) (acc : Array Nat), ((List.replicate k a).foldl (· ++ ·) acc).toList = acc.toList ++ times k a.toList
  | 0, acc => by simp [times]
  | k + 1, acc => by
    rw [List.replicate_succ, List.foldl_cons, fold_times a k, times_succ, Array.toList_append, List.append_assoc]
theorem mul_list (x : Str) (n : Int) : (Txt.mul x n).cps.toList = times n.toNat x.cps.toList := by
  unfold Txt.mul
  split
  · have : n.toNat = 0 := by omega
    rw [this]; simp [times, Str.empty]
  · split
    · rename_i h
      simp only [Bool.or_eq_true, beq_iff_eq] at h
      rcases h with h | h
      · subst h
        show x.cps.toList = times 1 x.cps.toList
        simp [times]
      · have hx : x.cps = #[] := Array.eq_empty_of_size_eq_zero h
        rw [hx]
        have : ∀ k, times k ([] : List Nat) = [] := fun k => by
          induction k with
          | zero => rfl
          | succ k ih => rw [times_succ, ih]; rfl
        exact (this _).symm
    · have := fold_times x.cps n.toNat #[]
      simpa using this
theorem due_is (n y : Int) (k : Nat) (z : Int) (hz : z = (k : Int) + 1) (e : List Nat) : Txt.mul (Str.ofString "a") n ++ Txt.mul (Str.ofString "&" ++ Txt.mul (Str.ofString "amp;") (z - 1) ++ ⟨e.toArray⟩) y = page n.toNat y.toNat k e := by
  have ha : Str.ofString "a" = ⟨#[97]⟩ := by decide
  have hb : Str.ofString "&" = ⟨#[38]⟩ := by decide
  have hc : Str.ofString "amp;" = ⟨#[97, 109, 112, 59]⟩ := by decide
  have hk : (z - 1).toNat = k := by omega
  apply str_eq
  rw [Str.cps_append, Array.toList_append, mul_list, mul_list, ha]
  simp only [Str.cps_append, Array.toList_append, mul_list, hb, hc, hk]
  unfold page ampS
  simp
def wayS (W : Int) : Str := if W = 0 then Str.ofString "lt;" else Str.ofString "gt;"
theorem wayS_is {W : Int} (hW : W = 0 ∨ W = 1) : wayS W = ⟨(wayE W).toArray⟩ := by
  rcases hW with rfl | rfl <;> decide
section
local macro_rules | `(tactic| walk_at "binaryOp Mult str int") => `(tactic| (refine SB.mul (by with_reducible assumption) ?_; intro _ _))
local macro_rules | `(tactic| walk_at "binaryOp Add str str") => `(tactic| k_dflt (refine' PyProof.Rows.add_str ?_ ?hsz; (case hsz => (simp only [Str.length_append, sizeLine_eq]; omega)); intro _ _))
theorem sb6 (w : World) (mean : ExcName → Option Value) (mg mb : Str → Option Value) (h₀ : Heap) (L fa : Addr) (cd : Value) (s : Shared) (Q : Flow → Shared → Prop) (E : Value → Shared → Prop)
    (x y z W : Int) (tx ty tz tw : Tok) (m : Str → Option Value) (rest : List Stmt) (R : List (Addr × Obj))
    (hW : W = 0 ∨ W = 1) (hx : 1 ≤ x ∧ x ≤ 7) (hy : 1 ≤ y ∧ y ≤ 15) (hz : 1 ≤ z ∧ z ≤ 15)
    (mx : m (Str.ofString "x") = some (.int x tx)) (my : m (Str.ofString "y") = some (.int y ty)) (mz : m (Str.ofString "z") = some (.int z tz)) (mw : m (Str.ofString "way") = some (.int W tw))
    (B : Below callerA h₀ [] h₀) (F : Fr h₀ L s.heap m) (X : (hd.heap_1 w.params).In h₀) (T : Top view (looseW view []) mean mg mb h₀)
    (N : News h₀ L s.heap R)
    (K : ∀ (tp : Tok) (m' : Str → Option Value) (h' : Heap) (tk : Nat), Same ["due"] m m' → m' (Str.ofString "due") = some (.str (pg W (x * x).toNat y.toNat z.toNat) tp) → Fr h₀ L h' m' → News h₀ L h' R →
      wpAny (model PySem.Challenge.rw_xj0017_01.row.prog w) (callerA.deeper (lawEnv L fa cd)) (execs rest (lawEnv L fa cd)) Q E { s with heap := h', toks := tk }) :
    wpAny (model PySem.Challenge.rw_xj0017_01.row.prog w) (callerA.deeper (lawEnv L fa cd)) (execs (lawB 6 :: rest) (lawEnv L fa cd)) Q E s := by
  have hsq := sq_toNat x
  have hx7 : x * x ≤ 49 := by
    have := Int.mul_le_mul hx.2 hx.2 (by omega) (by decide); simpa using this
  have hxx : 1 ≤ x * x := by
    have := Int.mul_le_mul hx.1 hx.1 (by decide) (by omega); simpa using this
  have ha : Str.ofString "a" = ⟨#[97]⟩ := by decide
  have hb1 : (Str.ofString "&").length = 1 := by decide
  have hb2 : (Str.ofString "lt;").length = 3 := by decide
  have hb3 : (Str.ofString "gt;").length = 3 := by decide
  have hb4 : (Str.ofString "amp;").length = 4 := by decide
  have hM1 : MulOk (Str.ofString "a") (x ^ Int.toNat 2) := mulOk_of 16 1000 (by decide) (by rw [hsq]; omega) (by rw [hsq]; omega) (by decide) (by decide)
  have hM2 : MulOk (Str.ofString "amp;") (z - 1) := mulOk_of 16 1000 (by decide) (by omega) (by omega) (by decide) (by decide)
  have hl1 : (Txt.mul (Str.ofString "a") (x ^ Int.toNat 2)).length ≤ 49 := len_mul_one (c := 97) ha (by rw [hsq]; omega)
  have hl2 : (Txt.mul (Str.ofString "amp;") (z - 1)).length ≤ 4 * 15 := len_mul_leN (by decide) (by omega)
  have hM3 : MulOk (Str.ofString "&" ++ Txt.mul (Str.ofString "amp;") (z - 1) ++ wayS W) y := mulOk_of 100 1000 (by
    rw [Str.length_append, Str.length_append]
    have : (wayS W).length = 3 := by rcases hW with rfl | rfl <;> decide
    omega) (by omega) (by omega) (by decide) (by decide)
  have hl3 : (Txt.mul (Str.ofString "&" ++ Txt.mul (Str.ofString "amp;") (z - 1) ++ wayS W) y).length ≤ 100 * 15 := len_mul_leN (by
    rw [Str.length_append, Str.length_append]
    have : (wayS W).length = 3 := by rcases hW with rfl | rfl <;> decide
    omega) (by omega)
  have hdue : Txt.mul (Str.ofString "a") (x ^ Int.toNat 2) ++ Txt.mul (Str.ofString "&" ++ Txt.mul (Str.ofString "amp;") (z - 1) ++ wayS W) y = pg W (x * x).toNat y.toNat z.toNat := by
    obtain ⟨k, hk⟩ : ∃ k : Nat, z = (k : Int) + 1 := ⟨(z - 1).toNat, by omega⟩
    have hzn : z.toNat = k + 1 := by omega
    rw [hzn, wayS_is hW, hsq]
    exact due_is (x * x) y k z hk (wayE W)
  have e0 : wayS 0 = Str.ofString "lt;" := rfl
  have e1 : wayS 1 = Str.ofString "gt;" := rfl
  revert X
  k_fill
  intro X
  have F1 := (pin (pin (pin (pin ⟨F, rfl⟩ mx) my) mz) mw).1
  conv in (lawB 6) => whnf
  rcases hW with rfl | rfl
  · rw [e0] at hM3 hl3 hdue
    k_steps
    rename Fr _ _ _ _ => F5
    rename News _ _ _ _ => N5
    rw [hdue] at F5
    exact K _ _ _ _ (((((Same.refl.pin mx).pin my).pin mz).pin mw).put ⟨"due", by decide, rfl⟩) rfl F5 (fun p hp => N5 p (.tail _ hp))
  · rw [e1] at hM3 hl3 hdue
    k_steps
    rename Fr _ _ _ _ => F5
    rename News _ _ _ _ => N5
    rw [hdue] at F5
    exact K _ _ _ _ (((((Same.refl.pin mx).pin my).pin mz).pin mw).put ⟨"due", by decide, rfl⟩) rfl F5 (fun p hp => N5 p (.tail _ hp))
end
end Mine
end

section
theorem Mine.topOffQ5 : True := by
  w_top off
  trivial
open PySem PySem.W PyProof.Rows PySem.Spec
set_option Elab.async false
set_option maxRecDepth 100000
set_option maxHeartbeats 1000000
namespace Mine
set_option linter.all false
section
local macro_rules | `(tactic| walk_at "loadName") => `(tactic| (k_here; k_dflt (refine' ldX_C ?N ?c ?m ?d ?_ ?a ?b; (case a => rfl); (case b => rfl); (case N => k_asm); (case c => rfl); (case m => k_mem); (case d => k_asm))))
theorem sb7 (w : World) (mean : ExcName → Option Value) (mg mb : Str → Option Value) (h₀ : Heap) (L fa : Addr) (cd : Value) (s : Shared) (Q : Flow → Shared → Prop) (E : Value → Shared → Prop) (o1 : Obj)
    (S : Int) (P : Str) (ts t1 t2 : Tok) (m : Str → Option Value) (rest : List Stmt) (R : List (Addr × Obj))
    (d1 : o1.data = .cell (some (.int S ts))) (hS : (P.length : Int) = S) (hP : P.length ≤ 1000)
    (mp : m (Str.ofString "page") = some (.str P t1)) (md : m (Str.ofString "due") = some (.str P t2))
    (B : Below callerA h₀ [] h₀) (F : Fr h₀ L s.heap m) (X : (hd.heap_1 w.params).In h₀) (T : Top view (looseW view []) mean mg mb h₀)
    (N : News h₀ L s.heap ((L + 1, o1) :: R))
    (K : ∀ (h' : Heap) (tk : Nat), Fr h₀ L h' m → News h₀ L h' ((L + 1, o1) :: R) →
      wpAny (model PySem.Challenge.rw_xj0017_01.row.prog w) (callerA.deeper (lawEnv L fa cd)) (execs rest (lawEnv L fa cd)) Q E { s with heap := h', toks := tk }) :
    wpAny (model PySem.Challenge.rw_xj0017_01.row.prog w) (callerA.deeper (lawEnv L fa cd)) (execs (lawB 7 :: rest) (lawEnv L fa cd)) Q E s := by
  revert X
  k_fill
  intro X
  have F1 := (pin (pin ⟨F, rfl⟩ mp) md).1
  have hpin := (pin (pin ⟨F, rfl⟩ mp) md).2
  conv in (lawB 7) => whnf
  k_steps
  · rename (P != P) = true => hh
    simp at hh
  · exact absurd hS (by assumption)
  · rename Fr _ _ _ _ => F5
    rename News _ _ _ _ => N5
    exact K _ _ (hpin ▸ F5) N5
end
theorem pg_ascii (W : Int) (n y i : Nat) (hW : W = 0 ∨ W = 1) : ∀ c ∈ (pg W n y i).cps.toList, c < 128 := by
  intro c hc
  cases i with
  | zero =>
    have h : c ∈ times n [97] ++ times y [wayC W] := by simpa [pg, bare] using hc
    rcases List.mem_append.mp h with h | h
    · have := mem_times h; simp at this; omega
    · have := mem_times h
      simp at this
      rcases hW with rfl | rfl <;> simp [wayC] at this <;> omega
  | succ i =>
    have h : c ∈ times n [97] ++ times y (38 :: (times i ampS ++ wayE W)) := by simpa [pg, page] using hc
    rcases List.mem_append.mp h with h | h
    · have := mem_times h; simp at this; omega
    · have := mem_times h
      rcases List.mem_cons.mp this with h | h
      · omega
      · rcases List.mem_append.mp h with h | h
        · have := mem_times h; simp [ampS] at this; omega
        · rcases hW with rfl | rfl <;> simp [wayE] at h <;> omega
end Mine
end

section
theorem Mine.topOffQ6 : True := by
  w_top off
  trivial
open PySem PySem.W PyProof.Rows PySem.Spec
set_option Elab.async false
set_option maxRecDepth 100000
set_option maxHeartbeats 1000000
namespace Mine
set_option linter.all false
theorem pg_ok (W : Int) (n y i : Nat) (hW : W = 0 ∨ W = 1) : PyData.strOk (pg W n y i) = true := by
  unfold PyData.strOk
  rw [Array.all_eq_true_iff_forall_mem]
  intro c hc
  have := pg_ascii W n y i hW c (by simpa using hc)
  simp; omega
theorem ne_tupSI {prog : Program} {w : World} {A : Around} {E : Value → Shared → Prop} {s : Shared} {h₀ : Heap} {L : Addr} {news : List (Addr × Obj)} {a b : Addr} {P : Str} {v : Int} {ka kb : Nat} {t1 t2 u1 u2 : Tok} {Q : Value → Shared → Prop} (N : News h₀ L s.heap news) (ma : (a, tupSI P v t1 t2 ka) ∈ news) (mb : (b, tupSI P v u1 u2 kb) ∈ news) (hP : PyData.strOk P = true)
    (hu : A.units + 64 < cLine) (h : Q (.bool false) s) : wpAny (model prog w) A (compareOp .NotEq (.ref a) (.ref b)) Q E s := by
  refine ne_dataH (reads_tuple_at (N.get ma) rfl rfl (.cons (Reads.str _ _) (.cons (Reads.int _ _) .nil))) (reads_tuple_at (N.get mb) rfl rfl (.cons (Reads.str _ _) (.cons (Reads.int _ _) .nil))) ?_ ?_ hu ?_
  · simp [SeqAt.shaped, PyData.canLay0, PyData.canLayAll0, PyData.depth, PyData.depthAll, hP]
  · simp [SeqAt.shaped, PyData.canLay0, PyData.canLayAll0, PyData.depth, PyData.depthAll, hP]
  · have e : PyData.eqv (.tuple [.str P, .int v]) (.tuple [.str P, .int v]) = true := by
      simp [PyData.eqv, PyData.eqvAll]
    rw [e]; exact h
section
local macro_rules | `(tactic| walk_at "loadName") => `(tactic| (k_here; k_dflt (refine' ldX_C ?N ?c ?m ?d ?_ ?a ?b; (case a => rfl); (case b => rfl); (case N => k_asm); (case c => rfl); (case m => k_mem); (case d => k_asm))))
local macro_rules | `(tactic| walk_at "binaryOp Mult int int") => `(tactic| k_dflt (refine' mul_bd (j := 70) (k := 130) ?a ?b ?c ?_; (case a => assumption); (case b => assumption); (case c => decide)))
local macro_rules | `(tactic| walk_at "call ref") => `(tactic| (k_here; k_dflt (refine' CallTo.use ?k1 ?k2 ?k3 ?k4 ?k5 ?kK (told _ _ _ _ _ _ _ _ _ _ _ _ _ _ _ ?sO ?sm) ?kd ?ku ?_; (case k1 => k_asm); (case k2 => k_asm); (case k3 => k_asm); (case k4 => k_asm); (case k5 => k_asm); (case kK => first | exact rfl | assumption); (case sm => k_mem); (case sO => with_reducible assumption); (case kd => ktr_room); (case ku => ktr_units); (intro D' t1' t2' c' h' tk' F' N' l1; (try dsimp only)))))
local macro_rules | `(tactic| walk_at "compareOp NotEq ref ref") => `(tactic| with_reducible refine Stop.out ?_)
theorem sb8 (w : World) (mean : ExcName → Option Value) (mg mb : Str → Option Value) (h₀ : Heap) (L fa : Addr) (cd : Value) (s : Shared) (Q : Flow → Shared → Prop) (E : Value → Shared → Prop) (o2 : Obj)
    (P : Str) (mk : Nat) (y z U : Int) (tm t1 ty tz tu : Tok) (m : Str → Option Value) (rest : List Stmt) (R : List (Addr × Obj))
    (d2 : o2.data = .cell (some (.str ⟨#[mk]⟩ tm))) (hmk : mk ∈ markList) (hPm : mk ∉ P.cps.toList) (hP41 : 41 ∉ P.cps.toList) (hP : P.length ≤ 1000) (hok : PyData.strOk P = true)
    (hy : 1 ≤ y ∧ y ≤ 15) (hz : 1 ≤ z ∧ z ≤ 15) (hU : 4096 ≤ U) (hU2 : U < 4096 + 10 ^ 30)
    (mp : m (Str.ofString "page") = some (.str P t1)) (my : m (Str.ofString "y") = some (.int y ty)) (mz : m (Str.ofString "z") = some (.int z tz)) (mu : m (Str.ofString "unit") = some (.int U tu))
    (B : Below callerA h₀ [] h₀) (F : Fr h₀ L s.heap m) (X : (hd.heap_1 w.params).In h₀) (T : Top view (looseW view []) mean mg mb h₀)
    (N : News h₀ L s.heap ((L + 2, o2) :: R))
    (K : ∀ (h' : Heap) (tk : Nat), Fr h₀ L h' m → News h₀ L h' ((L + 2, o2) :: R) →
      wpAny (model PySem.Challenge.rw_xj0017_01.row.prog w) (callerA.deeper (lawEnv L fa cd)) (execs rest (lawEnv L fa cd)) Q E { s with heap := h', toks := tk }) :
    wpAny (model PySem.Challenge.rw_xj0017_01.row.prog w) (callerA.deeper (lawEnv L fa cd)) (execs (lawB 8 :: rest) (lawEnv L fa cd)) Q E s := by
  have bz : Bd 70 z := by unfold Bd; omega
  have bU : Bd 130 U := by unfold Bd; omega
  have e1 : z * U ≤ 15 * U := Int.mul_le_mul_of_nonneg_right (by omega) (by omega)
  have e2 : 1 * U ≤ z * U := Int.mul_le_mul_of_nonneg_right (by omega) (by omega)
  have hzu : 0 ≤ z * U ∧ z * U < 10 ^ 40 := by omega
  have hO : FieldsOk mk P (numS y) (numS (z * U)) (z * U) := fieldsText hmk hPm hP41 (by omega) (by omega) (by omega) hzu.1 hzu.2
  unfold numS at hO
  revert X
  k_fill
  intro X
  have F1 := (pin (pin (pin (pin ⟨F, rfl⟩ mp) my) mz) mu).1
  have hpin := (pin (pin (pin (pin ⟨F, rfl⟩ mp) my) mz) mu).2
  conv in (lawB 8) => whnf
  k_steps
  rename News _ _ _ _ => N4
  refine Stop.go (ne_tupSI (P := P) (v := z * U) N4 (.tail _ (.head _)) (.head _) hok (by ke_room) ?_)
  have N5 : News h₀ L _ ((L + 2, o2) :: R) := fun p hp => N4 p (.tail _ (.tail _ (.tail _ hp)))
  clear N4
  k_steps
  rename Fr _ _ _ _ => F5
  exact K _ _ (hpin ▸ F5) N5
end
theorem CallToL.use {w : World} {f : Addr} {news : List (Addr × Obj)} {vs : List Value} {Ret : Heap → Addr → (Str → Option Value) → Shared → (Value → Shared → Prop) → Prop} {mean : ExcName → Option Value} {mg mb : Str → Option Value} {cn : Str} {ns : List (Str × NameKind)} {ig ic : Bool} {mr : List (Str × Const)} {a : Addr} {ccd : Value} {cl : List (Str × Addr)} {h₀ : Heap} {L : Addr} {m : Str → Option Value} {s : Shared} {Q E : Value → Shared → Prop}
    (B : Below callerA h₀ [] h₀) (F : Fr h₀ L s.heap m) (X : (hd.heap_1 w.params).In h₀) (N : News h₀ L s.heap news) (T : Top view (looseW view []) mean mg mb h₀) (C : CallToL w f news vs Ret) (hR : Ret h₀ L m s Q) :
    wpAny (model PySem.Challenge.rw_xj0017_01.row.prog w) (callerA.deeper (envX cn { kind := .function, names := ns, isGenerator := ig, isCoroutine := ic, more := mr } L a ccd cl)) (call (.ref f) vs) Q E s := C _ _ _ _ _ _ _ _ _ _ _ _ _ _ _ _ _ B F X N T hR
section
local macro_rules | `(tactic| walk_at "call ref") => `(tactic| with_reducible refine Stop.out ?_)
theorem sb9 (w : World) (mean : ExcName → Option Value) (mg mb : Str → Option Value) (h₀ : Heap) (L fa : Addr) (cd : Value) (s : Shared) (Q : Flow → Shared → Prop) (E : Value → Shared → Prop)
    (P : Str) (lk : Nat) (y z : Int) (tl t1 ty tz : Tok) (m : Str → Option Value) (rest : List Stmt) (R : List (Addr × Obj))
    (hlk : lk = 59 ∨ lk = 38) (hPl : lk ∈ P.cps.toList) (hP41 : 41 ∉ P.cps.toList) (hP : P.length ≤ 1000)
    (hy : 1 ≤ y ∧ y ≤ 15) (hz : 1 ≤ z ∧ z ≤ 15)
    (mp : m (Str.ofString "page") = some (.str P t1)) (my : m (Str.ofString "y") = some (.int y ty)) (mz : m (Str.ofString "z") = some (.int z tz)) (ml : m (Str.ofString "lent") = some (.str ⟨#[lk]⟩ tl))
    (B : Below callerA h₀ [] h₀) (F : Fr h₀ L s.heap m) (X : (hd.heap_1 w.params).In h₀) (T : Top view (looseW view []) mean mg mb h₀)
    (N : News h₀ L s.heap R)
    (K : ∀ (h' : Heap) (tk : Nat), Fr h₀ L h' m → News h₀ L h' R →
      wpAny (model PySem.Challenge.rw_xj0017_01.row.prog w) (callerA.deeper (lawEnv L fa cd)) (execs rest (lawEnv L fa cd)) Q E { s with heap := h', toks := tk }) :
    wpAny (model PySem.Challenge.rw_xj0017_01.row.prog w) (callerA.deeper (lawEnv L fa cd)) (execs (lawB 9 :: rest) (lawEnv L fa cd)) Q E s := by
  have hly := num_len (n := y) (by omega) (by omega)
  have hlz := num_len (n := z) (by omega) (by omega)
  have h41 : lk ≠ 41 := by omega
  have hn41 := mid3_no41 (f1 := P) (f2 := numS y) (f3 := numS z) h41 hP41 (no41_num (by omega)) (no41_num (by omega))
  have hlen : (mid3 lk P (numS y) (numS z)).length ≤ 4000 := by rw [mid3_len]; omega
  have hne := refused_ne (f2 := numS y) (f3 := numS z) hPl
  unfold numS at hn41 hlen hne
  revert X
  k_fill
  intro X
  have F1 := (pin (pin (pin (pin ⟨F, rfl⟩ mp) my) mz) ml).1
  have hpin := (pin (pin (pin (pin ⟨F, rfl⟩ mp) my) mz) ml).2
  conv in (lawB 9) => whnf
  k_steps
  rename Fr _ _ _ _ => F2
  rename News _ _ _ _ => N2
  refine Stop.go (CallToL.use B F2 X N2 T (refused w _ lk P P _ _ _ _ _ _ _ _ _ (.head _) hlen h41 hn41 hne) ?_)
  intro t' h' tk' F' N'
  dsimp only
  k_steps
  rename Fr _ _ _ _ => F5
  rename News _ _ _ _ => N5
  exact K _ _ (hpin ▸ F5) (fun p hp => N5 p (.tail _ hp))
end
end Mine
end

section
open PySem PySem.W PyProof.Rows PySem.Spec
set_option Elab.async false
set_option maxRecDepth 100000
set_option maxHeartbeats 4000000
namespace Mine
set_option linter.all false
def loopNames : List String := ["x", "y", "z", "told", "page", "hand", "layer", "due"]
theorem wayE_len {W : Int} (hW : W = 0 ∨ W = 1) : (wayE W).length = 3 := by rcases hW with rfl | rfl <;> rfl
theorem pageOk {W : Int} (hW : W = 0 ∨ W = 1) {n y : Nat} {z : Int} (hy : 1 ≤ y ∧ y ≤ 15) (hn : n ≤ 49) (hz : z ≤ 15) (k : Nat) (hk : (k : Int) < z) : PageOk n y k (wayE W) := by
  refine ⟨by omega, ?_, ?_⟩
  · intro c hc
    rcases hW with rfl | rfl <;> simp [wayE] at hc <;> rcases hc with rfl | rfl | rfl <;> simp
  · rw [page_len, wayE_len hW]
    have h1 : y * (1 + 4 * k + 3) ≤ 15 * (1 + 4 * k + 3) := Nat.mul_le_mul_right _ hy.2
    omega
theorem pg_len {W : Int} (hW : W = 0 ∨ W = 1) {x y z S : Int} (hx : 1 ≤ x ∧ x ≤ 7) (hy : 1 ≤ y ∧ y ≤ 15) (hz : 1 ≤ z ∧ z ≤ 15) (hS : x * x + 4 * y * z = S) : ((pg W (x * x).toNat y.toNat z.toNat).length : Int) = S := by
  obtain ⟨k, hk⟩ : ∃ k : Nat, z = (k : Int) + 1 := ⟨(z - 1).toNat, by omega⟩
  have hzn : z.toNat = k + 1 := by omega
  have hxx : 1 ≤ x * x := by
    have := Int.mul_le_mul hx.1 hx.1 (by decide) (by omega); simpa using this
  rw [hzn]
  show ((page (x * x).toNat y.toNat k (wayE W)).length : Int) = S
  rw [page_len, wayE_len hW, ← hS, hk]
  have e1 : (((x * x).toNat : Nat) : Int) = x * x := by omega
  have e2 : ((y.toNat : Nat) : Int) = y := by omega
  rw [Int.natCast_add, Int.natCast_mul, e1, e2]
  have : (((1 + 4 * k + 3 : Nat) : Nat) : Int) = 4 * ((k : Int) + 1) := by omega
  rw [this, Int.mul_comm 4 y, Int.mul_assoc]
theorem turn11 (w : World) (mean : ExcName → Option Value) (mg mb : Str → Option Value) (h₀ : Heap) (L fa : Addr) (cd : Value) (s : Shared) (Q : Flow → Shared → Prop) (E : Value → Shared → Prop) (o1 o2 o3 : Obj)
    (lc : Addr) (ws : List Value) (cs : List Int) (c : Nat) (x y z S U W fi : Int) (mk lk : Nat) (ts tu tw tf tm tl tx ty tz : Tok) (m : Str → Option Value) (R : List (Addr × Obj)) (v3 : Option Value)
    (hx : 1 ≤ x ∧ x ≤ 7) (hy : 1 ≤ y ∧ y ≤ 15) (hz : 1 ≤ z ∧ z ≤ 15) (hS : x * x + 4 * y * z = S) (hW : W = 0 ∨ W = 1) (hfi : firstOk W fi) (hmk : mk ∈ markList) (hlk : lk = 59 ∨ lk = 38) (hU : 4096 ≤ U) (hU2 : U < 4096 + 10 ^ 30)
    (d1 : o1.data = .cell (some (.int S ts))) (d2 : o2.data = .cell (some (.str ⟨#[mk]⟩ tm))) (d3 : o3.data = .cell v3)
    (hI : IntsAre ws cs) (h3 : cs.length = 3) (mc : m (Str.ofString "cells") = some (.ref lc))
    (mx : m (Str.ofString "x") = some (.int x tx)) (my : m (Str.ofString "y") = some (.int y ty)) (mz : m (Str.ofString "z") = some (.int z tz))
    (mw : m (Str.ofString "way") = some (.int W tw)) (mf : m (Str.ofString "first") = some (.int fi tf)) (mu : m (Str.ofString "unit") = some (.int U tu)) (ml : m (Str.ofString "lent") = some (.str ⟨#[lk]⟩ tl))
    (B : Below callerA h₀ [] h₀) (F : Fr h₀ L s.heap m) (X : (hd.heap_1 w.params).In h₀) (T : Top view (looseW view []) mean mg mb h₀)
    (N : News h₀ L s.heap ((L + 3, o3) :: R)) (hR : ∀ p ∈ R, p.1 ≠ L + 3) (r1 : (L + 1, o1) ∈ R) (r2 : (L + 2, o2) ∈ R) (rc : (lc, listOf ws.toArray c) ∈ R)
    (K : ∀ (o3 : Obj) (v3 : Option Value) (m' : Str → Option Value) (h' : Heap) (tk : Nat), o3.data = .cell v3 → Same loopNames m m' → Fr h₀ L h' m' → News h₀ L h' ((L + 3, o3) :: R) → Q .next { s with heap := h', toks := tk })
    (hE : PassesOwn (model PySem.Challenge.rw_xj0017_01.row.prog w) (callerA.deeper (lawEnv L fa cd)) (lawEnv L fa cd) E) :
    wpAny (model PySem.Challenge.rw_xj0017_01.row.prog w) (callerA.deeper (lawEnv L fa cd)) (execs bodyB (lawEnv L fa cd)) Q E s := by
  rw [bodyB_is]
  have hx7 : x * x ≤ 49 := by
    have := Int.mul_le_mul hx.2 hx.2 (by omega) (by decide); simpa using this
  have hxx : 1 ≤ x * x := by
    have := Int.mul_le_mul hx.1 hx.1 (by decide) (by omega); simpa using this
  have hPL := pg_len hW hx hy hz hS
  have hyy : 1 ≤ y.toNat ∧ y.toNat ≤ 15 := by omega
  have hPP : ∀ k : Nat, (k : Int) < z → PageOk (x * x).toNat y.toNat k (wayE W) := fun k hk => pageOk hW hyy (by omega) hz.2 k hk
  have hb : (bare (x * x).toNat y.toNat (wayC W)).length ≤ 1000 := by rw [bare_len]; omega
  have hzk : z.toNat = (z.toNat - 1) + 1 := by omega
  have hPok : PageOk (x * x).toNat y.toNat (z.toNat - 1) (wayE W) := hPP _ (by omega)
  have hPe : pg W (x * x).toNat y.toNat z.toNat = page (x * x).toNat y.toNat (z.toNat - 1) (wayE W) := by rw [hzk]; rfl
  have hPsh : (pg W (x * x).toNat y.toNat z.toNat).length ≤ 1000 := by rw [hPe]; exact hPok.short
  have hPm : mk ∉ (pg W (x * x).toNat y.toNat z.toNat).cps.toList := by
    rw [hPe]
    refine page_no hPok ?_
    simp [markList] at hmk ⊢
    omega
  have hP41 : 41 ∉ (pg W (x * x).toNat y.toNat z.toNat).cps.toList := by
    rw [hPe]
    exact page_no hPok (by decide)
  have hPl : lk ∈ (pg W (x * x).toNat y.toNat z.toNat).cps.toList := by
    rw [hPe]
    rcases hlk with rfl | rfl
    · have : 59 ∈ times (x * x).toNat [97] ++ times y.toNat (38 :: (times (z.toNat - 1) ampS ++ wayE W)) := by
        refine List.mem_append.mpr (.inr (mem_times' (by omega) (List.mem_cons_of_mem _ (List.mem_append.mpr (.inr ?_)))))
        rcases hW with rfl | rfl <;> decide
      simpa [page] using this
    · exact page_amp (by omega)
  have hPa := pg_ok W (x * x).toNat y.toNat z.toNat hW
  refine sb0 w mean mg mb h₀ L fa cd s Q E o3 x y z tx ty tz v3 m _ R d3 mx my mz hx hy hz B F X T N hR ?_
  intro lf o3' t1 t2 t3 hA tkA d3' FA NA hltA
  refine sb1 w mean mg mb h₀ L fa cd _ Q E o2 o3' x y z mk tm t1 t2 t3 lf m _ R hmk d2 d3' hx hy hz B FA X T (fun p hp => NA p ?_) ?_
  · simp only [List.mem_cons] at hp ⊢
    rcases hp with h | h | h | h
    · exact .inl h
    · exact .inr (.inl h)
    · exact .inr (.inr (h ▸ r2))
    · exact .inr (.inr h)
  intro D a0 a1 a2 u0 u1 u2 v0 v1 v2 c0 c1 c2 hB tkB FB NB
  have sB : Same loopNames m (fun y => if y = Str.ofString "told" then some (.ref D) else m y) := Same.refl.put ⟨"told", by decide, rfl⟩
  generalize hmB : (fun y => if y = Str.ofString "told" then some (Value.ref D) else m y) = mB at FB sB
  have mBt : mB (Str.ofString "told") = some (.ref D) := by rw [← hmB]; rfl
  have mBo : ∀ q, q ≠ Str.ofString "told" → mB q = m q := fun q hq => by rw [← hmB]; simp [hq]
  clear hmB
  refine sb23 w mean mg mb h₀ L fa cd _ Q E x y z W tx ty tz tw D a0 a1 a2 u0 u1 u2 v0 v1 v2 c0 c1 c2 mB _ _ hW hx hy hz ((mBo _ (by decide)).trans mx) ((mBo _ (by decide)).trans my) ((mBo _ (by decide)).trans mz) ((mBo _ (by decide)).trans mw) mBt B FB X T NB ?_
  intro tp mC hC tkC sC mCp FC NC
  refine sb45 w mean mg mb h₀ L fa cd _ Q E x y z W fi tw tf tp D a0 a1 a2 lc ws cs c u0 v0 c0 3 mC _ ((lf, listOf #[.str (numS x) t1, .str (numS y) t2, .str (numS z) t3] 0) :: (L + 3, o3') :: R) (x * x).toNat y.toNat hW hfi hz (by omega) hb hPP hI h3 (sC.at ((mBo _ (by decide)).trans mc) (by decide)) (sC.at ((mBo _ (by decide)).trans mf) (by decide)) (sC.at mBt (by decide)) mCp B FC X T (fun p hp => NC p ?_) ?_ hE
  · simp only [List.mem_cons] at hp ⊢
    rcases hp with h | h | h | h | h | h
    · exact .inl h
    · exact .inr (.inr (.inr (.inl h)))
    · exact .inr (.inr (.inr (.inr (.inr (.inr (.inr (h ▸ rc)))))))
    · exact .inr (.inr (.inr (.inr (.inl h))))
    · exact .inr (.inr (.inr (.inr (.inr (.inl h)))))
    · exact .inr (.inr (.inr (.inr (.inr (.inr (.inr h))))))
  intro tq mD hD tkD sD mDp FD ND
  have mDx : ∀ q v, m q = some v → q ≠ Str.ofString "told" → q ≠ Str.ofString "page" → q ≠ Str.ofString "hand" → q ≠ Str.ofString "layer" → mD q = some v := fun q v hq h1 h2 h3 h4 => by
    rw [sD q (fun x hx => by simp at hx; rcases hx with rfl | rfl | rfl <;> assumption), sC q (fun x hx => by simp at hx; subst hx; assumption), mBo q h1]; exact hq
  have N1 : News h₀ L hD ((L + 3, o3') :: R) := fun p hp => ND p (.tail _ (.tail _ (.tail _ (.tail _ hp))))
  refine sb6 w mean mg mb h₀ L fa cd _ Q E x y z W tx ty tz tw mD _ ((L + 3, o3') :: R) hW hx hy hz (mDx _ _ mx (by decide) (by decide) (by decide) (by decide)) (mDx _ _ my (by decide) (by decide) (by decide) (by decide)) (mDx _ _ mz (by decide) (by decide) (by decide) (by decide)) (mDx _ _ mw (by decide) (by decide) (by decide) (by decide)) B FD X T N1 ?_
  intro tr mE hEh tkE sE mEd FE NE
  refine sb7 w mean mg mb h₀ L fa cd _ Q E o1 S (pg W (x * x).toNat y.toNat z.toNat) ts tq tr mE _ ((L + 3, o3') :: R) d1 hPL hPsh (sE.at mDp (by decide)) mEd B FE X T (fun p hp => ?_) ?_
  · rcases List.mem_cons.mp hp with rfl | hp
    · exact NE _ (.tail _ r1)
    · exact NE _ hp
  intro hF tkF FF NF
  refine sb8 w mean mg mb h₀ L fa cd _ Q E o2 (pg W (x * x).toNat y.toNat z.toNat) mk y z U tm tq ty tz tu mE _ ((L + 3, o3') :: R) d2 hmk hPm hP41 hPsh hPa hy hz hU hU2 (sE.at mDp (by decide)) (sE.at (mDx _ _ my (by decide) (by decide) (by decide) (by decide)) (by decide)) (sE.at (mDx _ _ mz (by decide) (by decide) (by decide) (by decide)) (by decide)) (sE.at (mDx _ _ mu (by decide) (by decide) (by decide) (by decide)) (by decide)) B FF X T (fun p hp => ?_) ?_
  · rcases List.mem_cons.mp hp with rfl | hp
    · exact NF _ (.tail _ (.tail _ r2))
    · exact NF _ (.tail _ hp)
  intro hG tkG FG NG
  refine sb9 w mean mg mb h₀ L fa cd _ Q E (pg W (x * x).toNat y.toNat z.toNat) lk y z tl tq ty tz mE _ ((L + 3, o3') :: R) hlk hPl hP41 hPsh hy hz (sE.at mDp (by decide)) (sE.at (mDx _ _ my (by decide) (by decide) (by decide) (by decide)) (by decide)) (sE.at (mDx _ _ mz (by decide) (by decide) (by decide) (by decide)) (by decide)) (sE.at (mDx _ _ ml (by decide) (by decide) (by decide) (by decide)) (by decide)) B FG X T (fun p hp => NG _ (.tail _ hp)) ?_
  intro hH tkH FH NH
  refine wpAny_execs_nil ?_
  exact K o3' (some (.ref lf)) mE hH tkH d3' (((sB.trans (sC.mono (by decide))).trans (sD.mono (by decide))).trans (sE.mono (by decide))) FH NH
end Mine
end

section
local macro_rules | `(tactic| walk_at "pad 0") => `(tactic| fail)
theorem Mine.topOffQ8 : True := by
  w_top off
  trivial
open PySem PySem.W PyProof.Rows PySem.Spec
set_option Elab.async false
set_option maxRecDepth 100000
set_option maxHeartbeats 4000000
namespace Mine
set_option linter.all false
section
local macro_rules | `(tactic| walk_at "execs cons") => `(tactic| with_reducible refine Stop.out ?_)
theorem st11 (w : World) (mean : ExcName → Option Value) (mg mb : Str → Option Value) (h₀ : Heap) (L fa : Addr) (cd : Value) (s : Shared) (Q : Flow → Shared → Prop) (E : Value → Shared → Prop) (o1 o2 o3 : Obj)
    (lc lm : Addr) (ws vs : List Value) (cs : List Int) (c k : Nat) (S U W fi : Int) (mk lk : Nat) (ts tu tw tf tm tl : Tok) (m : Str → Option Value) (T' : List (Addr × Obj)) (v3 : Option Value) (rest : List Stmt)
    (hS : S ∈ sizes) (hW : W = 0 ∨ W = 1) (hfi : firstOk W fi) (hmk : mk ∈ markList) (hlk : lk = 59 ∨ lk = 38) (hU : 4096 ≤ U) (hU2 : U < 4096 + 10 ^ 30)
    (d1 : o1.data = .cell (some (.int S ts))) (d2 : o2.data = .cell (some (.str ⟨#[mk]⟩ tm))) (d3 : o3.data = .cell v3)
    (hI : IntsAre ws cs) (h3 : cs.length = 3) (mc : m (Str.ofString "cells") = some (.ref lc)) (mm : m (Str.ofString "mills") = some (.ref lm))
    (mw : m (Str.ofString "way") = some (.int W tw)) (mf : m (Str.ofString "first") = some (.int fi tf)) (mu : m (Str.ofString "unit") = some (.int U tu)) (ml : m (Str.ofString "lent") = some (.str ⟨#[lk]⟩ tl))
    (hlc : @LT.lt Nat _ (L + 3) lc) (hlm : @LT.lt Nat _ lc lm) (hT : ∀ p ∈ T', @LT.lt Nat _ lm p.1) (hD : DatAll T' vs ((millsTo S 4).map dat3))
    (B : Below callerA h₀ [] h₀) (F : Fr h₀ L s.heap m) (X : (hd.heap_1 w.params).In h₀) (T : Top view (looseW view []) mean mg mb h₀)
    (N : News h₀ L s.heap ((lm, listOf vs.toArray k) :: (L + 1, o1) :: (L + 2, o2) :: (L + 3, o3) :: (lc, listOf ws.toArray c) :: T'))
    (K : ∀ (m' : Str → Option Value) (h' : Heap) (tk : Nat), Same loopNames m m' → Fr h₀ L h' m' → News h₀ L h' ((lm, listOf vs.toArray k) :: (L + 1, o1) :: (lc, listOf ws.toArray c) :: T') →
      wpAny (model PySem.Challenge.rw_xj0017_01.row.prog w) (callerA.deeper (lawEnv L fa cd)) (execs rest (lawEnv L fa cd)) Q E { s with heap := h', toks := tk })
    (hE : PassesOwn (model PySem.Challenge.rw_xj0017_01.row.prog w) (callerA.deeper (lawEnv L fa cd)) (lawEnv L fa cd) E) :
    wpAny (model PySem.Challenge.rw_xj0017_01.row.prog w) (callerA.deeper (lawEnv L fa cd)) (execs (lawStmt 11 :: rest) (lawEnv L fa cd)) Q E s := by
  revert X
  k_fill
  intro X
  have F1 := (pin ⟨F, rfl⟩ mm).1
  have hpin := (pin ⟨F, rfl⟩ mm).2
  have hlenV : vs.length = (millsTo S 4).length := by simpa using hD.length
  have hRL : ∀ p ∈ (lm, listOf vs.toArray k) :: (L + 1, o1) :: (L + 2, o2) :: (lc, listOf ws.toArray c) :: T', p.1 ≠ L + 3 := by
    refine List.forall_mem_cons.mpr ⟨Nat.ne_of_gt (by omega), List.forall_mem_cons.mpr ⟨Nat.ne_of_lt (by omega), List.forall_mem_cons.mpr ⟨Nat.ne_of_lt (by omega), List.forall_mem_cons.mpr ⟨Nat.ne_of_gt hlc, fun p hp => ?_⟩⟩⟩⟩
    have := hT p hp
    exact Nat.ne_of_gt (by omega)
  generalize hRR : (lm, listOf vs.toArray k) :: (L + 1, o1) :: (L + 2, o2) :: (lc, listOf ws.toArray c) :: T' = R at hRL
  have rm : (lm, listOf vs.toArray k) ∈ R := by rw [← hRR]; exact .head _
  have r1 : (L + 1, o1) ∈ R := by rw [← hRR]; exact .tail _ (.head _)
  have r2 : (L + 2, o2) ∈ R := by rw [← hRR]; exact .tail _ (.tail _ (.head _))
  have rc : (lc, listOf ws.toArray c) ∈ R := by rw [← hRR]; exact .tail _ (.tail _ (.tail _ (.head _)))
  have rT : ∀ p ∈ T', p ∈ R := fun p hp => by rw [← hRR]; exact .tail _ (.tail _ (.tail _ (.tail _ hp)))
  have hb := millsBd S hS
  conv in (lawStmt 11) => whnf
  refine wpAny_execs_cons ?_
  refine For_listJ (J := fun i m₁ nx => ∃ (o3 : Obj) (v3 : Option Value), nx = (L + 3, o3) :: R ∧ o3.data = .cell v3 ∧ Same loopNames m m₁) (l := lm) (vs := vs) (k := k) (news := (L + 3, o3) :: R) F1 (fun p hp => N p ?_) (.tail _ rm) rfl ?_ ⟨o3, v3, rfl, d3, ?_⟩ ?_ ?_ (by intro _; rfl) hE
  · rcases List.mem_cons.mp hp with rfl | hp
    · exact .tail _ (.tail _ (.tail _ (.head _)))
    · rw [← hRR] at hp
      simp only [List.mem_cons] at hp ⊢
      rcases hp with h | h | h | h | h <;> simp [h]
  · k_steps
  · exact Same.refl.pin mm
  · rintro i v m₁ nx I oI h tk hv hl ⟨o3', v3', rfl, d3', hsame⟩ hne F₁ N₁
    have F2 : Fr h₀ L h _ := F₁
    have N2 : News h₀ L h _ := N₁
    clear F₁ N₁ F N F1 K
    have hi : i < (millsTo S 4).length := by rw [← hlenV]; exact (List.getElem?_eq_some_iff.mp hv).1
    have hd0 := datAll_get hD hi
    have ev : vs.getD i Value.none = v := by simp [List.getD, hv]
    rw [ev] at hd0
    have bb := hb ((millsTo S 4).getD i (0, 0, 0)) (by simp [List.getD, hi])
    generalize (millsTo S 4).getD i (0, 0, 0) = p at hd0 bb
    obtain ⟨t, a, b, c', n, rfl, hm⟩ := dat3_in hd0
    have N3 : News h₀ L h ((t, ({ cls := .type "tuple", data := .seq #[.int p.1 a, .int p.2.1 b, .int p.2.2 c'] n } : Obj)) :: (I, oI) :: (L + 3, o3') :: R) := fun q hq => by
      rcases List.mem_cons.mp hq with rfl | hq
      · exact N2 _ (.tail _ (.tail _ (rT _ hm)))
      · exact N2 _ hq
    k_steps
    rename Fr _ _ _ _ => F5
    rename News _ _ _ _ => N5
    have hs5 : Same loopNames m (fun y => if y = Str.ofString "z" then some (Value.int p.2.2 c') else if y = Str.ofString "y" then some (Value.int p.2.1 b) else if y = Str.ofString "x" then some (Value.int p.1 a) else m₁ y) := ((hsame.put ⟨"x", by decide, rfl⟩).put ⟨"y", by decide, rfl⟩).put ⟨"z", by decide, rfl⟩
    generalize hm5 : (fun y => if y = Str.ofString "z" then some (Value.int p.2.2 c') else if y = Str.ofString "y" then some (Value.int p.2.1 b) else if y = Str.ofString "x" then some (Value.int p.1 a) else m₁ y) = m5 at F5 hs5
    have mx5 : m5 (Str.ofString "x") = some (.int p.1 a) := by rw [← hm5]; rfl
    have my5 : m5 (Str.ofString "y") = some (.int p.2.1 b) := by rw [← hm5]; rfl
    have mz5 : m5 (Str.ofString "z") = some (.int p.2.2 c') := by rw [← hm5]; rfl
    refine Stop.go ?_
    show wpAny _ _ (execs bodyB (lawEnv L fa cd)) _ _ _
    refine turn11 w mean mg mb h₀ L fa cd _ _ E o1 o2 o3' lc ws cs c p.1 p.2.1 p.2.2 S U W fi mk lk ts tu tw tf tm tl a b c' m5 ((I, oI) :: R) v3' ⟨bb.1, bb.2.1⟩ ⟨bb.2.2.1, bb.2.2.2.1⟩ ⟨bb.2.2.2.2.1, bb.2.2.2.2.2.1⟩ bb.2.2.2.2.2.2 hW hfi hmk hlk hU hU2 d1 d2 d3' hI h3 (hs5.at mc (by decide)) mx5 my5 mz5 (hs5.at mw (by decide)) (hs5.at mf (by decide)) (hs5.at mu (by decide)) (hs5.at ml (by decide)) B F5 X T (fun q hq => N5 q ?_) ?_ (.tail _ r1) (.tail _ r2) (.tail _ rc) ?_ hE
    · show q ∈ _
      simp only [List.mem_cons] at hq ⊢
      rcases hq with h | h | h <;> simp [h]
    · refine List.forall_mem_cons.mpr ⟨(hne (L + 3, o3') (.head _)).symm, hRL⟩
    · intro o3'' v3'' m'' h'' tk'' d3'' sm F6 N6
      refine EndJ.intro F6 (nx := (L + 3, o3'') :: R) (fun q hq => N6 q ?_) ?_ ⟨.tail _ rm, o3'', v3'', rfl, d3'', ?_⟩
      · show q ∈ _
        simp only [List.mem_cons] at hq ⊢
        rcases hq with h | h | h <;> simp [h]
      · exact List.forall_mem_cons.mpr ⟨hne (L + 3, o3') (.head _), fun q hq => hne q (.tail _ hq)⟩
      · exact hs5.trans sm
  · rintro m₁ nx h tk ⟨o3', v3', rfl, d3', hsame⟩ hl F₁ N₁
    refine K m₁ h tk hsame F₁ (fun p hp => ?_)
    have hq : p ∈ (lm, listOf vs.toArray k) :: (L + 1, o1) :: (L + 2, o2) :: (lc, listOf ws.toArray c) :: T' := by
      simp only [List.mem_cons] at hp ⊢
      rcases hp with h | h | h | h <;> simp [h]
    rw [hRR] at hq
    exact N₁ p (.tail _ hq)
end
end Mine
end

section
open PySem PySem.W PyProof.Rows PySem.Spec
set_option Elab.async false
set_option maxRecDepth 100000
set_option maxHeartbeats 4000000
namespace Mine
set_option linter.all false
theorem lawDrop : lawBody.drop 2 = [lawStmt 2, lawStmt 3, lawStmt 4, lawStmt 5, lawStmt 6, lawStmt 7, lawStmt 8, lawStmt 9, lawStmt 10, lawStmt 11, lawStmt 12, lawStmt 13, lawStmt 14, lawStmt 15, lawStmt 16, lawStmt 17, lawStmt 18] := rfl
theorem lawAll (w : World) (mean : ExcName → Option Value) (mg mb : Str → Option Value) (h₀ : Heap) (L fa sc : Addr) (cd : Value) (ns : List Int) (vs : List Value) (s : Shared) (Q : Flow → Shared → Prop) (E : Value → Shared → Prop) (o1 o2 o3 : Obj)
    (B : Below callerA h₀ [] h₀) (F : Fr h₀ L s.heap (fun y => if y = Str.ofString "script" then some (.ref sc) else none)) (X : (hd.heap_1 w.params).In h₀) (T : Top view (looseW view []) mean mg mb h₀)
    (d1 : o1.data = .cell none) (d2 : o2.data = .cell none) (d3 : o3.data = .cell none)
    (N : News h₀ L s.heap [(L + 3, o3), (L + 2, o2), (L + 1, o1)]) (hl : h₀.IsList sc vs.toArray) (hi : IntsAre vs ns) (hE : PassesOwn (model PySem.Challenge.rw_xj0017_01.row.prog w) (callerA.deeper (lawEnv L fa cd)) (lawEnv L fa cd) E)
    (K : ∀ (m' : Str → Option Value) (h' : Heap) (tk : Nat), Fr h₀ L h' m' → Q (.ret (.bool true)) { s with heap := h', toks := tk }) :
    wpAny (model PySem.Challenge.rw_xj0017_01.row.prog w) (callerA.deeper (lawEnv L fa cd)) (execs lawBody (lawEnv L fa cd)) Q E s := by
  refine segA w mean mg mb h₀ L fa sc cd ns vs s Q E o1 o2 o3 B F X T N hl hi hE ?_
  intro lc ws cs c m0 hA tkA hlc hI h3 FA NA
  have hlc' : @LT.lt Nat _ (L + 3) lc := hlc
  rw [lawDrop]
  generalize hmA : (fun y => if y = Str.ofString "cells" then some (Value.ref lc) else if y = Str.ofString "script" then some (.ref sc) else m0 y) = mA at FA
  have mcA : mA (Str.ofString "cells") = some (.ref lc) := by rw [← hmA]; rfl
  clear hmA
  refine st23 w mean mg mb h₀ L fa cd _ Q E o1 o2 o3 lc ws cs c mA _ d1 mcA FA X T hlc' hI h3 NA ?_
  intro S ts o1' hB tkB hS d1' FB NB
  refine st4 w mean mg mb h₀ L fa cd _ Q E lc ws cs c mA _ _ mcA FB X T hI h3 NB ?_
  intro W tw m4 hC tkC hW s4 mw4 FC NC
  have mc4 := s4.at mcA (by decide)
  with_reducible refine st5 w mean mg mb h₀ L fa cd _ Q E lc ws cs c m4 _ _ W tw hW mc4 mw4 FC X T hI h3 NC ?_
  intro fi tf m5 hD tkD hfi s5 mf5 FD ND
  have mc5 := s5.at mc4 (by decide)
  have mw5 := s5.at mw4 (by decide)
  refine st6 w mean mg mb h₀ L fa cd _ Q E o1' o2 o3 lc ws cs c m5 _ d2 mc5 FD X T hlc' hI h3 ND ?_
  intro mk tm o2' hE' tkE hmk d2' FE NE
  refine st7 w mean mg mb h₀ L fa cd _ Q E lc ws cs c m5 _ _ mc5 FE X T hI h3 NE ?_
  intro lk tl m7 hF tkF hlk s7 ml7 FF NF
  have mc7 := s7.at mc5 (by decide)
  have mw7 := s7.at mw5 (by decide)
  have mf7 := s7.at mf5 (by decide)
  refine st8 w mean mg mb h₀ L fa cd _ Q E lc ws cs c m7 _ _ mc7 FF X T hI h3 NF ?_
  intro U lm tu m8 hG tkG hU hU2 s8 mu8 mm8 FG NG hltG
  have mc8 := s8.at mc7 (by decide)
  have mw8 := s8.at mw7 (by decide)
  have mf8 := s8.at mf7 (by decide)
  have ml8 := s8.at ml7 (by decide)
  have hlm' : @LT.lt Nat _ lc lm := hltG _ (.head _)
  refine st10 w mean mg mb h₀ L fa cd _ Q E o1' o2' o3 (listOf ws.toArray c) lc lm S U ts tu 0 m8 _ hS d1' hU hU2 mu8 mm8 B FG X T hlc hlm' (fun p hp => NG p ?_) ?_ hE
  · simp only [List.mem_cons, List.not_mem_nil, or_false] at hp ⊢
    rcases hp with h | h | h | h | h <;> simp [h]
  intro vm km TT m10 hH tkH s10 FH hDm NH hTT
  refine st11 w mean mg mb h₀ L fa cd _ Q E o1' o2' o3 lc lm ws vm cs c km S U W fi mk lk ts tu tw tf tm tl m10 TT none _ hS hW hfi hmk hlk hU hU2 d1' d2' d3 hI h3 (s10.at mc8 (by decide)) (s10.at mm8 (by decide)) (s10.at mw8 (by decide)) (s10.at mf8 (by decide)) (s10.at mu8 (by decide)) (s10.at ml8 (by decide)) hlc' hlm' hTT hDm B FH X T NH ?_ hE
  intro m11 hJ tkJ s11 FJ NJ
  have mm11 : m11 (Str.ofString "mills") = some (.ref lm) := s11.at (s10.at mm8 (by decide)) (by decide)
  have mu11 : m11 (Str.ofString "unit") = some (.int U tu) := s11.at (s10.at mu8 (by decide)) (by decide)
  refine st12 w mean mg mb h₀ L fa cd _ Q E lm S m11 _ vm km ((L + 1, o1') :: (lc, listOf ws.toArray c) :: TT) hS (hDm.mono fun p hp => .tail _ (.tail _ hp)) mm11 B FJ X T NJ ?_
  intro hK tkK FK NK
  refine st13 w mean mg mb h₀ L fa cd _ Q E o1' S ts m11 _ ((lm, listOf vm.toArray km) :: (lc, listOf ws.toArray c) :: TT) hS d1' B FK X T (fun p hp => NK p ?_) ?_
  · simp only [List.mem_cons] at hp ⊢
    rcases hp with h | h | h | h <;> simp [h]
  intro D1 ys1 k1 nx1 hM tkM FM NM sub1 in1 hW1
  generalize hm13 : (fun y => if y = Str.ofString "ways" then some (Value.ref D1) else m11 y) = m13 at FM
  have mm13 : m13 (Str.ofString "mills") = some (.ref lm) := by rw [← hm13]; exact mm11
  have mu13 : m13 (Str.ofString "unit") = some (.int U tu) := by rw [← hm13]; exact mu11
  have mw13 : m13 (Str.ofString "ways") = some (.ref D1) := by rw [← hm13]; rfl
  clear hm13
  have hD13 : DatAll ((D1, listOf ys1.toArray k1) :: nx1) vm ((millsTo S 4).map dat3) := hDm.mono fun p hp => .tail _ (sub1 p (.tail _ (.tail _ hp)))
  have hl13 : (lm, listOf vm.toArray km) ∈ (D1, listOf ys1.toArray k1) :: nx1 := .tail _ (sub1 _ (.head _))
  refine st14 w mean mg mb h₀ L fa cd _ Q E lm D1 S m13 _ vm ys1 km k1 ((D1, listOf ys1.toArray k1) :: nx1) hS hD13 (hW1.mono fun p hp => .tail _ hp) hl13 (.head _) mm13 mw13 B FM X T NM ?_
  intro hN tkN FN NN
  refine st16 w mean mg mb h₀ L fa cd _ Q E o1' S U ts tu m13 _ ((D1, listOf ys1.toArray k1) :: nx1) hS d1' hU hU2 (.tail _ in1) mu13 B FN X T NN ?_ hE
  intro lp vs2 k2 nx2 m16 hP tkP s16 mp16 FP NP in2 sub2 hD2
  refine st17 w mean mg mb h₀ L fa cd _ Q E lm S m16 _ vm km nx2 hS (hD13.mono sub2) (sub2 _ hl13) (s16.at mm13 (by decide)) B FP X T NP ?_
  intro D3 ys3 k3 nx3 hR tkR FR NR sub3 hD3
  generalize hm17 : (fun y => if y = Str.ofString "kept" then some (Value.ref D3) else m16 y) = m17 at FR
  have mp17 : m17 (Str.ofString "parts") = some (.ref lp) := by rw [← hm17]; exact mp16
  have mk17 : m17 (Str.ofString "kept") = some (.ref D3) := by rw [← hm17]; rfl
  refine st18 w mean mg mb h₀ L fa cd _ Q E o1' lp D3 S ts m17 [] vs2 ys3 k2 k3 ((D3, listOf ys3.toArray k3) :: nx3) hS d1' (.tail _ (sub3 _ (sub2 _ (.tail _ in1)))) (hD2.mono fun p hp => .tail _ (sub3 p hp)) (hD3.mono fun p hp => .tail _ hp) (.tail _ (sub3 _ in2)) (.head _) mp17 mk17 B FR X T NR ?_
  intro hS' tkS FS
  exact K _ _ _ FS
end Mine
end

section
theorem Mine.topOffZ2 : True := by
  w_top off
  trivial
open PySem PySem.W PyProof.Rows
set_option Elab.async false
set_option maxRecDepth 100000
set_option maxHeartbeats 4000000
local macro_rules | `(tactic| k_qdec) => `(tactic| decide +kernel)
theorem PySem.Challenge.cw_xj0017_01_holds : PySem.Challenge.rw_xj0017_01.Holds := by
  refine Mine.hd.2 (by
    unfold Mine.hd
    dsimp only
    k_go0
    rename Below _ _ _ _ => K0
    rename IntsAre _ _ => hI
    rename Heap.IsList _ _ _ => hL
    rename Fr _ _ _ _ => F
    rename News _ _ _ _ => N
    rename Top _ _ _ _ _ _ => T
    rename Frag.In _ _ => X
    rename_i tk o3 o2 o1 e3 e2 e1 _
    refine Mine.lawAll _ _ _ _ _ _ _ _ _ _ _ _ _ _ o1 o2 o3 K0 (Mine.fr_eq F ?_) X T ?_ ?_ ?_ N hL hI ?_ ?_
    · intro y
      first
        | rfl
        | (by_cases hy : y = Str.ofString "script"
           · subst hy; rfl
           · rw [if_neg hy]; simp [bindL, hy])
    · exact e1
    · exact e2
    · exact e3
    · passes_own
    · intro m2 h2 tk2 F2; dsimp only; wrow_close)
end

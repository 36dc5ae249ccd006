import PyProof.Rows.All
import Wide.All
import OpenK.AllK
import Wide.FinOn
import PySem.Challenge.RW_bb0001_01
open PySem PySem.W PyProof.Rows
set_option Elab.async false

/- Hd -/
section
open PySem PySem.W PyProof.Rows
namespace Mine
local macro_rules | `(tactic| o_head ($f $k $a $e)) => `(tactic| o_head (kmHook $k $a $e [52, 80, 88]))
set_option maxRecDepth 100000 in
set_option maxHeartbeats 8000000 in
open_top hd for PySem.Challenge.rw_bb0001_01
end Mine
end

/- the head has switched the walker to its rules for a top: back -/
theorem Mine.walk_plain : True := by
  w_top off
  trivial

/- Q0 -/
section
open PySem PySem.W PyProof.Rows PySem.Calls PySem.Spec
set_option linter.unusedVariables false
namespace Mine
section
variable {M : Model} {A : Around} {E : Value → Shared → Prop} {s : Shared} {K : Frag} {h₀ : Heap} {L a : Addr} {m mg mb : Str → Option Value} {cn : Str} {cs : Scope} {ccd : Value} {cl : List (Str × Addr)} {p : Program} {loose : List Str} {mean : ExcName → Option Value} {x : Str} {pos : Pos} {v : Value} {Q : Value → Shared → Prop} {news : List (Addr × Obj)} {c : Addr} {o : Obj}
/-- a local name; the kind first -/
theorem q_loc (hx : cs.names.lookup x = some .local) (hd : (x == ("__debug__" : Str)) = false) (hk : cs.kind = .function) (F : Fr h₀ L s.heap m) (hv : m x = some v) (h : Q v s) :
    wpAny M A (eval (.Name x pos) (envX cn cs L a ccd cl)) Q E s := nameX_L F hv h hk hx hd
theorem q_locF (F : Fr h₀ L s.heap m) (hv : m x = some v) (hx : cs.names.lookup x = some .local) (hd : (x == ("__debug__" : Str)) = false) (hk : cs.kind = .function) (h : Q v s) :
    wpAny M A (eval (.Name x pos) (envX cn cs L a ccd cl)) Q E s := nameX_L F hv h hk hx hd
theorem q_cell (hx : cs.names.lookup x = some .cell) (hd : (x == ("__debug__" : Str)) = false) (hk : cs.kind = .function) (N : News h₀ L s.heap news) (hc : cl.lookup x = some c) (hm : (c, o) ∈ news) (ho : o.data = .cell (some v)) (h : Q v s) :
    wpAny M A (eval (.Name x pos) (envX cn cs L a ccd cl)) Q E s := nameX_C N hc hm ho h hk hx hd
theorem q_glo (hx : cs.names.lookup x = some .globalImplicit) (hd : (x == ("__debug__" : Str)) = false) (hk : cs.kind = .function) (F : Fr h₀ L s.heap m) (X : K.In h₀) (T : TopRead p loose mg mb h₀) (e : nsIn K mainGlobals x = some (some v)) (h : Q v s) :
    wpAny M A (eval (.Name x pos) (envX cn cs L a ccd cl)) Q E s := nameX_K F X T e h hk hx hd
theorem q_blt (hx : cs.names.lookup x = some .globalImplicit) (hd : (x == ("__debug__" : Str)) = false) (hk : cs.kind = .function) (F : Fr h₀ L s.heap m) (X : K.In h₀) (T : TopRead p loose mg mb h₀) (e : nsIn K mainGlobals x = some none) (hv : bootBuiltins x = some v) (hn : x ≠ "__name__") (h : Q v s) :
    wpAny M A (eval (.Name x pos) (envX cn cs L a ccd cl)) Q E s := nameX_B F X T e hv hn h hk hx hd
theorem q_miss {x k : Str} {w r o : Option Value} (h : (x == k) = false) (h2 : r = o) : (if x = k then w else r) = o := by
  rw [if_neg (fun e => by rw [e] at h; simp at h)]; exact h2
theorem q_hit {x : Str} {w r : Option Value} : (if x = x then w else r) = w := if_pos rfl
theorem q_lmiss {x k : Str} {v : Value} {l : List (Str × Value)} {o : Option Value} (h : (x == k) = false) (h2 : l.lookup x = o) : ((k, v) :: l).lookup x = o := by
  rw [List.lookup_cons, h]; exact h2
theorem q_lhit {x : Str} {v : Value} {l : List (Str × Value)} : ((x, v) :: l).lookup x = some v := by
  rw [List.lookup_cons, beq_self_eq_true]
/-- a seal: «refine» does not look into what stands below it -/
structure Sealed (P : Prop) : Prop where
  out : P
theorem q_isn_int {prog : Program} {w : World} {n : Int} {u : Tok} {C : Addr} (X : K.In s.heap) (e : isNotIn K "int" C = true) (h : Q (.bool false) { s with toks := s.toks + 1 }) : Sealed (wpAny (model prog w) A (call (.builtin "isinstance") [.int n u, .ref C]) Q E s) :=
  ⟨isn_call (P := fun _ => True) X (fun _ => Looks.of_pure rfl) e (fun e => by cases e) trivial int_cls h⟩
theorem q_isi {prog : Program} {w : World} {x C C' dx : Addr} {od : Obj} (N : News h₀ L s.heap news) (hx : (x, instObj C' dx) ∈ news) (hd : (dx, od) ∈ news) (X : K.In s.heap) (e : isIn K (.ref C') C = true) (h : Q (.bool true) s) : Sealed (wpAny (model prog w) A (call (.builtin "isinstance") [.ref x, .ref C]) Q E s) :=
  ⟨isi_call X (fun _ => InstAt.type (InstAt.of_news N hx hd)) e (fun e => by cases e) h⟩
theorem ite_tb {c : Bool} {a b : Prop} {i : Decidable (c = true)} (hc : c = true) (h : a) : @ite Prop (c = true) i a b := by rw [if_pos hc]; exact h
theorem ite_fb {c : Bool} {a b : Prop} {i : Decidable (c = true)} (hc : c = false) (h : b) : @ite Prop (c = true) i a b := by rw [if_neg (by rw [hc]; exact Bool.false_ne_true)]; exact h
end
section
variable {M : Model} {A : Around} {E : Value → Shared → Prop} {s : Shared} {env : Env} {Q : Flow → Shared → Prop} {t1 t2 : List PySem.Expr} {v1 v2 c2 w2 : PySem.Expr} {p1 p2 : Pos} {rest b2 o2 : List Stmt} {r2 u2 : Option PySem.Expr} {op2 : Operator}
theorem q_sA (h : wpAny M A (execs (.Assign t1 v1 p1 :: .Assign t2 v2 p2 :: rest) env) Q E s) : wpAny M A (execs (.Assign t1 v1 p1 :: .Assign t2 v2 p2 :: rest) env) Q E s := h
theorem q_sI (h : wpAny M A (execs (.Assign t1 v1 p1 :: .If c2 b2 o2 p2 :: rest) env) Q E s) : wpAny M A (execs (.Assign t1 v1 p1 :: .If c2 b2 o2 p2 :: rest) env) Q E s := h
theorem q_sE (h : wpAny M A (execs (.Assign t1 v1 p1 :: .Expr v2 p2 :: rest) env) Q E s) : wpAny M A (execs (.Assign t1 v1 p1 :: .Expr v2 p2 :: rest) env) Q E s := h
theorem q_sR (h : wpAny M A (execs (.Assign t1 v1 p1 :: .Return r2 p2 :: rest) env) Q E s) : wpAny M A (execs (.Assign t1 v1 p1 :: .Return r2 p2 :: rest) env) Q E s := h
theorem q_sX (h : wpAny M A (execs (.Assign t1 v1 p1 :: .Raise r2 u2 p2 :: rest) env) Q E s) : wpAny M A (execs (.Assign t1 v1 p1 :: .Raise r2 u2 p2 :: rest) env) Q E s := h
theorem q_sG (h : wpAny M A (execs (.Assign t1 v1 p1 :: .AugAssign w2 op2 v2 p2 :: rest) env) Q E s) : wpAny M A (execs (.Assign t1 v1 p1 :: .AugAssign w2 op2 v2 p2 :: rest) env) Q E s := h
theorem q_sW (h : wpAny M A (execs (.Assign t1 v1 p1 :: .While c2 b2 o2 p2 :: rest) env) Q E s) : wpAny M A (execs (.Assign t1 v1 p1 :: .While c2 b2 o2 p2 :: rest) env) Q E s := h
end
end Mine
end

local macro_rules | `(tactic| walk_at "ite") => `(tactic| (k_closed; with_reducible first | refine Mine.ite_tb (by kernel_rfl!) ?_ | refine Mine.ite_fb (by kernel_rfl!) ?_))
local macro_rules | `(tactic| walk_at "eval Name") => `(tactic| (k_here; name_kind "local"; k_dflt (refine' Mine.q_loc ?x ?d ?k ?F ?v ?_; (case x => kernel_rfl!); (case d => kernel_rfl!); (case k => exact rfl); (case F => k_asm); (case v => rfl); k_whole)))
local macro_rules | `(tactic| walk_at "eval Name") => `(tactic| (k_here; name_kind "globalImplicit"; k_dflt (first | (refine' Mine.q_glo ?x ?d ?k ?F ?X ?T ?e ?_; (case F => k_asm); (case X => k_asm); (case T => k_asm); (case e => k_is); (case x => kernel_rfl!); (case d => kernel_rfl!); (case k => exact rfl); k_whole) | (refine' Mine.q_blt ?x ?d ?k ?F ?X ?T ?e ?v ?n ?_; (case F => k_asm); (case X => k_asm); (case T => k_asm); (case e => k_is); (case v => boot_fast); (case n => decide); (case x => kernel_rfl!); (case d => kernel_rfl!); (case k => exact rfl); k_whole))))
local macro_rules | `(tactic| walk_at "call builtin:isinstance") => `(tactic| (k_here; (with_reducible show wpAny _ _ (call _ [Value.int _ _, Value.ref _]) _ _ _); apply Mine.Sealed.out; k_dflt (refine' Mine.q_isn_int ?k1 ?k3 ?_; (case k1 => k_in); (case k3 => k_not); k_whole)))
local macro_rules | `(tactic| walk_at "call builtin:isinstance") => `(tactic| (k_here; (with_reducible show wpAny _ _ (call _ [Value.ref _, Value.ref _]) _ _ _); apply Mine.Sealed.out; k_dflt (refine' Mine.q_isi ?k0 ?m1 ?m2 ?k1 ?k3 ?_; (case k0 => k_asm); (case m1 => k_mem); (case m2 => k_mem); (case k1 => k_in); (case k3 => k_is); k_whole)))
local macro_rules | `(tactic| walk_at "execs cons Assign cons") => `(tactic| (k_here; (with_reducible first | refine Mine.q_sA ?_ | refine Mine.q_sI ?_ | refine Mine.q_sE ?_ | refine Mine.q_sR ?_ | refine Mine.q_sG ?_ | refine Mine.q_sW ?_ | refine Mine.q_sX ?_); (try k_gentoks); (with_reducible refine wpAny_execs_cons ?_); (try dsimp only)))
/- one table of rules for the whole file (the walker keeps it by the number of rules, and laying it anew costs some 40 ms a key): a section of its own states its lines under the words «own ..» -/
local macro_rules | `(tactic| walk_at "CalleeThen") => `(tactic| wtm_at "own CalleeThen")
local macro_rules | `(tactic| walk_at "CompSrc") => `(tactic| wtm_at "own CompSrc")
local macro_rules | `(tactic| walk_at "CompSrcT") => `(tactic| wtm_at "own CompSrcT")
local macro_rules | `(tactic| walk_at "TurnFree") => `(tactic| wtm_at "own TurnFree")
local macro_rules | `(tactic| walk_at "binaryOp Add str str") => `(tactic| wtm_at "own binaryOp Add str str")
local macro_rules | `(tactic| walk_at "binaryOp FloorDiv int int") => `(tactic| wtm_at "own binaryOp FloorDiv int int")
local macro_rules | `(tactic| walk_at "binaryOp Mult int ref") => `(tactic| wtm_at "own binaryOp Mult int ref")
local macro_rules | `(tactic| walk_at "call builtin:all") => `(tactic| wtm_at "own call builtin:all")
local macro_rules | `(tactic| walk_at "call builtin:any") => `(tactic| wtm_at "own call builtin:any")
local macro_rules | `(tactic| walk_at "call builtin:iter") => `(tactic| wtm_at "own call builtin:iter")
local macro_rules | `(tactic| walk_at "call builtin:len") => `(tactic| wtm_at "own call builtin:len")
local macro_rules | `(tactic| walk_at "call builtin:list.append") => `(tactic| wtm_at "own call builtin:list.append")
local macro_rules | `(tactic| walk_at "call builtin:max") => `(tactic| wtm_at "own call builtin:max")
local macro_rules | `(tactic| walk_at "call builtin:set.intersection") => `(tactic| wtm_at "own call builtin:set.intersection")
local macro_rules | `(tactic| walk_at "call builtin:sorted") => `(tactic| wtm_at "own call builtin:sorted")
local macro_rules | `(tactic| walk_at "call builtin:str.join") => `(tactic| wtm_at "own call builtin:str.join")
local macro_rules | `(tactic| walk_at "call ref") => `(tactic| wtm_at "own call ref")
local macro_rules | `(tactic| walk_at "call type:functools.partial") => `(tactic| wtm_at "own call type:functools.partial")
local macro_rules | `(tactic| walk_at "callWith ref") => `(tactic| wtm_at "own callWith ref")
local macro_rules | `(tactic| walk_at "callWith type:functools.partial") => `(tactic| wtm_at "own callWith type:functools.partial")
local macro_rules | `(tactic| walk_at "compareOp In") => `(tactic| wtm_at "own compareOp In")
local macro_rules | `(tactic| walk_at "compareOp In str ref") => `(tactic| wtm_at "own compareOp In str ref")
local macro_rules | `(tactic| walk_at "compareOp NotEq ref ref") => `(tactic| wtm_at "own compareOp NotEq ref ref")
local macro_rules | `(tactic| walk_at "compareOp NotIn") => `(tactic| wtm_at "own compareOp NotIn")
local macro_rules | `(tactic| walk_at "eval GeneratorExp") => `(tactic| wtm_at "own eval GeneratorExp")
local macro_rules | `(tactic| walk_at "eval Name") => `(tactic| wtm_at "own eval Name")
local macro_rules | `(tactic| walk_at "exec Assign cons ListComp") => `(tactic| wtm_at "own exec Assign cons ListComp")
local macro_rules | `(tactic| walk_at "exec For Name Attribute cons nil") => `(tactic| wtm_at "own exec For Name Attribute cons nil")
local macro_rules | `(tactic| walk_at "exec For Name Call cons nil") => `(tactic| wtm_at "own exec For Name Call cons nil")
local macro_rules | `(tactic| walk_at "exec For Name Name cons nil") => `(tactic| wtm_at "own exec For Name Name cons nil")
local macro_rules | `(tactic| walk_at "exec For Name Subscript cons nil") => `(tactic| wtm_at "own exec For Name Subscript cons nil")
local macro_rules | `(tactic| walk_at "exec For Tuple Name cons nil") => `(tactic| wtm_at "own exec For Tuple Name cons nil")
local macro_rules | `(tactic| walk_at "exec If") => `(tactic| wtm_at "own exec If")
local macro_rules | `(tactic| walk_at "exec Try") => `(tactic| wtm_at "own exec Try")
local macro_rules | `(tactic| walk_at "exec Try cons") => `(tactic| wtm_at "own exec Try cons")
local macro_rules | `(tactic| walk_at "exec While Name cons nil") => `(tactic| wtm_at "own exec While Name cons nil")
local macro_rules | `(tactic| walk_at "execs cons") => `(tactic| wtm_at "own execs cons")
local macro_rules | `(tactic| walk_at "execs cons Assign cons") => `(tactic| wtm_at "own execs cons Assign cons")
local macro_rules | `(tactic| walk_at "getMethod ref") => `(tactic| wtm_at "own getMethod ref")
local macro_rules | `(tactic| walk_at "inplaceOp Add") => `(tactic| wtm_at "own inplaceOp Add")
local macro_rules | `(tactic| walk_at "ite") => `(tactic| wtm_at "own ite")
local macro_rules | `(tactic| walk_at "loadName") => `(tactic| wtm_at "own loadName")
local macro_rules | `(tactic| walk_at "pyIter ref") => `(tactic| wtm_at "own pyIter ref")
local macro_rules | `(tactic| walk_at "setAttr ref") => `(tactic| wtm_at "own setAttr ref")
local macro_rules | `(tactic| walk_at "setItem ref int") => `(tactic| wtm_at "own setItem ref int")
local macro_rules | `(tactic| walk_at "storeName") => `(tactic| wtm_at "own storeName")
local macro_rules | `(tactic| walk_at "subscriptTail") => `(tactic| wtm_at "own subscriptTail")
local macro_rules | `(tactic| walk_at "subscriptTail Name Constant ref int") => `(tactic| wtm_at "own subscriptTail Name Constant ref int")
local macro_rules | `(tactic| walk_at "subscriptTail Name Slice ref ref") => `(tactic| wtm_at "own subscriptTail Name Slice ref ref")

/- Fr -/
section
open PySem PySem.W PyProof.Rows
namespace Mine

theorem gcd_mod (a b : Int) : Int.gcd a (b % a) = Int.gcd a b := by
  have e : b % a = b + (-(b / a)) * a := by
    rw [Int.emod_def, Int.neg_mul, Int.mul_comm a]; omega
  rw [e, Int.gcd_add_mul_right_right]
theorem fr_start (n d : Int) (h : 0 < d) : 0 < d * 1 ∧ 0 ≤ (n * 1).fmod (d * 1) ∧ Int.gcd (d * 1) ((n * 1).fmod (d * 1)) = Int.gcd n d ∧ d * 1 ≤ d ∧ (n * 1).fmod (d * 1) < d := by
  rw [Int.mul_one, Int.mul_one, Int.fmod_eq_emod_of_nonneg _ (Int.le_of_lt h)]
  refine ⟨h, Int.emod_nonneg _ (by omega), ?_, Int.le_refl _, Int.emod_lt_of_pos _ h⟩
  rw [gcd_mod, Int.gcd_comm]
theorem fr_turn (n d a b : Int) (h1 : 0 < a) (h2 : 0 ≤ b) (h3 : Int.gcd a b = Int.gcd n d) (h4 : a ≤ d) (h5 : b < d) (h6 : b ≠ 0) :
    0 < b ∧ 0 ≤ a.fmod b ∧ Int.gcd b (a.fmod b) = Int.gcd n d ∧ b ≤ d ∧ a.fmod b < d := by
  have hb : 0 < b := by omega
  rw [Int.fmod_eq_emod_of_nonneg _ h2]
  refine ⟨hb, Int.emod_nonneg _ h6, ?_, by omega, ?_⟩
  · rw [← h3, gcd_mod, Int.gcd_comm]
  · have := Int.emod_lt_of_pos a hb; omega
theorem fr_meas (a b : Int) (h2 : 0 ≤ b) (h6 : b ≠ 0) : (a.fmod b).toNat < b.toNat := by
  rw [Int.fmod_eq_emod_of_nonneg _ h2]
  have h1 := Int.emod_lt_of_pos a (show 0 < b by omega)
  have h3 := Int.emod_nonneg a h6
  omega
theorem fr_end (n d a b : Int) (h3 : Int.gcd a b = Int.gcd n d) (h1 : 0 < a) (hb : b = 0) (hd : 0 < d) :
    0 < (d * 1).fdiv a ∧ (n * 1).fdiv a * d = n * (d * 1).fdiv a ∧ (d * 1).fdiv a ≤ d ∧ ((n * 1).fdiv a).natAbs ≤ n.natAbs := by
  subst hb
  rw [Int.gcd_zero_right] at h3
  have ha : a = (Int.gcd n d : Int) := by omega
  rw [Int.mul_one, Int.mul_one, Int.fdiv_eq_ediv_of_nonneg _ (Int.le_of_lt h1), Int.fdiv_eq_ediv_of_nonneg _ (Int.le_of_lt h1)]
  obtain ⟨x, hx⟩ : a ∣ n := ha ▸ Int.gcd_dvd_left ..
  obtain ⟨y, hy⟩ : a ∣ d := ha ▸ Int.gcd_dvd_right ..
  have e1 : n / a = x := by rw [hx]; exact Int.mul_ediv_cancel_left _ (by omega)
  have e2 : d / a = y := by rw [hy]; exact Int.mul_ediv_cancel_left _ (by omega)
  rw [e1, e2]
  have hy0 : 0 < y := by
    rcases Int.lt_trichotomy y 0 with h | h | h
    · exfalso
      have : a * y < 0 := Int.mul_neg_of_pos_of_neg h1 h
      omega
    · exfalso; rw [h, Int.mul_zero] at hy; omega
    · exact h
  refine ⟨hy0, ?_, ?_, ?_⟩
  · rw [hx, hy, ← Int.mul_assoc, Int.mul_comm x a]
  · rw [hy]
    have : 1 * y ≤ a * y := Int.mul_le_mul_of_nonneg_right (by omega) (by omega)
    omega
  · rw [hx, Int.natAbs_mul]
    exact Nat.le_mul_of_pos_left _ (by omega)

theorem log60 {y : Int} (h0 : 0 < y) (h1 : y < 2 ^ 60) : y.natAbs.log2 < 9000 := by
  have hy : y.natAbs ≠ 0 := by omega
  have : y.natAbs.log2 < 60 := (Nat.log2_lt hy).mpr (by omega)
  omega
def Halt (P : Prop) : Prop := P
theorem Halt.intro {P : Prop} (h : Halt P) : P := h
theorem Halt.out {P : Prop} (h : P) : Halt P := h
local macro_rules | `(tactic| wtm_at "own exec While Name cons nil") => `(tactic| refine Halt.intro ?_)
local macro_rules | `(tactic| wtm_at "own ite") => `(tactic| (k_dflt (first | (refine PySem.W.ite_neg ?hc ?_; (case hc => simp only [beq_iff_eq, decide_eq_true_eq]; omega)) | (refine PySem.W.ite_pos ?hc ?_; (case hc => simp only [beq_iff_eq, decide_eq_true_eq]; omega)))))
local macro_rules | `(tactic| wtm_at "own binaryOp FloorDiv int int") => `(tactic| (k_here; (with_reducible refine floordiv_int ?kbe ?_ (Or.inl (PyProof.noPylong_of_log2 ?kbp))); (case kbe => omega); (case kbp => exact log60 (by omega) (by omega))))
set_option maxRecDepth 100000 in
set_option maxHeartbeats 2000000 in
theorem fr_new {p9 : Program} {lo9 : List Str} (w : World) (mean : ExcName → Option Value) (mg mb : Str → Option Value) (cn : Str) (cs : Scope) (a : Addr) (ccd : Value) (cl : List (Str × Addr)) (outer : List Env) (A₀ : Around) (base h₀ : Heap) (L : Addr) (m : Str → Option Value) (news : List (Addr × Obj)) (s : Shared)
   (Q E : Value → Shared → Prop) (n d : Int) (tn td : Tok)
   (B : Below A₀ base outer h₀) (F : Fr h₀ L s.heap m) (X : (hd.heap_39 w.params).In h₀) (N : News h₀ L s.heap news)
   (T : Top p9 lo9 mean mg mb h₀)
   (hk : cs.kind = .function) (hd0 : 0 < d) (hd1 : d < 2 ^ 60) (hn1 : n < 2 ^ 60) (hn0 : - 2 ^ 60 < n)
   (hret : ∀ x dx n' d' k1 t1 k2 t2 h' tk', 0 < d' → n' * d = n * d' → d' ≤ d → n'.natAbs ≤ n.natAbs → Fr h₀ L h' m → News h₀ L h' ((x, instObj 244 dx) :: (dx, dictOf [⟨PyData.keyHash w.params (Str.ofString "numerator"), .str (Str.ofString "numerator") k1, .int n' t1⟩, ⟨PyData.keyHash w.params (Str.ofString "denominator"), .str (Str.ofString "denominator") k2, .int d' t2⟩] 2) :: news) → (∀ p ∈ news, p.1 < dx) → dx < x → Q (.ref x) { s with heap := h', toks := tk' }) :
   wpAny (model PySem.Challenge.rw_bb0001_01.row.prog w) { handled := none, depth := 500, frames := some (envX cn cs L a ccd cl :: outer), guards := none, units := 100 } (call (.ref 244) [.int n tn, .int d td]) Q E s := by
  revert X
  k_fill
  intro X
  k_dflt (refine' call_cls ?k1 ?k2 ?k3 ?k4 ?k5 ?k6 ?_; (case k1 => k_asm); (case k2 => k_asm); (case k3 => k_asm); (case k4 => k_is); (case k5 => k_is); (case k6 => k_is); k_whole; intro x' d' h' F' N' l1 l2; have l1' := l1; have l2' := l2; (try k_lt l1); (try k_lt2 l2); (try k_sweep))
  k_dflt (refine' code_def ?k1 ?k2 ?k3 ?k4 ?k5 ?kA ?kF ?kK ?k6 ?k7 ?k8 ?k9 ?kB ?_ ?c2 ?c3 ?c4 ?c5; (case kA => exact rfl); (case kF => exact rfl); (case kK => assumption); (case k1 => k_asm); (case k2 => k_asm); (case k3 => k_asm); (case k4 => k_asm); (case k5 => k_asm); (case k6 => k_is); (case k7 => k_is); (case k8 => k_room); (case k9 => first | exact BindsTo.of_eq rfl | exact binds_K (by k_in) rfl (by k_is) rfl rfl rfl | fail "k_enter: no rule for these arguments"); (case c5 => decide); (case kB => exact locs rfl); (case c2 => exact rfl); (case c3 => exact rfl); (case c4 => exact rfl); k_whole; intro g' L' h' FG' F' N' B' X' T'; (try dsimp only); (try k_lift B'); (try k_fold))
  k_steps
  refine Halt.out ?_
  k_with_none
  k_with "state" => first | exact fr_start _ _ (by assumption) | exact fr_turn _ _ _ _ (by assumption) (by assumption) (by assumption) (by assumption) (by assumption) (by assumption)
  k_with "measure" => exact fr_meas _ _ (by assumption) (by assumption)
  k_while (fun _ a b => 0 < a ∧ 0 ≤ b ∧ Int.gcd a b = Int.gcd n d ∧ a ≤ d ∧ b < d) (fun _ _ b => b.toNat) "divisor" "rest"
  k_steps
  all_goals (first | (exfalso; omega) | skip)
  have z := fr_end n d _ _ (by assumption) (by assumption) (by assumption) hd0
  first
    | exact hret _ _ _ _ _ _ _ _ _ _ z.1 z.2.1 z.2.2.1 z.2.2.2 (by assumption) (cb_drop (by assumption) (fun p hp => hp)) l1' l2'
    | exact hret _ _ _ _ _ _ _ _ _ _ z.1 z.2.1 z.2.2.1 z.2.2.2 (by assumption) (cb_drop (by assumption) (fun p hp => .tail _ hp)) l1' l2'
    | exact hret _ _ _ _ _ _ _ _ _ _ z.1 z.2.1 z.2.2.1 z.2.2.2 (by assumption) (cb_drop (by assumption) (fun p hp => .tail _ (.tail _ hp))) l1' l2'
    | exact hret _ _ _ _ _ _ _ _ _ _ z.1 z.2.1 z.2.2.1 z.2.2.2 (by assumption) (cb_drop (by assumption) (fun p hp => .tail _ (.tail _ (.tail _ hp)))) l1' l2'
    | exact hret _ _ _ _ _ _ _ _ _ _ z.1 z.2.1 z.2.2.1 z.2.2.2 (by assumption) (cb_drop (by assumption) (fun p hp => .tail _ (.tail _ (.tail _ (.tail _ hp))))) l1' l2'
    | exact hret _ _ _ _ _ _ _ _ _ _ z.1 z.2.1 z.2.2.1 z.2.2.2 (by assumption) (cb_drop (by assumption) (fun p hp => .tail _ (.tail _ (.tail _ (.tail _ (.tail _ hp)))))) l1' l2'
    | exact hret _ _ _ _ _ _ _ _ _ _ z.1 z.2.1 z.2.2.1 z.2.2.2 (by assumption) (cb_drop (by assumption) (fun p hp => .tail _ (.tail _ (.tail _ (.tail _ (.tail _ (.tail _ hp))))))) l1' l2'
    | exact hret _ _ _ _ _ _ _ _ _ _ z.1 z.2.1 z.2.2.1 z.2.2.2 (by assumption) (cb_drop (by assumption) (fun p hp => .tail _ (.tail _ (.tail _ (.tail _ (.tail _ (.tail _ (.tail _ hp)))))))) l1' l2'
end Mine
end

/- B1 -/
section
open PySem PySem.W PyProof.Rows
namespace Mine

theorem wp_weaken {α : Type} {M : Model} {A A' : Around} {t : Sem α} {Q : α → Shared → Prop} {E : Value → Shared → Prop} {s : Shared} (hh : A.handled = A'.handled) (hd : A.depth ≤ A'.depth) (hf : A'.frames = none ∨ A.frames = A'.frames) (hg : A'.guards = none ∨ A.guards = A'.guards)
    (hu : A.units ≤ A'.units) (h : wpAny M A' t Q E s) : wpAny M A t Q E s := fun Γ p hΓ => h Γ p ⟨hΓ.1.trans hh, Nat.le_trans hΓ.2.1 hd, fun l hl => hΓ.2.2.1 l (hf.elim (fun e => by rw [e] at hl; cases hl) fun e => e.trans hl), fun g hl => hΓ.2.2.2.1 g (hg.elim (fun e => by rw [e] at hl; cases hl) fun e => e.trans hl), Nat.le_trans hΓ.2.2.2.2 hu⟩

theorem fr_use {w : World} {mean : ExcName → Option Value} {mg mb : Str → Option Value} {cn : Str} {cs : Scope} {a : Addr} {ccd : Value} {cl : List (Str × Addr)} {outer : List Env} {A A₀ : Around} {base h₀ : Heap} {L : Addr} {m : Str → Option Value} {news : List (Addr × Obj)} {s : Shared}
   {Q E : Value → Shared → Prop} {n d : Int} {tn td : Tok}
   (hh : A.handled = none) (hdp : A.depth ≤ 500) (hfr : A.frames = some (envX cn cs L a ccd cl :: outer)) (hun : A.units ≤ 100)
   (B : Below A₀ base outer h₀) (F : Fr h₀ L s.heap m) (X : (hd.heap_39 w.params).In h₀) (N : News h₀ L s.heap news)
   (T : Top p9 lo9 mean mg mb h₀)
   (hk : cs.kind = .function) (hd0 : 0 < d) (hd1 : d < 2 ^ 60) (hn1 : n < 2 ^ 60) (hn0 : - 2 ^ 60 < n)
   (hret : ∀ x dx n' d' k1 t1 k2 t2 h' tk', 0 < d' → n' * d = n * d' → d' ≤ d → n'.natAbs ≤ n.natAbs → Fr h₀ L h' m → News h₀ L h' ((x, instObj 244 dx) :: (dx, dictOf [⟨PyData.keyHash w.params (Str.ofString "numerator"), .str (Str.ofString "numerator") k1, .int n' t1⟩, ⟨PyData.keyHash w.params (Str.ofString "denominator"), .str (Str.ofString "denominator") k2, .int d' t2⟩] 2) :: news) → (∀ p ∈ news, p.1 < dx) → dx < x → Q (.ref x) { s with heap := h', toks := tk' }) :
   wpAny (model PySem.Challenge.rw_bb0001_01.row.prog w) A (call (.ref 244) [.int n tn, .int d td]) Q E s :=
  wp_weaken hh hdp (.inr hfr) (.inl rfl) hun (fr_new w mean mg mb cn cs a ccd cl outer A₀ base h₀ L m news s Q E n d tn td B F X N T hk hd0 hd1 hn1 hn0 hret)
end Mine
end

/- Sep -/
section
open PySem PySem.W PyProof.Rows PySem.Calls PySem.Spec
set_option linter.unusedVariables false
namespace Mine
/-- the addresses of a ledger all differ -/
def Sep (l : List (Addr × Obj)) : Prop := (l.map (·.1)).Nodup
theorem Sep.nil : Sep [] := List.nodup_nil
theorem Sep.cons {p : Addr × Obj} {l : List (Addr × Obj)} (h : ∀ q ∈ l, q.1 ≠ p.1) (r : Sep l) : Sep (p :: l) := by
  refine List.nodup_cons.mpr ⟨fun hm => ?_, r⟩
  obtain ⟨q, hq, e⟩ := List.mem_map.mp hm
  exact h q hq e
theorem Sep.ne {p : Addr × Obj} {l : List (Addr × Obj)} (h : Sep (p :: l)) : ∀ q ∈ l, q.1 ≠ p.1 := fun q hq e =>
  (List.nodup_cons.mp h).1 (List.mem_map.mpr ⟨q, hq, e⟩)
theorem Sep.tail {p : Addr × Obj} {l : List (Addr × Obj)} (h : Sep (p :: l)) : Sep l := (List.nodup_cons.mp h).2
theorem Sep.perm {l l' : List (Addr × Obj)} (h : Sep l) (p : (l'.map (·.1)).Perm (l.map (·.1))) : Sep l' := p.nodup_iff.mpr h
/-- a ledger whose objects are exchanged, address by address -/
theorem Sep.same {l l' : List (Addr × Obj)} (h : Sep l) (e : l'.map (·.1) = l.map (·.1)) : Sep l' := by unfold Sep at *; rw [e]; exact h
theorem Sep.sub {l l' : List (Addr × Obj)} (h : Sep l) (e : List.Sublist l' l) : Sep l' := List.Nodup.sublist (e.map _) h
theorem Sep.append_right {l l' : List (Addr × Obj)} (h : Sep (l ++ l')) : Sep l' := h.sub (List.sublist_append_right ..)
theorem allLt_mem {d : Addr} : ∀ {l : List (Addr × Obj)}, AllLt d l → ∀ p ∈ l, p.1 < d
  | [], _, _, h => nomatch h
  | _ :: _, x, p, h => by
    rcases List.mem_cons.mp h with rfl | h
    · exact x.1
    · exact allLt_mem x.2 p h
theorem gnNe_mem {d : Addr} : ∀ {l : List (Addr × Obj)}, GnNe d l → ∀ p ∈ l, p.1 ≠ d
  | [], _, _, h => nomatch h
  | _ :: _, x, p, h => by
    rcases List.mem_cons.mp h with rfl | h
    · exact x.1
    · exact gnNe_mem x.2 p h
theorem off1_mem {d : Addr} : ∀ {l : List (Addr × Obj)}, LCg.Off1 d l → ∀ p ∈ l, p.1 ≠ d
  | [], _, _, h => nomatch h
  | _ :: _, x, p, h => by
    rcases List.mem_cons.mp h with rfl | h
    · exact x.1
    · exact off1_mem x.2 p h
end Mine
end

/- Set1 -/
section
open PySem PySem.W PyProof.Rows
set_option linter.unusedVariables false
namespace Mine
/-- the sixteen sets of candidates below 4, each rising -/
def subs : List (List Nat) := [[], [0], [1], [0,1], [2], [0,2], [1,2], [0,1,2], [3], [0,3], [1,3], [0,1,3], [2,3], [0,2,3], [1,2,3], [0,1,2,3]]
def ins (k : Nat) : List Nat → List Nat
  | [] => [k]
  | j :: r => if k < j then k :: j :: r else if k = j then j :: r else j :: ins k r
def upd (tk : Nat → Tok) (k : Nat) (t : Tok) : Nat → Tok := fun j => if j = k then t else tk j
def esOf (ks : List Nat) (tk : Nat → Tok) : Array (Int × Value) := (ks.map fun (k : Nat) => ((k : Int), Value.int (k : Int) (tk k))).toArray
def tabS (ks : List Nat) (led : Bool) : SetTable := { mask := 7, place := ks.toArray, dummies := #[], finger := 0, led, moves := 0, plain := true }
theorem ins_subs : ∀ ks ∈ subs, ∀ k, k < 4 → ins k ks ∈ subs := by decide
theorem fits_subs (led : Bool) : ∀ ks ∈ subs, ∀ tk, (tabS ks led).fits (esOf ks tk).size = true := by
  intro ks h tk
  have e : (esOf ks tk).size = ks.length := by simp [esOf]
  rw [e]
  clear e tk
  revert ks
  cases led <;> decide
theorem full_subs (led : Bool) : ∀ ks ∈ subs, (tabS ks led).tooFull = false := by cases led <;> decide
theorem lt4_subs : ∀ ks ∈ subs, ∀ k ∈ ks, k < 4 := by decide
theorem sz_subs : ∀ ks ∈ subs, ks.length ≤ 4 := by decide
theorem hashInt_small : ∀ k : Nat, k < 4 → hashInt (k : Int) = (k : Int) := by decide
theorem lay_eq (tk : Nat → Tok) (led : Bool) (t : Tok) (ks : List Nat) (h : ks ∈ subs) (k : Nat) (hk : k < 4) (hn : k ∉ ks) :
    layNew (tabS ks led) (esOf ks tk) (k : Int) (.int (k : Int) t) = (esOf (ins k ks) (upd tk k t), tabS (ins k ks) led, false, false) := by
  have hk' : k = 0 ∨ k = 1 ∨ k = 2 ∨ k = 3 := by omega
  simp only [subs, List.mem_cons, List.not_mem_nil, or_false] at h
  rcases h with rfl | rfl | rfl | rfl | rfl | rfl | rfl | rfl | rfl | rfl | rfl | rfl | rfl | rfl | rfl | rfl <;> rcases hk' with rfl | rfl | rfl | rfl <;> first | (exfalso; exact hn (by decide)) | kernel_rfl
theorem elems_subs {prog : Program} {w : World} (tk : Nat → Tok) (ks : List Nat) (h : ks ∈ subs) : ElemsOf (intKind prog w) (esOf ks tk).toList := by
  intro e he
  simp only [esOf, List.mem_map] at he
  obtain ⟨k, hk, rfl⟩ := he
  exact ⟨⟨k, intKind_is _ _ _ _, (hashInt_small k (lt4_subs ks h k hk)).symm⟩, rfl⟩
theorem find_subs {prog : Program} {w : World} (tk : Nat → Tok) (ks : List Nat) (k : Nat) : ((esOf ks tk).toList.findIdx? (fun e => (intKind prog w).is (k : Int) e.2)).isSome = decide (k ∈ ks) := by
  rw [Bool.eq_iff_iff, List.findIdx?_isSome, List.any_eq_true, decide_eq_true_eq]
  simp only [esOf, List.mem_map]
  constructor
  · rintro ⟨e, ⟨j, hj, rfl⟩, he⟩
    have : (k : Int) = (j : Int) := by
      have := he
      simp [intKind, Value.isInt] at this
      omega
    have : k = j := by omega
    exact this ▸ hj
  · intro hk
    exact ⟨_, ⟨k, hk, rfl⟩, intKind_is _ _ _ _⟩
section
variable {prog : Program} {w : World} {A : Around} {E : Value → Shared → Prop} {s : Shared}
theorem cs_add {a : Addr} {o : Obj} {ks : List Nat} {tk : Nat → Tok} {ep : Nat} {led : Bool} {k : Nat} {t : Tok} {Q : Bool → Shared → Prop} (ho : s.heap.get? a = some o) (hd : o.data = .set (esOf ks tk) ep (tabS ks led)) (hs : ks ∈ subs) (hk : k < 4) (hn : k ∉ ks)
    (h : ∀ h', Heap.SameBut a s.heap h' → h'.get? a = some { o with data := .set (esOf (ins k ks) (upd tk k t)) (ep + 1) (tabS (ins k ks) led) } → Q true { s with heap := h' }) :
    wpAny (model prog w) A (setAddHashed a (.int (k : Int) t) (k : Int)) Q E s := by
  have hf := fits_subs led ks hs tk
  have hel := elems_subs (prog := prog) (w := w) tk ks hs
  have hz : (esOf ks tk).size ≤ 4 := by have := sz_subs ks hs; simpa [esOf] using this
  unfold setAddHashed setAddHashedIn
  refine wpAny_holding (wpAny_bind (wpAny_setState_of ho hd hf ?_))
  dsimp only
  rw [byScan_of (knd := intKind prog w) rfl (by unfold scanBound; omega) hel]
  simp only [↓reduceIte]
  unfold setAddByScan
  refine wpAny_bind (wpAny_bind (wpAny_rule (wpAny_bind ?_)))
  have hfi := find_subs (prog := prog) (w := w) tk ks k
  rw [decide_eq_false hn] at hfi
  have hfn : (esOf ks tk).toList.findIdx? (fun e => (intKind prog w).is (k : Int) e.2) = none := by
    cases q : (esOf ks tk).toList.findIdx? (fun e => (intKind prog w).is (k : Int) e.2) with
    | none => rfl
    | some j => rw [q] at hfi; cases hfi
  have hh : (intKind prog w).hash (k : Int) = (k : Int) := hashInt_small k hk
  have sc : ∀ {Q' : ScanMet → Shared → Prop}, Q' .absent s → wpAny (model prog w) A (setScan a (.int (k : Int) t) (k : Int) true (esOf ks tk)) Q' E s := fun {Q'} hq => by
    have z := wpAny_setScan_of (A := A) (E := E) (adding := true) (Q := Q') (x := .int (k : Int) t) (k := (k : Int)) (knd := intKind prog w) (intKind_is _ _ _ _) ho hd hf hel (by rw [hfn]; exact hq)
    rw [hh] at z
    exact z
  refine sc ?_
  dsimp only
  rw [lay_eq tk led t ks hs k hk hn]
  dsimp only
  refine wpAny_bind (wpAny_pure ?_)
  refine wpAny_bind (wpAny_pure ?_)
  have hz' : (esOf (ins k ks) (upd tk k t)).size ≤ sizeLine := by
    have := sz_subs _ (ins_subs ks hs k hk)
    have e : (esOf (ins k ks) (upd tk k t)).size = (ins k ks).length := by simp [esOf]
    rw [e, sizeLine_eq]; omega
  have hfull := full_subs led _ (ins_subs ks hs k hk)
  refine wpAny_bind (wpAny_storeSet_of ho hd ?_ hz')
  have hu := Heap.SameBut.update s.heap a (Obj.putSet (esOf (ins k ks) (upd tk k t)) (tabS (ins k ks) led))
  have hg : (s.heap.update a (Obj.putSet (esOf (ins k ks) (upd tk k t)) (tabS (ins k ks) led))).get? a = some { o with data := .set (esOf (ins k ks) (upd tk k t)) (ep + 1) (tabS (ins k ks) led) } := by
    rw [Heap.get?_update_self _ ho (by rw [putSet_of _ _ hd]; rfl), putSet_of _ _ hd]
  have hend : (!false && (if true = true then tabS (ins k ks) led else { tabS (ins k ks) led with plain := false }).tooFull) = false := by
    rw [if_pos rfl, hfull]; rfl
  have fin := h _ hu hg
  simp only [if_true, hfull, Bool.and_false, Bool.false_eq_true, if_false]
  exact wpAny_pure (wpAny_pure fin)
end
end Mine
end

/- Set2 -/
section
open PySem PySem.W PyProof.Rows
set_option linter.unusedVariables false
namespace Mine
def insAll : List Nat → List Nat → List Nat
  | ks, [] => ks
  | ks, k :: r => insAll (ins k ks) r
theorem ins_mem (k : Nat) : ∀ (ks : List Nat) (j : Nat), j ∈ ins k ks ↔ j = k ∨ j ∈ ks
  | [], j => by simp [ins]
  | i :: r, j => by
    unfold ins
    split
    · simp
    · split
      · rename_i h; subst h; simp
      · have := ins_mem k r j
        simp [this]
        constructor <;> rintro (h | h | h) <;> simp [h]
theorem insAll_subs : ∀ (ns ks : List Nat), ks ∈ subs → (∀ k ∈ ns, k < 4) → insAll ks ns ∈ subs
  | [], _, h, _ => h
  | k :: r, ks, h, hl => insAll_subs r _ (ins_subs ks h k (hl k (.head _))) fun j hj => hl j (.tail _ hj)
theorem insAll_mem : ∀ (ns ks : List Nat) (j : Nat), j ∈ insAll ks ns ↔ j ∈ ns ∨ j ∈ ks
  | [], ks, j => by simp [insAll]
  | k :: r, ks, j => by
    have := insAll_mem r (ins k ks) j
    simp only [insAll, this, ins_mem, List.mem_cons]
    constructor
    · rintro (h | h | h) <;> simp [h]
    · rintro ((h | h) | h) <;> simp [h]
section
variable {prog : Program} {w : World} {A : Around} {E : Value → Shared → Prop} {s : Shared} {R : Result → Shared → Prop} {I : Addr} {fp wr : List Addr} {n : Nat} {P : Nat → Value → Prop} {St : Nat → Heap → Prop}
theorem cs_find {a : Addr} {o : Obj} {ks : List Nat} {tk : Nat → Tok} {ep : Nat} {led : Bool} {k : Nat} {t : Tok} {Q : Option Nat → Shared → Prop} (ho : s.heap.get? a = some o) (hd : o.data = .set (esOf ks tk) ep (tabS ks led)) (hs : ks ∈ subs) (hk : k < 4)
    (h : ∀ r : Option Nat, r.isSome = decide (k ∈ ks) → Q r s) : wpAny (model prog w) A (setFind a (.int (k : Int) t) (k : Int)) Q E s := by
  have hf := fits_subs led ks hs tk
  have hel := elems_subs (prog := prog) (w := w) tk ks hs
  have hz : (esOf ks tk).size ≤ 4 := by have := sz_subs ks hs; simpa [esOf] using this
  have hfi := find_subs (prog := prog) (w := w) tk ks k
  have hh : (intKind prog w).hash (k : Int) = (k : Int) := hashInt_small k hk
  have sc : ∀ {Q' : ScanMet → Shared → Prop}, Q' (match (esOf ks tk).toList.findIdx? (fun e => (intKind prog w).is (k : Int) e.2) with | some j => .found (0 + j) | none => .absent) s → wpAny (model prog w) A (setScan a (.int (k : Int) t) (k : Int) false (esOf ks tk)) Q' E s := fun {Q'} hq => by
    have z := wpAny_setScan_of (A := A) (E := E) (adding := false) (Q := Q') (x := .int (k : Int) t) (k := (k : Int)) (knd := intKind prog w) (intKind_is _ _ _ _) ho hd hf hel hq
    rw [hh] at z
    exact z
  unfold setFind setFindIn
  refine wpAny_bind (wpAny_setState_of ho hd hf ?_)
  dsimp only
  rw [byScan_of (knd := intKind prog w) rfl (by unfold scanBound; omega) hel]
  simp only [↓reduceIte]
  refine wpAny_bind (wpAny_rule (wpAny_bind (sc ?_)))
  cases q : (esOf ks tk).toList.findIdx? (fun e => (intKind prog w).is (k : Int) e.2) with
  | none => rw [q] at hfi; exact wpAny_pure (h none hfi)
  | some j => rw [q] at hfi; exact wpAny_pure (h (some _) hfi)
theorem cs_loop (W : Walks prog w A.in1 I fp wr n P St) (a : Addr) (haf : a ∉ fp) (led : Bool) (ns : List Nat) (hn : ns.length = n) (hval : ∀ i v, P i v → ∃ t, v = .int ((ns.getD i 0 : Nat) : Int) t) (hlt : ∀ k ∈ ns, k < 4) :
    ∀ (k i : Nat) (ks : List Nat) (tk : Nat → Tok) (ep : Nat) (s : Shared) (o : Obj), n - i = k → i ≤ n → St i s.heap → s.heap.get? a = some o → o.data = .set (esOf ks tk) ep (tabS ks led) → ks ∈ subs → (ns.drop i).Nodup → (∀ j ∈ ns.drop i, j ∉ ks) →
      (∀ h' tk' tks' ep', h'.get? a = some { o with data := .set (esOf (insAll ks (ns.drop i)) tks') ep' (tabS (insAll ks (ns.drop i)) led) } → (∀ b ob, b ∉ a :: wr → s.heap.get? b = some ob → h'.get? b = some ob) → R (.ok (.ret .none)) { s with heap := h', toks := tk' }) →
      codeAny (model prog w) A (.builtin "set.update.loop" ⟨[.ref a, .ref I], []⟩) R s := by
  have haw : a ∉ wr := fun h => haf (W.sub _ h)
  intro k
  induction k with
  | zero =>
    intro i ks tk ep s o hk hi hst ho hd hs hnd hdis hR
    obtain rfl : i = n := by omega
    have hdr : ns.drop i = [] := by rw [List.drop_eq_nil_iff]; omega
    rw [hdr] at hR
    refine codeAny_builtin F.entry_set_update_loop ?_
    rw [Around.under_plainId F.plain_set_update_loop _]
    show wpAny _ A.in1 (pyNext (.ref I) >>= _) _ _ s
    refine wpAny_bind (W.done s _ _ hst fun h' tk' hm => ?_)
    show wpAny _ A.in1 (ret Value.none) _ _ _
    refine wpAny_pure (hR h' tk' tk ep ?_ fun b ob hb e => hm b ob (fun h => hb (.tail _ h)) e)
    rw [hm a o haw ho]
    obtain ⟨c, dd, dt, sl⟩ := o
    cases hd
    rfl
  | succ k ih =>
    intro i ks tk ep s o hk hi hst ho hd hs hnd hdis hR
    have hlt' : i < n := by omega
    have hil : i < ns.length := by omega
    have hdr : ns.drop i = ns[i] :: ns.drop (i + 1) := List.drop_eq_getElem_cons hil
    refine codeAny_builtin F.entry_set_update_loop ?_
    rw [Around.under_plainId F.plain_set_update_loop _]
    show wpAny _ A.in1 (pyNext (.ref I) >>= _) _ _ s
    refine wpAny_bind (W.item i s _ _ hlt' hst fun v h' tk' hP hst' hm => ?_)
    obtain ⟨t, rfl⟩ := hval i v hP
    have hgd : ns.getD i 0 = ns[i] := by simp [List.getD, hil]
    rw [hgd]
    have ho' := hm a o haw ho
    have hk4 : ns[i] < 4 := hlt _ (List.getElem_mem hil)
    have hni : ns[i] ∉ ks := hdis _ (by rw [hdr]; exact .head _)
    show wpAny _ A.in1 (holding [Value.int (ns[i] : Int) t] (setAdd a (.int (ns[i] : Int) t)) >>= _) _ _ _
    refine wpAny_bind (wpAny_holding ?_)
    unfold setAdd
    refine wpAny_holding ?_
    refine wpAny_bind ((intKind prog w).pyHash (k := (ns[i] : Int)) (intKind_is _ _ _ _) ?_)
    rw [show (intKind prog w).hash (ns[i] : Int) = (ns[i] : Int) from hashInt_small _ hk4]
    refine cs_add (s := { s with heap := h', toks := tk' + 1 }) ho' hd hs hk4 hni fun h2 hsb hg2 => ?_
    rw [hdr] at hnd hdis hR
    have hnd' := List.nodup_cons.mp hnd
    refine wpAny_pure ⟨plainId_quiet F.plain_set_update_loop _, ih (i + 1) _ _ _ _ _ (by omega) hlt' (W.frame _ _ _ hst' fun b hb o e => ?_) hg2 rfl (ins_subs ks hs _ hk4) hnd'.2 (fun j hj => ?_) fun h3 tk3 tks3 ep3 hg3 hk3 => ?_⟩
    · rw [hsb.2 b (fun h : b = a => haf (by rw [← h]; exact hb))]; exact e
    · rw [ins_mem]
      rintro (rfl | hjk)
      · exact hnd'.1 hj
      · exact hdis j (.tail _ hj) hjk
    · refine hR h3 tk3 tks3 ep3 hg3 fun b ob hb e => ?_
      have hba : b ≠ a := fun h => hb (by rw [h]; exact .head _)
      refine hk3 b ob hb ?_
      rw [show (({ s with heap := h2, toks := tk' + 1 } : Shared).heap.get? b) = h2.get? b from rfl, hsb.2 b hba]
      exact hm b ob (fun h => hb (.tail _ h)) e
end
end Mine
end

/- Sup1 -/
section
open PySem PySem.W PyProof.Rows PySem.Calls PySem.Spec
set_option linter.unusedVariables false
namespace Mine
section
variable {w : World} {A : Around} {x dx so : Addr} {es : Array (Int × Value)} {ep : Nat} {tb : SetTable} {t : Tok} {s : Shared} {Q : Value → Shared → Prop} {E : Value → Shared → Prop}
set_option hygiene false in
local macro_rules | `(tactic| x_close) => `(tactic| (exact hq _ _ (by assumption)))
set_option maxRecDepth 100000 in
set_option maxHeartbeats 2000000 in
theorem wrap_get (X : (hd.heap_39 w.params).In s.heap) (hx : s.heap.get? x = some { cls := .ref 75, dict := some dx, data := .set es ep tb })
    (hq : ∀ q h', PySem.W.X.Mem s.heap h' [] [(q, { cls := .type "method-wrapper", data := .fields #[.builtin "set.__init__", .ref x] })] → Q (.ref q) { s with heap := h' }) :
    wpAny (model PySem.Challenge.rw_bb0001_01.row.prog w) A (call (.builtin "wrapper_descriptor.__get__") [.builtin "set.__init__", .ref x, .ref 75]) Q E s := by
  revert X; k_fill; intro X
  x_run
end
section
variable {w : World} {A : Around} {x dx so : Addr} {es : Array (Int × Value)} {ep : Nat} {tb : SetTable} {tk : Tok} {E : Value → Shared → Prop} {h : Heap} {g : Array GenState} {d : Drawn} {t : Nat} {os : OsState}
set_option maxRecDepth 100000 in
set_option maxHeartbeats 2000000 in
theorem sup_no (X : (hd.heap_39 w.params).In h) : Looks (model PySem.Challenge.rw_bb0001_01.row.prog w) h (opaqueClassAbove (.ref 75)) none := by
  revert X; k_fill; intro X
  exact looks_opaque X (by k_is)
set_option maxRecDepth 100000 in
set_option maxHeartbeats 2000000 in
theorem sup_C (X : (hd.heap_39 w.params).In h) : Looks (model PySem.Challenge.rw_bb0001_01.row.prog w) h (mroOf (.ref 75)) [.ref 75, .type "set", .type "object"] := by
  revert X; k_fill; intro X
  exact (looks_clsIn X (by k_is)).andThen .now
set_option maxRecDepth 100000 in
set_option maxHeartbeats 2000000 in
theorem sup_f : alongIn (hd.heap_39 w.params) (Str.ofString "__init__") [.type "set", .type "object"] = some (some (.builtin "set.__init__")) := by kernel_rfl
set_option maxRecDepth 100000 in
set_option maxHeartbeats 2000000 in
theorem sup_t (X : (hd.heap_39 w.params).In h) : Looks (model PySem.Challenge.rw_bb0001_01.row.prog w) h (typeOf (.builtin "set.__init__")) (.type "wrapper_descriptor") := by
  revert X; k_fill; intro X
  exact looks_typeIn X (by k_is)
set_option maxRecDepth 100000 in
set_option maxHeartbeats 2000000 in
theorem sup_g (X : (hd.heap_39 w.params).In h) : Looks (model PySem.Challenge.rw_bb0001_01.row.prog w) h (typeLookup (.type "wrapper_descriptor") (Str.ofString "__get__")) (some (.builtin "wrapper_descriptor.__get__")) := by
  revert X; k_fill; intro X
  exact looks_findIn X (by k_is)
end
end Mine
end

/- Sup3 -/
section
open PySem PySem.W PyProof.Rows PySem.Calls PySem.Spec
set_option linter.unusedVariables false
namespace Mine
section
variable {w : World} {A : Around} {x dx so : Addr} {es : Array (Int × Value)} {ep : Nat} {tb : SetTable} {tk : Tok} {E : Value → Shared → Prop} {h : Heap} {g : Array GenState} {d : Drawn} {t : Nat} {os : OsState}
set_option maxRecDepth 100000 in
set_option maxHeartbeats 2000000 in
theorem sup_o : ownIn (hd.heap_39 w.params) (Str.ofString "__init__") (.type "set") = some (some (.builtin "set.__init__")) := by kernel_rfl
set_option maxRecDepth 100000 in
set_option maxHeartbeats 2000000 in
theorem super_ga {Q : Fin → Shared → Prop} (X : (hd.heap_39 w.params).In h) (hxC : x ≠ 75) (hx : h.get? x = some { cls := .ref 75, dict := some dx, data := .set es ep tb }) (hso : h.get? so = some { cls := .type "super", dict := none, data := .fields #[.ref 75, .ref x, .ref 75], slots := #[] })
    (hq : ∀ q h', PySem.W.X.Mem h h' [] [(q, { cls := .type "method-wrapper", data := .fields #[.builtin "set.__init__", .ref x] })] → Q (.done (.ret (.ref q))) ⟨h', g, d, t, os⟩) :
    wpAny (model PySem.Challenge.rw_bb0001_01.row.prog w) A (Builtin.«super.__getattribute__» ⟨[.ref so, .str (Str.ofString "__init__") tk], []⟩) Q E ⟨h, g, d, t, os⟩ := by
  have hne : (Value.ref x == Value.ref 75) = false := by simp [hxC]
  have hn : ((Str.ofString "__init__") == ("__class__" : Str)) = false := by decide
  have hdt : ({ cls := .type "super", dict := none, data := .fields #[.ref 75, .ref x, .ref 75], slots := #[] } : Obj).data = .fields #[.ref 75, .ref x, .ref 75] := rfl
  have f0 : (#[.ref 75, .ref x, .ref 75] : Array Value)[0]? = some (.ref 75) := rfl
  have f1 : (#[.ref 75, .ref x, .ref 75] : Array Value)[1]? = some (.ref x) := rfl
  have f2 : (#[.ref 75, .ref x, .ref 75] : Array Value)[2]? = some (.ref 75) := rfl
  have hl : (([.ref 75, .type "set", .type "object"] : List Value).dropWhile (· != .ref 75)).drop 1 = [.type "set", .type "object"] := by decide
  have hno := sup_no X
  have hC := sup_C X
  have ho : ownIn (hd.heap_39 w.params) (Str.ofString "__init__") (.type "set") = some (some (.builtin "set.__init__")) := sup_o
  have ht := sup_t X
  have hg := sup_g X
  have XX := X
  generalize hd.heap_39 w.params = K at X ho
  unfold Builtin.«super.__getattribute__»
  iterate 20 (first
    | (with_reducible refine wpAny_field hso hdt f0 ?_) | (with_reducible refine wpAny_field hso hdt f1 ?_) | (with_reducible refine wpAny_field hso hdt f2 ?_)
    | (with_reducible refine ks_wpAny_notOpaque hno ?_)
    | (simp only [hn, hne, Bool.or_false, Bool.false_eq_true, if_false])
    | wp_step
    | dsimp only)
  refine wpAny_bind ?_
  with_reducible refine Looks.at hC ?_
  rw [hl]
  rw [List.forIn_cons]
  refine wpAny_bind ?_
  refine wpAny_bind ?_
  refine wpAny_bind ?_
  with_reducible refine Looks.at (looks_ownIn X ho) ?_
  dsimp only
  refine wpAny_bind ?_
  with_reducible refine Looks.at ht ?_
  refine wpAny_bind ?_
  with_reducible refine Looks.at hg ?_
  dsimp only
  try simp only [hne, Bool.false_eq_true, if_false]
  refine wpAny_bind ?_
  refine wpAny_holding ?_
  refine wrap_get XX hx fun q h' D => ?_
  dsimp only
  repeat (first | exact hq _ _ D | (refine wpAny_pure ?_) | wp_step | dsimp only)
end
section
variable {w : World} {A : Around} {x dx so : Addr} {es : Array (Int × Value)} {ep : Nat} {tb : SetTable} {tk : Tok} {E : Value → Shared → Prop} {h : Heap} {g : Array GenState} {d : Drawn} {t : Nat} {os : OsState}
theorem gm_super {Q : Value × List Value → Shared → Prop} {pl : Sem Bool} (X : (hd.heap_39 w.params).In h) (hxC : x ≠ 75) (hx : h.get? x = some { cls := .ref 75, dict := some dx, data := .set es ep tb }) (hso : h.get? so = some { cls := .type "super", dict := none, data := .fields #[.ref 75, .ref x, .ref 75], slots := #[] })
    (hq : ∀ q h' t', PySem.W.X.Mem h h' [] [(q, { cls := .type "method-wrapper", data := .fields #[.builtin "set.__init__", .ref x] })] → Q (.ref q, []) ⟨h', g, d, t', os⟩) :
    wpAny (model PySem.Challenge.rw_bb0001_01.row.prog w) A (getMethod (.ref so) (Str.ofString "__init__") pl) Q E ⟨h, g, d, t, os⟩ := by
  have hlk := F.ks_slot_super_ga.lookup
  have hcan := F.ks_canon_super_ga
  have hT : ∀ t', (⟨h, g, d, t', os⟩ : Shared).TypeIs (.ref so) "super" := fun _ => ⟨_, hso, rfl⟩
  unfold getMethod
  refine wpAny_bind (wpAny_specialOf (hT _) hlk ?_)
  show wpAny _ _ (if (Manifest.canonical "super.__getattribute__" != "object.__getattribute__") = true then _ else _) _ _ _
  rw [if_pos hcan]
  unfold getAttr getAttrBy
  refine wpAny_bind (wpAny_bind (wpAny_mkText (wpAny_holding (wpAny_bind (wpAny_typeOf (hT _) (wpAny_bind (wpAny_of_eq hlk ?_)))))))
  show wpAny _ _ (getAttrByItsOwn (.ref so) (.str (Str.ofString "__init__") t) (.type "super") (.builtin "super.__getattribute__") true false) _ _ _
  unfold getAttrByItsOwn hookBefore callGetattribute boundAndCalled
  refine wpAny_bind (wpAny_of_eq (show (if onTheHeap (.type "super") then typeLookup (.type "super") "__getattr__" else pure none) = pure none from rfl) ?_)
  refine wpAny_bind (wpAny_attempt (wpAny_holding ?_))
  show wpAny _ _ (bindSpecial (.builtin "super.__getattribute__") (.ref so) >>= _) _ _ _
  refine wpAny_bind (wpAny_of_eq (F.ks_slot_super_ga.bind _) ?_)
  refine wpAny_mono (Q := fun v s' => ∃ q h', v = .ref q ∧ s' = ⟨h', g, d, t + 1, os⟩ ∧ PySem.W.X.Mem h h' [] [(q, { cls := .type "method-wrapper", data := .fields #[.builtin "set.__init__", .ref x] })]) (E := fun _ _ => False)
    (wpAny_call_entry F.ks_slot_super_ga (hT _) F.ks_entry_super_ga (super_ga X hxC hx hso fun q h' D => ⟨_, rfl, q, h', rfl, rfl, D⟩) (F.ks_gaArgs_super _ _)) (fun v s' hv => ?_) fun _ _ z => z.elim
  obtain ⟨q, h', rfl, rfl, D⟩ := hv
  exact wpAny_pure (wpAny_pure (hq q h' _ D))
end
end Mine
end

/- Sini -/
section
open PySem PySem.W PyProof.Rows PySem.Calls PySem.Spec
set_option linter.unusedVariables false
namespace Mine
section
variable {M : Model} {w : World} {A : Around} {x y dx dy l : Addr} {vs : Array Value} {es : Array (Int × Value)} {ep nl : Nat} {tb : SetTable} {h : Heap} {g : Array GenState} {d : Drawn} {t : Nat} {os : OsState} {E : Value → Shared → Prop}
abbrev csObj (dx : Addr) (es : Array (Int × Value)) (ep : Nat) (tb : SetTable) : Obj := { cls := .ref 75, dict := some dx, data := .set es ep tb }
theorem ty_cs (hx : h.get? x = some (csObj dx es ep tb)) : Looks M h (typeOf (.ref x)) (.ref 75) := (Looks.ld hx).andThen .now
theorem ty_list (hx : h.get? l = some { cls := .type "list", data := .seq vs nl }) : Looks M h (typeOf (.ref l)) (.type "list") := (Looks.ld hx).andThen .now
set_option maxRecDepth 100000 in
set_option maxHeartbeats 2000000 in
theorem sup_cls (X : (hd.heap_39 w.params).In h) : ∃ cd : ClassData, Looks (model PySem.Challenge.rw_bb0001_01.row.prog w) h (classData 75) cd ∧ cd.name = Str.ofString "CandidateSet" := by
  revert X; k_fill; intro X
  exact ⟨_, looks_clsIn X (by k_is), rfl⟩
set_option maxRecDepth 100000 in
set_option maxHeartbeats 2000000 in
theorem sup_set (X : (hd.heap_39 w.params).In h) : Looks (model PySem.Challenge.rw_bb0001_01.row.prog w) h (isSubtype (.ref 75) (.type "set")) true := by
  revert X; k_fill; intro X
  exact looks_mroIn X (by k_is)
theorem any_list (hl : h.get? l = some { cls := .type "list", data := .seq vs nl }) : Looks M h (Builtin.Frozenset.isAnySet (.ref l)) false := by
  unfold Builtin.Frozenset.isAnySet isInstance
  intro A Q E s k q
  refine wpAny_bind ?_
  refine wpAny_bind (ty_list hl A _ E s k ?_)
  rw [F.sub_list_set]
  refine wpAny_pure ?_
  show wpAny _ _ (typeOf (.ref l) >>= fun t => isSubtype t (.type "frozenset")) _ _ _
  refine wpAny_bind (ty_list hl A _ E s k ?_)
  rw [F.sub_list_frozenset]
  exact wpAny_pure q
theorem any_cs (X : (hd.heap_39 w.params).In h) (hl : h.get? l = some (csObj dx es ep tb)) : Looks (model PySem.Challenge.rw_bb0001_01.row.prog w) h (Builtin.Frozenset.isAnySet (.ref l)) true := by
  unfold Builtin.Frozenset.isAnySet isInstance
  intro A Q E s k q
  refine wpAny_bind ?_
  refine wpAny_bind (ty_cs hl A _ E s k ?_)
  refine sup_set X A _ E s k ?_
  exact wpAny_pure q
theorem si_name {Q : String → Shared → Prop} (X : (hd.heap_39 w.params).In h) (hx : h.get? x = some (csObj dx es ep tb)) 
    (hq : ∀ a, Q a ⟨h, g, d, t, os⟩) :
    wpAny (model PySem.Challenge.rw_bb0001_01.row.prog w) A (typeNameOfCut 200 (.ref x)) Q E ⟨h, g, d, t, os⟩ := by
  obtain ⟨cd, hc, hn⟩ := sup_cls X
  unfold typeNameOfCut shownTypeOf
  refine wpAny_bind (wpAny_bind ((ty_cs hx).at ?_))
  rw [if_neg (by decide)]
  refine wpAny_pure ?_
  unfold typeNameCut
  refine wpAny_bind (hc.at ?_)
  rw [hn, if_pos (by decide +kernel)]
  exact wpAny_pure (hq _)
theorem si_print {Q : String → Shared → Prop} {whole : Bool} {sig : Manifest.Signature} (hs : sig.receiver = .self) (X : (hd.heap_39 w.params).In h) (hx : h.get? x = some (csObj dx es ep tb)) 
    (hq : ∀ a, Q a ⟨h, g, d, t, os⟩) :
    wpAny (model PySem.Challenge.rw_bb0001_01.row.prog w) A (Bind.printed "*" whole sig (some (.ref x))) Q E ⟨h, g, d, t, os⟩ := by
  obtain ⟨cd, hc, hn⟩ := sup_cls X
  unfold Bind.printed Bind.receiverType
  rw [if_neg (by decide), hs]
  refine wpAny_bind (m := (if (Manifest.Receiver.self == Manifest.Receiver.cls) = true then pure (.ref x) else typeOf (.ref x))) ?_
  rw [if_neg (by decide)]
  refine (ty_cs hx).at ?_
  unfold typeNameWhole
  refine wpAny_bind (wpAny_bind (hc.at (wpAny_pure ?_)))
  exact wpAny_pure (hq _)
theorem si_check {a : Value} {Q : Unit → Shared → Prop} (X : (hd.heap_39 w.params).In h) (hx : h.get? x = some (csObj dx es ep tb)) (hq : Q () ⟨h, g, d, t, os⟩) :
    wpAny (model PySem.Challenge.rw_bb0001_01.row.prog w) A (checkBoundCall "set.__init__" ⟨[.ref x, a], []⟩) Q E ⟨h, g, d, t, os⟩ := by
  unfold checkBoundCall
  simp only [PySem.sig_set_init, PySem.kind_set_init]
  rw [if_pos (by decide)]
  unfold Bind.checkArgs
  dsimp only
  refine wpAny_bind (m := Bind.printed "set" true _ _) (PyProof.Rows.printed_name (by decide) ?_)
  refine wpAny_bind (m := Bind.printed "*" false _ _) (si_print (x := x) rfl X hx fun short => ?_)
  have hrn : (Manifest.Receiver.self == Manifest.Receiver.none) = false := by decide
  have hn : (if (Manifest.Receiver.self == Manifest.Receiver.none) = true then [.ref x, a].length else [.ref x, a].length - 1) = 1 := by simp [hrn]
  rw [hn]
  simp only [List.map_nil]
  have hk1 : (Manifest.ParamKind.posOnly == Manifest.ParamKind.posOnly) = true := by decide
  have hk2 : (Manifest.ParamKind.posOnly == Manifest.ParamKind.posOrKw) = false := by decide
  have hk3 : (Manifest.ParamKind.posOnly == Manifest.ParamKind.varPos) = false := by decide
  have hc : Bind.check ⟨.positional, "set", "*", .self, [⟨"iterable", .posOnly, false⟩]⟩ "set" short 1 [] = pure () := by
    simp [Bind.check, Bind.checkCount, Bind.isPositional, hk1, hk2, hk3]
  rw [hc]
  exact wpAny_pure hq
end
end Mine
end

/- Sin2 -/
section
open PySem PySem.W PyProof.Rows PySem.Calls PySem.Spec
set_option linter.unusedVariables false
namespace Mine
section
variable {M : Model} {w : World} {A : Around} {x y dx dy l : Addr} {vs : Array Value} {es : Array (Int × Value)} {ep nl : Nat} {tb : SetTable} {h : Heap} {g : Array GenState} {d : Drawn} {t : Nat} {os : OsState} {E : Value → Shared → Prop}
theorem used_fresh {led : Bool} {Q : Bool → Shared → Prop} (hx : h.get? x = some (csObj dx #[] 0 (.fresh 0 0 led))) (hq : Q false ⟨h, g, d, t, os⟩) : wpAny (model PySem.Challenge.rw_bb0001_01.row.prog w) A (setUsed x) Q E ⟨h, g, d, t, os⟩ := by
  unfold setUsed
  refine wpAny_bind (wpAny_setState_of (s := ⟨h, g, d, t, os⟩) hx rfl (by cases led <;> decide) ?_)
  exact wpAny_pure hq
set_option maxRecDepth 100000 in
set_option maxHeartbeats 2000000 in
theorem si_list {Q : Fin → Shared → Prop} {led : Bool} {ns : List Nat} {nl : Nat} {vs : Array Value} (hh : A.handled = none) (X : (hd.heap_39 w.params).In h) (hx : h.get? x = some (csObj dx #[] 0 (.fresh 0 0 led))) (hl : h.get? l = some { cls := .type "list", data := .seq vs nl })
    (hxl : x ≠ l) (hn : ns.length = vs.size) (hval : ∀ i v, vs[i]? = some v → ∃ t, v = Value.int ((ns.getD i 0 : Nat) : Int) t) (hlt : ∀ k ∈ ns, k < 4) (hnd : ns.Nodup)
    (hq : ∀ h' tk tks ep', h'.get? x = some (csObj dx (esOf (insAll [] ns) tks) ep' (tabS (insAll [] ns) led)) → (∀ b o, b ≠ x → h.get? b = some o → h'.get? b = some o) → Q (.done (.ret .none)) ⟨h', g, d, tk, os⟩) :
    wpAny (model PySem.Challenge.rw_bb0001_01.row.prog w) A (Builtin.«set.__init__» ⟨[.ref x, .ref l], []⟩) Q E ⟨h, g, d, t, os⟩ := by
  have ha := any_list (M := model PySem.Challenge.rw_bb0001_01.row.prog w) hl
  have ht := ty_list (M := model PySem.Challenge.rw_bb0001_01.row.prog w) hl
  unfold Builtin.«set.__init__» noKeywords
  generalize hPI : pyIter = PI
  refine wpAny_bind (wpAny_pure ?_)
  dsimp only
  refine wpAny_bind (si_name X hx fun nm => ?_)
  refine wpAny_bind (m := checkCount nm 0 1 1) (wpAny_of_eq (a := ()) (by rfl) ?_)
  refine wpAny_bind (wpAny_of_eq (a := x) (by rfl) ?_)
  refine wpAny_bind (used_fresh hx ?_)
  simp only [Bool.false_eq_true, if_false]
  refine wpAny_bind (m := Builtin.Frozenset.updateFrom "set.__init__" x (.ref l)) ?_
  unfold Builtin.Frozenset.updateFrom
  refine wpAny_bind (ha.at ?_)
  simp only [Bool.false_eq_true, if_false]
  refine wpAny_bind (ht.at ?_)
  rw [if_neg (by decide)]
  subst hPI
  have hlS : l < h.objs.size := Heap.lt_size hl
  have hxS : x < h.objs.size := Heap.lt_size hx
  have hl1 : h.IsList l vs := ⟨_, hl, rfl, _, rfl⟩
  refine wpAny_bind (wpAny_pyIter_list (s := ⟨h, g, d, t, os⟩) hl1 ?_)
  refine wpAny_bind (wpAny_runValue ?_)
  have hneI : l ≠ h.objs.size := Nat.ne_of_lt hlS
  have hxf : x ∉ [h.objs.size, l] := by
    simp only [List.mem_cons, List.not_mem_nil, or_false, not_or]
    exact ⟨Nat.ne_of_lt hxS, hxl⟩
  have hh1 : A.in1.handled = none := by simp [hh]
  refine cs_loop (n := vs.size) (P := fun i v => vs[i]? = some v) (Walks.list hh1 _ l hneI vs) x hxf led ns hn hval hlt (vs.size - 0) 0 [] (fun _ => 0) 0 ⟨h.push { cls := .type "list_iterator", data := .fields #[.ref l, .int 0 0] }, g, d, t, os⟩ (csObj dx #[] 0 (.fresh 0 0 led)) rfl (Nat.zero_le _) ⟨⟨_, Heap.get?_push_size _ rfl, rfl, rfl⟩, hl1.push _⟩ (Heap.get?_push_of_some _ hx) rfl (by decide) (by simpa using hnd) (by simp) fun h' tk tks ep' hg hk => ?_
  refine wpAny_pure ?_
  refine wpAny_pure ?_
  refine hq h' tk tks ep' hg fun b o hb e => hk b o ?_ (Heap.get?_push_of_some _ e)
  simp only [List.mem_cons, List.not_mem_nil, or_false, not_or]
  exact ⟨hb, Nat.ne_of_lt (Heap.lt_size e)⟩

theorem road_fresh (led : Bool) : ∀ ks ∈ subs, ks ≠ [] → (SetTable.fresh 0 0 led).road (tabS ks led) = .slotForSlot := by cases led <;> decide +kernel
theorem room_fresh (led : Bool) : ∀ n, n ≤ 4 → (SetTable.fresh 0 0 led).roomFor n = none := by cases led <;> decide +kernel
theorem tab_fresh (led : Bool) (ks : List Nat) : ({ tabS ks led with finger := (SetTable.fresh 0 0 led).finger, led := (SetTable.fresh 0 0 led).led && (tabS ks led).led, moves := (SetTable.fresh 0 0 led).moves, plain := (SetTable.fresh 0 0 led).plain && (tabS ks led).plain } : SetTable) = tabS ks led := by cases led <;> rfl
set_option maxRecDepth 100000 in
set_option maxHeartbeats 2000000 in
theorem si_set {Q : Fin → Shared → Prop} {led : Bool} {ks : List Nat} {tks : Nat → Tok} {epy : Nat} (X : (hd.heap_39 w.params).In h) (hx : h.get? x = some (csObj dx #[] 0 (.fresh 0 0 led))) (hy : h.get? y = some (csObj dy (esOf ks tks) epy (tabS ks led)))
    (hxy : x ≠ y) (hks : ks ∈ subs)
    (hq : ∀ h' tk tks ep', h'.get? x = some (csObj dx (esOf ks tks) ep' (tabS ks led)) → (∀ b o, b ≠ x → h.get? b = some o → h'.get? b = some o) → Q (.done (.ret .none)) ⟨h', g, d, tk, os⟩) :
    wpAny (model PySem.Challenge.rw_bb0001_01.row.prog w) A (Builtin.«set.__init__» ⟨[.ref x, .ref y], []⟩) Q E ⟨h, g, d, t, os⟩ := by
  have ha := any_cs X hy
  have hsz : (esOf ks tks).size = ks.length := by simp [esOf]
  have hs4 := sz_subs ks hks
  have hxe : (Value.ref x == Value.ref y) = false := by simp [hxy]
  have hxb : (x == y) = false := by simp [hxy]
  unfold Builtin.«set.__init__» noKeywords
  refine wpAny_bind (wpAny_pure ?_)
  dsimp only
  refine wpAny_bind (si_name X hx fun nm => ?_)
  refine wpAny_bind (m := checkCount nm 0 1 1) (wpAny_of_eq (a := ()) (by rfl) ?_)
  refine wpAny_bind (wpAny_of_eq (a := x) (by rfl) ?_)
  refine wpAny_bind (used_fresh hx ?_)
  simp only [Bool.false_eq_true, if_false]
  refine wpAny_bind (m := Builtin.Frozenset.updateFrom "set.__init__" x (.ref y)) ?_
  unfold Builtin.Frozenset.updateFrom
  refine wpAny_bind (ha.at ?_)
  simp only [if_true]
  refine wpAny_bind (wpAny_of_eq (a := y) (by rfl) ?_)
  refine wpAny_bind ?_
  unfold setEpoch
  refine wpAny_bind (wpAny_setState_of (s := ⟨h, g, d, t, os⟩) hy rfl (fits_subs led ks hks tks) ?_)
  refine wpAny_pure ?_
  unfold setMerge
  simp only [hxb, Bool.false_eq_true, if_false]
  refine wpAny_bind (wpAny_setState_of (s := ⟨h, g, d, t, os⟩) hy rfl (fits_subs led ks hks tks) ?_)
  dsimp only
  have fresh_fits : (SetTable.fresh 0 0 led).fits (#[] : Array (Int × Value)).size = true := by cases led <;> decide
  by_cases he : ks = []
  · subst he
    rw [if_pos (by simp [esOf])]
    refine wpAny_pure ?_
    refine wpAny_pure ?_
    exact hq h t tks 0 hx fun b o _ e => e
  · rw [if_neg (by simpa [esOf] using he)]
    refine wpAny_bind ?_
    refine wpAny_bind ?_
    refine wpAny_setState_of (s := ⟨h, g, d, t, os⟩) hx rfl fresh_fits ?_
    dsimp only
    rw [hsz, room_fresh led _ hs4]
    refine wpAny_pure ?_
    refine wpAny_bind (wpAny_setState_of (s := ⟨h, g, d, t, os⟩) hx rfl fresh_fits ?_)
    dsimp only
    rw [road_fresh led ks hks he]
    dsimp only
    rw [tab_fresh]
    refine wpAny_storeSet_of (s := ⟨h, g, d, t, os⟩) hx rfl ?_ (by rw [hsz]; exact Nat.le_trans hs4 (by decide))
    refine wpAny_pure ?_
    refine hq _ t tks 1 (Heap.get?_update_self _ hx rfl) fun b o hb e => (Heap.get?_update_other _ _ (Ne.symm hb)).trans e

set_option maxRecDepth 100000 in
set_option maxHeartbeats 2000000 in
theorem sup_at (X : (hd.heap_39 w.params).In h) : ∃ o c, h.get? 75 = some o ∧ o.data = .cls c ∧ Looks (model PySem.Challenge.rw_bb0001_01.row.prog w) h (isSubtype (.ref 75) (.type "set")) true := by
  revert X; k_fill; intro X
  exact ⟨_, _, X 75 _ (by k_is), rfl, looks_mroIn X (by k_is)⟩
theorem ne75 (X : (hd.heap_39 w.params).In h) (hx : h.get? x = some (csObj dx es ep tb)) : x ≠ 75 := by
  intro e
  obtain ⟨o, c, ho, hd, -⟩ := sup_at X
  rw [e, ho] at hx
  cases hx
  cases hd
theorem mw_call {a : Value} {Q : Value → Shared → Prop} {q : Addr} (X : (hd.heap_39 w.params).In h) (hx : h.get? x = some (csObj dx es ep tb)) (hw : h.get? q = some { cls := .type "method-wrapper", data := .fields #[.builtin "set.__init__", .ref x] })
    (tree : ∀ {P : Fin → Shared → Prop} {E' : Value → Shared → Prop} {A' : Around}, (∀ v s', Q v s' → P (.done (.ret v)) s') → A'.handled = A.handled → wpAny (model PySem.Challenge.rw_bb0001_01.row.prog w) A' (Builtin.«set.__init__» ⟨[.ref x, a], []⟩) P E' ⟨h, g, d, t, os⟩) :
    wpAny (model PySem.Challenge.rw_bb0001_01.row.prog w) A (call (.ref q) [a]) Q E ⟨h, g, d, t, os⟩ := by
  refine wpAny_call (codeAny_of_tree ?_)
  show wpAny _ A.in1 (callAny (.ref q) ⟨[a], []⟩) _ _ _
  simp only [callAny]
  refine wpAny_bind (wpAny_load (s := ⟨h, g, d, t, os⟩) hw ?_)
  dsimp only
  rw [if_pos (by decide)]
  show wpAny _ _ (checkBoundCall "set.__init__" ⟨[.ref x, a], []⟩ >>= fun _ => again (.builtin "set.__init__" ⟨[.ref x, a], []⟩)) _ _ _
  refine wpAny_bind (si_check X hx ?_)
  refine wpAny_pure ⟨Code.quiet_builtin _ (by decide +kernel), codeAny_builtin F.entry_set_init ?_⟩
  exact tree (fun v s' hq => hq) rfl
theorem mw_callWith {pos : Pos} {env : Env} {e : Expr} {Q : Value → Shared → Prop} {q : Addr} {s : Shared} (hw : s.heap.get? q = some { cls := .type "method-wrapper", data := .fields #[.builtin "set.__init__", .ref x] })
    (he : wpAny (model PySem.Challenge.rw_bb0001_01.row.prog w) A (eval e env) (fun v s' => s' = s ∧ wpAny (model PySem.Challenge.rw_bb0001_01.row.prog w) A (call (.ref q) [v]) Q E s) E s)
    (hs : starEach [e] env = [(false, eval e env)] := by rfl) :
    wpAny (model PySem.Challenge.rw_bb0001_01.row.prog w) A (callWith pos (.ref q) [] (backTo pos (starEach [e] env)) []) Q E s := by
  rw [hs]
  unfold callWith
  refine wpAny_bind (wpAny_holding (Calls.evalArgs_plain (Calls.spliced_cons (wpAny_mono he (fun v s' h' => Calls.spliced_nil ?_) fun _ _ e => e))))
  obtain ⟨rfl, h'⟩ := h'
  refine wpAny_bind (wpAny_standAt ?_)
  dsimp only
  refine wpAny_bind (m := keeperOf (.ref q)) ?_
  unfold keeperOf
  refine wpAny_bind (wpAny_load hw ?_)
  simp only [show (Value.type "method-wrapper" != Value.type "method") = true by decide, show (Value.type "method-wrapper" == Value.type "builtin_function_or_method" || Value.type "method-wrapper" == Value.type "method-wrapper") = true by decide, if_true]
  refine wpAny_pure ?_
  exact wpAny_bind (wpAny_mono h' (fun r s₂ hr => wpAny_bind (wpAny_holding (wpAny_point (wpAny_pure hr)))) fun _ _ x => x)

theorem fr_but {h₀ h h' : Heap} {L x : Addr} {m : Str → Option Value} (F : Fr h₀ L h m) (h1 : x ≠ L) (h2 : h₀.get? x = none) (k : ∀ b o, b ≠ x → h.get? b = some o → h'.get? b = some o) : Fr h₀ L h' m :=
  ⟨F.ns.at' fun o e => k _ _ (Ne.symm h1) e, fun b o e => k b o (by rintro rfl; rw [h2] at e; cases e) (F.keep b o e), F.above⟩
theorem news_but {h₀ h h' : Heap} {L x : Addr} {o o' : Obj} {rest : List (Addr × Obj)} (N : News h₀ L h ((x, o) :: rest)) (hx : ∀ p ∈ rest, p.1 ≠ x) (ho : h'.get? x = some o') (k : ∀ b o, b ≠ x → h.get? b = some o → h'.get? b = some o) : News h₀ L h' ((x, o') :: rest) := fun p hp => by
  rcases List.mem_cons.mp hp with rfl | hp
  · exact ⟨ho, (N _ (.head _)).2⟩
  · exact ⟨k _ _ (hx p hp) (N _ (.tail _ hp)).1, (N _ (.tail _ hp)).2⟩
end
end Mine
end

/- Len -/
section
open PySem PySem.W PyProof.Rows PySem.Calls PySem.Spec
set_option linter.unusedVariables false
namespace Mine
section
variable {w : World} {A : Around} {x dx : Addr} {ep : Nat} {led : Bool} {s : Shared} {E : Value → Shared → Prop}
theorem len_kind : builtinKind "set.__len__" = some .slot := by decide +kernel
theorem len_idSplit : splitId "set.__len__" = some ("set", "__len__") := by decide +kernel
set_option maxRecDepth 100000 in
set_option maxHeartbeats 2000000 in
theorem len_find {h : Heap} (X : (hd.heap_39 w.params).In h) : Looks (model PySem.Challenge.rw_bb0001_01.row.prog w) h (typeLookup (.ref 75) (Str.ofString "__len__")) (some (.builtin "set.__len__")) := by
  revert X; k_fill; intro X
  exact looks_findIn X (by k_is)
theorem len_cs {Q : Value → Shared → Prop} {ks : List Nat} {tk : Nat → Tok} (hks : ks ∈ subs) (X : (hd.heap_39 w.params).In s.heap) (hx : s.heap.get? x = some { cls := .ref 75, dict := some dx, data := .set (esOf ks tk) ep (tabS ks led) }) 
    (hq : ∀ t tk', Q (.int (ks.length : Int) t) { s with toks := tk' }) :
    wpAny (model PySem.Challenge.rw_bb0001_01.row.prog w) A (call (.builtin "len") [.ref x]) Q E s := by
  have e : (esOf ks tk).size = ks.length := by simp [esOf]
  have z := sz_subs ks hks
  have ht := ty_cs (M := model PySem.Challenge.rw_bb0001_01.row.prog w) hx
  have hs := sup_set X
  have hsp : Looks (model PySem.Challenge.rw_bb0001_01.row.prog w) s.heap (specialOf (.ref x) (Str.ofString "__len__")) (some (.builtin "set.__len__")) := by
    unfold specialOf; exact ht.andThen (len_find X)
  have back : ∀ {A : Around} {Q : Value → Shared → Prop}, (∀ t tk', Q (.int (ks.length : Int) t) { s with toks := tk' }) → wpAny (model PySem.Challenge.rw_bb0001_01.row.prog w) A (call (.builtin "set.__len__") [.ref x]) Q E s := by
    intro A Q hq
    with_reducible refine wpAny_call ?_
    with_reducible refine codeAny_call_builtin_code ?a1 ?a2
    case a1 => exact Code.quiet_builtin _ (by decide +kernel)
    with_reducible refine check_slot len_kind len_idSplit ?b1 (PySem.F.args_set_len_1 _) ?b2
    case b1 => exact ht.andThen hs
    refine codeAny_builtin entry_set_len ?_
    unfold Builtin.«frozenset.__len__» Builtin.Frozenset.slot0 slotArgs
    simp only [List.isEmpty_nil, Bool.not_true, Bool.false_eq_true, ↓reduceIte, bind_assoc, List.length_nil, bne_self_eq_false]
    unfold Builtin.Frozenset.addrOf Builtin.Frozenset.sizeOf
    refine wpAny_bind (wpAny_pure ?_)
    try dsimp only
    refine wpAny_bind (wpAny_pure ?_)
    refine wpAny_bind (wpAny_bind (wpAny_setEntries_of hx rfl (fits_subs led ks hks tk) (wpAny_pure ?_)))
    rw [e]
    show wpAny _ _ (retInt _) _ _ _
    unfold retInt
    exact wpAny_bind (wpAny_mkInt (wpAny_pure (hq _ _)))
  refine Calls.call_function_entry kind_len plain_len entry_len (args_len1 _) ?_
  unfold Builtin.«len»
  refine wpAny_bind (m := oneArg "len" _) (wpAny_pure ?_)
  refine wpAny_bind (m := callSpecial? (.ref x) (Str.ofString "__len__")) ?_
  simp only [callSpecial?]
  refine wpAny_bind (hsp.here ?_)
  simp only [PySem.F.slot_set_len.bind]
  refine wpAny_holding (wpAny_bind (wpAny_pure (wpAny_bind (back fun t tk' => wpAny_pure ?_))))
  refine wpAny_bind (wpAny_holding (wpAny_pure ?_))
  refine wpAny_bind (wpAny_letGo ?_)
  show wpAny _ _ (if ((ks.length : Nat) : Int) < 0 then _ else _) _ _ _
  rw [if_neg (by omega)]
  show wpAny _ _ (if ((ks.length : Nat) : Int) ≥ 2 ^ 63 then _ else _) _ _ _
  rw [if_neg (by omega)]
  exact wpAny_bind (wpAny_mkInt (wpAny_pure ⟨_, rfl, hq _ _⟩))
theorem len_x {h₀ : Heap} {L : Addr} {m : Str → Option Value} {news : List (Addr × Obj)} {Q : Value → Shared → Prop} {ks : List Nat} {tk : Nat → Tok} (hks : ks ∈ subs) (X : (hd.heap_39 w.params).In h₀) (F : Fr h₀ L s.heap m) (N : News h₀ L s.heap news) (hx : (x, csObj dx (esOf ks tk) ep (tabS ks led)) ∈ news)
    (hq : ∀ t tk', Q (.int (ks.length : Int) t) { s with toks := tk' }) :
    wpAny (model PySem.Challenge.rw_bb0001_01.row.prog w) A (call (.builtin "len") [.ref x]) Q E s := len_cs hks (X.keeps F.keep) (N _ hx).1 hq
theorem len_l {prog : Program} {h₀ : Heap} {L l : Addr} {nl : Nat} {news : List (Addr × Obj)} {Q : Value → Shared → Prop} {vs : Array Value} (N : News h₀ L s.heap news) (hl : (l, { cls := .type "list", data := .seq vs nl }) ∈ news) (hz : vs.size ≤ 4)
    (hq : ∀ t tk', Q (.int (vs.size : Int) t) { s with toks := tk' }) :
    wpAny (model prog w) A (call (.builtin "len") [.ref l]) Q E s := call_len_list ⟨_, (N _ hl).1, rfl, _, rfl⟩ (by omega) (hq _ _)
end
end Mine
end

/- Loop -/
section
open PySem PySem.W PyProof.Rows PySem.Calls PySem.Spec
set_option linter.unusedVariables false
namespace Mine
section
variable {prog : Program} {w : World} {A : Around} {E : Value → Shared → Prop} {s : Shared} {env : Env} {h₀ : Heap} {x : Str} {body : List Stmt} {Q : Flow → Shared → Prop}
theorem iter_led {l : Addr} {vs : Array Value} {nl : Nat} {m₀ : Str → Option Value} {news : List (Addr × Obj)} (stored : List Str)
    (hh : A.handled = none) (hl : (l, { cls := .type "list", data := .seq vs nl }) ∈ news) (F : Fr h₀ env.locals s.heap m₀) (N : News h₀ env.locals s.heap news)
    (turn : ∀ i v (u : Str → Option Value) h tk own, i < vs.size → vs[i]? = some v → Fr h₀ env.locals h (fun y => if y = x then some v else if stored.contains y then u y else m₀ y) → News h₀ env.locals h (own ++ news) →
      wpAny (model prog w) A (execs body env) (TurnPost h₀ env.locals x stored m₀ (own ++ news) { s with heap := h, toks := tk } Q) E { s with heap := h, toks := tk })
    (done : ∀ (u : Str → Option Value) h tk, Fr h₀ env.locals h (fun y => if y = x then u y else if stored.contains y then u y else m₀ y) → News h₀ env.locals h news → Q .next { s with heap := h, toks := tk }) :
    wpAny (model prog w) A (pyIter (.ref l)) (fun it s₂ => LoopAtV prog w A h₀ env x body Q E it s₂) E s := by
  have hls : s.heap.IsList l vs := ⟨_, (N _ hl).1, rfl, _, rfl⟩
  have hlt : l < s.heap.objs.size := Heap.lt_size (N _ hl).1
  have hne : l ≠ s.heap.objs.size := Nat.ne_of_lt hlt
  refine wpAny_pyIter_list hls ?_
  refine loop_at_law (s := { s with heap := s.heap.push { cls := .type "list_iterator", data := .fields #[.ref l, .int 0 0] } }) stored (Walks.list hh s.heap.objs.size l hne vs) ?_ ?_ ?_ ⟨⟨_, Heap.get?_push_size _ rfl, rfl, rfl⟩, hls.at fun o e => Heap.get?_push_of_some _ e⟩ (F.push _) (fun p hp => ⟨Heap.get?_push_of_some _ (N p hp).1, (N p hp).2⟩) turn done
  · intro hm
    rcases List.mem_cons.mp hm with e | hm
    · exact absurd F.ns.lt (e ▸ Nat.lt_irrefl _)
    · exact (N _ hl).2.1 (List.mem_singleton.mp hm).symm
  · intro b hb
    rw [List.mem_singleton.mp hb]
    exact next_is_new F
  · intro p hp hI
    exact absurd (Heap.lt_size (N p hp).1) ((List.mem_singleton.mp hI) ▸ Nat.lt_irrefl _)
end
theorem ins_len : ∀ (ks : List Nat) (k : Nat), k ∉ ks → (ins k ks).length = ks.length + 1
  | [], k, _ => rfl
  | j :: r, k, h => by
    unfold ins
    split
    · rfl
    · split
      · rename_i e; exact absurd (e ▸ .head _) h
      · rw [List.length_cons, ins_len r k (fun q => h (.tail _ q))]; rfl
theorem insAll_len : ∀ (ns ks : List Nat), ns.Nodup → (∀ j ∈ ns, j ∉ ks) → (insAll ks ns).length = ks.length + ns.length
  | [], ks, _, _ => rfl
  | n :: r, ks, hn, hd => by
    have hn' := List.nodup_cons.mp hn
    show (insAll (ins n ks) r).length = _
    rw [insAll_len r (ins n ks) hn'.2 (fun j hj q => by
      rw [ins_mem] at q
      rcases q with rfl | q
      · exact hn'.1 hj
      · exact hd j (.tail _ hj) q), ins_len _ _ (hd n (.head _)), List.length_cons]; omega
end Mine
end

/- Gen -/
section
open PySem PySem.W PyProof.Rows PySem.Calls PySem.Spec
set_option linter.unusedVariables false
namespace Mine
/-- all generators rest in peace, and there are N of them or more -/
structure GB (N : Nat) (g : Array GenState) : Prop where
  bare : AllBare g
  size : N ≤ g.size
theorem GB.push {N : Nat} {g : Array GenState} {x : GenState} (h : GB N g) (hx : x.bare = true) : GB N (g.push x) := ⟨h.bare.push hx, by rw [Array.size_push]; exact Nat.le_succ_of_le h.size⟩
theorem GB.movedS {N : Nat} {s s' : Shared} {wr : List Addr} {g : Nat} (h : GB N s.gens) (hm : Moved wr (GenOnlyQ g) s s') : GB N s'.gens := ⟨h.bare.movedS hm, by
  rcases hm.gens with e | e
  · rw [e]; exact h.size
  · rw [e.1.1]; exact h.size⟩
section
variable {prog : Program} {w : World} {A : Around} {E : Value → Shared → Prop} {s : Shared} {c P : Addr} {ps : Array Value} {mg : Str → Option Value} {bm : Addr} {ob : Obj}
theorem gen_list {NG : Nat} {env : Env} {elt iter : Expr} {x : Str} {px : Pos} {scope : Scope} {cl : List (Str × Addr)} {pos : Pos} {Q : Value → Shared → Prop} {l : Addr} {vs : Array Value} {nl : Nat}
    (heval : ∀ Q' : Value → Shared → Prop, Q' (.ref l) s → wpAny (model prog w) A (eval iter env) Q' E s)
    (hl : s.heap.get? l = some { cls := .type "list", data := .seq vs nl }) (G : GB NG s.gens) (hlim : s.heap.NoLimit)
    (M : BMod s.heap env.globals mg bm ob) (hcode : env.code = .ref c) (hok : s.heap.IsCode c P ps) (htab : s.heap.TableAt c P ps)
    (hh : A.handled = none) (hco : scope.isCoroutine = false) (hclos : closureFor scope env = pure cl) (hcell : ∀ y ∈ scope.names, y.2 ≠ .cell) (h0 : scope.names.lookup (".0" : Str) = some NameKind.local)
    (hx : scope.names.lookup x = some .local) (hkind : scope.kind = .function) (hroom : A.depth < recursionLimit) (F : Nat → Value → Prop)
    (quiet : ∀ (code : Value) (C : Addr) (A' : Around) E' i v (t : Shared) m₂, A'.handled = none → A'.depth ≤ A.depth + 1 → A'.units ≤ A.units + 8 → vs[i]? = some v → t.heap.Ns C m₂ → m₂ x = some v → (∀ b o, b ≠ P → s.heap.get? b = some o → t.heap.get? b = some o) →
          wpAny (model prog w) A' (eval elt (genEnv scope cl C code builtinsNs env)) (fun y s₃ => F i y ∧ Keeps t s₃) E' t)
    (hQ : ∀ (a : Addr) (s₅ : Shared) ps', s₅.heap.IsCode c P ps' → s₅.heap.TableAt c P ps' → (∃ more, ps' = ps ++ more) → GB NG s₅.gens → s₅.os = s.os → s₅.drawn = s.drawn → (∀ b o, b ≠ P → s.heap.get? b = some o → s₅.heap.get? b = some o) →
          Gen prog w A (s.heap.objs.size - 1) a vs.size F s₅ → Q (.ref a) s₅)
    (hs : ∀ x, genFold iter env x = pure x) :
    wpAny (model prog w) A (eval (.GeneratorExp elt [⟨.Name x px, iter, [], 0⟩] scope pos) env) Q E s := by
  refine wpAny_GeneratorExp_walksQD hh hco hclos hcell h0 hx hkind hroom (heval _ ?_) hs
  have hls : s.heap.IsList l vs := ⟨_, hl, rfl, _, rfl⟩
  have hlt : l < s.heap.objs.size := Heap.lt_size hl
  have hne : l ≠ s.heap.objs.size := Nat.ne_of_lt hlt
  have hPlt : P < s.heap.objs.size := Heap.lt_size htab.2
  have hlP : l ≠ P := fun e => by
    rw [e, htab.2] at hl; cases hl
  have hcP : cStatics ≠ P := fun e => by
    obtain ⟨_, hns, _⟩ := hlim
    obtain ⟨o, es, ep, ho, hd, _⟩ := hns
    rw [e, htab.2] at ho; cases ho; cases hd
  have hclt : cStatics < s.heap.objs.size := let ⟨_, hn, _⟩ := hlim; hn.lt
  refine wpAny_pyIter_list hls ⟨hlim.push _, ?_⟩
  have kp : ∀ b o, s.heap.get? b = some o → (s.heap.push { cls := .type "list_iterator", data := .fields #[.ref l, .int 0 0] }).get? b = some o := fun b o e => Heap.get?_push_of_some _ e
  have hpi : (s.heap.push { cls := .type "list_iterator", data := .fields #[.ref l, .int 0 0] }).get? s.heap.objs.size = some { cls := .type "list_iterator", data := .fields #[.ref l, .int 0 0] } := Heap.get?_push_size _ rfl
  have hps : (s.heap.push { cls := .type "list_iterator", data := .fields #[.ref l, .int 0 0] }).objs.size = s.heap.objs.size + 1 := Heap.size_push ..
  have hl2 := hlim.push { cls := .type "list_iterator", data := .fields #[.ref l, .int 0 0] }
  have hok' := hok.keeps kp
  have htab' := htab.keeps kp
  have M' := M.keeps kp
  have hls' := hls.at fun o e => kp l o e
  have st0 : ∃ o, (s.heap.push { cls := .type "list_iterator", data := .fields #[.ref l, .int 0 0] }).get? s.heap.objs.size = some o ∧ o.cls = .type "list_iterator" ∧ o.data = .fields #[.ref l, .int (0 : Nat) 0] := ⟨_, hpi, rfl, rfl⟩
  generalize s.heap.push { cls := .type "list_iterator", data := .fields #[.ref l, .int 0 0] } = h₂ at *
  have main : ∀ (code : Value) h₃ tk₃ ps', Heap.ExtBut P h₂ h₃ → h₂.objs.size ≤ h₃.objs.size → h₃.IsCode c P ps' → h₃.TableAt c P ps' → (∃ more, ps' = ps ++ more) →
      wpAny (model prog w) A (builtinsFor env.globals env.builtins) (fun bi s₄ =>
        ∃ I fp wr n₀ P St₀ pz F, (Value.ref s.heap.objs.size) = .ref I ∧ (∀ A' : Around, A'.handled = none → Walks prog w A' I fp wr n₀ P St₀) ∧ St₀ 0 s₄.heap ∧ (∀ b ∈ fp, b < s₄.heap.objs.size) ∧ s₄.heap.NoLimit ∧ cStatics ∉ wr ∧
          (∀ href : Heap, (∀ b o, s₄.heap.get? b = some o → href.get? b = some o) →
            QuietGenD prog w (genEnv scope cl s₄.heap.objs.size code bi env) x [] elt (List.range s₄.heap.objs.size) wr P pz F href (A.depth + 1) (A.units + 8)) ∧
          (∀ a h₅ tk gs, gs.bare = true → s₄.heap.objs.size < a → h₅.objs.size = a + 1 → (∀ b o, s₄.heap.get? b = some o → h₅.get? b = some o) →
            WalksS prog w A.in4 a (a :: s₄.heap.objs.size :: List.range s₄.heap.objs.size) (s₄.heap.objs.size :: wr) (GenOnlyQ s₄.gens.size) (passing pz n₀ 0).length
              (fun j y => ∃ i, (passing pz n₀ 0)[j]? = some i ∧ F i y) (GenAt prog w A.in4 a s₄.gens.size s₄.heap.objs.size (List.range s₄.heap.objs.size) wr pz n₀ F) →
            GenAt prog w A.in4 a s₄.gens.size s₄.heap.objs.size (List.range s₄.heap.objs.size) wr pz n₀ F 0 { s₄ with gens := s₄.gens.push gs, toks := tk, heap := h₅ } →
            Q (.ref a) { s₄ with gens := s₄.gens.push gs, toks := tk, heap := h₅ })) E { s with heap := h₃, toks := tk₃ } := by
    intro code h₃ tk₃ ps' hx₃ hsz hcode₃ htab₃ hmore
    have M₃ : BMod h₃ env.globals mg bm ob := M'.extBut htab' hx₃
    have hl₃ : h₃.NoLimit := hl2.extBut hx₃ hcP
    have h1 : s.heap.objs.size < h₃.objs.size := Nat.lt_of_lt_of_le (by rw [hps]; exact Nat.lt_succ_self _) hsz
    have hIP : s.heap.objs.size ≠ P := Nat.ne_of_gt hPlt
    have hall : ∀ n, passing (fun _ => true) n 0 = List.range n := by
      intro n; unfold passing; simp [List.range_eq_range']
    refine wpAny_builtinsFor M₃.ns M₃.name M₃.ne M₃.obj M₃.cls M₃.dict M₃.data ?_
    refine ⟨s.heap.objs.size, [s.heap.objs.size, l], [s.heap.objs.size], vs.size, _, _, fun _ => true, F, rfl, fun A' hA => Walks.list hA _ l hne vs, ?_, ?_, hl₃, ?_, ?_, ?_⟩
    · exact (Walks.list (prog := prog) (w := w) hh s.heap.objs.size l hne vs).frame _ _ _ ⟨st0, hls'⟩ fun b hb o e => hx₃ b o (by
        rcases List.mem_cons.mp hb with rfl | hb
        · exact hIP
        · rw [List.mem_singleton.mp hb]; exact hlP) e
    · intro b hb
      show b < h₃.objs.size
      rcases List.mem_cons.mp hb with rfl | hb
      · exact h1
      · rw [List.mem_singleton.mp hb]; exact Nat.lt_trans hlt h1
    · intro hm
      rw [List.mem_singleton.mp hm] at hclt
      exact Nat.lt_irrefl _ hclt
    · intro href hhref
      refine ⟨fun A' E' i v t m₂ hA hD hU hP hn hm hkp => wpAny_pure ⟨rfl, t.heap, t.toks, rfl, fun _ _ e => e⟩, fun A' E' i v t m₂ hA hD hU hP _ hn hm hkp => quiet code _ A' E' i v t m₂ hA hD hU hP hn hm fun b o hbP e => ?_⟩
      have e₃ := hx₃ b o hbP (kp b o e)
      have hbl := Heap.lt_size e
      exact hkp b (List.mem_range.mpr (Heap.lt_size e₃)) (fun hm => Nat.ne_of_lt hbl (List.mem_singleton.mp hm)) o (hhref b o e₃)
    · intro a h₅ tk gs hgb hag hsz₅ hk₅ W hat
      refine hQ a _ ps' (hcode₃.keeps hk₅) (htab₃.keeps hk₅) hmore (G.push hgb) rfl rfl (fun b o hb e => hk₅ b o (hx₃ b o hb (kp b o e))) ?_
      have e1 : (passing (fun _ => true) vs.size 0).length = vs.size := by rw [hall]; simp
      rw [e1] at W
      have W' : WalksS prog w A.in4 a (a :: h₃.objs.size :: List.range h₃.objs.size) (h₃.objs.size :: [s.heap.objs.size]) (GenOnlyQ s.gens.size) vs.size F (GenAt prog w A.in4 a s.gens.size h₃.objs.size (List.range h₃.objs.size) [s.heap.objs.size] (fun _ => true) vs.size F) := by
        refine ⟨W.sub, W.grefl, W.gtrans, W.frame, fun i s Q E hi st k => W.item i s Q E hi st fun v s' hP => k v s' ?_, W.done, W.self⟩
        obtain ⟨j, hj, hF⟩ := hP
        rw [hall, List.getElem?_range hi] at hj
        exact Option.some.inj hj ▸ hF
      refine ⟨_, _, _, _, W', hat, (fun i s' st => st.1.typeIs), List.mem_cons_self, ?_, ?_⟩
      · intro b hb
        show b < h₅.objs.size
        rw [hsz₅]
        rcases List.mem_cons.mp hb with rfl | hb
        · exact Nat.lt_succ_self _
        · rcases List.mem_cons.mp hb with rfl | hb
          · exact Nat.lt_succ_of_lt hag
          · exact Nat.lt_succ_of_lt (Nat.lt_trans (List.mem_range.mp hb) hag)
      · intro b hb
        rcases List.mem_cons.mp hb with rfl | hb
        · show s.heap.objs.size - 1 < h₃.objs.size; omega
        · rw [List.mem_singleton.mp hb]; exact Nat.sub_lt (Nat.lt_of_le_of_lt (Nat.zero_le _) hlt) Nat.one_pos
  cases hc : codeAmong pos ps.toList with
  | none => exact wpAny_genexprCodeX hcode hok' htab' hc fun c' h₃ tk₃ hx₃ hge hlt' hcode₃ _ htab₃ _ => main _ _ _ _ hx₃ (Nat.le_trans hge (Nat.le_of_lt hlt')) hcode₃ htab₃ ⟨_, rfl⟩
  | some c' => exact wpAny_genexprCode_hit hcode hok' hc (main _ _ _ _ (fun b o _ e => e) (Nat.le_refl _) hok' htab' ⟨#[], by simp⟩)
end
end Mine
end

/- Gen2 -/
section
open PySem PySem.W PyProof.Rows PySem.Calls PySem.Spec
open PySem.W.X (tableObj)
set_option linter.unusedVariables false
namespace Mine
/-- the code object c keeps its codes in the table P -/
def CodeTab (K : Frag) (c P : Addr) : Prop := ∀ (h : Heap) (ps : Array Value), K.In h → h.get? P = some (tableObj ps) → TriplesOk ps.toList → h.IsCode c P ps ∧ h.TableAt c P ps
section
variable {w : World} {h : Heap}
set_option maxRecDepth 100000 in
set_option maxHeartbeats 2000000 in
theorem ct56 : CodeTab (hd.heap_39 w.params) 56 52 ∧ (∀ h, (hd.heap_39 w.params).In h → Looks (model PySem.Challenge.rw_bb0001_01.row.prog w) h (isSubtype (.ref 75) (.type "set")) true) := by
  k_fill
  refine ⟨fun h ps X hP ht => ?_, fun h X => looks_mroIn X (by k_is)⟩
  have hc := X 56 _ (by k_is)
  exact ⟨⟨_, _, _, _, _, _, _, _, _, _, hc, rfl, rfl, rfl, rfl, rfl, rfl, hP, rfl, ht, by decide⟩, ⟨_, _, hc, rfl, rfl, rfl⟩, hP⟩
set_option maxRecDepth 100000 in
set_option maxHeartbeats 2000000 in
theorem ct84 : CodeTab (hd.heap_39 w.params) 84 80 ∧ (∀ h, (hd.heap_39 w.params).In h → Looks (model PySem.Challenge.rw_bb0001_01.row.prog w) h (isSubtype (.ref 75) (.type "set")) true) := by
  k_fill
  refine ⟨fun h ps X hP ht => ?_, fun h X => looks_mroIn X (by k_is)⟩
  have hc := X 84 _ (by k_is)
  exact ⟨⟨_, _, _, _, _, _, _, _, _, _, hc, rfl, rfl, rfl, rfl, rfl, rfl, hP, rfl, ht, by decide⟩, ⟨_, _, hc, rfl, rfl, rfl⟩, hP⟩
set_option maxRecDepth 100000 in
set_option maxHeartbeats 2000000 in
theorem ct92 : CodeTab (hd.heap_39 w.params) 92 88 ∧ (∀ h, (hd.heap_39 w.params).In h → Looks (model PySem.Challenge.rw_bb0001_01.row.prog w) h (isSubtype (.ref 75) (.type "set")) true) := by
  k_fill
  refine ⟨fun h ps X hP ht => ?_, fun h X => looks_mroIn X (by k_is)⟩
  have hc := X 92 _ (by k_is)
  exact ⟨⟨_, _, _, _, _, _, _, _, _, _, hc, rfl, rfl, rfl, rfl, rfl, rfl, hP, rfl, ht, by decide⟩, ⟨_, _, hc, rfl, rfl, rfl⟩, hP⟩
end
theorem triples_of {h : Heap} {c P : Addr} {ps : Array Value} (x : h.IsCode c P ps) : TriplesOk ps.toList := by
  obtain ⟨_, _, _, _, _, _, _, _, _, _, _, _, _, _, _, _, _, _, _, t, _⟩ := x
  exact t
section
variable {prog : Program} {w : World} {A : Around} {E : Value → Shared → Prop} {s : Shared} {c P L : Addr} {ps : Array Value} {mg mb : Str → Option Value} {h₀ : Heap} {m : Str → Option Value} {K : Frag} {p9 : Program} {lo9 : List Str} {mean : ExcName → Option Value} {rest : List (Addr × Obj)}
theorem gen_k {NG : Nat} {env : Env} {elt iter : Expr} {x : Str} {px : Pos} {scope : Scope} {cl : List (Str × Addr)} {pos : Pos} {Q : Value → Shared → Prop} {l : Addr} {vs : Array Value} {nl : Nat}
    (F₀ : Fr h₀ L s.heap m) (X : K.In h₀) (N : News h₀ L s.heap ((P, tableObj ps) :: rest)) (T : Top p9 lo9 mean mg mb h₀) (G : GB NG s.gens) (CT : CodeTab K c P) (htr : TriplesOk ps.toList) (hP : ∀ p ∈ rest, p.1 ≠ P)
    (heval : ∀ Q' : Value → Shared → Prop, Q' (.ref l) s → wpAny (model prog w) A (eval iter env) Q' E s)
    (hl : (l, { cls := .type "list", data := .seq vs nl }) ∈ rest) (hglob : env.globals = mainGlobals)
    (hcode : env.code = .ref c)
    (hh : A.handled = none) (hco : scope.isCoroutine = false) (hclos : closureFor scope env = pure cl) (hcell : ∀ y ∈ scope.names, y.2 ≠ .cell) (h0 : scope.names.lookup (".0" : Str) = some NameKind.local)
    (hx : scope.names.lookup x = some .local) (hkind : scope.kind = .function) (hroom : A.depth < recursionLimit) (F : Nat → Value → Prop)
    (quiet : ∀ (code : Value) (C : Addr) (A' : Around) E' i v (t : Shared) m₂, A'.handled = none → A'.depth ≤ A.depth + 1 → A'.units ≤ A.units + 8 → vs[i]? = some v → t.heap.Ns C m₂ → m₂ x = some v → (∀ b o, b ≠ P → s.heap.get? b = some o → t.heap.get? b = some o) →
          wpAny (model prog w) A' (eval elt (genEnv scope cl C code builtinsNs env)) (fun y s₃ => F i y ∧ Keeps t s₃) E' t)
    (hQ : ∀ (a : Addr) (s₅ : Shared) ps' k, (∃ more, ps' = ps ++ more) → TriplesOk ps'.toList → GB NG s₅.gens → s₅.os = s.os → Fr h₀ L s₅.heap m → News h₀ L s₅.heap ((P, tableObj ps') :: rest) → L ≤ k → (∀ p ∈ (P, tableObj ps') :: rest, p.1 ≤ k) →
          Gen prog w A k a vs.size F s₅ → Q (.ref a) s₅)
    (hs : ∀ x, genFold iter env x = pure x) :
    wpAny (model prog w) A (eval (.GeneratorExp elt [⟨.Name x px, iter, [], 0⟩] scope pos) env) Q E s := by
  obtain ⟨bm, ob, b1, b2, b3, b4, b5, b6⟩ := T.bmain
  obtain ⟨i1, i2⟩ := CT s.heap ps (X.keeps F₀.keep) (N _ (.head _)).1 htr
  have M : BMod s.heap env.globals mg bm ob := ⟨hglob ▸ T.g.keeps F₀.keep, b1, b2, F₀.keep _ _ b3, b4, b5, b6⟩
  refine gen_list heval (N _ (.tail _ hl)).1 G (T.nolimit.keeps F₀.keep) M hcode i1 i2 hh hco hclos hcell h0 hx hkind hroom F quiet (fun a s₅ ps' j1 j2 hm hg hos hdr hk hGen => ?_) hs
  have hsz : ∀ p ∈ (P, tableObj ps') :: rest, p.1 ≤ s.heap.objs.size - 1 := by
    intro p hp
    have : p.1 < s.heap.objs.size := by
      rcases List.mem_cons.mp hp with rfl | hp
      · exact Heap.lt_size (N _ (.head _)).1
      · exact Heap.lt_size (N _ (.tail _ hp)).1
    exact Nat.le_sub_one_of_lt this
  exact hQ a s₅ ps' _ hm (triples_of j1) hg hos (fr_but F₀ (N _ (.head _)).2.1 (N _ (.head _)).2.2 hk) (news_but N hP j2.2 hk) (Nat.le_sub_one_of_lt F₀.ns.lt) hsz hGen
variable {k a : Addr} {n : Nat} {F : Nat → Value → Prop} {led : List (Addr × Obj)} {Q : Value → Shared → Prop}
theorem all_k {NG : Nat} (F₀ : Fr h₀ L s.heap m) (N : News h₀ L s.heap led) (G : GB NG s.gens) (X : Gen prog w A k a n F s) (hLK : L ≤ k) (hk : ∀ p ∈ led, p.1 ≤ k) (tr : Nat → Bool) (htr : TruthOf prog w A.in1 F tr)
    (hQ : ∀ s', Fr h₀ L s'.heap m → News h₀ L s'.heap led → GB NG s'.gens → s'.os = s.os → Q (.bool ((List.range n).all tr)) s') : wpAny (model prog w) A (call (.builtin "all") [.ref a]) Q E s := by
  obtain ⟨fp, wr, g, St, W, hst, _, _, hfp, hwr⟩ := X
  have W := W.in4_1
  exact call_all_walkS (W.self 0 _ _ _ hst ⟨a, _, _, _, _, _, _, tr, rfl, W, hst, htr, fun s' hm => hQ s' (F₀.moved hm fun b hb => Nat.lt_of_le_of_lt hLK (hwr b hb)) (fun p hp => ⟨hm.heap _ _ (fun hmem => Nat.lt_irrefl _ (Nat.lt_of_lt_of_le (hwr _ hmem) (hk p hp))) (N p hp).1, (N p hp).2⟩) (G.movedS hm) hm.os⟩)
theorem any_k {NG : Nat} (F₀ : Fr h₀ L s.heap m) (N : News h₀ L s.heap led) (G : GB NG s.gens) (X : Gen prog w A k a n F s) (hLK : L ≤ k) (hk : ∀ p ∈ led, p.1 ≤ k) (tr : Nat → Bool) (htr : TruthOf prog w A.in1 F tr)
    (hQ : ∀ s', Fr h₀ L s'.heap m → News h₀ L s'.heap led → GB NG s'.gens → s'.os = s.os → Q (.bool ((List.range n).any tr)) s') : wpAny (model prog w) A (call (.builtin "any") [.ref a]) Q E s := by
  obtain ⟨fp, wr, g, St, W, hst, _, _, hfp, hwr⟩ := X
  have W := W.in4_1
  exact call_any_walkS (W.self 0 _ _ _ hst ⟨a, _, _, _, _, _, _, tr, rfl, W, hst, htr, fun s' hm => hQ s' (F₀.moved hm fun b hb => Nat.lt_of_le_of_lt hLK (hwr b hb)) (fun p hp => ⟨hm.heap _ _ (fun hmem => Nat.lt_irrefl _ (Nat.lt_of_lt_of_le (hwr _ hmem) (hk p hp))) (N p hp).1, (N p hp).2⟩) (G.movedS hm) hm.os⟩)
end
section
variable {prog : Program} {w : World} {A : Around} {E : Value → Shared → Prop} {t : Shared} {env : Env} {x y : Str} {p1 p2 p3 : Pos} {kt : Nat} {m : Str → Option Value} {k n : Int} {tk tn : Tok}
theorem quiet_ge0 (hk : env.scope.kind = .function) (hx : env.kindOf x = some .local) (hn : t.heap.Ns env.locals m) (hm : m x = some (.int k tk)) (h0 : 0 ≤ k) (hd : (x == ("__debug__" : Str)) = false) :
    wpAny (model prog w) A (eval (.Compare (.Name x p1) [.GtE] [.Constant (.int 0) kt p2] p3) env) (fun v s₃ => v = .bool true ∧ Keeps t s₃) E t := by
  refine wpAny_Compare1 (wpAny_Name (wpAny_loadName_local hk hx hn hm ?_) hd) (by rfl)
  refine wpAny_Constant_int ?_
  refine ge_int ⟨by simp [h0], t.heap, _, rfl, fun _ _ e => e⟩
theorem quiet_gef {c : Addr} {o : Obj} (hk : env.scope.kind = .function) (hx : env.kindOf x = some .local) (hy : env.kindOf y = some .free) (hn : t.heap.Ns env.locals m) (hm : m x = some (.int k tk)) (hc : env.cells.lookup y = some c) (ho : t.heap.get? c = some o) (hod : o.data = .cell (some (.int n tn))) (h0 : k < n) (hd : (x == ("__debug__" : Str)) = false) (hd' : (y == ("__debug__" : Str)) = false) (hcd : (y == ("__classdict__" : Str)) = false) :
    wpAny (model prog w) A (eval (.Compare (.Name x p1) [.GtE] [.Name y p2] p3) env) (fun v s₃ => v = .bool false ∧ Keeps t s₃) E t := by
  refine wpAny_Compare1 (wpAny_Name (wpAny_loadName_local hk hx hn hm ?_) hd) (by rfl)
  refine wpAny_Name (wpAny_loadName_free hk hy hc ⟨_, ho, hod⟩ ?_ hcd) hd'
  refine ge_int ⟨by simp; omega, t.heap, _, rfl, fun _ _ e => e⟩
theorem truth_const {P : Nat → Value → Prop} (b : Bool) (h : ∀ i v, P i v → v = .bool b) : TruthOf prog w A P (fun _ => b) := fun i v s Q E hP hQ => by
  rw [h i v hP]; exact wpAny_truthy_bool hQ
end
section
variable {prog : Program} {w : World} {A : Around} {E : Value → Shared → Prop} {s : Shared} {L : Addr} {h₀ : Heap} {m : Str → Option Value} {k a : Addr} {n : Nat} {F : Nat → Value → Prop} {led : List (Addr × Obj)} {Q : Value → Shared → Prop}
theorem all_kt {NG : Nat} (F₀ : Fr h₀ L s.heap m) (N : News h₀ L s.heap led) (G : GB NG s.gens) (X : Gen prog w A k a n (fun _ v => v = .bool true) s) (hLK : L ≤ k) (hk : ∀ p ∈ led, p.1 ≤ k)
    (hQ : ∀ h' g' d' t' o', Fr h₀ L h' m → News h₀ L h' led → GB NG g' → o' = s.os → Q (.bool true) ⟨h', g', d', t', o'⟩) : wpAny (model prog w) A (call (.builtin "all") [.ref a]) Q E s :=
  all_k F₀ N G X hLK hk (fun _ => true) (truth_const true fun _ _ h => h) fun s' f nn g o => by
    have e : (List.range n).all (fun _ => true) = true := by simp
    rw [e]; exact hQ _ _ _ _ _ f nn g o
theorem any_kf {NG : Nat} (F₀ : Fr h₀ L s.heap m) (N : News h₀ L s.heap led) (G : GB NG s.gens) (X : Gen prog w A k a n (fun _ v => v = .bool false) s) (hLK : L ≤ k) (hk : ∀ p ∈ led, p.1 ≤ k)
    (hQ : ∀ h' g' d' t' o', Fr h₀ L h' m → News h₀ L h' led → GB NG g' → o' = s.os → Q (.bool false) ⟨h', g', d', t', o'⟩) : wpAny (model prog w) A (call (.builtin "any") [.ref a]) Q E s :=
  any_k F₀ N G X hLK hk (fun _ => false) (truth_const false fun _ _ h => h) fun s' f nn g o => by
    have e : (List.range n).any (fun _ => false) = false := by simp
    rw [e]; exact hQ _ _ _ _ _ f nn g o
end
theorem mem_swap {α : Type} {a b : α} {l : List α} : ∀ p ∈ a :: b :: l, p ∈ b :: a :: l := fun p hp => by
  rcases List.mem_cons.mp hp with rfl | hp
  · exact .tail _ (.head _)
  · rcases List.mem_cons.mp hp with rfl | hp
    · exact .head _
    · exact .tail _ (.tail _ hp)
theorem mem_rot3 {α : Type} {a b c : α} {l : List α} : ∀ p ∈ c :: a :: b :: l, p ∈ a :: b :: c :: l := fun p hp => by
  rcases List.mem_cons.mp hp with rfl | hp
  · exact .tail _ (.tail _ (.head _))
  · rcases List.mem_cons.mp hp with rfl | hp
    · exact .head _
    · rcases List.mem_cons.mp hp with rfl | hp
      · exact .tail _ (.head _)
      · exact .tail _ (.tail _ (.tail _ hp))
end Mine
end

/- SetIt -/
section
open PySem PySem.W PyProof.Rows PySem.Calls PySem.Spec
set_option linter.unusedVariables false
namespace Mine
theorem slot_setit_next : Slot "set_iterator" "__next__" "set_iterator.__next__" :=
  .of (owner := "set_iterator") (n := "__next__") (by rw [typeLookup_type, builtinLookup_eq_fast]; kernel_rfl) (by decide +kernel) (by decide +kernel) (by decide +kernel)
    (by first | exact .inl (by decide +kernel) | exact .inr (by decide +kernel)) (by rw [isSubtype_type]; kernel_rfl)
theorem slot_setit_iter : Slot "set_iterator" "__iter__" "set_iterator.__iter__" :=
  .of (owner := "set_iterator") (n := "__iter__") (by rw [typeLookup_type, builtinLookup_eq_fast]; kernel_rfl) (by decide +kernel) (by decide +kernel) (by decide +kernel)
    (by first | exact .inl (by decide +kernel) | exact .inr (by decide +kernel)) (by rw [isSubtype_type]; kernel_rfl)
theorem entry_setit_next : entryFor table "set_iterator.__next__" = some Builtin.«set_iterator.__next__» := entryFor_of_tree (by kernel_rfl)
theorem entry_setit_iter : entryFor table "set_iterator.__iter__" = some Builtin.«dict_keyiterator.__iter__» :=
  entryFor_alias (id' := "dict_keyiterator.__iter__") (by rw [fastTable_eq_tree]; kernel_rfl) rfl (by decide +kernel) (by rw [fastTable_eq_tree]; kernel_rfl)
theorem args_setit_next (a : Value) : argsOk "set_iterator.__next__" ⟨[a], []⟩ := by unfold argsOk; kernel_rfl
theorem args_setit_iter (a : Value) : argsOk "set_iterator.__iter__" ⟨[a], []⟩ := by unfold argsOk; kernel_rfl
/-- whether sets walk in the order of the given text -/
abbrev bt (w : World) : Bool := w.params.followText "set-order"
/-- the order in which the set at a walks -/
def ordOf (w : World) (a : Addr) (ep : Nat) (ks : List Nat) : List Nat := if bt w then (pickOrder (w.params.setOrder a ep) ks.toArray).toList else ks
theorem erase_map {α β : Type} (f : α → β) : ∀ (l : List α) (i : Nat), (l.eraseIdx i).map f = (l.map f).eraseIdx i
  | [], _ => by simp
  | x :: l, 0 => by simp
  | x :: l, i + 1 => by simp [erase_map f l i]
theorem erase_perm {α : Type} : ∀ (l : List α) (i : Nat) (h : i < l.length), (l[i] :: l.eraseIdx i).Perm l
  | x :: l, 0, _ => by simp
  | x :: l, i + 1, h => by
    have h' : i < l.length := by simpa using h
    simp only [List.getElem_cons_succ, List.eraseIdx_cons_succ]
    exact (List.Perm.swap ..).trans (List.Perm.cons _ (erase_perm l i h'))
theorem pick_map {α β : Type} (f : α → β) (next : Nat → Nat) : ∀ (n k : Nat) (l : List α) (out : Array α), (pickOrder.go next n k l out).map f = pickOrder.go next n k (l.map f) (out.map f)
  | 0, _, _, _ => by simp [pickOrder.go]
  | n + 1, k, l, out => by
    simp only [pickOrder.go, List.length_map, List.getElem?_map]
    cases h : l[next k % l.length]? with
    | none => simp
    | some x =>
      simp only [Option.map_some]
      rw [pick_map f next n (k + 1) _ _, Array.map_push, erase_map]
theorem pick_perm {α : Type} (next : Nat → Nat) : ∀ (n k : Nat) (l : List α) (out : Array α), l.length = n → (pickOrder.go next n k l out).toList.Perm (out.toList ++ l)
  | 0, _, l, out, h => by
    have : l = [] := List.eq_nil_of_length_eq_zero h
    subst this
    simp [pickOrder.go]
  | n + 1, k, l, out, h => by
    have hlt : next k % l.length < l.length := Nat.mod_lt _ (by omega)
    simp only [pickOrder.go, List.getElem?_eq_getElem hlt]
    refine (pick_perm next n (k + 1) _ _ (by rw [List.length_eraseIdx_of_lt hlt]; omega)).trans ?_
    rw [Array.toList_push, List.append_assoc]
    refine List.Perm.append_left _ ?_
    exact erase_perm _ _ hlt
theorem ord_perm (w : World) (a : Addr) (ep : Nat) (ks : List Nat) : (ordOf w a ep ks).Perm ks := by
  unfold ordOf
  split
  · unfold pickOrder
    have := pick_perm (w.params.setOrder a ep) ks.toArray.size 0 ks.toArray.toList #[] (by simp)
    simpa using this
  · exact List.Perm.refl _
/-- the slot that the iterator holds before its i-th item, in a set that walks in the order of its table -/
def slotAt (ks : List Nat) : Nat → Nat
  | 0 => 0
  | i + 1 => ks.getD i 0 + 1
theorem below_slot : ∀ ks ∈ subs, ∀ i, i ≤ ks.length → SetTable.below ks.toArray (slotAt ks i) = i := by
  intro ks h i hi
  have h4 := sz_subs ks h
  have hi' : i = 0 ∨ i = 1 ∨ i = 2 ∨ i = 3 ∨ i = 4 := by omega
  revert hi
  rcases hi' with rfl | rfl | rfl | rfl | rfl <;> (revert ks; decide +kernel)
end Mine
end

/- SetWk -/
section
open PySem PySem.W PyProof.Rows PySem.Calls PySem.Spec
set_option linter.unusedVariables false
namespace Mine
section
variable {prog : Program} {w : World} {A : Around} {E : Value → Shared → Prop} {s : Shared} {I a dx : Addr} {ks : List Nat} {tk : Nat → Tok} {ep : Nat}
def itObj (slot i : Nat) (a : Addr) (n ep : Nat) : Obj := { cls := .type "set_iterator", data := .fields #[.int slot 0, .int i 0, .ref a, .int n 0, .int ep 0] }
def SetSt (w : World) (I a dx : Addr) (ks : List Nat) (tk : Nat → Tok) (ep : Nat) (i : Nat) (h : Heap) : Prop :=
  ∃ slot, h.get? I = some (itObj slot i a ks.length ep) ∧ h.get? a = some (csObj dx (esOf ks tk) ep (tabS ks (!bt w))) ∧ (bt w = false → slot = slotAt ks i)
theorem es_get (ks : List Nat) (tk : Nat → Tok) (i : Nat) : (esOf ks tk)[i]? = (ks[i]?).map fun (k : Nat) => ((k : Int), Value.int (k : Int) (tk k)) := by
  simp [esOf]
theorem pick_es (next : Nat → Nat) (ks : List Nat) (tk : Nat → Tok) : pickOrder next (esOf ks tk) = (pickOrder next ks.toArray).map fun (k : Nat) => ((k : Int), Value.int (k : Int) (tk k)) := by
  unfold pickOrder
  rw [pick_map]
  simp [esOf]
theorem set_next {i : Nat} {Q : Option (Value × Nat) → Shared → Prop} {slot : Nat} (hks : ks ∈ subs) (ha : s.heap.get? a = some (csObj dx (esOf ks tk) ep (tabS ks (!bt w)))) (hs : bt w = false → slot = slotAt ks i) (hi : i ≤ ks.length)
    (h1 : ∀ k, (ordOf w a ep ks)[i]? = some k → ∀ slot', (bt w = false → slot' = slotAt ks (i + 1)) → Q (some (Value.int (k : Int) (tk k), slot')) s) (h0 : (ordOf w a ep ks)[i]? = none → Q none s) :
    wpAny (model prog w) A (setNext a slot i ep) Q E s := by
  unfold setNext
  refine wpAny_bind (wpAny_setState_of ha rfl (fits_subs _ ks hks tk) ?_)
  dsimp only
  unfold setsByText
  refine wpAny_bind (wpAny_bind (wpAny_askSetting (wpAny_pure ?_)))
  show wpAny _ _ (if bt w = true then _ else _) _ _ _
  cases hb : bt w with
  | true =>
    rw [if_pos rfl, if_neg (by simp)]
    unfold setWalk
    refine wpAny_bind ?_
    refine wpAny_bind (wpAny_setState_of ha rfl (fits_subs _ ks hks tk) ?_)
    dsimp only
    unfold setsByText
    refine wpAny_bind (wpAny_bind (wpAny_askSetting (wpAny_pure ?_)))
    show wpAny _ _ (if bt w = true then _ else _) _ _ _
    rw [if_pos hb]
    refine wpAny_bind (wpAny_askSetting (wpAny_pure ?_))
    refine wpAny_pure ?_
    have e : (pickOrder ((model prog w).w.params.setOrder a ep) (esOf ks tk))[i]? = ((ordOf w a ep ks)[i]?).map fun (k : Nat) => ((k : Int), Value.int (k : Int) (tk k)) := by
      rw [pick_es]
      unfold ordOf
      rw [if_pos hb, Array.getElem?_map, Array.getElem?_toList]
      rfl
    rw [e]
    cases q : (ordOf w a ep ks)[i]? with
    | none => exact h0 q
    | some k => exact h1 k q slot (fun h => by rw [hb] at h; cases h)
  | false =>
    rw [if_neg (by decide)]
    show wpAny _ _ (if false = true then _ else _) _ _ _
    rw [if_neg (by decide)]
    refine wpAny_bind (wpAny_of_eq (a := ()) (by rfl) ?_)
    refine wpAny_pure ?_
    have hb' := hs hb
    subst hb'
    show Q (match (esOf ks tk)[SetTable.below ks.toArray (slotAt ks i)]?, ks.toArray[SetTable.below ks.toArray (slotAt ks i)]? with
        | some (_, x), some j => some (x, j + 1)
        | _, _ => none) s
    rw [below_slot ks hks i hi, es_get]
    have e : ordOf w a ep ks = ks := by unfold ordOf; rw [if_neg (by rw [hb]; decide)]
    rw [e] at h1 h0
    cases q : ks[i]? with
    | none => simp [q]; exact h0 q
    | some k =>
      simp [q]
      refine h1 k q _ fun _ => ?_
      simp [slotAt, List.getD, q]

theorem set_size {Q : Nat → Shared → Prop} (hks : ks ∈ subs) (ha : s.heap.get? a = some (csObj dx (esOf ks tk) ep (tabS ks (!bt w)))) (hq : Q ks.length s) : wpAny (model prog w) A (do return (← setEntries a).size) Q E s := by
  refine wpAny_bind (wpAny_setEntries_of ha rfl (fits_subs _ ks hks tk) (wpAny_pure ?_))
  have : (esOf ks tk).size = ks.length := by simp [esOf]
  rw [this]; exact hq
theorem setit_item {i k : Nat} {Q : Option Value → Shared → Prop} (hks : ks ∈ subs) (st : SetSt w I a dx ks tk ep i s.heap) (haI : a ≠ I) (hi : i < ks.length) (hk : (ordOf w a ep ks)[i]? = some k)
    (hQ : ∀ h', SetSt w I a dx ks tk ep (i + 1) h' → Heap.SameBut I s.heap h' → Q (some (.int (k : Int) (tk k))) { s with heap := h' }) :
    wpAny (model prog w) A (pyNext (.ref I)) Q E s := by
  obtain ⟨slot, ho, ha, hs⟩ := st
  have hT : s.TypeIs (.ref I) "set_iterator" := ⟨_, ho, rfl⟩
  unfold pyNext
  refine wpAny_bind (wpAny_attempt (wpAny_callSpecial?_slot (name := Str.ofString "__next__") hT slot_setit_next
    (wpAny_call_entry slot_setit_next hT entry_setit_next ?_ (args_setit_next _))))
  unfold Builtin.«set_iterator.__next__»
  refine wpAny_bind (wpAny_of_eq (a := (Value.ref I, [])) (by rfl) ?_)
  refine wpAny_bind (wpAny_fieldsOf ho rfl ?_)
  dsimp only
  refine wpAny_bind ?_
  refine wpAny_setEntries_of ha rfl (fits_subs _ ks hks tk) ?_
  rw [if_neg (by simp [esOf])]
  simp only [Int.toNat_natCast]
  refine wpAny_bind ?_
  refine set_next (i := i) hks ha hs (Nat.le_of_lt hi) (fun k' hk' slot' hs' => ?_) (fun h0 => by rw [hk] at h0; cases h0)
  obtain rfl : k = k' := Option.some.inj (hk.symm.trans hk')
  dsimp only
  refine wpAny_bind (wpAny_setField_rec ho (by simp) fun h1 e1 s1 => ?_)
  refine wpAny_bind (wpAny_setField_rec e1 (by simp) fun h2 e2 s2 => ?_)
  refine wpAny_pure ⟨_, rfl, wpAny_pure (hQ h2 ⟨slot', ?_, ?_, hs'⟩ (s1.trans s2))⟩
  · rw [e2]; simp [itObj, rawInt]
  · rw [s2.2 a haI, s1.2 a haI]; exact ha
theorem setit_end {Q : Option Value → Shared → Prop} (hh : A.handled = none) (hks : ks ∈ subs) (st : SetSt w I a dx ks tk ep ks.length s.heap) (haI : a ≠ I) 
    (hQ : ∀ h', Heap.ExtBut I s.heap h' → Q none { s with heap := h' }) :
    wpAny (model prog w) A (pyNext (.ref I)) Q E s := by
  obtain ⟨slot, ho, ha, hs⟩ := st
  have hT : s.TypeIs (.ref I) "set_iterator" := ⟨_, ho, rfl⟩
  have hlen : (ordOf w a ep ks)[ks.length]? = none := by
    rw [List.getElem?_eq_none_iff, (ord_perm w a ep ks).length_eq]; exact Nat.le_refl _
  unfold pyNext
  refine wpAny_bind (wpAny_attempt (wpAny_callSpecial?_slot (name := Str.ofString "__next__") hT slot_setit_next
    (wpAny_call_entry slot_setit_next hT entry_setit_next ?_ (args_setit_next _))))
  unfold Builtin.«set_iterator.__next__»
  refine wpAny_bind (wpAny_of_eq (a := (Value.ref I, [])) (by rfl) ?_)
  refine wpAny_bind (wpAny_fieldsOf ho rfl ?_)
  dsimp only
  refine wpAny_bind ?_
  refine wpAny_setEntries_of ha rfl (fits_subs _ ks hks tk) ?_
  rw [if_neg (by simp [esOf])]
  simp only [Int.toNat_natCast]
  refine wpAny_bind ?_
  refine set_next (i := ks.length) hks ha hs (Nat.le_refl _) (fun k' hk' slot' hs' => by rw [hlen] at hk'; cases hk') (fun h0 => ?_)
  dsimp only
  refine wpAny_bind (wpAny_setField_rec ho (by simp) fun h1 e1 s1 => ?_)
  refine wpAny_bind ?_
  simp only [newExc, newTuple]
  refine wpAny_bind (wpAny_newObj_type ?_ (by size_fits))
  refine wpAny_bind (m := firstArgMember _ _) (wpAny_of_eq (a := Value.none) (by first | rfl | (simp only [firstArgMember]; rfl)) ?_)
  refine wpAny_newObj_type ?_ (by size_fits)
  simp only [raiseNew]
  refine wpAny_bind (wpAny_handled ?_)
  rw [show A.in1.handled = none from hh]
  refine wpAny_bind (wpAny_pure (wpAny_throw ?_))
  refine wpAny_bind (wpAny_isInstance (T := "StopIteration") (b := true) ⟨_, Heap.get?_push_size _ rfl, rfl⟩ isSubtype_stop ?_)
  exact wpAny_pure (hQ _ ((s1.extBut.push _).push _))
theorem Walks.cset (hh : A.handled = none) (I a dx : Addr) (hne : a ≠ I) (ks : List Nat) (hks : ks ∈ subs) (tk : Nat → Tok) (ep : Nat) :
    Walks prog w A I [I, a] [I] ks.length (fun i v => ∃ k, (ordOf w a ep ks)[i]? = some k ∧ v = .int (k : Int) (tk k)) (SetSt w I a dx ks tk ep) where
  sub := fun b hb => by simp at hb; simp [hb]
  frame := fun _ _ _ st hk => let ⟨slot, h1, h2, h3⟩ := st; ⟨slot, hk I (by simp) _ h1, hk a (by simp) _ h2, h3⟩
  item := fun i s Q E hi st hQ => by
    have hl : i < (ordOf w a ep ks).length := by rw [(ord_perm w a ep ks).length_eq]; exact hi
    refine setit_item hks st hne hi (List.getElem?_eq_getElem hl) fun h' st' hs' => ?_
    exact hQ _ h' s.toks ⟨_, List.getElem?_eq_getElem hl, rfl⟩ st' fun b o hb e => hs'.extBut b o (fun h => hb (by simp [h])) e
  done := fun s Q E st hQ => setit_end hh hks st hne fun h' he' => hQ h' s.toks fun b o hb e => he' b o (fun h => hb (by simp [h])) e
  self := fun i s Q E st hQ => by
    obtain ⟨slot, ho, -, -⟩ := st
    have hT : s.TypeIs (.ref I) "set_iterator" := ⟨_, ho, rfl⟩
    refine wpAny_pyIter_slot hT slot_setit_iter (wpAny_call_entry slot_setit_iter hT entry_setit_iter ?_ (args_setit_iter _))
    show wpAny _ _ (ret (.ref I)) _ _ s
    exact wpAny_pure ⟨_, rfl, "set_iterator", _, hT, slot_setit_next.lookup, hQ⟩
end
end Mine
end

/- Ent -/
section
open PySem PySem.W PyProof.Rows PySem.Calls PySem.Spec
set_option linter.unusedVariables false
namespace Mine
abbrev scEnv (name : Str) (scope : Scope) (L a : Addr) (cd : Value) (n₁ : Str) (cc : Addr) : Env := envX name scope L a cd [(n₁, L + 1), ("__class__", cc)]
section
variable {prog : Program} {w : World} {A₀ A : Around} {s : Shared} {base h₀ : Heap} {outer : List Env} {L : Addr} {m mg mb : Str → Option Value} {env : Env} {news : List (Addr × Obj)} {K : Frag} {p : Program} {loose : List Str} {mean : ExcName → Option Value}
  {R : Result → Shared → Prop} {name qual : Str} {params : Arguments} {body : List Stmt} {scope : Scope} {dV kV doc pm cdv ct oc : Value} {an od : Option Addr} {osl : Array (Option Value)} {f cc : Addr} {args : Args} {a1 a2 n₁ : Str} {v1 v2 v3 : Value}
/-- entering a def of three parameters (the third one a cell) that closes over __class__ -/
theorem code_super_cell (B : Below A₀ base outer h₀) (F : Fr h₀ L s.heap m) (X₀ : K.In h₀) (N : News h₀ L s.heap news) (T : Top p loose mean mg mb h₀) (hA : A.frames = some (env :: outer)) (hf : env.frame = some L) (hke : env.scope.kind = .function)
    (ho : K.lookup f = some ⟨oc, od, .func (fnX name qual params body scope [("__class__", cc)] dV kV doc pm an cdv ct), osl⟩) (hcd : codeIn K cdv qual = true) (hroom : A.depth < recursionLimit)
    (hbind : BindsTo s (fnX name qual params body scope [("__class__", cc)] dV kV doc pm an cdv ct) args [(a1, v1), (a2, v2), (n₁, v3)])
    (hl1 : scope.names.lookup a1 = some .local) (hl2 : scope.names.lookup a2 = some .local) (hl3 : scope.names.lookup n₁ = some .cell)
    (hcf : ∀ n acc, cellsFrom n scope.names acc = (n₁, n) :: acc) (hpc : ∀ h : Heap, pushCells h scope.names = h.push { cls := .type "cell", data := .cell none })
    (h : ∀ g L' h₁ tk ob, Fr h₀ L g m → Fr g L' h₁ (fun y => if y = a2 then some v2 else if y = a1 then some v1 else none) → News g L' h₁ ((L' + 1, ob) :: news) → ob.data = .cell (some v3) → Below A base (env :: outer) g → K.In g → Top p loose mean mg mb g → (∀ p ∈ news, p.1 < L') →
      _root_.PySem.wpAt (model prog w) (A.deeper (scEnv qual scope L' f cdv n₁ cc)) (.func body (scEnv qual scope L' f cdv n₁ cc)) (execs body (scEnv qual scope L' f cdv n₁ cc))
        (fun fl s' => LeaveK h₀ L m g R (match fl with | .ret v => v | _ => .none) s')
        (fun e s' => wpAny (model prog w) (A.deeper (scEnv qual scope L' f cdv n₁ cc)) (leaving (scEnv qual scope L' f cdv n₁ cc) e) (fun _ s'' => R (.error e) s'') (fun e' s'' => R (.error e') s'') s')
        { s with heap := h₁, toks := tk })
    (hco : scope.isCoroutine = false := by rfl) (hgen : scope.isGenerator = false := by rfl) (hk : scope.kind = .function := by rfl) : codeAny (model prog w) A (.call (.ref f) args) R s := by
  obtain ⟨FG, BG, st, lv⟩ := groundX (R := R) B F N hA hf hke
  refine codeAny_call_function (fd := fnX name qual params body scope [("__class__", cc)] dV kV doc pm an cdv ct) hroom ((X₀.keeps F.keep) _ _ ho) rfl hco hgen rfl (codeRec_of (X₀.keeps F.keep) hcd) (hbind _ _ _ _ ?_)
  have sz1 : ∀ o : Obj, (s.heap.push o).objs.size = s.heap.objs.size + 1 := fun o => Heap.size_push ..
  simp only [newFunctionEnv, Option.isSome_none, Bool.false_eq_true, if_false]
  refine wpAny_bind (wpAny_alloc ?_)
  refine wpAny_bind (wpAny_layCells _ (fun nm kind cells => by cases hkc : kind == NameKind.cell <;> simp [hkc]) _ _ _ _ ?_)
  rw [hcf, hpc]
  have hz : ({ s with heap := s.heap.push { cls := .type "frame", data := .dict #[] } } : Shared).heap.objs.size = s.heap.objs.size + 1 := sz1 _
  rw [hz]
  have c2 : ((s.heap.push { cls := .type "frame", data := .dict #[] }).push { cls := .type "cell", data := .cell none }).get? (s.heap.objs.size + 1) = some { cls := .type "cell", data := .cell none } := by
    rw [← sz1 { cls := .type "frame", data := .dict #[] }]; exact Heap.get?_push_size _ rfl
  have n2 : ((s.heap.push { cls := .type "frame", data := .dict #[] }).push { cls := .type "cell", data := .cell none }).Ns s.heap.objs.size (fun _ => none) := (Heap.Ns.new s.heap (.type "frame")).keeps fun b o e => Heap.get?_push_of_some _ e
  have k2 : ∀ b o, s.heap.get? b = some o → ((s.heap.push { cls := .type "frame", data := .dict #[] }).push { cls := .type "cell", data := .cell none }).get? b = some o := fun b o e => Heap.get?_push_of_some _ (Heap.get?_push_of_some _ e)
  generalize ((s.heap.push { cls := .type "frame", data := .dict #[] }).push { cls := .type "cell", data := .cell none }) = h2 at c2 n2 k2 ⊢
  simp only [List.forIn_cons, List.forIn_nil]
  refine wpAny_bind (wpAny_bind (wpAny_bind (wpAny_storeName_local (by exact hl1) n2 (fun h3 n3 sb3 => ?_) (by show (scope.kind == .class || (scope.kind == .module && _)) = false; rw [hk]; rfl))))
  refine wpAny_pure ?_
  dsimp only
  refine wpAny_bind (wpAny_bind (wpAny_storeName_local (by exact hl2) n3 (fun h4 n4 sb4 => ?_) (by show (scope.kind == .class || (scope.kind == .module && _)) = false; rw [hk]; rfl)))
  refine wpAny_pure ?_
  dsimp only
  have ne1 : s.heap.objs.size + 1 ≠ s.heap.objs.size := Nat.succ_ne_self _
  have c4 : h4.get? (s.heap.objs.size + 1) = some { cls := .type "cell", data := .cell none } := (sb4.2 _ ne1).trans ((sb3.2 _ ne1).trans c2)
  refine wpAny_bind (wpAny_bind (wpAny_storeName_cell (c := s.heap.objs.size + 1) (v₀ := none) (by exact hk) (by exact hl3) (by simp) (by exact ⟨_, c4, rfl⟩) (fun h5 ic5 sb5 => ?_)))
  refine wpAny_pure ?_
  dsimp only
  have hk5 : ∀ b o, s.heap.get? b = some o → h5.get? b = some o := fun b o e => by
    have lt := Heap.lt_size e
    rw [sb5.2 b (by exact Nat.ne_of_lt (Nat.lt_succ_of_lt lt)), sb4.2 b (by exact Nat.ne_of_lt lt), sb3.2 b (by exact Nat.ne_of_lt lt)]
    exact k2 b o e
  have n5 := n4.sameBut sb5 (Nat.ne_of_lt (Nat.lt_succ_self _))
  refine wpAny_pure ?_
  refine wpAny_pure ⟨?_, ?_⟩
  · exact (T.nolimit.keeps F.keep).keeps hk5
  · refine ks_codeAny_funcAt ?_
    obtain ⟨oc5, ho5, hd5⟩ := ic5
    refine ks_wpAt_mono (h _ s.heap.objs.size h5 _ oc5 FG ⟨n5, fun b o e => hk5 b o (of_hideAll _ e), Nat.le_of_eq (hideAll_size _ _)⟩ (fun p hp => ?_) hd5 BG (X₀.keeps st) (T.keeps st) (fun p hp => Heap.lt_size (N p hp).1)) (fun fl s' hl => lv _ _ hl) fun _ _ y => y
    rcases List.mem_cons.mp hp with rfl | hp
    · refine ⟨ho5, ne1, ?_⟩
      cases q : (hideAll s.heap (news.map (·.1))).get? (s.heap.objs.size + 1) with
      | none => rfl
      | some o => exact absurd (Heap.lt_size (of_hideAll _ q)) (Nat.not_lt.mpr (Nat.le_succ _))
    · exact ⟨hk5 _ _ (N p hp).1, Nat.ne_of_lt (Heap.lt_size (N p hp).1), hideAll_none _ (List.mem_map_of_mem hp)⟩
end
end Mine
end

/- CI -/
section
open PySem.W.X (tableObj)
open PySem PySem.W PyProof.Rows PySem.Calls PySem.Spec
set_option linter.unusedVariables false
namespace Mine
local macro_rules | `(tactic| k_mem) => `(tactic| first | assumption | exact List.Mem.head _ | (refine List.Mem.tail _ ?_; k_mem))
theorem inst_set {h₀ h : Heap} {L x C dx : Addr} {news : List (Addr × Obj)} {od : Obj} {es : Array (Int × Value)} {ep : Nat} {t : SetTable} {sl : Array (Option Value)} (N : News h₀ L h news) (h1 : (x, (⟨.ref C, some dx, .set es ep t, sl⟩ : Obj)) ∈ news) (h2 : (dx, od) ∈ news) :
    InstAt h x ⟨.ref C, some dx, .set es ep t, sl⟩ C (some od) := ⟨(N _ h1).1, rfl, rfl, (N _ h2).1⟩
local macro_rules | `(tactic| k_inst) => `(tactic| (refine' inst_set ?N ?h1 ?h2; (case N => k_asm); (case h1 => k_mem); (case h2 => k_mem)))
set_option hygiene false in
local macro_rules | `(tactic| wtm_at "own call builtin:len") => `(tactic| (k_here; (k_dflt (first | (refine len_x hks X' F4 N4 (by k_mem) ?_) | (refine len_l N4 (by k_mem) hvz ?_))); intro t' tk'; (try dsimp only)))
local macro_rules | `(tactic| wtm_at "own ite") => `(tactic| (k_dflt (first | (refine PySem.W.ite_neg ?hc ?_; (case hc => simp only [beq_iff_eq, bne_iff_ne, ne_eq, Decidable.not_not, decide_eq_true_eq]; omega)) | (refine PySem.W.ite_pos ?hc ?_; (case hc => simp only [beq_iff_eq, decide_eq_true_eq]; omega)))))
set_option hygiene false in
local macro_rules | `(tactic| wtm_at "own exec For Name Name cons nil") => `(tactic| (k_here; (with_unfolding_all refine' For_invVF F4 ?k1 ?k2 ?_; (case k1 => exact rfl); (case k2 => exact rfl); k_whole)))
set_option hygiene false in
local macro_rules | `(tactic| wtm_at "own pyIter ref") => `(tactic| ((with_reducible show wpAny _ _ (pyIter (Value.ref l)) (fun it s₂ => LoopAtV _ _ _ _ _ _ _ _ _ it s₂) _ _); (with_unfolding_all refine iter_led [] (by rfl) (by k_mem) F4 N4 (fun i' v' u' h' tk' o' hi' hv' F5 N5 => ?_) (fun u' h' tk' F5 N5 => ?_)) <;> ((try (obtain ⟨t9', e9'⟩ := hval _ _ hv'; subst e9')); (try dsimp only))))
set_option hygiene false in
local macro_rules | `(tactic| wtm_at "own eval GeneratorExp") => `(tactic| (k_here; (refine gen_k (l := l) (vs := vs) F5 X' (cb_drop N5 mem_rot3) T' hG ct56.1 htr h52' (fun Q' hq => wpAny_Name (wpAny_loadName_local (by exact rfl) (by exact rfl) F5.ns (by exact rfl) hq)) (by k_mem) (by exact rfl) (by exact rfl) (by exact rfl) (by exact rfl) (by exact rfl) (by decide) (by exact rfl) (by exact rfl) (by exact rfl) (by k_room) (fun _ v => v = .bool true) (by exact gq0 hval) ?_ (fun _ => by exact rfl)); rintro a6 ⟨h6, g6, d6, t6, o6⟩ ps6 k6 hm6 htr6 hG6 hos6 F6 N6 hL6 hk6 hGen6; (try dsimp only)))
set_option hygiene false in
local macro_rules | `(tactic| wtm_at "own call builtin:all") => `(tactic| (k_here; refine all_kt F6 N6 hG6 hGen6 hL6 hk6 ?_; intro h7 g7 d7 t7 o7 F7 N7 hG7 hos7; (try dsimp only)))
theorem gq0 {prog : Program} {w : World} {vs : Array Value} {ns : List Nat} {P : Addr} {s : Shared} {A : Around} {scope : Scope} {cl : List (Str × Addr)} {env : Env} {x : Str} {p1 p2 p3 : Pos} {kt : Nat} (hval : ∀ i v, vs[i]? = some v → ∃ t, v = Value.int ((ns.getD i 0 : Nat) : Int) t)
    (hk : scope.kind = .function := by exact rfl) (hx : scope.names.lookup x = some .local := by exact rfl) (hd : (x == ("__debug__" : Str)) = false := by exact rfl) :
    ∀ (code : Value) (C : Addr) (A' : Around) (E' : Value → Shared → Prop) (i : Nat) (v : Value) (t : Shared) (m₂ : Str → Option Value), A'.handled = none → A'.depth ≤ A.depth + 1 → A'.units ≤ A.units + 8 → vs[i]? = some v → t.heap.Ns C m₂ → m₂ x = some v → (∀ b o, b ≠ P → s.heap.get? b = some o → t.heap.get? b = some o) →
          wpAny (model prog w) A' (eval (.Compare (.Name x p1) [.GtE] [.Constant (.int 0) kt p2] p3) (genEnv scope cl C code builtinsNs env)) (fun y s₃ => y = .bool true ∧ Keeps t s₃) E' t := by
  intro code C A' E' i v t m₂ _ _ _ hv hn hm _
  obtain ⟨t9, rfl⟩ := hval i v hv
  exact quiet_ge0 hk hx hn hm (Int.natCast_nonneg _) hd
set_option hygiene false in
local macro_rules | `(tactic| wtm_at "own eval GeneratorExp") => `(tactic| (k_here; (refine gen_k (l := l) (vs := vs) F7 X' N7 T' hG7 ct56.1 htr6 h52' (fun Q' hq => wpAny_Name (wpAny_loadName_local (by exact rfl) (by exact rfl) F7.ns (by exact rfl) hq)) (by k_mem) (by exact rfl) (by exact rfl) (by exact rfl) (by exact rfl) (by exact rfl) (by decide) (by exact rfl) (by exact rfl) (by exact rfl) (by k_room) (fun _ v => v = .bool false) (by exact gq1 (c := L' + 1) hval hn hb (N7 (L' + 1, ob) (by k_mem)).1 hob hlP) ?_ (fun _ => by exact rfl)); rintro a8 ⟨h8, g8, d8, t8, o8⟩ ps8 k8 hm8 htr8 hG8 hos8 F8 N8 hL8 hk8 hGen8; (try dsimp only)))
set_option hygiene false in
local macro_rules | `(tactic| wtm_at "own call builtin:any") => `(tactic| (k_here; refine any_kf F8 N8 hG8 hGen8 hL8 hk8 ?_; intro h9 g9 d9 t9 o9 F9 N9 hG9 hos9; (try dsimp only)))
theorem mem_pick {α : Type} {a b c : α} {l : List α} : ∀ p ∈ a :: c :: l, p ∈ c :: a :: b :: l := fun p hp => by
  rcases List.mem_cons.mp hp with rfl | hp
  · exact .tail _ (.head _)
  · rcases List.mem_cons.mp hp with rfl | hp
    · exact .head _
    · exact .tail _ (.tail _ (.tail _ hp))
theorem gq1 {prog : Program} {w : World} {vs : Array Value} {ns : List Nat} {P c : Addr} {ob : Obj} {s : Shared} {A : Around} {scope : Scope} {cl : List (Str × Addr)} {env : Env} {x y : Str} {p1 p2 p3 : Pos} {n : Int} {tn : Tok} (hval : ∀ i v, vs[i]? = some v → ∃ t, v = Value.int ((ns.getD i 0 : Nat) : Int) t) (hn : ns.length = vs.size) (hb : ∀ k ∈ ns, (k : Int) < n)
    (ho : s.heap.get? c = some ob) (hob : ob.data = .cell (some (.int n tn))) (hcP : c ≠ P)
    (hk : scope.kind = .function := by exact rfl) (hx : scope.names.lookup x = some .local := by exact rfl) (hy : scope.names.lookup y = some .free := by exact rfl) (hc : cl.lookup y = some c := by exact rfl) (hd : (x == ("__debug__" : Str)) = false := by exact rfl) (hd' : (y == ("__debug__" : Str)) = false := by exact rfl) (hcd : (y == ("__classdict__" : Str)) = false := by exact rfl) :
    ∀ (code : Value) (C : Addr) (A' : Around) (E' : Value → Shared → Prop) (i : Nat) (v : Value) (t : Shared) (m₂ : Str → Option Value), A'.handled = none → A'.depth ≤ A.depth + 1 → A'.units ≤ A.units + 8 → vs[i]? = some v → t.heap.Ns C m₂ → m₂ x = some v → (∀ b o, b ≠ P → s.heap.get? b = some o → t.heap.get? b = some o) →
          wpAny (model prog w) A' (eval (.Compare (.Name x p1) [.GtE] [.Name y p2] p3) (genEnv scope cl C code builtinsNs env)) (fun y s₃ => y = .bool false ∧ Keeps t s₃) E' t := by
  intro code C A' E' i v t m₂ _ _ _ hv hn' hm hkp
  obtain ⟨t9, rfl⟩ := hval i v hv
  have hi : i < ns.length := by
    rw [hn]
    exact (Array.getElem?_eq_some_iff.mp hv).1
  have hk9 : ((ns.getD i 0 : Nat) : Int) < n := hb _ (by rw [List.getD_eq_getElem?_getD, List.getElem?_eq_getElem hi]; exact List.getElem_mem hi)
  exact quiet_gef hk hx hy hn' hm hc (hkp _ _ hcP ho) hob hk9 hd hd' hcd
set_option maxRecDepth 100000 in
set_option maxHeartbeats 2000000 in
theorem cs_init_g {NG : Nat} {p9 : Program} {lo9 : List Str} (w : World) (mean : ExcName → Option Value) (mg mb : Str → Option Value) (envG : Env) (outer : List Env) (A₀ : Around) (base h₀ : Heap) (L : Addr) (m : Str → Option Value) (news : List (Addr × Obj)) (s : Shared)
   (R : Result → Shared → Prop) (x dx l : Addr) (led : Bool) (vs : Array Value) (ns : List Nat) (nl : Nat)
   (B : Below A₀ base outer h₀) (F : Fr h₀ L s.heap m) (X : (hd.heap_39 w.params).In h₀) (N : News h₀ L s.heap news)
   (T : Top p9 lo9 mean mg mb h₀)
   (hfG : envG.frame = some L) (hk : envG.scope.kind = .function) (rest : List (Addr × Obj)) (ps : Array Value) (nc : Value) (kws : List (Str × Value)) (hkw : (kws = [] ∧ nc = .none) ∨ kws = [(Str.ofString "num_cand", nc)]) (hnc : nc = .none ∨ ∃ n tn, nc = Value.int n tn ∧ ∀ k ∈ ns, (k : Int) < n) (hnews : news = (x, csObj dx #[] 0 (.fresh 0 0 led)) :: (52, tableObj ps) :: rest) (hxr : ∀ p ∈ rest, p.1 ≠ x) (hx52 : x ≠ 52) (h52 : ∀ p ∈ rest, p.1 ≠ 52) (htr : TriplesOk ps.toList) (hG : GB NG s.gens) (hdx : (dx, dictOf [] 0) ∈ rest) (hl : (l, { cls := .type "list", data := .seq vs nl }) ∈ rest) (hn : ns.length = vs.size) (hval : ∀ i v, vs[i]? = some v → ∃ t, v = Value.int ((ns.getD i 0 : Nat) : Int) t) (hlt : ∀ k ∈ ns, k < 4) (hnd : ns.Nodup) (hvz : vs.size ≤ 4)
   (hret : ∀ h' g' d' t' o' ps' tks ep', (∃ more, ps' = ps ++ more) → TriplesOk ps'.toList → GB NG g' → o' = s.os → Fr h₀ L h' m → News h₀ L h' ((x, csObj dx (esOf (insAll [] ns) tks) ep' (tabS (insAll [] ns) led)) :: (52, tableObj ps') :: rest) → R (.ok (.ret .none)) ⟨h', g', d', t', o'⟩) :
   codeAny (model PySem.Challenge.rw_bb0001_01.row.prog w) { handled := none, depth := 460, frames := some (envG :: outer), guards := none, units := 90 } (.call (.ref 57) ⟨[.ref x, .ref l], kws⟩) R s := by
  subst hnews
  have hxl : x ≠ l := fun e => hxr _ hl e.symm
  revert X
  k_fill
  intro X
  have hxr' : ∀ p ∈ (52, tableObj ps) :: rest, p.1 ≠ x := fun p hp => by
    rcases List.mem_cons.mp hp with rfl | hp
    · exact hx52.symm
    · exact hxr p hp
  refine code_super_cell (n₁ := Str.ofString "num_cand") (a1 := Str.ofString "self") (a2 := Str.ofString "candidates") (v1 := .ref x) (v2 := .ref l) (v3 := nc) B F X N T rfl hfG hk (by k_is) (by k_is) (by k_room) ?hbind rfl rfl rfl ?hcf ?hpc ?h
  case hbind =>
    rcases hkw with ⟨rfl, rfl⟩ | rfl
    all_goals first | exact BindsTo.of_eq rfl | exact binds_K (by k_in) rfl (by k_is) rfl rfl rfl
  case hcf => intro n acc; rfl
  case hpc => intro h; rfl
  intro g L' h₁ tk ob FG F' N' hob B' X' T' hlt'
  have X1 := X'.keeps F'.keep
  refine ks_wpAt_execs_cons ?_
  refine ks_wpAt_Expr_any ?_
  refine ks_wpAt_MethodCall ?_
  refine ks_wpAt_super_base (f := 57) (cc := 56) (tf := _) (by exact rfl) (by exact rfl) (by decide) (by exact rfl) (X1 _ _ (by k_is)) (by exact rfl) (by exact rfl) (by exact rfl) (X1 _ _ (by k_is)) (by exact rfl) (by exact rfl) (by first | rfl | kernel_rfl) (by first | rfl | kernel_rfl) ?_
  have hboot : bootBuiltins (Str.ofString "super") = some (.type "super") := by first | rfl | kernel_rfl
  refine ks_loadName_global (by exact rfl) (by exact rfl) (loadGlobal_builtin (T'.g.keeps F'.keep) (mg_none_of X' T'.g (by k_is)) (T'.b.keeps F'.keep) ((T'.builtins _ (by decide +kernel)).trans hboot) ⟨rfl, ?_⟩)
  refine wpAny_loadName_free (by exact rfl) (by exact rfl) rfl ⟨_, X1 _ _ (by k_is), rfl⟩ ?_
  refine wpAny_loadName_local (by exact rfl) (by exact rfl) F'.ns (by exact rfl) ?_
  have hx1 := (N' _ (.tail _ (.head _))).1
  have hl1 := (N' _ (.tail _ (.tail _ (.tail _ hl)))).1
  refine ks_wpAny_isType_cls (X1 _ _ (by k_is)) (by exact rfl) ⟨rfl, ?_⟩
  refine ks_wpAny_call_super (X1 _ _ (by k_is)) (by exact rfl) hx1 (by exact rfl) (fun c e => by cases e) (looks_mroIn X1 (by k_is)) (fun h2 e2 k2 => ?_)
  dsimp only
  have X2 := X1.keeps k2
  have hx2 := k2 _ _ hx1
  refine gm_super X2 (ne75 X2 hx2) hx2 e2 fun q h3 t3 D3 => ?_
  have k3 : ∀ b o, h2.get? b = some o → h3.get? b = some o := fun b o e => D3.keep b o e (by simp [PySem.W.X.away])
  have X3 := X2.keeps k3
  have q3 := D3.at 0 _ _ rfl
  refine mw_callWith q3 ?_
  have hx3 := k3 _ _ hx2
  have hl3 := k3 _ _ (k2 _ _ hl1)
  refine wpAny_Name (wpAny_loadName_local (by exact rfl) (by exact rfl) ((F'.ns.keeps k2).keeps k3) (by exact rfl) ⟨rfl, ?_⟩)
  refine mw_call X3 hx3 q3 fun hP hh => si_list (hh.trans rfl) X3 hx3 hl3 hxl hn hval hlt hnd fun h4 tk4 tks4 ep4 hx4 k4 => hP _ _ ?_
  refine wpAt_of_wpAny ?_
  have k5 : ∀ b o, b ≠ x → h₁.get? b = some o → h4.get? b = some o := fun b o hb e => k4 b o hb (k3 b o (k2 b o e))
  have N5 : News g L' h₁ ((x, csObj dx #[] 0 (.fresh 0 0 led)) :: (L' + 1, ob) :: (52, tableObj ps) :: rest) := cb_drop N' mem_swap
  have hlx : L' + 1 ≠ x := fun e => absurd (hlt' _ (.head _)) (by rw [← e]; exact Nat.not_lt.mpr (Nat.le_succ _))
  have F4 := fr_but F' (N5 _ (.head _)).2.1 (N5 _ (.head _)).2.2 k5
  have N4 := news_but N5 (by intro p hp; rcases List.mem_cons.mp hp with rfl | hp; exact hlx; exact hxr' p hp) hx4 k5
  clear N5 F' N' hx1 hl1 e2 hx2 D3 q3 hx3 hl3 X3 X2 X1 k2 k3 k4 k5
  have hks : insAll [] ns ∈ subs := insAll_subs ns [] (by decide) hlt
  have hkl : (insAll [] ns).length = vs.size := by rw [insAll_len ns [] hnd (by simp), ← hn]; simp
  have h52' : ∀ p ∈ (x, csObj dx (esOf (insAll [] ns) tks4) ep4 (tabS (insAll [] ns) led)) :: (L' + 1, ob) :: rest, p.1 ≠ 52 := fun p hp => by
    rcases List.mem_cons.mp hp with rfl | hp
    · exact hx52
    · rcases List.mem_cons.mp hp with rfl | hp
      · have := hlt' _ (.tail _ (.head _)); exact fun e => absurd this (by rw [show (52 : Addr) = L' + 1 from e.symm]; exact Nat.not_lt.mpr (Nat.le_succ _))
      · exact h52 p hp
  generalize insAll [] ns = ks at *
  have hlP : L' + 1 ≠ 52 := fun e => absurd (hlt' _ (.tail _ (.head _))) (by rw [show (52 : Addr) = L' + 1 from e.symm]; exact Nat.not_lt.mpr (Nat.le_succ _))
  rcases hnc with rfl | ⟨n, tn, rfl, hb⟩
  all_goals k_steps
  · obtain ⟨mo, rfl⟩ := hm6
    exact hret _ _ _ _ _ _ _ _ ⟨mo, rfl⟩ htr6 hG7 (hos7.trans hos6) (by assumption) (cb_drop (by assumption) mem_pick)
  · obtain ⟨mo, rfl⟩ := hm6
    obtain ⟨mo', rfl⟩ := hm8
    exact hret _ _ _ _ _ _ _ _ ⟨mo ++ mo', (Array.append_assoc ..)⟩ htr8 hG9 (hos9.trans (hos8.trans (hos7.trans hos6))) (by assumption) (cb_drop (by assumption) mem_pick)
theorem cs_init {NG : Nat} {p9 : Program} {lo9 : List Str} (w : World) (mean : ExcName → Option Value) (mg mb : Str → Option Value) (cn : Str) (cs : Scope) (a : Addr) (ccd : Value) (cl : List (Str × Addr)) (outer : List Env) (A₀ : Around) (base h₀ : Heap) (L : Addr) (m : Str → Option Value) (news : List (Addr × Obj)) (s : Shared)
   (R : Result → Shared → Prop) (x dx l : Addr) (led : Bool) (vs : Array Value) (ns : List Nat) (nl : Nat)
   (B : Below A₀ base outer h₀) (F : Fr h₀ L s.heap m) (X : (hd.heap_39 w.params).In h₀) (N : News h₀ L s.heap news)
   (T : Top p9 lo9 mean mg mb h₀)
   (hk : cs.kind = .function) (rest : List (Addr × Obj)) (ps : Array Value) (nc : Value) (kws : List (Str × Value)) (hkw : (kws = [] ∧ nc = .none) ∨ kws = [(Str.ofString "num_cand", nc)]) (hnc : nc = .none ∨ ∃ n tn, nc = Value.int n tn ∧ ∀ k ∈ ns, (k : Int) < n) (hnews : news = (x, csObj dx #[] 0 (.fresh 0 0 led)) :: (52, tableObj ps) :: rest) (hxr : ∀ p ∈ rest, p.1 ≠ x) (hx52 : x ≠ 52) (h52 : ∀ p ∈ rest, p.1 ≠ 52) (htr : TriplesOk ps.toList) (hG : GB NG s.gens) (hdx : (dx, dictOf [] 0) ∈ rest) (hl : (l, { cls := .type "list", data := .seq vs nl }) ∈ rest) (hn : ns.length = vs.size) (hval : ∀ i v, vs[i]? = some v → ∃ t, v = Value.int ((ns.getD i 0 : Nat) : Int) t) (hlt : ∀ k ∈ ns, k < 4) (hnd : ns.Nodup) (hvz : vs.size ≤ 4)
   (hret : ∀ h' g' d' t' o' ps' tks ep', (∃ more, ps' = ps ++ more) → TriplesOk ps'.toList → GB NG g' → o' = s.os → Fr h₀ L h' m → News h₀ L h' ((x, csObj dx (esOf (insAll [] ns) tks) ep' (tabS (insAll [] ns) led)) :: (52, tableObj ps') :: rest) → R (.ok (.ret .none)) ⟨h', g', d', t', o'⟩) :
   codeAny (model PySem.Challenge.rw_bb0001_01.row.prog w) { handled := none, depth := 460, frames := some (envX cn cs L a ccd cl :: outer), guards := none, units := 90 } (.call (.ref 57) ⟨[.ref x, .ref l], kws⟩) R s := cs_init_g w mean mg mb (envX cn cs L a ccd cl) outer A₀ base h₀ L m news s R x dx l led vs ns nl B F X N T rfl hk rest ps nc kws hkw hnc hnews hxr hx52 h52 htr hG hdx hl hn hval hlt hnd hvz hret
end Mine
end

/- Mk -/
section
open PySem PySem.W PyProof.Rows PySem.Calls PySem.Spec
set_option linter.unusedVariables false
namespace Mine
section
variable {w : World} {h : Heap}
set_option maxRecDepth 100000 in
set_option maxHeartbeats 2000000 in
theorem mk_call (X : (hd.heap_39 w.params).In h) : Looks (model PySem.Challenge.rw_bb0001_01.row.prog w) h (specialOf (.ref 75) (Str.ofString "__call__")) (some (.builtin "type.__call__")) := by
  revert X; k_fill; intro X
  exact looks_specialIn X (by k_is)
set_option maxRecDepth 100000 in
set_option maxHeartbeats 2000000 in
theorem mk_typ (X : (hd.heap_39 w.params).In h) : Looks (model PySem.Challenge.rw_bb0001_01.row.prog w) h (isInstance (.ref 75) (.type "type")) true := by
  revert X; k_fill; intro X
  exact looks_instIn X (by k_is)
set_option maxRecDepth 100000 in
set_option maxHeartbeats 2000000 in
theorem mk_self (X : (hd.heap_39 w.params).In h) : Looks (model PySem.Challenge.rw_bb0001_01.row.prog w) h (isSubtype (.ref 75) (.ref 75)) true := by
  revert X; k_fill; intro X
  exact looks_mroIn X (by k_is)
set_option maxRecDepth 100000 in
set_option maxHeartbeats 2000000 in
theorem mk_init (X : (hd.heap_39 w.params).In h) : Looks (model PySem.Challenge.rw_bb0001_01.row.prog w) h (typeLookup (.ref 75) (Str.ofString "__init__")) (some (.ref 57)) := by
  revert X; k_fill; intro X
  exact looks_findIn X (by k_is)
set_option maxRecDepth 100000 in
set_option maxHeartbeats 2000000 in
theorem mk_bind (X : (hd.heap_39 w.params).In h) (self : Value) : Looks (model PySem.Challenge.rw_bb0001_01.row.prog w) h (bindSpecial (.ref 57) self) (.ref 57, [self]) := by
  revert X; k_fill; intro X
  exact bind_fn X self (by k_is)
set_option maxRecDepth 100000 in
set_option maxHeartbeats 2000000 in
theorem mk_cls (X : (hd.heap_39 w.params).In h) : (∃ oc od cd sl, h.get? 75 = some ⟨oc, od, .cls cd, sl⟩ ∧ cd.abstract = false ∧ cd.hasDel = false ∧ cd.mro = [.ref 75, .type "set", .type "object"] ∧ (sl.toList[4]?).join = some (.builtin "set.__new__")) ∧ Looks (model PySem.Challenge.rw_bb0001_01.row.prog w) h (isSubtype (.ref 75) (.type "set")) true := by
  revert X; k_fill; intro X
  exact ⟨⟨_, _, _, _, X 75 _ (by k_is), rfl, rfl, rfl, rfl⟩, looks_mroIn X (by k_is)⟩
theorem mk_mro (X : (hd.heap_39 w.params).In h) : Looks (model PySem.Challenge.rw_bb0001_01.row.prog w) h (mroOf (.ref 75)) [.ref 75, .type "set", .type "object"] := sup_C X
theorem mk_made (X : (hd.heap_39 w.params).In h) : Looks (model PySem.Challenge.rw_bb0001_01.row.prog w) h (Bind.madeBy (.ref 75)) (some "set.__new__") := by
  intro A Q E s k q
  obtain ⟨⟨oc, od, cd, sl, ho, -, -, -, e3⟩, -⟩ := mk_cls X
  unfold Bind.madeBy
  refine wpAny_bind (mk_mro X A _ E s k ?_)
  rw [List.forIn_cons]
  refine wpAny_bind (wpAny_bind (wpAny_bind (wpAny_bind (wpAny_loadPart (k _ _ ho) (wpAny_pure ?_)))))
  dsimp only
  rw [← Array.getElem?_toList, e3]
  exact wpAny_pure (wpAny_pure (wpAny_pure q))
theorem mk_base (X : (hd.heap_39 w.params).In h) : Looks (model PySem.Challenge.rw_bb0001_01.row.prog w) h (Bind.staticBase (.ref 75)) (.ref 75) := by
  intro A Q E s k q
  unfold Bind.staticBase
  refine wpAny_bind (mk_mro X A _ E s k ?_)
  rw [List.forIn_cons]
  exact wpAny_bind (wpAny_bind (wpAny_bind (mk_made X A _ E s k (wpAny_pure (wpAny_pure (wpAny_pure q))))))
end
theorem set_kind : builtinKind "set.__new__" = some .builtinFn := by decide +kernel
theorem set_split : splitId "set.__new__" = some ("set", "__new__") := by decide +kernel
section
variable {w : World} {A : Around} {h : Heap} {g : Array GenState} {d : Drawn} {t : Nat} {os : OsState} {R : Result → Shared → Prop}
theorem new_cs {rest : List Value} {kw : List (Str × Value)} (X : (hd.heap_39 w.params).In h)
    (hq : R (.ok (.ret (.ref (h.objs.size + 1)))) ⟨(h.push emptyDict).push (csObj h.objs.size #[] 0 (.fresh 0 0 (!w.params.followText "set-order"))), g, d, t, os⟩) :
    codeAny (model PySem.Challenge.rw_bb0001_01.row.prog w) A (.call (.builtin "set.__new__") ⟨.ref 75 :: rest, kw⟩) R ⟨h, g, d, t, os⟩ := by
  obtain ⟨⟨oc, od, cd, sl, hC, e1, e2, -, -⟩, -⟩ := mk_cls X
  have hs := sup_set X
  have hb := mk_base X
  have hm := mk_made X
  refine codeAny_call_builtin_code (Code.quiet_builtin _ (by decide +kernel)) ?_
  simp only [checkBuiltinCall, set_kind, set_split]
  have args : (match Manifest.signature? "set.__new__" with | some sig => Bind.checkArgs "set.__new__" sig ⟨.ref 75 :: rest, kw⟩ | _ => pure ()) = pure () := by kernel_rfl
  refine wpAny_bind (ks_wpAny_isType_cls hC rfl ?_)
  simp only [Bool.not_true, Bool.false_eq_true, if_false]
  refine wpAny_bind (hs.at ?_)
  simp only [Bool.not_true, Bool.false_eq_true, if_false]
  refine wpAny_bind (hb.at ?_)
  refine wpAny_bind (hm.at ?_)
  simp only [bne_self_eq_false, Bool.false_eq_true, if_false]
  refine wpAny_of_eq (a := ()) args ?_
  refine codeAny_builtin PySem.F.entry_set_new ?_
  unfold Builtin.«set.__new__» Builtin.Frozenset.newClass
  dsimp only
  refine wpAny_bind (wpAny_bind (ks_wpAny_isType_cls hC rfl ?_))
  simp only [Bool.not_true, Bool.false_eq_true, if_false]
  refine wpAny_bind (hs.at ?_)
  simp only [Bool.not_true, Bool.false_eq_true, if_false]
  refine wpAny_pure ?_
  dsimp only
  unfold newSet setsByText
  refine wpAny_bind (wpAny_bind (wpAny_bind (wpAny_askSetting (wpAny_pure ?_))))
  dsimp only
  refine wpAny_bind (wpAny_alloc ?_)
  simp only [newObj]
  unfold newObjAsIs classHasDel
  refine wpAny_bind (wpAny_alloc (wpAny_bind (wpAny_bind (wpAny_load (Heap.get?_push_of_some _ (Heap.get?_push_of_some _ hC)) (wpAny_pure ?_)))))
  dsimp only
  rw [e2]
  refine wpAny_pure (wpAny_pure ?_)
  show R _ _
  rw [Heap.size_push]
  exact hq
theorem make_cs {rest : List Value} {kw : List (Str × Value)} (X : (hd.heap_39 w.params).In h)
    (hq : codeAny (model PySem.Challenge.rw_bb0001_01.row.prog w) (A.under (.builtin "type.__call__" ⟨.ref 75 :: rest, kw⟩)) (.call (.ref 57) ⟨.ref (h.objs.size + 1) :: rest, kw⟩) (InitBack (h.objs.size + 1) R) ⟨(h.push emptyDict).push (csObj h.objs.size #[] 0 (.fresh 0 0 (!w.params.followText "set-order"))), g, d, t, os⟩) :
    codeAny (model PySem.Challenge.rw_bb0001_01.row.prog w) A (.call (.ref 75) ⟨rest, kw⟩) R ⟨h, g, d, t, os⟩ := by
  obtain ⟨⟨oc, od, cd, sl, hC, e1, e2, e4, e5⟩, -⟩ := mk_cls X
  have call := mk_call X
  have typ := mk_typ X
  have made := mk_made X
  have hi := mk_init X
  have self := mk_self X
  have hb := fun v => mk_bind X v
  have hnewX := X
  refine codeAny_of_tree ?_
  show wpAny _ _ (callAny (.ref 75) _) _ _ _
  refine nd_load hC ?_
  show wpAny _ _ (callAny.viaDunder (.ref 75) _) _ _ _
  unfold callAny.viaDunder
  refine wpAny_bind (call.at ?_)
  dsimp only
  rw [tc_bind]
  refine wpAny_bind (wpAny_pure (wpAny_bind (wpAny_pure ?_)))
  refine wpAny_pure (a := Fin.again (.call (.builtin "type.__call__") ⟨.ref 75 :: rest, kw⟩)) (And.intro rfl ?_)
  with_reducible refine codeAny_call_builtin_at ?a1 entry_typeCall ?a2
  case a1 => exact Code.quiet_builtin _ (by decide +kernel)
  with_reducible refine check_slot tc_kind tc_split ?b1 (tc_args _ _ _) ?b2
  case b1 => exact typ
  unfold Builtin.«type.__call__»
  have hm := mk_mro X
  clear typ
  repeat (first | simp only [List.isEmpty_cons, Bool.false_eq_true, if_false] | with_reducible refine wpAny_call ?_ | lk)
  refine new_cs hnewX ?_
  have k : ∀ b o, h.get? b = some o → ((h.push emptyDict).push (csObj h.objs.size #[] 0 (.fresh 0 0 (!w.params.followText "set-order")))).get? b = some o := fun b o e => Heap.get?_push_of_some _ (Heap.get?_push_of_some _ e)
  have hx : ((h.push emptyDict).push (csObj h.objs.size #[] 0 (.fresh 0 0 (!w.params.followText "set-order")))).get? (h.objs.size + 1) = some (csObj h.objs.size #[] 0 (.fresh 0 0 (!w.params.followText "set-order"))) := by
    have := Heap.get?_push_size (h.push emptyDict) (o := csObj h.objs.size #[] 0 (.fresh 0 0 (!w.params.followText "set-order"))) rfl
    rwa [Heap.size_push] at this
  have t1 : Looks (model PySem.Challenge.rw_bb0001_01.row.prog w) ((h.push emptyDict).push (csObj h.objs.size #[] 0 (.fresh 0 0 (!w.params.followText "set-order")))) (typeOf (.ref (h.objs.size + 1))) (.ref 75) := ty_cs hx
  have s1 := self.keeps k
  have i1 := hi.keeps k
  have b1 := (hb (.ref (h.objs.size + 1))).keeps k
  unfold isInstance callSpecial? specialOf
  repeat (first | with_reducible refine wpAny_call ?_ | lk)
  refine codeAny_mono hq fun r s' z => ?_
  rcases r with e | (v | _ | _ | _) <;> first | exact z | exact z.elim | skip
  obtain ⟨rfl, z⟩ := z
  exact wpAny_pure (wpAny_pure z)
end
end Mine
end

/- SetIter -/
section
open PySem PySem.W PyProof.Rows PySem.Calls PySem.Spec
set_option linter.unusedVariables false
namespace Mine
theorem si_kind : builtinKind "set.__iter__" = some .slot := by decide +kernel
theorem si_split : splitId "set.__iter__" = some ("set", "__iter__") := by decide +kernel
theorem si_entry : entryFor table "set.__iter__" = some Builtin.«frozenset.__iter__» :=
  entryFor_alias (id' := "frozenset.__iter__") (by rw [fastTable_eq_tree]; kernel_rfl) rfl (by decide +kernel) (by rw [fastTable_eq_tree]; kernel_rfl)
theorem si_args (a : Value) : argsOk "set.__iter__" ⟨[a], []⟩ := by unfold argsOk; kernel_rfl
section
variable {w : World} {h : Heap}
set_option maxRecDepth 100000 in
set_option maxHeartbeats 2000000 in
theorem si_find (X : (hd.heap_39 w.params).In h) : Looks (model PySem.Challenge.rw_bb0001_01.row.prog w) h (typeLookup (.ref 75) (Str.ofString "__iter__")) (some (.builtin "set.__iter__")) := by
  revert X; k_fill; intro X
  exact looks_findIn X (by k_is)
end
theorem si_bind (self : Value) : bindSpecial (.builtin "set.__iter__") self = pure (.builtin "set.__iter__", [self]) :=
  (Slot.of (T := "set") (name := "__iter__") (owner := "set") (n := "__iter__") (by rw [typeLookup_type, builtinLookup_eq_fast]; kernel_rfl) (by decide +kernel) (by decide +kernel) (by decide +kernel)
    (by first | exact .inl (by decide +kernel) | exact .inr (by decide +kernel)) (by rw [isSubtype_type]; kernel_rfl)).bind self
section
variable {w : World} {A : Around} {x dx : Addr} {ks : List Nat} {tk : Nat → Tok} {ep : Nat} {h : Heap} {g : Array GenState} {d : Drawn} {t : Nat} {os : OsState} {E : Value → Shared → Prop}
theorem si_call {Q : Value → Shared → Prop} (X : (hd.heap_39 w.params).In h) (hks : ks ∈ subs) (hx : h.get? x = some (csObj dx (esOf ks tk) ep (tabS ks (!bt w))))
    (hq : Q (.ref h.objs.size) ⟨h.push (itObj 0 0 x ks.length ep), g, d, t, os⟩) :
    wpAny (model PySem.Challenge.rw_bb0001_01.row.prog w) A (call (.builtin "set.__iter__") [.ref x]) Q E ⟨h, g, d, t, os⟩ := by
  have ht := ty_cs (M := model PySem.Challenge.rw_bb0001_01.row.prog w) hx
  have hs := sup_set X
  with_reducible refine wpAny_call ?_
  with_reducible refine codeAny_call_builtin_code ?a1 ?a2
  case a1 => exact Code.quiet_builtin _ (by decide +kernel)
  with_reducible refine check_slot si_kind si_split ?b1 (si_args _) ?b2
  case b1 => exact ht.andThen hs
  refine codeAny_builtin si_entry ?_
  unfold Builtin.«frozenset.__iter__»
  refine wpAny_bind (wpAny_of_eq (a := x) (by rfl) ?_)
  refine wpAny_bind (wpAny_bind (wpAny_setEntries_of (s := ⟨h, g, d, t, os⟩) hx rfl (fits_subs _ ks hks tk) (wpAny_pure ?_)))
  refine wpAny_bind ?_
  unfold setDrawn
  refine wpAny_bind ?_
  refine wpAny_setState_of (s := ⟨h, g, d, t, os⟩) hx rfl (fits_subs _ ks hks tk) ?_
  dsimp only
  unfold setsByText
  refine wpAny_bind (wpAny_bind (wpAny_askSetting (wpAny_pure ?_)))
  refine wpAny_pure ?_
  dsimp only
  refine (show wpAny _ _ (if (!bt w && false) = true then _ else _) _ _ _ from ?_)
  simp only [Bool.and_false, Bool.false_eq_true, if_false]
  refine wpAny_bind (wpAny_pure ?_)
  unfold setEpoch
  refine wpAny_bind (wpAny_bind (wpAny_setState_of (s := ⟨h, g, d, t, os⟩) hx rfl (fits_subs _ ks hks tk) (wpAny_pure ?_)))
  dsimp only
  have e : (esOf ks tk).size = ks.length := by simp [esOf]
  rw [e]
  exact wpAny_bind (wpAny_newObj_type (wpAny_pure hq))
theorem si_iter {Q : Value → Shared → Prop} (X : (hd.heap_39 w.params).In h) (hks : ks ∈ subs) (hx : h.get? x = some (csObj dx (esOf ks tk) ep (tabS ks (!bt w))))
    (hq : Q (.ref h.objs.size) ⟨h.push (itObj 0 0 x ks.length ep), g, d, t, os⟩) :
    wpAny (model PySem.Challenge.rw_bb0001_01.row.prog w) A (pyIter (.ref x)) Q E ⟨h, g, d, t, os⟩ := by
  have ht := ty_cs (M := model PySem.Challenge.rw_bb0001_01.row.prog w) hx
  have hf := si_find X
  have hsp : Looks (model PySem.Challenge.rw_bb0001_01.row.prog w) h (specialOf (.ref x) (Str.ofString "__iter__")) (some (.builtin "set.__iter__")) := by
    unfold specialOf; exact ht.andThen hf
  unfold pyIter
  refine wpAny_bind (hsp.at ?_)
  dsimp only
  have back : wpAny (model PySem.Challenge.rw_bb0001_01.row.prog w) A (call (.builtin "set.__iter__") [.ref x]) (fun it s' => Q it s' ∧ s'.TypeIs it "set_iterator") E ⟨h, g, d, t, os⟩ :=
    si_call X hks hx ⟨hq, ⟨_, Heap.get?_push_size _ rfl, rfl⟩⟩
  refine wpAny_bind ?_
  unfold callSpecialIfBoundUnlessNone? bindSpecialIfBound?
  refine wpAny_holding (wpAny_bind (wpAny_bind (hsp.at ?_)))
  simp only [si_bind]
  have fin : wpAny (model PySem.Challenge.rw_bb0001_01.row.prog w) A (call (.builtin "set.__iter__") [.ref x] >>= fun v => pure (some v)) (fun r s' => match r with
      | some it => wpAny (model PySem.Challenge.rw_bb0001_01.row.prog w) A (specialOf it (Str.ofString "__next__")) (fun o s'' => o.isSome = true ∧ Q it s'') E s'
      | none => False) E ⟨h, g, d, t, os⟩ := by
    refine wpAny_bind (wpAny_mono back (fun it s' hb => wpAny_pure ?_) fun _ _ e => e)
    exact wpAny_specialOf hb.2 slot_setit_next.lookup ⟨rfl, hb.1⟩
  have fin2 : wpAny (model PySem.Challenge.rw_bb0001_01.row.prog w) A (call (.builtin "set.__iter__") [.ref x] >>= fun v => pure (some v)) (fun r s' => ∃ it, r = some it ∧ wpAny (model PySem.Challenge.rw_bb0001_01.row.prog w) A (specialOf it (Str.ofString "__next__")) (fun o s'' => o.isSome = true ∧ Q it s'') E s') E ⟨h, g, d, t, os⟩ := by
    refine wpAny_mono fin (fun r s' hr => ?_) fun _ _ e => e
    cases r with
    | none => exact hr.elim
    | some it => exact ⟨it, rfl, hr⟩
  refine wpAny_bind (wpAny_askSetting (wpAny_ite ?_))
  split
  all_goals first
    | refine wpAny_bind (wpAny_pure (wpAny_pure ?_))
    | refine wpAny_tryCatch (wpAny_bind (wpAny_pure (wpAny_pure ?_)))
  all_goals
    dsimp only
    rw [if_neg (by decide)]
    refine wpAny_mono fin2 (fun r s' hr => ?_) fun _ _ e => e
    obtain ⟨it, rfl, hr⟩ := hr
    dsimp only
    refine wpAny_bind (wpAny_mono hr (fun o s'' ho => ?_) fun _ _ e => e)
    obtain ⟨ho, hQ⟩ := ho
    cases o with
    | none => cases ho
    | some v => exact wpAny_pure hQ
end
section
variable {w : World} {A : Around} {E : Value → Shared → Prop} {s : Shared} {env : Env} {h₀ : Heap} {x : Str} {body : List Stmt} {Q : Flow → Shared → Prop}
theorem iter_set {a dx : Addr} {ks : List Nat} {tk : Nat → Tok} {ep : Nat} {m₀ : Str → Option Value} {news : List (Addr × Obj)} (stored : List Str)
    (hh : A.handled = none) (X : (hd.heap_39 w.params).In h₀) (hks : ks ∈ subs) (ha : (a, csObj dx (esOf ks tk) ep (tabS ks (!bt w))) ∈ news) (F : Fr h₀ env.locals s.heap m₀) (N : News h₀ env.locals s.heap news)
    (turn : ∀ i k (u : Str → Option Value) h tok own, i < ks.length → (ordOf w a ep ks)[i]? = some k → Fr h₀ env.locals h (fun y => if y = x then some (.int (k : Int) (tk k)) else if stored.contains y then u y else m₀ y) → News h₀ env.locals h (own ++ news) →
      wpAny (model PySem.Challenge.rw_bb0001_01.row.prog w) A (execs body env) (TurnPost h₀ env.locals x stored m₀ (own ++ news) { s with heap := h, toks := tok } Q) E { s with heap := h, toks := tok })
    (done : ∀ (u : Str → Option Value) h tok, Fr h₀ env.locals h (fun y => if y = x then u y else if stored.contains y then u y else m₀ y) → News h₀ env.locals h news → Q .next { s with heap := h, toks := tok }) :
    wpAny (model PySem.Challenge.rw_bb0001_01.row.prog w) A (pyIter (.ref a)) (fun it s₂ => LoopAtV PySem.Challenge.rw_bb0001_01.row.prog w A h₀ env x body Q E it s₂) E s := by
  have hx := (N _ ha).1
  have hne : a ≠ s.heap.objs.size := Nat.ne_of_lt (Heap.lt_size hx)
  refine si_iter (h := s.heap) (g := s.gens) (d := s.drawn) (t := s.toks) (os := s.os) (X.keeps F.keep) hks hx ?_
  refine loop_at_law (s := { s with heap := s.heap.push (itObj 0 0 a ks.length ep) }) stored (Walks.cset hh s.heap.objs.size a dx hne ks hks tk ep) ?_ ?_ ?_ ⟨0, Heap.get?_push_size _ rfl, Heap.get?_push_of_some _ hx, fun _ => rfl⟩ (F.push _) (fun p hp => ⟨Heap.get?_push_of_some _ (N p hp).1, (N p hp).2⟩) (fun i v u h tok own hi hP => ?_) done
  · intro hm
    rcases List.mem_cons.mp hm with e | hm
    · exact absurd F.ns.lt (e ▸ Nat.lt_irrefl _)
    · exact (N _ ha).2.1 (List.mem_singleton.mp hm).symm
  · intro b hb
    rw [List.mem_singleton.mp hb]
    exact next_is_new F
  · intro p hp hI
    exact absurd (Heap.lt_size (N p hp).1) ((List.mem_singleton.mp hI) ▸ Nat.lt_irrefl _)
  · obtain ⟨k, hk, rfl⟩ := hP
    exact turn i k u h tok own hi hk
end
end Mine
end

/- LoopG -/
section
open PySem PySem.W PyProof.Rows PySem.Calls PySem.Spec
set_option linter.unusedVariables false
namespace Mine
/-- the ledger without the address a -/
def off (a : Addr) (l : List (Addr × Obj)) : List (Addr × Obj) := l.filter fun p => p.1 != a
theorem mem_off {a : Addr} {l : List (Addr × Obj)} {p : Addr × Obj} : p ∈ off a l ↔ p ∈ l ∧ p.1 ≠ a := by simp [off]
/-- the ledger with a new object at the address a -/
def put (a : Addr) (o : Obj) (l : List (Addr × Obj)) : List (Addr × Obj) := (a, o) :: off a l
theorem mem_put {a : Addr} {o : Obj} {l : List (Addr × Obj)} {p : Addr × Obj} (h : p ∈ l) (hn : p.1 ≠ a) : p ∈ put a o l := .tail _ (mem_off.mpr ⟨h, hn⟩)
theorem mem_put_self {a : Addr} {o : Obj} {l : List (Addr × Obj)} : (a, o) ∈ put a o l := .head _
section
variable {h₀ h h' : Heap} {L : Addr} {led : List (Addr × Obj)} {a b : Addr} {o o' : Obj}
theorem News.func (N : News h₀ L h led) (h1 : (a, o) ∈ led) (h2 : (a, o') ∈ led) : o = o' := Option.some.inj ((N _ h1).1.symm.trans (N _ h2).1)
theorem News.ne (N : News h₀ L h led) (h1 : (a, o) ∈ led) (h2 : (b, o') ∈ led) (hne : o ≠ o') : a ≠ b := fun e => hne (News.func N h1 (e ▸ h2))
theorem News.ne_data (N : News h₀ L h led) (h1 : (a, o) ∈ led) (h2 : (b, o') ∈ led) (hne : o.data ≠ o'.data) : a ≠ b := fun e => hne (congrArg Obj.data (News.func N h1 (e ▸ h2)))
theorem News.ne_cls (N : News h₀ L h led) (h1 : (a, o) ∈ led) (h2 : (b, o') ∈ led) (hne : o.cls ≠ o'.cls) : a ≠ b := fun e => hne (congrArg Obj.cls (News.func N h1 (e ▸ h2)))
theorem news_off (N : News h₀ L h led) : News h₀ L h (off a led) := fun p hp => N p (mem_off.mp hp).1
theorem news_put (N : News h₀ L h led) (hm : (a, o) ∈ led) (hk : ∀ b ob, b ≠ a → h.get? b = some ob → h'.get? b = some ob) (ho : h'.get? a = some o') : News h₀ L h' (put a o' led) := fun p hp => by
  rcases List.mem_cons.mp hp with rfl | hp
  · exact ⟨ho, (N _ hm).2⟩
  · obtain ⟨h1, h2⟩ := mem_off.mp hp
    exact ⟨hk _ _ h2 (N p h1).1, (N p h1).2⟩
end
section
variable {prog : Program} {w : World} {A : Around} {env : Env} {h₀ : Heap} {L : Addr}
def EndG (h₀ : Heap) (L I : Addr) (io : Obj) (J : (Str → Option Value) → List (Addr × Obj) → Array GenState → Prop) (os : OsState) (Q : Flow → Shared → Prop) (f : Flow) (s₂ : Shared) : Prop :=
  match f with
  | .ret v => Q (.ret v) s₂
  | .brk => Q .next s₂
  | _ => ∃ m₂ led, Fr h₀ L s₂.heap m₂ ∧ News h₀ L s₂.heap led ∧ (I, io) ∈ led ∧ J m₂ (off I led) s₂.gens ∧ s₂.os = os
theorem for_own {R : Result → Shared → Prop} {target : Expr} {body : List Stmt} {I : Addr} {fp : List Addr} {n : Nat} {P : Nat → Value → Prop} {St : Nat → Heap → Prop} {m : Str → Option Value} {led need : List (Addr × Obj)} {s : Shared} {E' : Value → Shared → Prop}
    (W : Walks prog w A I fp [I] n P St) (hfp : ∀ b ∈ fp, b = I ∨ ∃ o, (b, o) ∈ need) (hIo : ∀ i h, St i h → ∃ o, h.get? I = some o ∧ ∃ fs, o.data = .fields fs) (hI₀ : h₀.get? I = none) (hIL : I ≠ L)
    (J : Nat → (Str → Option Value) → List (Addr × Obj) → Array GenState → Prop)
    (hneed : ∀ i m led g, J i m led g → ∀ p ∈ need, p ∈ led)
    (hst : St 0 s.heap) (F : Fr h₀ L s.heap m) (N : News h₀ L s.heap led) (hoff : ∀ p ∈ led, p.1 ≠ I) (h0 : J 0 m led s.gens)
    (turn : ∀ i v m₁ led₁ io h g d t, i < n → P i v → J i m₁ led₁ g → (∀ p ∈ led₁, p.1 ≠ I) → (∃ fs, io.data = .fields fs) → Fr h₀ L h m₁ → News h₀ L h ((I, io) :: led₁) →
      wpAny (model prog w) A (assign target env v) (fun _ s₂ => wpAny (model prog w) A (execs body env) (EndG h₀ L I io (J (i + 1)) s.os fun f s' => R (.ok f) s') E' s₂) E' ⟨h, g, d, t, s.os⟩)
    (done : ∀ m₁ led₁ h g d t, J n m₁ led₁ g → Fr h₀ L h m₁ → News h₀ L h led₁ → R (.ok .next) ⟨h, g, d, t, s.os⟩)
    (hE : ∀ e s', E' e s' → notedBy (model prog w) A env (fun e s' => R (.error e) s') e s')
    (ht : ∀ v, letOwnedTupleGo target (.ref I) v = pure () := by intro _; rfl) :
    codeAny (model prog w) A (.forLoop target (.ref I) body [] env) R s := by
  refine codeAny_forLoop
    (fun k s' => ∃ h' g d tk m' led' i, s' = ⟨h', g, d, tk, s.os⟩ ∧ St i h' ∧ Fr h₀ L h' m' ∧ News h₀ L h' led' ∧ (∀ p ∈ led', p.1 ≠ I) ∧ J i m' led' g ∧ i ≤ n ∧ k = n + 1 - i) ?_ (n + 1)
    ⟨s.heap, s.gens, s.drawn, s.toks, m, led, 0, rfl, hst, F, N, hoff, h0, Nat.zero_le _, rfl⟩ ht
  rintro k s' ⟨h', g, d, tk, m', led', i, rfl, hst', F', N', hoff', hJ, hi, rfl⟩
  have next : ∀ h₁ : Heap, (∀ b o, b ∉ [I] → h'.get? b = some o → h₁.get? b = some o) → Fr h₀ L h₁ m' ∧ News h₀ L h₁ led' := fun h₁ hk₁ =>
    ⟨⟨F'.ns.at' fun o e => hk₁ _ o (by simpa using Ne.symm hIL) e, fun b o e => hk₁ b o (fun hm => by rw [List.mem_singleton.mp hm, hI₀] at e; cases e) (F'.keep b o e), F'.above⟩, fun p hp => ⟨hk₁ _ _ (by simpa using hoff' p hp) (N' p hp).1, (N' p hp).2⟩⟩
  by_cases hlt : i < n
  · refine W.item i _ _ _ hlt hst' fun v h₁ tk₁ hP hst₁ hk₁ => ?_
    obtain ⟨F₁, N₁⟩ := next h₁ hk₁
    obtain ⟨io, hio, hfs⟩ := hIo _ _ hst₁
    have N₁' : News h₀ L h₁ ((I, io) :: led') := fun p hp => by
      rcases List.mem_cons.mp hp with rfl | hp
      · exact ⟨hio, hIL, hI₀⟩
      · exact N₁ p hp
    have fin : ∀ s₃ : Shared, (∃ m₂ led₂, Fr h₀ L s₃.heap m₂ ∧ News h₀ L s₃.heap led₂ ∧ (I, io) ∈ led₂ ∧ J (i + 1) m₂ (off I led₂) s₃.gens ∧ s₃.os = s.os) →
        ∃ m, m < n + 1 - i ∧ ∃ h' g d tk m' led' i, s₃ = ⟨h', g, d, tk, s.os⟩ ∧ St i h' ∧ Fr h₀ L h' m' ∧ News h₀ L h' led' ∧ (∀ p ∈ led', p.1 ≠ I) ∧ J i m' led' g ∧ i ≤ n ∧ m = n + 1 - i := by
      rintro ⟨h₃, g₃, d₃, t₃, o₃⟩ ⟨m₂, led₂, F₃, N₃, hI₃, hJ₃, ho₃⟩
      dsimp only at F₃ N₃ hJ₃ ho₃
      subst ho₃
      refine ⟨n + 1 - (i + 1), by omega, h₃, g₃, d₃, t₃, m₂, off I led₂, i + 1, rfl, ?_, F₃, news_off N₃, fun p hp => (mem_off.mp hp).2, hJ₃, hlt, rfl⟩
      refine W.frame _ _ _ hst₁ fun b hb o e => ?_
      rcases hfp b hb with rfl | ⟨ob, hob⟩
      · rw [hio] at e; cases e; exact (N₃ _ hI₃).1
      · have e1 := (N₁ _ (hneed _ _ _ _ hJ _ hob)).1
        rw [e] at e1; cases e1
        exact (N₃ _ (mem_off.mp (hneed _ _ _ _ hJ₃ _ hob)).1).1
    refine wpAny_mono (turn i v m' led' io h₁ g d tk₁ hlt hP hJ hoff' hfs F₁ N₁') (fun _ s₂ h₂ => ?_) hE
    refine wpAny_mono h₂ (fun f s₃ h₃ => ?_) hE
    cases f with
    | ret v => exact h₃
    | brk => exact h₃
    | next => exact fin _ h₃
    | cont => exact fin _ h₃
  · have hin : i = n := by omega
    subst hin
    refine W.done _ _ _ hst' fun h₁ tk₁ hk₁ => wpAny_execs_nil ?_
    obtain ⟨F₁, N₁⟩ := next h₁ hk₁
    exact done m' led' h₁ g d tk₁ hJ F₁ N₁
end
end Mine
end

/- LoopC -/
section
open PySem PySem.W PyProof.Rows PySem.Calls PySem.Spec
set_option linter.unusedVariables false
namespace Mine
/-- a list object whose items are vs -/
def LObj (o : Obj) (vs : Array Value) : Prop := o.cls = .type "list" ∧ ∃ n, o.data = .seq vs n
theorem LObj.lit {vs : Array Value} {n : Nat} : LObj { cls := .type "list", data := .seq vs n } vs := ⟨rfl, _, rfl⟩
theorem LObj.isList {o : Obj} {vs : Array Value} {h : Heap} {l : Addr} (x : LObj o vs) (e : h.get? l = some o) : h.IsList l vs := ⟨o, e, x.1, x.2⟩
/-- what is left of a for, its iterator made -/
def LoopC (prog : Program) (w : World) (A : Around) (env : Env) (target : Expr) (body : List Stmt) (Q : Flow → Shared → Prop) (E : Value → Shared → Prop) (it : Value) (s₂ : Shared) : Prop :=
  codeAny (model prog w) A (.forLoop target it body [] env) (fun r s' => match r with | .ok f => Q f s' | .error e => cameBackBy (model prog w) A env E e s') s₂
/-- one turn from the item to the turn's end -/
def TurnG (prog : Program) (w : World) (A : Around) (h₀ : Heap) (env : Env) (target : Expr) (body : List Stmt) (I : Addr) (io : Obj) (J : (Str → Option Value) → List (Addr × Obj) → Array GenState → Prop) (os : OsState) (Q : Flow → Shared → Prop) (E : Value → Shared → Prop) (v : Value) (s : Shared) : Prop :=
  wpAny (model prog w) A (assign target env v) (fun _ s₂ => wpAny (model prog w) A (execs body env) (EndG h₀ env.locals I io J os Q) E s₂) E s
section
variable {prog : Program} {w : World} {A : Around} {E : Value → Shared → Prop} {s : Shared} {env : Env} {h₀ : Heap} {target : Expr} {body : List Stmt} {Q : Flow → Shared → Prop}
theorem For_c {iter : Expr} {pos : Pos} (h : wpAny (model prog w) A (eval iter env) (fun xv s₁ => wpAny (model prog w) A (pyIter xv) (LoopC prog w A env target body Q E) E s₁) E s)
    (hs : ∀ x, foldedSetIterable iter env x = pure x := by intro _; rfl) : wpAny (model prog w) A (exec (.For target iter body [] pos) env) Q E s := wpAny_For h hs
theorem loop_c {I : Addr} {fp : List Addr} {n : Nat} {P : Nat → Value → Prop} {St : Nat → Heap → Prop} {m : Str → Option Value} {led need : List (Addr × Obj)}
    (J : Nat → (Str → Option Value) → List (Addr × Obj) → Array GenState → Prop)
    (W : Walks prog w A I fp [I] n P St) (hfp : ∀ b ∈ fp, b = I ∨ ∃ o, (b, o) ∈ need) (hIo : ∀ i h, St i h → ∃ o, h.get? I = some o ∧ ∃ fs, o.data = .fields fs) (hI₀ : h₀.get? I = none) (hIL : I ≠ env.locals)
    (hneed : ∀ i m led g, J i m led g → ∀ p ∈ need, p ∈ led)
    (hst : St 0 s.heap) (F : Fr h₀ env.locals s.heap m) (N : News h₀ env.locals s.heap led) (hoff : ∀ p ∈ led, p.1 ≠ I) (h0 : J 0 m led s.gens)
    (turn : ∀ i v m₁ led₁ I io h g d t, i < n → P i v → J i m₁ led₁ g → (∀ p ∈ led₁, p.1 ≠ I) → (∃ fs, io.data = .fields fs) → Fr h₀ env.locals h m₁ → News h₀ env.locals h ((I, io) :: led₁) →
      TurnG prog w A h₀ env target body I io (J (i + 1)) s.os Q E v ⟨h, g, d, t, s.os⟩)
    (done : ∀ m₁ led₁ h g d t, J n m₁ led₁ g → Fr h₀ env.locals h m₁ → News h₀ env.locals h led₁ → Q .next ⟨h, g, d, t, s.os⟩)
    (hE : PassesOwn (model prog w) A env E := by passes_own)
    (ht : ∀ (I : Addr) v, letOwnedTupleGo target (.ref I) v = pure () := by intro _ _; rfl) : LoopC prog w A env target body Q E (.ref I) s :=
  for_own W hfp hIo hI₀ hIL J hneed hst F N hoff h0 (fun i v m₁ led₁ io h g d t hi hP hJ ho hf F₁ N₁ =>
    wpAny_passesOwn hE (wpAny_mono (turn i v m₁ led₁ I io h g d t hi hP hJ ho hf F₁ N₁) (fun _ s₂ h₂ => wpAny_passesOwn hE h₂) fun _ _ x => x)) done (fun e s' x => x) (ht I)
theorem iter_c_list {l : Addr} {o : Obj} {vs : Array Value} {m : Str → Option Value} {led : List (Addr × Obj)} (J : Nat → (Str → Option Value) → List (Addr × Obj) → Array GenState → Prop)
    (hh : A.handled = none) (ho : LObj o vs) (hneed : ∀ i m led g, J i m led g → (l, o) ∈ led) (F : Fr h₀ env.locals s.heap m) (N : News h₀ env.locals s.heap led) (h0 : J 0 m led s.gens)
    (turn : ∀ i v m₁ led₁ I io h g d t, i < vs.size → vs[i]? = some v → J i m₁ led₁ g → (∀ p ∈ led₁, p.1 ≠ I) → (∃ fs, io.data = .fields fs) → Fr h₀ env.locals h m₁ → News h₀ env.locals h ((I, io) :: led₁) →
      TurnG prog w A h₀ env target body I io (J (i + 1)) s.os Q E v ⟨h, g, d, t, s.os⟩)
    (done : ∀ m₁ led₁ h g d t, J vs.size m₁ led₁ g → Fr h₀ env.locals h m₁ → News h₀ env.locals h led₁ → Q .next ⟨h, g, d, t, s.os⟩)
    (hE : PassesOwn (model prog w) A env E := by passes_own)
    (ht : ∀ (I : Addr) v, letOwnedTupleGo target (.ref I) v = pure () := by intro _ _; rfl) :
    wpAny (model prog w) A (pyIter (.ref l)) (LoopC prog w A env target body Q E) E s := by
  have hl := hneed _ _ _ _ h0
  have hls : s.heap.IsList l vs := ho.isList (N _ hl).1
  have hne : l ≠ s.heap.objs.size := Nat.ne_of_lt (Heap.lt_size (N _ hl).1)
  refine wpAny_pyIter_list hls ?_
  refine loop_c (need := [(l, o)]) (s := { s with heap := s.heap.push { cls := .type "list_iterator", data := .fields #[.ref l, .int 0 0] } }) J (Walks.list hh s.heap.objs.size l hne vs) ?_ ?_ (next_is_new F) (Nat.ne_of_gt F.ns.lt) ?_ ⟨⟨_, Heap.get?_push_size _ rfl, rfl, rfl⟩, hls.at fun o e => Heap.get?_push_of_some _ e⟩ (F.push _) (fun p hp => ⟨Heap.get?_push_of_some _ (N p hp).1, (N p hp).2⟩) (fun p hp => Nat.ne_of_lt (Heap.lt_size (N p hp).1)) h0 turn done hE ht
  · intro b hb
    rcases List.mem_cons.mp hb with rfl | hb
    · exact .inl rfl
    · rw [List.mem_singleton.mp hb]; exact .inr ⟨_, List.mem_singleton.mpr rfl⟩
  · rintro i h ⟨⟨o, e, c, d⟩, _⟩
    exact ⟨o, e, _, d⟩
  · intro i m led g hJ p hp
    rw [List.mem_singleton.mp hp]; exact hneed _ _ _ _ hJ
theorem iter_c_made {l I : Addr} {o : Obj} {vs : Array Value} {m : Str → Option Value} {led : List (Addr × Obj)} (J : Nat → (Str → Option Value) → List (Addr × Obj) → Array GenState → Prop)
    (hh : A.handled = none) (ho : LObj o vs) (hneed : ∀ i m led g, J i m led g → (l, o) ∈ led) (F : Fr h₀ env.locals s.heap m) (N : News h₀ env.locals s.heap ((I, { cls := .type "list_iterator", data := .fields #[.ref l, .int 0 0] }) :: led)) (hlt : ∀ p ∈ led, p.1 < I) (h0 : J 0 m led s.gens)
    (turn : ∀ i v m₁ led₁ I io h g d t, i < vs.size → vs[i]? = some v → J i m₁ led₁ g → (∀ p ∈ led₁, p.1 ≠ I) → (∃ fs, io.data = .fields fs) → Fr h₀ env.locals h m₁ → News h₀ env.locals h ((I, io) :: led₁) →
      TurnG prog w A h₀ env target body I io (J (i + 1)) s.os Q E v ⟨h, g, d, t, s.os⟩)
    (done : ∀ m₁ led₁ h g d t, J vs.size m₁ led₁ g → Fr h₀ env.locals h m₁ → News h₀ env.locals h led₁ → Q .next ⟨h, g, d, t, s.os⟩)
    (hE : PassesOwn (model prog w) A env E := by passes_own)
    (ht : ∀ (I : Addr) v, letOwnedTupleGo target (.ref I) v = pure () := by intro _ _; rfl) :
    LoopC prog w A env target body Q E (.ref I) s := by
  have hl := hneed _ _ _ _ h0
  have hls : s.heap.IsList l vs := ho.isList (N _ (.tail _ hl)).1
  have hne : l ≠ I := Nat.ne_of_lt (hlt _ hl)
  refine loop_c (need := [(l, o)]) J (Walks.list hh I l hne vs) ?_ ?_ (N _ (.head _)).2.2 (N _ (.head _)).2.1 ?_ ⟨⟨_, (N _ (.head _)).1, rfl, rfl⟩, hls⟩ F (fun p hp => N p (.tail _ hp)) (fun p hp => Nat.ne_of_lt (hlt p hp)) h0 turn done hE ht
  · intro b hb
    rcases List.mem_cons.mp hb with rfl | hb
    · exact .inl rfl
    · rw [List.mem_singleton.mp hb]; exact .inr ⟨_, List.mem_singleton.mpr rfl⟩
  · rintro i h ⟨⟨o, e, c, d⟩, _⟩
    exact ⟨o, e, _, d⟩
  · intro i m led g hJ p hp
    rw [List.mem_singleton.mp hp]; exact hneed _ _ _ _ hJ
theorem iter_c_range {r : Addr} {a b : Int} {t u v : Tok} {n : Nat} {m : Str → Option Value} {led : List (Addr × Obj)} (J : Nat → (Str → Option Value) → List (Addr × Obj) → Array GenState → Prop)
    (hh : A.handled = none) (hr : IsRange s.heap r a b 1 t u v) (hsm : Builtin.Range.small a b 1 = true) (hn : Builtin.Range.rangeSize a b 1 = (n : Int)) (F : Fr h₀ env.locals s.heap m) (N : News h₀ env.locals s.heap led) (h0 : J 0 m led s.gens)
    (turn : ∀ i tt m₁ led₁ I io h g d t, i < n → J i m₁ led₁ g → (∀ p ∈ led₁, p.1 ≠ I) → (∃ fs, io.data = .fields fs) → Fr h₀ env.locals h m₁ → News h₀ env.locals h ((I, io) :: led₁) →
      TurnG prog w A h₀ env target body I io (J (i + 1)) s.os Q E (.int (a + (i : Int)) tt) ⟨h, g, d, t, s.os⟩)
    (done : ∀ m₁ led₁ h g d t, J n m₁ led₁ g → Fr h₀ env.locals h m₁ → News h₀ env.locals h led₁ → Q .next ⟨h, g, d, t, s.os⟩)
    (hE : PassesOwn (model prog w) A env E := by passes_own)
    (ht : ∀ (I : Addr) v, letOwnedTupleGo target (.ref I) v = pure () := by intro _ _; rfl) :
    wpAny (model prog w) A (pyIter (.ref r)) (LoopC prog w A env target body Q E) E s := by
  refine wpAny_pyIter_range hr hsm ?_
  refine loop_c (need := []) (s := { s with heap := s.heap.push { cls := .type "range_iterator", data := .fields #[rawInt a, rawInt (Builtin.Range.rangeSize a b 1), rawInt 1] } }) J (LCg.range_walks hh a n) ?_ ?_ (next_is_new F) (Nat.ne_of_gt F.ns.lt) ?_ (by show IsRangeIter _ _ _ _ _; rw [hn]; simpa using Heap.get?_push_size _ rfl) (F.push _) (fun p hp => ⟨Heap.get?_push_of_some _ (N p hp).1, (N p hp).2⟩) (fun p hp => Nat.ne_of_lt (Heap.lt_size (N p hp).1)) h0 ?_ done hE ht
  · intro b hb
    exact .inl (List.mem_singleton.mp hb)
  · intro i h st
    exact ⟨_, st, _, rfl⟩
  · intro i m led g hJ p hp; cases hp
  · rintro i v m₁ led₁ I io h g d t hi ⟨tt, rfl⟩
    exact turn i tt m₁ led₁ I io h g d t hi
end
section
variable {w : World} {A : Around} {E : Value → Shared → Prop} {s : Shared} {env : Env} {h₀ : Heap} {target : Expr} {body : List Stmt} {Q : Flow → Shared → Prop}
theorem iter_c_set {a dx : Addr} {ks : List Nat} {tk : Nat → Tok} {ep : Nat} {m : Str → Option Value} {led : List (Addr × Obj)} (J : Nat → (Str → Option Value) → List (Addr × Obj) → Array GenState → Prop)
    (hh : A.handled = none) (X : (hd.heap_39 w.params).In h₀) (hks : ks ∈ subs) (hneed : ∀ i m led g, J i m led g → (a, csObj dx (esOf ks tk) ep (tabS ks (!bt w))) ∈ led) (F : Fr h₀ env.locals s.heap m) (N : News h₀ env.locals s.heap led) (h0 : J 0 m led s.gens)
    (turn : ∀ i k m₁ led₁ I io h g d t, i < ks.length → (ordOf w a ep ks)[i]? = some k → J i m₁ led₁ g → (∀ p ∈ led₁, p.1 ≠ I) → (∃ fs, io.data = .fields fs) → Fr h₀ env.locals h m₁ → News h₀ env.locals h ((I, io) :: led₁) →
      TurnG PySem.Challenge.rw_bb0001_01.row.prog w A h₀ env target body I io (J (i + 1)) s.os Q E (.int (k : Int) (tk k)) ⟨h, g, d, t, s.os⟩)
    (done : ∀ m₁ led₁ h g d t, J ks.length m₁ led₁ g → Fr h₀ env.locals h m₁ → News h₀ env.locals h led₁ → Q .next ⟨h, g, d, t, s.os⟩)
    (hE : PassesOwn (model PySem.Challenge.rw_bb0001_01.row.prog w) A env E := by passes_own)
    (ht : ∀ (I : Addr) v, letOwnedTupleGo target (.ref I) v = pure () := by intro _ _; rfl) :
    wpAny (model PySem.Challenge.rw_bb0001_01.row.prog w) A (pyIter (.ref a)) (LoopC PySem.Challenge.rw_bb0001_01.row.prog w A env target body Q E) E s := by
  have ha := hneed _ _ _ _ h0
  have hx := (N _ ha).1
  have hne : a ≠ s.heap.objs.size := Nat.ne_of_lt (Heap.lt_size hx)
  refine si_iter (h := s.heap) (g := s.gens) (d := s.drawn) (t := s.toks) (os := s.os) (X.keeps F.keep) hks hx ?_
  refine loop_c (need := [(a, csObj dx (esOf ks tk) ep (tabS ks (!bt w)))]) (s := { s with heap := s.heap.push (itObj 0 0 a ks.length ep) }) J (Walks.cset hh s.heap.objs.size a dx hne ks hks tk ep) ?_ ?_ (next_is_new F) (Nat.ne_of_gt F.ns.lt) ?_ ⟨0, Heap.get?_push_size _ rfl, Heap.get?_push_of_some _ hx, fun _ => rfl⟩ (F.push _) (fun p hp => ⟨Heap.get?_push_of_some _ (N p hp).1, (N p hp).2⟩) (fun p hp => Nat.ne_of_lt (Heap.lt_size (N p hp).1)) h0 (fun i v m₁ led₁ I io h g d t hi hP => ?_) done hE ht
  · intro b hb
    rcases List.mem_cons.mp hb with rfl | hb
    · exact .inl rfl
    · rw [List.mem_singleton.mp hb]; exact .inr ⟨_, List.mem_singleton.mpr rfl⟩
  · rintro i h ⟨slot, h1, _⟩
    exact ⟨_, h1, _, rfl⟩
  · intro i m led g hJ p hp
    rw [List.mem_singleton.mp hp]; exact hneed _ _ _ _ hJ
  · obtain ⟨k, hk, rfl⟩ := hP
    exact turn i k m₁ led₁ I io h g d t hi hk
end
end Mine
end

/- CFl -/
section
open PySem PySem.W PyProof.Rows PySem.Calls PySem.Spec
set_option linter.unusedVariables false
set_option maxRecDepth 100000
namespace Mine
/-- the values vs are the figures ks -/
def VN : List Value → List Nat → Prop
  | [], [] => True
  | v :: vs, k :: ks => (∃ t, v = .int (k : Int) t) ∧ VN vs ks
  | _, _ => False
theorem VN.snoc : ∀ {vs : List Value} {ks : List Nat} {k : Nat} {t : Tok}, VN vs ks → VN (vs ++ [.int (k : Int) t]) (ks ++ [k])
  | [], [], k, t, _ => ⟨⟨t, rfl⟩, trivial⟩
  | v :: vs, k' :: ks, k, t, h => ⟨h.1, VN.snoc h.2⟩
theorem VN.len : ∀ {vs : List Value} {ks : List Nat}, VN vs ks → vs.length = ks.length
  | [], [], _ => rfl
  | v :: vs, k' :: ks, h => by rw [List.length_cons, List.length_cons, VN.len h.2]
theorem VN.get : ∀ {vs : List Value} {ks : List Nat}, VN vs ks → ∀ (i : Nat) v, vs[i]? = some v → ∃ t, v = Value.int ((ks.getD i 0 : Nat) : Int) t
  | [], [], _, i, v, e => by simp at e
  | v :: vs, k' :: ks, h, 0, x, e => by
    obtain ⟨t, ht⟩ := h.1
    simp at e
    exact ⟨t, by rw [← e, ht]; rfl⟩
  | v :: vs, k' :: ks, h, i + 1, x, e => by
    simp at e
    simpa using VN.get h.2 i x e
theorem filter_take {p : Nat → Bool} : ∀ (l : List Nat) (i : Nat) (h : i < l.length), (l.take (i + 1)).filter p = (l.take i).filter p ++ if p (l.getD i 0) then [l.getD i 0] else []
  | [], i, h => absurd h (Nat.not_lt_zero _)
  | x :: l, 0, h => by by_cases hp : p x <;> simp [hp]
  | x :: l, i + 1, h => by
    have ih := filter_take (p := p) l i (by simpa using h)
    simp only [List.take_succ_cons, List.filter_cons, List.getD_cons_succ]
    rw [ih]
    by_cases hp : p x <;> simp [hp]
section
variable {prog : Program} {w : World} {A : Around} {E : Value → Shared → Prop} {s : Shared} {h₀ : Heap} {L : Addr} {m : Str → Option Value} {env : Env}
/-- [x for x in SOURCE if TEST] over figures: what passes the test -/
theorem comp_flt {ct : Expr} {x : Str} {px : Pos} {scope : Scope} {cl : List (Str × Addr)} {S : List (Addr × Obj) → Prop} {P : Nat → Value → Prop} {Fin : List Value → List (Addr × Obj) → Prop} {news : List (Addr × Obj)} {n : Nat} (ns : List Nat) (p : Nat → Bool) (hn : ns.length = n)
    (hP : ∀ i v, i < ns.length → P i v → ∃ t, v = .int ((ns.getD i 0 : Nat) : Int) t) (hS : S news)
    (hx : scope.names.lookup x = some .local) (hk : scope.kind = .function) (hdb : (x == ("__debug__" : Str)) = false)
    (turn : ∀ i k t I oI C oC D m₂ ys h tk (E' : Value → Shared → Prop), i < ns.length → k = ns.getD i 0 → LCg.NsObj oC m₂ → m₂ x = some (.int (k : Int) t) → Fr h₀ L h m → News h₀ L h ((I, oI) :: (C, oC) :: (D, LCg.lst ys) :: news) →
      wpAny (model prog w) A (isTrue ct (compEnvC scope cl C env) (eval ct (compEnvC scope cl C env))) (fun ok s' => ok = p k ∧ ∃ h' tk', s' = { s with heap := h', toks := tk' } ∧ Fr h₀ L h' m ∧ News h₀ L h' ((I, oI) :: (C, oC) :: (D, LCg.lst ys) :: news)) E' { s with heap := h, toks := tk })
    (fin : ∀ ys, VN ys (ns.filter p) → Fin ys news) :
    LCt.CompRestT prog w A h₀ L m env ct (.Name x px) x scope cl s S P Fin n 0 [] news := by
  subst hn
  have key : ∀ (j i : Nat) (ys : List Value), i + j = ns.length → VN ys ((ns.take i).filter p) →
      LCt.CompRestT prog w A h₀ L m env ct (.Name x px) x scope cl s S P Fin j i ys news := by
    intro j
    induction j with
    | zero =>
      intro i ys hi hy
      have e : i = ns.length := by omega
      rw [e, List.take_length] at hy
      exact LCt.CompRestT.zero (fin ys hy)
    | succ j ih =>
      intro i ys hi hy
      refine LCt.CompRestT.succ ?_
      intro v I oI C oC D m₂ h tk E' hv hC hx' F N off ne
      obtain ⟨t, rfl⟩ := hP i v (by omega) hv
      refine wpAny_mono (turn i (ns.getD i 0) t I oI C oC D m₂ ys h tk E' (by omega) rfl hC hx' F N) (fun ok s₂ hq => ?_) fun _ _ e => e
      obtain ⟨hg, h', tk', rfl, F', N'⟩ := hq
      have hf := filter_take (p := p) ns i (by omega)
      cases ok with
      | true =>
        simp only [if_true]
        have hns := hC.ns (N' _ (.tail _ (.head _))).1
        refine wpAny_Name (wpAny_loadName_local (by show (relabel scope env).kind = _; simp [relabel, hk]) (lookup_relabel_local hx) hns hx' ?_) hdb
        refine ⟨h', tk', news, rfl, F', N', off, hS, ih (i + 1) _ (by omega) ?_⟩
        rw [hf, ← hg, if_pos rfl]
        exact hy.snoc
      | false =>
        simp only [Bool.false_eq_true, if_false]
        refine ⟨h', tk', news, rfl, F', N', off, hS, ih (i + 1) _ (by omega) ?_⟩
        rw [hf, ← hg, if_neg (by decide), List.append_nil]
        exact hy
  exact key ns.length 0 [] (by omega) trivial
theorem vn_any (k : Nat) : ∀ {vs : List Value} {ks : List Nat}, VN vs ks → (vs.any fun y => match y with | .int a _ => a == (k : Int) | _ => false) = decide (k ∈ ks)
  | [], [], _ => rfl
  | v :: vs, k' :: ks, h => by
    obtain ⟨⟨t, rfl⟩, h2⟩ := h
    rw [List.any_cons, vn_any k h2]
    by_cases e : k = k'
    · subst e; simp
    · have e2 : ((k' : Int) == (k : Int)) = false := by rw [beq_eq_false_iff_ne]; omega
      simp [e, e2]
theorem VN.ints : ∀ {vs : List Value} {ks : List Nat}, VN vs ks → ∀ v ∈ vs, ∃ (k : Nat) (t : Tok), v = Value.int (k : Int) t
  | [], [], _, v, hv => nomatch hv
  | v :: vs, k' :: ks, h, x, hx => by
    rcases List.mem_cons.mp hx with rfl | hx
    · obtain ⟨t, rfl⟩ := h.1; exact ⟨k', t, rfl⟩
    · exact VN.ints h.2 x hx
/-- k in a list of figures -/
theorem in_vn {l : Addr} {vs : Array Value} {ks : List Nat} {k : Nat} {t : Tok} {Q : Value → Shared → Prop} (hl : s.heap.IsList l vs) (hv : VN vs.toList ks) (hq : Q (.bool (decide (k ∈ ks))) s) :
    wpAny (model prog w) A (compareOp .In (.int (k : Int) t) (.ref l)) Q E s := by
  refine SeqAt.in_listAt (fun y => match y with | .int a _ => a == (k : Int) | _ => false) hl (fun y hy => ?_) ?_
  · obtain ⟨k', t', rfl⟩ := hv.ints y (by simpa using hy)
    exact SeqAt.EqAt.int_int _ _ _ _
  · rw [← Array.any_toList, vn_any k hv]
    exact hq
end
end Mine
end

/- LoopT -/
section
open PySem PySem.W PyProof.Rows PySem.Calls PySem.Spec
set_option linter.unusedVariables false
namespace Mine
section
variable {prog : Program} {w : World} {A : Around} {env : Env} {h₀ : Heap} {L : Addr}
theorem for_own_t {R : Result → Shared → Prop} {target : Expr} {body : List Stmt} {I : Addr} {fp : List Addr} {n : Nat} {P : Nat → Value → Prop} {St : Nat → Heap → Prop} {m : Str → Option Value} {led need : List (Addr × Obj)} {s : Shared} {E' : Value → Shared → Prop}
    (W : Walks prog w A I fp [I] n P St) (hfp : ∀ b ∈ fp, b = I ∨ ∃ o, (b, o) ∈ need) (hIo : ∀ i h, St i h → ∃ o, h.get? I = some o ∧ ∃ fs, o.data = .fields fs) (hI₀ : h₀.get? I = none) (hIL : I ≠ L)
    (J : Nat → (Str → Option Value) → List (Addr × Obj) → Array GenState → Prop)
    (hneed : ∀ i m led g, J i m led g → ∀ p ∈ need, p ∈ led)
    (hst : St 0 s.heap) (F : Fr h₀ L s.heap m) (N : News h₀ L s.heap led) (hoff : ∀ p ∈ led, p.1 ≠ I) (h0 : J 0 m led s.gens)
    (turn : ∀ i v m₁ led₁ io h g d t, i < n → P i v → J i m₁ led₁ g → (∀ p ∈ led₁, p.1 ≠ I) → (∃ fs, io.data = .fields fs) → Fr h₀ L h m₁ → News h₀ L h ((I, io) :: led₁) →
      wpAny (model prog w) A (assign target env v) (fun _ s₂ => wpAny (model prog w) A (execs body env) (EndG h₀ L I io (J (i + 1)) s.os fun f s' => R (.ok f) s') E' s₂) E' ⟨h, g, d, t, s.os⟩)
    (done : ∀ m₁ led₁ h g d t, J n m₁ led₁ g → Fr h₀ L h m₁ → News h₀ L h led₁ → R (.ok .next) ⟨h, g, d, t, s.os⟩)
    (hE : ∀ e s', E' e s' → notedBy (model prog w) A env (fun e s' => R (.error e) s') e s')
    (hgo : ∀ i v (s' : Shared) (Q' : Unit → Shared → Prop) (E' : Value → Shared → Prop), i < n → P i v → St (i + 1) s'.heap → Q' () s' → wpAny (model prog w) A (letOwnedTupleGo target (.ref I) v) Q' E' s') :
    codeAny (model prog w) A (.forLoop target (.ref I) body [] env) R s := by
  refine codeAny_forLoop_any
    (fun k s' => ∃ h' g d tk m' led' i, s' = ⟨h', g, d, tk, s.os⟩ ∧ St i h' ∧ Fr h₀ L h' m' ∧ News h₀ L h' led' ∧ (∀ p ∈ led', p.1 ≠ I) ∧ J i m' led' g ∧ i ≤ n ∧ k = n + 1 - i) ?_ (n + 1)
    ⟨s.heap, s.gens, s.drawn, s.toks, m, led, 0, rfl, hst, F, N, hoff, h0, Nat.zero_le _, rfl⟩
  rintro k s' ⟨h', g, d, tk, m', led', i, rfl, hst', F', N', hoff', hJ, hi, rfl⟩
  have next : ∀ h₁ : Heap, (∀ b o, b ∉ [I] → h'.get? b = some o → h₁.get? b = some o) → Fr h₀ L h₁ m' ∧ News h₀ L h₁ led' := fun h₁ hk₁ =>
    ⟨⟨F'.ns.at' fun o e => hk₁ _ o (by simpa using Ne.symm hIL) e, fun b o e => hk₁ b o (fun hm => by rw [List.mem_singleton.mp hm, hI₀] at e; cases e) (F'.keep b o e), F'.above⟩, fun p hp => ⟨hk₁ _ _ (by simpa using hoff' p hp) (N' p hp).1, (N' p hp).2⟩⟩
  by_cases hlt : i < n
  · refine W.item i _ _ _ hlt hst' fun v h₁ tk₁ hP hst₁ hk₁ => ?_
    obtain ⟨F₁, N₁⟩ := next h₁ hk₁
    obtain ⟨io, hio, hfs⟩ := hIo _ _ hst₁
    have N₁' : News h₀ L h₁ ((I, io) :: led') := fun p hp => by
      rcases List.mem_cons.mp hp with rfl | hp
      · exact ⟨hio, hIL, hI₀⟩
      · exact N₁ p hp
    have fin : ∀ s₃ : Shared, (∃ m₂ led₂, Fr h₀ L s₃.heap m₂ ∧ News h₀ L s₃.heap led₂ ∧ (I, io) ∈ led₂ ∧ J (i + 1) m₂ (off I led₂) s₃.gens ∧ s₃.os = s.os) →
        ∃ m, m < n + 1 - i ∧ ∃ h' g d tk m' led' i, s₃ = ⟨h', g, d, tk, s.os⟩ ∧ St i h' ∧ Fr h₀ L h' m' ∧ News h₀ L h' led' ∧ (∀ p ∈ led', p.1 ≠ I) ∧ J i m' led' g ∧ i ≤ n ∧ m = n + 1 - i := by
      rintro ⟨h₃, g₃, d₃, t₃, o₃⟩ ⟨m₂, led₂, F₃, N₃, hI₃, hJ₃, ho₃⟩
      dsimp only at F₃ N₃ hJ₃ ho₃
      subst ho₃
      refine ⟨n + 1 - (i + 1), by omega, h₃, g₃, d₃, t₃, m₂, off I led₂, i + 1, rfl, ?_, F₃, news_off N₃, fun p hp => (mem_off.mp hp).2, hJ₃, hlt, rfl⟩
      refine W.frame _ _ _ hst₁ fun b hb o e => ?_
      rcases hfp b hb with rfl | ⟨ob, hob⟩
      · rw [hio] at e; cases e; exact (N₃ _ hI₃).1
      · have e1 := (N₁ _ (hneed _ _ _ _ hJ _ hob)).1
        rw [e] at e1; cases e1
        exact (N₃ _ (mem_off.mp (hneed _ _ _ _ hJ₃ _ hob)).1).1
    refine hgo i v _ _ _ hlt hP hst₁ ?_
    refine wpAny_mono (turn i v m' led' io h₁ g d tk₁ hlt hP hJ hoff' hfs F₁ N₁') (fun _ s₂ h₂ => ?_) hE
    refine wpAny_mono h₂ (fun f s₃ h₃ => ?_) hE
    cases f with
    | ret v => exact h₃
    | brk => exact h₃
    | next => exact fin _ h₃
    | cont => exact fin _ h₃
  · have hin : i = n := by omega
    subst hin
    refine W.done _ _ _ hst' fun h₁ tk₁ hk₁ => wpAny_execs_nil ?_
    obtain ⟨F₁, N₁⟩ := next h₁ hk₁
    exact done m' led' h₁ g d tk₁ hJ F₁ N₁
end
section
variable {prog : Program} {w : World} {A : Around} {E : Value → Shared → Prop} {s : Shared} {env : Env} {h₀ : Heap} {target : Expr} {body : List Stmt} {Q : Flow → Shared → Prop}
theorem loop_ct {I : Addr} {fp : List Addr} {n : Nat} {P : Nat → Value → Prop} {St : Nat → Heap → Prop} {m : Str → Option Value} {led need : List (Addr × Obj)}
    (J : Nat → (Str → Option Value) → List (Addr × Obj) → Array GenState → Prop)
    (W : Walks prog w A I fp [I] n P St) (hfp : ∀ b ∈ fp, b = I ∨ ∃ o, (b, o) ∈ need) (hIo : ∀ i h, St i h → ∃ o, h.get? I = some o ∧ ∃ fs, o.data = .fields fs) (hI₀ : h₀.get? I = none) (hIL : I ≠ env.locals)
    (hneed : ∀ i m led g, J i m led g → ∀ p ∈ need, p ∈ led)
    (hst : St 0 s.heap) (F : Fr h₀ env.locals s.heap m) (N : News h₀ env.locals s.heap led) (hoff : ∀ p ∈ led, p.1 ≠ I) (h0 : J 0 m led s.gens)
    (turn : ∀ i v m₁ led₁ I io h g d t, i < n → P i v → J i m₁ led₁ g → (∀ p ∈ led₁, p.1 ≠ I) → (∃ fs, io.data = .fields fs) → Fr h₀ env.locals h m₁ → News h₀ env.locals h ((I, io) :: led₁) →
      TurnG prog w A h₀ env target body I io (J (i + 1)) s.os Q E v ⟨h, g, d, t, s.os⟩)
    (done : ∀ m₁ led₁ h g d t, J n m₁ led₁ g → Fr h₀ env.locals h m₁ → News h₀ env.locals h led₁ → Q .next ⟨h, g, d, t, s.os⟩)
    (hgo : ∀ i v (s' : Shared) (Q' : Unit → Shared → Prop) (E' : Value → Shared → Prop), i < n → P i v → St (i + 1) s'.heap → Q' () s' → wpAny (model prog w) A (letOwnedTupleGo target (.ref I) v) Q' E' s')
    (hE : PassesOwn (model prog w) A env E := by passes_own) : LoopC prog w A env target body Q E (.ref I) s :=
  for_own_t W hfp hIo hI₀ hIL J hneed hst F N hoff h0 (fun i v m₁ led₁ io h g d t hi hP hJ ho hf F₁ N₁ =>
    wpAny_passesOwn hE (wpAny_mono (turn i v m₁ led₁ I io h g d t hi hP hJ ho hf F₁ N₁) (fun _ s₂ h₂ => wpAny_passesOwn hE h₂) fun _ _ x => x)) done (fun e s' x => x) hgo
theorem iter_c_listT {l : Addr} {o : Obj} {vs : Array Value} {elts : List Expr} {x1 : Nat} {tpos : Pos} {m : Str → Option Value} {led : List (Addr × Obj)} (J : Nat → (Str → Option Value) → List (Addr × Obj) → Array GenState → Prop)
    (hh : A.handled = none) (htup : ∀ (i : Nat) (v : Value), vs[i]? = some v → ∃ T, v = Value.ref T) (ho : LObj o vs) (hneed : ∀ i m led g, J i m led g → (l, o) ∈ led) (F : Fr h₀ env.locals s.heap m) (N : News h₀ env.locals s.heap led) (h0 : J 0 m led s.gens)
    (turn : ∀ i v m₁ led₁ I io h g d t, i < vs.size → vs[i]? = some v → J i m₁ led₁ g → (∀ p ∈ led₁, p.1 ≠ I) → (∃ fs, io.data = .fields fs) → Fr h₀ env.locals h m₁ → News h₀ env.locals h ((I, io) :: led₁) →
      TurnG prog w A h₀ env (.Tuple elts x1 tpos) body I io (J (i + 1)) s.os Q E v ⟨h, g, d, t, s.os⟩)
    (done : ∀ m₁ led₁ h g d t, J vs.size m₁ led₁ g → Fr h₀ env.locals h m₁ → News h₀ env.locals h led₁ → Q .next ⟨h, g, d, t, s.os⟩)
    (hE : PassesOwn (model prog w) A env E := by passes_own) :
    wpAny (model prog w) A (pyIter (.ref l)) (LoopC prog w A env (.Tuple elts x1 tpos) body Q E) E s := by
  have hl := hneed _ _ _ _ h0
  have hls : s.heap.IsList l vs := ho.isList (N _ hl).1
  have hne : l ≠ s.heap.objs.size := Nat.ne_of_lt (Heap.lt_size (N _ hl).1)
  refine wpAny_pyIter_list hls ?_
  refine loop_ct (need := [(l, o)]) (s := { s with heap := s.heap.push { cls := .type "list_iterator", data := .fields #[.ref l, .int 0 0] } }) J (Walks.list hh s.heap.objs.size l hne vs) ?_ ?_ (next_is_new F) (Nat.ne_of_gt F.ns.lt) ?_ ⟨⟨_, Heap.get?_push_size _ rfl, rfl, rfl⟩, hls.at fun o e => Heap.get?_push_of_some _ e⟩ (F.push _) (fun p hp => ⟨Heap.get?_push_of_some _ (N p hp).1, (N p hp).2⟩) (fun p hp => Nat.ne_of_lt (Heap.lt_size (N p hp).1)) h0 turn done ?_ hE
  · intro b hb
    rcases List.mem_cons.mp hb with rfl | hb
    · exact .inl rfl
    · rw [List.mem_singleton.mp hb]; exact .inr ⟨_, List.mem_singleton.mpr rfl⟩
  · rintro i h ⟨⟨o, e, c, d⟩, _⟩
    exact ⟨o, e, _, d⟩
  · intro i m led g hJ p hp
    rw [List.mem_singleton.mp hp]; exact hneed _ _ _ _ hJ
  · intro i v s' Q' E' hi hv hst' hq
    obtain ⟨T, rfl⟩ := htup i v hv
    exact wpAny_letOwnedTupleGo_listiter hst'.1 hq
end
end Mine
end

/- FM -/
section
open PySem PySem.W PyProof.Rows
namespace Mine

theorem mem2 {α : Type} {a b : α} {l l' : List α} (h : ∀ p ∈ l, p ∈ l') : ∀ p ∈ a :: b :: l, p ∈ a :: b :: l' := by
  intro p hp
  rcases List.mem_cons.mp hp with rfl | hp
  · exact .head _
  · rcases List.mem_cons.mp hp with rfl | hp
    · exact .tail _ (.head _)
    · exact .tail _ (.tail _ (h p hp))
local macro_rules | `(tactic| k_mem) => `(tactic| assumption)
set_option hygiene false in
local macro_rules | `(tactic| wtm_at "own call ref") => `(tactic| (k_here; (with_reducible show wpAny _ _ (call (Value.ref 244) [Value.int _ _, Value.int _ _]) _ _ _); k_dflt (refine' fr_use ?wh ?wd ?wf ?wu ?k1 ?k2 ?k3 ?k4 ?k5 ?kK ?b0 ?b1 ?b2 ?b3 ?_; (case wh => exact rfl); (case wd => exact Nat.le_of_ble_eq_true rfl); (case wf => exact rfl); (case wu => exact Nat.le_of_ble_eq_true rfl); (case k1 => k_asm); (case k2 => k_asm); (case k3 => k_asm); (case k4 => k_asm); (case k5 => k_asm); (case kK => first | exact rfl | assumption); (case b0 => ktr_unf); (case b1 => ktr_unf); (case b2 => ktr_unf); (case b3 => ktr_unf); k_whole; intro fx' fdx' fn' fd' fk1' ft1' fk2' ft2' fh' ftk' fe1' fe2' fe3' fe4' F' N' l1 l2; (try dsimp only); (try k_fold))))

local macro_rules | `(tactic| ktr_unf) => `(tactic| first | omega | omega)
set_option maxRecDepth 100000 in
set_option maxHeartbeats 2000000 in
theorem fr_rmul {p9 : Program} {lo9 : List Str} (w : World) (mean : ExcName → Option Value) (mg mb : Str → Option Value) (cn : Str) (cs : Scope) (a : Addr) (ccd : Value) (cl : List (Str × Addr)) (outer : List Env) (A₀ : Around) (base h₀ : Heap) (L : Addr) (m : Str → Option Value) (news : List (Addr × Obj)) (s : Shared)
   (Q E : Value → Shared → Prop) (x dx : Addr) (n d c : Int) (k1a t1a k2a t2a tc : Tok)
   (B : Below A₀ base outer h₀) (F : Fr h₀ L s.heap m) (X : (hd.heap_39 w.params).In h₀) (N : News h₀ L s.heap news)
   (T : Top p9 lo9 mean mg mb h₀)
   (hk : cs.kind = .function) (hx : (x, instObj 244 dx) ∈ news) (hdx : (dx, dictOf [⟨PyData.keyHash w.params (Str.ofString "numerator"), .str (Str.ofString "numerator") k1a, .int n t1a⟩, ⟨PyData.keyHash w.params (Str.ofString "denominator"), .str (Str.ofString "denominator") k2a, .int d t2a⟩] 2) ∈ news)
   (hd0 : 0 < d) (hd1 : d < 2 ^ 60) (hc : -2 ^ 60 < n * c ∧ n * c < 2 ^ 60) (hn : -2 ^ 60 < n ∧ n < 2 ^ 60) (hc1 : -2 ^ 60 < c ∧ c < 2 ^ 60)
   (hret : ∀ x' dx' n' d' k1 t1 k2 t2 h' tk', 0 < d' → n' * (d) = (n * c) * d' → d' ≤ d → n'.natAbs ≤ (n * c).natAbs → Fr h₀ L h' m → News h₀ L h' ((x', instObj 244 dx') :: (dx', dictOf [⟨PyData.keyHash w.params (Str.ofString "numerator"), .str (Str.ofString "numerator") k1, .int n' t1⟩, ⟨PyData.keyHash w.params (Str.ofString "denominator"), .str (Str.ofString "denominator") k2, .int d' t2⟩] 2) :: news) → (∀ p ∈ news, p.1 < dx') → dx' < x' → Q (.ref x') { s with heap := h', toks := tk' }) :
   wpAny (model PySem.Challenge.rw_bb0001_01.row.prog w) { handled := none, depth := 490, frames := some (envX cn cs L a ccd cl :: outer), guards := none, units := 90 } (call (.ref 192) [.ref x, .int c tc]) Q E s := by
  revert X
  k_fill
  intro X
  refine wpAny_call ?_
  k_dflt (refine' code_def ?k1 ?k2 ?k3 ?k4 ?k5 ?kA ?kF ?kK ?k6 ?k7 ?k8 ?k9 ?kB ?_ ?c2 ?c3 ?c4 ?c5; (case kA => exact rfl); (case kF => exact rfl); (case kK => assumption); (case k1 => k_asm); (case k2 => k_asm); (case k3 => k_asm); (case k4 => k_asm); (case k5 => k_asm); (case k6 => k_is); (case k7 => k_is); (case k8 => k_room); (case k9 => first | exact BindsTo.of_eq rfl | exact binds_K (by k_in) rfl (by k_is) rfl rfl rfl | fail "k_enter: no rule for these arguments"); (case c5 => decide); (case kB => exact locs rfl); (case c2 => exact rfl); (case c3 => exact rfl); (case c4 => exact rfl); k_whole; intro g' L' h' FG' F' N' B' X' T'; (try dsimp only); (try k_lift B'); (try k_fold))
  k_steps
  exact hret _ _ _ _ _ _ _ _ _ _ fe1' (by simpa only [Int.mul_one] using fe2') (by simpa only [Int.mul_one] using fe3') fe4' (by assumption) (cb_drop (by assumption) (mem2 fun p hp => .tail _ hp)) (fun p hp => l1 p (.tail _ hp)) l2
end Mine
end

/- Sc -/
section
open PySem PySem.W PyProof.Rows PySem.Calls PySem.Spec
set_option linter.unusedVariables false
namespace Mine
/-- a Fraction n/d stands at x -/
def FrAt (w : World) (led : List (Addr × Obj)) (x : Addr) (n d : Int) : Prop := ∃ dx k1 t1 k2 t2, (x, instObj 244 dx) ∈ led ∧ (dx, dictOf [⟨PyData.keyHash w.params (Str.ofString "numerator"), .str (Str.ofString "numerator") k1, .int n t1⟩, ⟨PyData.keyHash w.params (Str.ofString "denominator"), .str (Str.ofString "denominator") k2, .int d t2⟩] 2) ∈ led
theorem FrAt.mono {w : World} {led led' : List (Addr × Obj)} {x : Addr} {n d : Int} (h : FrAt w led x n d) (k : ∀ p ∈ led, p ∈ led') : FrAt w led' x n d :=
  let ⟨dx, k1, t1, k2, t2, a, b⟩ := h; ⟨dx, k1, t1, k2, t2, k _ a, k _ b⟩
/-- calling fv upon i in 1, 2, 3 gives the fraction G i / D -/
def ScoreOk (w : World) (fv : Value) (need : List (Addr × Obj)) (D : Int) (G : Nat → Int) : Prop :=
  ∀ {p9 : Program} {lo9 : List Str} (mean : ExcName → Option Value) (mg mb : Str → Option Value) (cn : Str) (cs : Scope) (a : Addr) (ccd : Value) (cl : List (Str × Addr)) (outer : List Env) (A₀ : Around) (base h₀ : Heap) (L : Addr) (m : Str → Option Value) (news : List (Addr × Obj)) (s : Shared)
   (Q E : Value → Shared → Prop) (i : Int) (ti : Tok), Below A₀ base outer h₀ → Fr h₀ L s.heap m → (hd.heap_39 w.params).In h₀ → News h₀ L s.heap news → Top p9 lo9 mean mg mb h₀ → cs.kind = .function → (∀ p ∈ need, p ∈ news) → 1 ≤ i → i ≤ 3 →
    (∀ x n d h' tk' led', 0 < d → n * D = G i.toNat * d → d ≤ 9 → 0 ≤ n → n ≤ 1 → Fr h₀ L h' m → News h₀ L h' led' → (∀ p ∈ news, p ∈ led') → (∀ p ∈ led', p ∈ news ∨ ∀ q ∈ news, q.1 < p.1) → FrAt w led' x n d → Q (.ref x) { s with heap := h', toks := tk' }) →
    wpAny (model PySem.Challenge.rw_bb0001_01.row.prog w) { handled := none, depth := 440, frames := some (envX cn cs L a ccd cl :: outer), guards := none, units := 70 } (call fv [.int i ti]) Q E s
theorem new2 {news : List (Addr × Obj)} {x dx : Addr} {o1 o2 : Obj} (l1 : ∀ p ∈ news, p.1 < dx) (l2 : dx < x) : ∀ p ∈ (x, o1) :: (dx, o2) :: news, p ∈ news ∨ ∀ q ∈ news, q.1 < p.1 := fun p hp => by
  rcases List.mem_cons.mp hp with rfl | hp
  · exact .inr fun q hq => Nat.lt_trans (l1 q hq) l2
  · rcases List.mem_cons.mp hp with rfl | hp
    · exact .inr fun q hq => l1 q hq
    · exact .inl hp
local macro_rules | `(tactic| k_mem) => `(tactic| assumption)
set_option hygiene false in
local macro_rules | `(tactic| wtm_at "own call ref") => `(tactic| (k_here; (with_reducible show wpAny _ _ (call (Value.ref 244) [Value.int _ _, Value.int _ _]) _ _ _); k_dflt (refine' fr_use ?wh ?wd ?wf ?wu ?k1 ?k2 ?k3 ?k4 ?k5 ?kK ?b0 ?b1 ?b2 ?b3 ?_; (case wh => exact rfl); (case wd => exact Nat.le_of_ble_eq_true rfl); (case wf => exact rfl); (case wu => exact Nat.le_of_ble_eq_true rfl); (case k1 => k_asm); (case k2 => k_asm); (case k3 => k_asm); (case k4 => k_asm); (case k5 => k_asm); (case kK => first | exact rfl | assumption); (case b0 => ktr_unf); (case b1 => ktr_unf); (case b2 => ktr_unf); (case b3 => ktr_unf); k_whole; intro fx' fdx' fn' fd' fk1' ft1' fk2' ft2' fh' ftk' fe1' fe2' fe3' fe4' F' N' l1 l2; (try dsimp only); (try k_fold))))

local macro_rules | `(tactic| ktr_unf) => `(tactic| omega)
local macro_rules | `(tactic| wtm_at "own ite") => `(tactic| (k_dflt (first | (refine PySem.W.ite_neg ?hc ?_; (case hc => simp only [beq_iff_eq, decide_eq_true_eq]; omega)) | (refine PySem.W.ite_pos ?hc ?_; (case hc => simp only [beq_iff_eq, decide_eq_true_eq]; omega)))))
def G_pav : Nat → Int := fun | 1 => 12 | 2 => 6 | 3 => 4 | _ => 0
set_option maxRecDepth 100000 in
set_option maxHeartbeats 2000000 in
theorem sc_pav (w : World) : ScoreOk w (.ref 292) [] 12 G_pav := by
  intro p9 lo9 mean mg mb cn cs a ccd cl outer A₀ base h₀ L m news s Q E i ti B F X N T hk hneed hi1 hi3 hret
  revert X
  k_fill
  intro X
  refine wpAny_call ?_
  k_dflt (refine' code_def ?k1 ?k2 ?k3 ?k4 ?k5 ?kA ?kF ?kK ?k6 ?k7 ?k8 ?k9 ?kB ?_ ?c2 ?c3 ?c4 ?c5; (case kA => exact rfl); (case kF => exact rfl); (case kK => assumption); (case k1 => k_asm); (case k2 => k_asm); (case k3 => k_asm); (case k4 => k_asm); (case k5 => k_asm); (case k6 => k_is); (case k7 => k_is); (case k8 => k_room); (case k9 => first | exact BindsTo.of_eq rfl | exact binds_K (by k_in) rfl (by k_is) rfl rfl rfl | fail "k_enter: no rule for these arguments"); (case c5 => decide); (case kB => exact locs rfl); (case c2 => exact rfl); (case c3 => exact rfl); (case c4 => exact rfl); k_whole; intro g' L' h' FG' F' N' B' X' T'; (try dsimp only); (try k_lift B'); (try k_fold))
  k_steps
  have hi : i = 1 ∨ i = 2 ∨ i = 3 := by omega
  refine hret fx' fn' fd' _ _ ((fx', _) :: (fdx', _) :: news) fe1' ?_ (by omega) ?_ (by omega) (by assumption) (by assumption) (fun p hp => .tail _ (.tail _ hp)) (new2 l1 l2) ⟨_, _, _, _, _, .head _, .tail _ (.head _)⟩
  · rcases hi with rfl | rfl | rfl <;> simp [G_pav] at fe2' ⊢ <;> omega
  · rcases hi with rfl | rfl | rfl <;> simp at fe2' <;> omega
def G_slav : Nat → Int := fun | 1 => 105 | 2 => 35 | 3 => 21 | _ => 0
set_option maxRecDepth 100000 in
set_option maxHeartbeats 2000000 in
theorem sc_slav (w : World) : ScoreOk w (.ref 306) [] 105 G_slav := by
  intro p9 lo9 mean mg mb cn cs a ccd cl outer A₀ base h₀ L m news s Q E i ti B F X N T hk hneed hi1 hi3 hret
  revert X
  k_fill
  intro X
  refine wpAny_call ?_
  k_dflt (refine' code_def ?k1 ?k2 ?k3 ?k4 ?k5 ?kA ?kF ?kK ?k6 ?k7 ?k8 ?k9 ?kB ?_ ?c2 ?c3 ?c4 ?c5; (case kA => exact rfl); (case kF => exact rfl); (case kK => assumption); (case k1 => k_asm); (case k2 => k_asm); (case k3 => k_asm); (case k4 => k_asm); (case k5 => k_asm); (case k6 => k_is); (case k7 => k_is); (case k8 => k_room); (case k9 => first | exact BindsTo.of_eq rfl | exact binds_K (by k_in) rfl (by k_is) rfl rfl rfl | fail "k_enter: no rule for these arguments"); (case c5 => decide); (case kB => exact locs rfl); (case c2 => exact rfl); (case c3 => exact rfl); (case c4 => exact rfl); k_whole; intro g' L' h' FG' F' N' B' X' T'; (try dsimp only); (try k_lift B'); (try k_fold))
  k_steps
  have hi : i = 1 ∨ i = 2 ∨ i = 3 := by omega
  refine hret fx' fn' fd' _ _ ((fx', _) :: (fdx', _) :: news) fe1' ?_ (by omega) ?_ (by omega) (by assumption) (by assumption) (fun p hp => .tail _ (.tail _ hp)) (new2 l1 l2) ⟨_, _, _, _, _, .head _, .tail _ (.head _)⟩
  · rcases hi with rfl | rfl | rfl <;> simp [G_slav] at fe2' ⊢ <;> omega
  · rcases hi with rfl | rfl | rfl <;> simp at fe2' <;> omega
end Mine
end

/- Sc1 -/
section
open PySem PySem.W PyProof.Rows PySem.Calls PySem.Spec
set_option linter.unusedVariables false
namespace Mine
set_option maxRecDepth 100000 in
set_option maxHeartbeats 2000000 in
theorem fr_new1 {p9 : Program} {lo9 : List Str} (w : World) (mean : ExcName → Option Value) (mg mb : Str → Option Value) (cn : Str) (cs : Scope) (a : Addr) (ccd : Value) (cl : List (Str × Addr)) (outer : List Env) (A₀ : Around) (base h₀ : Heap) (L : Addr) (m : Str → Option Value) (news : List (Addr × Obj)) (s : Shared)
   (Q E : Value → Shared → Prop) (n : Int) (tn : Tok)
   (B : Below A₀ base outer h₀) (F : Fr h₀ L s.heap m) (X : (hd.heap_39 w.params).In h₀) (N : News h₀ L s.heap news)
   (T : Top p9 lo9 mean mg mb h₀)
   (hk : cs.kind = .function) (hn : n = 0 ∨ n = 1)
   (hret : ∀ x dx k1 t1 k2 t2 h' tk', Fr h₀ L h' m → News h₀ L h' ((x, instObj 244 dx) :: (dx, dictOf [⟨PyData.keyHash w.params (Str.ofString "numerator"), .str (Str.ofString "numerator") k1, .int n t1⟩, ⟨PyData.keyHash w.params (Str.ofString "denominator"), .str (Str.ofString "denominator") k2, .int 1 t2⟩] 2) :: news) → (∀ p ∈ news, p.1 < dx) → dx < x → Q (.ref x) { s with heap := h', toks := tk' }) :
   wpAny (model PySem.Challenge.rw_bb0001_01.row.prog w) { handled := none, depth := 500, frames := some (envX cn cs L a ccd cl :: outer), guards := none, units := 100 } (call (.ref 244) [.int n tn]) Q E s := by
  revert X
  k_fill
  intro X
  rcases hn with rfl | rfl
  · k_dflt (refine' call_cls ?k1 ?k2 ?k3 ?k4 ?k5 ?k6 ?_; (case k1 => k_asm); (case k2 => k_asm); (case k3 => k_asm); (case k4 => k_is); (case k5 => k_is); (case k6 => k_is); k_whole; intro x' d' h' F' N' l1 l2; have l1' := l1; have l2' := l2; (try k_lt l1); (try k_lt2 l2); (try k_sweep))
    k_dflt (refine' code_def ?k1 ?k2 ?k3 ?k4 ?k5 ?kA ?kF ?kK ?k6 ?k7 ?k8 ?k9 ?kB ?_ ?c2 ?c3 ?c4 ?c5; (case kA => exact rfl); (case kF => exact rfl); (case kK => assumption); (case k1 => k_asm); (case k2 => k_asm); (case k3 => k_asm); (case k4 => k_asm); (case k5 => k_asm); (case k6 => k_is); (case k7 => k_is); (case k8 => k_room); (case k9 => first | exact BindsTo.of_eq rfl | exact binds_K (by k_in) rfl (by k_is) rfl rfl rfl | fail "k_enter: no rule for these arguments"); (case c5 => decide); (case kB => exact locs rfl); (case c2 => exact rfl); (case c3 => exact rfl); (case c4 => exact rfl); k_whole; intro g' L' h' FG' F' N' B' X' T'; (try dsimp only); (try k_lift B'); (try k_fold))
    k_steps
    rename Fr h₀ L _ m => zf
    rename News h₀ L _ _ => zn
    exact hret x' d' _ _ _ _ _ _ zf (cb_drop zn (fun p hp => by repeat (first | exact hp | apply List.Mem.tail))) l1' l2'
  · k_dflt (refine' call_cls ?k1 ?k2 ?k3 ?k4 ?k5 ?k6 ?_; (case k1 => k_asm); (case k2 => k_asm); (case k3 => k_asm); (case k4 => k_is); (case k5 => k_is); (case k6 => k_is); k_whole; intro x' d' h' F' N' l1 l2; have l1' := l1; have l2' := l2; (try k_lt l1); (try k_lt2 l2); (try k_sweep))
    k_dflt (refine' code_def ?k1 ?k2 ?k3 ?k4 ?k5 ?kA ?kF ?kK ?k6 ?k7 ?k8 ?k9 ?kB ?_ ?c2 ?c3 ?c4 ?c5; (case kA => exact rfl); (case kF => exact rfl); (case kK => assumption); (case k1 => k_asm); (case k2 => k_asm); (case k3 => k_asm); (case k4 => k_asm); (case k5 => k_asm); (case k6 => k_is); (case k7 => k_is); (case k8 => k_room); (case k9 => first | exact BindsTo.of_eq rfl | exact binds_K (by k_in) rfl (by k_is) rfl rfl rfl | fail "k_enter: no rule for these arguments"); (case c5 => decide); (case kB => exact locs rfl); (case c2 => exact rfl); (case c3 => exact rfl); (case c4 => exact rfl); k_whole; intro g' L' h' FG' F' N' B' X' T'; (try dsimp only); (try k_lift B'); (try k_fold))
    k_steps
    rename Fr h₀ L _ m => zf
    rename News h₀ L _ _ => zn
    exact hret x' d' _ _ _ _ _ _ zf (cb_drop zn (fun p hp => by repeat (first | exact hp | apply List.Mem.tail))) l1' l2'
theorem fr_use1 {p9 : Program} {lo9 : List Str} {w : World} {mean : ExcName → Option Value} {mg mb : Str → Option Value} {cn : Str} {cs : Scope} {a : Addr} {ccd : Value} {cl : List (Str × Addr)} {outer : List Env} {A A₀ : Around} {base h₀ : Heap} {L : Addr} {m : Str → Option Value} {news : List (Addr × Obj)} {s : Shared}
   {Q E : Value → Shared → Prop} {n : Int} {tn : Tok}
   (hh : A.handled = none) (hdp : A.depth ≤ 500) (hfr : A.frames = some (envX cn cs L a ccd cl :: outer)) (hun : A.units ≤ 100)
   (B : Below A₀ base outer h₀) (F : Fr h₀ L s.heap m) (X : (hd.heap_39 w.params).In h₀) (N : News h₀ L s.heap news)
   (T : Top p9 lo9 mean mg mb h₀)
   (hk : cs.kind = .function) (hn : n = 0 ∨ n = 1)
   (hret : ∀ x dx k1 t1 k2 t2 h' tk', Fr h₀ L h' m → News h₀ L h' ((x, instObj 244 dx) :: (dx, dictOf [⟨PyData.keyHash w.params (Str.ofString "numerator"), .str (Str.ofString "numerator") k1, .int n t1⟩, ⟨PyData.keyHash w.params (Str.ofString "denominator"), .str (Str.ofString "denominator") k2, .int 1 t2⟩] 2) :: news) → (∀ p ∈ news, p.1 < dx) → dx < x → Q (.ref x) { s with heap := h', toks := tk' }) :
   wpAny (model PySem.Challenge.rw_bb0001_01.row.prog w) A (call (.ref 244) [.int n tn]) Q E s :=
  wp_weaken hh hdp (.inr hfr) (.inl rfl) hun (fr_new1 w mean mg mb cn cs a ccd cl outer A₀ base h₀ L m news s Q E n tn B F X N T hk hn hret)
end Mine
end

/- PT1 -/
section
open PySem PySem.W PyProof.Rows PySem.Calls PySem.Spec
set_option linter.unusedVariables false
namespace Mine
theorem mro_partial : mroOf (.type "functools.partial") = pure [.type "functools.partial", .type "object"] := by rw [mroOf_type]; kernel_rfl
theorem lookup_partial_new : typeLookup (.type "functools.partial") "__new__" = pure (some (.builtin "functools.partial.__new__")) := by rw [typeLookup_type, builtinLookup_eq_fast]; kernel_rfl
theorem slot_partial_init : Slot "functools.partial" "__init__" "object.__init__" :=
  .of (owner := "object") (n := "__init__") (by rw [typeLookup_type, builtinLookup_eq_fast]; kernel_rfl) (by decide +kernel) (by decide +kernel) (by decide +kernel)
    (by first | exact .inl (by decide +kernel) | exact .inr (by decide +kernel)) (by rw [isSubtype_type]; kernel_rfl)
theorem called_partial : TypeCalled "functools.partial" "functools.partial.__new__" "object.__init__" :=
  ⟨by decide +kernel, by decide +kernel, ⟨_, _, mro_partial⟩, madeBy_type mro_partial lookup_partial_new (by decide +kernel), by decide +kernel, by rw [isSubtype_type]; kernel_rfl, slot_partial_init⟩
theorem entry_partial_new : entryFor table "functools.partial.__new__" = some Builtin.«functools.partial.__new__» := entryFor_of_tree (by kernel_rfl)
theorem entry_partial_call : entryFor table "functools.partial.__call__" = some Builtin.«functools.partial.__call__» := entryFor_of_tree (by kernel_rfl)
theorem sub_partial_self : isSubtype (.type "functools.partial") (.type "functools.partial") = pure true := by rw [isSubtype_type]; kernel_rfl
theorem plain_partial_new : plainId "functools.partial.__new__" = true := by decide +kernel
theorem typeCall_partial (a : Value) (k : Str) (v : Value) : checkTypeCall "functools.partial" ⟨[a], [(k, v)]⟩ = pure () := by kernel_rfl
theorem newCall_partial (a : Value) (k : Str) (v : Value) : checkBuiltinCall "functools.partial.__new__" ⟨[.type "functools.partial", a], [(k, v)]⟩ = pure () := by kernel_rfl
section
variable {w : World} {A : Around} {E : Value → Shared → Prop} {s : Shared} {h₀ : Heap} {L : Addr} {m : Str → Option Value} {led : List (Addr × Obj)}
def ptObj (t d : Addr) : Obj := { cls := .type "functools.partial", data := .fields #[.ref 285, .ref t, .ref d] }
set_option maxRecDepth 100000 in
set_option maxHeartbeats 1000000 in
theorem pt_code {b : Value} {Q₁ : Value → Shared → Prop} (X : (hd.heap_39 w.params).In h₀) (F : Fr h₀ L s.heap m) (N : News h₀ L s.heap led)
    (h : ∀ h' tk' a t d k nt, Fr h₀ L h' m → News h₀ L h' ((a, ptObj t d) :: (t, { cls := .type "tuple", data := .seq #[] nt }) :: (d, dictOf [⟨PyData.keyHash w.params (Str.ofString "base"), .str (Str.ofString "base") k, b⟩] 1) :: led) → (∀ p ∈ led, p.1 < d) → d < t → t < a → Q₁ (.ref a) { s with heap := h', toks := tk' }) :
    codeAny (model PySem.Challenge.rw_bb0001_01.row.prog w) A (.call (.builtin "functools.partial.__new__") ⟨[.type "functools.partial", .ref 285], [(Str.ofString "base", b)]⟩) (wants Q₁ E) s := by
  have X' := X.keeps F.keep
  have hi : Looks (model PySem.Challenge.rw_bb0001_01.row.prog w) s.heap (isInstance (.ref 285) (.type "functools.partial")) false := by
    clear h X; revert X'; k_fill; intro X; exact looks_instIn X (by k_is)
  have hc : Looks (model PySem.Challenge.rw_bb0001_01.row.prog w) s.heap (specialOf (.ref 285) (Str.ofString "__call__")) (some (.builtin "function.__call__")) := by
    clear h X; revert X'; k_fill; intro X; exact looks_specialIn X (by k_is)
  refine codeAny_of_tree ?_
  show wpAny _ A.in1 (do checkBuiltinCall "functools.partial.__new__" ⟨[.type "functools.partial", .ref 285], [(Str.ofString "base", b)]⟩; again (.builtin "functools.partial.__new__" ⟨[.type "functools.partial", .ref 285], [(Str.ofString "base", b)]⟩)) _ _ s
  refine wpAny_bind (wpAny_of_eq (newCall_partial _ _ _) (wpAny_pure ⟨plainId_quiet plain_partial_new _, codeAny_builtin entry_partial_new ?_⟩))
  unfold Builtin.«functools.partial.__new__»
  have lt : ∀ p ∈ led, p.1 < s.heap.objs.size := fun p hp => Heap.lt_size (N p hp).1
  obtain ⟨hp, g, d, tk, os⟩ := s
  have L1 : Looks (model PySem.Challenge.rw_bb0001_01.row.prog w) hp (isSubtype (.type "functools.partial") (.type "functools.partial")) true := Looks.of_pure sub_partial_self
  have L2 : Looks (model PySem.Challenge.rw_bb0001_01.row.prog w) hp (isType (.type "functools.partial")) true := Looks.of_pure rfl
  repeat (first | simp only [Bool.not_true, Bool.false_eq_true, if_false] | ((with_reducible show wpAny _ _ (isInstance _ _) _ _ _); refine Looks.at hi ?_) | ((with_reducible show wpAny _ _ (specialOf _ _) _ _ _); refine Looks.at hc ?_) | lk)
  rw [if_neg (by simp)]
  refine wpAny_bind ?_
  unfold newDict
  refine wpAny_newObj_type ?_
  dsimp only
  have F1 := F.push { cls := .type "dict", data := .dict #[] }
  have N1 := N.push F { cls := .type "dict", data := .dict #[] }
  refine wpAny_bind ?_
  rw [List.forIn_cons]
  refine wpAny_bind (wpAny_bind ?_)
  unfold nsSetByValue
  refine wpAny_bind (wpAny_loadPart (N1 _ (.head _)).1 ?_)
  dsimp only
  rw [if_neg (by simp)]
  refine kp_nsSet (es := []) (n := 0) F1 N1 (fun p hp => Nat.ne_of_lt (lt p hp)) (fun _ h => nomatch h) (fun _ h => nomatch h) fun h2 F2 N2 => ?_
  dsimp only
  refine wpAny_pure ?_
  dsimp only
  rw [List.forIn_nil]
  refine wpAny_pure ?_
  simp only [newTuple]
  refine wpAny_bind (wpAny_newObj_type ?_)
  refine wpAny_bind (wpAny_newObj_type ?_)
  refine wpAny_pure ?_
  have F3 := F2.push { cls := .type "tuple", data := .seq ([] : List Value).toArray }
  have N3 := N2.push F2 { cls := .type "tuple", data := .seq ([] : List Value).toArray }
  have F4 := F3.push (ptObj h2.objs.size hp.objs.size)
  have N4 := N3.push F3 (ptObj h2.objs.size hp.objs.size)
  refine h _ _ _ _ _ _ _ F4 N4 lt ?_ ?_
  · exact Heap.lt_size (N2 _ (.head _)).1
  · exact Heap.lt_size (N3 _ (.head _)).1
end
end Mine
end

/- PT3 -/
section
open PySem PySem.W PyProof.Rows PySem.Calls PySem.Spec
set_option linter.unusedVariables false
namespace Mine
theorem lookup_partial_call : typeLookup (.type "functools.partial") "__call__" = pure (some (.builtin "functools.partial.__call__")) := by rw [typeLookup_type, builtinLookup_eq_fast]; kernel_rfl
theorem pc_kind : builtinKind "functools.partial.__call__" = some .slot := by decide +kernel
theorem pc_split : splitId "functools.partial.__call__" = some ("functools.partial", "__call__") := by decide +kernel
theorem pc_args (a v : Value) : argsOk "functools.partial.__call__" ⟨[a, v], []⟩ := by unfold argsOk; kernel_rfl
theorem pc_bind (self : Value) : bindSpecial (.builtin "functools.partial.__call__") self = pure (.builtin "functools.partial.__call__", [self]) := by
  have hop : withoutEnding? "functools.partial.__call__" "#opaque" = none := by decide +kernel
  have hdat : withoutEnding? "functools.partial.__call__" "#data" = none := by decide +kernel
  simp only [bindSpecial, typeOf, builtinType, hop, hdat, pc_kind]; rfl
section
variable {w : World} {A : Around} {E : Value → Shared → Prop} {s : Shared} {h₀ : Heap} {L : Addr} {m : Str → Option Value} {led : List (Addr × Obj)}
set_option maxRecDepth 100000 in
set_option maxHeartbeats 1000000 in
theorem pt_call {a t d : Addr} {nt : Nat} {k : Tok} {b v : Value} {Q : Value → Shared → Prop} (hu : A.units < 9000) (ha : s.heap.get? a = some (ptObj t d)) (ht : s.heap.get? t = some { cls := .type "tuple", data := .seq #[] nt }) (hd : s.heap.get? d = some (dictOf [⟨PyData.keyHash w.params (Str.ofString "base"), .str (Str.ofString "base") k, b⟩] 1)) (hd1 : d ≠ 1)
    (h : wpAny (model PySem.Challenge.rw_bb0001_01.row.prog w) ((A.under (.call (.ref a) ⟨[v], []⟩)).under (.builtin "functools.partial.__call__" ⟨[.ref a, v], []⟩)) (call (.ref 285) [v] [(Str.ofString "base", b)]) Q E s) :
    wpAny (model PySem.Challenge.rw_bb0001_01.row.prog w) A (call (.ref a) [v]) Q E s := by
  obtain ⟨hh, g, dd, tk, os⟩ := s
  have T1 : Looks (model PySem.Challenge.rw_bb0001_01.row.prog w) hh (typeOf (.ref a)) (.type "functools.partial") := (Looks.ld ha).andThen .now
  have T2 : Looks (model PySem.Challenge.rw_bb0001_01.row.prog w) hh (specialOf (.ref a) (Str.ofString "__call__")) (some (.builtin "functools.partial.__call__")) := by
    unfold specialOf; exact T1.andThen (Looks.of_pure lookup_partial_call)
  have T3 : Looks (model PySem.Challenge.rw_bb0001_01.row.prog w) hh (isInstance (.ref a) (.type "functools.partial")) true := T1.andThen (Looks.of_pure sub_partial_self)
  refine wpAny_call (codeAny_of_tree ?_)
  show wpAny _ _ (callAny (.ref a) _) _ _ _
  simp only [callAny]
  have ha' : hh.get? a = some { cls := .type "functools.partial", data := .fields #[.ref 285, .ref t, .ref d] } := ha
  refine wpAny_bind (wpAny_load (s := ⟨hh, g, dd, tk, os⟩) ha' ?_)
  dsimp only
  rw [if_neg (by decide)]
  unfold callAny.viaDunder
  refine wpAny_bind (T2.at ?_)
  dsimp only
  rw [pc_bind]
  refine wpAny_bind (wpAny_pure ?_)
  dsimp only
  refine wpAny_bind (wpAny_pure ?_)
  rw [if_neg (by decide)]
  refine wpAny_bind (wpAny_cRoom (by show A.units + 1 < cLine; unfold cLine; omega) ?_)
  refine wpAny_bind (wpAny_runValue (c := .call (.builtin "functools.partial.__call__") ⟨[.ref a, v], []⟩) ?_)
  have q1 : (Code.builtin "functools.partial.__call__" ⟨[.ref a, v], []⟩).quiet = true := Code.quiet_builtin _ (by decide +kernel)
  have e1 := entry_partial_call
  have z1 := pc_args (.ref a) v
  refine codeAny_call_builtin_at q1 e1 ?_
  have ck : ∀ {Q' : Unit → Shared → Prop} {A' E'}, Q' () ⟨hh, g, dd, tk, os⟩ → wpAny (model PySem.Challenge.rw_bb0001_01.row.prog w) A' (checkBuiltinCall "functools.partial.__call__" ⟨.ref a :: [v], []⟩) Q' E' ⟨hh, g, dd, tk, os⟩ := fun hq => check_slot (M := model PySem.Challenge.rw_bb0001_01.row.prog w) (s := ⟨hh, g, dd, tk, os⟩) (i := "functools.partial.__call__") (owner := "functools.partial") (n := "__call__") (self := .ref a) (rest := [v]) (kw := []) pc_kind pc_split T3 z1 hq
  refine ck ?_
  unfold Builtin.«functools.partial.__call__»
  dsimp only
  have fr : (Code.builtin "functools.partial.__call__" ⟨[.ref a, v], []⟩).frames ≤ 100 := by
    exact Nat.le_of_ble_eq_true (by kernel_rfl)
  refine wpAny_bind (wpAny_cRoom (by show A.units + 1 + (1 + 3 * Code.frames _) < cLine; unfold cLine; omega) ?_)
  refine wpAny_bind (wpAny_field (s := ⟨hh, g, dd, tk, os⟩) ha' rfl (i := 2) (x := .ref d) rfl ?_)
  refine wpAny_bind ?_
  have he : ∀ {Q' : Array DictEntry → Shared → Prop} {A' E'}, Q' #[⟨PyData.keyHash w.params (Str.ofString "base"), .str (Str.ofString "base") k, b⟩] ⟨hh, g, dd, tk, os⟩ → wpAny (model PySem.Challenge.rw_bb0001_01.row.prog w) A' (do
      notTheModulesDict "functools.partial:keywords" d
      dictEntries d) Q' E' ⟨hh, g, dd, tk, os⟩ := fun hq => by
    refine wpAny_bind ?_
    unfold notTheModulesDict
    rw [if_neg (by simpa [sysModules] using hd1)]
    exact wpAny_pure (wpAny_dictEntries (s := ⟨hh, g, dd, tk, os⟩) hd rfl hq)
  refine he ?_
  rw [← Array.forIn_toList, List.forIn_cons]
  refine wpAny_bind ?_
  refine wpAny_bind (wpAny_pure ?_)
  dsimp only
  rw [List.forIn_nil]
  refine wpAny_pure ?_
  refine wpAny_bind (wpAny_field (s := ⟨hh, g, dd, tk, os⟩) ha' rfl (i := 1) (x := .ref t) rfl ?_)
  refine wpAny_bind (wpAny_seqItems (s := ⟨hh, g, dd, tk, os⟩) ht rfl ?_)
  refine wpAny_bind (wpAny_field (s := ⟨hh, g, dd, tk, os⟩) ha' rfl (i := 0) (x := .ref 285) rfl ?_)
  refine wpAny_bind (wpAny_holding ?_)
  exact wpAny_mono (show wpAny _ _ (call (.ref 285) [v] [(Str.ofString "base", b)]) Q E _ from h) (fun r s' hr => wpAny_pure (wpAny_pure hr)) fun _ _ e => e
end
end Mine
end

/- Sc2 -/
section
open PySem PySem.W PyProof.Rows PySem.Calls PySem.Spec
set_option linter.unusedVariables false
namespace Mine
local macro_rules | `(tactic| k_mem) => `(tactic| assumption)
set_option hygiene false in
local macro_rules | `(tactic| wtm_at "own call ref") => `(tactic| (k_here; (with_reducible show wpAny _ _ (call (Value.ref 244) [Value.int _ _, Value.int _ _]) _ _ _); k_dflt (refine' fr_use ?wh ?wd ?wf ?wu ?k1 ?k2 ?k3 ?k4 ?k5 ?kK ?b0 ?b1 ?b2 ?b3 ?_; (case wh => exact rfl); (case wd => exact Nat.le_of_ble_eq_true rfl); (case wf => exact rfl); (case wu => exact Nat.le_of_ble_eq_true rfl); (case k1 => k_asm); (case k2 => k_asm); (case k3 => k_asm); (case k4 => k_asm); (case k5 => k_asm); (case kK => first | exact rfl | assumption); (case b0 => ktr_unf); (case b1 => ktr_unf); (case b2 => ktr_unf); (case b3 => ktr_unf); k_whole; intro fx' fdx' fn' fd' fk1' ft1' fk2' ft2' fh' ftk' fe1' fe2' fe3' fe4' F' N' l1 l2; (try dsimp only); (try k_fold))))

local macro_rules | `(tactic| ktr_unf) => `(tactic| first | omega | decide | fail)
set_option hygiene false in
local macro_rules | `(tactic| wtm_at "own call ref") => `(tactic| (k_here; (with_reducible show wpAny _ _ (call (Value.ref 244) [Value.int _ _]) _ _ _); k_dflt (refine' fr_use1 ?wh ?wd ?wf ?wu ?k1 ?k2 ?k3 ?k4 ?k5 ?kK ?b0 ?_; (case wh => exact rfl); (case wd => exact Nat.le_of_ble_eq_true rfl); (case wf => exact rfl); (case wu => exact Nat.le_of_ble_eq_true rfl); (case k1 => k_asm); (case k2 => k_asm); (case k3 => k_asm); (case k4 => k_asm); (case k5 => k_asm); (case kK => first | exact rfl | assumption); (case b0 => first | exact .inl rfl | exact .inr rfl); k_whole; intro fx' fdx' fk1' ft1' fk2' ft2' fh' ftk' F' N' l1 l2; (try dsimp only); (try k_fold))))
def G_cc : Nat → Int := fun | 1 => 1 | _ => 0
set_option maxRecDepth 100000 in
set_option maxHeartbeats 2000000 in
theorem sc_cc (w : World) : ScoreOk w (.ref 320) [] 1 G_cc := by
  intro p9 lo9 mean mg mb cn cs a ccd cl outer A₀ base h₀ L m news s Q E i ti B F X N T hk hneed hi1 hi3 hret
  revert X
  k_fill
  intro X
  have hi : i = 1 ∨ i = 2 ∨ i = 3 := by omega
  rcases hi with rfl | rfl | rfl
  · refine wpAny_call ?_
    k_dflt (refine' code_def ?k1 ?k2 ?k3 ?k4 ?k5 ?kA ?kF ?kK ?k6 ?k7 ?k8 ?k9 ?kB ?_ ?c2 ?c3 ?c4 ?c5; (case kA => exact rfl); (case kF => exact rfl); (case kK => assumption); (case k1 => k_asm); (case k2 => k_asm); (case k3 => k_asm); (case k4 => k_asm); (case k5 => k_asm); (case k6 => k_is); (case k7 => k_is); (case k8 => k_room); (case k9 => first | exact BindsTo.of_eq rfl | exact binds_K (by k_in) rfl (by k_is) rfl rfl rfl | fail "k_enter: no rule for these arguments"); (case c5 => decide); (case kB => exact locs rfl); (case c2 => exact rfl); (case c3 => exact rfl); (case c4 => exact rfl); k_whole; intro g' L' h' FG' F' N' B' X' T'; (try dsimp only); (try k_lift B'); (try k_fold))
    k_steps
    exact hret fx' 1 1 _ _ ((fx', _) :: (fdx', _) :: news) (by decide) (by simp [G_cc]) (by decide) (by decide) (by decide) (by assumption) (by assumption) (fun p hp => .tail _ (.tail _ hp)) (new2 l1 l2) ⟨_, _, _, _, _, .head _, .tail _ (.head _)⟩
  · refine wpAny_call ?_
    k_dflt (refine' code_def ?k1 ?k2 ?k3 ?k4 ?k5 ?kA ?kF ?kK ?k6 ?k7 ?k8 ?k9 ?kB ?_ ?c2 ?c3 ?c4 ?c5; (case kA => exact rfl); (case kF => exact rfl); (case kK => assumption); (case k1 => k_asm); (case k2 => k_asm); (case k3 => k_asm); (case k4 => k_asm); (case k5 => k_asm); (case k6 => k_is); (case k7 => k_is); (case k8 => k_room); (case k9 => first | exact BindsTo.of_eq rfl | exact binds_K (by k_in) rfl (by k_is) rfl rfl rfl | fail "k_enter: no rule for these arguments"); (case c5 => decide); (case kB => exact locs rfl); (case c2 => exact rfl); (case c3 => exact rfl); (case c4 => exact rfl); k_whole; intro g' L' h' FG' F' N' B' X' T'; (try dsimp only); (try k_lift B'); (try k_fold))
    k_steps
    exact hret fx' 0 1 _ _ ((fx', _) :: (fdx', _) :: news) (by decide) (by simp [G_cc]) (by decide) (by decide) (by decide) (by assumption) (by assumption) (fun p hp => .tail _ (.tail _ hp)) (new2 l1 l2) ⟨_, _, _, _, _, .head _, .tail _ (.head _)⟩
  · refine wpAny_call ?_
    k_dflt (refine' code_def ?k1 ?k2 ?k3 ?k4 ?k5 ?kA ?kF ?kK ?k6 ?k7 ?k8 ?k9 ?kB ?_ ?c2 ?c3 ?c4 ?c5; (case kA => exact rfl); (case kF => exact rfl); (case kK => assumption); (case k1 => k_asm); (case k2 => k_asm); (case k3 => k_asm); (case k4 => k_asm); (case k5 => k_asm); (case k6 => k_is); (case k7 => k_is); (case k8 => k_room); (case k9 => first | exact BindsTo.of_eq rfl | exact binds_K (by k_in) rfl (by k_is) rfl rfl rfl | fail "k_enter: no rule for these arguments"); (case c5 => decide); (case kB => exact locs rfl); (case c2 => exact rfl); (case c3 => exact rfl); (case c4 => exact rfl); k_whole; intro g' L' h' FG' F' N' B' X' T'; (try dsimp only); (try k_lift B'); (try k_fold))
    k_steps
    exact hret fx' 0 1 _ _ ((fx', _) :: (fdx', _) :: news) (by decide) (by simp [G_cc]) (by decide) (by decide) (by decide) (by assumption) (by assumption) (fun p hp => .tail _ (.tail _ hp)) (new2 l1 l2) ⟨_, _, _, _, _, .head _, .tail _ (.head _)⟩
def G_geom (b : Int) : Nat → Int := fun | 1 => b * b * b | 2 => b * b | 3 => b | _ => 0
set_option maxRecDepth 100000 in
set_option maxHeartbeats 2000000 in
theorem geo_call {p9 : Program} {lo9 : List Str} (w : World) (mean : ExcName → Option Value) (mg mb : Str → Option Value) (cn : Str) (cs : Scope) (a : Addr) (ccd : Value) (cl : List (Str × Addr)) (outer : List Env) (A₀ : Around) (base h₀ : Heap) (L : Addr) (m : Str → Option Value) (news : List (Addr × Obj)) (s : Shared)
   (Q E : Value → Shared → Prop) (i b : Int) (ti tb : Tok)
   (B : Below A₀ base outer h₀) (F : Fr h₀ L s.heap m) (X : (hd.heap_39 w.params).In h₀) (N : News h₀ L s.heap news)
   (T : Top p9 lo9 mean mg mb h₀)
   (hk : cs.kind = .function) (hi : i = 1 ∨ i = 2 ∨ i = 3) (hb : b = 2 ∨ b = 3)
   (hret : (∀ x n d h' tk' led', 0 < d → n * (b * b * b) = G_geom b i.toNat * d → d ≤ 9 → 0 ≤ n → n ≤ 1 → Fr h₀ L h' m → News h₀ L h' led' → (∀ p ∈ news, p ∈ led') → (∀ p ∈ led', p ∈ news ∨ ∀ q ∈ news, q.1 < p.1) → FrAt w led' x n d → Q (.ref x) { s with heap := h', toks := tk' })) :
   wpAny (model PySem.Challenge.rw_bb0001_01.row.prog w) { handled := none, depth := 445, frames := some (envX cn cs L a ccd cl :: outer), guards := none, units := 90 } (call (.ref 285) [.int i ti] [(Str.ofString "base", .int b tb)]) Q E s := by
  revert X
  k_fill
  intro X
  rcases hb with rfl | rfl <;> rcases hi with rfl | rfl | rfl
  · refine wpAny_call ?_
    k_dflt (refine' code_def ?k1 ?k2 ?k3 ?k4 ?k5 ?kA ?kF ?kK ?k6 ?k7 ?k8 ?k9 ?kB ?_ ?c2 ?c3 ?c4 ?c5; (case kA => exact rfl); (case kF => exact rfl); (case kK => assumption); (case k1 => k_asm); (case k2 => k_asm); (case k3 => k_asm); (case k4 => k_asm); (case k5 => k_asm); (case k6 => k_is); (case k7 => k_is); (case k8 => k_room); (case k9 => first | exact BindsTo.of_eq rfl | exact binds_K (by k_in) rfl (by k_is) rfl rfl rfl | fail "k_enter: no rule for these arguments"); (case c5 => decide); (case kB => exact locs rfl); (case c2 => exact rfl); (case c3 => exact rfl); (case c4 => exact rfl); k_whole; intro g' L' h' FG' F' N' B' X' T'; (try dsimp only); (try k_lift B'); (try k_fold))
    k_steps
    exact hret fx' fn' fd' _ _ ((fx', _) :: (fdx', _) :: news) fe1' (by simp [G_geom] at fe2' ⊢; omega) (by simp at fe3'; omega) (by simp at fe2'; omega) (by simp at fe4'; omega) (by assumption) (by assumption) (fun p hp => .tail _ (.tail _ hp)) (new2 l1 l2) ⟨_, _, _, _, _, .head _, .tail _ (.head _)⟩
  · refine wpAny_call ?_
    k_dflt (refine' code_def ?k1 ?k2 ?k3 ?k4 ?k5 ?kA ?kF ?kK ?k6 ?k7 ?k8 ?k9 ?kB ?_ ?c2 ?c3 ?c4 ?c5; (case kA => exact rfl); (case kF => exact rfl); (case kK => assumption); (case k1 => k_asm); (case k2 => k_asm); (case k3 => k_asm); (case k4 => k_asm); (case k5 => k_asm); (case k6 => k_is); (case k7 => k_is); (case k8 => k_room); (case k9 => first | exact BindsTo.of_eq rfl | exact binds_K (by k_in) rfl (by k_is) rfl rfl rfl | fail "k_enter: no rule for these arguments"); (case c5 => decide); (case kB => exact locs rfl); (case c2 => exact rfl); (case c3 => exact rfl); (case c4 => exact rfl); k_whole; intro g' L' h' FG' F' N' B' X' T'; (try dsimp only); (try k_lift B'); (try k_fold))
    k_steps
    exact hret fx' fn' fd' _ _ ((fx', _) :: (fdx', _) :: news) fe1' (by simp [G_geom] at fe2' ⊢; omega) (by simp at fe3'; omega) (by simp at fe2'; omega) (by simp at fe4'; omega) (by assumption) (by assumption) (fun p hp => .tail _ (.tail _ hp)) (new2 l1 l2) ⟨_, _, _, _, _, .head _, .tail _ (.head _)⟩
  · refine wpAny_call ?_
    k_dflt (refine' code_def ?k1 ?k2 ?k3 ?k4 ?k5 ?kA ?kF ?kK ?k6 ?k7 ?k8 ?k9 ?kB ?_ ?c2 ?c3 ?c4 ?c5; (case kA => exact rfl); (case kF => exact rfl); (case kK => assumption); (case k1 => k_asm); (case k2 => k_asm); (case k3 => k_asm); (case k4 => k_asm); (case k5 => k_asm); (case k6 => k_is); (case k7 => k_is); (case k8 => k_room); (case k9 => first | exact BindsTo.of_eq rfl | exact binds_K (by k_in) rfl (by k_is) rfl rfl rfl | fail "k_enter: no rule for these arguments"); (case c5 => decide); (case kB => exact locs rfl); (case c2 => exact rfl); (case c3 => exact rfl); (case c4 => exact rfl); k_whole; intro g' L' h' FG' F' N' B' X' T'; (try dsimp only); (try k_lift B'); (try k_fold))
    k_steps
    exact hret fx' fn' fd' _ _ ((fx', _) :: (fdx', _) :: news) fe1' (by simp [G_geom] at fe2' ⊢; omega) (by simp at fe3'; omega) (by simp at fe2'; omega) (by simp at fe4'; omega) (by assumption) (by assumption) (fun p hp => .tail _ (.tail _ hp)) (new2 l1 l2) ⟨_, _, _, _, _, .head _, .tail _ (.head _)⟩
  · refine wpAny_call ?_
    k_dflt (refine' code_def ?k1 ?k2 ?k3 ?k4 ?k5 ?kA ?kF ?kK ?k6 ?k7 ?k8 ?k9 ?kB ?_ ?c2 ?c3 ?c4 ?c5; (case kA => exact rfl); (case kF => exact rfl); (case kK => assumption); (case k1 => k_asm); (case k2 => k_asm); (case k3 => k_asm); (case k4 => k_asm); (case k5 => k_asm); (case k6 => k_is); (case k7 => k_is); (case k8 => k_room); (case k9 => first | exact BindsTo.of_eq rfl | exact binds_K (by k_in) rfl (by k_is) rfl rfl rfl | fail "k_enter: no rule for these arguments"); (case c5 => decide); (case kB => exact locs rfl); (case c2 => exact rfl); (case c3 => exact rfl); (case c4 => exact rfl); k_whole; intro g' L' h' FG' F' N' B' X' T'; (try dsimp only); (try k_lift B'); (try k_fold))
    k_steps
    exact hret fx' fn' fd' _ _ ((fx', _) :: (fdx', _) :: news) fe1' (by simp [G_geom] at fe2' ⊢; omega) (by simp at fe3'; omega) (by simp at fe2'; omega) (by simp at fe4'; omega) (by assumption) (by assumption) (fun p hp => .tail _ (.tail _ hp)) (new2 l1 l2) ⟨_, _, _, _, _, .head _, .tail _ (.head _)⟩
  · refine wpAny_call ?_
    k_dflt (refine' code_def ?k1 ?k2 ?k3 ?k4 ?k5 ?kA ?kF ?kK ?k6 ?k7 ?k8 ?k9 ?kB ?_ ?c2 ?c3 ?c4 ?c5; (case kA => exact rfl); (case kF => exact rfl); (case kK => assumption); (case k1 => k_asm); (case k2 => k_asm); (case k3 => k_asm); (case k4 => k_asm); (case k5 => k_asm); (case k6 => k_is); (case k7 => k_is); (case k8 => k_room); (case k9 => first | exact BindsTo.of_eq rfl | exact binds_K (by k_in) rfl (by k_is) rfl rfl rfl | fail "k_enter: no rule for these arguments"); (case c5 => decide); (case kB => exact locs rfl); (case c2 => exact rfl); (case c3 => exact rfl); (case c4 => exact rfl); k_whole; intro g' L' h' FG' F' N' B' X' T'; (try dsimp only); (try k_lift B'); (try k_fold))
    k_steps
    exact hret fx' fn' fd' _ _ ((fx', _) :: (fdx', _) :: news) fe1' (by simp [G_geom] at fe2' ⊢; omega) (by simp at fe3'; omega) (by simp at fe2'; omega) (by simp at fe4'; omega) (by assumption) (by assumption) (fun p hp => .tail _ (.tail _ hp)) (new2 l1 l2) ⟨_, _, _, _, _, .head _, .tail _ (.head _)⟩
  · refine wpAny_call ?_
    k_dflt (refine' code_def ?k1 ?k2 ?k3 ?k4 ?k5 ?kA ?kF ?kK ?k6 ?k7 ?k8 ?k9 ?kB ?_ ?c2 ?c3 ?c4 ?c5; (case kA => exact rfl); (case kF => exact rfl); (case kK => assumption); (case k1 => k_asm); (case k2 => k_asm); (case k3 => k_asm); (case k4 => k_asm); (case k5 => k_asm); (case k6 => k_is); (case k7 => k_is); (case k8 => k_room); (case k9 => first | exact BindsTo.of_eq rfl | exact binds_K (by k_in) rfl (by k_is) rfl rfl rfl | fail "k_enter: no rule for these arguments"); (case c5 => decide); (case kB => exact locs rfl); (case c2 => exact rfl); (case c3 => exact rfl); (case c4 => exact rfl); k_whole; intro g' L' h' FG' F' N' B' X' T'; (try dsimp only); (try k_lift B'); (try k_fold))
    k_steps
    exact hret fx' fn' fd' _ _ ((fx', _) :: (fdx', _) :: news) fe1' (by simp [G_geom] at fe2' ⊢; omega) (by simp at fe3'; omega) (by simp at fe2'; omega) (by simp at fe4'; omega) (by assumption) (by assumption) (fun p hp => .tail _ (.tail _ hp)) (new2 l1 l2) ⟨_, _, _, _, _, .head _, .tail _ (.head _)⟩
end Mine
end

/- PT2 -/
section
open PySem PySem.W PyProof.Rows PySem.Calls PySem.Spec
set_option linter.unusedVariables false
namespace Mine
section
variable {w : World} {A : Around} {E : Value → Shared → Prop} {s : Shared} {h₀ : Heap} {L : Addr} {m : Str → Option Value} {led : List (Addr × Obj)}
set_option maxRecDepth 100000 in
set_option maxHeartbeats 1000000 in
theorem pt_new {b : Value} {Q : Value → Shared → Prop} (X : (hd.heap_39 w.params).In h₀) (F : Fr h₀ L s.heap m) (N : News h₀ L s.heap led)
    (h : ∀ h' tk' a t d k nt, Fr h₀ L h' m → News h₀ L h' ((a, ptObj t d) :: (t, { cls := .type "tuple", data := .seq #[] nt }) :: (d, dictOf [⟨PyData.keyHash w.params (Str.ofString "base"), .str (Str.ofString "base") k, b⟩] 1) :: led) → (∀ p ∈ led, p.1 < d) → d < t → t < a → Q (.ref a) { s with heap := h', toks := tk' }) :
    wpAny (model PySem.Challenge.rw_bb0001_01.row.prog w) A (call (.type "functools.partial") [.ref 285] [(Str.ofString "base", b)]) Q E s := by
  have ft := called_partial
  obtain ⟨c, tl, hmro⟩ := ft.mro
  have hmade := ft.made
  have hsub := ft.sub
  refine wpAny_call (codeAny_of_tree ?_)
  show wpAny _ _ (callAny (.type "functools.partial") _) _ _ _
  refine wpAny_pure ⟨Code.quiet_builtin _ (by decide +kernel), codeAny_builtin PySem.F.entry_type_call ?_⟩
  have h1 := ft.notType
  have h2 := ft.canCreate
  have hct := typeCall_partial (.ref 285) (Str.ofString "base") b
  repeat (any_goals (first | assumption | (with_reducible (first | (refine PySem.wpAny_pure ?_) | (refine PySem.wpAny_bind ?_) | (refine PySem.wpAny_holding ?_) | (refine PySem.wpAny_rule ?_) | (refine PySem.wpAny_of_eq (by assumption) ?_) | (refine PySem.wpAny_typeOf (by assumption) ?_) | (refine PySem.wpAny_specialOf (by assumption) (by assumption) ?_) | (refine PySem.wpAny_isInstance (by assumption) (by assumption) ?_) | (refine PySem.wpAny_call ?_) | (refine PySem.wpAny_runValue ?_) | (refine PySem.wpAny_run ?_))) | ((with_reducible show wpAny _ _ (ite _ _ _) _ _ _); first | rw [if_neg (by decide)] | rw [if_pos (by decide)]) | ((with_reducible show wpAny _ _ (ite _ _ _) _ _ _); wp_step) | wp_delta))
  refine codeAny_mono (pt_code (Q₁ := fun v s₁ => s₁.TypeIs v "functools.partial" ∧ Q v s₁) (E := E) X F N fun h' tk' a t d k nt F' N' l1 l2 l3 => ⟨⟨_, (N' _ (.head _)).1, rfl⟩, h h' tk' a t d k nt F' N' l1 l2 l3⟩) fun r s₁ hr => ?_
  cases r with
  | error e => exact hr
  | ok fl =>
    cases fl with
    | ret obj =>
      obtain ⟨hT, hq⟩ := hr
      have hli := ft.init.lookup
      have hbi := ft.init.bind obj
      repeat (any_goals (first | assumption | (with_reducible (first | (refine PySem.wpAny_pure ?_) | (refine PySem.wpAny_bind ?_) | (refine PySem.wpAny_holding ?_) | (refine PySem.wpAny_rule ?_) | (refine PySem.wpAny_of_eq (by assumption) ?_) | (refine PySem.wpAny_typeOf (by assumption) ?_) | (refine PySem.wpAny_specialOf (by assumption) (by assumption) ?_) | (refine PySem.wpAny_isInstance (by assumption) (by assumption) ?_) | (refine PySem.wpAny_call ?_) | (refine PySem.wpAny_runValue ?_) | (refine PySem.wpAny_run ?_))) | ((with_reducible show wpAny _ _ (ite _ _ _) _ _ _); first | rw [if_neg (by decide)] | rw [if_pos (by decide)]) | ((with_reducible show wpAny _ _ (ite _ _ _) _ _ _); wp_step) | wp_delta))
      refine codeAny_call_builtin ft.init.plain PySem.F.entry_object_init ?_
      refine ft.init.check _ _ _ _ _ _ _ _ hT ?_ ?_
      · unfold argsOk; kernel_rfl
      · have hne : (some "functools.partial.__new__" != some "object.__new__") = true := by decide
        repeat (any_goals (first | assumption | (with_reducible (first | (refine PySem.wpAny_pure ?_) | (refine PySem.wpAny_bind ?_) | (refine PySem.wpAny_holding ?_) | (refine PySem.wpAny_rule ?_) | (refine PySem.wpAny_of_eq (by assumption) ?_) | (refine PySem.wpAny_typeOf (by assumption) ?_) | (refine PySem.wpAny_specialOf (by assumption) (by assumption) ?_) | (refine PySem.wpAny_isInstance (by assumption) (by assumption) ?_) | (refine PySem.wpAny_call ?_) | (refine PySem.wpAny_runValue ?_) | (refine PySem.wpAny_run ?_))) | ((with_reducible show wpAny _ _ (ite _ _ _) _ _ _); first | rw [if_neg (by decide)] | rw [if_pos (by decide)]) | ((with_reducible show wpAny _ _ (ite _ _ _) _ _ _); wp_step) | wp_delta))
    | _ => exact hr.elim
end
end Mine
end

/- Sc3 -/
section
open PySem PySem.W PyProof.Rows PySem.Calls PySem.Spec
set_option linter.unusedVariables false
namespace Mine
/-- what a partial of the geometric function holds -/
def ptLed (w : World) (a t d : Addr) (nt : Nat) (k tb : Tok) (b : Int) : List (Addr × Obj) :=
  [(a, ptObj t d), (t, { cls := .type "tuple", data := .seq #[] nt }), (d, dictOf [⟨PyData.keyHash w.params (Str.ofString "base"), .str (Str.ofString "base") k, .int b tb⟩] 1)]
theorem sc_geom (w : World) (b : Int) (hb : b = 2 ∨ b = 3) (a t d : Addr) (nt : Nat) (k tb : Tok) (hd1 : d ≠ 1) : ScoreOk w (.ref a) (ptLed w a t d nt k tb b) (b * b * b) (G_geom b) := by
  intro p9 lo9 mean mg mb cn cs a' ccd cl outer A₀ base h₀ L m news s Q E i ti B F X N T hk hneed hi1 hi3 hret
  have hi : i = 1 ∨ i = 2 ∨ i = 3 := by omega
  refine pt_call (by show 70 < 9000; decide) (N _ (hneed _ (.head _))).1 (N _ (hneed _ (.tail _ (.head _)))).1 (N _ (hneed _ (.tail _ (.tail _ (.head _))))).1 hd1 ?_
  exact wp_weaken (A' := { handled := none, depth := 445, frames := some (envX cn cs L a' ccd cl :: outer), guards := none, units := 90 }) rfl (Nat.le_of_ble_eq_true rfl) (.inr rfl) (.inl rfl) (Nat.le_of_ble_eq_true rfl) (geo_call w mean mg mb cn cs a' ccd cl outer A₀ base h₀ L m news s Q E i b ti tb B F X N T hk hi hb hret)
end Mine
end

/- Gen1 -/
section
open PySem PySem.W PyProof.Rows PySem.Calls PySem.Spec
open PySem.W.X (tableObj)
set_option linter.unusedVariables false
namespace Mine
def genObj (g : Nat) (t1 t2 : Tok) (q : Str) : Obj := { cls := .type "generator", data := .fields #[.int g 0, .str "<genexpr>" t1, .str q t2] }
def lsIter (l : Addr) (i : Nat) : Obj := { cls := .type "list_iterator", data := .fields #[.ref l, .int i 0] }
section
variable {K : Frag} {prog : Program} {w : World} {A A₀ : Around} {E : Value → Shared → Prop} {s : Shared} {c P L : Addr} {ps : Array Value} {mg mb : Str → Option Value} {base h₀ : Heap} {m : Str → Option Value} {p9 : Program} {lo9 : List Str} {mean : ExcName → Option Value} {rest : List (Addr × Obj)} {outer : List Env}
/-- making a generator over a list: it and all that it holds stand in a frame of their own, over the base h₁ -/
theorem gen_once {NG : Nat} {env : Env} {elt iter : Expr} {x : Str} {px : Pos} {scope : Scope} {cl : List (Str × Addr)} {pos : Pos} {Q : Value → Shared → Prop} {l : Addr} {lo : Obj} {vs : Array Value}
    (B : Below A₀ base outer h₀) (F₀ : Fr h₀ L s.heap m) (X : K.In h₀) (N : News h₀ L s.heap ((P, tableObj ps) :: rest)) (T : Top p9 lo9 mean mg mb h₀) (G : GB NG s.gens) (CT : CodeTab K c P) (htr : TriplesOk ps.toList)
    (heval : ∀ Q' : Value → Shared → Prop, Q' (.ref l) s → wpAny (model prog w) A (eval iter env) Q' E s)
    (hP : ∀ p ∈ rest, p.1 ≠ P) (hl : (l, lo) ∈ rest) (hlo : LObj lo vs) (hglob : env.globals = mainGlobals)
    (hcode : env.code = .ref c) (hA : A.frames = some (env :: outer)) (hf : env.frame = some L) (hke : env.scope.kind = .function)
    (hco : scope.isCoroutine = false) (hclos : closureFor scope env = pure cl) (hcell : ∀ y ∈ scope.names, y.2 ≠ .cell) (h0 : scope.names.lookup (".0" : Str) = some NameKind.local)
    (hkind : scope.kind = .function) (hroom : A.depth < recursionLimit)
    (hQ : ∀ (a C I : Addr) (code : Value) (h₁ h₅ : Heap) (t₅ : Nat) ps' t1 t2, (∃ more, ps' = ps ++ more) → TriplesOk ps'.toList → Below A base (env :: outer) h₁ → (∀ b o, h₀.get? b = some o → h₁.get? b = some o) →
          Fr h₁ C h₅ (fun y => if y = ".0" then some (.ref I) else none) →
          News h₁ C h₅ ((a, genObj s.gens.size t1 t2 (env.qual ++ "<genexpr>")) :: (I, lsIter l 0) :: (P, tableObj ps') :: rest) → a ≠ I → (∀ p ∈ (P, tableObj ps) :: rest, p.1 < I ∧ p.1 < a) →
          (∀ h' m' led', Fr h₁ C h' m' → News h₁ C h' led' → Fr h₀ L h' m ∧ News h₀ L h' led') →
          Q (.ref a) { s with heap := h₅, toks := t₅, gens := s.gens.push (.fresh (.compStart (.GeneratorExp elt [⟨.Name x px, iter, [], 0⟩] scope pos) 0 (.ref I) .none (genEnv scope cl C code builtinsNs env))) })
    (hs : ∀ x, genFold iter env x = pure x) :
    wpAny (model prog w) A (eval (.GeneratorExp elt [⟨.Name x px, iter, [], 0⟩] scope pos) env) Q E s := by
  obtain ⟨bm, ob, b1, b2, b3, b4, b5, b6⟩ := T.bmain
  obtain ⟨hok, htab⟩ := CT s.heap ps (X.keeps F₀.keep) (N _ (.head _)).1 htr
  have M : BMod s.heap env.globals mg bm ob := ⟨hglob ▸ T.g.keeps F₀.keep, b1, b2, F₀.keep _ _ b3, b4, b5, b6⟩
  have hlim := T.nolimit.keeps F₀.keep
  have lt : ∀ p ∈ (P, tableObj ps) :: rest, p.1 < s.heap.objs.size := fun p hp => Heap.lt_size (N p hp).1
  obtain ⟨FG, BG, st, lv⟩ := groundX (R := fun _ _ => True) B F₀ N hA hf hke
  refine wpAny_GeneratorExp_make hco hclos hcell h0 hkind hroom (heval _ ?_) hs
  have hls : s.heap.IsList l vs := hlo.isList (N _ (.tail _ hl)).1
  have hcP : cStatics ≠ P := fun e => by
    obtain ⟨_, hns, _⟩ := hlim
    obtain ⟨o, es, ep, ho, hd, _⟩ := hns
    rw [e, htab.2] at ho; cases ho; cases hd
  refine wpAny_pyIter_list hls ⟨hlim.push _, ?_⟩
  have kp : ∀ b o, s.heap.get? b = some o → (s.heap.push (lsIter l 0)).get? b = some o := fun b o e => Heap.get?_push_of_some _ e
  have hpi : (s.heap.push (lsIter l 0)).get? s.heap.objs.size = some (lsIter l 0) := Heap.get?_push_size _ rfl
  have hps : (s.heap.push (lsIter l 0)).objs.size = s.heap.objs.size + 1 := Heap.size_push ..
  have hl2 := hlim.push (lsIter l 0)
  have hok' := hok.keeps kp
  have htab' := htab.keeps kp
  have M' := M.keeps kp
  show wpAny _ A _ _ _ { s with heap := s.heap.push (lsIter l 0) }
  have hsz1 : (hideAll s.heap (((P, tableObj ps) :: rest).map (·.1))).objs.size = s.heap.objs.size := hideAll_size _ _
  generalize hG1 : hideAll s.heap (((P, tableObj ps) :: rest).map (·.1)) = h₁ at *
  have sub1 : ∀ b o, h₁.get? b = some o → s.heap.get? b = some o := fun b o e => of_hideAll _ (hG1 ▸ e)
  have hid : ∀ p ∈ (P, tableObj ps) :: rest, h₁.get? p.1 = none := fun p hp => by rw [← hG1]; exact hideAll_none _ (List.mem_map_of_mem hp)
  generalize s.heap.push (lsIter l 0) = h₂ at *
  have main : ∀ (code : Value) h₃ tk₃ ps', Heap.ExtBut P h₂ h₃ → h₂.objs.size ≤ h₃.objs.size → h₃.IsCode c P ps' → h₃.TableAt c P ps' → (∃ more, ps' = ps ++ more) → TriplesOk ps'.toList →
      wpAny (model prog w) A (builtinsFor env.globals env.builtins) (fun bi s₄ =>
        ∀ h', h'.Ns s₄.heap.objs.size (fun y => if y = ".0" then some (.ref s.heap.objs.size) else none) → Heap.SameBut s₄.heap.objs.size (s₄.heap.push { cls := .type "frame", data := .dict #[] }) h' →
          Q (.ref h'.objs.size) { s₄ with
            gens := s₄.gens.push (.fresh (.compStart (.GeneratorExp elt [⟨.Name x px, iter, [], 0⟩] scope pos) 0 (.ref s.heap.objs.size) .none (genEnv scope cl s₄.heap.objs.size code bi env))),
            toks := s₄.toks + 1 + 1 + 1,
            heap := h'.push { cls := .type "generator", data := .fields #[.int s₄.gens.size 0, .str "<genexpr>" (s₄.toks + 1), .str (env.qual ++ "<genexpr>") (s₄.toks + 1 + 1)] } }) E { s with heap := h₃, toks := tk₃ } := by
    intro code h₃ tk₃ ps' hx₃ hsz hcode₃ htab₃ hmore htr'
    have M₃ : BMod h₃ env.globals mg bm ob := M'.extBut htab' hx₃
    refine wpAny_builtinsFor M₃.ns M₃.name M₃.ne M₃.obj M₃.cls M₃.dict M₃.data ?_
    intro h' hn' hs'
    have hC : s.heap.objs.size < h₃.objs.size := Nat.lt_of_lt_of_le (by rw [hps]; exact Nat.lt_succ_self _) hsz
    have hsz' : h'.objs.size = h₃.objs.size + 1 := by rw [hs'.1, Heap.size_push]
    have k3 : ∀ b o, h₃.get? b = some o → (h'.push (genObj s.gens.size (tk₃ + 1) (tk₃ + 1 + 1) (env.qual ++ "<genexpr>"))).get? b = some o := fun b o e =>
      Heap.get?_push_of_some _ (hs'.extBut b o (Nat.ne_of_lt (Heap.lt_size e)) (Heap.get?_push_of_some _ e))
    have hPlt := lt _ (.head _)
    have k1 : ∀ b o, h₁.get? b = some o → (h'.push (genObj s.gens.size (tk₃ + 1) (tk₃ + 1 + 1) (env.qual ++ "<genexpr>"))).get? b = some o := fun b o e =>
      k3 b o (hx₃ b o (fun q => by rw [q, hid _ (.head _)] at e; cases e) (kp b o (sub1 b o e)))
    refine hQ h'.objs.size h₃.objs.size s.heap.objs.size code h₁ _ _ ps' (tk₃ + 1) (tk₃ + 1 + 1) hmore htr' BG st ⟨hn'.push _, k1, by rw [hsz1]; exact Nat.le_of_lt hC⟩ (fun p hp => ?_) (by rw [hsz']; exact Nat.ne_of_gt (Nat.lt_succ_of_lt hC)) (fun p hp => ⟨lt p hp, by rw [hsz']; exact Nat.lt_succ_of_lt (Nat.lt_trans (lt p hp) hC)⟩) (fun h'' m'' led'' F'' N'' => ?_)
    · have none1 : ∀ b, s.heap.objs.size ≤ b → h₁.get? b = none := fun b hb => by
        cases q : h₁.get? b with
        | none => rfl
        | some o => exact absurd (Heap.lt_size (sub1 _ _ q)) (Nat.not_lt.mpr hb)
      rcases List.mem_cons.mp hp with rfl | hp
      · exact ⟨Heap.get?_push_size _ rfl, by rw [hsz']; exact Nat.succ_ne_self _, none1 _ (by rw [hsz']; exact Nat.le_of_lt (Nat.lt_succ_of_lt hC))⟩
      · rcases List.mem_cons.mp hp with rfl | hp
        · exact ⟨k3 _ _ (hx₃ _ _ (Nat.ne_of_gt hPlt) hpi), Nat.ne_of_lt hC, none1 _ (Nat.le_refl _)⟩
        · rcases List.mem_cons.mp hp with rfl | hp
          · exact ⟨k3 _ _ htab₃.2, Nat.ne_of_lt (Nat.lt_trans hPlt hC), hid (P, tableObj ps) (.head _)⟩
          · exact ⟨k3 _ _ (hx₃ _ _ (hP p hp) (kp _ _ (N _ (.tail _ hp)).1)), Nat.ne_of_lt (Nat.lt_trans (lt _ (.tail _ hp)) hC), hid _ (.tail _ hp)⟩
    · obtain ⟨oL, es, ep, hL, hLd, hLk, hLf⟩ := FG.ns
      refine ⟨⟨⟨oL, es, ep, F''.keep _ _ hL, hLd, hLk, hLf⟩, fun b o e => F''.keep b o (st b o e), F₀.above⟩, fun p hp => ⟨(N'' p hp).1, fun q => ?_, ?_⟩⟩
      · have := (N'' p hp).2.2; rw [q, hL] at this; cases this
      · cases q : h₀.get? p.1 with
        | none => rfl
        | some o => have := (N'' p hp).2.2; rw [st _ _ q] at this; cases this
  cases hc : codeAmong pos ps.toList with
  | none => exact wpAny_genexprCodeX hcode hok' htab' hc fun c' h₃ tk₃ hx₃ hge hlt' hcode₃ _ htab₃ _ => main _ _ _ _ hx₃ (Nat.le_trans hge (Nat.le_of_lt hlt')) hcode₃ htab₃ ⟨_, rfl⟩ (triples_of hcode₃)
  | some c' => exact wpAny_genexprCode_hit hcode hok' hc (main _ _ _ _ (fun b o _ e => e) (Nat.le_refl _) hok' htab' ⟨#[], by simp⟩ htr)
end
end Mine
end

/- Gen1b -/
section
open PySem PySem.W PyProof.Rows PySem.Calls PySem.Spec
open PySem.W.X (tableObj)
open PySem.Sem (wp)
set_option linter.unusedVariables false
namespace Mine
section
variable {prog : Program} {w : World} {A : Around}
/-- the end of a generator: nothing but its source has moved -/
def OEnd (I : Addr) : GenEnd := fun n s₀ r s₁ => r = .ok .next ∧ (n = 0 ∧ ∃ h' tk, s₁ = { s₀ with heap := h', toks := tk } ∧ ∀ b o, b ≠ I → s₀.heap.get? b = some o → h'.get? b = some o)
/-- the state in which a generator over a list of one item, that item taken, goes to its end -/
def OReady (C I l : Addr) (vs : Array Value) (s : Shared) : Prop := (∃ m, s.heap.Ns C m) ∧ s.heap.IsListIter I l vs.size ∧ s.heap.IsList l vs
def OProto (C I l : Addr) (vs : Array Value) (Φ : Value → Shared → Prop) : Protocol := fun _ _ v s kap => Φ v s ∧ OReady C I l vs s ∧ ∀ s'', OReady C I l vs s'' → kap (.send .none) s''
theorem seg_o_end {elt iter : Expr} {x : Str} {px : Pos} {scope : Scope} {pos : Pos} {I l : Addr} {vs : Array Value} {cenv : Env} {Φ : Value → Shared → Prop} (hh : A.handled = none) (hlI : l ≠ I) (s : Shared) (hr : OReady cenv.locals I l vs s) :
    Seg (model prog w) A (OEnd I) (OProto cenv.locals I l vs Φ) 0 s
        (.compLoop (.GeneratorExp elt [⟨.Name x px, iter, [], 0⟩] scope pos) 0 (.ref I) .none cenv)
        ((model prog w).den (.compLoop (.GeneratorExp elt [⟨.Name x px, iter, [], 0⟩] scope pos) 0 (.ref I) .none cenv)) [] s := by
  have hh' : (A.over (.compLoop (.GeneratorExp elt [⟨.Name x px, iter, [], 0⟩] scope pos) 0 (.ref I) .none cenv) []).handled = none := hh
  show Seg _ A _ _ _ s _ ((compTurn (.GeneratorExp elt [⟨.Name x px, iter, [], 0⟩] scope pos) 0 (.ref I) .none cenv).onRaise (leaving cenv)) [] s
  rw [compTurn_gen, Sem.onRaise_eq_wrap]
  refine seg_bind_wrap (wpAny_standAt ?_)
  refine seg_bind_wrap ((Walks.list (prog := prog) (w := w) hh' I l hlI vs).done s _ _ ⟨hr.2.1, hr.2.2⟩ fun h' tk hk' => ?_)
  exact seg_end (.ok .next) ⟨rfl, rfl, h', tk, rfl, fun b o hb e => hk' b o (by simpa using hb) e⟩
theorem seg_o_loop {elt iter : Expr} {x : Str} {px : Pos} {scope : Scope} {pos : Pos} {I l : Addr} {v₀ : Value} {cenv : Env} {Φ : Value → Shared → Prop} {m : Str → Option Value} (hh : A.handled = none) (hlI : l ≠ I) (hCI : cenv.locals ≠ I) (hCl : cenv.locals ≠ l)
    (hx : cenv.kindOf x = some .local) (hp : (cenv.scope.kind == .class || (cenv.scope.kind == .module && cenv.locals != cenv.globals)) = false) (hco : cenv.scope.isCoroutine = false)
    (s : Shared) (hn : s.heap.Ns cenv.locals m) (hit : s.heap.IsListIter I l 0) (hls : s.heap.IsList l #[v₀])
    (helt : ∀ h tk E', h.Ns cenv.locals (fun y => if y = x then some v₀ else m y) → h.IsListIter I l 1 → (∀ b o, b ≠ I → b ≠ cenv.locals → s.heap.get? b = some o → h.get? b = some o) →
      wpAny (model prog w) (A.over (.compLoop (.GeneratorExp elt [⟨.Name x px, iter, [], 0⟩] scope pos) 0 (.ref I) .none cenv) []) (eval elt cenv) (fun y s₄ => Φ y s₄ ∧ OReady cenv.locals I l #[v₀] s₄) E' { s with heap := h, toks := tk }) (s₀ : Shared) :
    Seg (model prog w) A (OEnd I) (OProto cenv.locals I l #[v₀] Φ) 1 s₀
        (.compLoop (.GeneratorExp elt [⟨.Name x px, iter, [], 0⟩] scope pos) 0 (.ref I) .none cenv)
        ((model prog w).den (.compLoop (.GeneratorExp elt [⟨.Name x px, iter, [], 0⟩] scope pos) 0 (.ref I) .none cenv)) [] s := by
  have hh' : (A.over (.compLoop (.GeneratorExp elt [⟨.Name x px, iter, [], 0⟩] scope pos) 0 (.ref I) .none cenv) []).handled = none := hh
  show Seg _ A _ _ _ s₀ _ ((compTurn (.GeneratorExp elt [⟨.Name x px, iter, [], 0⟩] scope pos) 0 (.ref I) .none cenv).onRaise (leaving cenv)) [] s
  rw [compTurn_gen, Sem.onRaise_eq_wrap]
  refine seg_bind_wrap (wpAny_standAt ?_)
  refine seg_bind_wrap ((Walks.list (prog := prog) (w := w) hh' I l hlI #[v₀]).item 0 s _ _ (by simp) ⟨hit, hls⟩ fun v h₁ tk₁ hPv hst₁ hk₁ => ?_)
  obtain rfl : v = v₀ := by simpa using hPv.symm
  refine seg_bind_wrap (wpAny_of_eq (rfl : letOwnedTupleGo (.Name x px) (.ref I) v = pure ()) ?_)
  refine seg_bind_wrap (wpAny_assign_Name (wpAny_storeName_local hx (hn.at' fun o e => hk₁ _ o (by simpa using hCI) e) (fun h₂ hn₂ hs₂ => ?_) hp))
  refine seg_bind_wrap ?_
  rw [List.forIn_nil]
  refine wpAny_pure ?_
  simp only [if_true]
  have hy : ∀ v, yieldOut cenv v = yieldValue v := fun v => by simp only [yieldOut, hco, Bool.false_eq_true, if_false]
  simp only [hy]
  rw [Sem.bind_eq_wrap', Sem.bind_eq_wrap', Sem.wrap_wrap, Sem.wrap_wrap]
  have hit₂ : h₂.IsListIter I l 1 := by
    obtain ⟨o, e, r⟩ := hst₁.1
    exact ⟨o, hs₂.extBut I o (Ne.symm hCI) e, r⟩
  refine seg_wrap (wpAny_mono (helt h₂ _ _ hn₂ hit₂ fun b o hb1 hb2 e => hs₂.extBut b o hb2 (hk₁ b o (by simpa using hb1) e)) (fun y s₄ h₄ => ?_) fun _ _ e => e)
  refine seg_at (seg_yield rfl rfl rfl ⟨h₄.1, h₄.2, fun s'' hr => ?_⟩)
  exact seg_again rfl (seg_o_end hh hlI s'' hr)
theorem seg_o_start {elt iter : Expr} {x : Str} {px : Pos} {scope : Scope} {pos : Pos} {I l : Addr} {v₀ : Value} {cenv : Env} {Φ : Value → Shared → Prop} {m : Str → Option Value} (hh : A.handled = none) (hlI : l ≠ I) (hCI : cenv.locals ≠ I) (hCl : cenv.locals ≠ l)
    (hx : cenv.kindOf x = some .local) (hp : (cenv.scope.kind == .class || (cenv.scope.kind == .module && cenv.locals != cenv.globals)) = false) (hco : cenv.scope.isCoroutine = false)
    (s : Shared) (hn : s.heap.Ns cenv.locals m) (hit : s.heap.IsListIter I l 0) (hls : s.heap.IsList l #[v₀])
    (helt : ∀ h tk E', h.Ns cenv.locals (fun y => if y = x then some v₀ else m y) → h.IsListIter I l 1 → (∀ b o, b ≠ I → b ≠ cenv.locals → s.heap.get? b = some o → h.get? b = some o) →
      wpAny (model prog w) (A.over (.compLoop (.GeneratorExp elt [⟨.Name x px, iter, [], 0⟩] scope pos) 0 (.ref I) .none cenv) []) (eval elt cenv) (fun y s₄ => Φ y s₄ ∧ OReady cenv.locals I l #[v₀] s₄) E' { s with heap := h, toks := tk }) (s₀ : Shared) :
    Seg (model prog w) A (OEnd I) (OProto cenv.locals I l #[v₀] Φ) 1 s₀
      (.compStart (.GeneratorExp elt [⟨.Name x px, iter, [], 0⟩] scope pos) 0 (.ref I) .none cenv)
      ((model prog w).den (.compStart (.GeneratorExp elt [⟨.Name x px, iter, [], 0⟩] scope pos) 0 (.ref I) .none cenv)) [] s := by
  have hh' : (A.over (.compStart (.GeneratorExp elt [⟨.Name x px, iter, [], 0⟩] scope pos) 0 (.ref I) .none cenv) []).handled = none := hh
  have loop := seg_o_loop (px := px) (scope := scope) (pos := pos) (iter := iter) hh hlI hCI hCl hx hp hco s hn hit hls helt s₀
  show Seg _ A _ _ _ s₀ _ ((compStart (.GeneratorExp elt [⟨.Name x px, iter, [], 0⟩] scope pos) 0 (.ref I) .none cenv).onRaise (leaving cenv)) [] s
  unfold compStart
  rw [Sem.onRaise_eq_wrap]
  show Seg _ A _ _ _ s₀ _ ((ask >>= _).wrap _ _ _ _) [] s
  refine seg_bind_wrap (wpAny_askSetting ?_)
  split
  · exact seg_again rfl loop
  · first
      | exact seg_bind_wrap (wpAny_rule (seg_bind_wrap (wpAny_standAt (seg_bind_wrap ((Walks.list (prog := prog) (w := w) hh' I l hlI #[v₀]).self 0 s _ _ ⟨hit, hls⟩ (seg_again rfl loop))))))
      | (refine seg_bind_wrap (wpAny_rule ?_); show Seg _ A _ _ _ s₀ _ ((standAt iter.pos >>= _).wrap _ _ _ _) [] s; exact seg_bind_wrap (wpAny_standAt (seg_bind_wrap ((Walks.list (prog := prog) (w := w) hh' I l hlI #[v₀]).self 0 s _ _ ⟨hit, hls⟩ (seg_again rfl loop)))))
end
section
variable {prog : Program} {w : World} {A : Around} {E : Value → Shared → Prop} {s : Shared}
/-- the first item -/
theorem next_o1 {elt iter : Expr} {x : Str} {px : Pos} {scope : Scope} {pos : Pos} {a I l : Addr} {g : Nat} {v₀ : Value} {cenv : Env} {Φ : Value → Shared → Prop} {m : Str → Option Value} {Q : Option Value → Shared → Prop} (hh : A.handled = none) (hlim : s.heap.NoLimit) (hroom : A.depth < recursionLimit) (hlI : l ≠ I) (hCI : cenv.locals ≠ I) (hCl : cenv.locals ≠ l)
    (hx : cenv.kindOf x = some .local) (hp : (cenv.scope.kind == .class || (cenv.scope.kind == .module && cenv.locals != cenv.globals)) = false) (hco : cenv.scope.isCoroutine = false)
    (hg : s.heap.IsGen a g) (hgs : s.gens[g]? = some (.fresh (.compStart (.GeneratorExp elt [⟨.Name x px, iter, [], 0⟩] scope pos) 0 (.ref I) .none cenv)))
    (hn : s.heap.Ns cenv.locals m) (hit : s.heap.IsListIter I l 0) (hls : s.heap.IsList l #[v₀])
    (helt : ∀ h tk E', h.Ns cenv.locals (fun y => if y = x then some v₀ else m y) → h.IsListIter I l 1 → (∀ b o, b ≠ I → b ≠ cenv.locals → s.heap.get? b = some o → h.get? b = some o) →
      wpAny (model prog w) (A.in1.over (.compLoop (.GeneratorExp elt [⟨.Name x px, iter, [], 0⟩] scope pos) 0 (.ref I) .none cenv) []) (eval elt cenv) (fun y s₄ => Φ y s₄ ∧ OReady cenv.locals I l #[v₀] s₄) E' { s.setGen g .running with heap := h, toks := tk })
    (hQ : ∀ y s₁ gs', gs'.bare = true → Φ y s₁ → OReady cenv.locals I l #[v₀] s₁ → (∀ s'', OReady cenv.locals I l #[v₀] s'' → gs'.Goes (model prog w) A.in1 (OEnd I) (OProto cenv.locals I l #[v₀] Φ) 0 (.send .none) s'') → Q (some y) (s₁.setGen g gs')) :
    wpAny (model prog w) A (pyNext (.ref a)) Q E s := by
  refine wpAny_pyNext_genexpQ (P := fun n s₀ s₁ => n = 0 ∧ ∃ h' tk, s₁ = { s₀ with heap := h', toks := tk } ∧ ∀ b o, b ≠ I → s₀.heap.get? b = some o → h'.get? b = some o) (Y := OProto cenv.locals I l #[v₀] Φ) (n := 1) hh hlim hroom hg hgs ⟨rfl, seg_o_start (A := A.in1) (s := s.setGen g .running) hh hlI hCI hCl hx hp hco hn hit hls helt _⟩ (fun v s₁ gs' hb hv => ?_) (fun s₁ hp h' hk => ?_)
  · exact hQ v s₁ gs' hb hv.1 hv.2.1 hv.2.2
  · exact absurd hp.1 (by decide)
/-- and no second one -/
theorem next_o2 {a I l : Addr} {g : Nat} {v₀ : Value} {C : Addr} {Φ : Value → Shared → Prop} {gs' : GenState} {Q : Option Value → Shared → Prop} (hh : A.handled = none) (hlim : s.heap.NoLimit) (hroom : A.depth < recursionLimit)
    (hg : s.heap.IsGen a g) (hgs : s.gens[g]? = some gs') (hr : OReady C I l #[v₀] s)
    (hgo : ∀ s'', OReady C I l #[v₀] s'' → gs'.Goes (model prog w) A.in1 (OEnd I) (OProto C I l #[v₀] Φ) 0 (.send .none) s'')
    (hQ : ∀ h' tk, (∀ b o, b ≠ I → s.heap.get? b = some o → h'.get? b = some o) → Q none { (s.setGen g .running).setGen g .finished with heap := h', toks := tk }) :
    wpAny (model prog w) A (pyNext (.ref a)) Q E s := by
  refine wpAny_pyNext_genexpQ (P := fun n s₀ s₁ => n = 0 ∧ ∃ h' tk, s₁ = { s₀ with heap := h', toks := tk } ∧ ∀ b o, b ≠ I → s₀.heap.get? b = some o → h'.get? b = some o) (Y := OProto C I l #[v₀] Φ) (n := 0) hh hlim hroom hg hgs (hgo _ hr) (fun v s₁ gs'' hb hv => ?_) (fun s₁ hp h' hk => ?_)
  · exact (hv.2.2 s₁ hv.2.1).elim
  · obtain ⟨_, h1, tk, rfl, hk1⟩ := hp
    exact hQ h' tk fun b o hb e => hk b o (hk1 b o hb e)
end
end Mine
end

/- FC -/
section
open PySem PySem.W PyProof.Rows
namespace Mine
local macro_rules | `(tactic| k_mem) => `(tactic| assumption)
set_option hygiene false in
local macro_rules | `(tactic| wtm_at "own call ref") => `(tactic| (k_here; (with_reducible show wpAny _ _ (call (Value.ref 244) [Value.int _ _, Value.int _ _]) _ _ _); k_dflt (refine' fr_use ?wh ?wd ?wf ?wu ?k1 ?k2 ?k3 ?k4 ?k5 ?kK ?b0 ?b1 ?b2 ?b3 ?_; (case wh => exact rfl); (case wd => exact Nat.le_of_ble_eq_true rfl); (case wf => exact rfl); (case wu => exact Nat.le_of_ble_eq_true rfl); (case k1 => k_asm); (case k2 => k_asm); (case k3 => k_asm); (case k4 => k_asm); (case k5 => k_asm); (case kK => first | exact rfl | assumption); (case b0 => ktr_unf); (case b1 => ktr_unf); (case b2 => ktr_unf); (case b3 => ktr_unf); k_whole; intro fx' fdx' fn' fd' fk1' ft1' fk2' ft2' fh' ftk' fe1' fe2' fe3' fe4' F' N' l1 l2; (try dsimp only); (try k_fold))))

local macro_rules | `(tactic| ktr_unf) => `(tactic| omega)
set_option maxRecDepth 100000 in
set_option maxHeartbeats 2000000 in
theorem fr_radd {p9 : Program} {lo9 : List Str} (w : World) (mean : ExcName → Option Value) (mg mb : Str → Option Value) (cn : Str) (cs : Scope) (a : Addr) (ccd : Value) (cl : List (Str × Addr)) (outer : List Env) (A₀ : Around) (base h₀ : Heap) (L : Addr) (m : Str → Option Value) (news : List (Addr × Obj)) (s : Shared)
   (Q E : Value → Shared → Prop) (x dx : Addr) (n d : Int) (k1a t1a k2a t2a : Tok) (tc : Tok)
   (B : Below A₀ base outer h₀) (F : Fr h₀ L s.heap m) (X : (hd.heap_39 w.params).In h₀) (N : News h₀ L s.heap news)
   (T : Top p9 lo9 mean mg mb h₀)
   (hk : cs.kind = .function) (hx : (x, instObj 244 dx) ∈ news) (hdx : (dx, dictOf [⟨PyData.keyHash w.params (Str.ofString "numerator"), .str (Str.ofString "numerator") k1a, .int n t1a⟩, ⟨PyData.keyHash w.params (Str.ofString "denominator"), .str (Str.ofString "denominator") k2a, .int d t2a⟩] 2) ∈ news)(hd0 : 0 < d) (hd1 : d < 2 ^ 60) (hbn : -2 ^ 60 < n ∧ n < 2 ^ 60) (hret : ∀ x' dx' n' d' k1 t1 k2 t2 h' tk', 0 < d' → n' * (d) = (n) * d' → d' ≤ d → n'.natAbs ≤ (n).natAbs → Fr h₀ L h' m → News h₀ L h' ((x', instObj 244 dx') :: (dx', dictOf [⟨PyData.keyHash w.params (Str.ofString "numerator"), .str (Str.ofString "numerator") k1, .int n' t1⟩, ⟨PyData.keyHash w.params (Str.ofString "denominator"), .str (Str.ofString "denominator") k2, .int d' t2⟩] 2) :: news) → (∀ p ∈ news, p.1 < dx') → dx' < x' → Q (.ref x') { s with heap := h', toks := tk' }) :
   wpAny (model PySem.Challenge.rw_bb0001_01.row.prog w) { handled := none, depth := 480, frames := some (envX cn cs L a ccd cl :: outer), guards := none, units := 90 } (call (.ref 164) [.ref x, .int 0 tc]) Q E s := by
  revert X
  k_fill
  intro X
  refine wpAny_call ?_
  k_dflt (refine' code_def ?k1 ?k2 ?k3 ?k4 ?k5 ?kA ?kF ?kK ?k6 ?k7 ?k8 ?k9 ?kB ?_ ?c2 ?c3 ?c4 ?c5; (case kA => exact rfl); (case kF => exact rfl); (case kK => assumption); (case k1 => k_asm); (case k2 => k_asm); (case k3 => k_asm); (case k4 => k_asm); (case k5 => k_asm); (case k6 => k_is); (case k7 => k_is); (case k8 => k_room); (case k9 => first | exact BindsTo.of_eq rfl | exact binds_K (by k_in) rfl (by k_is) rfl rfl rfl | fail "k_enter: no rule for these arguments"); (case c5 => decide); (case kB => exact locs rfl); (case c2 => exact rfl); (case c3 => exact rfl); (case c4 => exact rfl); k_whole; intro g' L' h' FG' F' N' B' X' T'; (try dsimp only); (try k_lift B'); (try k_fold))
  k_steps
  exact hret _ _ _ _ _ _ _ _ _ _ fe1' (by simpa only [Int.mul_one, Int.zero_mul, Int.add_zero] using fe2') (by simpa only [Int.mul_one, Int.zero_mul, Int.add_zero] using fe3') (by simpa only [Int.mul_one, Int.zero_mul, Int.add_zero] using fe4') (by assumption) (cb_drop (by assumption) (mem2 fun p hp => .tail _ hp)) (fun p hp => l1 p (.tail _ hp)) l2
set_option maxRecDepth 100000 in
set_option maxHeartbeats 2000000 in
theorem fr_add {p9 : Program} {lo9 : List Str} (w : World) (mean : ExcName → Option Value) (mg mb : Str → Option Value) (cn : Str) (cs : Scope) (a : Addr) (ccd : Value) (cl : List (Str × Addr)) (outer : List Env) (A₀ : Around) (base h₀ : Heap) (L : Addr) (m : Str → Option Value) (news : List (Addr × Obj)) (s : Shared)
   (Q E : Value → Shared → Prop) (x dx : Addr) (n d : Int) (k1a t1a k2a t2a : Tok) (y dy : Addr) (n2 d2 : Int) (k1b t1b k2b t2b : Tok)
   (B : Below A₀ base outer h₀) (F : Fr h₀ L s.heap m) (X : (hd.heap_39 w.params).In h₀) (N : News h₀ L s.heap news)
   (T : Top p9 lo9 mean mg mb h₀)
   (hk : cs.kind = .function) (hx : (x, instObj 244 dx) ∈ news) (hdx : (dx, dictOf [⟨PyData.keyHash w.params (Str.ofString "numerator"), .str (Str.ofString "numerator") k1a, .int n t1a⟩, ⟨PyData.keyHash w.params (Str.ofString "denominator"), .str (Str.ofString "denominator") k2a, .int d t2a⟩] 2) ∈ news)(hy : (y, instObj 244 dy) ∈ news) (hdy : (dy, dictOf [⟨PyData.keyHash w.params (Str.ofString "numerator"), .str (Str.ofString "numerator") k1b, .int n2 t1b⟩, ⟨PyData.keyHash w.params (Str.ofString "denominator"), .str (Str.ofString "denominator") k2b, .int d2 t2b⟩] 2) ∈ news)(hd0 : 0 < d) (hd1 : d < 2 ^ 60) (hbn : -2 ^ 60 < n ∧ n < 2 ^ 60) (hd20 : 0 < d2) (hd21 : d2 < 2 ^ 60) (hbn2 : -2 ^ 60 < n2 ∧ n2 < 2 ^ 60) (hba : -2 ^ 60 < n * d2 ∧ n * d2 < 2 ^ 60)(hbb : -2 ^ 60 < n2 * d ∧ n2 * d < 2 ^ 60)(hbc : -2 ^ 60 < n * d2 + n2 * d ∧ n * d2 + n2 * d < 2 ^ 60)(hdd : 0 < d * d2 ∧ d * d2 < 2 ^ 60)(hret : ∀ x' dx' n' d' k1 t1 k2 t2 h' tk', 0 < d' → n' * (d * d2) = (n * d2 + n2 * d) * d' → d' ≤ d * d2 → n'.natAbs ≤ (n * d2 + n2 * d).natAbs → Fr h₀ L h' m → News h₀ L h' ((x', instObj 244 dx') :: (dx', dictOf [⟨PyData.keyHash w.params (Str.ofString "numerator"), .str (Str.ofString "numerator") k1, .int n' t1⟩, ⟨PyData.keyHash w.params (Str.ofString "denominator"), .str (Str.ofString "denominator") k2, .int d' t2⟩] 2) :: news) → (∀ p ∈ news, p.1 < dx') → dx' < x' → Q (.ref x') { s with heap := h', toks := tk' }) :
   wpAny (model PySem.Challenge.rw_bb0001_01.row.prog w) { handled := none, depth := 480, frames := some (envX cn cs L a ccd cl :: outer), guards := none, units := 90 } (call (.ref 157) [.ref x, .ref y]) Q E s := by
  revert X
  k_fill
  intro X
  refine wpAny_call ?_
  k_dflt (refine' code_def ?k1 ?k2 ?k3 ?k4 ?k5 ?kA ?kF ?kK ?k6 ?k7 ?k8 ?k9 ?kB ?_ ?c2 ?c3 ?c4 ?c5; (case kA => exact rfl); (case kF => exact rfl); (case kK => assumption); (case k1 => k_asm); (case k2 => k_asm); (case k3 => k_asm); (case k4 => k_asm); (case k5 => k_asm); (case k6 => k_is); (case k7 => k_is); (case k8 => k_room); (case k9 => first | exact BindsTo.of_eq rfl | exact binds_K (by k_in) rfl (by k_is) rfl rfl rfl | fail "k_enter: no rule for these arguments"); (case c5 => decide); (case kB => exact locs rfl); (case c2 => exact rfl); (case c3 => exact rfl); (case c4 => exact rfl); k_whole; intro g' L' h' FG' F' N' B' X' T'; (try dsimp only); (try k_lift B'); (try k_fold))
  k_steps
  exact hret _ _ _ _ _ _ _ _ _ _ fe1' (by simpa only [Int.mul_one, Int.zero_mul, Int.add_zero] using fe2') (by simpa only [Int.mul_one, Int.zero_mul, Int.add_zero] using fe3') (by simpa only [Int.mul_one, Int.zero_mul, Int.add_zero] using fe4') (by assumption) (cb_drop (by assumption) (mem2 fun p hp => .tail _ hp)) (fun p hp => l1 p (.tail _ hp)) l2
set_option maxRecDepth 100000 in
set_option maxHeartbeats 2000000 in
theorem fr_lt_i {p9 : Program} {lo9 : List Str} (w : World) (mean : ExcName → Option Value) (mg mb : Str → Option Value) (cn : Str) (cs : Scope) (a : Addr) (ccd : Value) (cl : List (Str × Addr)) (outer : List Env) (A₀ : Around) (base h₀ : Heap) (L : Addr) (m : Str → Option Value) (news : List (Addr × Obj)) (s : Shared)
   (Q E : Value → Shared → Prop) (x dx : Addr) (n d : Int) (k1a t1a k2a t2a : Tok) (c : Int) (tc : Tok)
   (B : Below A₀ base outer h₀) (F : Fr h₀ L s.heap m) (X : (hd.heap_39 w.params).In h₀) (N : News h₀ L s.heap news)
   (T : Top p9 lo9 mean mg mb h₀)
   (hk : cs.kind = .function) (hx : (x, instObj 244 dx) ∈ news) (hdx : (dx, dictOf [⟨PyData.keyHash w.params (Str.ofString "numerator"), .str (Str.ofString "numerator") k1a, .int n t1a⟩, ⟨PyData.keyHash w.params (Str.ofString "denominator"), .str (Str.ofString "denominator") k2a, .int d t2a⟩] 2) ∈ news)(hd0 : 0 < d) (hd1 : d < 2 ^ 60) (hbn : -2 ^ 60 < n ∧ n < 2 ^ 60) (hbc : -2 ^ 60 < c ∧ c < 2 ^ 60)(hbcd : -2 ^ 60 < c * d ∧ c * d < 2 ^ 60)(hret : ∀ bv h' tk', bv = decide (n < c * d) → Fr h₀ L h' m → News h₀ L h' news → Q (.bool bv) { s with heap := h', toks := tk' }) :
   wpAny (model PySem.Challenge.rw_bb0001_01.row.prog w) { handled := none, depth := 480, frames := some (envX cn cs L a ccd cl :: outer), guards := none, units := 90 } (call (.ref 220) [.ref x, .int c tc]) Q E s := by
  revert X
  k_fill
  intro X
  refine wpAny_call ?_
  k_dflt (refine' code_def ?k1 ?k2 ?k3 ?k4 ?k5 ?kA ?kF ?kK ?k6 ?k7 ?k8 ?k9 ?kB ?_ ?c2 ?c3 ?c4 ?c5; (case kA => exact rfl); (case kF => exact rfl); (case kK => assumption); (case k1 => k_asm); (case k2 => k_asm); (case k3 => k_asm); (case k4 => k_asm); (case k5 => k_asm); (case k6 => k_is); (case k7 => k_is); (case k8 => k_room); (case k9 => first | exact BindsTo.of_eq rfl | exact binds_K (by k_in) rfl (by k_is) rfl rfl rfl | fail "k_enter: no rule for these arguments"); (case c5 => decide); (case kB => exact locs rfl); (case c2 => exact rfl); (case c3 => exact rfl); (case c4 => exact rfl); k_whole; intro g' L' h' FG' F' N' B' X' T'; (try dsimp only); (try k_lift B'); (try k_fold))
  k_steps
  refine hret _ _ _ ?_ (by assumption) (cb_drop (by assumption) (fun p hp => by repeat (first | exact hp | apply List.Mem.tail)))
  rw [Bool.eq_iff_iff]
  simp
  try omega
set_option maxRecDepth 100000 in
set_option maxHeartbeats 2000000 in
theorem fr_gt_i {p9 : Program} {lo9 : List Str} (w : World) (mean : ExcName → Option Value) (mg mb : Str → Option Value) (cn : Str) (cs : Scope) (a : Addr) (ccd : Value) (cl : List (Str × Addr)) (outer : List Env) (A₀ : Around) (base h₀ : Heap) (L : Addr) (m : Str → Option Value) (news : List (Addr × Obj)) (s : Shared)
   (Q E : Value → Shared → Prop) (x dx : Addr) (n d : Int) (k1a t1a k2a t2a : Tok) (c : Int) (tc : Tok)
   (B : Below A₀ base outer h₀) (F : Fr h₀ L s.heap m) (X : (hd.heap_39 w.params).In h₀) (N : News h₀ L s.heap news)
   (T : Top p9 lo9 mean mg mb h₀)
   (hk : cs.kind = .function) (hx : (x, instObj 244 dx) ∈ news) (hdx : (dx, dictOf [⟨PyData.keyHash w.params (Str.ofString "numerator"), .str (Str.ofString "numerator") k1a, .int n t1a⟩, ⟨PyData.keyHash w.params (Str.ofString "denominator"), .str (Str.ofString "denominator") k2a, .int d t2a⟩] 2) ∈ news)(hd0 : 0 < d) (hd1 : d < 2 ^ 60) (hbn : -2 ^ 60 < n ∧ n < 2 ^ 60) (hbc : -2 ^ 60 < c ∧ c < 2 ^ 60)(hbcd : -2 ^ 60 < c * d ∧ c * d < 2 ^ 60)(hret : ∀ bv h' tk', bv = decide (c * d < n) → Fr h₀ L h' m → News h₀ L h' news → Q (.bool bv) { s with heap := h', toks := tk' }) :
   wpAny (model PySem.Challenge.rw_bb0001_01.row.prog w) { handled := none, depth := 480, frames := some (envX cn cs L a ccd cl :: outer), guards := none, units := 90 } (call (.ref 234) [.ref x, .int c tc]) Q E s := by
  revert X
  k_fill
  intro X
  refine wpAny_call ?_
  k_dflt (refine' code_def ?k1 ?k2 ?k3 ?k4 ?k5 ?kA ?kF ?kK ?k6 ?k7 ?k8 ?k9 ?kB ?_ ?c2 ?c3 ?c4 ?c5; (case kA => exact rfl); (case kF => exact rfl); (case kK => assumption); (case k1 => k_asm); (case k2 => k_asm); (case k3 => k_asm); (case k4 => k_asm); (case k5 => k_asm); (case k6 => k_is); (case k7 => k_is); (case k8 => k_room); (case k9 => first | exact BindsTo.of_eq rfl | exact binds_K (by k_in) rfl (by k_is) rfl rfl rfl | fail "k_enter: no rule for these arguments"); (case c5 => decide); (case kB => exact locs rfl); (case c2 => exact rfl); (case c3 => exact rfl); (case c4 => exact rfl); k_whole; intro g' L' h' FG' F' N' B' X' T'; (try dsimp only); (try k_lift B'); (try k_fold))
  k_steps
  refine hret _ _ _ ?_ (by assumption) (cb_drop (by assumption) (fun p hp => by repeat (first | exact hp | apply List.Mem.tail)))
  rw [Bool.eq_iff_iff]
  simp
  try omega
set_option maxRecDepth 100000 in
set_option maxHeartbeats 2000000 in
theorem fr_gt_f {p9 : Program} {lo9 : List Str} (w : World) (mean : ExcName → Option Value) (mg mb : Str → Option Value) (cn : Str) (cs : Scope) (a : Addr) (ccd : Value) (cl : List (Str × Addr)) (outer : List Env) (A₀ : Around) (base h₀ : Heap) (L : Addr) (m : Str → Option Value) (news : List (Addr × Obj)) (s : Shared)
   (Q E : Value → Shared → Prop) (x dx : Addr) (n d : Int) (k1a t1a k2a t2a : Tok) (y dy : Addr) (n2 d2 : Int) (k1b t1b k2b t2b : Tok)
   (B : Below A₀ base outer h₀) (F : Fr h₀ L s.heap m) (X : (hd.heap_39 w.params).In h₀) (N : News h₀ L s.heap news)
   (T : Top p9 lo9 mean mg mb h₀)
   (hk : cs.kind = .function) (hx : (x, instObj 244 dx) ∈ news) (hdx : (dx, dictOf [⟨PyData.keyHash w.params (Str.ofString "numerator"), .str (Str.ofString "numerator") k1a, .int n t1a⟩, ⟨PyData.keyHash w.params (Str.ofString "denominator"), .str (Str.ofString "denominator") k2a, .int d t2a⟩] 2) ∈ news)(hy : (y, instObj 244 dy) ∈ news) (hdy : (dy, dictOf [⟨PyData.keyHash w.params (Str.ofString "numerator"), .str (Str.ofString "numerator") k1b, .int n2 t1b⟩, ⟨PyData.keyHash w.params (Str.ofString "denominator"), .str (Str.ofString "denominator") k2b, .int d2 t2b⟩] 2) ∈ news)(hd0 : 0 < d) (hd1 : d < 2 ^ 60) (hbn : -2 ^ 60 < n ∧ n < 2 ^ 60) (hd20 : 0 < d2) (hd21 : d2 < 2 ^ 60) (hbn2 : -2 ^ 60 < n2 ∧ n2 < 2 ^ 60) (hba : -2 ^ 60 < n * d2 ∧ n * d2 < 2 ^ 60)(hbb : -2 ^ 60 < n2 * d ∧ n2 * d < 2 ^ 60)(hret : ∀ bv h' tk', bv = decide (n2 * d < n * d2) → Fr h₀ L h' m → News h₀ L h' news → Q (.bool bv) { s with heap := h', toks := tk' }) :
   wpAny (model PySem.Challenge.rw_bb0001_01.row.prog w) { handled := none, depth := 480, frames := some (envX cn cs L a ccd cl :: outer), guards := none, units := 90 } (call (.ref 234) [.ref x, .ref y]) Q E s := by
  revert X
  k_fill
  intro X
  refine wpAny_call ?_
  k_dflt (refine' code_def ?k1 ?k2 ?k3 ?k4 ?k5 ?kA ?kF ?kK ?k6 ?k7 ?k8 ?k9 ?kB ?_ ?c2 ?c3 ?c4 ?c5; (case kA => exact rfl); (case kF => exact rfl); (case kK => assumption); (case k1 => k_asm); (case k2 => k_asm); (case k3 => k_asm); (case k4 => k_asm); (case k5 => k_asm); (case k6 => k_is); (case k7 => k_is); (case k8 => k_room); (case k9 => first | exact BindsTo.of_eq rfl | exact binds_K (by k_in) rfl (by k_is) rfl rfl rfl | fail "k_enter: no rule for these arguments"); (case c5 => decide); (case kB => exact locs rfl); (case c2 => exact rfl); (case c3 => exact rfl); (case c4 => exact rfl); k_whole; intro g' L' h' FG' F' N' B' X' T'; (try dsimp only); (try k_lift B'); (try k_fold))
  k_steps
  refine hret _ _ _ ?_ (by assumption) (cb_drop (by assumption) (fun p hp => by repeat (first | exact hp | apply List.Mem.tail)))
  rw [Bool.eq_iff_iff]
  simp
  try omega
set_option maxRecDepth 100000 in
set_option maxHeartbeats 2000000 in
theorem fr_eq_i {p9 : Program} {lo9 : List Str} (w : World) (mean : ExcName → Option Value) (mg mb : Str → Option Value) (cn : Str) (cs : Scope) (a : Addr) (ccd : Value) (cl : List (Str × Addr)) (outer : List Env) (A₀ : Around) (base h₀ : Heap) (L : Addr) (m : Str → Option Value) (news : List (Addr × Obj)) (s : Shared)
   (Q E : Value → Shared → Prop) (x dx : Addr) (n d : Int) (k1a t1a k2a t2a : Tok) (c : Int) (tc : Tok)
   (B : Below A₀ base outer h₀) (F : Fr h₀ L s.heap m) (X : (hd.heap_39 w.params).In h₀) (N : News h₀ L s.heap news)
   (T : Top p9 lo9 mean mg mb h₀)
   (hk : cs.kind = .function) (hx : (x, instObj 244 dx) ∈ news) (hdx : (dx, dictOf [⟨PyData.keyHash w.params (Str.ofString "numerator"), .str (Str.ofString "numerator") k1a, .int n t1a⟩, ⟨PyData.keyHash w.params (Str.ofString "denominator"), .str (Str.ofString "denominator") k2a, .int d t2a⟩] 2) ∈ news)(hd0 : 0 < d) (hd1 : d < 2 ^ 60) (hbn : -2 ^ 60 < n ∧ n < 2 ^ 60) (hbc : -2 ^ 60 < c ∧ c < 2 ^ 60)(hret : ∀ bv h' tk', bv = decide (n = c ∧ d = 1) → Fr h₀ L h' m → News h₀ L h' news → Q (.bool bv) { s with heap := h', toks := tk' }) :
   wpAny (model PySem.Challenge.rw_bb0001_01.row.prog w) { handled := none, depth := 480, frames := some (envX cn cs L a ccd cl :: outer), guards := none, units := 90 } (call (.ref 213) [.ref x, .int c tc]) Q E s := by
  revert X
  k_fill
  intro X
  refine wpAny_call ?_
  k_dflt (refine' code_def ?k1 ?k2 ?k3 ?k4 ?k5 ?kA ?kF ?kK ?k6 ?k7 ?k8 ?k9 ?kB ?_ ?c2 ?c3 ?c4 ?c5; (case kA => exact rfl); (case kF => exact rfl); (case kK => assumption); (case k1 => k_asm); (case k2 => k_asm); (case k3 => k_asm); (case k4 => k_asm); (case k5 => k_asm); (case k6 => k_is); (case k7 => k_is); (case k8 => k_room); (case k9 => first | exact BindsTo.of_eq rfl | exact binds_K (by k_in) rfl (by k_is) rfl rfl rfl | fail "k_enter: no rule for these arguments"); (case c5 => decide); (case kB => exact locs rfl); (case c2 => exact rfl); (case c3 => exact rfl); (case c4 => exact rfl); k_whole; intro g' L' h' FG' F' N' B' X' T'; (try dsimp only); (try k_lift B'); (try k_fold))
  k_steps
  refine hret _ _ _ ?_ (by assumption) (cb_drop (by assumption) (fun p hp => by repeat (first | exact hp | apply List.Mem.tail)))
  rw [Bool.eq_iff_iff]
  simp
  try omega
set_option maxRecDepth 100000 in
set_option maxHeartbeats 2000000 in
theorem fr_eq_f {p9 : Program} {lo9 : List Str} (w : World) (mean : ExcName → Option Value) (mg mb : Str → Option Value) (cn : Str) (cs : Scope) (a : Addr) (ccd : Value) (cl : List (Str × Addr)) (outer : List Env) (A₀ : Around) (base h₀ : Heap) (L : Addr) (m : Str → Option Value) (news : List (Addr × Obj)) (s : Shared)
   (Q E : Value → Shared → Prop) (x dx : Addr) (n d : Int) (k1a t1a k2a t2a : Tok) (y dy : Addr) (n2 d2 : Int) (k1b t1b k2b t2b : Tok)
   (B : Below A₀ base outer h₀) (F : Fr h₀ L s.heap m) (X : (hd.heap_39 w.params).In h₀) (N : News h₀ L s.heap news)
   (T : Top p9 lo9 mean mg mb h₀)
   (hk : cs.kind = .function) (hx : (x, instObj 244 dx) ∈ news) (hdx : (dx, dictOf [⟨PyData.keyHash w.params (Str.ofString "numerator"), .str (Str.ofString "numerator") k1a, .int n t1a⟩, ⟨PyData.keyHash w.params (Str.ofString "denominator"), .str (Str.ofString "denominator") k2a, .int d t2a⟩] 2) ∈ news)(hy : (y, instObj 244 dy) ∈ news) (hdy : (dy, dictOf [⟨PyData.keyHash w.params (Str.ofString "numerator"), .str (Str.ofString "numerator") k1b, .int n2 t1b⟩, ⟨PyData.keyHash w.params (Str.ofString "denominator"), .str (Str.ofString "denominator") k2b, .int d2 t2b⟩] 2) ∈ news)(hd0 : 0 < d) (hd1 : d < 2 ^ 60) (hbn : -2 ^ 60 < n ∧ n < 2 ^ 60) (hd20 : 0 < d2) (hd21 : d2 < 2 ^ 60) (hbn2 : -2 ^ 60 < n2 ∧ n2 < 2 ^ 60) (hret : ∀ bv h' tk', bv = decide (n = n2 ∧ d = d2) → Fr h₀ L h' m → News h₀ L h' news → Q (.bool bv) { s with heap := h', toks := tk' }) :
   wpAny (model PySem.Challenge.rw_bb0001_01.row.prog w) { handled := none, depth := 480, frames := some (envX cn cs L a ccd cl :: outer), guards := none, units := 90 } (call (.ref 213) [.ref x, .ref y]) Q E s := by
  revert X
  k_fill
  intro X
  refine wpAny_call ?_
  k_dflt (refine' code_def ?k1 ?k2 ?k3 ?k4 ?k5 ?kA ?kF ?kK ?k6 ?k7 ?k8 ?k9 ?kB ?_ ?c2 ?c3 ?c4 ?c5; (case kA => exact rfl); (case kF => exact rfl); (case kK => assumption); (case k1 => k_asm); (case k2 => k_asm); (case k3 => k_asm); (case k4 => k_asm); (case k5 => k_asm); (case k6 => k_is); (case k7 => k_is); (case k8 => k_room); (case k9 => first | exact BindsTo.of_eq rfl | exact binds_K (by k_in) rfl (by k_is) rfl rfl rfl | fail "k_enter: no rule for these arguments"); (case c5 => decide); (case kB => exact locs rfl); (case c2 => exact rfl); (case c3 => exact rfl); (case c4 => exact rfl); k_whole; intro g' L' h' FG' F' N' B' X' T'; (try dsimp only); (try k_lift B'); (try k_fold))
  k_steps
  refine hret _ _ _ ?_ (by assumption) (cb_drop (by assumption) (fun p hp => by repeat (first | exact hp | apply List.Mem.tail)))
  rw [Bool.eq_iff_iff]
  simp
  try omega
end Mine
end

/- Op -/
section
open PySem PySem.W PyProof.Rows
set_option linter.unusedVariables false
namespace Mine
section
variable {w : World} {A : Around} {x dx : Addr} {n : Int} {t : Tok} {s : Shared} {Q E : Value → Shared → Prop}
set_option hygiene false in
local macro_rules | `(tactic| x_close) => `(tactic| exact hq)
set_option maxRecDepth 100000 in
set_option maxHeartbeats 2000000 in
theorem int_mul_ref (X : (hd.heap_39 w.params).In s.heap) (hx : s.heap.get? x = some { cls := .ref 244, dict := some dx, data := .plain }) (hq : Q .notImplemented s) :
    wpAny (model PySem.Challenge.rw_bb0001_01.row.prog w) A (call (.builtin "int.__mul__") [.int n t, .ref x]) Q E s := by
  revert X; k_fill; intro X; x_run
set_option maxRecDepth 100000 in
set_option maxHeartbeats 2000000 in
theorem int_add_ref (X : (hd.heap_39 w.params).In s.heap) (hx : s.heap.get? x = some { cls := .ref 244, dict := some dx, data := .plain }) (hq : Q .notImplemented s) :
    wpAny (model PySem.Challenge.rw_bb0001_01.row.prog w) A (call (.builtin "int.__add__") [.int n t, .ref x]) Q E s := by
  revert X; k_fill; intro X; x_run
set_option maxRecDepth 100000 in
set_option maxHeartbeats 2000000 in
theorem int_gt_ref (X : (hd.heap_39 w.params).In s.heap) (hx : s.heap.get? x = some { cls := .ref 244, dict := some dx, data := .plain }) (hq : Q .notImplemented s) :
    wpAny (model PySem.Challenge.rw_bb0001_01.row.prog w) A (call (.builtin "int.__gt__") [.int n t, .ref x]) Q E s := by
  revert X; k_fill; intro X; x_run
set_option maxRecDepth 100000 in
set_option maxHeartbeats 2000000 in
theorem int_eq_ref (X : (hd.heap_39 w.params).In s.heap) (hx : s.heap.get? x = some { cls := .ref 244, dict := some dx, data := .plain }) (hq : Q .notImplemented s) :
    wpAny (model PySem.Challenge.rw_bb0001_01.row.prog w) A (call (.builtin "int.__eq__") [.int n t, .ref x]) Q E s := by
  revert X; k_fill; intro X; x_run
end
section
variable {w : World} {A : Around} {x dx : Addr} {n : Int} {t : Tok} {s : Shared} {Q : Value → Shared → Prop} {E : Value → Shared → Prop}
theorem inst244 (hx : s.heap.get? x = some { cls := .ref 244, dict := some dx, data := .plain }) : Looks (model PySem.Challenge.rw_bb0001_01.row.prog w) s.heap (typeOf (.ref x)) (.ref 244) := (Looks.ld hx).andThen .now
/-- a binary operation, int at the left, a Fraction at the right: the reflected method's call -/
theorem mul_if {od : Option Obj} (X : (hd.heap_39 w.params).In s.heap) (hx : s.heap.get? x = some { cls := .ref 244, dict := some dx, data := .plain }) (I : InstAt s.heap x { cls := .ref 244, dict := some dx, data := .plain } 244 od)
    (h : wpAny (model PySem.Challenge.rw_bb0001_01.row.prog w) A (call (.ref 192) [.ref x, .int n t]) (PySem.W.CmpBack Q) E s) :
    wpAny (model PySem.Challenge.rw_bb0001_01.row.prog w) A (binaryOp .Mult (.int n t) (.ref x)) Q E s := by
  revert X; k_fill; intro X
  have L1 : Looks (model PySem.Challenge.rw_bb0001_01.row.prog w) s.heap (typeOf (.int n t)) (.type "int") := Looks.of_pure rfl
  have L2 := inst244 (w := w) hx
  obtain ⟨cd, rest, hcd, hm⟩ := ksp_first (K := hd.heap_39 w.params) (C := 244) (by k_is)
  have L3 : Looks (model PySem.Challenge.rw_bb0001_01.row.prog w) s.heap (fillsNumberSlot (.ref 244) "mul") true := fills_K X hcd hm (f := 185) (by k_is)
  have L4 := ksp_fillsT (M := model PySem.Challenge.rw_bb0001_01.row.prog w) (nm := "mul") (T := "int") X (fo := some (.builtin "int.__mul__")) (ro := some (.builtin "int.__rmul__")) (by k_is) (by k_is)
  have L5 : Looks (model PySem.Challenge.rw_bb0001_01.row.prog w) s.heap (isSubtype (.ref 244) (.type "int")) false := looks_subIn X (by k_is)
  have L6 : Looks (model PySem.Challenge.rw_bb0001_01.row.prog w) s.heap (numberSlotInPython (.type "int") "mul") false := Looks.of_pure rfl
  have L7 : Looks (model PySem.Challenge.rw_bb0001_01.row.prog w) s.heap (typeLookup (.type "int") (PySem.dunder "mul")) (some (.builtin "int.__mul__")) := looks_findIn X (by k_is)
  have L8 : Looks (model PySem.Challenge.rw_bb0001_01.row.prog w) s.heap (bindSpecial (.builtin "int.__mul__") (.int n t)) (.builtin "int.__mul__", [.int n t]) := Looks.of_pure (PySem.F.slot_int_mul.bind _)
  have one := ksp_try (name := dunderR "mul") X I (by k_is) (by k_is) h
  have e4 : ((some (Value.builtin "int.__mul__")).isSome && !isSeqSlot (some (Value.builtin "int.__mul__")) || (some (Value.builtin "int.__rmul__")).isSome && !isSeqSlot (some (Value.builtin "int.__rmul__"))) = true := by decide +kernel
  rw [e4] at L4
  have hi : Operator.info .Mult = ("*", "mul") := rfl
  have hne : (Value.type "int" == Value.ref 244) = false := by decide
  obtain ⟨hh, g, d, tt, os⟩ := s
  have left : ∀ {Q' : Option Value → Shared → Prop}, Q' none ⟨hh, g, d, tt, os⟩ → wpAny (model PySem.Challenge.rw_bb0001_01.row.prog w) A (tryMethod (.int n t) (PySem.dunder "mul") (.ref x)) Q' E ⟨hh, g, d, tt, os⟩ := fun {Q'} hq' => by
    unfold tryMethod callSpecial? specialOf
    refine wpAny_bind (wpAny_bind (wpAny_bind (L1.at (L7.at (wpAny_holding (wpAny_bind (L8.at (wpAny_bind (int_mul_ref X hx ?_)))))))))
    exact wpAny_pure (wpAny_pure hq')
  simp only [binaryOp, hi]
  refine wpAny_holding (wpAny_bind ?_)
  unfold binaryOp1
  refine wpAny_bind (L1.at (wpAny_bind (L2.at (wpAny_bind (L4.at ?_)))))
  simp only [hne, Bool.false_eq_true, if_false]
  ksp_lk
  refine left ?_
  ksp_lk
  refine wpAny_mono one (fun r s' hr' => ?_) fun _ _ e => e
  obtain ⟨v, rfl, hq⟩ := hr'
  ksp_lk
  exact hq

set_option maxHeartbeats 1000000 in
theorem iadd_if {od : Option Obj} (X : (hd.heap_39 w.params).In s.heap) (hx : s.heap.get? x = some { cls := .ref 244, dict := some dx, data := .plain }) (I : InstAt s.heap x { cls := .ref 244, dict := some dx, data := .plain } 244 od)
    (h : wpAny (model PySem.Challenge.rw_bb0001_01.row.prog w) A (call (.ref 164) [.ref x, .int n t]) (PySem.W.CmpBack Q) E s) :
    wpAny (model PySem.Challenge.rw_bb0001_01.row.prog w) A (inplaceOp .Add (.int n t) (.ref x)) Q E s := by
  revert X; k_fill; intro X
  have L1 : Looks (model PySem.Challenge.rw_bb0001_01.row.prog w) s.heap (typeOf (.int n t)) (.type "int") := Looks.of_pure rfl
  have L2 := inst244 (w := w) hx
  obtain ⟨cd, rest, hcd, hm⟩ := ksp_first (K := hd.heap_39 w.params) (C := 244) (by k_is)
  have L3 : Looks (model PySem.Challenge.rw_bb0001_01.row.prog w) s.heap (fillsNumberSlot (.ref 244) "add") true := fills_K X hcd hm (f := 157) (by k_is)
  have L4 := ksp_fillsT (M := model PySem.Challenge.rw_bb0001_01.row.prog w) (nm := "add") (T := "int") X (fo := some (.builtin "int.__add__")) (ro := some (.builtin "int.__radd__")) (by k_is) (by k_is)
  have L5 : Looks (model PySem.Challenge.rw_bb0001_01.row.prog w) s.heap (isSubtype (.ref 244) (.type "int")) false := looks_subIn X (by k_is)
  have L6 : Looks (model PySem.Challenge.rw_bb0001_01.row.prog w) s.heap (numberSlotInPython (.type "int") "add") false := Looks.of_pure rfl
  have L7 : Looks (model PySem.Challenge.rw_bb0001_01.row.prog w) s.heap (typeLookup (.type "int") (PySem.dunder "add")) (some (.builtin "int.__add__")) := looks_findIn X (by k_is)
  have L8 : Looks (model PySem.Challenge.rw_bb0001_01.row.prog w) s.heap (bindSpecial (.builtin "int.__add__") (.int n t)) (.builtin "int.__add__", [.int n t]) := Looks.of_pure (PySem.F.slot_int_add.bind _)
  have one := ksp_try (name := dunderR "add") X I (by k_is) (by k_is) h
  have e4 : ((some (Value.builtin "int.__add__")).isSome && !isSeqSlot (some (Value.builtin "int.__add__")) || (some (Value.builtin "int.__radd__")).isSome && !isSeqSlot (some (Value.builtin "int.__radd__"))) = true := by decide +kernel
  rw [e4] at L4
  have hi : Operator.info .Add = ("+", "add") := rfl
  have hne : (Value.type "int" == Value.ref 244) = false := by decide
  have L9 : Looks (model PySem.Challenge.rw_bb0001_01.row.prog w) s.heap (typeLookup (.type "int") (dunderI "add")) none := looks_findIn X (by k_is)
  obtain ⟨hh, g, d, tt, os⟩ := s
  have left : ∀ {Q' : Option Value → Shared → Prop}, Q' none ⟨hh, g, d, tt, os⟩ → wpAny (model PySem.Challenge.rw_bb0001_01.row.prog w) A (tryMethod (.int n t) (PySem.dunder "add") (.ref x)) Q' E ⟨hh, g, d, tt, os⟩ := fun {Q'} hq' => by
    unfold tryMethod callSpecial? specialOf
    refine wpAny_bind (wpAny_bind (wpAny_bind (L1.at (L7.at (wpAny_holding (wpAny_bind (L8.at (wpAny_bind (int_add_ref X hx ?_)))))))))
    exact wpAny_pure (wpAny_pure hq')
  unfold inplaceOp
  refine wpAny_holding (wpAny_bind (L1.at (wpAny_bind ?_)))
  show wpAny _ _ (fillsInplaceSlot (.type "int") "add" true) _ _ _
  unfold fillsInplaceSlot
  refine wpAny_bind (L9.at (wpAny_pure ?_))
  simp only [Option.isSome_none, Bool.false_and, Bool.false_eq_true, if_false]
  refine wpAny_bind ?_
  show wpAny _ _ (binaryOp1 "add" (.int n t) (.ref x)) _ _ _
  unfold binaryOp1
  refine wpAny_bind (L1.at (wpAny_bind (L2.at (wpAny_bind (L4.at ?_)))))
  simp only [hne, Bool.false_eq_true, if_false]
  ksp_lk
  refine left ?_
  ksp_lk
  refine wpAny_mono one (fun r s' hr' => ?_) fun _ _ e => e
  obtain ⟨v, rfl, hq⟩ := hr'
  ksp_lk
  exact hq

set_option maxHeartbeats 1000000 in
theorem iadd_ff {y : Addr} {od : Option Obj} (X : (hd.heap_39 w.params).In s.heap) (hx : s.heap.get? x = some { cls := .ref 244, dict := some dx, data := .plain }) (I : InstAt s.heap x { cls := .ref 244, dict := some dx, data := .plain } 244 od) (hy : Looks (model PySem.Challenge.rw_bb0001_01.row.prog w) s.heap (typeOf (.ref y)) (.ref 244))
    (h : wpAny (model PySem.Challenge.rw_bb0001_01.row.prog w) A (call (.ref 157) [.ref x, .ref y]) (PySem.W.CmpBack Q) E s) :
    wpAny (model PySem.Challenge.rw_bb0001_01.row.prog w) A (inplaceOp .Add (.ref x) (.ref y)) Q E s := by
  revert X; k_fill; intro X
  have L2 := inst244 (w := w) hx
  obtain ⟨cd, rest, hcd, hm⟩ := ksp_first (K := hd.heap_39 w.params) (C := 244) (by k_is)
  have L3 : Looks (model PySem.Challenge.rw_bb0001_01.row.prog w) s.heap (fillsNumberSlot (.ref 244) "add") true := fills_K X hcd hm (f := 157) (by k_is)
  have one := ksp_try (name := PySem.dunder "add") X I (by k_is) (by k_is) h
  have hi : Operator.info .Add = ("+", "add") := rfl
  have L9 : Looks (model PySem.Challenge.rw_bb0001_01.row.prog w) s.heap (fillsInplaceSlot (.ref 244) "add" true) false := by
    intro A Q E s' k q
    have X' := X.keeps k
    obtain ⟨hh, g, d, tt, os⟩ := s'
    have Lm : Looks (model PySem.Challenge.rw_bb0001_01.row.prog w) hh (mroOf (.ref 244)) [.ref 244, .type "object"] := (looks_clsIn X' (by k_is)).andThen .now
    have La : Looks (model PySem.Challenge.rw_bb0001_01.row.prog w) hh (typeLookup (.ref 244) (dunderI "add")) none := looks_findIn X' (by k_is)
    have Lb : Looks (model PySem.Challenge.rw_bb0001_01.row.prog w) hh (typeLookup (.type "object") (dunderI "add")) none := looks_findIn X' (by k_is)
    unfold fillsInplaceSlot
    ksp_lk
    exact q
  obtain ⟨hh, g, d, tt, os⟩ := s
  unfold inplaceOp
  refine wpAny_holding (wpAny_bind (L2.at (wpAny_bind ?_)))
  show wpAny _ _ (fillsInplaceSlot (.ref 244) "add" true) _ _ _
  refine L9.at ?_
  simp only [Bool.false_eq_true, if_false]
  refine wpAny_bind ?_
  show wpAny _ _ (binaryOp1 "add" (.ref x) (.ref y)) _ _ _
  unfold binaryOp1
  refine wpAny_bind (L2.at (wpAny_bind (hy.at (wpAny_bind (L3.at ?_)))))
  simp only [beq_self_eq_true, if_true]
  ksp_lk
  refine wpAny_mono one (fun r s' hr' => ?_) fun _ _ e => e
  obtain ⟨v, rfl, hq⟩ := hr'
  ksp_lk
  exact hq
end
end Mine
end

/- Op3 -/
section
open PySem PySem.W PyProof.Rows
set_option linter.unusedVariables false
namespace Mine
section
variable {w : World} {A : Around} {x dx : Addr} {n : Int} {t : Tok} {s : Shared} {Q : Value → Shared → Prop} {E : Value → Shared → Prop}

set_option maxHeartbeats 1000000 in
theorem gt_if {od : Option Obj} (X : (hd.heap_39 w.params).In s.heap) (hx : s.heap.get? x = some { cls := .ref 244, dict := some dx, data := .plain }) (I : InstAt s.heap x { cls := .ref 244, dict := some dx, data := .plain } 244 od) (hu : A.units < cLine)
    (h : wpAny (model PySem.Challenge.rw_bb0001_01.row.prog w) A (call (.ref 220) [.ref x, .int n t]) (PySem.W.CmpBack Q) E s) :
    wpAny (model PySem.Challenge.rw_bb0001_01.row.prog w) A (richCompare .Gt (.int n t) (.ref x)) Q E s := by
  revert X; k_fill; intro X
  have L1 : Looks (model PySem.Challenge.rw_bb0001_01.row.prog w) s.heap (typeOf (.int n t)) (.type "int") := Looks.of_pure rfl
  have L2 := inst244 (w := w) hx
  have L5 : Looks (model PySem.Challenge.rw_bb0001_01.row.prog w) s.heap (isSubtype (.ref 244) (.type "int")) false := looks_subIn X (by k_is)
  have L7 : Looks (model PySem.Challenge.rw_bb0001_01.row.prog w) s.heap (typeLookup (.type "int") (cmpInfo .Gt).2.1) (some (.builtin "int.__gt__")) := looks_findIn X (by k_is)
  have L8 : Looks (model PySem.Challenge.rw_bb0001_01.row.prog w) s.heap (bindSpecial (.builtin "int.__gt__") (.int n t)) (.builtin "int.__gt__", [.int n t]) := Looks.of_pure (PySem.F.slot_int_gt.bind _)
  have one : wpAny (model PySem.Challenge.rw_bb0001_01.row.prog w) A (tryCompare (.ref x) (cmpInfo .Gt).2.2 (.int n t)) (fun r s' => ∃ v, r = some v ∧ Q v s') E s := by
    unfold tryCompare
    refine wpAny_bind (ifBound_K X I (f := 220) (by k_is) (by k_is) (wpAny_mono h (fun v s' hv => ?_) fun _ _ e => e))
    cases v <;> first | exact hv.elim | exact wpAny_pure ⟨_, rfl, hv⟩
  have hne : (Value.type "int" != Value.ref 244) = true := by decide
  obtain ⟨hh, g, d, tt, os⟩ := s
  have left : ∀ {Q' : Option Value → Shared → Prop}, Q' none ⟨hh, g, d, tt, os⟩ → wpAny (model PySem.Challenge.rw_bb0001_01.row.prog w) A (tryCompare (.int n t) (cmpInfo .Gt).2.1 (.ref x)) Q' E ⟨hh, g, d, tt, os⟩ := fun {Q'} hq' => by
    unfold tryCompare callSpecialIfBound? bindSpecialIfBound? specialOf
    have tail : ∀ {Q₂ : Option (Value × List Value) → Shared → Prop}, Q₂ (some (.builtin "int.__gt__", [.int n t])) ⟨hh, g, d, tt, os⟩ → wpAny (model PySem.Challenge.rw_bb0001_01.row.prog w) A (do
        let bind : Sem (Option (Value × List Value)) := do return some (← bindSpecial (.builtin "int.__gt__") (.int n t))
        if (← ask).params.followText "special-get-raises" then bind
        else bind.tryCatch fun _ => do rule "special.get-raises-dropped"; pure none) Q₂ E ⟨hh, g, d, tt, os⟩ := fun {Q₂} h₂ => by
      refine wpAny_bind (wpAny_askSetting ?_)
      have hb : ∀ {E' : Value → Shared → Prop}, wpAny (model PySem.Challenge.rw_bb0001_01.row.prog w) A (do return some (← bindSpecial (.builtin "int.__gt__") (.int n t)) : Sem (Option (Value × List Value))) Q₂ E' ⟨hh, g, d, tt, os⟩ := wpAny_bind (L8.at (wpAny_pure h₂))
      split
      · exact hb
      · exact wpAny_tryCatch hb
    refine wpAny_bind (wpAny_holding (wpAny_bind (wpAny_bind (wpAny_bind (L1.at (L7.at ?_))))))
    refine tail ?_
    refine wpAny_bind (int_gt_ref X hx ?_)
    exact wpAny_pure (wpAny_pure hq')
  unfold richCompare
  refine wpAny_holding (wpAny_bind (wpAny_cRoomFor hu ?_))
  refine wpAny_bind (L1.at (wpAny_bind (L2.at ?_)))
  simp only [hne, if_true]
  refine wpAny_bind (L5.at ?_)
  simp only [Bool.false_eq_true, if_false]
  refine wpAny_bind (left ?_)
  simp only [Bool.not_false, if_true]
  refine wpAny_bind (wpAny_mono one (fun r s' z => ?_) fun _ _ e => e)
  obtain ⟨v, rfl, hq⟩ := z
  exact wpAny_pure hq

set_option maxHeartbeats 1000000 in
theorem eq_if {od : Option Obj} (X : (hd.heap_39 w.params).In s.heap) (hx : s.heap.get? x = some { cls := .ref 244, dict := some dx, data := .plain }) (I : InstAt s.heap x { cls := .ref 244, dict := some dx, data := .plain } 244 od) (hu : A.units < cLine)
    (h : wpAny (model PySem.Challenge.rw_bb0001_01.row.prog w) A (call (.ref 213) [.ref x, .int n t]) (PySem.W.CmpBack Q) E s) :
    wpAny (model PySem.Challenge.rw_bb0001_01.row.prog w) A (richCompare .Eq (.int n t) (.ref x)) Q E s := by
  revert X; k_fill; intro X
  have L1 : Looks (model PySem.Challenge.rw_bb0001_01.row.prog w) s.heap (typeOf (.int n t)) (.type "int") := Looks.of_pure rfl
  have L2 := inst244 (w := w) hx
  have L5 : Looks (model PySem.Challenge.rw_bb0001_01.row.prog w) s.heap (isSubtype (.ref 244) (.type "int")) false := looks_subIn X (by k_is)
  have L7 : Looks (model PySem.Challenge.rw_bb0001_01.row.prog w) s.heap (typeLookup (.type "int") (cmpInfo .Eq).2.1) (some (.builtin "int.__eq__")) := looks_findIn X (by k_is)
  have L8 : Looks (model PySem.Challenge.rw_bb0001_01.row.prog w) s.heap (bindSpecial (.builtin "int.__eq__") (.int n t)) (.builtin "int.__eq__", [.int n t]) := Looks.of_pure (PySem.F.slot_int_eq.bind _)
  have one : wpAny (model PySem.Challenge.rw_bb0001_01.row.prog w) A (tryCompare (.ref x) (cmpInfo .Eq).2.2 (.int n t)) (fun r s' => ∃ v, r = some v ∧ Q v s') E s := by
    unfold tryCompare
    refine wpAny_bind (ifBound_K X I (f := 213) (by k_is) (by k_is) (wpAny_mono h (fun v s' hv => ?_) fun _ _ e => e))
    cases v <;> first | exact hv.elim | exact wpAny_pure ⟨_, rfl, hv⟩
  have hne : (Value.type "int" != Value.ref 244) = true := by decide
  obtain ⟨hh, g, d, tt, os⟩ := s
  have left : ∀ {Q' : Option Value → Shared → Prop}, Q' none ⟨hh, g, d, tt, os⟩ → wpAny (model PySem.Challenge.rw_bb0001_01.row.prog w) A (tryCompare (.int n t) (cmpInfo .Eq).2.1 (.ref x)) Q' E ⟨hh, g, d, tt, os⟩ := fun {Q'} hq' => by
    unfold tryCompare callSpecialIfBound? bindSpecialIfBound? specialOf
    have tail : ∀ {Q₂ : Option (Value × List Value) → Shared → Prop}, Q₂ (some (.builtin "int.__eq__", [.int n t])) ⟨hh, g, d, tt, os⟩ → wpAny (model PySem.Challenge.rw_bb0001_01.row.prog w) A (do
        let bind : Sem (Option (Value × List Value)) := do return some (← bindSpecial (.builtin "int.__eq__") (.int n t))
        if (← ask).params.followText "special-get-raises" then bind
        else bind.tryCatch fun _ => do rule "special.get-raises-dropped"; pure none) Q₂ E ⟨hh, g, d, tt, os⟩ := fun {Q₂} h₂ => by
      refine wpAny_bind (wpAny_askSetting ?_)
      have hb : ∀ {E' : Value → Shared → Prop}, wpAny (model PySem.Challenge.rw_bb0001_01.row.prog w) A (do return some (← bindSpecial (.builtin "int.__eq__") (.int n t)) : Sem (Option (Value × List Value))) Q₂ E' ⟨hh, g, d, tt, os⟩ := wpAny_bind (L8.at (wpAny_pure h₂))
      split
      · exact hb
      · exact wpAny_tryCatch hb
    refine wpAny_bind (wpAny_holding (wpAny_bind (wpAny_bind (wpAny_bind (L1.at (L7.at ?_))))))
    refine tail ?_
    refine wpAny_bind (int_eq_ref X hx ?_)
    exact wpAny_pure (wpAny_pure hq')
  unfold richCompare
  refine wpAny_holding (wpAny_bind (wpAny_cRoomFor hu ?_))
  refine wpAny_bind (L1.at (wpAny_bind (L2.at ?_)))
  simp only [hne, if_true]
  refine wpAny_bind (L5.at ?_)
  simp only [Bool.false_eq_true, if_false]
  refine wpAny_bind (left ?_)
  simp only [Bool.not_false, if_true]
  refine wpAny_bind (wpAny_mono one (fun r s' z => ?_) fun _ _ e => e)
  obtain ⟨v, rfl, hq⟩ := z
  exact wpAny_pure hq

end
end Mine
end

/- Rep -/
section
open PySem PySem.W PyProof.Rows PySem.Calls PySem.Spec
set_option linter.unusedVariables false
namespace Mine
/-- the value v is the number n / d, told by parts -/
def PartsAt (w : World) (led : List (Addr × Obj)) (v : Value) (n d : Int) : Prop := (∃ t, v = .int n t ∧ d = 1) ∨ ∃ x, v = .ref x ∧ FrAt w led x n d
theorem PartsAt.mono {w : World} {led led' : List (Addr × Obj)} {v : Value} {n d : Int} (h : PartsAt w led v n d) (k : ∀ p ∈ led, p ∈ led') : PartsAt w led' v n d :=
  h.elim .inl fun ⟨x, e, f⟩ => .inr ⟨x, e, f.mono k⟩
/-- v is z / D, its parts bounded after j voters -/
def RepAt (w : World) (led : List (Addr × Obj)) (D : Int) (j : Nat) (v : Value) (z : Int) : Prop := ∃ n d, PartsAt w led v n d ∧ 0 < d ∧ d ≤ 9 ^ j ∧ n * D = z * d ∧ 0 ≤ n ∧ n ≤ 1001 * j * d
theorem RepAt.mono {w : World} {led led' : List (Addr × Obj)} {D : Int} {j : Nat} {v : Value} {z : Int} (h : RepAt w led D j v z) (k : ∀ p ∈ led, p ∈ led') : RepAt w led' D j v z :=
  let ⟨n, d, h1, h2⟩ := h; ⟨n, d, h1.mono k, h2⟩
theorem RepAt.up {w : World} {led : List (Addr × Obj)} {D : Int} {j : Nat} {v : Value} {z : Int} (h : RepAt w led D j v z) : RepAt w led D (j + 1) v z := by
  obtain ⟨n, d, h1, h2, h3, h4, h5, h6⟩ := h
  refine ⟨n, d, h1, h2, Int.le_trans h3 ?_, h4, h5, Int.le_trans h6 ?_⟩
  · rw [Int.pow_succ]
    have : (0 : Int) ≤ 9 ^ j := Int.le_of_lt (Int.pow_pos (by decide))
    omega
  · refine Int.mul_le_mul_of_nonneg_right ?_ (Int.le_of_lt h2)
    omega
theorem inst_fr {h₀ h : Heap} {L x dx : Addr} {news : List (Addr × Obj)} {od : Obj} (N : News h₀ L h news) (h1 : (x, instObj 244 dx) ∈ news) (h2 : (dx, od) ∈ news) :
    InstAt h x { cls := .ref 244, dict := some dx, data := .plain } 244 (some od) := ⟨(N _ h1).1, rfl, rfl, (N _ h2).1⟩
theorem frac_scale {n n' d d' D g : Int} (hd : 0 < d) (h1 : n' * d = n * d') (h2 : n * D = g * d) : n' * D = g * d' := by
  have : d * (n' * D) = d * (g * d') := by
    rw [← Int.mul_assoc, Int.mul_comm d n', h1, Int.mul_right_comm, h2, Int.mul_assoc, Int.mul_left_comm]
  exact Int.eq_of_mul_eq_mul_left (by omega) this
theorem frac_le {n n' d d' c : Int} (hd : 0 < d) (hd' : 0 ≤ d') (h1 : n' * d = n * d') (h2 : n ≤ c * d) : n' ≤ c * d' := by
  have q1 : n * d' ≤ c * d * d' := Int.mul_le_mul_of_nonneg_right h2 hd'
  have q2 : n' * d ≤ c * d' * d := by rw [h1, Int.mul_right_comm c d' d]; exact q1
  exact Int.le_of_mul_le_mul_right q2 hd
/-- weight * Fraction -/
theorem rep_mul {p9 : Program} {lo9 : List Str} (w : World) (mean : ExcName → Option Value) (mg mb : Str → Option Value) (cn : Str) (cs : Scope) (a : Addr) (ccd : Value) (cl : List (Str × Addr)) (outer : List Env) (A₀ : Around) (base h₀ : Heap) (L : Addr) (m : Str → Option Value) (news : List (Addr × Obj)) (s : Shared)
   (Q E : Value → Shared → Prop) (x : Addr) (n d c : Int) (tc : Tok)
   (B : Below A₀ base outer h₀) (F : Fr h₀ L s.heap m) (X : (hd.heap_39 w.params).In h₀) (N : News h₀ L s.heap news)
   (T : Top p9 lo9 mean mg mb h₀)
   (hk : cs.kind = .function) (hx : FrAt w news x n d) (hd0 : 0 < d) (hd9 : d ≤ 9) (hn0 : 0 ≤ n) (hn1 : n ≤ 1) (hc : 0 < c) (hc1 : c ≤ 1001)
   (hret : ∀ x' n' d' h' tk' led', 0 < d' → d' ≤ 9 → n' * d = n * c * d' → 0 ≤ n' → n' ≤ 1001 * d' → Fr h₀ L h' m → News h₀ L h' led' → (∀ p ∈ news, p ∈ led') → (∀ p ∈ led', p ∈ news ∨ ∀ q ∈ news, q.1 < p.1) → FrAt w led' x' n' d' → Q (.ref x') { s with heap := h', toks := tk' }) :
   wpAny (model PySem.Challenge.rw_bb0001_01.row.prog w) { handled := none, depth := 440, frames := some (envX cn cs L a ccd cl :: outer), guards := none, units := 70 } (binaryOp .Mult (.int c tc) (.ref x)) Q E s := by
  obtain ⟨dx, k1, t1, k2, t2, e1, e2⟩ := hx
  refine mul_if (X.keeps F.keep) (N _ e1).1 (inst_fr N e1 e2) ?_
  have hnc : 0 ≤ n * c := Int.mul_nonneg hn0 (Int.le_of_lt hc)
  have hnc1 : n * c ≤ 1001 := by
    have : n = 0 ∨ n = 1 := by omega
    rcases this with rfl | rfl <;> omega
  refine wp_weaken (A' := { handled := none, depth := 490, frames := some (envX cn cs L a ccd cl :: outer), guards := none, units := 90 }) rfl (Nat.le_of_ble_eq_true rfl) (.inr rfl) (.inl rfl) (Nat.le_of_ble_eq_true rfl) (fr_rmul w mean mg mb cn cs a ccd cl outer A₀ base h₀ L m news s _ _ x dx n d c k1 t1 k2 t2 tc B F X N T hk e1 e2 hd0 (by omega) (by omega) (by omega) (by omega) fun x' dx' n' d' k1' t1' k2' t2' h' tk' z1 z2 z3 z4 F' N' l1 l2 => ?_)
  have hn' : 0 ≤ n' := by
    rcases Int.lt_or_le n' 0 with hh | hh
    · exfalso
      have q1 : n' * d < 0 := Int.mul_neg_of_neg_of_pos hh hd0
      have q2 : 0 ≤ n * c * d' := Int.mul_nonneg hnc (Int.le_of_lt z1)
      omega
    · exact hh
  refine hret x' n' d' h' tk' _ z1 (by omega) z2 hn' ?_ F' N' (fun p hp => .tail _ (.tail _ hp)) (new2 l1 l2) ⟨_, _, _, _, _, .head _, .tail _ (.head _)⟩
  have q1 : n' * 1 ≤ n' * d := Int.mul_le_mul_of_nonneg_left (by omega) hn'
  have q2 : n * c * d' ≤ 1001 * d' := Int.mul_le_mul_of_nonneg_right hnc1 (Int.le_of_lt z1)
  omega
theorem pow9 : ∀ j : Nat, j ≤ 4 → (9 : Int) ^ j ≤ 6561 := by decide
/-- old += Fraction -/
theorem rep_add {p9 : Program} {lo9 : List Str} (w : World) (mean : ExcName → Option Value) (mg mb : Str → Option Value) (cn : Str) (cs : Scope) (a : Addr) (ccd : Value) (cl : List (Str × Addr)) (outer : List Env) (A₀ : Around) (base h₀ : Heap) (L : Addr) (m : Str → Option Value) (news : List (Addr × Obj)) (s : Shared)
   (Q E : Value → Shared → Prop) (v : Value) (j : Nat) (D z g : Int) (y : Addr) (n2 d2 : Int)
   (B : Below A₀ base outer h₀) (F : Fr h₀ L s.heap m) (X : (hd.heap_39 w.params).In h₀) (N : News h₀ L s.heap news)
   (T : Top p9 lo9 mean mg mb h₀)
   (hk : cs.kind = .function) (hv : RepAt w news D j v z) (hj : j ≤ 3) (hy : FrAt w news y n2 d2) (hd0 : 0 < d2) (hd9 : d2 ≤ 9) (hn0 : 0 ≤ n2) (hn1 : n2 ≤ 1001 * d2) (hg : n2 * D = g * d2) (hint : ∀ c t, v = .int c t → c = 0)
   (hret : ∀ x' h' tk' led', RepAt w led' D (j + 1) (.ref x') (z + g) → Fr h₀ L h' m → News h₀ L h' led' → (∀ p ∈ news, p ∈ led') → (∀ p ∈ led', p ∈ news ∨ ∀ q ∈ news, q.1 < p.1) → Q (.ref x') { s with heap := h', toks := tk' }) :
   wpAny (model PySem.Challenge.rw_bb0001_01.row.prog w) { handled := none, depth := 440, frames := some (envX cn cs L a ccd cl :: outer), guards := none, units := 70 } (inplaceOp .Add v (.ref y)) Q E s := by
  obtain ⟨n, d, hp, r1, r2, r3, r4, r5⟩ := hv
  obtain ⟨dy, k1b, t1b, k2b, t2b, f1, f2⟩ := hy
  have p9 := pow9 j (by omega)
  have hn2 : n2 ≤ 9009 := by omega
  rcases hp with ⟨t, rfl, rfl⟩ | ⟨x, rfl, dx, k1, t1, k2, t2, e1, e2⟩
  · have hn := hint n t rfl
    subst hn
    have hz : z = 0 := by omega
    subst hz
    refine iadd_if (X.keeps F.keep) (N _ f1).1 (inst_fr N f1 f2) ?_
    refine wp_weaken (A' := { handled := none, depth := 480, frames := some (envX cn cs L a ccd cl :: outer), guards := none, units := 90 }) rfl (Nat.le_of_ble_eq_true rfl) (.inr rfl) (.inl rfl) (Nat.le_of_ble_eq_true rfl) (fr_radd w mean mg mb cn cs a ccd cl outer A₀ base h₀ L m news s _ _ y dy n2 d2 k1b t1b k2b t2b t B F X N T hk f1 f2 hd0 (by omega) (by omega) fun x' dx' n' d' k1' t1' k2' t2' h' tk' z1 z2 z3 z4 F' N' l1 l2 => ?_)
    have hn' : 0 ≤ n' := by
      rcases Int.lt_or_le n' 0 with hh | hh
      · exfalso
        have q1 : n' * d2 < 0 := Int.mul_neg_of_neg_of_pos hh hd0
        have q2 : 0 ≤ n2 * d' := Int.mul_nonneg hn0 (Int.le_of_lt z1)
        omega
      · exact hh
    refine hret x' h' tk' _ ⟨n', d', .inr ⟨x', rfl, _, _, _, _, _, .head _, .tail _ (.head _)⟩, z1, ?_, ?_, hn', ?_⟩ F' N' (fun p hp => .tail _ (.tail _ hp)) (new2 l1 l2)
    · have : (9 : Int) ^ (j + 1) = 9 ^ j * 9 := Int.pow_succ 9 j
      have : (0 : Int) < 9 ^ j := Int.pow_pos (by decide)
      omega
    · exact frac_scale hd0 z2 (by rw [Int.zero_add]; exact hg)
    · have q3 := frac_le hd0 (Int.le_of_lt z1) z2 hn1
      have q4 : 1001 * d' ≤ 1001 * ((j + 1 : Nat) : Int) * d' := Int.mul_le_mul_of_nonneg_right (by omega) (Int.le_of_lt z1)
      omega
  · refine iadd_ff (X.keeps F.keep) (N _ e1).1 (inst_fr N e1 e2) (inst_fr N f1 f2).type ?_
    have b1 : d * d2 ≤ 9 ^ j * 9 := Int.mul_le_mul r2 hd9 (Int.le_of_lt hd0) (Int.le_of_lt (Int.pow_pos (by decide)))
    have b2 : 0 < d * d2 := Int.mul_pos r1 hd0
    have b3 : n * d2 ≤ 1001 * j * d * d2 := Int.mul_le_mul_of_nonneg_right r5 (Int.le_of_lt hd0)
    have b4 : n2 * d ≤ 1001 * d2 * d := Int.mul_le_mul_of_nonneg_right hn1 (Int.le_of_lt r1)
    have b5 : 0 ≤ n * d2 := Int.mul_nonneg r4 (Int.le_of_lt hd0)
    have b6 : 0 ≤ n2 * d := Int.mul_nonneg hn0 (Int.le_of_lt r1)
    have b7 : 1001 * (j : Int) * d * d2 = 1001 * (j : Int) * (d * d2) := Int.mul_assoc ..
    have b8 : 1001 * d2 * d = 1001 * (d * d2) := by rw [Int.mul_assoc, Int.mul_comm d2 d]
    have b9 : 1001 * (j : Int) * (d * d2) ≤ 1001 * 3 * (d * d2) := Int.mul_le_mul_of_nonneg_right (by omega) (Int.le_of_lt b2)
    have b10 : n ≤ 1001 * 3 * d := Int.le_trans r5 (Int.mul_le_mul_of_nonneg_right (by omega) (Int.le_of_lt r1))
    generalize hP : d * d2 = P at *
    refine wp_weaken (A' := { handled := none, depth := 480, frames := some (envX cn cs L a ccd cl :: outer), guards := none, units := 90 }) rfl (Nat.le_of_ble_eq_true rfl) (.inr rfl) (.inl rfl) (Nat.le_of_ble_eq_true rfl) (fr_add w mean mg mb cn cs a ccd cl outer A₀ base h₀ L m news s _ _ x dx n d k1 t1 k2 t2 y dy n2 d2 k1b t1b k2b t2b B F X N T hk e1 e2 f1 f2 r1 (by omega) (by omega) hd0 (by omega) (by omega) (by omega) (by omega) (by omega) (by rw [hP]; omega) fun x' dx' n' d' k1' t1' k2' t2' h' tk' z1 z2 z3 z4 F' N' l1 l2 => ?_)
    rw [hP] at z2 z3
    have hn' : 0 ≤ n' := by
      rcases Int.lt_or_le n' 0 with hh | hh
      · exfalso
        have q1 : n' * P < 0 := Int.mul_neg_of_neg_of_pos hh b2
        have q2 : 0 ≤ (n * d2 + n2 * d) * d' := Int.mul_nonneg (by omega) (Int.le_of_lt z1)
        omega
      · exact hh
    refine hret x' h' tk' _ ⟨n', d', .inr ⟨x', rfl, _, _, _, _, _, .head _, .tail _ (.head _)⟩, z1, ?_, ?_, hn', ?_⟩ F' N' (fun p hp => .tail _ (.tail _ hp)) (new2 l1 l2)
    · rw [Int.pow_succ]; omega
    · refine frac_scale (d := P) b2 z2 ?_
      rw [Int.add_mul, Int.add_mul, ← hP]
      have u1 : n * d2 * D = z * (d * d2) := by rw [Int.mul_right_comm, r3, Int.mul_assoc]
      have u2 : n2 * d * D = g * (d * d2) := by rw [Int.mul_right_comm, hg, Int.mul_assoc, Int.mul_comm d2]
      omega
    · have q3 := frac_le (c := 1001 * ((j + 1 : Nat) : Int)) b2 (Int.le_of_lt z1) z2 (by
        have : 1001 * ((j + 1 : Nat) : Int) * P = 1001 * (j : Int) * P + 1001 * P := by
          rw [← Int.add_mul]; congr 1 <;> omega
        omega)
      exact q3
theorem rep_mul_u {A : Around} {p9 : Program} {lo9 : List Str} {w : World} {mean : ExcName → Option Value} {mg mb : Str → Option Value} {cn : Str} {cs : Scope} {a : Addr} {ccd : Value} {cl : List (Str × Addr)} {outer : List Env} {A₀ : Around} {base h₀ : Heap} {L : Addr} {m : Str → Option Value} {news : List (Addr × Obj)} {s : Shared}
   {Q E : Value → Shared → Prop}
   (hh : A.handled = none) (hdp : A.depth ≤ 440) (hfr : A.frames = some (envX cn cs L a ccd cl :: outer)) (hun : A.units ≤ 70) (x : Addr) (n d c : Int) (tc : Tok)
   (B : Below A₀ base outer h₀) (F : Fr h₀ L s.heap m) (X : (hd.heap_39 w.params).In h₀) (N : News h₀ L s.heap news)
   (T : Top p9 lo9 mean mg mb h₀)
   (hk : cs.kind = .function) (hx : FrAt w news x n d) (hd0 : 0 < d) (hd9 : d ≤ 9) (hn0 : 0 ≤ n) (hn1 : n ≤ 1) (hc : 0 < c) (hc1 : c ≤ 1001)
   (hret : ∀ x' n' d' h' tk' led', 0 < d' → d' ≤ 9 → n' * d = n * c * d' → 0 ≤ n' → n' ≤ 1001 * d' → Fr h₀ L h' m → News h₀ L h' led' → (∀ p ∈ news, p ∈ led') → (∀ p ∈ led', p ∈ news ∨ ∀ q ∈ news, q.1 < p.1) → FrAt w led' x' n' d' → Q (.ref x') { s with heap := h', toks := tk' }) :
   wpAny (model PySem.Challenge.rw_bb0001_01.row.prog w) A (binaryOp .Mult (.int c tc) (.ref x)) Q E s :=
  wp_weaken hh hdp (.inr hfr) (.inl rfl) hun (rep_mul w mean mg mb cn cs a ccd cl outer A₀ base h₀ L m news s Q E x n d c tc B F X N T hk hx hd0 hd9 hn0 hn1 hc hc1 hret)
theorem rep_add_u {A : Around} {p9 : Program} {lo9 : List Str} {w : World} {mean : ExcName → Option Value} {mg mb : Str → Option Value} {cn : Str} {cs : Scope} {a : Addr} {ccd : Value} {cl : List (Str × Addr)} {outer : List Env} {A₀ : Around} {base h₀ : Heap} {L : Addr} {m : Str → Option Value} {news : List (Addr × Obj)} {s : Shared}
   {Q E : Value → Shared → Prop}
   (hh : A.handled = none) (hdp : A.depth ≤ 440) (hfr : A.frames = some (envX cn cs L a ccd cl :: outer)) (hun : A.units ≤ 70) (v : Value) (j : Nat) (D z g : Int) (y : Addr) (n2 d2 : Int)
   (B : Below A₀ base outer h₀) (F : Fr h₀ L s.heap m) (X : (hd.heap_39 w.params).In h₀) (N : News h₀ L s.heap news)
   (T : Top p9 lo9 mean mg mb h₀)
   (hk : cs.kind = .function) (hv : RepAt w news D j v z) (hj : j ≤ 3) (hy : FrAt w news y n2 d2) (hd0 : 0 < d2) (hd9 : d2 ≤ 9) (hn0 : 0 ≤ n2) (hn1 : n2 ≤ 1001 * d2) (hg : n2 * D = g * d2) (hint : ∀ c t, v = .int c t → c = 0)
   (hret : ∀ x' h' tk' led', RepAt w led' D (j + 1) (.ref x') (z + g) → Fr h₀ L h' m → News h₀ L h' led' → (∀ p ∈ news, p ∈ led') → (∀ p ∈ led', p ∈ news ∨ ∀ q ∈ news, q.1 < p.1) → Q (.ref x') { s with heap := h', toks := tk' }) :
   wpAny (model PySem.Challenge.rw_bb0001_01.row.prog w) A (inplaceOp .Add v (.ref y)) Q E s :=
  wp_weaken hh hdp (.inr hfr) (.inl rfl) hun (rep_add w mean mg mb cn cs a ccd cl outer A₀ base h₀ L m news s Q E v j D z g y n2 d2 B F X N T hk hv hj hy hd0 hd9 hn0 hn1 hg hint hret)
end Mine
end

/- PI -/
section
open PySem PySem.W PyProof.Rows PySem.Calls PySem.Spec
set_option linter.unusedVariables false
namespace Mine
/-- a Profile of n candidates, its voters in the list lv -/
def ProfAt (w : World) (led : List (Addr × Obj)) (p : Addr) (n : Nat) (lv : Addr) : Prop := ∃ dp lc ln k1 k2 k3 vs nl, (p, instObj 596 dp) ∈ led ∧ (dp, dictOf [⟨PyData.keyHash w.params (Str.ofString "candidates"), .str (Str.ofString "candidates") k1, .ref lc⟩, ⟨PyData.keyHash w.params (Str.ofString "cand_names"), .str (Str.ofString "cand_names") k2, .ref ln⟩, ⟨PyData.keyHash w.params (Str.ofString "_voters"), .str (Str.ofString "_voters") k3, .ref lv⟩] 3) ∈ led ∧ (lc, ({ cls := .type "list", data := .seq vs nl } : Obj)) ∈ led ∧ (vs : Array Value).size = n ∧ lc ≠ lv
theorem ProfAt.mono {w : World} {led led' : List (Addr × Obj)} {p lv : Addr} {n : Nat} (h : ProfAt w led p n lv) (k : ∀ p ∈ led, p ∈ led') : ProfAt w led' p n lv := by
  obtain ⟨dp, lc, ln, k1, k2, k3, vs, nl, a, b, c, d⟩ := h
  exact ⟨dp, lc, ln, k1, k2, k3, vs, nl, k _ a, k _ b, k _ c, d⟩
section
variable {prog : Program} {w : World} {A : Around} {E : Value → Shared → Prop} {s : Shared} {h₀ : Heap} {L : Addr} {m : Str → Option Value} {led : List (Addr × Obj)}
theorem it_list {l : Addr} {vs : Array Value} {nl : Nat} {Q : Value → Shared → Prop} (F : Fr h₀ L s.heap m) (N : News h₀ L s.heap led) (hl : (l, ({ cls := .type "list", data := .seq vs nl } : Obj)) ∈ led)
    (h : ∀ (I : Addr) h', Fr h₀ L h' m → News h₀ L h' ((I, { cls := .type "list_iterator", data := .fields #[.ref l, .int 0 0] }) :: led) → (∀ p ∈ led, p.1 < I) → Q (.ref I) { s with heap := h' }) :
    wpAny (model prog w) A (call (.builtin "iter") [.ref l]) Q E s := by
  refine call_function_entry (by decide +kernel) (by decide +kernel) kdk_entry_iter (kdk_args_iter _) ?_
  unfold Builtin.«iter»
  refine wpAny_bind (m := someArgs "iter" 1 2 _) (wpAny_of_eq (a := [Value.ref l]) (by first | rfl | kernel_rfl!) ?_)
  show wpAny _ _ (pyIter (.ref l) >>= _) _ _ _
  refine wpAny_bind (wpAny_pyIter_list ⟨_, (N _ hl).1, rfl, _, rfl⟩ ?_)
  exact wpAny_pure ⟨_, rfl, h _ _ (F.push _) (News.push F N _ rfl) (fun q hq => Heap.lt_size (N q hq).1)⟩
end
local macro_rules | `(tactic| k_mem) => `(tactic| assumption)
set_option hygiene false in
local macro_rules | `(tactic| wtm_at "own call builtin:iter") => `(tactic| (k_here; (with_reducible show wpAny _ _ (call (Value.builtin "iter") [Value.ref _]) _ _ _); k_dflt (refine it_list F' N' hlv ?_); intro D' h2 F2' N2' l1; (try dsimp only)))
set_option maxRecDepth 100000 in
set_option maxHeartbeats 2000000 in
theorem pf_iter {p9 : Program} {lo9 : List Str} (w : World) (mean : ExcName → Option Value) (mg mb : Str → Option Value) (cn : Str) (cs : Scope) (a : Addr) (ccd : Value) (cl : List (Str × Addr)) (outer : List Env) (A₀ : Around) (base h₀ : Heap) (L : Addr) (m : Str → Option Value) (news : List (Addr × Obj)) (s : Shared)
   (Q E : Value → Shared → Prop) (p lv : Addr) (n : Nat) (vv : Array Value) (nlv : Nat)
   (B : Below A₀ base outer h₀) (F : Fr h₀ L s.heap m) (X : (hd.heap_39 w.params).In h₀) (N : News h₀ L s.heap news)
   (T : Top p9 lo9 mean mg mb h₀)
   (hk : cs.kind = .function) (hp : ProfAt w news p n lv) (hlv : (lv, ({ cls := .type "list", data := .seq vv nlv } : Obj)) ∈ news)
   (hret : ∀ I h' tk', Fr h₀ L h' m → News h₀ L h' ((I, { cls := .type "list_iterator", data := .fields #[.ref lv, .int 0 0] }) :: news) → (∀ p ∈ news, p.1 < I) → Q (.ref I) { s with heap := h', toks := tk' }) :
   wpAny (model PySem.Challenge.rw_bb0001_01.row.prog w) { handled := none, depth := 450, frames := some (envX cn cs L a ccd cl :: outer), guards := none, units := 80 } (call (.ref 551) [.ref p]) Q E s := by
  revert X
  k_fill
  intro X
  obtain ⟨dp, lc, ln, k1, k2, k3, vs, nl, hp1, hp2, hp3, hvs⟩ := hp
  refine wpAny_call ?_
  k_dflt (refine' code_def ?k1 ?k2 ?k3 ?k4 ?k5 ?kA ?kF ?kK ?k6 ?k7 ?k8 ?k9 ?kB ?_ ?c2 ?c3 ?c4 ?c5; (case kA => exact rfl); (case kF => exact rfl); (case kK => assumption); (case k1 => k_asm); (case k2 => k_asm); (case k3 => k_asm); (case k4 => k_asm); (case k5 => k_asm); (case k6 => k_is); (case k7 => k_is); (case k8 => k_room); (case k9 => first | exact BindsTo.of_eq rfl | exact binds_K (by k_in) rfl (by k_is) rfl rfl rfl | fail "k_enter: no rule for these arguments"); (case c5 => decide); (case kB => exact locs rfl); (case c2 => exact rfl); (case c3 => exact rfl); (case c4 => exact rfl); k_whole; intro g' L' h' FG' F' N' B' X' T'; (try dsimp only); (try k_lift B'); (try k_fold))
  k_steps
  exact hret _ _ _ (by assumption) (by assumption) l1
theorem pf_iter_u {A : Around} {p9 : Program} {lo9 : List Str} {w : World} {mean : ExcName → Option Value} {mg mb : Str → Option Value} {cn : Str} {cs : Scope} {a : Addr} {ccd : Value} {cl : List (Str × Addr)} {outer : List Env} {A₀ : Around} {base h₀ : Heap} {L : Addr} {m : Str → Option Value} {news : List (Addr × Obj)} {s : Shared}
   {Q E : Value → Shared → Prop}
   (hh : A.handled = none) (hdp : A.depth ≤ 450) (hfr : A.frames = some (envX cn cs L a ccd cl :: outer)) (hun : A.units ≤ 80) (p lv : Addr) (n : Nat) (vv : Array Value) (nlv : Nat)
   (B : Below A₀ base outer h₀) (F : Fr h₀ L s.heap m) (X : (hd.heap_39 w.params).In h₀) (N : News h₀ L s.heap news)
   (T : Top p9 lo9 mean mg mb h₀)
   (hk : cs.kind = .function) (hp : ProfAt w news p n lv) (hlv : (lv, ({ cls := .type "list", data := .seq vv nlv } : Obj)) ∈ news)
   (hret : ∀ I h' tk', Fr h₀ L h' m → News h₀ L h' ((I, { cls := .type "list_iterator", data := .fields #[.ref lv, .int 0 0] }) :: news) → (∀ p ∈ news, p.1 < I) → Q (.ref I) { s with heap := h', toks := tk' }) :
   wpAny (model PySem.Challenge.rw_bb0001_01.row.prog w) A (call (.ref 551) [.ref p]) Q E s :=
  wp_weaken hh hdp (.inr hfr) (.inl rfl) hun (pf_iter w mean mg mb cn cs a ccd cl outer A₀ base h₀ L m news s Q E p lv n vv nlv B F X N T hk hp hlv hret)

set_option hygiene false in
local macro_rules | `(tactic| wtm_at "own call builtin:len") => `(tactic| (k_here; (k_dflt (refine len_l N' (by k_mem) (by omega) ?_)); intro t' tk'; (try dsimp only)))
end Mine
end

/- Inter -/
section
open PySem PySem.W PyProof.Rows PySem.Calls PySem.Spec
set_option linter.unusedVariables false
namespace Mine
theorem entry_inter_loop : entryFor table "frozenset.intersection.loop" = some Builtin.«frozenset.intersection.loop» := entryFor_of_tree (by kernel_rfl)
theorem plain_inter_loop : plainId "frozenset.intersection.loop" = true := by decide +kernel
theorem entry_inter : entryFor table "set.intersection" = some Builtin.«frozenset.intersection» :=
  entryFor_alias (id' := "frozenset.intersection") (by rw [fastTable_eq_tree]; kernel_rfl) rfl (by decide +kernel) (by rw [fastTable_eq_tree]; kernel_rfl)
theorem subs_nodup : ∀ ks ∈ subs, ks.Nodup := by decide
theorem sub_full : ∀ ks ∈ subs, ∀ rs ∈ subs, (∀ j ∈ rs, j ∈ ks) → ks.length ≤ rs.length → ∀ j ∈ ks, j ∈ rs := by decide
section
variable {prog : Program} {w : World} {A : Around} {E : Value → Shared → Prop} {s : Shared} {R : Result → Shared → Prop} {I : Addr} {fp wr : List Addr} {n : Nat} {P : Nat → Value → Prop} {St : Nat → Heap → Prop}
theorem size_of {a : Addr} {o : Obj} {ks : List Nat} {tk : Nat → Tok} {ep : Nat} {led : Bool} {Q : Nat → Shared → Prop} (ho : s.heap.get? a = some o) (hd : o.data = .set (esOf ks tk) ep (tabS ks led)) (hs : ks ∈ subs) (hq : Q ks.length s) :
    wpAny (model prog w) A (Builtin.Frozenset.sizeOf a) Q E s := by
  unfold Builtin.Frozenset.sizeOf
  refine wpAny_bind (wpAny_setEntries_of ho hd (fits_subs led ks hs tk) (wpAny_pure ?_))
  have : (esOf ks tk).size = ks.length := by simp [esOf]
  rw [this]; exact hq
theorem inter_loop (W : Walks prog w A.in1 I fp wr n P St) (a r : Addr) (har : a ≠ r) (haf : a ∉ wr) (hrf : r ∉ fp) (led led' : Bool) (ks : List Nat) (tk : Nat → Tok) (ep : Nat) (hks : ks ∈ subs) (oa : Obj) (hoa : oa.data = .set (esOf ks tk) ep (tabS ks led))
    (ns : List Nat) (hn : ns.length = n) (hval : ∀ i v, P i v → ∃ t, v = .int ((ns.getD i 0 : Nat) : Int) t) (hlt : ∀ k ∈ ns, k < 4) :
    ∀ (k i : Nat) (rs : List Nat) (tr : Nat → Tok) (er : Nat) (s : Shared) (o : Obj), n - i = k → i ≤ n → St i s.heap → s.heap.get? a = some oa → s.heap.get? r = some o → o.data = .set (esOf rs tr) er (tabS rs led') → rs ∈ subs → (∀ j ∈ rs, j ∈ ks) → (ns.drop i).Nodup → (∀ j ∈ ns.drop i, j ∉ rs) →
      (∀ h' tk' trs er', h'.get? r = some { o with data := .set (esOf (insAll rs ((ns.drop i).filter (· ∈ ks))) trs) er' (tabS (insAll rs ((ns.drop i).filter (· ∈ ks))) led') } → (∀ b ob, b ∉ r :: wr → s.heap.get? b = some ob → h'.get? b = some ob) → R (.ok (.ret .none)) { s with heap := h', toks := tk' }) →
      codeAny (model prog w) A (.builtin "frozenset.intersection.loop" ⟨[.ref a, .ref I, .ref r], []⟩) R s := by
  have hrw : r ∉ wr := fun h => hrf (W.sub _ h)
  intro k
  induction k with
  | zero =>
    intro i rs tr er s o hk hi hst ha ho hd hs hrk hnd hdis hR
    obtain rfl : i = n := by omega
    have hdr : ns.drop i = [] := by rw [List.drop_eq_nil_iff]; omega
    rw [hdr] at hR
    refine codeAny_builtin entry_inter_loop ?_
    rw [Around.under_plainId plain_inter_loop _]
    show wpAny _ A.in1 (pyNext (.ref I) >>= _) _ _ s
    refine wpAny_bind (W.done s _ _ hst fun h' tk' hm => ?_)
    show wpAny _ A.in1 (ret Value.none) _ _ _
    refine wpAny_pure (hR h' tk' tr er ?_ fun b ob hb e => hm b ob (fun h => hb (.tail _ h)) e)
    rw [hm r o hrw ho]
    obtain ⟨c, dd, dt, sl⟩ := o
    cases hd
    rfl
  | succ k ih =>
    intro i rs tr er s o hk hi hst ha ho hd hs hrk hnd hdis hR
    have hlt' : i < n := by omega
    have hil : i < ns.length := by omega
    have hdr : ns.drop i = ns[i] :: ns.drop (i + 1) := List.drop_eq_getElem_cons hil
    refine codeAny_builtin entry_inter_loop ?_
    rw [Around.under_plainId plain_inter_loop _]
    show wpAny _ A.in1 (pyNext (.ref I) >>= _) _ _ s
    refine wpAny_bind (W.item i s _ _ hlt' hst fun v h' tk' hP hst' hm => ?_)
    obtain ⟨t, rfl⟩ := hval i v hP
    have hgd : ns.getD i 0 = ns[i] := by simp [List.getD, hil]
    rw [hgd]
    have ho' := hm r o hrw ho
    have ha' := hm a oa haf ha
    have hk4 : ns[i] < 4 := hlt _ (List.getElem_mem hil)
    have hni : ns[i] ∉ rs := hdis _ (by rw [hdr]; exact .head _)
    rw [hdr] at hnd hdis hR
    have hnd' := List.nodup_cons.mp hnd
    refine wpAny_bind (wpAny_holding ((intKind prog w).pyHash (k := (ns[i] : Int)) (intKind_is _ _ _ _) ?_))
    rw [show (intKind prog w).hash (ns[i] : Int) = (ns[i] : Int) from hashInt_small _ hk4]
    refine wpAny_bind (wpAny_holding (cs_find (s := { s with heap := h', toks := tk' + 1 }) ha' hoa hks hk4 fun q hq => ?_))
    cases hmem : decide (ns[i] ∈ ks) with
    | false =>
      have hnk : ns[i] ∉ ks := of_decide_eq_false hmem
      rw [hmem] at hq
      rw [hq, if_neg (by decide)]
      rw [List.filter_cons_of_neg (by simpa using hnk)] at hR
      refine wpAny_pure ⟨plainId_quiet plain_inter_loop _, ih (i + 1) rs tr er _ o (by omega) hlt' hst' ha' ho' hd hs hrk hnd'.2 (fun j hj => hdis j (.tail _ hj)) fun h3 tk3 trs3 er3 hg3 hk3 => ?_⟩
      exact hR h3 tk3 trs3 er3 hg3 fun b ob hb e => hk3 b ob hb (hm b ob (fun h => hb (.tail _ h)) e)
    | true =>
      have hyk : ns[i] ∈ ks := of_decide_eq_true hmem
      rw [hmem] at hq
      rw [hq, if_pos rfl]
      rw [List.filter_cons_of_pos (by simpa using hyk)] at hR
      refine wpAny_bind (wpAny_holding (cs_add (s := { s with heap := h', toks := tk' + 1 }) ho' hd hs hk4 hni fun h2 hsb hg2 => ?_))
      have ha2 : h2.get? a = some oa := (hsb.2 a har).trans ha'
      have hs2 := ins_subs rs hs _ hk4
      have hrk2 : ∀ j ∈ ins ns[i] rs, j ∈ ks := fun j hj => by
        rw [ins_mem] at hj
        rcases hj with rfl | hj
        · exact hyk
        · exact hrk j hj
      refine wpAny_bind (size_of (s := { s with heap := h2, toks := tk' + 1 }) hg2 rfl hs2 ?_)
      refine wpAny_bind (size_of (s := { s with heap := h2, toks := tk' + 1 }) ha2 hoa hks ?_)
      have hout : ∀ b ob, b ∉ r :: wr → s.heap.get? b = some ob → h2.get? b = some ob := fun b ob hb e => by
        have hbr : b ≠ r := fun h => hb (by rw [h]; exact .head _)
        rw [hsb.2 b hbr]
        exact hm b ob (fun h => hb (.tail _ h)) e
      by_cases hge : (ins ns[i] rs).length ≥ ks.length
      · rw [if_pos hge]
        have hall := sub_full ks hks _ hs2 hrk2 hge
        have hf : (ns.drop (i + 1)).filter (· ∈ ks) = [] := by
          rw [List.filter_eq_nil_iff]
          intro j hj hjk
          have hjk' : j ∈ ks := by simpa using hjk
          have := hall j hjk'
          rw [ins_mem] at this
          rcases this with rfl | h
          · exact hnd'.1 hj
          · exact hdis j (.tail _ hj) h
        rw [hf] at hR
        refine wpAny_bind (wpAny_rule (wpAny_pure ?_))
        exact hR h2 (tk' + 1) _ _ hg2 hout
      · rw [if_neg hge]
        refine wpAny_pure ⟨plainId_quiet plain_inter_loop _, ih (i + 1) _ _ _ _ _ (by omega) hlt' (W.frame _ _ _ hst' fun b hb o e => ?_) ha2 hg2 rfl hs2 hrk2 hnd'.2 (fun j hj => ?_) fun h3 tk3 trs3 er3 hg3 hk3 => ?_⟩
        · show h2.get? b = some o
          rw [hsb.2 b (fun h : b = r => hrf (by rw [← h]; exact hb))]; exact e
        · rw [ins_mem]
          rintro (rfl | hjk)
          · exact hnd'.1 hj
          · exact hdis j (.tail _ hj) hjk
        · exact hR h3 tk3 trs3 er3 hg3 fun b ob hb e => hk3 b ob hb (hout b ob hb e)
end
end Mine
end

/- Inter2 -/
section
open PySem PySem.W PyProof.Rows PySem.Calls PySem.Spec
set_option linter.unusedVariables false
namespace Mine
theorem check_method {M : Model} {A : Around} {E : Value → Shared → Prop} {s : Shared} {i owner n : String} {self : Value} {rest : List Value} {kw : List (Str × Value)} {Q : Unit → Shared → Prop}
    (hk : builtinKind i = some .method) (hs : splitId i = some (owner, n)) (hi : Looks M s.heap (isInstance self (.type owner)) true) (ha : argsOk i ⟨self :: rest, kw⟩) (q : Q () s) :
    wpAny M A (checkBuiltinCall i ⟨self :: rest, kw⟩) Q E s := by
  simp only [checkBuiltinCall, hk, hs]
  refine wpAny_bind (hi.here ?_)
  simp only [Bool.not_true, Bool.false_eq_true, if_false]
  cases hsig : Manifest.signature? i with
  | none => exact wpAny_pure q
  | some sig =>
    simp only [argsOk, hsig] at ha
    have h2 : Bind.checkArgs i sig ⟨self :: rest, kw⟩ = pure () := ha
    show wpAny M A (Bind.checkArgs i sig ⟨self :: rest, kw⟩) Q E s
    rw [h2]; exact wpAny_pure q
theorem in_kind : builtinKind "set.intersection" = some .method := by decide +kernel
theorem in_split : splitId "set.intersection" = some ("set", "intersection") := by decide +kernel
abbrev setObj (es : Array (Int × Value)) (ep : Nat) (tb : SetTable) : Obj := { cls := .type "set", data := .set es ep tb }
section
variable {w : World} {A : Around} {E : Value → Shared → Prop} {s : Shared} {h₀ : Heap} {L : Addr} {m : Str → Option Value} {led : List (Addr × Obj)}
theorem cs_inter {a l dx : Addr} {ks : List Nat} {tk : Nat → Tok} {ep : Nat} {led' : Bool} {vs : Array Value} {nl : Nat} {ns : List Nat} {Q : Value → Shared → Prop} (hh : A.handled = none) (X : (hd.heap_39 w.params).In h₀) (F : Fr h₀ L s.heap m) (N : News h₀ L s.heap led)
    (hks : ks ∈ subs) (ha : (a, csObj dx (esOf ks tk) ep (tabS ks led')) ∈ led) (hl : (l, ({ cls := .type "list", data := .seq vs nl } : Obj)) ∈ led)
    (hn : ns.length = vs.size) (hval : ∀ i v, vs[i]? = some v → ∃ t, v = Value.int ((ns.getD i 0 : Nat) : Int) t) (hlt : ∀ k ∈ ns, k < 4) (hnd : ns.Nodup)
    (hq : ∀ r h' tk' trs er led'', Fr h₀ L h' m → News h₀ L h' ((r, setObj (esOf (insAll [] (ns.filter (· ∈ ks))) trs) er (tabS (insAll [] (ns.filter (· ∈ ks))) led'')) :: led) → (∀ p ∈ led, p.1 < r) → Q (.ref r) { s with heap := h', toks := tk' }) :
    wpAny (model PySem.Challenge.rw_bb0001_01.row.prog w) A (call (.builtin "set.intersection") [.ref a, .ref l]) Q E s := by
  obtain ⟨h, g, d, t, os⟩ := s
  have ha1 := (N _ ha).1
  have hl1 := (N _ hl).1
  have X1 := X.keeps F.keep
  have ht := ty_cs (M := model PySem.Challenge.rw_bb0001_01.row.prog w) ha1
  have hs := sup_set X1
  have hI : Looks (model PySem.Challenge.rw_bb0001_01.row.prog w) h (isInstance (.ref a) (.type "set")) true := ht.andThen hs
  have hal : a ≠ l := fun e => by rw [e, hl1] at ha1; cases ha1
  have han := any_list (M := model PySem.Challenge.rw_bb0001_01.row.prog w) hl1
  have hq1 : (Code.builtin "set.intersection" ⟨[.ref a, .ref l], []⟩).quiet = true := Code.quiet_builtin _ (by decide +kernel)
  have z1 := PySem.F.args_set_intersection_2 (.ref a) (.ref l)
  refine wpAny_call (codeAny_call_builtin_at hq1 entry_inter ?_)
  refine check_method (M := model PySem.Challenge.rw_bb0001_01.row.prog w) (s := ⟨h, g, d, t, os⟩) (i := "set.intersection") (owner := "set") (n := "intersection") (self := .ref a) (rest := [.ref l]) (kw := []) in_kind in_split hI z1 ?_
  rw [Around.under_plainId (by decide +kernel : plainId "set.intersection" = true) _]
  unfold Builtin.«frozenset.intersection»
  refine wpAny_bind (wpAny_of_eq (a := (a, [Value.ref l])) (by rfl) ?_)
  dsimp only
  rw [if_neg (by simp)]
  refine wpAny_bind ?_
  rw [List.forIn_cons]
  refine wpAny_bind (wpAny_bind (wpAny_holding ?_))
  refine wpAny_bind (wpAny_of_eq (a := a) (by rfl) ?_)
  unfold Builtin.Frozenset.intersection
  rw [if_neg (by simp; exact fun e => hal e.symm)]
  refine wpAny_bind ?_
  unfold Builtin.Frozenset.baseOf
  refine wpAny_bind (hI.at (wpAny_pure ?_))
  dsimp only
  rw [if_pos rfl]
  unfold newSet setsByText
  refine wpAny_bind (wpAny_bind (wpAny_bind (wpAny_askSetting (wpAny_pure ?_))))
  dsimp only
  refine wpAny_newObj_type ?_
  have F1 := F.push (setObj #[] 0 (.fresh 0 0 (!w.params.followText "set-order")))
  have N1 := N.push F (setObj #[] 0 (.fresh 0 0 (!w.params.followText "set-order")))
  have lt : ∀ p ∈ led, p.1 < h.objs.size := fun p hp => Heap.lt_size (N p hp).1
  refine wpAny_bind (wpAny_of_eq (a := h.objs.size) (by rfl) ?_)
  refine wpAny_bind (wpAny_holding ?_)
  have hpush : (h.push (setObj #[] 0 (.fresh 0 0 (!w.params.followText "set-order")))).objs.size = h.objs.size + 1 := Heap.size_push ..
  have kp : ∀ b o, h.get? b = some o → (h.push (setObj #[] 0 (.fresh 0 0 (!w.params.followText "set-order")))).get? b = some o := fun b o e => Heap.get?_push_of_some _ e
  have hr1 : (h.push (setObj #[] 0 (.fresh 0 0 (!w.params.followText "set-order")))).get? h.objs.size = some (setObj #[] 0 (.fresh 0 0 (!w.params.followText "set-order"))) := Heap.get?_push_size _ rfl
  refine wpAny_bind ((han.keeps kp).at ?_)
  simp only [Bool.false_eq_true, if_false]
  have hl2 : (h.push (setObj #[] 0 (.fresh 0 0 (!w.params.followText "set-order")))).IsList l vs := ⟨_, kp _ _ hl1, rfl, _, rfl⟩
  have ha2 := kp _ _ ha1
  have hlS : l < h.objs.size := lt _ hl
  have haS : a < h.objs.size := lt _ ha
  generalize h.push (setObj #[] 0 (.fresh 0 0 (!w.params.followText "set-order"))) = h2 at *
  refine wpAny_bind (wpAny_pyIter_list (s := ⟨h2, g, d, t, os⟩) hl2 ?_)
  dsimp only
  refine wpAny_bind (wpAny_runValue ?_)
  have hh1 : A.in1.in1.handled = none := by simp [hh]
  have hneI : l ≠ h2.objs.size := Nat.ne_of_lt (Nat.lt_of_lt_of_le hlS (by rw [hpush]; exact Nat.le_succ _))
  refine inter_loop (n := vs.size) (P := fun i v => vs[i]? = some v) (Walks.list hh1 _ l hneI vs) a h.objs.size (Nat.ne_of_lt haS) ?_ ?_ led' (!w.params.followText "set-order") ks tk ep hks _ rfl ns hn hval hlt (vs.size - 0) 0 [] (fun _ => 0) 0 ⟨h2.push { cls := .type "list_iterator", data := .fields #[.ref l, .int 0 0] }, g, d, t, os⟩ (setObj #[] 0 (.fresh 0 0 (!w.params.followText "set-order"))) rfl (Nat.zero_le _) ⟨⟨_, Heap.get?_push_size _ rfl, rfl, rfl⟩, hl2.push _⟩ (Heap.get?_push_of_some _ ha2) (Heap.get?_push_of_some _ hr1) rfl (by decide) (by simp) (by simpa using hnd) (by simp) fun h' tk' trs er' hg hk => ?_
  · simp only [List.mem_singleton]; exact Nat.ne_of_lt (Nat.lt_of_lt_of_le haS (by rw [hpush]; exact Nat.le_succ _))
  · simp only [List.mem_cons, List.not_mem_nil, or_false, not_or]; exact ⟨Nat.ne_of_lt (by rw [hpush]; exact Nat.lt_succ_self _), Nat.ne_of_gt hlS⟩
  · simp only [List.drop_zero] at hg
    refine wpAny_pure (wpAny_pure (wpAny_pure ?_))
    dsimp only
    rw [List.forIn_nil]
    refine wpAny_pure (wpAny_pure ?_)
    have old : ∀ b o, h.get? b = some o → h'.get? b = some o := fun b o e => by
      have lb := Heap.lt_size e
      refine hk b o ?_ (Heap.get?_push_of_some _ (kp _ _ e))
      simp only [List.mem_cons, List.not_mem_nil, or_false, not_or]
      exact ⟨Nat.ne_of_lt lb, Nat.ne_of_lt (Nat.lt_of_lt_of_le lb (by rw [hpush]; exact Nat.le_succ _))⟩
    refine hq h.objs.size h' tk' trs er' (!w.params.followText "set-order") (F.keeps old) (fun p hp => ?_) lt
    rcases List.mem_cons.mp hp with rfl | hp
    · exact ⟨hg, Nat.ne_of_gt F.ns.lt, next_is_new F⟩
    · exact ⟨old _ _ (N p hp).1, (N p hp).2⟩
end
end Mine
end

/- Marg0 -/
section
open PySem PySem.W PyProof.Rows PySem.Calls PySem.Spec
set_option linter.unusedVariables false
namespace Mine
/-- a Voter who approves ks, with weight wt -/
def VoterAt (w : World) (led : List (Addr × Obj)) (v : Value) (ks : List Nat) (wt : Int) : Prop := ∃ x dx y dy tks ep k1 k2 tw, v = .ref x ∧ (x, instObj 633 dx) ∈ led ∧ (dx, dictOf [⟨PyData.keyHash w.params (Str.ofString "approved"), .str (Str.ofString "approved") k1, .ref y⟩, ⟨PyData.keyHash w.params (Str.ofString "weight"), .str (Str.ofString "weight") k2, .int wt tw⟩] 2) ∈ led ∧ (y, csObj dy (esOf ks tks) ep (tabS ks (!bt w))) ∈ led ∧ (dy, dictOf [] 0) ∈ led
theorem VoterAt.mono {w : World} {led led' : List (Addr × Obj)} {v : Value} {ks : List Nat} {wt : Int} (h : VoterAt w led v ks wt) (k : ∀ p ∈ led, p ∈ led') : VoterAt w led' v ks wt := by
  obtain ⟨x, dx, y, dy, tks, ep, k1, k2, tw, e, a, b, c, d⟩ := h
  exact ⟨x, dx, y, dy, tks, ep, k1, k2, tw, e, k _ a, k _ b, k _ c, k _ d⟩
def VotersAt (w : World) (led : List (Addr × Obj)) (vs : Array Value) (bs : List (List Nat × Int)) : Prop := vs.size = bs.length ∧ ∀ (i : Nat) (b : List Nat × Int), bs[i]? = some b → ∃ v, vs[i]? = some v ∧ VoterAt w led v b.1 b.2
theorem VotersAt.mono {w : World} {led led' : List (Addr × Obj)} {vs : Array Value} {bs : List (List Nat × Int)} (h : VotersAt w led vs bs) (k : ∀ p ∈ led, p ∈ led') : VotersAt w led' vs bs :=
  ⟨h.1, fun i b hb => let ⟨v, e, f⟩ := h.2 i b hb; ⟨v, e, f.mono k⟩⟩
section
variable {prog : Program} {w : World} {A : Around} {E : Value → Shared → Prop} {s : Shared} {h₀ : Heap} {L : Addr} {m : Str → Option Value} {led : List (Addr × Obj)}
theorem get_led {l : Addr} {o : Obj} {vs : Array Value} {k : Int} {t : Tok} {v : Value} {Q : Value → Shared → Prop} (N : News h₀ L s.heap led) (hl : (l, o) ∈ led) (ho : LObj o vs) (h0 : 0 ≤ k) (h9 : k < 2 ^ 63) (hx : vs[k.toNat]? = some v) (h : Q v s) :
    wpAny (model prog w) A (getItem (.ref l) (.int k t)) Q E s := wpAny_getItem_list (ho.isList (N _ hl).1) h0 h9 hx h
theorem set_led {l : Addr} {o : Obj} {vs : Array Value} {k : Int} {t : Tok} {v : Value} {Q : Unit → Shared → Prop} (F : Fr h₀ L s.heap m) (N : News h₀ L s.heap led) (hl : (l, o) ∈ led) (ho : LObj o vs) (h0 : 0 ≤ k) (h9 : k < 2 ^ 63) (hn : k < vs.size)
    (h : ∀ h' o', LObj o' (vs.setIfInBounds k.toNat v) → Fr h₀ L h' m → News h₀ L h' (put l o' led) → Q () { s with heap := h' }) :
    wpAny (model prog w) A (setItem (.ref l) (.int k t) v) Q E s := by
  refine wpAny_setItem_list (ho.isList (N _ hl).1) h0 h9 hn fun h' hI hs => ?_
  obtain ⟨o', e1, e2, e3⟩ := hI
  exact h h' o' ⟨e2, e3⟩ (F.change hs (N _ hl).2.1 (N _ hl).2.2) (news_put N hl (fun b ob hb e => (hs.2 b hb).trans e) e1)
end
section
variable {prog : Program} {w : World} {A : Around} {E : Value → Shared → Prop} {env : Env} {h₀ : Heap} {body : List Stmt} {Q : Flow → Shared → Prop}
theorem turn_name {x : Str} {px : Pos} {I : Addr} {io : Obj} {J : (Str → Option Value) → List (Addr × Obj) → Array GenState → Prop} {os : OsState} {v : Value} {h : Heap} {g : Array GenState} {d : Drawn} {t : Nat} {m₁ : Str → Option Value} {led : List (Addr × Obj)}
    (F : Fr h₀ env.locals h m₁) (N : News h₀ env.locals h led) (hx : env.kindOf x = some .local)
    (hp : (env.scope.kind == .class || (env.scope.kind == .module && env.locals != env.globals)) = false)
    (k : ∀ h₂ t₂, Fr h₀ env.locals h₂ (fun y => if y = x then some v else m₁ y) → News h₀ env.locals h₂ led → wpAny (model prog w) A (execs body env) (EndG h₀ env.locals I io J os Q) E ⟨h₂, g, d, t₂, os⟩) :
    TurnG prog w A h₀ env (.Name x px) body I io J os Q E v ⟨h, g, d, t, os⟩ := by
  unfold TurnG
  exact wpAny_assign_Name (wpAny_storeName_local hx F.ns (fun h₂ hn₂ hs₂ => k h₂ _ (F.set hn₂ hs₂) (N.set hs₂)) hp)
end
section
variable {w : World} {A : Around} {x : Addr} {ep : Nat} {led : Bool} {s : Shared} {E : Value → Shared → Prop}
set_option hygiene false in
local macro_rules | `(tactic| x_close) => `(tactic| (exact hq _ _))
set_option maxRecDepth 100000 in
set_option maxHeartbeats 8000000 in
theorem len_set {Q : Value → Shared → Prop} {ks : List Nat} {tk : Nat → Tok} (hks : ks ∈ subs) (X : (hd.heap_39 w.params).In s.heap) (hx : s.heap.get? x = some { cls := .type "set", data := .set (esOf ks tk) ep (tabS ks led) })
    (hq : ∀ t tk', Q (.int (ks.length : Int) t) { s with toks := tk' }) :
    wpAny (model PySem.Challenge.rw_bb0001_01.row.prog w) A (call (.builtin "len") [.ref x]) Q E s := by
  have e : (esOf ks tk).size = ks.length := by simp [esOf]
  have z := sz_subs ks hks
  refine call_len_set hx ⟨rfl, rfl, rfl⟩ rfl (fits_subs led ks hks tk) (by rw [e]; omega) ?_
  rw [e]
  exact hq _ _
end
end Mine
end

/- Inter3 -/
section
open PySem PySem.W PyProof.Rows PySem.Calls PySem.Spec
set_option linter.unusedVariables false
namespace Mine
section
variable {w : World} {h : Heap}
set_option maxRecDepth 100000 in
set_option maxHeartbeats 2000000 in
theorem gi_find (X : (hd.heap_39 w.params).In h) : (∃ ga, Looks (model PySem.Challenge.rw_bb0001_01.row.prog w) h (typeLookup (.ref 75) (Str.ofString "__getattribute__")) (some (.builtin ga)) ∧ Manifest.canonical ga = "object.__getattribute__") ∧ Looks (model PySem.Challenge.rw_bb0001_01.row.prog w) h (typeLookup (.ref 75) (Str.ofString "__getattr__")) none ∧ Looks (model PySem.Challenge.rw_bb0001_01.row.prog w) h (typeLookup (.ref 75) (Str.ofString "intersection")) (some (.builtin "set.intersection")) := by
  revert X; k_fill; intro X
  exact ⟨⟨_, looks_findIn X (by k_is), by decide +kernel⟩, looks_findIn X (by k_is), looks_findIn X (by k_is)⟩
end
section
variable {w : World} {A : Around} {E : Value → Shared → Prop} {s : Shared} {h₀ : Heap} {L : Addr} {m : Str → Option Value} {led : List (Addr × Obj)}
theorem gm_inter {y dy : Addr} {es : Array (Int × Value)} {ep : Nat} {tb : SetTable} {pl : Sem Bool} {Q : Value × List Value → Shared → Prop} (X : (hd.heap_39 w.params).In h₀) (F : Fr h₀ L s.heap m) (N : News h₀ L s.heap led)
    (ha : (y, csObj dy es ep tb) ∈ led) (hd : (dy, dictOf [] 0) ∈ led) (h : Q (.builtin "set.intersection", [.ref y]) s) :
    wpAny (model PySem.Challenge.rw_bb0001_01.row.prog w) A (getMethod (.ref y) (Str.ofString "intersection") pl) Q E s := by
  obtain ⟨⟨ga, f1, f2⟩, f3, f4⟩ := gi_find (X.keeps F.keep)
  have ht := ty_cs (M := model PySem.Challenge.rw_bb0001_01.row.prog w) (N _ ha).1
  have s1 : Looks (model PySem.Challenge.rw_bb0001_01.row.prog w) s.heap (specialOf (.ref y) (Str.ofString "__getattribute__")) (some (.builtin ga)) := by unfold specialOf; exact ht.andThen f1
  have s2 : Looks (model PySem.Challenge.rw_bb0001_01.row.prog w) s.heap (specialOf (.ref y) (Str.ofString "__getattr__")) none := by unfold specialOf; exact ht.andThen f3
  have s3 : Looks (model PySem.Challenge.rw_bb0001_01.row.prog w) s.heap (specialOf (.ref y) (Str.ofString "intersection")) (some (.builtin "set.intersection")) := by unfold specialOf; exact ht.andThen f4
  unfold getMethod
  refine wpAny_bind (s1.here ?_)
  dsimp only
  rw [f2]
  rw [if_neg (by decide)]
  refine wpAny_bind (s2.here ?_)
  rw [if_neg (by decide)]
  refine wpAny_bind (s3.here ?_)
  dsimp only
  rw [PySem.F.type_set_intersection]
  refine wpAny_bind (wpAny_pure ?_)
  rw [if_neg (by decide)]
  refine wpAny_bind (wpAny_loadPart (N _ ha).1 ?_)
  dsimp only
  refine wpAny_bind ?_
  have hn : ∀ {Q' : Option Value → Shared → Prop} {A' E'}, Q' none s → wpAny (model PySem.Challenge.rw_bb0001_01.row.prog w) A' (nsGet dy (Str.ofString "intersection")) Q' E' s := fun hq => by
    unfold nsGet
    refine wpAny_bind (wpAny_loadPart (N _ hd).1 ?_)
    exact wpAny_pure hq
  refine hn ?_
  rw [if_neg (by decide)]
  exact wpAny_bind (wpAny_rule (wpAny_pure h))
end
end Mine
end

/- CallFp -/
section
open PySem PySem.W PyProof.Rows PySem.Calls PySem.Spec
set_option linter.unusedVariables false
namespace Mine
/-- a def or a partial stands at f -/
def Callee (h : Heap) (f : Addr) : Prop := ∃ o, h.get? f = some o ∧ ((∃ fd, o.data = .func fd) ∨ ∃ vs, o.data = .fields vs ∧ o.cls = .type "functools.partial")
def CalleeThen (M : Model) (A : Around) (f : Addr) (Q : Value → Shared → Prop) (E : Value → Shared → Prop) (v : Value) (s₁ : Shared) : Prop := Callee s₁.heap f ∧ wpAny M A (call (.ref f) [v]) Q E s₁
section
variable {M : Model} {A : Around} {E : Value → Shared → Prop} {s : Shared} {env : Env}
theorem callWith_fp {pos : Pos} {f : Addr} {e : Expr} {Q : Value → Shared → Prop}
    (he : wpAny M A (eval e env) (CalleeThen M A f Q E) E s) (hs : starEach [e] env = [(false, eval e env)] := by rfl) :
    wpAny M A (callWith pos (.ref f) [] (backTo pos (starEach [e] env)) []) Q E s := by
  rw [hs]
  unfold callWith
  refine wpAny_bind (wpAny_holding (Calls.evalArgs_plain (Calls.spliced_cons (wpAny_mono he (fun v s₁ h' => Calls.spliced_nil ?_) fun _ _ e => e))))
  obtain ⟨⟨o, ho, hd⟩, h'⟩ := h'
  have tail : ∀ {t : Sem Value}, wpAny M A t Q E s₁ → wpAny M A (t >>= fun r => holding [r] point >>= fun _ => pure r) Q E s₁ :=
    fun ht => wpAny_bind (wpAny_mono ht (fun r s₂ hr => wpAny_bind (wpAny_holding (wpAny_point (wpAny_pure hr)))) fun _ _ x => x)
  refine wpAny_bind (wpAny_standAt ?_)
  dsimp only
  rcases hd with ⟨fd, hd⟩ | ⟨vs, hd, hc⟩
  · refine wpAny_bind (m := keeperOf (.ref f)) ?_
    unfold keeperOf
    refine wpAny_bind (wpAny_load ho ?_)
    rw [hd]
    refine wpAny_pure ?_
    exact tail (by first | exact h' | (unfold callMarked; exact Calls.wpAny_keep h'))
  · refine wpAny_bind (m := keeperOf (.ref f)) ?_
    unfold keeperOf
    refine wpAny_bind (wpAny_load ho ?_)
    rw [hd]
    dsimp only
    rw [hc, if_pos (by decide), if_neg (by decide)]
    refine wpAny_pure ?_
    exact tail (wpAny_operateT h')
end
end Mine
end

/- Marg -/
section
open PySem PySem.W PyProof.Rows PySem.Calls PySem.Spec
set_option linter.unusedVariables false
namespace Mine
def Halt9 (P : Prop) : Prop := P
theorem Halt9.intro {P : Prop} (h : Halt9 P) : P := h
theorem Halt9.out {P : Prop} (h : P) : Halt9 P := h
/-- what candidate c has after the first i voters, in parts of D -/
def sumG (G : Nat → Int) (bs : List (List Nat × Int)) (com : List Nat) (c : Nat) : Int := (bs.map fun b => if c ∈ b.1 then b.2 * G ((com.filter (· ∈ b.1)).length + 1) else 0).sum
/-- z / D, and no int but 0 -/
def RepZ (w : World) (led : List (Addr × Obj)) (D : Int) (j : Nat) (v : Value) (z : Int) : Prop := RepAt w led D j v z ∧ ∀ c t, v = .int c t → c = 0
theorem RepZ.mono {w : World} {led led' : List (Addr × Obj)} {D : Int} {j : Nat} {v : Value} {z : Int} (h : RepZ w led D j v z) (k : ∀ p ∈ led, p ∈ led') : RepZ w led' D j v z := ⟨h.1.mono k, h.2⟩
/-- an object or a dict -/
def Soft (p : Addr × Obj) : Prop := p.2.data = .plain ∨ ∃ es n, p.2.data = .dict es n
theorem FrAt.soft {w : World} {led led' : List (Addr × Obj)} {x : Addr} {n d : Int} (h : FrAt w led x n d) (k : ∀ p ∈ led, Soft p → p ∈ led') : FrAt w led' x n d :=
  let ⟨dx, k1, t1, k2, t2, a, b⟩ := h; ⟨dx, k1, t1, k2, t2, k _ a (.inl rfl), k _ b (.inr ⟨_, _, rfl⟩)⟩
theorem RepAt.soft {w : World} {led led' : List (Addr × Obj)} {D : Int} {j : Nat} {v : Value} {z : Int} (h : RepAt w led D j v z) (k : ∀ p ∈ led, Soft p → p ∈ led') : RepAt w led' D j v z :=
  let ⟨n, d, h1, h2⟩ := h; ⟨n, d, h1.elim .inl fun ⟨x, e, f⟩ => .inr ⟨x, e, f.soft k⟩, h2⟩
theorem RepZ.soft {w : World} {led led' : List (Addr × Obj)} {D : Int} {j : Nat} {v : Value} {z : Int} (h : RepZ w led D j v z) (k : ∀ p ∈ led, Soft p → p ∈ led') : RepZ w led' D j v z := ⟨h.1.soft k, h.2⟩
theorem soft_off {h₀ h : Heap} {L I : Addr} {io : Obj} {led : List (Addr × Obj)} {fs : Array Value} (N : News h₀ L h led) (hI : (I, io) ∈ led) (hio : io.data = .fields fs) : ∀ p ∈ led, Soft p → p ∈ off I led := fun p hp hs =>
  mem_off.mpr ⟨hp, News.ne_data N hp hI (by rw [hio]; rcases hs with e | ⟨es, n, e⟩ <;> rw [e] <;> intro z <;> cases z)⟩
theorem soft_put {h₀ h : Heap} {L lm : Addr} {om o' : Obj} {ms : Array Value} {led : List (Addr × Obj)} (N : News h₀ L h led) (hl : (lm, om) ∈ led) (ho : LObj om ms) : ∀ p ∈ led, Soft p → p ∈ put lm o' led := fun p hp hs =>
  mem_put hp (News.ne_data N hp hl (by obtain ⟨-, n, e⟩ := ho; rw [e]; rcases hs with e | ⟨es, n, e⟩ <;> rw [e] <;> intro z <;> cases z))
theorem RepZ.up {w : World} {led : List (Addr × Obj)} {D : Int} {j : Nat} {v : Value} {z : Int} (h : RepZ w led D j v z) : RepZ w led D (j + 1) v z := ⟨RepAt.up h.1, h.2⟩
theorem RepZ.zero {w : World} {led : List (Addr × Obj)} {D : Int} {t : Tok} : RepZ w led D 0 (.int 0 t) 0 := ⟨⟨0, 1, .inl ⟨t, rfl, rfl⟩, by decide, by decide, by simp, by decide, by decide⟩, fun c t e => by cases e; rfl⟩
theorem nodup_take {l : List Nat} (h : l.Nodup) : ∀ {t k : Nat}, l[t]? = some k → k ∈ l.take t → False := by
  induction l with
  | nil => intro t k e; cases e
  | cons a r ih =>
    intro t k e hm
    have h' := List.nodup_cons.mp h
    cases t with
    | zero => simp at hm
    | succ t =>
      rw [List.take_succ_cons] at hm
      rw [List.getElem?_cons_succ] at e
      rcases List.mem_cons.mp hm with rfl | hm
      · exact h'.1 (List.mem_of_getElem? e)
      · exact ih h'.2 e hm
theorem mem_take_succ {l : List Nat} {t k : Nat} (e : l[t]? = some k) : k ∈ l.take (t + 1) := by
  rw [List.take_add_one, e]; simp
theorem mem_take_other {l : List Nat} {t k c : Nat} (e : l[t]? = some k) (h : ¬c = k) : c ∈ l.take (t + 1) ↔ c ∈ l.take t := by
  rw [List.take_add_one, e]; simp [h]
theorem sumG_succ (G : Nat → Int) {bs : List (List Nat × Int)} (com : List Nat) (c : Nat) {i : Nat} {b : List Nat × Int} (h : bs[i]? = some b) :
    sumG G (bs.take (i + 1)) com c = sumG G (bs.take i) com c + (if c ∈ b.1 then b.2 * G ((com.filter (· ∈ b.1)).length + 1) else 0) := by
  unfold sumG
  rw [List.take_add_one, h, List.map_append, List.sum_append]
  simp
theorem RepZ.le {w : World} {led : List (Addr × Obj)} {D : Int} {v : Value} {z : Int} : ∀ {j k : Nat}, j ≤ k → RepZ w led D j v z → RepZ w led D k v z := by
  intro j k h
  induction h with
  | refl => exact id
  | step _ ih => exact fun x => (ih x).up
theorem take_ord {w : World} {y : Addr} {ep : Nat} {ks : List Nat} : (ordOf w y ep ks).take ks.length = ordOf w y ep ks := by
  rw [← (ord_perm w y ep ks).length_eq, List.take_length]
theorem RepZ.four {w : World} {led : List (Addr × Obj)} {D : Int} {v : Value} {z : Int} {j : Nat} (h : j ≤ 4) (r : RepZ w led D j v z) : RepAt w led D 4 v z := (r.le h).1
theorem score_u {w : World} {fv : Value} {need : List (Addr × Obj)} {D : Int} {G : Nat → Int} (hf : ScoreOk w fv need D G) {A : Around} {p9 : Program} {lo9 : List Str} {mean : ExcName → Option Value} {mg mb : Str → Option Value} {cn : Str} {cs : Scope} {a : Addr} {ccd : Value} {cl : List (Str × Addr)} {outer : List Env} {A₀ : Around} {base h₀ : Heap} {L : Addr} {m : Str → Option Value} {news : List (Addr × Obj)} {s : Shared}
   {Q E : Value → Shared → Prop} {i : Int} {ti : Tok} (hh : A.handled = none) (hdp : A.depth ≤ 440) (hfr : A.frames = some (envX cn cs L a ccd cl :: outer)) (hun : A.units ≤ 70)
   (B : Below A₀ base outer h₀) (F : Fr h₀ L s.heap m) (X : (hd.heap_39 w.params).In h₀) (N : News h₀ L s.heap news) (T : Top p9 lo9 mean mg mb h₀) (hk : cs.kind = .function) (hneed : ∀ p ∈ need, p ∈ news) (h1 : 1 ≤ i) (h3 : i ≤ 3)
   (hret : ∀ x n d h' tk' led', 0 < d → n * D = G i.toNat * d → d ≤ 9 → 0 ≤ n → n ≤ 1 → Fr h₀ L h' m → News h₀ L h' led' → (∀ p ∈ news, p ∈ led') → (∀ p ∈ led', p ∈ news ∨ ∀ q ∈ news, q.1 < p.1) → FrAt w led' x n d → Q (.ref x) { s with heap := h', toks := tk' }) :
   wpAny (model PySem.Challenge.rw_bb0001_01.row.prog w) A (call fv [.int i ti]) Q E s :=
  wp_weaken hh hdp (.inr hfr) (.inl rfl) hun (hf mean mg mb cn cs a ccd cl outer A₀ base h₀ L m news s Q E i ti B F X N T hk hneed h1 h3 hret)
theorem inst_prof {h₀ h : Heap} {L x dx : Addr} {news : List (Addr × Obj)} {od : Obj} (N : News h₀ L h news) (h1 : (x, instObj 596 dx) ∈ news) (h2 : (dx, od) ∈ news) :
    InstAt h x { cls := .ref 596, dict := some dx, data := .plain } 596 (some od) := ⟨(N _ h1).1, rfl, rfl, (N _ h2).1⟩
theorem head_adr {h₀ h : Heap} {L a : Addr} {o : Obj} {news : List (Addr × Obj)} (_ : News h₀ L h ((a, o) :: news)) : ∃ lm, lm = a := ⟨a, rfl⟩
theorem mem_io {p : Addr × Obj} {I : Addr} {io : Obj} {l : List (Addr × Obj)} (h : p ∈ l) : p ∈ (I, io) :: l := .tail _ h
theorem mem_two {h₀ h : Heap} {L : Addr} {p q : Addr × Obj} {news : List (Addr × Obj)} (_ : News h₀ L h (p :: q :: news)) : ∀ r ∈ news, r ∈ p :: q :: news := fun _ hp => .tail _ (.tail _ hp)
theorem zeros_get {n c : Nat} {v : Value} (h : c < n) : ((List.replicate (n : Int).toNat [v]).flatten.toArray)[c]? = some v := by
  have e : (List.replicate (n : Int).toNat [v]).flatten = List.replicate n v := by
    rw [Int.toNat_natCast]
    clear h
    induction n with
    | zero => rfl
    | succ n ih => rw [List.replicate_succ, List.flatten_cons, ih, List.replicate_succ]; rfl
  rw [e]
  simp [h]
theorem inst_cs {h₀ h : Heap} {L x dx : Addr} {news : List (Addr × Obj)} {od : Obj} {es : Array (Int × Value)} {ep : Nat} {t : SetTable} (N : News h₀ L h news) (h1 : (x, csObj dx es ep t) ∈ news) (h2 : (dx, od) ∈ news) :
    InstAt h x (csObj dx es ep t) 75 (some od) := ⟨(N _ h1).1, rfl, rfl, (N _ h2).1⟩
local macro_rules | `(tactic| k_inst) => `(tactic| (refine' inst_cs ?N ?h1 ?h2; (case N => k_asm); (case h1 => k_mem); (case h2 => k_mem)))
local macro_rules | `(tactic| k_mem) => `(tactic| first | assumption | exact List.Mem.head _ | (refine List.Mem.tail _ ?_; k_mem))
set_option hygiene false in
local macro_rules | `(tactic| wtm_at "own call builtin:set.intersection") => `(tactic| (k_here; refine' cs_inter ?hh ?X ?F ?N hks a3' hcm' hcn hcv ?h4 hcnd ?_; (case N => assumption); (case F => assumption); (case X => assumption); (case hh => exact rfl); (case h4 => exact fun k hk => Nat.lt_of_lt_of_le (hclt k hk) (by omega)); intro r6 h6 tk6 trs6 er6 led6 F6 N6 l6))
local macro_rules | `(tactic| wtm_at "own exec For Name Name cons nil") => `(tactic| refine Halt9.intro ?_)
local macro_rules | `(tactic| wtm_at "own exec For Name Attribute cons nil") => `(tactic| refine Halt9.intro ?_)
local macro_rules | `(tactic| wtm_at "own pyIter ref") => `(tactic| refine Halt9.intro ?_)
local macro_rules | `(tactic| wtm_at "own call builtin:len") => `(tactic| (k_here; (k_dflt (refine len_l N' (by k_mem) (by omega) ?_)); intro t' tk'; (try dsimp only)))
set_option hygiene false in
local macro_rules | `(tactic| wtm_at "own call builtin:len") => `(tactic| (k_here; (with_reducible show wpAny _ _ (call (Value.builtin "len") [Value.ref r6]) _ _ _); (k_dflt (refine len_set hsub6 (Frag.In.keeps (by assumption) F6.keep) (N6 _ (.head _)).1 ?_)); rw [hlen6]; intro t7 tk7; (try dsimp only)))
set_option hygiene false in
local macro_rules | `(tactic| wtm_at "own getMethod ref") => `(tactic| (k_here; refine' gm_inter ?X ?F ?N a3' a4' ?_; (case N => assumption); (case F => assumption); (case X => assumption); (try dsimp only)))
set_option hygiene false in
local macro_rules | `(tactic| wtm_at "own eval Name") => `(tactic| (k_here; name_kind "local"; k_dflt (refine q_locF (by assumption) (by first | with_reducible (first | exact hm1 | exact hm2 | exact hm3 | exact hm4 | exact hm5) | (first | exact hm1 | exact hm2 | exact hm3 | exact hm4 | exact hm5)) (by kernel_rfl!) (by kernel_rfl!) (by exact rfl) ?_)))
set_option hygiene false in
local macro_rules | `(tactic| wtm_at "own callWith ref") => `(tactic| (k_here; (with_reducible show wpAny _ _ (callWith _ (Value.ref f) [] _ _) _ _ _); k_dflt (refine callWith_fp ?_)))
local macro_rules | `(tactic| wtm_at "own binaryOp Mult int ref") => `(tactic| refine Halt9.intro ?_)
local macro_rules | `(tactic| wtm_at "own CalleeThen") => `(tactic| refine Halt9.intro ?_)
local macro_rules | `(tactic| wtm_at "own inplaceOp Add") => `(tactic| refine Halt9.intro ?_)
local macro_rules | `(tactic| wtm_at "own setItem ref int") => `(tactic| refine Halt9.intro ?_)
set_option maxRecDepth 100000 in
set_option maxHeartbeats 2000000 in
theorem marg {p9 : Program} {lo9 : List Str} (w : World) (mean : ExcName → Option Value) (mg mb : Str → Option Value) (cn : Str) (cs : Scope) (a : Addr) (ccd : Value) (cl : List (Str × Addr)) (outer : List Env) (A₀ : Around) (base h₀ : Heap) (L : Addr) (m : Str → Option Value) (news : List (Addr × Obj)) (s : Shared)
   (Q E : Value → Shared → Prop) (f : Addr) (need : List (Addr × Obj)) (D : Int) (G : Nat → Int) (p lv lcm : Addr) (n : Nat) (vv : Array Value) (nlv : Nat) (bs : List (List Nat × Int)) (cms : Array Value) (ncm : Nat) (com : List Nat)
   (B : Below A₀ base outer h₀) (F : Fr h₀ L s.heap m) (X : (hd.heap_39 w.params).In h₀) (N : News h₀ L s.heap news)
   (T : Top p9 lo9 mean mg mb h₀)
   (hk : cs.kind = .function) (hn : n = 3 ∨ n = 4) (hp : ProfAt w news p n lv) (hD : 0 < D) (hf : ScoreOk w (.ref f) need D G) (hneed : ∀ p ∈ need, p ∈ news) (hfc : ∀ h : Heap, (∀ b ob, h₀.get? b = some ob → h.get? b = some ob) → (∀ p ∈ need, h.get? p.1 = some p.2) → Callee h f) (hlv : (lv, ({ cls := .type "list", data := .seq vv nlv } : Obj)) ∈ news) (hvot : VotersAt w news vv bs) (hbs : bs.length ≤ 4) (hb : ∀ b ∈ bs, b.1 ∈ subs ∧ (∀ k ∈ b.1, k < n) ∧ 0 < b.2 ∧ b.2 ≤ 1001)
   (hcm : (lcm, ({ cls := .type "list", data := .seq cms ncm } : Obj)) ∈ news) (hcn : com.length = cms.size) (hcv : ∀ i v, cms[i]? = some v → ∃ t, v = Value.int ((com.getD i 0 : Nat) : Int) t) (hclt : ∀ k ∈ com, k < n) (hcnd : com.Nodup) (hc2 : com.length ≤ 2)
   (hret : ∀ lm om ms h' g' d' tk' led', Fr h₀ L h' m → News h₀ L h' led' → (∀ p ∈ news, p ∈ led') → (∀ p ∈ news, p.1 ≠ lm) → (lm, om) ∈ led' → LObj om ms → ms.size = n → (∀ c, c < n → ∃ v, ms[c]? = some v ∧ if c ∈ com then ∃ t, v = .int (-1) t else RepAt w led' D 4 v (sumG G bs com c)) → g' = s.gens → Q (.ref lm) ⟨h', g', d', tk', s.os⟩) :
   wpAny (model PySem.Challenge.rw_bb0001_01.row.prog w) { handled := none, depth := 430, frames := some (envX cn cs L a ccd cl :: outer), guards := none, units := 60 } (call (.ref 334) [.ref f, .ref p, .ref lcm]) Q E s := by
  revert X
  k_fill
  intro X
  have hp0 := hp
  obtain ⟨dp, lc, ln, k1, k2, k3, vs, nl, hp1, hp2, hp3, hvs, hlcv⟩ := hp
  refine wpAny_call ?_
  k_dflt (refine' code_def ?k1 ?k2 ?k3 ?k4 ?k5 ?kA ?kF ?kK ?k6 ?k7 ?k8 ?k9 ?kB ?_ ?c2 ?c3 ?c4 ?c5; (case kA => exact rfl); (case kF => exact rfl); (case kK => assumption); (case k1 => k_asm); (case k2 => k_asm); (case k3 => k_asm); (case k4 => k_asm); (case k5 => k_asm); (case k6 => k_is); (case k7 => k_is); (case k8 => k_room); (case k9 => first | exact BindsTo.of_eq rfl | exact binds_K (by k_in) rfl (by k_is) rfl rfl rfl | fail "k_enter: no rule for these arguments"); (case c5 => decide); (case kB => exact locs rfl); (case c2 => exact rfl); (case c3 => exact rfl); (case c4 => exact rfl); k_whole; intro g' L' h' FG' F' N' B' X' T'; (try dsimp only); (try k_lift B'); (try k_fold))
  k_steps
  refine Halt9.out ?_
  rename Fr _ _ _ _ => FF
  rename News _ _ _ _ => NN
  rename _ ∧ AllLt _ _ => LL
  have hmem := mem_two NN
  refine For_c ?_
  k_steps
  refine Halt9.out ?_
  refine owit_iter FF (by assumption) (inst_prof NN (hmem _ hp1) (hmem _ hp2)) (by k_is) (by k_is) ?_
  refine pf_iter_u rfl (Nat.le_of_ble_eq_true rfl) rfl (Nat.le_of_ble_eq_true rfl) p lv n vv nlv (by assumption) FF (by assumption) NN (by assumption) rfl (hp0.mono hmem) (hmem _ hlv) fun I h1 tk1 F1 N1 l1 => ?_
  unfold OwitIt
  refine wpAny_specialOf (T := "list_iterator") ⟨_, (N1 _ (.head _)).1, rfl⟩ slot_listiter_next.lookup ?_
  dsimp only
  obtain ⟨lm, hlm⟩ := head_adr NN
  subst hlm
  have hlmn : ∀ p ∈ news, p.1 ≠ lm := fun p hp => Nat.ne_of_lt (allLt_mem LL.2 p hp)
  refine iter_c_made (fun i m₁ led₁ g => g = s.gens ∧ m₁ (Str.ofString "marginal") = some (.ref lm) ∧ m₁ (Str.ofString "marginal_scorefct") = some (.ref f) ∧ m₁ (Str.ofString "committee") = some (.ref lcm) ∧ (∀ p ∈ news, p ∈ led₁) ∧ ∃ om ms, (lm, om) ∈ led₁ ∧ LObj om ms ∧ ms.size = n ∧ ∀ c, c < n → ∃ v, ms[c]? = some v ∧ RepZ w led₁ D i v (sumG G (bs.take i) com c))
    rfl .lit (fun i m led g hJ => hJ.2.2.2.2.1 _ hlv) F1 N1 l1 ⟨rfl, rfl, rfl, rfl, hmem, _, _, .head _, .lit, ?_, ?_⟩ ?_ ?_
  · simp
  · intro c hc
    exact ⟨_, zeros_get hc, RepZ.zero⟩
  · rintro i v m₁ led₁ I io h g d t hi hv ⟨rfl, hm1, hm2, hm3, hsub, om, ms, hlm1, hom, hms, hrep⟩ hoff hio F2 N2
    refine turn_name F2 N2 rfl rfl fun h3 t3 F3 N3 => ?_
    obtain ⟨b, hbi⟩ : ∃ b, bs[i]? = some b := ⟨_, List.getElem?_eq_getElem (by rw [← hvot.1]; exact hi)⟩
    obtain ⟨v', hv', x, dx, y, dy, tks, ep, kk1, kk2, tw, rfl, a1, a2, a3, a4⟩ := hvot.2 i b hbi
    obtain rfl : v = .ref x := Option.some.inj (hv.symm.trans hv')
    obtain ⟨hks, hkn, hw0, hw1⟩ := hb b (List.mem_of_getElem? hbi)
    have a1' := mem_io (I := I) (io := io) (hsub _ a1)
    have a2' := mem_io (I := I) (io := io) (hsub _ a2)
    have a3' := mem_io (I := I) (io := io) (hsub _ a3)
    have a4' := mem_io (I := I) (io := io) (hsub _ a4)
    have hcm' := mem_io (I := I) (io := io) (hsub _ hcm)
    have hf4 : ∀ k ∈ com.filter (· ∈ b.1), k < 4 := fun k hk => Nat.lt_of_lt_of_le (hclt k (List.mem_filter.mp hk).1) (by omega)
    have hsub6 : insAll [] (com.filter (· ∈ b.1)) ∈ subs := insAll_subs _ [] (by decide) hf4
    have hlen6 : (insAll [] (com.filter (· ∈ b.1))).length = (com.filter (· ∈ b.1)).length := by
      rw [insAll_len _ _ (hcnd.filter _) (by simp)]; simp
    k_steps
    refine Halt9.out ?_
    rename Fr _ _ _ _ => FF2
    rename News _ _ _ _ => NN2
    refine For_c ?_
    k_steps
    refine Halt9.out ?_
    refine iter_c_set (fun t m₂ led₂ g => g = s.gens ∧ m₂ (Str.ofString "marginal") = some (.ref lm) ∧ m₂ (Str.ofString "marginal_scorefct") = some (.ref f) ∧ m₂ (Str.ofString "committee") = some (.ref lcm) ∧ m₂ (Str.ofString "voter") = some (.ref x) ∧ (∃ tt, m₂ (Str.ofString "intersectionsize") = some (.int ((com.filter (· ∈ b.1)).length : Int) tt)) ∧ (∀ p ∈ (I, io) :: led₁, p.1 ≠ lm → p ∈ led₂) ∧ ∃ om ms, (lm, om) ∈ led₂ ∧ LObj om ms ∧ ms.size = n ∧ ∀ c, c < n → ∃ v, ms[c]? = some v ∧ RepZ w led₂ D (if c ∈ (ordOf w y ep b.1).take t then i + 1 else i) v (sumG G (bs.take i) com c + if c ∈ (ordOf w y ep b.1).take t then b.2 * G ((com.filter (· ∈ b.1)).length + 1) else 0))
      rfl (by assumption) hks (fun t m led g hJ => hJ.2.2.2.2.2.2.1 _ a3' (hlmn _ a3)) FF2 NN2 ⟨rfl, hm1, hm2, hm3, rfl, ⟨_, rfl⟩, fun p hp _ => .tail _ hp, om, ms, .tail _ (.tail _ hlm1), hom, hms, ?_⟩ ?_ ?_
    · intro c hc
      obtain ⟨v, e, r⟩ := hrep c hc
      refine ⟨v, e, ?_⟩
      simp only [List.take_zero, List.not_mem_nil, if_false, Int.add_zero]
      exact r.mono fun p hp => .tail _ (.tail _ hp)
    · rintro t k m₂ led₂ I2 io2 h g d tt ht hk ⟨rfl, hm1, hm2, hm3, hm4, ⟨t9, hm5⟩, hsub2, om2, ms2, hlm2, hom2, hms2, hrep2⟩ hoff2 hio2 F4 N4
      refine turn_name F4 N4 rfl rfl fun h5 t5 F5 N5 => ?_
      have hkb : k ∈ b.1 := (ord_perm w y ep b.1).mem_iff.mp (List.mem_of_getElem? hk)
      have hkn' : k < n := hkn k hkb
      have hi3 : i ≤ 3 := by have := hvot.1; omega
      have hnd9 : (ordOf w y ep b.1).Nodup := (ord_perm w y ep b.1).nodup_iff.mpr (subs_nodup _ hks)
      have hkt : k ∉ (ordOf w y ep b.1).take t := fun hm => nodup_take hnd9 hk hm
      obtain ⟨v0, hv0, hr0⟩ := hrep2 k hkn'
      rw [if_neg hkt, if_neg hkt, Int.add_zero] at hr0
      have b1' := mem_io (I := I2) (io := io2) (hsub2 _ a1' (hlmn _ a1))
      have b2' := mem_io (I := I2) (io := io2) (hsub2 _ a2' (hlmn _ a2))
      have hk63 : (k : Int) < 2 ^ 63 := by omega
      k_steps
      refine get_led N5 (mem_io hlm2) hom2 (Int.natCast_nonneg _) hk63 (by simpa using hv0) ?_
      k_steps
      refine Halt9.out ?_
      rename Fr _ _ _ _ => FF5
      rename News _ _ _ _ => NN5
      have FG := by with_reducible rename Fr h₀ L _ m => z; exact z
      refine ⟨hfc _ (fun b ob e => FF5.keep _ _ (FG.keep _ _ e)) (fun p hp => (NN5 _ (mem_io (hsub2 _ (mem_io (hsub _ (hneed _ hp))) (hlmn _ (hneed _ hp))))).1), ?_⟩
      have hlen2 : (com.filter (· ∈ b.1)).length ≤ com.length := List.length_filter_le ..
      refine score_u hf rfl (Nat.le_of_ble_eq_true rfl) rfl (Nat.le_of_ble_eq_true rfl) (by assumption) FF5 (by assumption) NN5 (by assumption) rfl (fun p hp => mem_io (hsub2 _ (mem_io (hsub _ (hneed _ hp))) (hlmn _ (hneed _ hp)))) (by omega) (by omega) fun x7 n7 d7 h7 tk7 led7 z1 z2 z3 z4 z5 F7 N7 s7 r7 f7 => ?_
      have hG7 : ((((com.filter (· ∈ b.1)).length : Int) + 1).toNat) = (com.filter (· ∈ b.1)).length + 1 := by omega
      rw [hG7] at z2
      k_steps
      refine Halt9.out ?_
      refine rep_mul_u rfl (Nat.le_of_ble_eq_true rfl) rfl (Nat.le_of_ble_eq_true rfl) x7 n7 d7 b.2 tw (by assumption) F7 (by assumption) N7 (by assumption) rfl f7 z1 z3 z4 z5 hw0 hw1 fun x8 n8 d8 h8 tk8 led8 y1 y2 y3 y4 y5 F8 N8 s8 r8 f8 => ?_
      k_steps
      refine Halt9.out ?_
      refine rep_add_u rfl (Nat.le_of_ble_eq_true rfl) rfl (Nat.le_of_ble_eq_true rfl) v0 i D (sumG G (bs.take i) com k) (b.2 * G ((com.filter (· ∈ b.1)).length + 1)) x8 n8 d8 (by assumption) F8 (by assumption) N8 (by assumption) rfl (hr0.1.mono fun p hp => s8 _ (s7 _ (mem_io hp))) hi3 f8 y1 y2 y4 y5 (frac_scale z1 y3 (by rw [Int.mul_right_comm, z2, Int.mul_right_comm, Int.mul_comm b.2])) hr0.2 fun x9 h9 tk9 led9 rp9 F9 N9 s9 r9 => ?_
      k_steps
      refine Halt9.out ?_
      refine set_led (led := led9) F9 N9 (s9 _ (s8 _ (s7 _ (mem_io hlm2)))) hom2 (Int.natCast_nonneg _) hk63 (by omega) fun h10 o10 ho10 F10 N10 => ?_
      k_steps
      obtain ⟨fs2, hfs2⟩ := hio2
      have hlI2 : lm ≠ I2 := hoff2 _ hlm2
      have up9 : ∀ p ∈ (I2, io2) :: led₂, p ∈ led9 := fun p hp => s9 _ (s8 _ (s7 _ hp))
      have hI9 := up9 _ (.head _)
      have hl9 := up9 _ (mem_io hlm2)
      have soft9 : ∀ p ∈ led9, Soft p → p ∈ off I2 (put lm o10 led9) := fun p hp hs => mem_off.mpr ⟨soft_put N9 hl9 hom2 p hp hs, News.ne_data N9 hp hI9 (by rw [hfs2]; rcases hs with e | ⟨es, n, e⟩ <;> rw [e] <;> intro z <;> cases z)⟩
      refine ⟨_, _, F10, N10, mem_put hI9 (Ne.symm hlI2), ⟨rfl, hm1, hm2, hm3, hm4, ⟨_, hm5⟩, fun p hp hne => mem_off.mpr ⟨mem_put (up9 _ (mem_io (hsub2 p hp hne))) hne, hoff2 _ (hsub2 p hp hne)⟩, o10, _, mem_off.mpr ⟨mem_put_self, hlI2⟩, ho10, by simpa using hms2, ?_⟩, rfl⟩
      intro c hc
      by_cases hck : c = k
      · subst hck
        refine ⟨.ref x9, by simp [hms2, hc], ?_⟩
        have ht1 : c ∈ (ordOf w y ep b.1).take (t + 1) := mem_take_succ hk
        rw [if_pos ht1, if_pos ht1]
        exact ⟨rp9.soft soft9, fun c t e => by cases e⟩
      · obtain ⟨v, e, r⟩ := hrep2 c hc
        have hiff : c ∈ (ordOf w y ep b.1).take (t + 1) ↔ c ∈ (ordOf w y ep b.1).take t := mem_take_other hk hck
        refine ⟨v, by simpa [Array.getElem?_setIfInBounds, Ne.symm hck] using e, ?_⟩
        simp only [hiff]
        exact r.soft fun p hp hs => soft9 p (up9 _ (mem_io hp)) hs
    · rintro m₂ led₂ h g d t ⟨rfl, hm1, hm2, hm3, hm4, ⟨t9, hm5⟩, hsub2, om2, ms2, hlm2, hom2, hms2, hrep2⟩ F4 N4
      k_steps
      obtain ⟨fs, hfs⟩ := hio
      have hlI : lm ≠ I := hoff _ hlm1
      have hI4 : (I, io) ∈ led₂ := hsub2 _ (.head _) (Ne.symm hlI)
      refine ⟨_, _, F4, N4, hI4, ⟨rfl, hm1, hm2, hm3, fun p hp => mem_off.mpr ⟨hsub2 _ (mem_io (hsub _ hp)) (hlmn _ hp), hoff _ (hsub _ hp)⟩, om2, ms2, mem_off.mpr ⟨hlm2, hlI⟩, hom2, hms2, ?_⟩, rfl⟩
      intro c hc
      obtain ⟨v, e, r⟩ := hrep2 c hc
      refine ⟨v, e, ?_⟩
      rw [take_ord] at r
      have hco : c ∈ ordOf w y ep b.1 ↔ c ∈ b.1 := (ord_perm w y ep b.1).mem_iff
      simp only [hco] at r
      rw [sumG_succ G com c hbi]
      refine RepZ.soft ?_ (soft_off N4 hI4 hfs)
      by_cases hcb : c ∈ b.1
      · rw [if_pos hcb] at r
        exact r
      · rw [if_neg hcb] at r
        exact r.up
  · rintro m₁ led₁ h g d t ⟨rfl, hm1, hm2, hm3, hsub, om, ms, hlm1, hom, hms, hrep⟩ F2 N2
    have htk : bs.take vv.size = bs := by rw [hvot.1, List.take_length]
    rw [htk] at hrep
    k_steps
    refine Halt9.out ?_
    refine For_c ?_
    k_steps
    refine Halt9.out ?_
    refine iter_c_list (fun i m₂ led₂ g => g = s.gens ∧ m₂ (Str.ofString "marginal") = some (.ref lm) ∧ (∀ p ∈ news, p ∈ led₂) ∧ ∃ om ms, (lm, om) ∈ led₂ ∧ LObj om ms ∧ ms.size = n ∧ ∀ c, c < n → ∃ v, ms[c]? = some v ∧ if c ∈ com.take i then ∃ t, v = .int (-1) t else RepZ w led₂ D vv.size v (sumG G bs com c))
      rfl .lit (fun i m led g hJ => hJ.2.2.1 _ hcm) F2 N2 ⟨rfl, hm1, hsub, om, ms, hlm1, hom, hms, by simpa using hrep⟩ ?_ ?_
    · rintro i v m₂ led₂ I2 io2 h g d t hi hv ⟨rfl, hm1, hsub2, om2, ms2, hlm2, hom2, hms2, hrep2⟩ hoff2 ⟨fs2, hfs2⟩ F4 N4
      refine turn_name F4 N4 rfl rfl fun h5 t5 F5 N5 => ?_
      obtain ⟨tk, rfl⟩ := hcv i v hv
      have hic : i < com.length := by omega
      have hci : com[i]? = some (com.getD i 0) := by simp [List.getD, hic]
      have hkn := hclt _ (List.mem_of_getElem? hci)
      generalize com.getD i 0 = k at *
      have hk63 : (k : Int) < 2 ^ 63 := by omega
      k_steps
      refine Halt9.out ?_
      refine set_led F5 N5 (mem_io hlm2) hom2 (Int.natCast_nonneg _) hk63 (by omega) fun h10 o10 ho10 F10 N10 => ?_
      k_steps
      have hlI2 : lm ≠ I2 := hoff2 _ hlm2
      refine ⟨_, _, F10, N10, mem_put (.head _) (Ne.symm hlI2), ⟨rfl, hm1, fun p hp => mem_off.mpr ⟨mem_put (mem_io (hsub2 p hp)) (hlmn p hp), hoff2 _ (hsub2 p hp)⟩, o10, _, mem_off.mpr ⟨mem_put_self, hlI2⟩, ho10, by simpa using hms2, ?_⟩, rfl⟩
      intro c hc
      by_cases hck : c = k
      · subst hck
        refine ⟨_, by simp [hms2, hc]; rfl, ?_⟩
        rw [if_pos (mem_take_succ hci)]
        exact ⟨_, rfl⟩
      · obtain ⟨v, e, r⟩ := hrep2 c hc
        refine ⟨v, by simpa [Array.getElem?_setIfInBounds, Ne.symm hck] using e, ?_⟩
        simp only [mem_take_other hci hck]
        split
        · rename_i hin
          rw [if_pos hin] at r
          exact r
        · rename_i hin
          rw [if_neg hin] at r
          exact r.soft fun p hp hs => mem_off.mpr ⟨soft_put N5 (mem_io hlm2) hom2 p (mem_io hp) hs, hoff2 p hp⟩
    · rintro m₂ led₂ h g d t ⟨rfl, hm1, hsub2, om2, ms2, hlm2, hom2, hms2, hrep2⟩ F4 N4
      k_steps
      have hct : com.take cms.size = com := by rw [← hcn, List.take_length]
      rw [hct] at hrep2
      refine hret lm om2 ms2 h s.gens d t led₂ (by assumption) (by assumption) hsub2 hlmn hlm2 hom2 hms2 (fun c hc => ?_) rfl
      obtain ⟨v, e, r⟩ := hrep2 c hc
      refine ⟨v, e, ?_⟩
      split
      · rename_i hin
        rw [if_pos hin] at r
        exact r
      · rename_i hin
        rw [if_neg hin] at r
        exact RepZ.four (by rw [hvot.1]; exact hbs) r
theorem marg_u {A : Around} {p9 : Program} {lo9 : List Str} {w : World} {mean : ExcName → Option Value} {mg mb : Str → Option Value} {cn : Str} {cs : Scope} {a : Addr} {ccd : Value} {cl : List (Str × Addr)} {outer : List Env} {A₀ : Around} {base h₀ : Heap} {L : Addr} {m : Str → Option Value} {news : List (Addr × Obj)} {s : Shared}
   {Q E : Value → Shared → Prop}
   (hh : A.handled = none) (hdp : A.depth ≤ 430) (hfr : A.frames = some (envX cn cs L a ccd cl :: outer)) (hun : A.units ≤ 60) (f : Addr) (need : List (Addr × Obj)) (D : Int) (G : Nat → Int) (p lv lcm : Addr) (n : Nat) (vv : Array Value) (nlv : Nat) (bs : List (List Nat × Int)) (cms : Array Value) (ncm : Nat) (com : List Nat)
   (B : Below A₀ base outer h₀) (F : Fr h₀ L s.heap m) (X : (hd.heap_39 w.params).In h₀) (N : News h₀ L s.heap news)
   (T : Top p9 lo9 mean mg mb h₀)
   (hk : cs.kind = .function) (hn : n = 3 ∨ n = 4) (hp : ProfAt w news p n lv) (hD : 0 < D) (hf : ScoreOk w (.ref f) need D G) (hneed : ∀ p ∈ need, p ∈ news) (hfc : ∀ h : Heap, (∀ b ob, h₀.get? b = some ob → h.get? b = some ob) → (∀ p ∈ need, h.get? p.1 = some p.2) → Callee h f) (hlv : (lv, ({ cls := .type "list", data := .seq vv nlv } : Obj)) ∈ news) (hvot : VotersAt w news vv bs) (hbs : bs.length ≤ 4) (hb : ∀ b ∈ bs, b.1 ∈ subs ∧ (∀ k ∈ b.1, k < n) ∧ 0 < b.2 ∧ b.2 ≤ 1001)
   (hcm : (lcm, ({ cls := .type "list", data := .seq cms ncm } : Obj)) ∈ news) (hcn : com.length = cms.size) (hcv : ∀ i v, cms[i]? = some v → ∃ t, v = Value.int ((com.getD i 0 : Nat) : Int) t) (hclt : ∀ k ∈ com, k < n) (hcnd : com.Nodup) (hc2 : com.length ≤ 2)
   (hret : ∀ lm om ms h' g' d' tk' led', Fr h₀ L h' m → News h₀ L h' led' → (∀ p ∈ news, p ∈ led') → (∀ p ∈ news, p.1 ≠ lm) → (lm, om) ∈ led' → LObj om ms → ms.size = n → (∀ c, c < n → ∃ v, ms[c]? = some v ∧ if c ∈ com then ∃ t, v = .int (-1) t else RepAt w led' D 4 v (sumG G bs com c)) → g' = s.gens → Q (.ref lm) ⟨h', g', d', tk', s.os⟩) :
   wpAny (model PySem.Challenge.rw_bb0001_01.row.prog w) A (call (.ref 334) [.ref f, .ref p, .ref lcm]) Q E s :=
  wp_weaken hh hdp (.inr hfr) (.inl rfl) hun (marg w mean mg mb cn cs a ccd cl outer A₀ base h₀ L m news s Q E f need D G p lv lcm n vv nlv bs cms ncm com B F X N T hk hn hp hD hf hneed hfc hlv hvot hbs hb hcm hcn hcv hclt hcnd hc2 hret)

end Mine
end

/- Gen1c -/
section
open PySem PySem.W PyProof.Rows PySem.Calls PySem.Spec
open PySem.W.X (tableObj)
open PySem.Sem (wp)
set_option linter.unusedVariables false
set_option maxRecDepth 100000
namespace Mine
/-- an object, a dict or a set -/
def Firm (p : Addr × Obj) : Prop := p.2.data = .plain ∨ (∃ es n, p.2.data = .dict es n) ∨ ∃ es n t, p.2.data = .set es n t
theorem firm_off {h₀ h : Heap} {L I : Addr} {io : Obj} {led : List (Addr × Obj)} {fs : Array Value} (N : News h₀ L h led) (hI : (I, io) ∈ led) (hio : io.data = .fields fs) : ∀ p ∈ led, Firm p → p ∈ off I led := fun p hp hs =>
  mem_off.mpr ⟨hp, News.ne_data N hp hI (by rw [hio]; rcases hs with e | ⟨es, n, e⟩ | ⟨es, n, t, e⟩ <;> rw [e] <;> intro z <;> cases z)⟩
theorem firm_offl {h₀ h : Heap} {L I : Addr} {io : Obj} {led : List (Addr × Obj)} {xs : Array Value} {c : Nat} (N : News h₀ L h led) (hI : (I, io) ∈ led) (hio : io.data = .seq xs c) : ∀ p ∈ led, Firm p → p ∈ off I led := fun p hp hs =>
  mem_off.mpr ⟨hp, News.ne_data N hp hI (by rw [hio]; rcases hs with e | ⟨es, n, e⟩ | ⟨es, n, t, e⟩ <;> rw [e] <;> intro z <;> cases z)⟩
section
variable {prog : Program} {w : World} {A : Around} {E : Value → Shared → Prop} {s : Shared}
theorem collect_o {elt iter : Expr} {x : Str} {px : Pos} {scope : Scope} {pos : Pos} {a I l P : Addr} {g NG : Nat} {v₀ : Value} {cenv : Env} {Φ : Value → List (Addr × Obj) → Prop} {mC : Str → Option Value} {Q : List Value → Shared → Prop} {h₁ : Heap} {led : List (Addr × Obj)} {lo po : Obj} {t1 t2 : Tok} {q : Str}
    (hh : A.handled = none) (hlim : h₁.NoLimit) (hroom : A.depth < recursionLimit)
    (hx : cenv.kindOf x = some .local) (hp : (cenv.scope.kind == .class || (cenv.scope.kind == .module && cenv.locals != cenv.globals)) = false) (hco : cenv.scope.isCoroutine = false)
    (hgs : s.gens[g]? = some (.fresh (.compStart (.GeneratorExp elt [⟨.Name x px, iter, [], 0⟩] scope pos) 0 (.ref I) .none cenv)))
    (F : Fr h₁ cenv.locals s.heap mC) (N : News h₁ cenv.locals s.heap ((a, genObj g t1 t2 q) :: (I, lsIter l 0) :: led)) (haI : a ≠ I) (hord : ∀ p ∈ led, p.1 < I ∧ p.1 < a) (hl : (l, lo) ∈ led) (hlo : LObj lo #[v₀]) (hPm : (P, po) ∈ led) (hlP : l ≠ P) (G : GB NG s.gens) (hgN : g < NG)
    (hΦ : ∀ y led led', (∀ p ∈ led, Firm p ∨ p.1 = P → p ∈ led') → Φ y led → Φ y led')
    (helt : ∀ (A' : Around) E' (h : Heap) (g' : Array GenState) (t : Nat) (led₂ : List (Addr × Obj)), A'.handled = none → A'.depth ≤ A.depth + 1 → A'.units ≤ A.units + 8 → A'.frames = pushEnvs [cenv] A.frames → A'.guards = pushGuards [] A.guards → GB NG g' →
      Fr h₁ cenv.locals h (fun y => if y = x then some v₀ else mC y) → News h₁ cenv.locals h led₂ → (∀ p ∈ led, p ∈ led₂) →
      wpAny (model prog w) A' (eval elt cenv) (fun y s₄ => ∃ m' led₃, Fr h₁ cenv.locals s₄.heap m' ∧ News h₁ cenv.locals s₄.heap led₃ ∧ (∀ p ∈ led₂, p.1 ≠ P → p ∈ led₃) ∧ (∃ po', (P, po') ∈ led₃ ∧ Φ y led₃) ∧ GB NG s₄.gens ∧ s₄.os = s.os) E' ⟨h, g', s.drawn, t, s.os⟩)
    (hQ : ∀ y h' g' d' t' m' led', Fr h₁ cenv.locals h' m' → News h₁ cenv.locals h' led' → (∀ p ∈ led, p.1 ≠ P → p ∈ led') → GB NG g' → Φ y led' → Q [y] ⟨h', g', d', t', s.os⟩) :
    wpAny (model prog w) A (collect (.ref a)) Q E s := by
  have lt : ∀ p ∈ (a, genObj g t1 t2 q) :: (I, lsIter l 0) :: led, p.1 < s.heap.objs.size := fun p hp => Heap.lt_size (N p hp).1
  have hgen : s.heap.IsGen a g := ⟨_, _, _, (N _ (.head _)).1, rfl, rfl, rfl⟩
  unfold collect
  refine wpAny_bind (wpAny_runValue (codeAny_builtin PySem.F.entry_proto_collect ?_))
  rw [Around.under_plainId PySem.F.plain_proto_collect _]
  show wpAny _ A.in1 (newList [] >>= fun l => again (.builtin "list.__iadd__" ⟨[l, .ref a], []⟩)) _ _ s
  refine wpAny_bind (wpAny_newObj_type ?_)
  refine wpAny_pure ⟨plainId_quiet PySem.F.plain_list_iadd _, codeAny_builtin PySem.F.entry_list_iadd ?_⟩
  rw [Around.under_plainId PySem.F.plain_list_iadd _]
  have F1 := F.push { cls := .type "list", data := .seq ([] : List Value).toArray }
  have N1 := N.push F { cls := .type "list", data := .seq ([] : List Value).toArray }
  have hS1 := (N1 _ (.head _)).1
  have kp : ∀ b o, s.heap.get? b = some o → (s.heap.push { cls := .type "list", data := .seq ([] : List Value).toArray }).get? b = some o := fun b o e => Heap.get?_push_of_some _ e
  have hSa : s.heap.objs.size ≠ a := Nat.ne_of_gt (lt _ (.head _))
  have hSI : s.heap.objs.size ≠ I := Nat.ne_of_gt (lt _ (.tail _ (.head _)))
  generalize s.heap.push { cls := .type "list", data := .seq ([] : List Value).toArray } = h2 at F1 N1 hS1 kp ⊢
  show wpAny _ A.in1 (Builtin.List.listExtendWith (.ref s.heap.objs.size) (.ref a) (.ref s.heap.objs.size)) _ _ _
  unfold Builtin.List.listExtendWith
  have hgen2 := hgen.keeps kp
  refine wpAny_bind (wpAny_typeOf (s := { s with heap := h2 }) hgen2.typeIs ?_)
  have q1 : Builtin.List.listSameRef (.ref s.heap.objs.size) (.ref a) = false := by simp [Builtin.List.listSameRef, hSa]
  have q2 : (Value.type "generator" == Value.type "list") = false := by decide
  have q3 : (Value.type "generator" == Value.type "tuple") = false := by decide
  simp only [q1, q2, q3, Bool.or_false, Bool.false_eq_true, if_false]
  refine wpAny_bind (wpAny_pyIter_gen (s := { s with heap := h2 }) hgen2 ?_)
  refine wpAny_bind (wpAny_holding ?_)
  unfold Builtin.List.listLengthHint
  refine wpAny_bind (wpAny_specialOf (s := { s with heap := h2 }) hgen2.typeIs PySem.F.gen_no_len ?_)
  show wpAny _ A.in1 (specialOf (Value.ref a) (Str.ofString "__length_hint__") >>= _) _ _ _
  refine wpAny_bind (wpAny_specialOf (s := { s with heap := h2 }) hgen2.typeIs PySem.F.gen_no_hint ?_)
  refine wpAny_pure ?_
  show wpAny _ A.in1 (rule "list.extend.makes-room" >>= fun _ => Builtin.List.listTouch (.ref s.heap.objs.size) >>= fun _ =>
    again (.builtin "list.extend.loop" ⟨[.ref s.heap.objs.size, .ref a, .ref s.heap.objs.size], []⟩)) _ _ _
  refine wpAny_bind (wpAny_rule ?_)
  refine wpAny_bind ?_
  show wpAny _ A.in1 (updateSeq s.heap.objs.size (·.push .none) >>= fun _ => updateSeq s.heap.objs.size (·.pop)) _ _ _
  refine wpAny_bind (wpAny_updateSeq hS1 rfl ?_)
  have hS2 := Heap.get?_update_self (Obj.mapSeq (·.push Value.none)) hS1 rfl
  refine wpAny_updateSeq hS2 rfl ?_
  obtain ⟨c3, hS3⟩ : ∃ c3, ((h2.update s.heap.objs.size (Obj.mapSeq (·.push Value.none))).update s.heap.objs.size (Obj.mapSeq (·.pop))).get? s.heap.objs.size = some { cls := .type "list", data := .seq #[] c3 } := ⟨_, Heap.get?_update_self (Obj.mapSeq (·.pop)) hS2 rfl⟩
  have oth : ∀ b o, b ≠ s.heap.objs.size → h2.get? b = some o → ((h2.update s.heap.objs.size (Obj.mapSeq (·.push Value.none))).update s.heap.objs.size (Obj.mapSeq (·.pop))).get? b = some o :=
    fun b o hb e => (Heap.get?_update_other _ _ (Ne.symm hb)).trans ((Heap.get?_update_other _ _ (Ne.symm hb)).trans e)
  have F3 := fr_but F1 (N1 _ (.head _)).2.1 (N1 _ (.head _)).2.2 oth
  have N3 : News h₁ cenv.locals ((h2.update s.heap.objs.size (Obj.mapSeq (·.push Value.none))).update s.heap.objs.size (Obj.mapSeq (·.pop))) ((s.heap.objs.size, { cls := .type "list", data := .seq #[] c3 }) :: (a, genObj g t1 t2 q) :: (I, lsIter l 0) :: led) :=
    news_but N1 (fun p hp => Nat.ne_of_lt (lt p hp)) hS3 oth
  generalize (h2.update s.heap.objs.size (Obj.mapSeq (·.push Value.none))).update s.heap.objs.size (Obj.mapSeq (·.pop)) = h3 at F3 N3 ⊢
  have hlI : l ≠ I := Nat.ne_of_lt (hord _ hl).1
  have hCI : cenv.locals ≠ I := Ne.symm (N _ (.tail _ (.head _))).2.1
  have hCl : cenv.locals ≠ l := Ne.symm (N _ (.tail _ (.tail _ hl))).2.1
  have hPa := hord _ hPm
  refine wpAny_pure ⟨plainId_quiet PySem.F.plain_extend_loop _, ?_⟩
  refine codeAny_builtin PySem.F.entry_extend_loop ?_
  rw [Around.under_plainId PySem.F.plain_extend_loop _]
  show wpAny _ A.in1 (pyNext (.ref a) >>= _) _ _ _
  refine wpAny_bind ?_
  have bare1 : GB NG (s.setGen g .running).gens := ⟨G.bare.moved (GenOnlyQ.of (GenOnly.setGen s g .running) (setGen_self hgs) rfl), by rw [(GenOnly.setGen s g .running).1]; exact G.size⟩
  refine next_o1 (A := A.in1) (l := l) (v₀ := v₀) (Φ := fun y s₄ => ∃ m' led₃, Fr h₁ cenv.locals s₄.heap m' ∧ News h₁ cenv.locals s₄.heap led₃ ∧ (s.heap.objs.size, ({ cls := .type "list", data := .seq #[] c3 } : Obj)) ∈ led₃ ∧ (a, genObj g t1 t2 q) ∈ led₃ ∧ (∃ io, (I, io) ∈ led₃ ∧ ∃ fs, io.data = .fields fs) ∧ (∀ p ∈ led, p.1 ≠ P → p ∈ led₃) ∧ Φ y led₃ ∧ GB NG s₄.gens ∧ s₄.os = s.os) hh (hlim.keeps F3.keep) hroom hlI hCI hCl hx hp hco ⟨_, _, _, (N3 _ (.tail _ (.head _))).1, rfl, rfl, rfl⟩ hgs F3.ns ⟨_, (N3 _ (.tail _ (.tail _ (.head _)))).1, rfl, rfl⟩ (hlo.isList (N3 _ (.tail _ (.tail _ (.tail _ hl)))).1) ?_ ?_
  · intro h tk E' hn hit hold
    obtain ⟨io, hio, hic, hid⟩ := hit
    have F4 : Fr h₁ cenv.locals h (fun y => if y = x then some v₀ else mC y) := ⟨hn, fun b o e => hold b o (fun q => by
      have := (N _ (.tail _ (.head _))).2.2
      rw [q] at e
      exact absurd (e.symm.trans this) (by simp)) (fun q => by rw [q] at e; exact absurd (Heap.lt_size e) (Nat.not_lt.mpr F.above)) (F3.keep b o e), F.above⟩
    have N4 : News h₁ cenv.locals h ((s.heap.objs.size, { cls := .type "list", data := .seq #[] c3 }) :: (a, genObj g t1 t2 q) :: (I, io) :: led) := fun p hp => by
      rcases List.mem_cons.mp hp with rfl | hp
      · exact ⟨hold _ _ hSI (N3 _ (.head _)).2.1 (N3 _ (.head _)).1, (N3 _ (.head _)).2⟩
      · rcases List.mem_cons.mp hp with rfl | hp
        · exact ⟨hold _ _ haI (N3 _ (.tail _ (.head _))).2.1 (N3 _ (.tail _ (.head _))).1, (N3 _ (.tail _ (.head _))).2⟩
        · rcases List.mem_cons.mp hp with rfl | hp
          · exact ⟨hio, (N3 _ (.tail _ (.tail _ (.head _)))).2⟩
          · have z := N3 p (.tail _ (.tail _ (.tail _ hp)))
            exact ⟨hold _ _ (Nat.ne_of_lt (hord p hp).1) z.2.1 z.1, z.2⟩
    refine wpAny_mono (helt _ E' h (s.setGen g .running).gens tk _ hh (Nat.le_refl _) (by show A.units + 1 + 1 + 0 + 3 ≤ A.units + 8; omega) rfl rfl bare1 F4 N4 fun p hp => .tail _ (.tail _ (.tail _ hp))) (fun y s₄ hy => ?_) fun _ _ e => e
    obtain ⟨m', led₃, F5, N5, hsub, ⟨po', hpo, hphi⟩, G5, hos⟩ := hy
    have hS5 := hsub _ (.head _) (Nat.ne_of_gt (lt _ (.tail _ (.tail _ hPm))))
    have ha5 := hsub _ (.tail _ (.head _)) (Nat.ne_of_gt hPa.2)
    have hI5 := hsub _ (.tail _ (.tail _ (.head _))) (Nat.ne_of_gt hPa.1)
    have hl5 := hsub _ (.tail _ (.tail _ (.tail _ hl))) hlP
    exact ⟨⟨m', led₃, F5, N5, hS5, ha5, ⟨io, hI5, _, hid⟩, fun p hp hne => hsub p (.tail _ (.tail _ (.tail _ hp))) hne, hphi, G5, hos⟩, ⟨m', F5.ns⟩, ⟨io, (N5 _ hI5).1, hic, hid⟩, hlo.isList (N5 _ hl5).1⟩
  · rintro y s₁ gs' hb ⟨m', led₃, F5, N5, hS5, ha5, ⟨io, hI5, fs, hfs⟩, hsub, hphi, G5, hos⟩ hr hgo
    show wpAny _ A.in1 (updateSeq s.heap.objs.size (·.push y) >>= _) _ _ _
    refine wpAny_bind ?_
    refine wpAny_updateSeq (s := s₁.setGen g gs') (N5 _ hS5).1 rfl ?_
    obtain ⟨c6, hS6⟩ : ∃ c6, (s₁.heap.update s.heap.objs.size (Obj.mapSeq (·.push y))).get? s.heap.objs.size = some { cls := .type "list", data := .seq #[y] c6 } := ⟨_, Heap.get?_update_self (Obj.mapSeq (·.push y)) (N5 _ hS5).1 rfl⟩
    have oth : ∀ b o, b ≠ s.heap.objs.size → s₁.heap.get? b = some o → (s₁.heap.update s.heap.objs.size (Obj.mapSeq (·.push y))).get? b = some o := fun b o hb e => (Heap.get?_update_other _ _ (Ne.symm hb)).trans e
    have F6 := fr_but F5 (N5 _ hS5).2.1 (N5 _ hS5).2.2 oth
    have N6 := news_put N5 hS5 oth hS6
    show wpAny _ A.in1 _ _ _ { s₁.setGen g gs' with heap := s₁.heap.update s.heap.objs.size (Obj.mapSeq (·.push y)) }
    obtain ⟨om, hns⟩ : ∃ om, s₁.gens[g]? = some om := ⟨_, Array.getElem?_eq_getElem (Nat.lt_of_lt_of_le hgN G5.size)⟩
    have gself : (s₁.setGen g gs').gens[g]? = some gs' := setGen_self hns
    have G6 : GB NG (s₁.setGen g gs').gens := ⟨G5.bare.moved (GenOnlyQ.of (GenOnly.setGen s₁ g gs') gself hb), by rw [(GenOnly.setGen s₁ g gs').1]; exact G5.size⟩
    have hr6 : OReady cenv.locals I l #[v₀] { s₁.setGen g gs' with heap := s₁.heap.update s.heap.objs.size (Obj.mapSeq (·.push y)) } := by
      obtain ⟨_, ⟨io', e1, e2⟩, ⟨lo', e3, e4⟩⟩ := hr
      exact ⟨⟨m', F6.ns⟩, ⟨io', oth _ _ (Ne.symm hSI) e1, e2⟩, ⟨lo', oth _ _ (Nat.ne_of_lt (lt _ (.tail _ (.tail _ hl)))) e3, e4⟩⟩
    have ha6 := mem_put (o := { cls := .type "list", data := .seq #[y] c6 }) ha5 (Ne.symm hSa)
    have hI6 := mem_put (o := { cls := .type "list", data := .seq #[y] c6 }) hI5 (Ne.symm hSI)
    generalize s₁.heap.update s.heap.objs.size (Obj.mapSeq (·.push y)) = h6 at F6 N6 hr6 ⊢
    refine wpAny_pure ⟨plainId_quiet PySem.F.plain_extend_loop _, ?_⟩
    refine codeAny_builtin PySem.F.entry_extend_loop ?_
    rw [Around.under_plainId PySem.F.plain_extend_loop _]
    show wpAny _ A.in1 (pyNext (.ref a) >>= _) _ _ _
    refine wpAny_bind ?_
    refine next_o2 (A := A.in1) (l := l) (v₀ := v₀) (C := cenv.locals) hh (hlim.keeps F6.keep) hroom ⟨_, _, _, (N6 _ ha6).1, rfl, rfl, rfl⟩ gself hr6 hgo fun h7 tk7 hk7 => ?_
    refine wpAny_pure ?_
    have F7 := fr_but F6 (N6 _ hI6).2.1 (N6 _ hI6).2.2 hk7
    have N7 : News h₁ cenv.locals h7 (off I (put s.heap.objs.size { cls := .type "list", data := .seq #[y] c6 } led₃)) := fun p hp => by
      obtain ⟨p1, p2⟩ := mem_off.mp hp
      exact ⟨hk7 _ _ p2 (N6 p p1).1, (N6 p p1).2⟩
    have hS7 := (N7 _ (mem_off.mpr ⟨mem_put_self, hSI⟩)).1
    show wpAny _ A (load s.heap.objs.size >>= _) _ _ _
    refine wpAny_bind (wpAny_load hS7 ?_)
    refine wpAny_pure ?_
    have gs2 : (({ s₁.setGen g gs' with heap := h6 } : Shared).setGen g .running).gens[g]? = some .running := setGen_self gself
    have G7 : GB NG ((({ s₁.setGen g gs' with heap := h6 } : Shared).setGen g .running).setGen g .finished).gens := by
      have z := (GenOnlyQ.of (GenOnly.setGen ({ s₁.setGen g gs' with heap := h6 } : Shared) g .running) gs2 rfl).trans (GenOnlyQ.of (GenOnly.setGen (({ s₁.setGen g gs' with heap := h6 } : Shared).setGen g .running) g .finished) (setGen_self gs2) rfl)
      refine ⟨G6.bare.moved z, ?_⟩
      rw [(GenOnly.setGen (({ s₁.setGen g gs' with heap := h6 } : Shared).setGen g .running) g .finished).1, (GenOnly.setGen ({ s₁.setGen g gs' with heap := h6 } : Shared) g .running).1]
      exact G6.size
    have fin := hQ y h7 _ s₁.drawn tk7 m' _ F7 N7 (fun p hp hne => mem_off.mpr ⟨mem_put (hsub p hp hne) (Nat.ne_of_lt (lt _ (.tail _ (.tail _ hp)))), Nat.ne_of_lt (hord p hp).1⟩) G7 (hΦ y led₃ _ (fun p hp hs => hs.elim (fun hs => firm_off N6 hI6 hfs p (mem_put hp (News.ne_data N5 hp hS5 (by rcases hs with e | ⟨es, n, e⟩ | ⟨es, n, t, e⟩ <;> rw [e] <;> intro z <;> cases z))) hs) (fun e => mem_off.mpr ⟨mem_put hp (by rw [e]; exact Nat.ne_of_lt (lt _ (.tail _ (.tail _ hPm)))), by rw [e]; exact Nat.ne_of_lt hPa.1⟩)) hphi)
    rw [← hos] at fin
    exact fin
end
end Mine
end

/- GenS -/
section
open PySem PySem.W PyProof.Rows PySem.Calls PySem.Spec
set_option linter.unusedVariables false
namespace Mine
section
variable {w : World} {A : Around} {E : Value → Shared → Prop} {s : Shared} {c P : Addr} {ps : Array Value} {mg : Str → Option Value} {bm : Addr} {ob : Obj}
theorem gen_set {NG : Nat} {env : Env} {elt iter : Expr} {x : Str} {px : Pos} {scope : Scope} {cl : List (Str × Addr)} {pos : Pos} {Q : Value → Shared → Prop} {l dx : Addr} {ks : List Nat} {tk : Nat → Tok} {ep : Nat}
    (heval : ∀ Q' : Value → Shared → Prop, Q' (.ref l) s → wpAny (model PySem.Challenge.rw_bb0001_01.row.prog w) A (eval iter env) Q' E s)
    (X : (hd.heap_39 w.params).In s.heap) (hks : ks ∈ subs) (hl : s.heap.get? l = some (csObj dx (esOf ks tk) ep (tabS ks (!bt w)))) (G : GB NG s.gens) (hlim : s.heap.NoLimit)
    (M : BMod s.heap env.globals mg bm ob) (hcode : env.code = .ref c) (hok : s.heap.IsCode c P ps) (htab : s.heap.TableAt c P ps)
    (hh : A.handled = none) (hco : scope.isCoroutine = false) (hclos : closureFor scope env = pure cl) (hcell : ∀ y ∈ scope.names, y.2 ≠ .cell) (h0 : scope.names.lookup (".0" : Str) = some NameKind.local)
    (hx : scope.names.lookup x = some .local) (hkind : scope.kind = .function) (hroom : A.depth < recursionLimit) (F : Nat → Value → Prop)
    (quiet : ∀ (code : Value) (C : Addr) (A' : Around) E' i v (t : Shared) m₂, A'.handled = none → A'.depth ≤ A.depth + 1 → A'.units ≤ A.units + 8 → (∃ k, (ordOf w l ep ks)[i]? = some k ∧ v = .int (k : Int) (tk k)) → t.heap.Ns C m₂ → m₂ x = some v → (∀ b o, b ≠ P → s.heap.get? b = some o → t.heap.get? b = some o) →
          wpAny (model PySem.Challenge.rw_bb0001_01.row.prog w) A' (eval elt (genEnv scope cl C code builtinsNs env)) (fun y s₃ => F i y ∧ Keeps t s₃) E' t)
    (hQ : ∀ (a : Addr) (s₅ : Shared) ps', s₅.heap.IsCode c P ps' → s₅.heap.TableAt c P ps' → (∃ more, ps' = ps ++ more) → GB NG s₅.gens → s₅.os = s.os → s₅.drawn = s.drawn → (∀ b o, b ≠ P → s.heap.get? b = some o → s₅.heap.get? b = some o) →
          Gen PySem.Challenge.rw_bb0001_01.row.prog w A (s.heap.objs.size - 1) a ks.length F s₅ → Q (.ref a) s₅)
    (hs : ∀ x, genFold iter env x = pure x) :
    wpAny (model PySem.Challenge.rw_bb0001_01.row.prog w) A (eval (.GeneratorExp elt [⟨.Name x px, iter, [], 0⟩] scope pos) env) Q E s := by
  refine wpAny_GeneratorExp_walksQD hh hco hclos hcell h0 hx hkind hroom (heval _ ?_) hs
  have hlt : l < s.heap.objs.size := Heap.lt_size hl
  have hne : l ≠ s.heap.objs.size := Nat.ne_of_lt hlt
  have hPlt : P < s.heap.objs.size := Heap.lt_size htab.2
  have hlP : l ≠ P := fun e => by
    rw [e, htab.2] at hl; cases hl
  have hcP : cStatics ≠ P := fun e => by
    obtain ⟨_, hns, _⟩ := hlim
    obtain ⟨o, es, ep, ho, hd, _⟩ := hns
    rw [e, htab.2] at ho; cases ho; cases hd
  have hclt : cStatics < s.heap.objs.size := let ⟨_, hn, _⟩ := hlim; hn.lt
  refine si_iter (h := s.heap) (g := s.gens) (d := s.drawn) (t := s.toks) (os := s.os) X hks hl ⟨hlim.push _, ?_⟩
  have kp : ∀ b o, s.heap.get? b = some o → (s.heap.push (itObj 0 0 l ks.length ep)).get? b = some o := fun b o e => Heap.get?_push_of_some _ e
  have hpi : (s.heap.push (itObj 0 0 l ks.length ep)).get? s.heap.objs.size = some (itObj 0 0 l ks.length ep) := Heap.get?_push_size _ rfl
  have hps : (s.heap.push (itObj 0 0 l ks.length ep)).objs.size = s.heap.objs.size + 1 := Heap.size_push ..
  have hl2 := hlim.push (itObj 0 0 l ks.length ep)
  have hok' := hok.keeps kp
  have htab' := htab.keeps kp
  have M' := M.keeps kp
  have hls' := kp _ _ hl
  have st0 : SetSt w s.heap.objs.size l dx ks tk ep 0 (s.heap.push (itObj 0 0 l ks.length ep)) := ⟨0, hpi, hls', fun _ => rfl⟩
  generalize s.heap.push (itObj 0 0 l ks.length ep) = h₂ at *
  have main : ∀ (code : Value) h₃ tk₃ ps', Heap.ExtBut P h₂ h₃ → h₂.objs.size ≤ h₃.objs.size → h₃.IsCode c P ps' → h₃.TableAt c P ps' → (∃ more, ps' = ps ++ more) →
      wpAny (model PySem.Challenge.rw_bb0001_01.row.prog w) A (builtinsFor env.globals env.builtins) (fun bi s₄ =>
        ∃ I fp wr n₀ P St₀ pz F, (Value.ref s.heap.objs.size) = .ref I ∧ (∀ A' : Around, A'.handled = none → Walks PySem.Challenge.rw_bb0001_01.row.prog w A' I fp wr n₀ P St₀) ∧ St₀ 0 s₄.heap ∧ (∀ b ∈ fp, b < s₄.heap.objs.size) ∧ s₄.heap.NoLimit ∧ cStatics ∉ wr ∧
          (∀ href : Heap, (∀ b o, s₄.heap.get? b = some o → href.get? b = some o) →
            QuietGenD PySem.Challenge.rw_bb0001_01.row.prog w (genEnv scope cl s₄.heap.objs.size code bi env) x [] elt (List.range s₄.heap.objs.size) wr P pz F href (A.depth + 1) (A.units + 8)) ∧
          (∀ a h₅ tk gs, gs.bare = true → s₄.heap.objs.size < a → h₅.objs.size = a + 1 → (∀ b o, s₄.heap.get? b = some o → h₅.get? b = some o) →
            WalksS PySem.Challenge.rw_bb0001_01.row.prog w A.in4 a (a :: s₄.heap.objs.size :: List.range s₄.heap.objs.size) (s₄.heap.objs.size :: wr) (GenOnlyQ s₄.gens.size) (passing pz n₀ 0).length
              (fun j y => ∃ i, (passing pz n₀ 0)[j]? = some i ∧ F i y) (GenAt PySem.Challenge.rw_bb0001_01.row.prog w A.in4 a s₄.gens.size s₄.heap.objs.size (List.range s₄.heap.objs.size) wr pz n₀ F) →
            GenAt PySem.Challenge.rw_bb0001_01.row.prog w A.in4 a s₄.gens.size s₄.heap.objs.size (List.range s₄.heap.objs.size) wr pz n₀ F 0 { s₄ with gens := s₄.gens.push gs, toks := tk, heap := h₅ } →
            Q (.ref a) { s₄ with gens := s₄.gens.push gs, toks := tk, heap := h₅ })) E { s with heap := h₃, toks := tk₃ } := by
    intro code h₃ tk₃ ps' hx₃ hsz hcode₃ htab₃ hmore
    have M₃ : BMod h₃ env.globals mg bm ob := M'.extBut htab' hx₃
    have hl₃ : h₃.NoLimit := hl2.extBut hx₃ hcP
    have h1 : s.heap.objs.size < h₃.objs.size := Nat.lt_of_lt_of_le (by rw [hps]; exact Nat.lt_succ_self _) hsz
    have hIP : s.heap.objs.size ≠ P := Nat.ne_of_gt hPlt
    have hall : ∀ n, passing (fun _ => true) n 0 = List.range n := by
      intro n; unfold passing; simp [List.range_eq_range']
    refine wpAny_builtinsFor M₃.ns M₃.name M₃.ne M₃.obj M₃.cls M₃.dict M₃.data ?_
    refine ⟨s.heap.objs.size, [s.heap.objs.size, l], [s.heap.objs.size], ks.length, _, _, fun _ => true, F, rfl, fun A' hA => Walks.cset hA _ l dx hne ks hks tk ep, ?_, ?_, hl₃, ?_, ?_, ?_⟩
    · exact (Walks.cset (prog := PySem.Challenge.rw_bb0001_01.row.prog) (w := w) hh s.heap.objs.size l dx hne ks hks tk ep).frame _ _ _ st0 fun b hb o e => hx₃ b o (by
        rcases List.mem_cons.mp hb with rfl | hb
        · exact hIP
        · rw [List.mem_singleton.mp hb]; exact hlP) e
    · intro b hb
      show b < h₃.objs.size
      rcases List.mem_cons.mp hb with rfl | hb
      · exact h1
      · rw [List.mem_singleton.mp hb]; exact Nat.lt_trans hlt h1
    · intro hm
      rw [List.mem_singleton.mp hm] at hclt
      exact Nat.lt_irrefl _ hclt
    · intro href hhref
      refine ⟨fun A' E' i v t m₂ hA hD hU hP hn hm hkp => wpAny_pure ⟨rfl, t.heap, t.toks, rfl, fun _ _ e => e⟩, fun A' E' i v t m₂ hA hD hU hP _ hn hm hkp => quiet code _ A' E' i v t m₂ hA hD hU hP hn hm fun b o hbP e => ?_⟩
      have e₃ := hx₃ b o hbP (kp b o e)
      have hbl := Heap.lt_size e
      exact hkp b (List.mem_range.mpr (Heap.lt_size e₃)) (fun hm => Nat.ne_of_lt hbl (List.mem_singleton.mp hm)) o (hhref b o e₃)
    · intro a h₅ tk gs hgb hag hsz₅ hk₅ W hat
      refine hQ a _ ps' (hcode₃.keeps hk₅) (htab₃.keeps hk₅) hmore (G.push hgb) rfl rfl (fun b o hb e => hk₅ b o (hx₃ b o hb (kp b o e))) ?_
      have e1 : (passing (fun _ => true) ks.length 0).length = ks.length := by rw [hall]; simp
      rw [e1] at W
      have W' : WalksS PySem.Challenge.rw_bb0001_01.row.prog w A.in4 a (a :: h₃.objs.size :: List.range h₃.objs.size) (h₃.objs.size :: [s.heap.objs.size]) (GenOnlyQ s.gens.size) ks.length F (GenAt PySem.Challenge.rw_bb0001_01.row.prog w A.in4 a s.gens.size h₃.objs.size (List.range h₃.objs.size) [s.heap.objs.size] (fun _ => true) ks.length F) := by
        refine ⟨W.sub, W.grefl, W.gtrans, W.frame, fun i s Q E hi st k => W.item i s Q E hi st fun v s' hP => k v s' ?_, W.done, W.self⟩
        obtain ⟨j, hj, hF⟩ := hP
        rw [hall, List.getElem?_range hi] at hj
        exact Option.some.inj hj ▸ hF
      refine ⟨_, _, _, _, W', hat, (fun i s' st => st.1.typeIs), List.mem_cons_self, ?_, ?_⟩
      · intro b hb
        show b < h₅.objs.size
        rw [hsz₅]
        rcases List.mem_cons.mp hb with rfl | hb
        · exact Nat.lt_succ_self _
        · rcases List.mem_cons.mp hb with rfl | hb
          · exact Nat.lt_succ_of_lt hag
          · exact Nat.lt_succ_of_lt (Nat.lt_trans (List.mem_range.mp hb) hag)
      · intro b hb
        rcases List.mem_cons.mp hb with rfl | hb
        · show s.heap.objs.size - 1 < h₃.objs.size; omega
        · rw [List.mem_singleton.mp hb]; exact Nat.sub_lt (Nat.lt_of_le_of_lt (Nat.zero_le _) hlt) Nat.one_pos
  cases hc : codeAmong pos ps.toList with
  | none => exact wpAny_genexprCodeX hcode hok' htab' hc fun c' h₃ tk₃ hx₃ hge hlt' hcode₃ _ htab₃ _ => main _ _ _ _ hx₃ (Nat.le_trans hge (Nat.le_of_lt hlt')) hcode₃ htab₃ ⟨_, rfl⟩
  | some c' => exact wpAny_genexprCode_hit hcode hok' hc (main _ _ _ _ (fun b o _ e => e) (Nat.le_refl _) hok' htab' ⟨#[], by simp⟩)
end
section
open PySem.W.X (tableObj)
variable {w : World} {A : Around} {E : Value → Shared → Prop} {s : Shared} {c P L : Addr} {ps : Array Value} {mg mb : Str → Option Value} {h₀ : Heap} {m : Str → Option Value} {p9 : Program} {lo9 : List Str} {mean : ExcName → Option Value} {rest : List (Addr × Obj)}
theorem gen_ks {NG : Nat} {env : Env} {elt iter : Expr} {x : Str} {px : Pos} {scope : Scope} {cl : List (Str × Addr)} {pos : Pos} {Q : Value → Shared → Prop} {l dx : Addr} {ks : List Nat} {tk : Nat → Tok} {ep : Nat}
    (F₀ : Fr h₀ L s.heap m) (X : (hd.heap_39 w.params).In h₀) (N : News h₀ L s.heap ((P, tableObj ps) :: rest)) (T : Top p9 lo9 mean mg mb h₀) (G : GB NG s.gens) (CT : CodeTab (hd.heap_39 w.params) c P) (htr : TriplesOk ps.toList) (hP : ∀ p ∈ rest, p.1 ≠ P)
    (heval : ∀ Q' : Value → Shared → Prop, Q' (.ref l) s → wpAny (model PySem.Challenge.rw_bb0001_01.row.prog w) A (eval iter env) Q' E s)
    (hks : ks ∈ subs) (hl : (l, csObj dx (esOf ks tk) ep (tabS ks (!bt w))) ∈ rest) (hglob : env.globals = mainGlobals)
    (hcode : env.code = .ref c)
    (hh : A.handled = none) (hco : scope.isCoroutine = false) (hclos : closureFor scope env = pure cl) (hcell : ∀ y ∈ scope.names, y.2 ≠ .cell) (h0 : scope.names.lookup (".0" : Str) = some NameKind.local)
    (hx : scope.names.lookup x = some .local) (hkind : scope.kind = .function) (hroom : A.depth < recursionLimit) (F : Nat → Value → Prop)
    (quiet : ∀ (code : Value) (C : Addr) (A' : Around) E' i v (t : Shared) m₂, A'.handled = none → A'.depth ≤ A.depth + 1 → A'.units ≤ A.units + 8 → (∃ k, (ordOf w l ep ks)[i]? = some k ∧ v = .int (k : Int) (tk k)) → t.heap.Ns C m₂ → m₂ x = some v → (∀ b o, b ≠ P → s.heap.get? b = some o → t.heap.get? b = some o) →
          wpAny (model PySem.Challenge.rw_bb0001_01.row.prog w) A' (eval elt (genEnv scope cl C code builtinsNs env)) (fun y s₃ => F i y ∧ Keeps t s₃) E' t)
    (hQ : ∀ (a : Addr) (s₅ : Shared) ps' k, (∃ more, ps' = ps ++ more) → TriplesOk ps'.toList → GB NG s₅.gens → s₅.os = s.os → Fr h₀ L s₅.heap m → News h₀ L s₅.heap ((P, tableObj ps') :: rest) → L ≤ k → (∀ p ∈ (P, tableObj ps') :: rest, p.1 ≤ k) →
          Gen PySem.Challenge.rw_bb0001_01.row.prog w A k a ks.length F s₅ → Q (.ref a) s₅)
    (hs : ∀ x, genFold iter env x = pure x) :
    wpAny (model PySem.Challenge.rw_bb0001_01.row.prog w) A (eval (.GeneratorExp elt [⟨.Name x px, iter, [], 0⟩] scope pos) env) Q E s := by
  obtain ⟨bm, ob, b1, b2, b3, b4, b5, b6⟩ := T.bmain
  obtain ⟨i1, i2⟩ := CT s.heap ps (X.keeps F₀.keep) (N _ (.head _)).1 htr
  have M : BMod s.heap env.globals mg bm ob := ⟨hglob ▸ T.g.keeps F₀.keep, b1, b2, F₀.keep _ _ b3, b4, b5, b6⟩
  refine gen_set heval (X.keeps F₀.keep) hks (N _ (.tail _ hl)).1 G (T.nolimit.keeps F₀.keep) M hcode i1 i2 hh hco hclos hcell h0 hx hkind hroom F quiet (fun a s₅ ps' j1 j2 hm hg hos hdr hk hGen => ?_) hs
  have hsz : ∀ p ∈ (P, tableObj ps') :: rest, p.1 ≤ s.heap.objs.size - 1 := by
    intro p hp
    have : p.1 < s.heap.objs.size := by
      rcases List.mem_cons.mp hp with rfl | hp
      · exact Heap.lt_size (N _ (.head _)).1
      · exact Heap.lt_size (N _ (.tail _ hp)).1
    exact Nat.le_sub_one_of_lt this
  exact hQ a s₅ ps' _ hm (triples_of j1) hg hos (fr_but F₀ (N _ (.head _)).2.1 (N _ (.head _)).2.2 hk) (news_but N hP j2.2 hk) (Nat.le_sub_one_of_lt F₀.ns.lt) hsz hGen
end
end Mine
end

/- CN -/
section
open PySem.W.X (tableObj)
open PySem PySem.W PyProof.Rows PySem.Calls PySem.Spec
set_option linter.unusedVariables false
namespace Mine
theorem cod_weaken {M : Model} {A A' : Around} {c : Code} {R : Result → Shared → Prop} {s : Shared} (hh : A.handled = A'.handled) (hd : A.depth ≤ A'.depth) (hf : A'.frames = none ∨ A.frames = A'.frames) (hg : A'.guards = none ∨ A.guards = A'.guards)
    (hu : A.units ≤ A'.units) (h : codeAny M A' c R s) : codeAny M A c R s := fun Γ p hc hΓ => h Γ p hc ⟨hΓ.1.trans hh, Nat.le_trans hΓ.2.1 hd, fun l hl => hΓ.2.2.1 l (hf.elim (fun e => by rw [e] at hl; cases hl) fun e => e.trans hl), fun g hl => hΓ.2.2.2.1 g (hg.elim (fun e => by rw [e] at hl; cases hl) fun e => e.trans hl), Nat.le_trans hΓ.2.2.2.2 hu⟩
theorem cs_new_g {NG : Nat} {p9 : Program} {lo9 : List Str} (w : World) (mean : ExcName → Option Value) (mg mb : Str → Option Value) (envG : Env) (outer : List Env) (A₀ : Around) (base h₀ : Heap) (L : Addr) (m : Str → Option Value) (s : Shared)
   (R : Result → Shared → Prop) (l : Addr) (vs : Array Value) (ns : List Nat) (nl : Nat)
   (B : Below A₀ base outer h₀) (F : Fr h₀ L s.heap m) (X : (hd.heap_39 w.params).In h₀) 
   (T : Top p9 lo9 mean mg mb h₀)
   (hfG : envG.frame = some L) (hk : envG.scope.kind = .function) (rest : List (Addr × Obj)) (ps : Array Value) (N : News h₀ L s.heap ((52, tableObj ps) :: rest)) (nc : Value) (kws : List (Str × Value)) (hkw : (kws = [] ∧ nc = .none) ∨ kws = [(Str.ofString "num_cand", nc)]) (hnc : nc = .none ∨ ∃ n tn, nc = Value.int n tn ∧ ∀ k ∈ ns, (k : Int) < n)
   (h52 : ∀ p ∈ rest, p.1 ≠ 52) (htr : TriplesOk ps.toList) (hG : GB NG s.gens) (hl : (l, { cls := .type "list", data := .seq vs nl }) ∈ rest) (hn : ns.length = vs.size) (hval : ∀ i v, vs[i]? = some v → ∃ t, v = Value.int ((ns.getD i 0 : Nat) : Int) t) (hlt : ∀ k ∈ ns, k < 4) (hnd : ns.Nodup) (hvz : vs.size ≤ 4)
   (hret : ∀ x dx h' g' d' t' o' ps' tks ep', (∃ more, ps' = ps ++ more) → TriplesOk ps'.toList → GB NG g' → o' = s.os → Fr h₀ L h' m → News h₀ L h' ((x, csObj dx (esOf (insAll [] ns) tks) ep' (tabS (insAll [] ns) (!w.params.followText "set-order"))) :: (dx, dictOf [] 0) :: (52, tableObj ps') :: rest) → (∀ p ∈ (52, tableObj ps) :: rest, p.1 < dx) → dx < x → R (.ok (.ret (.ref x))) ⟨h', g', d', t', o'⟩) :
   codeAny (model PySem.Challenge.rw_bb0001_01.row.prog w) { handled := none, depth := 450, frames := some (envG :: outer), guards := none, units := 80 } (.call (.ref 75) ⟨[.ref l], kws⟩) R s := by
  obtain ⟨hh, g, d, t, os⟩ := s
  have lt : ∀ p ∈ (52, tableObj ps) :: rest, p.1 < hh.objs.size := fun p hp => Heap.lt_size (N p hp).1
  refine make_cs (X.keeps F.keep) ?_
  have F1 := F.push emptyDict
  have N1 := N.push F emptyDict
  have F2 := F1.push (csObj hh.objs.size #[] 0 (.fresh 0 0 (!w.params.followText "set-order")))
  have N2 := N1.push F1 (csObj hh.objs.size #[] 0 (.fresh 0 0 (!w.params.followText "set-order")))
  rw [Heap.size_push] at N2
  generalize (hh.push emptyDict).push (csObj hh.objs.size #[] 0 (.fresh 0 0 (!w.params.followText "set-order"))) = h2 at F2 N2 ⊢
  refine cod_weaken (A' := { handled := none, depth := 460, frames := some (envG :: outer), guards := none, units := 90 }) rfl (Nat.le_of_ble_eq_true rfl) (.inr rfl) (.inl rfl) (Nat.le_of_ble_eq_true rfl) ?_
  have lx : ∀ p ∈ (52, tableObj ps) :: rest, p.1 ≠ hh.objs.size + 1 := fun p hp e => absurd (lt p hp) (by rw [e]; exact Nat.not_lt.mpr (Nat.le_succ _))
  have hdx : hh.objs.size ≠ 52 := fun e => absurd (lt _ (.head _)) (by rw [e]; exact Nat.lt_irrefl _)
  refine cs_init_g (s := ⟨h2, g, d, t, os⟩) w mean mg mb envG outer A₀ base h₀ L m _ _ (hh.objs.size + 1) hh.objs.size l (!w.params.followText "set-order") vs ns nl B F2 X (cb_drop N2 ?_) T hfG hk ((hh.objs.size, emptyDict) :: rest) ps nc kws hkw hnc rfl ?_ ?_ ?_ htr hG (.head _) (.tail _ hl) hn hval hlt hnd hvz fun h' g' d' t' o' ps' tks ep' hm htr' hG' ho' F' N' => ⟨rfl, ?_⟩
  · intro p hp
    rcases List.mem_cons.mp hp with rfl | hp
    · exact .head _
    · rcases List.mem_cons.mp hp with rfl | hp
      · exact .tail _ (.tail _ (.head _))
      · rcases List.mem_cons.mp hp with rfl | hp
        · exact .tail _ (.head _)
        · exact .tail _ (.tail _ (.tail _ hp))
  · intro p hp
    rcases List.mem_cons.mp hp with rfl | hp
    · exact (Nat.succ_ne_self _).symm
    · exact lx p (.tail _ hp)
  · exact (lx _ (.head _)).symm
  · intro p hp
    rcases List.mem_cons.mp hp with rfl | hp
    · exact hdx
    · exact h52 p hp
  · refine hret (hh.objs.size + 1) hh.objs.size h' g' d' t' o' ps' tks ep' hm htr' hG' ho' F' (cb_drop N' ?_) lt (Nat.lt_succ_self _)
    intro p hp
    rcases List.mem_cons.mp hp with rfl | hp
    · exact .head _
    · rcases List.mem_cons.mp hp with rfl | hp
      · exact .tail _ (.tail _ (.head _))
      · rcases List.mem_cons.mp hp with rfl | hp
        · exact .tail _ (.head _)
        · exact .tail _ (.tail _ (.tail _ hp))
theorem cs_new {NG : Nat} {p9 : Program} {lo9 : List Str} (w : World) (mean : ExcName → Option Value) (mg mb : Str → Option Value) (cn : Str) (cs : Scope) (a : Addr) (ccd : Value) (cl : List (Str × Addr)) (outer : List Env) (A₀ : Around) (base h₀ : Heap) (L : Addr) (m : Str → Option Value) (s : Shared)
   (R : Result → Shared → Prop) (l : Addr) (vs : Array Value) (ns : List Nat) (nl : Nat)
   (B : Below A₀ base outer h₀) (F : Fr h₀ L s.heap m) (X : (hd.heap_39 w.params).In h₀) 
   (T : Top p9 lo9 mean mg mb h₀)
   (hk : cs.kind = .function) (rest : List (Addr × Obj)) (ps : Array Value) (N : News h₀ L s.heap ((52, tableObj ps) :: rest)) (nc : Value) (kws : List (Str × Value)) (hkw : (kws = [] ∧ nc = .none) ∨ kws = [(Str.ofString "num_cand", nc)]) (hnc : nc = .none ∨ ∃ n tn, nc = Value.int n tn ∧ ∀ k ∈ ns, (k : Int) < n)
   (h52 : ∀ p ∈ rest, p.1 ≠ 52) (htr : TriplesOk ps.toList) (hG : GB NG s.gens) (hl : (l, { cls := .type "list", data := .seq vs nl }) ∈ rest) (hn : ns.length = vs.size) (hval : ∀ i v, vs[i]? = some v → ∃ t, v = Value.int ((ns.getD i 0 : Nat) : Int) t) (hlt : ∀ k ∈ ns, k < 4) (hnd : ns.Nodup) (hvz : vs.size ≤ 4)
   (hret : ∀ x dx h' g' d' t' o' ps' tks ep', (∃ more, ps' = ps ++ more) → TriplesOk ps'.toList → GB NG g' → o' = s.os → Fr h₀ L h' m → News h₀ L h' ((x, csObj dx (esOf (insAll [] ns) tks) ep' (tabS (insAll [] ns) (!w.params.followText "set-order"))) :: (dx, dictOf [] 0) :: (52, tableObj ps') :: rest) → (∀ p ∈ (52, tableObj ps) :: rest, p.1 < dx) → dx < x → R (.ok (.ret (.ref x))) ⟨h', g', d', t', o'⟩) :
   codeAny (model PySem.Challenge.rw_bb0001_01.row.prog w) { handled := none, depth := 450, frames := some (envX cn cs L a ccd cl :: outer), guards := none, units := 80 } (.call (.ref 75) ⟨[.ref l], kws⟩) R s := cs_new_g w mean mg mb (envX cn cs L a ccd cl) outer A₀ base h₀ L m s R l vs ns nl B F X T rfl hk rest ps N nc kws hkw hnc h52 htr hG hl hn hval hlt hnd hvz hret
end Mine
end

/- SrtG -/
section
open PySem.W.X (tableObj)
open PySem PySem.W PyProof.Rows PySem.Calls PySem.Spec
set_option linter.unusedVariables false
set_option maxRecDepth 100000
namespace Mine
/-- a text of one figure -/
def IsDig (_ : Nat) (y : Value) : Prop := ∃ x t, y = Value.str x t ∧ x.length ≤ 1
theorem dig_len : ∀ k : Nat, k < 4 → (Str.ofString (toString (k : Int))).length ≤ 1 := by decide
section
variable {prog : Program} {w : World} {A : Around} {E : Value → Shared → Prop} {s : Shared} {L : Addr} {h₀ : Heap} {m : Str → Option Value} {k a : Addr} {n : Nat} {F : Nat → Value → Prop} {led : List (Addr × Obj)} {Q : Value → Shared → Prop}
theorem strs_of_dig {acc : Array Value} {n : Nat} (h : ItemsOf IsDig acc n) : ∃ ss, StrsAre acc.toList ss ∧ ∀ x ∈ ss, x.length ≤ 1 := by
  have q : ∀ v, v ∈ acc.toList → IsDig 0 v := fun v hv => by
    obtain ⟨i, hi⟩ := List.getElem?_of_mem hv
    exact h.2 i v (by simpa using hi)
  refine ⟨acc.toList.map strOf, strsAre_map _ fun v hv => let ⟨x, t, e, _⟩ := q v hv; ⟨x, t, e⟩, fun x hx => ?_⟩
  obtain ⟨v, hv, rfl⟩ := List.mem_map.mp hx
  obtain ⟨x, t, rfl, hl⟩ := q v hv
  exact hl
theorem sorted_gs {NG : Nat} (F₀ : Fr h₀ L s.heap m) (N : News h₀ L s.heap led) (G : GB NG s.gens) (X : Gen prog w A k a n IsDig s) (hLK : L ≤ k) (hk : ∀ p ∈ led, p.1 ≤ k) (hn : n ≤ 4)
    (hQ : ∀ x xs e ss h' g' d' t' o', Fr h₀ L h' m → News h₀ L h' ((x, ({ cls := .type "list", data := .seq xs e } : Obj)) :: led) → StrsAre (xs : Array Value).toList ss → (∀ y ∈ ss, y.length ≤ 1) → ss.length ≤ 4 → GB NG g' → o' = s.os → Q (.ref x) ⟨h', g', d', t', o'⟩) :
    wpAny (model prog w) A (call (.builtin "sorted") [.ref a]) Q E s := by
  obtain ⟨fp, wr, g, St, W, hst, hT, hI, hfp, hwr⟩ := X
  refine call_function_entry kind_sorted plain_sorted entry_sorted (args_sorted1 _) ?_
  unfold Builtin.«sorted»
  refine wpAny_bind (m := checkCount "sorted" 1 1 _) (wpAny_pure ?_)
  refine wpAny_bind (wpAny_collect_gen W.in4_2 hT hst hfp hI (fun s' acc hm hacc => ?_) (Nat.le_trans hn (Nat.le_of_ble_eq_true rfl)))
  have F1 : Fr h₀ L s'.heap m := F₀.moved hm fun b hb => Nat.lt_of_le_of_lt hLK (hwr b hb)
  have N1 : News h₀ L s'.heap led := fun p hp => ⟨hm.heap _ _ (fun hmem => Nat.lt_irrefl _ (Nat.lt_of_lt_of_le (hwr _ hmem) (hk p hp))) (N p hp).1, (N p hp).2⟩
  have G1 : GB NG s'.gens := G.movedS hm
  have os1 : s'.os = s.os := hm.os
  obtain ⟨ss, hS, hd⟩ := strs_of_dig hacc
  have hlen : acc.toList.length = n := hacc.1
  clear hm hacc W hst hT hI hfp
  obtain ⟨h1, g1, d1, t1, o1⟩ := s'
  refine wpAny_bind (wpAny_newList ?_)
  have F2 := F1.push (seqObj "list" acc.toList.toArray 0)
  have N2 := N1.push F1 (seqObj "list" acc.toList.toArray 0)
  have lt : ∀ p ∈ led, p.1 < h1.objs.size := fun p hp => Heap.lt_size (N1 p hp).1
  have lL : L < h1.objs.size := F1.ns.lt
  refine wpAny_bind (wpAny_holding (wpAny_call_entry slot_list_sort ⟨_, (N2 _ (.head _)).1, rfl⟩ entry_list_sort (list_sort_treeK strKind_oneLt (N2 _ (.head _)).1 hS.keysOf (fun v₁ v₂ rest e => keyKind_strs (by rw [← e]; exact hS)) (by rw [hlen]; omega) fun st' a1 a2 => ⟨_, rfl, ?_⟩) (args_list_sort _)))
  obtain ⟨ss', b1, b2, b3⟩ := sorted_out_str hS a1 a2
  obtain ⟨e, he⟩ := sortedHeap_at (vs := acc.toList) (out := (arrOf st').map (·.2)) (N2 _ (.head _)).1
  have old : ∀ b o, b ≠ h1.objs.size → (h1.push (seqObj "list" acc.toList.toArray 0)).get? b = some o → (sortedHeap (h1.push (seqObj "list" acc.toList.toArray 0)) h1.objs.size acc.toList ((arrOf st').map (·.2))).get? b = some o := fun b o hb e => by
    rw [sortedHeap_old hb (Heap.lt_size e)]; exact e
  refine wpAny_pure ⟨_, rfl, ?_⟩
  refine hQ _ _ e ss' _ _ _ _ _ (fr_but F2 (N2 _ (.head _)).2.1 (N2 _ (.head _)).2.2 old) (news_but N2 (fun p hp => Nat.ne_of_lt (lt p hp)) he old) b1 (fun y hy => hd y (b2.mem_iff.mp hy)) ?_ G1 os1
  rw [b2.length_eq, ← hS.len_eq, hlen]; exact hn
end
section
variable {prog : Program} {w : World} {A : Around} {E : Value → Shared → Prop} {t : Shared} {env : Env} {x : Str} {p1 p2 p3 : Pos} {m mg mb : Str → Option Value} {k : Nat} {tk : Tok}
theorem quiet_str (hk : env.scope.kind = .function) (hx : env.kindOf x = some .local) (hs : env.kindOf (Str.ofString "str") = some .globalImplicit) (hn : t.heap.Ns env.locals m) (hm : m x = some (.int (k : Int) tk)) (hlt : k < 4) (hd : (x == ("__debug__" : Str)) = false)
    (hg : t.heap.Ns env.globals mg) (hmiss : mg (Str.ofString "str") = none) (hb : t.heap.Ns env.builtins mb) (hv : mb (Str.ofString "str") = some (.type "str")) :
    wpAny (model prog w) A (eval (.Call (.Name (Str.ofString "str") p1) [.Name x p2] [] p3) env) (fun v s₃ => IsDig 0 v ∧ Keeps t s₃) E t := by
  refine Call_ (Name_function_global hk hs (loadGlobal_builtin hg hmiss hb hv ?_) (by decide)) (by rfl)
  refine callWith_type1 (args_cons (wpAny_Name (wpAny_loadName_local hk hx hn hm ?_) hd) (by rfl)) (by rfl) (by rfl)
  refine args_nil ?_
  refine P.str_of_int ?_ ⟨⟨_, _, rfl, dig_len k hlt⟩, t.heap, _, rfl, fun _ _ e => e⟩
  have : (((k : Int)).natAbs) = k := by omega
  rw [this]
  rcases k with _ | _ | _ | _ | k
  all_goals first | decide | omega
end
end Mine
end

/- Str93 -/
section
open PySem.W.X (tableObj)
open PySem PySem.W PyProof.Rows PySem.Calls PySem.Spec
set_option linter.unusedVariables false
namespace Mine
local macro_rules | `(tactic| k_mem) => `(tactic| first | assumption | exact List.Mem.head _ | (refine List.Mem.tail _ ?_; k_mem))
theorem subs_lt : ∀ ks ∈ subs, ∀ k ∈ ks, k < 4 := by decide
theorem gq_str {w : World} {ks : List Nat} {tk : Nat → Tok} {l L : Addr} {ep : Nat} {P : Addr} {s : Shared} {A : Around} {scope : Scope} {cl : List (Str × Addr)} {env : Env} {x : Str} {p1 p2 p3 : Pos} {h₀ : Heap} {m mg mb : Str → Option Value} {p9 : Program} {lo9 : List Str} {mean : ExcName → Option Value} {po : Obj} {led : List (Addr × Obj)}
    (T : Top p9 lo9 mean mg mb h₀) (F : Fr h₀ L s.heap m) (N : News h₀ L s.heap led) (hP : (P, po) ∈ led) (hks : ks ∈ subs) (hmiss : mg (Str.ofString "str") = none) (hgl : env.globals = mainGlobals)
    (hk : scope.kind = .function := by exact rfl) (hx : scope.names.lookup x = some .local := by exact rfl) (hy : scope.names.lookup (Str.ofString "str") = some .globalImplicit := by exact rfl) (hd : (x == ("__debug__" : Str)) = false := by exact rfl) :
    ∀ (code : Value) (C : Addr) (A' : Around) (E' : Value → Shared → Prop) (i : Nat) (v : Value) (t : Shared) (m₂ : Str → Option Value), A'.handled = none → A'.depth ≤ A.depth + 1 → A'.units ≤ A.units + 8 → (∃ k, (ordOf w l ep ks)[i]? = some k ∧ v = .int (k : Int) (tk k)) → t.heap.Ns C m₂ → m₂ x = some v → (∀ b o, b ≠ P → s.heap.get? b = some o → t.heap.get? b = some o) →
          wpAny (model PySem.Challenge.rw_bb0001_01.row.prog w) A' (eval (.Call (.Name (Str.ofString "str") p1) [.Name x p2] [] p3) (genEnv scope cl C code builtinsNs env)) (fun y s₃ => IsDig i y ∧ Keeps t s₃) E' t := by
  intro code C A' E' i v t m₂ _ _ _ hv hn hm hkp
  obtain ⟨k9, hk9, rfl⟩ := hv
  have k0 : ∀ b o, h₀.get? b = some o → t.heap.get? b = some o := fun b o e => hkp b o (fun q => by
    have := (N _ hP).2.2
    rw [q, this] at e; cases e) (F.keep b o e)
  have hlt : k9 < 4 := subs_lt ks hks k9 ((ord_perm w l ep ks).mem_iff.mp (List.mem_of_getElem? hk9))
  exact quiet_str hk hx hy hn hm hlt hd (by rw [show (genEnv scope cl C code builtinsNs env).globals = mainGlobals from hgl]; exact T.g.keeps k0) hmiss (T.b.keeps k0) (T.builtins _ (by decide +kernel))
set_option hygiene false in
local macro_rules | `(tactic| wtm_at "own eval GeneratorExp") => `(tactic| (k_here; (refine gen_ks (l := l) (ks := ks) F' X' (cb_drop N' mem_swap) T' hG ct92.1 htr (h88' _) (fun Q' hq => wpAny_Name (wpAny_loadName_local (by exact rfl) (by exact rfl) F'.ns (by exact rfl) hq)) hks (by k_mem) (by exact rfl) (by exact rfl) (by exact rfl) (by exact rfl) (by exact rfl) (by decide) (by exact rfl) (by exact rfl) (by exact rfl) (by k_room) IsDig (by exact gq_str T' F' (cb_drop N' mem_swap) (.head _) hks (mg_none_of X' T'.g (by k_is)) (by exact rfl)) ?_ (fun _ => by exact rfl)); rintro a6 ⟨h6, g6, d6, t6, o6⟩ ps6 k6 hm6 htr6 hG6 hos6 F6 N6 hL6 hk6 hGen6; (try dsimp only)))
set_option hygiene false in
local macro_rules | `(tactic| wtm_at "own call builtin:sorted") => `(tactic| (k_here; refine sorted_gs F6 N6 hG6 hGen6 hL6 hk6 (subs_len ks hks) ?_; intro x7 xs7 e7 ss7 h7 g7 d7 t7 o7 F7 N7 hS7 hd7 hs7 hG7 hos7; (try dsimp only)))
set_option hygiene false in
local macro_rules | `(tactic| wtm_at "own call builtin:str.join") => `(tactic| (k_here; (rename News _ _ _ _ => N9); (k_dflt (refine join_listW ⟨_, (N9 _ (.head _)).1, rfl, _, rfl⟩ hS7 (by decide) (join_room hd7 hs7) ?_)); intro t8 k8; (try dsimp only)))
theorem sum_le_len : ∀ ss : List Str, (∀ y ∈ ss, y.length ≤ 1) → (ss.map (·.length)).sum ≤ ss.length := by
  intro ss
  induction ss with
  | nil => intro _; exact Nat.le_refl _
  | cons y ys ih =>
    intro h
    have h1 := h y (.head _)
    have h2 := ih fun z hz => h z (.tail _ hz)
    simp only [List.map_cons, List.sum_cons, List.length_cons]
    omega
theorem join_room {ss : List Str} (h : ∀ y ∈ ss, y.length ≤ 1) (hl : ss.length ≤ 4) : (ss.map (·.length)).sum + ss.length ≤ 1048576 := by
  have := sum_le_len ss h
  omega
theorem join_len {ss : List Str} (h : ∀ y ∈ ss, y.length ≤ 1) (hl : ss.length ≤ 4) : (Txt.join (Str.ofString ", ") ss).length ≤ 12 := by
  have h1 : (Txt.join (Str.ofString ", ") ss).length ≤ (ss.map (·.length)).sum + ss.length * (Str.ofString ", ").length := by
    show (Builtin.Str.glued _ ss).length ≤ _
    rw [StrLaws.glued_eq_join]
    exact StrLaws.join_length_le _ ss
  have h2 := sum_le_len ss h
  rw [show (Str.ofString ", ").length = 2 from by decide] at h1
  omega
theorem add_room1 {j : Str} (h : j.length ≤ 12) : (Str.ofString "{").length + j.length ≤ sizeLine := by
  rw [show (Str.ofString "{").length = 1 from by decide]
  exact Nat.le_trans (Nat.add_le_add_left h 1) (Nat.le_of_ble_eq_true rfl)
theorem add_room2 {j : Str} (h : j.length ≤ 12) : (Str.ofString "{" ++ j).length + (Str.ofString "}").length ≤ sizeLine := by
  rw [Str.length_append, show (Str.ofString "{").length = 1 from by decide, show (Str.ofString "}").length = 1 from by decide]
  exact Nat.le_trans (Nat.add_le_add_right (Nat.add_le_add_left h 1) 1) (Nat.le_of_ble_eq_true rfl)
set_option hygiene false in
local macro_rules | `(tactic| wtm_at "own binaryOp Add str str") => `(tactic| (k_here; first | (refine PyProof.Rows.add_str ?_ (add_room1 (join_len hd7 hs7))) | (refine PyProof.Rows.add_str ?_ (add_room2 (join_len hd7 hs7))); intro t9 k9; (try dsimp only)))
theorem mem_88 {α : Type} {a b c : α} {l : List α} : ∀ p ∈ b :: l, p ∈ a :: b :: c :: l := fun p hp => by
  rcases List.mem_cons.mp hp with rfl | hp
  · exact .tail _ (.head _)
  · exact .tail _ (.tail _ (.tail _ hp))
theorem subs_len : ∀ ks ∈ subs, ks.length ≤ 4 := by decide
set_option maxRecDepth 100000 in
set_option maxHeartbeats 2000000 in
theorem str93 {p9 : Program} {lo9 : List Str} (w : World) (mean : ExcName → Option Value) (mg mb : Str → Option Value) (cn : Str) (cs : Scope) (a : Addr) (ccd : Value) (cl : List (Str × Addr)) (outer : List Env) (A₀ : Around) (base h₀ : Heap) (L : Addr) (m : Str → Option Value) (news : List (Addr × Obj)) (s : Shared)
   (Q E : Value → Shared → Prop) (rest : List (Addr × Obj)) (ps : Array Value) (l dy : Addr) (ks : List Nat) (tks : Nat → Tok) (epy NG : Nat)
   (B : Below A₀ base outer h₀) (F : Fr h₀ L s.heap m) (X : (hd.heap_39 w.params).In h₀) (N : News h₀ L s.heap news)
   (T : Top p9 lo9 mean mg mb h₀)
   (hk : cs.kind = .function) (hnews : news = (88, tableObj ps) :: rest) (h88 : ∀ p ∈ rest, p.1 ≠ 88) (htr : TriplesOk ps.toList) (hG : GB NG s.gens) (hl : (l, csObj dy (esOf ks tks) epy (tabS ks (!bt w))) ∈ rest) (hks : ks ∈ subs)
   (hret : ∀ x t h' g' d' t' o' ps', (∃ more, ps' = ps ++ more) → TriplesOk ps'.toList → GB NG g' → o' = s.os → Fr h₀ L h' m → News h₀ L h' ((88, tableObj ps') :: rest) → Q (.str x t) ⟨h', g', d', t', o'⟩) :
   wpAny (model PySem.Challenge.rw_bb0001_01.row.prog w) { handled := none, depth := 440, frames := some (envX cn cs L a ccd cl :: outer), guards := none, units := 70 } (call (.ref 93) [.ref l, .none]) Q E s := by
  subst hnews
  revert X
  k_fill
  intro X
  refine wpAny_call ?_
  k_dflt (refine' code_defC ?k1 ?k2 ?k3 ?k4 ?k5 ?kA ?kF ?kK ?k6 ?k7 ?k8 ?k9 ?kB ?kD ?_ ?c2 ?c3 ?c4; (case kA => exact rfl); (case kF => exact rfl); (case kK => assumption); (case k1 => k_asm); (case k2 => k_asm); (case k3 => k_asm); (case k4 => k_asm); (case k5 => k_asm); (case k6 => k_is); (case k7 => k_is); (case k8 => k_room); (case k9 => first | exact BindsTo.of_eq rfl | exact binds_K (by k_in) rfl (by k_is) rfl rfl rfl); (case kB => exact rfl); (case kD => decide +kernel); (case c2 => exact rfl); (case c3 => exact rfl); (case c4 => exact rfl); k_whole; intro g' L' h' tk' cells' FG' F' N' Y' B' X' T' l1; (try k_lt l1); k_cells Y'; (try simp only [List.cons_append, List.nil_append] at N'); (try dsimp only); (try k_lift B'); (try k_fold))
  have h88' : ∀ oc : Obj, ∀ p ∈ (L' + 1, oc) :: rest, p.1 ≠ 88 := fun oc p hp => by
    rcases List.mem_cons.mp hp with rfl | hp
    · have := l1.1; exact fun e => absurd this (by rw [show (88 : Addr) = L' + 1 from e.symm]; exact Nat.not_lt.mpr (Nat.le_succ _))
    · exact h88 p hp
  k_steps
  exact hret _ _ _ _ _ _ _ _ hm6 htr6 hG7 (hos7.trans hos6) (by assumption) (cb_drop (by assumption) mem_88)
theorem str93_u {A : Around} {p9 : Program} {lo9 : List Str} {w : World} {mean : ExcName → Option Value} {mg mb : Str → Option Value} {cn : Str} {cs : Scope} {a : Addr} {ccd : Value} {cl : List (Str × Addr)} {outer : List Env} {A₀ : Around} {base h₀ : Heap} {L : Addr} {m : Str → Option Value} {news : List (Addr × Obj)} {s : Shared}
   {Q E : Value → Shared → Prop}
   (hh : A.handled = none) (hdp : A.depth ≤ 440) (hfr : A.frames = some (envX cn cs L a ccd cl :: outer)) (hun : A.units ≤ 70) (rest : List (Addr × Obj)) (ps : Array Value) (l dy : Addr) (ks : List Nat) (tks : Nat → Tok) (epy NG : Nat)
   (B : Below A₀ base outer h₀) (F : Fr h₀ L s.heap m) (X : (hd.heap_39 w.params).In h₀) (N : News h₀ L s.heap news)
   (T : Top p9 lo9 mean mg mb h₀)
   (hk : cs.kind = .function) (hnews : news = (88, tableObj ps) :: rest) (h88 : ∀ p ∈ rest, p.1 ≠ 88) (htr : TriplesOk ps.toList) (hG : GB NG s.gens) (hl : (l, csObj dy (esOf ks tks) epy (tabS ks (!bt w))) ∈ rest) (hks : ks ∈ subs)
   (hret : ∀ x t h' g' d' t' o' ps', (∃ more, ps' = ps ++ more) → TriplesOk ps'.toList → GB NG g' → o' = s.os → Fr h₀ L h' m → News h₀ L h' ((88, tableObj ps') :: rest) → Q (.str x t) ⟨h', g', d', t', o'⟩) :
   wpAny (model PySem.Challenge.rw_bb0001_01.row.prog w) A (call (.ref 93) [.ref l, .none]) Q E s :=
  wp_weaken hh hdp (.inr hfr) (.inl rfl) hun (str93 w mean mg mb cn cs a ccd cl outer A₀ base h₀ L m news s Q E rest ps l dy ks tks epy NG B F X N T hk hnews h88 htr hG hl hks hret)

end Mine
end

/- Str72 -/
section
open PySem.W.X (tableObj)
open PySem PySem.W PyProof.Rows PySem.Calls PySem.Spec
set_option linter.unusedVariables false
namespace Mine
local macro_rules | `(tactic| k_mem) => `(tactic| first | assumption | exact List.Mem.head _ | (refine List.Mem.tail _ ?_; k_mem))
theorem inst_cs2 {h₀ h : Heap} {L x C dx : Addr} {news : List (Addr × Obj)} {od : Obj} {es : Array (Int × Value)} {ep : Nat} {t : SetTable} {sl : Array (Option Value)} (N : News h₀ L h news) (h1 : (x, (⟨.ref C, some dx, .set es ep t, sl⟩ : Obj)) ∈ news) (h2 : (dx, od) ∈ news) :
    InstAt h x ⟨.ref C, some dx, .set es ep t, sl⟩ C (some od) := ⟨(N _ h1).1, rfl, rfl, (N _ h2).1⟩
theorem swn_find {w : World} {h : Heap} (X : (hd.heap_39 w.params).In h) : (∃ ga, Looks (model PySem.Challenge.rw_bb0001_01.row.prog w) h (typeLookup (.ref 75) (Str.ofString "__getattribute__")) (some (.builtin ga)) ∧ Manifest.canonical ga = "object.__getattribute__") ∧ Looks (model PySem.Challenge.rw_bb0001_01.row.prog w) h (typeLookup (.ref 75) (Str.ofString "__getattr__")) none ∧ Looks (model PySem.Challenge.rw_bb0001_01.row.prog w) h (typeLookup (.ref 75) (Str.ofString "str_with_names")) (some (.ref 72)) ∧ ∃ o, h.get? 72 = some o ∧ o.cls = .type "function" := by
  revert X; k_fill; intro X
  exact ⟨⟨_, looks_findIn X (by k_is), by decide +kernel⟩, looks_findIn X (by k_is), looks_findIn X (by k_is), _, X 72 _ (by k_is), rfl⟩
theorem gm_swn {w : World} {A : Around} {E : Value → Shared → Prop} {s : Shared} {h₀ : Heap} {L : Addr} {m : Str → Option Value} {led : List (Addr × Obj)} {y dy : Addr} {es : Array (Int × Value)} {ep : Nat} {tb : SetTable} {pl : Sem Bool} {Q : Value × List Value → Shared → Prop} (X : (hd.heap_39 w.params).In h₀) (F : Fr h₀ L s.heap m) (N : News h₀ L s.heap led)
    (ha : (y, csObj dy es ep tb) ∈ led) (hd : (dy, dictOf [] 0) ∈ led) (h : Q (.ref 72, [.ref y]) s) :
    wpAny (model PySem.Challenge.rw_bb0001_01.row.prog w) A (getMethod (.ref y) (Str.ofString "str_with_names") pl) Q E s := by
  obtain ⟨⟨ga, f1, f2⟩, f3, f4, o72, f5, f6⟩ := swn_find (X.keeps F.keep)
  have ht := ty_cs (M := model PySem.Challenge.rw_bb0001_01.row.prog w) (N _ ha).1
  have s1 : Looks (model PySem.Challenge.rw_bb0001_01.row.prog w) s.heap (specialOf (.ref y) (Str.ofString "__getattribute__")) (some (.builtin ga)) := by unfold specialOf; exact ht.andThen f1
  have s2 : Looks (model PySem.Challenge.rw_bb0001_01.row.prog w) s.heap (specialOf (.ref y) (Str.ofString "__getattr__")) none := by unfold specialOf; exact ht.andThen f3
  have s3 : Looks (model PySem.Challenge.rw_bb0001_01.row.prog w) s.heap (specialOf (.ref y) (Str.ofString "str_with_names")) (some (.ref 72)) := by unfold specialOf; exact ht.andThen f4
  unfold getMethod
  refine wpAny_bind (s1.here ?_)
  dsimp only
  rw [f2]
  rw [if_neg (by decide)]
  refine wpAny_bind (s2.here ?_)
  rw [if_neg (by decide)]
  refine wpAny_bind (s3.here ?_)
  dsimp only
  refine wpAny_bind (wpAny_typeOf (s := s) (T := "function") ⟨_, f5, f6⟩ ?_)
  rw [if_neg (by decide)]
  refine wpAny_bind (wpAny_loadPart (N _ ha).1 ?_)
  dsimp only
  refine wpAny_bind ?_
  have hn : ∀ {Q' : Option Value → Shared → Prop} {A' E'}, Q' none s → wpAny (model PySem.Challenge.rw_bb0001_01.row.prog w) A' (nsGet dy (Str.ofString "str_with_names")) Q' E' s := fun hq => by
    unfold nsGet
    refine wpAny_bind (wpAny_loadPart (N _ hd).1 ?_)
    exact wpAny_pure hq
  refine hn ?_
  rw [if_neg (by decide)]
  exact wpAny_bind (wpAny_rule (wpAny_pure h))
set_option hygiene false in
local macro_rules | `(tactic| wtm_at "own getMethod ref") => `(tactic| (k_here; (k_dflt (refine gm_swn X' F' N' (by k_mem) (by k_mem) ?_)); (try dsimp only)))
local macro_rules | `(tactic| k_inst) => `(tactic| (refine' inst_cs2 ?N ?h1 ?h2; (case N => k_asm); (case h1 => k_mem); (case h2 => k_mem)))
set_option hygiene false in
local macro_rules | `(tactic| wtm_at "own call ref") => `(tactic| (k_here; (try simp only [List.cons_append, List.nil_append]); refine str93_u rfl (Nat.le_of_ble_eq_true rfl) rfl (Nat.le_of_ble_eq_true rfl) rest ps l dy ks tks epy NG (by k_asm) F' (by k_asm) N' (by k_asm) rfl rfl h88 htr hG hl hks fun x7 t7 h7 g7 d7 u7 o7 ps7 hm7 htr7 hG7 ho7 F7 N7 => ?_; (try dsimp only)))
set_option maxRecDepth 100000 in
set_option maxHeartbeats 2000000 in
theorem str72 {p9 : Program} {lo9 : List Str} (w : World) (mean : ExcName → Option Value) (mg mb : Str → Option Value) (cn : Str) (cs : Scope) (a : Addr) (ccd : Value) (cl : List (Str × Addr)) (outer : List Env) (A₀ : Around) (base h₀ : Heap) (L : Addr) (m : Str → Option Value) (news : List (Addr × Obj)) (s : Shared)
   (Q E : Value → Shared → Prop) (rest : List (Addr × Obj)) (ps : Array Value) (l dy : Addr) (ks : List Nat) (tks : Nat → Tok) (epy NG : Nat)
   (B : Below A₀ base outer h₀) (F : Fr h₀ L s.heap m) (X : (hd.heap_39 w.params).In h₀) (N : News h₀ L s.heap news)
   (T : Top p9 lo9 mean mg mb h₀)
   (hk : cs.kind = .function) (hnews : news = (88, tableObj ps) :: rest) (h88 : ∀ p ∈ rest, p.1 ≠ 88) (htr : TriplesOk ps.toList) (hG : GB NG s.gens) (hl : (l, csObj dy (esOf ks tks) epy (tabS ks (!bt w))) ∈ rest) (hdy : (dy, dictOf [] 0) ∈ rest) (hks : ks ∈ subs)
   (hret : ∀ x t h' g' d' t' o' ps', (∃ more, ps' = ps ++ more) → TriplesOk ps'.toList → GB NG g' → o' = s.os → Fr h₀ L h' m → News h₀ L h' ((88, tableObj ps') :: rest) → Q (.str x t) ⟨h', g', d', t', o'⟩) :
   wpAny (model PySem.Challenge.rw_bb0001_01.row.prog w) { handled := none, depth := 430, frames := some (envX cn cs L a ccd cl :: outer), guards := none, units := 60 } (call (.ref 72) [.ref l]) Q E s := by
  subst hnews
  revert X
  k_fill
  intro X
  refine wpAny_call ?_
  k_dflt (refine' code_def ?k1 ?k2 ?k3 ?k4 ?k5 ?kA ?kF ?kK ?k6 ?k7 ?k8 ?k9 ?kB ?_ ?c2 ?c3 ?c4 ?c5; (case kA => exact rfl); (case kF => exact rfl); (case kK => assumption); (case k1 => k_asm); (case k2 => k_asm); (case k3 => k_asm); (case k4 => k_asm); (case k5 => k_asm); (case k6 => k_is); (case k7 => k_is); (case k8 => k_room); (case k9 => first | exact BindsTo.of_eq rfl | exact binds_K (by k_in) rfl (by k_is) rfl rfl rfl | fail "k_enter: no rule for these arguments"); (case c5 => decide); (case kB => exact locs rfl); (case c2 => exact rfl); (case c3 => exact rfl); (case c4 => exact rfl); k_whole; intro g' L' h' FG' F' N' B' X' T'; (try dsimp only); (try k_lift B'); (try k_fold))
  k_steps
  exact hret _ _ _ _ _ _ _ _ hm7 htr7 hG7 ho7 (by assumption) (by assumption)
theorem str72_u {A : Around} {p9 : Program} {lo9 : List Str} {w : World} {mean : ExcName → Option Value} {mg mb : Str → Option Value} {cn : Str} {cs : Scope} {a : Addr} {ccd : Value} {cl : List (Str × Addr)} {outer : List Env} {A₀ : Around} {base h₀ : Heap} {L : Addr} {m : Str → Option Value} {news : List (Addr × Obj)} {s : Shared}
   {Q E : Value → Shared → Prop}
   (hh : A.handled = none) (hdp : A.depth ≤ 430) (hfr : A.frames = some (envX cn cs L a ccd cl :: outer)) (hun : A.units ≤ 60) (rest : List (Addr × Obj)) (ps : Array Value) (l dy : Addr) (ks : List Nat) (tks : Nat → Tok) (epy NG : Nat)
   (B : Below A₀ base outer h₀) (F : Fr h₀ L s.heap m) (X : (hd.heap_39 w.params).In h₀) (N : News h₀ L s.heap news)
   (T : Top p9 lo9 mean mg mb h₀)
   (hk : cs.kind = .function) (hnews : news = (88, tableObj ps) :: rest) (h88 : ∀ p ∈ rest, p.1 ≠ 88) (htr : TriplesOk ps.toList) (hG : GB NG s.gens) (hl : (l, csObj dy (esOf ks tks) epy (tabS ks (!bt w))) ∈ rest) (hdy : (dy, dictOf [] 0) ∈ rest) (hks : ks ∈ subs)
   (hret : ∀ x t h' g' d' t' o' ps', (∃ more, ps' = ps ++ more) → TriplesOk ps'.toList → GB NG g' → o' = s.os → Fr h₀ L h' m → News h₀ L h' ((88, tableObj ps') :: rest) → Q (.str x t) ⟨h', g', d', t', o'⟩) :
   wpAny (model PySem.Challenge.rw_bb0001_01.row.prog w) A (call (.ref 72) [.ref l]) Q E s :=
  wp_weaken hh hdp (.inr hfr) (.inl rfl) hun (str72 w mean mg mb cn cs a ccd cl outer A₀ base h₀ L m news s Q E rest ps l dy ks tks epy NG B F X N T hk hnews h88 htr hG hl hdy hks hret)
set_option hygiene false in
local macro_rules | `(tactic| wtm_at "own call ref") => `(tactic| (k_here; (try simp only [List.cons_append, List.nil_append]); refine str72_u rfl (Nat.le_of_ble_eq_true rfl) rfl (Nat.le_of_ble_eq_true rfl) rest ps l dy ks tks epy NG (by k_asm) F' (by k_asm) N' (by k_asm) rfl rfl h88 htr hG hl hdy hks fun x7 t7 h7 g7 d7 u7 o7 ps7 hm7 htr7 hG7 ho7 F7 N7 => ?_; (try dsimp only)))
set_option maxRecDepth 100000 in
set_option maxHeartbeats 2000000 in
theorem str64 {p9 : Program} {lo9 : List Str} (w : World) (mean : ExcName → Option Value) (mg mb : Str → Option Value) (cn : Str) (cs : Scope) (a : Addr) (ccd : Value) (cl : List (Str × Addr)) (outer : List Env) (A₀ : Around) (base h₀ : Heap) (L : Addr) (m : Str → Option Value) (news : List (Addr × Obj)) (s : Shared)
   (Q E : Value → Shared → Prop) (rest : List (Addr × Obj)) (ps : Array Value) (l dy : Addr) (ks : List Nat) (tks : Nat → Tok) (epy NG : Nat)
   (B : Below A₀ base outer h₀) (F : Fr h₀ L s.heap m) (X : (hd.heap_39 w.params).In h₀) (N : News h₀ L s.heap news)
   (T : Top p9 lo9 mean mg mb h₀)
   (hk : cs.kind = .function) (hnews : news = (88, tableObj ps) :: rest) (h88 : ∀ p ∈ rest, p.1 ≠ 88) (htr : TriplesOk ps.toList) (hG : GB NG s.gens) (hl : (l, csObj dy (esOf ks tks) epy (tabS ks (!bt w))) ∈ rest) (hdy : (dy, dictOf [] 0) ∈ rest) (hks : ks ∈ subs)
   (hret : ∀ x t h' g' d' t' o' ps', (∃ more, ps' = ps ++ more) → TriplesOk ps'.toList → GB NG g' → o' = s.os → Fr h₀ L h' m → News h₀ L h' ((88, tableObj ps') :: rest) → Q (.str x t) ⟨h', g', d', t', o'⟩) :
   wpAny (model PySem.Challenge.rw_bb0001_01.row.prog w) { handled := none, depth := 420, frames := some (envX cn cs L a ccd cl :: outer), guards := none, units := 50 } (call (.ref 64) [.ref l]) Q E s := by
  subst hnews
  revert X
  k_fill
  intro X
  refine wpAny_call ?_
  k_dflt (refine' code_def ?k1 ?k2 ?k3 ?k4 ?k5 ?kA ?kF ?kK ?k6 ?k7 ?k8 ?k9 ?kB ?_ ?c2 ?c3 ?c4 ?c5; (case kA => exact rfl); (case kF => exact rfl); (case kK => assumption); (case k1 => k_asm); (case k2 => k_asm); (case k3 => k_asm); (case k4 => k_asm); (case k5 => k_asm); (case k6 => k_is); (case k7 => k_is); (case k8 => k_room); (case k9 => first | exact BindsTo.of_eq rfl | exact binds_K (by k_in) rfl (by k_is) rfl rfl rfl | fail "k_enter: no rule for these arguments"); (case c5 => decide); (case kB => exact locs rfl); (case c2 => exact rfl); (case c3 => exact rfl); (case c4 => exact rfl); k_whole; intro g' L' h' FG' F' N' B' X' T'; (try dsimp only); (try k_lift B'); (try k_fold))
  k_steps
  exact hret _ _ _ _ _ _ _ _ hm7 htr7 hG7 ho7 (by assumption) (by assumption)
theorem str64_u {A : Around} {p9 : Program} {lo9 : List Str} {w : World} {mean : ExcName → Option Value} {mg mb : Str → Option Value} {cn : Str} {cs : Scope} {a : Addr} {ccd : Value} {cl : List (Str × Addr)} {outer : List Env} {A₀ : Around} {base h₀ : Heap} {L : Addr} {m : Str → Option Value} {news : List (Addr × Obj)} {s : Shared}
   {Q E : Value → Shared → Prop}
   (hh : A.handled = none) (hdp : A.depth ≤ 420) (hfr : A.frames = some (envX cn cs L a ccd cl :: outer)) (hun : A.units ≤ 50) (rest : List (Addr × Obj)) (ps : Array Value) (l dy : Addr) (ks : List Nat) (tks : Nat → Tok) (epy NG : Nat)
   (B : Below A₀ base outer h₀) (F : Fr h₀ L s.heap m) (X : (hd.heap_39 w.params).In h₀) (N : News h₀ L s.heap news)
   (T : Top p9 lo9 mean mg mb h₀)
   (hk : cs.kind = .function) (hnews : news = (88, tableObj ps) :: rest) (h88 : ∀ p ∈ rest, p.1 ≠ 88) (htr : TriplesOk ps.toList) (hG : GB NG s.gens) (hl : (l, csObj dy (esOf ks tks) epy (tabS ks (!bt w))) ∈ rest) (hdy : (dy, dictOf [] 0) ∈ rest) (hks : ks ∈ subs)
   (hret : ∀ x t h' g' d' t' o' ps', (∃ more, ps' = ps ++ more) → TriplesOk ps'.toList → GB NG g' → o' = s.os → Fr h₀ L h' m → News h₀ L h' ((88, tableObj ps') :: rest) → Q (.str x t) ⟨h', g', d', t', o'⟩) :
   wpAny (model PySem.Challenge.rw_bb0001_01.row.prog w) A (call (.ref 64) [.ref l]) Q E s :=
  wp_weaken hh hdp (.inr hfr) (.inl rfl) hun (str64 w mean mg mb cn cs a ccd cl outer A₀ base h₀ L m news s Q E rest ps l dy ks tks epy NG B F X N T hk hnews h88 htr hG hl hdy hks hret)

theorem str_find {w : World} : findIn (hd.heap_39 w.params) (.ref 75) (Str.ofString "__str__") = some (some (.ref 64)) ∧ isFn (hd.heap_39 w.params) (.ref 64) = true := by
  k_fill
  exact ⟨by k_is, by k_is⟩
theorem str_cs {p9 : Program} {lo9 : List Str} (w : World) (mean : ExcName → Option Value) (mg mb : Str → Option Value) (cn : Str) (cs : Scope) (a : Addr) (ccd : Value) (cl : List (Str × Addr)) (outer : List Env) (A₀ : Around) (base h₀ : Heap) (L : Addr) (m : Str → Option Value) (news : List (Addr × Obj)) (s : Shared)
   (Q E : Value → Shared → Prop) (rest : List (Addr × Obj)) (ps : Array Value) (l dy : Addr) (ks : List Nat) (tks : Nat → Tok) (epy NG : Nat)
   (B : Below A₀ base outer h₀) (F : Fr h₀ L s.heap m) (X : (hd.heap_39 w.params).In h₀) (N : News h₀ L s.heap news)
   (T : Top p9 lo9 mean mg mb h₀)
   (hk : cs.kind = .function) (hnews : news = (88, tableObj ps) :: rest) (h88 : ∀ p ∈ rest, p.1 ≠ 88) (htr : TriplesOk ps.toList) (hG : GB NG s.gens) (hl : (l, csObj dy (esOf ks tks) epy (tabS ks (!bt w))) ∈ rest) (hdy : (dy, dictOf [] 0) ∈ rest) (hks : ks ∈ subs)
   (hret : ∀ x t h' g' d' t' o' ps', (∃ more, ps' = ps ++ more) → TriplesOk ps'.toList → GB NG g' → o' = s.os → Fr h₀ L h' m → News h₀ L h' ((88, tableObj ps') :: rest) → Q (.str x t) ⟨h', g', d', t', o'⟩) :
   wpAny (model PySem.Challenge.rw_bb0001_01.row.prog w) { handled := none, depth := 410, frames := some (envX cn cs L a ccd cl :: outer), guards := none, units := 45 } (call (.type "str") [.ref l]) Q E s := by
  refine kso_call (K := hd.heap_39 w.params) (f := 64) (by show 47 < cLine; decide) (X.keeps F.keep) (inst_cs2 N (by rw [hnews]; exact .tail _ hl) (by rw [hnews]; exact .tail _ hdy)) str_find.1 str_find.2 ?_
  exact str64_u rfl (Nat.le_of_ble_eq_true rfl) rfl (Nat.le_of_ble_eq_true rfl) rest ps l dy ks tks epy NG B F X N T hk hnews h88 htr hG hl hdy hks hret
theorem str_cs_u {A : Around} {p9 : Program} {lo9 : List Str} {w : World} {mean : ExcName → Option Value} {mg mb : Str → Option Value} {cn : Str} {cs : Scope} {a : Addr} {ccd : Value} {cl : List (Str × Addr)} {outer : List Env} {A₀ : Around} {base h₀ : Heap} {L : Addr} {m : Str → Option Value} {news : List (Addr × Obj)} {s : Shared}
   {Q E : Value → Shared → Prop}
   (hh : A.handled = none) (hdp : A.depth ≤ 410) (hfr : A.frames = some (envX cn cs L a ccd cl :: outer)) (hun : A.units ≤ 45) (rest : List (Addr × Obj)) (ps : Array Value) (l dy : Addr) (ks : List Nat) (tks : Nat → Tok) (epy NG : Nat)
   (B : Below A₀ base outer h₀) (F : Fr h₀ L s.heap m) (X : (hd.heap_39 w.params).In h₀) (N : News h₀ L s.heap news)
   (T : Top p9 lo9 mean mg mb h₀)
   (hk : cs.kind = .function) (hnews : news = (88, tableObj ps) :: rest) (h88 : ∀ p ∈ rest, p.1 ≠ 88) (htr : TriplesOk ps.toList) (hG : GB NG s.gens) (hl : (l, csObj dy (esOf ks tks) epy (tabS ks (!bt w))) ∈ rest) (hdy : (dy, dictOf [] 0) ∈ rest) (hks : ks ∈ subs)
   (hret : ∀ x t h' g' d' t' o' ps', (∃ more, ps' = ps ++ more) → TriplesOk ps'.toList → GB NG g' → o' = s.os → Fr h₀ L h' m → News h₀ L h' ((88, tableObj ps') :: rest) → Q (.str x t) ⟨h', g', d', t', o'⟩) :
   wpAny (model PySem.Challenge.rw_bb0001_01.row.prog w) A (call (.type "str") [.ref l]) Q E s :=
  wp_weaken hh hdp (.inr hfr) (.inl rfl) hun (str_cs w mean mg mb cn cs a ccd cl outer A₀ base h₀ L m news s Q E rest ps l dy ks tks epy NG B F X N T hk hnews h88 htr hG hl hdy hks hret)

end Mine
end

/- CIS -/
section
open PySem.W.X (tableObj)
open PySem PySem.W PyProof.Rows PySem.Calls PySem.Spec
set_option linter.unusedVariables false
namespace Mine
local macro_rules | `(tactic| k_mem) => `(tactic| first | assumption | exact List.Mem.head _ | (refine List.Mem.tail _ ?_; k_mem))
local macro_rules | `(tactic| k_inst) => `(tactic| (refine' inst_set ?N ?h1 ?h2; (case N => k_asm); (case h1 => k_mem); (case h2 => k_mem)))
set_option hygiene false in
local macro_rules | `(tactic| wtm_at "own call builtin:len") => `(tactic| (k_here; (k_dflt (refine len_x hks X' F4 N4 (by k_mem) ?_)); intro t' tk'; (try dsimp only)))
local macro_rules | `(tactic| wtm_at "own ite") => `(tactic| (k_dflt (first | (refine PySem.W.ite_neg ?hc ?_; (case hc => first | (simp; done) | (simp only [beq_iff_eq, bne_iff_ne, ne_eq, Decidable.not_not, decide_eq_true_eq]; omega))) | (refine PySem.W.ite_pos ?hc ?_; (case hc => first | (simp; done) | (simp only [beq_iff_eq, decide_eq_true_eq]; omega))))))
set_option hygiene false in
local macro_rules | `(tactic| wtm_at "own exec For Name Name cons nil") => `(tactic| (k_here; (with_unfolding_all refine' For_invVF F4 ?k1 ?k2 ?_; (case k1 => exact rfl); (case k2 => exact rfl); k_whole)))
set_option hygiene false in
local macro_rules | `(tactic| wtm_at "own pyIter ref") => `(tactic| ((with_reducible show wpAny _ _ (pyIter (Value.ref l)) (fun it s₂ => LoopAtV _ _ _ _ _ _ _ _ _ it s₂) _ _); (refine iter_set (env := scEnv _ _ _ _ _ _ _) (a := l) (dx := dy) (ks := ks) (tk := tks) (ep := epy) [] (by rfl) X' hks (List.Mem.tail _ (List.Mem.tail _ (List.Mem.tail _ hl))) F4 N4 (fun i' v' u' h' tk' o' hi' hv' F5 N5 => ?_) (fun u' h' tk' F5 N5 => ?_)) <;> (try dsimp only)))
set_option hygiene false in
local macro_rules | `(tactic| wtm_at "own eval GeneratorExp") => `(tactic| (k_here; (refine gen_ks (l := l) (ks := ks) F5 X' (cb_drop N5 mem_rot3) T' hG ct56.1 htr h52' (fun Q' hq => wpAny_Name (wpAny_loadName_local (by exact rfl) (by exact rfl) F5.ns (by exact rfl) hq)) hks (by k_mem) (by exact rfl) (by exact rfl) (by exact rfl) (by exact rfl) (by exact rfl) (by decide) (by exact rfl) (by exact rfl) (by exact rfl) (by k_room) (fun _ v => v = .bool true) (by exact gqs0) ?_ (fun _ => by exact rfl)); rintro a6 ⟨h6, g6, d6, t6, o6⟩ ps6 k6 hm6 htr6 hG6 hos6 F6 N6 hL6 hk6 hGen6; (try dsimp only)))
set_option hygiene false in
local macro_rules | `(tactic| wtm_at "own call builtin:all") => `(tactic| (k_here; refine all_kt F6 N6 hG6 hGen6 hL6 hk6 ?_; intro h7 g7 d7 t7 o7 F7 N7 hG7 hos7; (try dsimp only)))
theorem gqs0 {prog : Program} {w : World} {ks : List Nat} {tk : Nat → Tok} {l : Addr} {ep : Nat} {P : Addr} {s : Shared} {A : Around} {scope : Scope} {cl : List (Str × Addr)} {env : Env} {x : Str} {p1 p2 p3 : Pos} {kt : Nat}
    (hk : scope.kind = .function := by exact rfl) (hx : scope.names.lookup x = some .local := by exact rfl) (hd : (x == ("__debug__" : Str)) = false := by exact rfl) :
    ∀ (code : Value) (C : Addr) (A' : Around) (E' : Value → Shared → Prop) (i : Nat) (v : Value) (t : Shared) (m₂ : Str → Option Value), A'.handled = none → A'.depth ≤ A.depth + 1 → A'.units ≤ A.units + 8 → (∃ k, (ordOf w l ep ks)[i]? = some k ∧ v = .int (k : Int) (tk k)) → t.heap.Ns C m₂ → m₂ x = some v → (∀ b o, b ≠ P → s.heap.get? b = some o → t.heap.get? b = some o) →
          wpAny (model prog w) A' (eval (.Compare (.Name x p1) [.GtE] [.Constant (.int 0) kt p2] p3) (genEnv scope cl C code builtinsNs env)) (fun y s₃ => y = .bool true ∧ Keeps t s₃) E' t := by
  intro code C A' E' i v t m₂ _ _ _ hv hn hm _
  obtain ⟨k9, hk9, rfl⟩ := hv
  exact quiet_ge0 hk hx hn hm (Int.natCast_nonneg _) hd
set_option hygiene false in
local macro_rules | `(tactic| wtm_at "own eval GeneratorExp") => `(tactic| (k_here; (refine gen_ks (l := l) (ks := ks) F7 X' N7 T' hG7 ct56.1 htr6 h52' (fun Q' hq => wpAny_Name (wpAny_loadName_local (by exact rfl) (by exact rfl) F7.ns (by exact rfl) hq)) hks (by k_mem) (by exact rfl) (by exact rfl) (by exact rfl) (by exact rfl) (by exact rfl) (by decide) (by exact rfl) (by exact rfl) (by exact rfl) (by k_room) (fun _ v => v = .bool false) (by exact gqs1 (c := L' + 1) hb (N7 (L' + 1, ob) (by k_mem)).1 hob hlP) ?_ (fun _ => by exact rfl)); rintro a8 ⟨h8, g8, d8, t8, o8⟩ ps8 k8 hm8 htr8 hG8 hos8 F8 N8 hL8 hk8 hGen8; (try dsimp only)))
set_option hygiene false in
local macro_rules | `(tactic| wtm_at "own call builtin:any") => `(tactic| (k_here; refine any_kf F8 N8 hG8 hGen8 hL8 hk8 ?_; intro h9 g9 d9 t9 o9 F9 N9 hG9 hos9; (try dsimp only)))
theorem gqs1 {prog : Program} {w : World} {ks : List Nat} {tk : Nat → Tok} {l : Addr} {ep : Nat} {P c : Addr} {ob : Obj} {s : Shared} {A : Around} {scope : Scope} {cl : List (Str × Addr)} {env : Env} {x y : Str} {p1 p2 p3 : Pos} {n : Int} {tn : Tok} (hb : ∀ k ∈ ks, (k : Int) < n)
    (ho : s.heap.get? c = some ob) (hob : ob.data = .cell (some (.int n tn))) (hcP : c ≠ P)
    (hk : scope.kind = .function := by exact rfl) (hx : scope.names.lookup x = some .local := by exact rfl) (hy : scope.names.lookup y = some .free := by exact rfl) (hc : cl.lookup y = some c := by exact rfl) (hd : (x == ("__debug__" : Str)) = false := by exact rfl) (hd' : (y == ("__debug__" : Str)) = false := by exact rfl) (hcd : (y == ("__classdict__" : Str)) = false := by exact rfl) :
    ∀ (code : Value) (C : Addr) (A' : Around) (E' : Value → Shared → Prop) (i : Nat) (v : Value) (t : Shared) (m₂ : Str → Option Value), A'.handled = none → A'.depth ≤ A.depth + 1 → A'.units ≤ A.units + 8 → (∃ k, (ordOf w l ep ks)[i]? = some k ∧ v = .int (k : Int) (tk k)) → t.heap.Ns C m₂ → m₂ x = some v → (∀ b o, b ≠ P → s.heap.get? b = some o → t.heap.get? b = some o) →
          wpAny (model prog w) A' (eval (.Compare (.Name x p1) [.GtE] [.Name y p2] p3) (genEnv scope cl C code builtinsNs env)) (fun y s₃ => y = .bool false ∧ Keeps t s₃) E' t := by
  intro code C A' E' i v t m₂ _ _ _ hv hn' hm hkp
  obtain ⟨k9, hk9', rfl⟩ := hv
  have hk9 : (k9 : Int) < n := hb _ ((ord_perm w l ep ks).mem_iff.mp (List.mem_of_getElem? hk9'))
  exact quiet_gef hk hx hy hn' hm hc (hkp _ _ hcP ho) hob hk9 hd hd' hcd
set_option maxRecDepth 100000 in
set_option maxHeartbeats 600000 in
theorem cs_inits_g {NG : Nat} {p9 : Program} {lo9 : List Str} (w : World) (mean : ExcName → Option Value) (mg mb : Str → Option Value) (envG : Env) (outer : List Env) (A₀ : Around) (base h₀ : Heap) (L : Addr) (m : Str → Option Value) (news : List (Addr × Obj)) (s : Shared)
   (R : Result → Shared → Prop) (x dx l : Addr) (dy : Addr) (ks : List Nat) (tks : Nat → Tok) (epy : Nat)
   (B : Below A₀ base outer h₀) (F : Fr h₀ L s.heap m) (X : (hd.heap_39 w.params).In h₀) (N : News h₀ L s.heap news)
   (T : Top p9 lo9 mean mg mb h₀)
   (hfG : envG.frame = some L) (hk : envG.scope.kind = .function) (rest : List (Addr × Obj)) (ps : Array Value) (nc : Value) (kws : List (Str × Value)) (hkw : (kws = [] ∧ nc = .none) ∨ kws = [(Str.ofString "num_cand", nc)]) (hnc : nc = .none ∨ ∃ n tn, nc = Value.int n tn ∧ ∀ k ∈ ks, (k : Int) < n) (hnews : news = (x, csObj dx #[] 0 (.fresh 0 0 (!bt w))) :: (52, tableObj ps) :: rest) (hxr : ∀ p ∈ rest, p.1 ≠ x) (hx52 : x ≠ 52) (h52 : ∀ p ∈ rest, p.1 ≠ 52) (htr : TriplesOk ps.toList) (hG : GB NG s.gens) (hdx : (dx, dictOf [] 0) ∈ rest) (hl : (l, csObj dy (esOf ks tks) epy (tabS ks (!bt w))) ∈ rest) (hks : ks ∈ subs)
   (hret : ∀ h' g' d' t' o' ps' tks' ep', (∃ more, ps' = ps ++ more) → TriplesOk ps'.toList → GB NG g' → o' = s.os → Fr h₀ L h' m → News h₀ L h' ((x, csObj dx (esOf ks tks') ep' (tabS ks (!bt w))) :: (52, tableObj ps') :: rest) → R (.ok (.ret .none)) ⟨h', g', d', t', o'⟩) :
   codeAny (model PySem.Challenge.rw_bb0001_01.row.prog w) { handled := none, depth := 460, frames := some (envG :: outer), guards := none, units := 90 } (.call (.ref 57) ⟨[.ref x, .ref l], kws⟩) R s := by
  subst hnews
  have hxl : x ≠ l := fun e => hxr _ hl e.symm
  revert X
  k_fill
  intro X
  have hxr' : ∀ p ∈ (52, tableObj ps) :: rest, p.1 ≠ x := fun p hp => by
    rcases List.mem_cons.mp hp with rfl | hp
    · exact hx52.symm
    · exact hxr p hp
  refine code_super_cell (n₁ := Str.ofString "num_cand") (a1 := Str.ofString "self") (a2 := Str.ofString "candidates") (v1 := .ref x) (v2 := .ref l) (v3 := nc) B F X N T rfl hfG hk (by k_is) (by k_is) (by k_room) ?hbind rfl rfl rfl ?hcf ?hpc ?h
  case hbind =>
    rcases hkw with ⟨rfl, rfl⟩ | rfl
    all_goals first | exact BindsTo.of_eq rfl | exact binds_K (by k_in) rfl (by k_is) rfl rfl rfl
  case hcf => intro n acc; rfl
  case hpc => intro h; rfl
  intro g L' h₁ tk ob FG F' N' hob B' X' T' hlt'
  have X1 := X'.keeps F'.keep
  refine ks_wpAt_execs_cons ?_
  refine ks_wpAt_Expr_any ?_
  refine ks_wpAt_MethodCall ?_
  refine ks_wpAt_super_base (f := 57) (cc := 56) (tf := _) (by exact rfl) (by exact rfl) (by decide) (by exact rfl) (X1 _ _ (by k_is)) (by exact rfl) (by exact rfl) (by exact rfl) (X1 _ _ (by k_is)) (by exact rfl) (by exact rfl) (by first | rfl | kernel_rfl) (by first | rfl | kernel_rfl) ?_
  have hboot : bootBuiltins (Str.ofString "super") = some (.type "super") := by first | rfl | kernel_rfl
  refine ks_loadName_global (by exact rfl) (by exact rfl) (loadGlobal_builtin (T'.g.keeps F'.keep) (mg_none_of X' T'.g (by k_is)) (T'.b.keeps F'.keep) ((T'.builtins _ (by decide +kernel)).trans hboot) ⟨rfl, ?_⟩)
  refine wpAny_loadName_free (by exact rfl) (by exact rfl) rfl ⟨_, X1 _ _ (by k_is), rfl⟩ ?_
  refine wpAny_loadName_local (by exact rfl) (by exact rfl) F'.ns (by exact rfl) ?_
  have hx1 := (N' _ (.tail _ (.head _))).1
  have hl1 := (N' _ (.tail _ (.tail _ (.tail _ hl)))).1
  refine ks_wpAny_isType_cls (X1 _ _ (by k_is)) (by exact rfl) ⟨rfl, ?_⟩
  refine ks_wpAny_call_super (X1 _ _ (by k_is)) (by exact rfl) hx1 (by exact rfl) (fun c e => by cases e) (looks_mroIn X1 (by k_is)) (fun h2 e2 k2 => ?_)
  dsimp only
  have X2 := X1.keeps k2
  have hx2 := k2 _ _ hx1
  refine gm_super X2 (ne75 X2 hx2) hx2 e2 fun q h3 t3 D3 => ?_
  have k3 : ∀ b o, h2.get? b = some o → h3.get? b = some o := fun b o e => D3.keep b o e (by simp [PySem.W.X.away])
  have X3 := X2.keeps k3
  have q3 := D3.at 0 _ _ rfl
  refine mw_callWith q3 ?_
  have hx3 := k3 _ _ hx2
  have hl3 := k3 _ _ (k2 _ _ hl1)
  refine wpAny_Name (wpAny_loadName_local (by exact rfl) (by exact rfl) ((F'.ns.keeps k2).keeps k3) (by exact rfl) ⟨rfl, ?_⟩)
  refine mw_call X3 hx3 q3 fun hP hh => si_set X3 hx3 hl3 hxl hks fun h4 tk4 tks4 ep4 hx4 k4 => hP _ _ ?_
  refine wpAt_of_wpAny ?_
  have k5 : ∀ b o, b ≠ x → h₁.get? b = some o → h4.get? b = some o := fun b o hb e => k4 b o hb (k3 b o (k2 b o e))
  have N5 : News g L' h₁ ((x, csObj dx #[] 0 (.fresh 0 0 (!bt w))) :: (L' + 1, ob) :: (52, tableObj ps) :: rest) := cb_drop N' mem_swap
  have hlx : L' + 1 ≠ x := fun e => absurd (hlt' _ (.head _)) (by rw [← e]; exact Nat.not_lt.mpr (Nat.le_succ _))
  have F4 := fr_but F' (N5 _ (.head _)).2.1 (N5 _ (.head _)).2.2 k5
  have N4 := news_but N5 (by intro p hp; rcases List.mem_cons.mp hp with rfl | hp; exact hlx; exact hxr' p hp) hx4 k5
  clear N5 F' N' hx1 hl1 e2 hx2 D3 q3 hx3 hl3 X3 X2 X1 k2 k3 k4 k5
  have h52' : ∀ p ∈ (x, csObj dx (esOf ks tks4) ep4 (tabS ks (!bt w))) :: (L' + 1, ob) :: rest, p.1 ≠ 52 := fun p hp => by
    rcases List.mem_cons.mp hp with rfl | hp
    · exact hx52
    · rcases List.mem_cons.mp hp with rfl | hp
      · have := hlt' _ (.tail _ (.head _)); exact fun e => absurd this (by rw [show (52 : Addr) = L' + 1 from e.symm]; exact Nat.not_lt.mpr (Nat.le_succ _))
      · exact h52 p hp
  have hlP : L' + 1 ≠ 52 := fun e => absurd (hlt' _ (.tail _ (.head _))) (by rw [show (52 : Addr) = L' + 1 from e.symm]; exact Nat.not_lt.mpr (Nat.le_succ _))
  rcases hnc with rfl | ⟨n, tn, rfl, hb⟩
  all_goals k_steps
  · obtain ⟨mo, rfl⟩ := hm6
    exact hret _ _ _ _ _ _ _ _ ⟨mo, rfl⟩ htr6 hG7 (hos7.trans hos6) (by assumption) (cb_drop (by assumption) mem_pick)
  · obtain ⟨mo, rfl⟩ := hm6
    obtain ⟨mo', rfl⟩ := hm8
    exact hret _ _ _ _ _ _ _ _ ⟨mo ++ mo', (Array.append_assoc ..)⟩ htr8 hG9 (hos9.trans (hos8.trans (hos7.trans hos6))) (by assumption) (cb_drop (by assumption) mem_pick)
theorem cs_inits {NG : Nat} {p9 : Program} {lo9 : List Str} (w : World) (mean : ExcName → Option Value) (mg mb : Str → Option Value) (cn : Str) (cs : Scope) (a : Addr) (ccd : Value) (cl : List (Str × Addr)) (outer : List Env) (A₀ : Around) (base h₀ : Heap) (L : Addr) (m : Str → Option Value) (news : List (Addr × Obj)) (s : Shared)
   (R : Result → Shared → Prop) (x dx l : Addr) (dy : Addr) (ks : List Nat) (tks : Nat → Tok) (epy : Nat)
   (B : Below A₀ base outer h₀) (F : Fr h₀ L s.heap m) (X : (hd.heap_39 w.params).In h₀) (N : News h₀ L s.heap news)
   (T : Top p9 lo9 mean mg mb h₀)
   (hk : cs.kind = .function) (rest : List (Addr × Obj)) (ps : Array Value) (nc : Value) (kws : List (Str × Value)) (hkw : (kws = [] ∧ nc = .none) ∨ kws = [(Str.ofString "num_cand", nc)]) (hnc : nc = .none ∨ ∃ n tn, nc = Value.int n tn ∧ ∀ k ∈ ks, (k : Int) < n) (hnews : news = (x, csObj dx #[] 0 (.fresh 0 0 (!bt w))) :: (52, tableObj ps) :: rest) (hxr : ∀ p ∈ rest, p.1 ≠ x) (hx52 : x ≠ 52) (h52 : ∀ p ∈ rest, p.1 ≠ 52) (htr : TriplesOk ps.toList) (hG : GB NG s.gens) (hdx : (dx, dictOf [] 0) ∈ rest) (hl : (l, csObj dy (esOf ks tks) epy (tabS ks (!bt w))) ∈ rest) (hks : ks ∈ subs)
   (hret : ∀ h' g' d' t' o' ps' tks' ep', (∃ more, ps' = ps ++ more) → TriplesOk ps'.toList → GB NG g' → o' = s.os → Fr h₀ L h' m → News h₀ L h' ((x, csObj dx (esOf ks tks') ep' (tabS ks (!bt w))) :: (52, tableObj ps') :: rest) → R (.ok (.ret .none)) ⟨h', g', d', t', o'⟩) :
   codeAny (model PySem.Challenge.rw_bb0001_01.row.prog w) { handled := none, depth := 460, frames := some (envX cn cs L a ccd cl :: outer), guards := none, units := 90 } (.call (.ref 57) ⟨[.ref x, .ref l], kws⟩) R s := cs_inits_g w mean mg mb (envX cn cs L a ccd cl) outer A₀ base h₀ L m news s R x dx l dy ks tks epy B F X N T rfl hk rest ps nc kws hkw hnc hnews hxr hx52 h52 htr hG hdx hl hks hret
end Mine
end

/- CNS -/
section
open PySem.W.X (tableObj)
open PySem PySem.W PyProof.Rows PySem.Calls PySem.Spec
set_option linter.unusedVariables false
namespace Mine
theorem cs_news_g {NG : Nat} {p9 : Program} {lo9 : List Str} (w : World) (mean : ExcName → Option Value) (mg mb : Str → Option Value) (envG : Env) (outer : List Env) (A₀ : Around) (base h₀ : Heap) (L : Addr) (m : Str → Option Value) (s : Shared)
   (R : Result → Shared → Prop) (l : Addr) (dy : Addr) (ks : List Nat) (tks : Nat → Tok) (epy : Nat)
   (B : Below A₀ base outer h₀) (F : Fr h₀ L s.heap m) (X : (hd.heap_39 w.params).In h₀) 
   (T : Top p9 lo9 mean mg mb h₀)
   (hfG : envG.frame = some L) (hk : envG.scope.kind = .function) (rest : List (Addr × Obj)) (ps : Array Value) (N : News h₀ L s.heap ((52, tableObj ps) :: rest)) (nc : Value) (kws : List (Str × Value)) (hkw : (kws = [] ∧ nc = .none) ∨ kws = [(Str.ofString "num_cand", nc)]) (hnc : nc = .none ∨ ∃ n tn, nc = Value.int n tn ∧ ∀ k ∈ ks, (k : Int) < n)
   (h52 : ∀ p ∈ rest, p.1 ≠ 52) (htr : TriplesOk ps.toList) (hG : GB NG s.gens) (hl : (l, csObj dy (esOf ks tks) epy (tabS ks (!bt w))) ∈ rest) (hks : ks ∈ subs)
   (hret : ∀ x dx h' g' d' t' o' ps' tks' ep', (∃ more, ps' = ps ++ more) → TriplesOk ps'.toList → GB NG g' → o' = s.os → Fr h₀ L h' m → News h₀ L h' ((x, csObj dx (esOf ks tks') ep' (tabS ks (!bt w))) :: (dx, dictOf [] 0) :: (52, tableObj ps') :: rest) → (∀ p ∈ (52, tableObj ps) :: rest, p.1 < dx) → dx < x → R (.ok (.ret (.ref x))) ⟨h', g', d', t', o'⟩) :
   codeAny (model PySem.Challenge.rw_bb0001_01.row.prog w) { handled := none, depth := 450, frames := some (envG :: outer), guards := none, units := 80 } (.call (.ref 75) ⟨[.ref l], kws⟩) R s := by
  obtain ⟨hh, g, d, t, os⟩ := s
  have lt : ∀ p ∈ (52, tableObj ps) :: rest, p.1 < hh.objs.size := fun p hp => Heap.lt_size (N p hp).1
  refine make_cs (X.keeps F.keep) ?_
  have F1 := F.push emptyDict
  have N1 := N.push F emptyDict
  have F2 := F1.push (csObj hh.objs.size #[] 0 (.fresh 0 0 (!w.params.followText "set-order")))
  have N2 := N1.push F1 (csObj hh.objs.size #[] 0 (.fresh 0 0 (!w.params.followText "set-order")))
  rw [Heap.size_push] at N2
  generalize (hh.push emptyDict).push (csObj hh.objs.size #[] 0 (.fresh 0 0 (!w.params.followText "set-order"))) = h2 at F2 N2 ⊢
  refine cod_weaken (A' := { handled := none, depth := 460, frames := some (envG :: outer), guards := none, units := 90 }) rfl (Nat.le_of_ble_eq_true rfl) (.inr rfl) (.inl rfl) (Nat.le_of_ble_eq_true rfl) ?_
  have lx : ∀ p ∈ (52, tableObj ps) :: rest, p.1 ≠ hh.objs.size + 1 := fun p hp e => absurd (lt p hp) (by rw [e]; exact Nat.not_lt.mpr (Nat.le_succ _))
  have hdx : hh.objs.size ≠ 52 := fun e => absurd (lt _ (.head _)) (by rw [e]; exact Nat.lt_irrefl _)
  refine cs_inits_g (s := ⟨h2, g, d, t, os⟩) w mean mg mb envG outer A₀ base h₀ L m _ _ (hh.objs.size + 1) hh.objs.size l dy ks tks epy B F2 X (cb_drop N2 ?_) T hfG hk ((hh.objs.size, emptyDict) :: rest) ps nc kws hkw hnc rfl ?_ ?_ ?_ htr hG (.head _) (.tail _ hl) hks fun h' g' d' t' o' ps' tks' ep' hm htr' hG' ho' F' N' => ⟨rfl, ?_⟩
  · intro p hp
    rcases List.mem_cons.mp hp with rfl | hp
    · exact .head _
    · rcases List.mem_cons.mp hp with rfl | hp
      · exact .tail _ (.tail _ (.head _))
      · rcases List.mem_cons.mp hp with rfl | hp
        · exact .tail _ (.head _)
        · exact .tail _ (.tail _ (.tail _ hp))
  · intro p hp
    rcases List.mem_cons.mp hp with rfl | hp
    · exact (Nat.succ_ne_self _).symm
    · exact lx p (.tail _ hp)
  · exact (lx _ (.head _)).symm
  · intro p hp
    rcases List.mem_cons.mp hp with rfl | hp
    · exact hdx
    · exact h52 p hp
  · refine hret (hh.objs.size + 1) hh.objs.size h' g' d' t' o' ps' tks' ep' hm htr' hG' ho' F' (cb_drop N' ?_) lt (Nat.lt_succ_self _)
    intro p hp
    rcases List.mem_cons.mp hp with rfl | hp
    · exact .head _
    · rcases List.mem_cons.mp hp with rfl | hp
      · exact .tail _ (.tail _ (.head _))
      · rcases List.mem_cons.mp hp with rfl | hp
        · exact .tail _ (.head _)
        · exact .tail _ (.tail _ (.tail _ hp))
theorem cs_news {NG : Nat} {p9 : Program} {lo9 : List Str} (w : World) (mean : ExcName → Option Value) (mg mb : Str → Option Value) (cn : Str) (cs : Scope) (a : Addr) (ccd : Value) (cl : List (Str × Addr)) (outer : List Env) (A₀ : Around) (base h₀ : Heap) (L : Addr) (m : Str → Option Value) (s : Shared)
   (R : Result → Shared → Prop) (l : Addr) (dy : Addr) (ks : List Nat) (tks : Nat → Tok) (epy : Nat)
   (B : Below A₀ base outer h₀) (F : Fr h₀ L s.heap m) (X : (hd.heap_39 w.params).In h₀) 
   (T : Top p9 lo9 mean mg mb h₀)
   (hk : cs.kind = .function) (rest : List (Addr × Obj)) (ps : Array Value) (N : News h₀ L s.heap ((52, tableObj ps) :: rest)) (nc : Value) (kws : List (Str × Value)) (hkw : (kws = [] ∧ nc = .none) ∨ kws = [(Str.ofString "num_cand", nc)]) (hnc : nc = .none ∨ ∃ n tn, nc = Value.int n tn ∧ ∀ k ∈ ks, (k : Int) < n)
   (h52 : ∀ p ∈ rest, p.1 ≠ 52) (htr : TriplesOk ps.toList) (hG : GB NG s.gens) (hl : (l, csObj dy (esOf ks tks) epy (tabS ks (!bt w))) ∈ rest) (hks : ks ∈ subs)
   (hret : ∀ x dx h' g' d' t' o' ps' tks' ep', (∃ more, ps' = ps ++ more) → TriplesOk ps'.toList → GB NG g' → o' = s.os → Fr h₀ L h' m → News h₀ L h' ((x, csObj dx (esOf ks tks') ep' (tabS ks (!bt w))) :: (dx, dictOf [] 0) :: (52, tableObj ps') :: rest) → (∀ p ∈ (52, tableObj ps) :: rest, p.1 < dx) → dx < x → R (.ok (.ret (.ref x))) ⟨h', g', d', t', o'⟩) :
   codeAny (model PySem.Challenge.rw_bb0001_01.row.prog w) { handled := none, depth := 450, frames := some (envX cn cs L a ccd cl :: outer), guards := none, units := 80 } (.call (.ref 75) ⟨[.ref l], kws⟩) R s := cs_news_g w mean mg mb (envX cn cs L a ccd cl) outer A₀ base h₀ L m s R l dy ks tks epy B F X T rfl hk rest ps N nc kws hkw hnc h52 htr hG hl hks hret
end Mine
end

/- Tab -/
section
open PySem PySem.W PyProof.Rows PySem.Calls PySem.Spec
open PySem.W.X (tableObj)
set_option linter.unusedVariables false
set_option maxRecDepth 100000
namespace Mine
/-- the table P of codes stands in the ledger -/
def Tab (P : Addr) (led : List (Addr × Obj)) : Prop := ∃ ps, (P, tableObj ps) ∈ led ∧ TriplesOk ps.toList
theorem Tab.mono {P : Addr} {led led' : List (Addr × Obj)} (h : Tab P led) (k : ∀ p ∈ led, p.1 = P → p ∈ led') : Tab P led' := let ⟨ps, a, b⟩ := h; ⟨ps, k _ a rfl, b⟩
theorem news_tab {h₀ h : Heap} {L P : Addr} {po : Obj} {led : List (Addr × Obj)} (N : News h₀ L h led) (hp : (P, po) ∈ led) : News h₀ L h ((P, po) :: off P led) := fun p hp' => by
  rcases List.mem_cons.mp hp' with rfl | hp'
  · exact N _ hp
  · exact N _ (mem_off.mp hp').1
theorem ne_tab {h₀ h : Heap} {L P a : Addr} {o : Obj} {ps : Array Value} {led : List (Addr × Obj)} (N : News h₀ L h led) (hp : (P, tableObj ps) ∈ led) (ha : (a, o) ∈ led) (hd : ∀ fs, o.data ≠ .fields fs) : a ≠ P :=
  News.ne_data N ha hp fun e => hd _ e
section
variable {NG : Nat} {p9 : Program} {lo9 : List Str} {w : World} {mean : ExcName → Option Value} {mg mb : Str → Option Value} {envG : Env} {outer : List Env} {A₀ : Around} {base h₀ : Heap} {L : Addr} {m : Str → Option Value} {s : Shared} {R : Result → Shared → Prop} {led : List (Addr × Obj)}
theorem cs_new_m (l : Addr) (vs : Array Value) (ns : List Nat) (nl : Nat)
   (B : Below A₀ base outer h₀) (F : Fr h₀ L s.heap m) (X : (hd.heap_39 w.params).In h₀) (T : Top p9 lo9 mean mg mb h₀)
   (hfG : envG.frame = some L) (hk : envG.scope.kind = .function) (N : News h₀ L s.heap led) (hT : Tab 52 led) (nc : Value) (kws : List (Str × Value)) (hkw : (kws = [] ∧ nc = .none) ∨ kws = [(Str.ofString "num_cand", nc)]) (hnc : nc = .none ∨ ∃ n tn, nc = Value.int n tn ∧ ∀ k ∈ ns, (k : Int) < n)
   (hG : GB NG s.gens) (hl : (l, { cls := .type "list", data := .seq vs nl }) ∈ led) (hn : ns.length = vs.size) (hval : ∀ i v, vs[i]? = some v → ∃ t, v = Value.int ((ns.getD i 0 : Nat) : Int) t) (hlt : ∀ k ∈ ns, k < 4) (hnd : ns.Nodup) (hvz : vs.size ≤ 4)
   (hret : ∀ x dx h' g' d' t' led' tks ep', Fr h₀ L h' m → News h₀ L h' led' → (∀ p ∈ led, p.1 ≠ 52 → p ∈ led') → Tab 52 led' → GB NG g' → (x, csObj dx (esOf (insAll [] ns) tks) ep' (tabS (insAll [] ns) (!bt w))) ∈ led' → (dx, dictOf [] 0) ∈ led' → (∀ p ∈ led, p.1 < dx) → dx < x → R (.ok (.ret (.ref x))) ⟨h', g', d', t', s.os⟩) :
   codeAny (model PySem.Challenge.rw_bb0001_01.row.prog w) { handled := none, depth := 450, frames := some (envG :: outer), guards := none, units := 80 } (.call (.ref 75) ⟨[.ref l], kws⟩) R s := by
  obtain ⟨ps, hp, htr⟩ := hT
  refine cs_new_g w mean mg mb envG outer A₀ base h₀ L m s R l vs ns nl B F X T hfG hk (off 52 led) ps (news_tab N hp) nc kws hkw hnc (fun p hp => (mem_off.mp hp).2) htr hG (mem_off.mpr ⟨hl, ne_tab N hp hl (fun fs e => by cases e)⟩) hn hval hlt hnd hvz ?_
  intro x dx h' g' d' t' o' ps' tks ep' hm htr' hG' ho' F' N' l1 l2
  subst ho'
  refine hret x dx h' g' d' t' _ tks ep' F' N' (fun p hp hne => .tail _ (.tail _ (.tail _ (mem_off.mpr ⟨hp, hne⟩)))) ⟨ps', .tail _ (.tail _ (.head _)), htr'⟩ hG' (.head _) (.tail _ (.head _)) (fun p hp' => ?_) l2
  by_cases e : p.1 = 52
  · have := l1 _ (.head _); rw [e]; exact this
  · exact l1 p (.tail _ (mem_off.mpr ⟨hp', e⟩))
theorem cs_news_m (l dy : Addr) (ks : List Nat) (tks : Nat → Tok) (epy : Nat)
   (B : Below A₀ base outer h₀) (F : Fr h₀ L s.heap m) (X : (hd.heap_39 w.params).In h₀) (T : Top p9 lo9 mean mg mb h₀)
   (hfG : envG.frame = some L) (hk : envG.scope.kind = .function) (N : News h₀ L s.heap led) (hT : Tab 52 led) (nc : Value) (kws : List (Str × Value)) (hkw : (kws = [] ∧ nc = .none) ∨ kws = [(Str.ofString "num_cand", nc)]) (hnc : nc = .none ∨ ∃ n tn, nc = Value.int n tn ∧ ∀ k ∈ ks, (k : Int) < n)
   (hG : GB NG s.gens) (hl : (l, csObj dy (esOf ks tks) epy (tabS ks (!bt w))) ∈ led) (hks : ks ∈ subs)
   (hret : ∀ x dx h' g' d' t' led' tks ep', Fr h₀ L h' m → News h₀ L h' led' → (∀ p ∈ led, p.1 ≠ 52 → p ∈ led') → Tab 52 led' → GB NG g' → (x, csObj dx (esOf ks tks) ep' (tabS ks (!bt w))) ∈ led' → (dx, dictOf [] 0) ∈ led' → (∀ p ∈ led, p.1 < dx) → dx < x → R (.ok (.ret (.ref x))) ⟨h', g', d', t', s.os⟩) :
   codeAny (model PySem.Challenge.rw_bb0001_01.row.prog w) { handled := none, depth := 450, frames := some (envG :: outer), guards := none, units := 80 } (.call (.ref 75) ⟨[.ref l], kws⟩) R s := by
  obtain ⟨ps, hp, htr⟩ := hT
  refine cs_news_g w mean mg mb envG outer A₀ base h₀ L m s R l dy ks tks epy B F X T hfG hk (off 52 led) ps (news_tab N hp) nc kws hkw hnc (fun p hp => (mem_off.mp hp).2) htr hG (mem_off.mpr ⟨hl, ne_tab N hp hl (fun fs e => by cases e)⟩) hks ?_
  intro x dx h' g' d' t' o' ps' tks ep' hm htr' hG' ho' F' N' l1 l2
  subst ho'
  refine hret x dx h' g' d' t' _ tks ep' F' N' (fun p hp hne => .tail _ (.tail _ (.tail _ (mem_off.mpr ⟨hp, hne⟩)))) ⟨ps', .tail _ (.tail _ (.head _)), htr'⟩ hG' (.head _) (.tail _ (.head _)) (fun p hp' => ?_) l2
  by_cases e : p.1 = 52
  · have := l1 _ (.head _); rw [e]; exact this
  · exact l1 p (.tail _ (mem_off.mpr ⟨hp', e⟩))
theorem str_m {cn : Str} {cs : Scope} {a : Addr} {ccd : Value} {cl : List (Str × Addr)} {A : Around} {Q E : Value → Shared → Prop} (l dy : Addr) (ks : List Nat) (tks : Nat → Tok) (epy : Nat)
   (hh : A.handled = none) (hdp : A.depth ≤ 410) (hfr : A.frames = some (envX cn cs L a ccd cl :: outer)) (hun : A.units ≤ 45)
   (B : Below A₀ base outer h₀) (F : Fr h₀ L s.heap m) (X : (hd.heap_39 w.params).In h₀) (N : News h₀ L s.heap led) (T : Top p9 lo9 mean mg mb h₀)
   (hk : cs.kind = .function) (hT : Tab 88 led) (hG : GB NG s.gens) (hl : (l, csObj dy (esOf ks tks) epy (tabS ks (!bt w))) ∈ led) (hdy : (dy, dictOf [] 0) ∈ led) (hks : ks ∈ subs)
   (hret : ∀ x t h' g' d' t' led', Fr h₀ L h' m → News h₀ L h' led' → (∀ p ∈ led, p.1 ≠ 88 → p ∈ led') → Tab 88 led' → GB NG g' → Q (.str x t) ⟨h', g', d', t', s.os⟩) :
   wpAny (model PySem.Challenge.rw_bb0001_01.row.prog w) A (call (.type "str") [.ref l]) Q E s := by
  obtain ⟨ps, hp, htr⟩ := hT
  refine str_cs_u hh hdp hfr hun (off 88 led) ps l dy ks tks epy NG B F X (news_tab N hp) T hk rfl (fun p hp => (mem_off.mp hp).2) htr hG (mem_off.mpr ⟨hl, ne_tab N hp hl (fun fs e => by cases e)⟩) (mem_off.mpr ⟨hdy, ne_tab N hp hdy (fun fs e => by cases e)⟩) hks ?_
  intro x t h' g' d' t' o' ps' hm htr' hG' ho' F' N'
  subst ho'
  exact hret x t h' g' d' t' _ F' N' (fun p hp hne => .tail _ (mem_off.mpr ⟨hp, hne⟩)) ⟨ps', .head _, htr'⟩ hG'
end
end Mine
end

/- SrtK -/
section
open PySem PySem.W PyProof.Rows PySem.Calls PySem.Spec
open PySem.W.X (tableObj)
set_option linter.unusedVariables false
set_option maxRecDepth 100000
namespace Mine
theorem args_list_sort_key (a v : Value) : argsOk "list.sort" ⟨[a], [(Str.ofString "key", v)]⟩ := by unfold argsOk; kernel_rfl
theorem args_sorted_key (a v : Value) : argsOk "sorted" ⟨[a], [(Str.ofString "key", v)]⟩ := by unfold argsOk; kernel_rfl
theorem list_sort_key (a : Addr) : Builtin.«list.sort» ⟨[.ref a], [(Str.ofString "key", .type "str")]⟩ = (do
    let items ← Builtin.List.listItems (.ref a)
    Builtin.List.listUpdate (.ref a) fun _ => #[]
    let before ← seqEpoch a
    let held ← newTuple items.toList
    let keyStore ← newList []
    holding [held, keyStore] do
      rule "list.sort.key"
      for x in items do
        match ← (call (.type "str") [x]).attempt with
        | .ok k => Builtin.List.listUpdate keyStore (·.push k)
        | .error e =>
          rule "list.sort.key-raised"
          let made ← Builtin.List.listItems keyStore
          Builtin.List.listUpdate keyStore fun _ => #[]
          letGo made.toList.reverse [e]
          Builtin.List.listUpdate (.ref a) fun _ => items; throw e
      let keys ← Builtin.List.listItems keyStore
      let kind ← if items.size < 2 then pure general' else keyKind' keys
      let ((), s) ← (if items.size < 2 then pure () else sortRuns').run (SortSt.mk' kind (keys.zip items) #[] 7 none)
      let sorted := (arrOf s).map (·.2)
      Builtin.List.listUpdate keyStore fun _ => #[]
      letGo ((arrOf s).map (·.1)).toList (failedOf s).toList
      let touched := (← seqEpoch a) != before
      Builtin.List.listUpdate (.ref a) fun _ => sorted
      if let some e := failedOf s then rule "list.sort.comparison-raised"; throw e
      if touched then rule "list.sort.modified"; raiseError "ValueError" "list modified during sort"
      ret .none) := rfl
section
variable {NG : Nat} {prog : Program} {w : World} {A : Around} {E : Value → Shared → Prop} {s : Shared} {L : Addr} {h₀ : Heap} {m : Str → Option Value} {led : List (Addr × Obj)}
theorem list_sort_key1 {a : Addr} {y : Value} {n : Nat} {P : Fin → Shared → Prop} (F : Fr h₀ L s.heap m) (N : News h₀ L s.heap ((a, seqObj "list" #[y] n) :: led)) (hna : ∀ p ∈ led, p.1 < a) (h88 : 88 < a)
    (hkey : ∀ E' Q' (h : Heap) led₂, Fr h₀ L h m → News h₀ L h led₂ → (∀ p ∈ led, p ∈ led₂) → (∀ x t h' g' d' t' led₃, Fr h₀ L h' m → News h₀ L h' led₃ → (∀ p ∈ led₂, p.1 ≠ 88 → p ∈ led₃) → Tab 88 led₃ → GB NG g' → Q' (.str x t) ⟨h', g', d', t', s.os⟩) →
      wpAny (model prog w) A (call (.type "str") [y]) Q' E' { s with heap := h })
    (hQ : ∀ h' g' d' t' led' e, Fr h₀ L h' m → News h₀ L h' led' → (a, seqObj "list" #[y] e) ∈ led' → (∀ p ∈ led, p.1 ≠ 88 → p ∈ led') → Tab 88 led' → GB NG g' → P (.done (.ret .none)) ⟨h', g', d', t', s.os⟩) :
    wpAny (model prog w) A (Builtin.«list.sort» ⟨[.ref a], [(Str.ofString "key", .type "str")]⟩) P E s := by
  have ho := (N _ (.head _)).1
  have lt : ∀ p ∈ (a, seqObj "list" #[y] n) :: led, p.1 < s.heap.objs.size := fun p hp => Heap.lt_size (N p hp).1
  rw [list_sort_key]
  refine wpAny_bind (listItems_at ho rfl ?_)
  refine wpAny_bind (listUpdate_at ho rfl ?_ (hsz := Nat.le_of_ble_eq_true rfl) (hsz2 := Nat.le_of_ble_eq_true rfl))
  obtain ⟨e1, ho1⟩ : ∃ e1, (s.heap.update a (Obj.mapSeq fun _ => #[])).get? a = some (seqObj "list" #[] e1) := ⟨_, get?_update_seq ho (fun _ => #[])⟩
  have oth1 : ∀ b o, b ≠ a → s.heap.get? b = some o → (s.heap.update a (Obj.mapSeq fun _ => #[])).get? b = some o := fun b o hb e => (Heap.get?_update_other _ _ (Ne.symm hb)).trans e
  have F1 := fr_but F (N _ (.head _)).2.1 (N _ (.head _)).2.2 oth1
  have N1 : News h₀ L _ ((a, seqObj "list" #[] e1) :: led) := news_but N (fun p hp => Nat.ne_of_lt (hna p hp)) ho1 oth1
  generalize s.heap.update a (Obj.mapSeq fun _ => #[]) = h1 at F1 N1 ho1 ⊢
  refine wpAny_bind (seqEpoch_at (s := { s with heap := h1 }) ho1 rfl ?_)
  refine wpAny_bind (wpAny_newTuple ?_ (by size_fits))
  have F2 := F1.push (seqObj "tuple" #[y] 0)
  have N2 := N1.push F1 (seqObj "tuple" #[y] 0)
  show wpAny _ A _ P E { s with heap := h1.push (seqObj "tuple" #[y] 0) }
  generalize h1.push (seqObj "tuple" #[y] 0) = h2 at F2 N2 ⊢
  refine wpAny_bind (wpAny_newList ?_)
  have F3 := F2.push (seqObj "list" #[] 0)
  have N3 := N2.push F2 (seqObj "list" #[] 0)
  have lt2 : ∀ p ∈ (h1.objs.size, seqObj "tuple" #[y] 0) :: (a, seqObj "list" #[] e1) :: led, p.1 < h2.objs.size := fun p hp => Heap.lt_size (N2 p hp).1
  have hk88 : h2.objs.size ≠ 88 := Nat.ne_of_gt (Nat.lt_trans h88 (lt2 _ (.tail _ (.head _))))
  have hka : h2.objs.size ≠ a := Nat.ne_of_gt (lt2 _ (.tail _ (.head _)))
  show wpAny _ A _ P E { s with heap := h2.push (seqObj "list" #[] 0) }
  generalize h2.push (seqObj "list" #[] 0) = h3 at F3 N3 ⊢
  generalize h2.objs.size = kS at *
  refine wpAny_holding ?_
  refine wpAny_bind (wpAny_rule ?_)
  have hfor : ∀ {β : Type} (f : Value → β → Sem (ForInStep β)) (b : β), forIn (#[y] : Array Value) b f = (do match ← f y b with | .yield b => pure b | .done b => pure b) := fun f b => by
    simp only [List.forIn_toArray, List.forIn_cons, List.forIn_nil]
    refine congrArg (f y b >>= ·) (funext fun r => ?_)
    cases r <;> rfl
  rw [hfor]
  refine wpAny_bind ?_
  refine wpAny_bind (wpAny_bind (wpAny_attempt ?_))
  refine hkey _ _ h3 _ F3 N3 (fun p hp => .tail _ (.tail _ (.tail _ hp))) fun x t h4 g4 d4 t4 led4 F4 N4 sub4 T4 G4 => ?_
  dsimp only
  have hk4 := sub4 _ (.head _) hk88
  have ha4 := sub4 _ (.tail _ (.tail _ (.head _))) (Nat.ne_of_gt h88)
  refine wpAny_bind (listUpdate_at (N4 _ hk4).1 rfl ?_ (hsz := Nat.le_of_ble_eq_true rfl) (hsz2 := Nat.le_of_ble_eq_true rfl))
  obtain ⟨e5, ho5⟩ : ∃ e5, (h4.update kS (Obj.mapSeq (·.push (Value.str x t)))).get? kS = some (seqObj "list" #[Value.str x t] e5) := ⟨_, get?_update_seq (N4 _ hk4).1 (·.push (Value.str x t))⟩
  have oth5 : ∀ b o, b ≠ kS → h4.get? b = some o → (h4.update kS (Obj.mapSeq (·.push (Value.str x t)))).get? b = some o := fun b o hb e => (Heap.get?_update_other _ _ (Ne.symm hb)).trans e
  have F5 := fr_but F4 (N4 _ hk4).2.1 (N4 _ hk4).2.2 oth5
  have N5 := news_put N4 hk4 oth5 ho5
  have ha5 := mem_put (o := seqObj "list" #[Value.str x t] e5) ha4 (Ne.symm hka)
  generalize h4.update kS (Obj.mapSeq (·.push (Value.str x t))) = h5 at F5 N5 ho5 ⊢
  refine wpAny_pure (wpAny_pure ?_)
  refine wpAny_bind (listItems_at (N5 _ mem_put_self).1 rfl ?_)
  have hlt2 : (#[y] : Array Value).size < 2 := Nat.lt_succ_self 1
  rw [if_pos hlt2, if_pos hlt2]
  refine wpAny_bind (wpAny_pure ?_)
  rw [StateT.run_pure]
  refine wpAny_bind (wpAny_pure ?_)
  dsimp only
  refine wpAny_bind (listUpdate_at (N5 _ mem_put_self).1 rfl ?_ (hsz := Nat.le_of_ble_eq_true rfl) (hsz2 := Nat.le_of_ble_eq_true rfl))
  obtain ⟨e6, ho6⟩ : ∃ e6, (h5.update kS (Obj.mapSeq fun _ => #[])).get? kS = some (seqObj "list" #[] e6) := ⟨_, get?_update_seq (N5 _ mem_put_self).1 (fun _ => #[])⟩
  have oth6 : ∀ b o, b ≠ kS → h5.get? b = some o → (h5.update kS (Obj.mapSeq fun _ => #[])).get? b = some o := fun b o hb e => (Heap.get?_update_other _ _ (Ne.symm hb)).trans e
  have F6 := fr_but F5 (N5 _ mem_put_self).2.1 (N5 _ mem_put_self).2.2 oth6
  have N6 := news_put N5 mem_put_self oth6 ho6
  have ha6 := mem_put (o := seqObj "list" #[] e6) ha5 (Ne.symm hka)
  generalize h5.update kS (Obj.mapSeq fun _ => #[]) = h6 at F6 N6 ⊢
  refine wpAny_bind (wpAny_letGo ?_)
  refine wpAny_bind (seqEpoch_at (N6 _ ha6).1 rfl ?_)
  have hz : (Array.map (fun x => x.snd) (arrOf (SortSt.mk' general' (#[Value.str x t].zip #[y]) #[] 7 none))) = #[y] := by
    show Array.map (fun x => x.snd) (#[Value.str x t].zip #[y]) = #[y]
    simp
  rw [hz]
  refine wpAny_bind (listUpdate_at (N6 _ ha6).1 rfl ?_ (hsz := Nat.le_of_ble_eq_true rfl) (hsz2 := Nat.le_of_ble_eq_true rfl))
  simp only [bne_self_eq_false, Bool.false_eq_true, if_false]
  refine wpAny_pure ?_
  obtain ⟨e7, ho7⟩ : ∃ e7, (h6.update a (Obj.mapSeq fun _ => #[y])).get? a = some (seqObj "list" #[y] e7) := ⟨_, get?_update_seq (N6 _ ha6).1 (fun _ => #[y])⟩
  have oth7 : ∀ b o, b ≠ a → h6.get? b = some o → (h6.update a (Obj.mapSeq fun _ => #[y])).get? b = some o := fun b o hb e => (Heap.get?_update_other _ _ (Ne.symm hb)).trans e
  refine hQ _ _ _ _ _ e7 (fr_but F6 (N6 _ ha6).2.1 (N6 _ ha6).2.2 oth7) (news_put N6 ha6 oth7 ho7) mem_put_self (fun p hp hne => ?_) ?_ G4
  · have q1 : p.1 ≠ kS := Nat.ne_of_lt (lt2 _ (.tail _ (.tail _ hp)))
    exact mem_put (mem_put (mem_put (sub4 p (.tail _ (.tail _ (.tail _ hp))) hne) q1) q1) (Nat.ne_of_lt (hna p hp))
  · exact T4.mono fun p hp e => mem_put (mem_put (mem_put hp (by rw [e]; exact Ne.symm hk88)) (by rw [e]; exact Ne.symm hk88)) (by rw [e]; exact Nat.ne_of_lt h88)
theorem sorted_key {a : Addr} {K : Value → List (Addr × Obj) → Array GenState → Prop} {Q : Value → Shared → Prop} (F₀ : Fr h₀ L s.heap m)
    (hcol : wpAny (model prog w) A.in1 (collect (.ref a)) (fun vs s₁ => ∃ y led₁, vs = [y] ∧ Fr h₀ L s₁.heap m ∧ News h₀ L s₁.heap led₁ ∧ s₁.os = s.os ∧ Tab 88 led₁ ∧ K y led₁ s₁.gens) E s)
    (hkey : ∀ y led₁ (s₁ : Shared) E' Q' led₂, K y led₁ s₁.gens → s₁.os = s.os → Fr h₀ L s₁.heap m → News h₀ L s₁.heap led₂ → Tab 88 led₂ → (∀ p ∈ led₁, p ∈ led₂) →
      (∀ x t h' g' d' t' led₃, Fr h₀ L h' m → News h₀ L h' led₃ → (∀ p ∈ led₂, p.1 ≠ 88 → p ∈ led₃) → Tab 88 led₃ → GB NG g' → Q' (.str x t) ⟨h', g', d', t', s₁.os⟩) →
      wpAny (model prog w) A.in1.in1 (call (.type "str") [y]) Q' E' s₁)
    (hQ : ∀ y led₁ g₁ l e h' g' d' t' led', K y led₁ g₁ → Fr h₀ L h' m → News h₀ L h' led' → (l, seqObj "list" #[y] e) ∈ led' → (∀ p ∈ led₁, p.1 ≠ 88 → p ∈ led') → (∀ p ∈ led₁, p.1 < l) → Tab 88 led' → GB NG g' → Q (.ref l) ⟨h', g', d', t', s.os⟩) :
    wpAny (model prog w) A (call (.builtin "sorted") [.ref a] [(Str.ofString "key", .type "str")]) Q E s := by
  refine call_function_entry_kw kind_sorted plain_sorted entry_sorted (args_sorted_key _ _) ?_
  unfold Builtin.«sorted»
  refine wpAny_bind (m := checkCount "sorted" 1 1 _) (wpAny_pure ?_)
  refine wpAny_bind (wpAny_mono hcol ?_ fun _ _ e => e)
  rintro vs ⟨h1, g1, d1, t1, os1⟩ ⟨y, led₁, rfl, F1, N1, hos, T1, hK⟩
  dsimp only at hos hK F1 N1
  subst hos
  refine wpAny_bind (wpAny_newList ?_)
  have F2 := F1.push (seqObj "list" #[y] 0)
  have N2 := N1.push F1 (seqObj "list" #[y] 0)
  have lt : ∀ p ∈ led₁, p.1 < h1.objs.size := fun p hp => Heap.lt_size (N1 p hp).1
  have h88 : 88 < h1.objs.size := let ⟨ps, hp, _⟩ := T1; lt _ hp
  show wpAny _ _ _ _ _ ⟨h1.push (seqObj "list" #[y] 0), g1, d1, t1, s.os⟩
  generalize h1.push (seqObj "list" #[y] 0) = h2 at F2 N2 ⊢
  generalize h1.objs.size = l at *
  refine wpAny_bind (wpAny_holding (wpAny_call_entry_kw slot_list_sort ⟨_, (N2 _ (.head _)).1, rfl⟩ entry_list_sort (list_sort_key1 (NG := NG) (led := led₁) F2 N2 lt h88 ?_ ?_) (args_list_sort_key _ _)))
  · intro E' Q' h led₂ F3 N3 sub hq
    exact hkey y led₁ ⟨h, g1, d1, t1, s.os⟩ E' Q' led₂ hK rfl F3 N3 (T1.mono fun p hp _ => sub p hp) sub hq
  · intro h' g' d' t' led' e F3 N3 hl sub T3 G3
    exact ⟨_, rfl, wpAny_pure ⟨_, rfl, hQ y led₁ g1 l e h' g' d' t' led' hK F3 N3 hl sub lt T3 G3⟩⟩
end
end Mine
end

/- ElC -/
section
open PySem PySem.W PyProof.Rows PySem.Calls PySem.Spec
open PySem.W.X (tableObj)
set_option linter.unusedVariables false
set_option maxRecDepth 100000
namespace Mine
/-- what CandidateSet(..) is called on: a list of candidates, or a set of them -/
def CsArg (w : World) (led : List (Addr × Obj)) (l : Addr) (res : List Nat) : Prop :=
  (∃ vs ns nl, (l, ({ cls := .type "list", data := .seq vs nl } : Obj)) ∈ led ∧ ns.length = (vs : Array Value).size ∧ (∀ i v, vs[i]? = some v → ∃ t, v = Value.int ((ns.getD i 0 : Nat) : Int) t) ∧ (∀ k ∈ ns, k < 4) ∧ ns.Nodup ∧ vs.size ≤ 4 ∧ insAll [] ns = res) ∨
  (∃ dy tks epy, (l, csObj dy (esOf res tks) epy (tabS res (!bt w))) ∈ led ∧ res ∈ subs)
theorem CsArg.subs {w : World} {led : List (Addr × Obj)} {l : Addr} {res : List Nat} (h : CsArg w led l res) : res ∈ subs := by
  rcases h with ⟨vs, ns, nl, _, _, _, h4, _, _, rfl⟩ | ⟨_, _, _, _, h⟩
  · exact insAll_subs ns [] (by decide) h4
  · exact h
theorem CsArg.mono {w : World} {led led' : List (Addr × Obj)} {l : Addr} {res : List Nat} (h : CsArg w led l res) (k : ∀ o, (l, o) ∈ led → (l, o) ∈ led') : CsArg w led' l res :=
  h.imp (fun ⟨vs, ns, nl, a, r⟩ => ⟨vs, ns, nl, k _ a, r⟩) fun ⟨dy, tks, epy, a, r⟩ => ⟨dy, tks, epy, k _ a, r⟩
theorem CsArg.ex {w : World} {led : List (Addr × Obj)} {l : Addr} {res : List Nat} (h : CsArg w led l res) : ∃ o, (l, o) ∈ led ∧ ∀ fs, o.data ≠ .fields fs := by
  rcases h with ⟨vs, ns, nl, a, _⟩ | ⟨dy, tks, epy, a, _⟩
  · exact ⟨_, a, fun fs e => by cases e⟩
  · exact ⟨_, a, fun fs e => by cases e⟩
section
variable {NG : Nat} {p9 : Program} {lo9 : List Str} {w : World} {mean : ExcName → Option Value} {mg mb : Str → Option Value} {envG : Env} {outer : List Env} {A₀ : Around} {base h₀ : Heap} {L : Addr} {m : Str → Option Value} {s : Shared} {R : Result → Shared → Prop} {led : List (Addr × Obj)}
theorem cs_new_c (l : Addr) (res : List Nat)
   (B : Below A₀ base outer h₀) (F : Fr h₀ L s.heap m) (X : (hd.heap_39 w.params).In h₀) (T : Top p9 lo9 mean mg mb h₀)
   (hfG : envG.frame = some L) (hk : envG.scope.kind = .function) (N : News h₀ L s.heap led) (hT : Tab 52 led) (hG : GB NG s.gens) (hc : CsArg w led l res)
   (hret : ∀ x dx h' g' d' t' led' tks ep', Fr h₀ L h' m → News h₀ L h' led' → (∀ p ∈ led, p.1 ≠ 52 → p ∈ led') → Tab 52 led' → GB NG g' → (x, csObj dx (esOf res tks) ep' (tabS res (!bt w))) ∈ led' → (dx, dictOf [] 0) ∈ led' → (∀ p ∈ led, p.1 < dx) → dx < x → R (.ok (.ret (.ref x))) ⟨h', g', d', t', s.os⟩) :
   codeAny (model PySem.Challenge.rw_bb0001_01.row.prog w) { handled := none, depth := 450, frames := some (envG :: outer), guards := none, units := 80 } (.call (.ref 75) ⟨[.ref l], []⟩) R s := by
  rcases hc with ⟨vs, ns, nl, h1, h2, h3, h4, h5, h6, rfl⟩ | ⟨dy, tks, epy, h1, h2⟩
  · exact cs_new_m l vs ns nl B F X T hfG hk N hT .none [] (.inl ⟨rfl, rfl⟩) (.inl rfl) hG h1 h2 h3 h4 h5 h6 hret
  · exact cs_news_m l dy res tks epy B F X T hfG hk N hT .none [] (.inl ⟨rfl, rfl⟩) (.inl rfl) hG h1 h2 hret
end
set_option maxHeartbeats 1000000 in
theorem cs_name {w : World} : nsIn (hd.heap_39 w.params) mainGlobals (Str.ofString "CandidateSet") = some (some (.ref 75)) ∧ keepIn (hd.heap_39 w.params) (.ref 75) = true ∧ PySem.Challenge.rw_bb0001_01.row.prog = PySem.Challenge.rw_bb0001_01.row.prog := by
  k_fill
  exact ⟨by k_is, by k_is, rfl⟩
section
variable {w : World} {prog : Program} {A : Around} {E : Value → Shared → Prop} {s : Shared} {env : Env} {x : Str} {p1 p2 p3 : Pos} {m mg mb : Str → Option Value} {h₁ : Heap} {p9 : Program} {lo9 : List Str} {mean : ExcName → Option Value} {v : Value} {Q : Value → Shared → Prop}
theorem el_call (hk : env.scope.kind = .function) (hx : env.kindOf x = some .local) (hs : env.kindOf (Str.ofString "CandidateSet") = some .globalImplicit) (hdb : (x == ("__debug__" : Str)) = false) (hgl : env.globals = mainGlobals)
    (F : Fr h₁ env.locals s.heap m) (hm : m x = some v) (X : (hd.heap_39 w.params).In h₁) (T : Top p9 lo9 mean mg mb h₁) (h : wpAny (model prog w) A (call (.ref 75) [v]) Q E s) :
    wpAny (model prog w) A (eval (.Call (.Name (Str.ofString "CandidateSet") p1) [.Name x p2] [] p3) env) Q E s := by
  refine Call_ (Name_function_global hk hs (loadGlobal_global (env := env) (by rw [hgl]; exact T.g.keeps F.keep) (mg_of X T.g cs_name.1) ?_) (by decide)) (by rfl)
  refine callWith_K X cs_name.2.1 (args_cons (wpAny_Name (wpAny_loadName_local hk hx F.ns hm ?_) hdb) (by rfl)) (by rfl) (by rfl)
  exact args_nil ⟨X.keeps F.keep, h⟩
end
end Mine
end

/- SC85 -/
section
open PySem.W.X (tableObj)
open PySem PySem.W PyProof.Rows PySem.Calls PySem.Spec
set_option linter.unusedVariables false
namespace Mine
theorem GB.mono {N M : Nat} {g : Array GenState} (h : GB N g) (hle : M ≤ N) : GB M g := ⟨h.bare, Nat.le_trans hle h.size⟩
local macro_rules | `(tactic| k_mem) => `(tactic| first | assumption | exact List.Mem.head _ | (refine List.Mem.tail _ ?_; k_mem))
set_option hygiene false in
local macro_rules | `(tactic| wtm_at "own eval GeneratorExp") => `(tactic| (k_here; (refine gen_once (lo := olin) (vs := #[.ref l]) B' F' X' (news_tab N' hp80) T' hG ct84.1 ht80 (fun Q' hq => wpAny_Name (wpAny_loadName_local (by exact rfl) (by exact rfl) F'.ns (by exact rfl) hq)) (fun p hp => (mem_off.mp hp).2) hlin' holin (by exact rfl) (by exact rfl) (by exact rfl) (by exact rfl) (by exact rfl) (by exact rfl) (by exact rfl) (by decide) (by exact rfl) (by exact rfl) (by k_room) ?_ (fun _ => by exact rfl)); intro aG C I code h1 h5 t5 ps5 t1 t2 hm5 ht5 B5 st5 F5 N5 hne5 hord5 hback5; (obtain ⟨F6, N6⟩ := hback5 _ _ _ F5 N5); (have FN5 := And.intro F5 N5); clear F5 N5; (have B5' := And.intro B5 B5); clear B5; (try dsimp only)))
set_option maxRecDepth 100000 in
set_option maxHeartbeats 2000000 in
theorem sc85 {p9 : Program} {lo9 : List Str} (w : World) (mean : ExcName → Option Value) (mg mb : Str → Option Value) (cn : Str) (cs : Scope) (a : Addr) (ccd : Value) (cl : List (Str × Addr)) (outer : List Env) (A₀ : Around) (base h₀ : Heap) (L : Addr) (m : Str → Option Value) (news : List (Addr × Obj)) (s : Shared)
   (Q E : Value → Shared → Prop) (lin l : Addr) (olin : Obj) (res : List Nat) (NG : Nat)
   (B : Below A₀ base outer h₀) (F : Fr h₀ L s.heap m) (X : (hd.heap_39 w.params).In h₀) (N : News h₀ L s.heap news)
   (T : Top p9 lo9 mean mg mb h₀)
   (hk : cs.kind = .function) (hlin : (lin, olin) ∈ news) (holin : LObj olin #[.ref l]) (hc : CsArg w news l res) (hT52 : Tab 52 news) (hT80 : Tab 80 news) (hT88 : Tab 88 news) (hG : GB NG s.gens)
   (hret : ∀ lo e x dx tks ep h' g' d' t' led', Fr h₀ L h' m → News h₀ L h' led' → (∀ p ∈ news, p.1 ≠ 52 → p.1 ≠ 80 → p.1 ≠ 88 → p ∈ led') → Tab 52 led' → Tab 80 led' → Tab 88 led' → GB NG g' → (lo, seqObj "list" #[.ref x] e) ∈ led' → (x, csObj dx (esOf res tks) ep (tabS res (!bt w))) ∈ led' → (dx, dictOf [] 0) ∈ led' → (∀ p ∈ news, p.1 < dx) → dx < x → x < lo → Q (.ref lo) ⟨h', g', d', t', s.os⟩) :
   wpAny (model PySem.Challenge.rw_bb0001_01.row.prog w) { handled := none, depth := 400, frames := some (envX cn cs L a ccd cl :: outer), guards := none, units := 35 } (call (.ref 85) [.ref lin]) Q E s := by
  revert X
  k_fill
  intro X
  refine wpAny_call ?_
  k_dflt (refine' code_def ?k1 ?k2 ?k3 ?k4 ?k5 ?kA ?kF ?kK ?k6 ?k7 ?k8 ?k9 ?kB ?_ ?c2 ?c3 ?c4 ?c5; (case kA => exact rfl); (case kF => exact rfl); (case kK => assumption); (case k1 => k_asm); (case k2 => k_asm); (case k3 => k_asm); (case k4 => k_asm); (case k5 => k_asm); (case k6 => k_is); (case k7 => k_is); (case k8 => k_room); (case k9 => first | exact BindsTo.of_eq rfl | exact binds_K (by k_in) rfl (by k_is) rfl rfl rfl | fail "k_enter: no rule for these arguments"); (case c5 => decide); (case kB => exact locs rfl); (case c2 => exact rfl); (case c3 => exact rfl); (case c4 => exact rfl); k_whole; intro g' L' h' FG' F' N' B' X' T'; (try dsimp only); (try k_lift B'); (try k_fold))
  obtain ⟨ps80, hp80, ht80⟩ := hT80
  have hlin' : (lin, olin) ∈ off 80 news := mem_off.mpr ⟨hlin, News.ne_data N hlin hp80 (by obtain ⟨_, he⟩ := holin; obtain ⟨c, he⟩ := he; rw [he]; intro e; cases e)⟩
  k_steps
  show wpAny _ _ (call (.builtin "sorted") [.ref aG] [(Str.ofString "key", .type "str")]) _ _ _
  obtain ⟨F5, N5⟩ := FN5
  obtain ⟨B5, -⟩ := B5'
  have X5 := X'.keeps st5
  have T5 := T'.keeps st5
  obtain ⟨ps52, hp52, ht52⟩ := hT52
  obtain ⟨c0, hc0, hcd0⟩ := hc.ex
  have news5 : ∀ p ∈ news, p.1 ≠ 80 → p ∈ (80, tableObj ps5) :: off 80 news := fun p hp hne => .tail _ (mem_off.mpr ⟨hp, hne⟩)
  have hlin52 : lin ≠ 52 := News.ne_data N' hlin hp52 (by obtain ⟨_, c, he⟩ := holin; rw [he]; intro e; cases e)
  have n5280 : (52 : Addr) ≠ 80 := by decide
  have n8052 : (80 : Addr) ≠ 52 := by decide
  have hl80 : l ≠ 80 := ne_tab N' hp80 hc0 hcd0
  refine sorted_key (NG := NG) (K := fun y led₁ g₁ => (∃ x dx tks ep, y = .ref x ∧ (x, csObj dx (esOf res tks) ep (tabS res (!bt w))) ∈ led₁ ∧ (dx, dictOf [] 0) ∈ led₁ ∧ (∀ p ∈ news, p.1 < dx) ∧ dx < x ∧ Tab 52 led₁) ∧ Tab 80 led₁ ∧ GB NG g₁ ∧ (∀ p ∈ news, p.1 ≠ 52 → p.1 ≠ 80 → p ∈ led₁)) F6 ?hcol ?hkey ?hQ
  case hcol =>
    refine collect_o (P := 52) (NG := s.gens.size + 1) (Φ := fun y led₁ => ∃ x dx tks ep, y = .ref x ∧ (x, csObj dx (esOf res tks) ep (tabS res (!bt w))) ∈ led₁ ∧ (dx, dictOf [] 0) ∈ led₁ ∧ (∀ p ∈ news, p.1 < dx) ∧ dx < x ∧ Tab 52 led₁) (lo := olin) (v₀ := .ref l) (by exact rfl) T5.nolimit (by k_room) (by exact rfl) (by exact rfl) (by exact rfl) (Array.getElem?_push_size) F5 N5 hne5 (fun p hp => by
      rcases List.mem_cons.mp hp with rfl | hp
      · exact hord5 (80, tableObj ps80) (.head _)
      · exact hord5 _ (.tail _ hp)) (news5 _ hlin (mem_off.mp hlin').2) holin (news5 _ hp52 n5280) hlin52 ⟨hG.bare.push rfl, by rw [Array.size_push]; exact Nat.le_refl _⟩ (Nat.lt_succ_self _) ?_ ?_ ?_
    · rintro y led led' k ⟨x, dx, tks, ep, rfl, h1, h2, h3, h4, h5⟩
      exact ⟨x, dx, tks, ep, rfl, k _ h1 (.inl (.inr (.inr ⟨_, _, _, rfl⟩))), k _ h2 (.inl (.inr (.inl ⟨_, _, rfl⟩))), h3, h4, h5.mono fun p hp e => k p hp (.inr e)⟩
    · intro A' E' h g2 t led₂ hA1 hA2 hA3 hA4 hA5 G2 F2 N2 sub2
      refine el_call (by exact rfl) (by exact rfl) (by exact rfl) (by exact rfl) (by exact rfl) F2 (if_pos rfl) X5 T5 (wpAny_call (cod_weaken (A' := ⟨none, 450, some (_ :: _), none, 80⟩) hA1 (Nat.le_trans hA2 (Nat.le_of_ble_eq_true rfl)) (.inr (hA4.trans rfl)) (.inl rfl) (Nat.le_trans hA3 (Nat.le_of_ble_eq_true rfl)) (cs_new_c l res B5 F2 X5 T5 (by exact rfl) (by exact rfl) N2 ⟨ps52, sub2 _ (news5 _ hp52 n5280), ht52⟩ G2 (hc.mono fun o ho => sub2 _ (news5 _ ho hl80)) fun x dx h' g' d' t' led' tks ep F3 N3 sub3 T3 G3 hx hdx l1 l2 => ?_)))
      refine ⟨_, led', F3, N3, sub3, ?_, G3, rfl⟩
      obtain ⟨ps3, hp3, ht3⟩ := T3
      refine ⟨_, hp3, x, dx, tks, ep, rfl, hx, hdx, fun p hp => ?_, l2, ⟨ps3, hp3, ht3⟩⟩
      by_cases e : p.1 = 80
      · rw [e]; exact l1 _ (sub2 _ (.head _))
      · exact l1 p (sub2 _ (news5 p hp e))
    · intro y h' g2 d' t' m' led' F3 N3 sub3 G3 hphi
      obtain ⟨F4, N4⟩ := hback5 _ _ _ F3 N3
      exact ⟨y, led', rfl, F4, N4, rfl, hT88.mono fun p hp e => sub3 p (news5 p hp (by rw [e]; decide)) (by rw [e]; decide), hphi, ⟨ps5, sub3 _ (.head _) n8052, ht5⟩, G3.mono (Nat.le_succ_of_le hG.size), fun p hp h1 h2 => sub3 p (news5 p hp h2) h1⟩
  case hkey =>
    rintro y led₁ s₁ E' Q' led₂ ⟨⟨x, dx, tks, ep, rfl, hx, hdx, l1, l2, T52⟩, T80, G1, sub1⟩ hos F2 N2 T88 sub2 hq
    exact str_m (NG := NG) x dx res tks ep (by exact rfl) (Nat.le_of_ble_eq_true rfl) (by exact rfl) (Nat.le_of_ble_eq_true rfl) B' F2 X' N2 T' (by exact rfl) T88 G1 (sub2 _ hx) (sub2 _ hdx) hc.subs hq
  case hQ =>
    rintro y led₁ g₁ lo e h7 g7 d7 t7 led7 ⟨⟨x, dx, tks, ep, rfl, hx, hdx, l1, l2, T52⟩, T80, G1, sub1⟩ F7 N7 hlo sub7 l3 T88 G7
    clear F5 N5 F6 N6 F' N' B5
    k_steps
    exact hret lo e x dx tks ep _ _ _ _ _ (by assumption) (by assumption) (fun p hp h1 h2 h3 => sub7 _ (sub1 p hp h1 h2) h3) (T52.mono fun p hp e => sub7 p hp (by rw [e]; decide)) (T80.mono fun p hp e => sub7 p hp (by rw [e]; decide)) T88 G7 hlo (sub7 _ hx (fun e => by
      obtain ⟨ps, hp, _⟩ := hT88
      have := l1 _ hp
      have e' : x = 88 := e
      rw [e'] at l2
      exact absurd (Nat.lt_trans this l2) (Nat.lt_irrefl _))) (sub7 _ hdx (fun e => by
      obtain ⟨ps, hp, _⟩ := hT88
      have := l1 _ hp
      have e' : dx = 88 := e
      rw [e'] at this
      exact absurd this (Nat.lt_irrefl _))) l1 l2 (l3 _ hx)
theorem sc85_u {A : Around} {p9 : Program} {lo9 : List Str} {w : World} {mean : ExcName → Option Value} {mg mb : Str → Option Value} {cn : Str} {cs : Scope} {a : Addr} {ccd : Value} {cl : List (Str × Addr)} {outer : List Env} {A₀ : Around} {base h₀ : Heap} {L : Addr} {m : Str → Option Value} {news : List (Addr × Obj)} {s : Shared}
   {Q E : Value → Shared → Prop}
   (hh : A.handled = none) (hdp : A.depth ≤ 400) (hfr : A.frames = some (envX cn cs L a ccd cl :: outer)) (hun : A.units ≤ 35) (lin l : Addr) (olin : Obj) (res : List Nat) (NG : Nat)
   (B : Below A₀ base outer h₀) (F : Fr h₀ L s.heap m) (X : (hd.heap_39 w.params).In h₀) (N : News h₀ L s.heap news)
   (T : Top p9 lo9 mean mg mb h₀)
   (hk : cs.kind = .function) (hlin : (lin, olin) ∈ news) (holin : LObj olin #[.ref l]) (hc : CsArg w news l res) (hT52 : Tab 52 news) (hT80 : Tab 80 news) (hT88 : Tab 88 news) (hG : GB NG s.gens)
   (hret : ∀ lo e x dx tks ep h' g' d' t' led', Fr h₀ L h' m → News h₀ L h' led' → (∀ p ∈ news, p.1 ≠ 52 → p.1 ≠ 80 → p.1 ≠ 88 → p ∈ led') → Tab 52 led' → Tab 80 led' → Tab 88 led' → GB NG g' → (lo, seqObj "list" #[.ref x] e) ∈ led' → (x, csObj dx (esOf res tks) ep (tabS res (!bt w))) ∈ led' → (dx, dictOf [] 0) ∈ led' → (∀ p ∈ news, p.1 < dx) → dx < x → x < lo → Q (.ref lo) ⟨h', g', d', t', s.os⟩) :
   wpAny (model PySem.Challenge.rw_bb0001_01.row.prog w) A (call (.ref 85) [.ref lin]) Q E s :=
  wp_weaken hh hdp (.inr hfr) (.inl rfl) hun (sc85 w mean mg mb cn cs a ccd cl outer A₀ base h₀ L m news s Q E lin l olin res NG B F X N T hk hlin holin hc hT52 hT80 hT88 hG hret)

end Mine
end

/- GM -/
section
open PySem PySem.W PyProof.Rows PySem.Calls PySem.Spec
set_option linter.unusedVariables false
namespace Mine
def nmOf : Nat → Str | 0 => Str.ofString "pav" | 1 => Str.ofString "slav" | 2 => Str.ofString "cc" | 3 => Str.ofString "geom2" | _ => Str.ofString "geom3"
def DOf : Nat → Int | 0 => 12 | 1 => 105 | 2 => 1 | 3 => 8 | _ => 27
def GOf : Nat → Nat → Int | 0 => G_pav | 1 => G_slav | 2 => G_cc | 3 => G_geom 2 | _ => G_geom 3
theorem mem3 {w : World} {a t d : Addr} {nt : Nat} {k tb : Tok} {b : Int} {l : List (Addr × Obj)} {p : Addr × Obj} (h : p ∈ ptLed w a t d nt k tb b) : p ∈ (a, ptObj t d) :: (t, { cls := .type "tuple", data := .seq #[] nt }) :: (d, dictOf [⟨PyData.keyHash w.params (Str.ofString "base"), .str (Str.ofString "base") k, .int b tb⟩] 1) :: l := by
  simp only [ptLed, List.mem_cons, List.not_mem_nil, or_false] at h ⊢
  rcases h with h | h | h
  · exact .inl h
  · exact .inr (.inl h)
  · exact .inr (.inr (.inl h))
theorem ord3 {w : World} {a t d q : Addr} {nt : Nat} {k tb : Tok} {b : Int} (l1 : q < d) (l2 : d < t) (l3 : t < a) : ∀ p ∈ ptLed w a t d nt k tb b, q < p.1 := fun p h => by
  simp only [ptLed, List.mem_cons, List.not_mem_nil, or_false] at h
  rcases h with rfl | rfl | rfl
  · exact Nat.lt_trans l1 (Nat.lt_trans l2 l3)
  · exact Nat.lt_trans l1 l2
  · exact l1
/-- the value f is the r-th score function; it needs the objects need -/
def GoodF (w : World) (r : Nat) (f : Addr) (need : List (Addr × Obj)) : Prop :=
  ScoreOk w (.ref f) need (DOf r) (GOf r) ∧ ∀ h₀ h : Heap, (hd.heap_39 w.params).In h₀ → (∀ b ob, h₀.get? b = some ob → h.get? b = some ob) → (∀ p ∈ need, h.get? p.1 = some p.2) → Callee h f
local macro_rules | `(tactic| k_mem) => `(tactic| first | assumption | exact List.Mem.head _ | (refine List.Mem.tail _ ?_; k_mem))
section
variable {M : Model} {A : Around} {E : Value → Shared → Prop} {s : Shared} {env : Env}
theorem callWith_typeKw {pos : Pos} {T : String} {e : Expr} {rest : List Expr} {kws : List Keyword} {Q : Value → Shared → Prop}
    (h : wpAny M A (spliced (backTo pos (starEach (e :: rest) env))) (fun vs s₁ => wpAny M A (evalAll ((backToKw pos (keywordEach kws env)).map (·.2)))
      (fun kvs s₂ => wpAny M A (call (.type T) vs (((backToKw pos (keywordEach kws env)).filterMap (·.1)).zip kvs)) Q E s₂) E s₁) E s)
    (he : backTo pos (starEach (e :: rest) env) = (false, eval e env) :: backTo pos (starEach rest env) := by rfl)
    (hplain : (backTo pos (starEach (e :: rest) env)).any (·.1) = false := by rfl)
    (hall : (backToKw pos (keywordEach kws env)).all (·.1.isSome) = true := by rfl)
    (hkw : (backToKw pos (keywordEach kws env)).any (·.1.isNone) = false := by rfl) :
    wpAny M A (callWith pos (.type T) [] (backTo pos (starEach (e :: rest) env)) (backToKw pos (keywordEach kws env))) Q E s := by
  unfold callWith
  refine wpAny_bind (wpAny_holding (wpAny_mono (Q := fun a s₁ => wpAny M A (call (.type T) a.pos a.kw) Q E s₁) ?_ (fun a s₁ h₁ => wpAny_bind (wpAny_standAt ?_)) fun _ _ x => x))
  · rw [he] at h ⊢
    exact evalArgs_kwB hall h
  · simp only [hplain, hkw, Bool.or_false]
    refine wpAny_bind (wpAny_pure ?_)
    exact wpAny_bind (wpAny_mono h₁ (fun r s₂ hr => wpAny_bind (wpAny_holding (wpAny_point (wpAny_pure hr)))) fun _ _ x => x)
end
set_option hygiene false in
local macro_rules | `(tactic| wtm_at "own callWith type:functools.partial") => `(tactic| (k_here; refine callWith_typeKw ?_ (by rfl) (by rfl) (by rfl) (by rfl)))
set_option hygiene false in
local macro_rules | `(tactic| wtm_at "own call type:functools.partial") => `(tactic| (k_here; (rename Fr _ _ _ _ => F9); (rename News _ _ _ _ => N9); with_unfolding_all refine pt_new X' F9 N9 ?_; intro h8 tk8 a8 t8 d8 k8 nt8 F8 N8 l1 l2 l3; (try dsimp only)))
set_option maxRecDepth 100000 in
set_option maxHeartbeats 2000000 in
theorem gm0 {p9 : Program} {lo9 : List Str} (w : World) (mean : ExcName → Option Value) (mg mb : Str → Option Value) (cn : Str) (cs : Scope) (a : Addr) (ccd : Value) (cl : List (Str × Addr)) (outer : List Env) (A₀ : Around) (base h₀ : Heap) (L : Addr) (m : Str → Option Value) (news : List (Addr × Obj)) (s : Shared)
   (Q E : Value → Shared → Prop) (t : Tok) (v2 : Value)
   (B : Below A₀ base outer h₀) (F : Fr h₀ L s.heap m) (X : (hd.heap_39 w.params).In h₀) (N : News h₀ L s.heap news)
   (T : Top p9 lo9 mean mg mb h₀)
   (hk : cs.kind = .function) (hT52 : Tab 52 news) (hret : ∀ f need h' g' d' tk' led', GoodF w 0 f need → Fr h₀ L h' m → News h₀ L h' led' → (∀ p ∈ news, p ∈ led') → (∀ p ∈ need, p ∈ led') → (∀ p ∈ need, ∀ q ∈ news, q.1 < p.1) → g' = s.gens → Q (.ref f) ⟨h', g', d', tk', s.os⟩) :
   wpAny (model PySem.Challenge.rw_bb0001_01.row.prog w) { handled := none, depth := 400, frames := some (envX cn cs L a ccd cl :: outer), guards := none, units := 35 } (call (.ref 278) [.str (Str.ofString "pav") t, v2]) Q E s := by
  revert X
  k_fill
  intro X
  refine wpAny_call ?_
  k_dflt (refine' code_def ?k1 ?k2 ?k3 ?k4 ?k5 ?kA ?kF ?kK ?k6 ?k7 ?k8 ?k9 ?kB ?_ ?c2 ?c3 ?c4 ?c5; (case kA => exact rfl); (case kF => exact rfl); (case kK => assumption); (case k1 => k_asm); (case k2 => k_asm); (case k3 => k_asm); (case k4 => k_asm); (case k5 => k_asm); (case k6 => k_is); (case k7 => k_is); (case k8 => k_room); (case k9 => first | exact BindsTo.of_eq rfl | exact binds_K (by k_in) rfl (by k_is) rfl rfl rfl | fail "k_enter: no rule for these arguments"); (case c5 => decide); (case kB => exact locs rfl); (case c2 => exact rfl); (case c3 => exact rfl); (case c4 => exact rfl); k_whole; intro g' L' h' FG' F' N' B' X' T'; (try dsimp only); (try k_lift B'); (try k_fold))
  k_steps
  exact hret _ [] _ _ _ _ _ ⟨sc_pav w, fun h₀ h X k _ => ⟨_, k _ _ (X _ _ (by k_is)), .inl ⟨_, rfl⟩⟩⟩ (by assumption) (by assumption) (fun p hp => hp) (fun p hp => nomatch hp) (fun p hp => nomatch hp) rfl
theorem gm0_u {A : Around} {p9 : Program} {lo9 : List Str} {w : World} {mean : ExcName → Option Value} {mg mb : Str → Option Value} {cn : Str} {cs : Scope} {a : Addr} {ccd : Value} {cl : List (Str × Addr)} {outer : List Env} {A₀ : Around} {base h₀ : Heap} {L : Addr} {m : Str → Option Value} {news : List (Addr × Obj)} {s : Shared}
   {Q E : Value → Shared → Prop}
   (hh : A.handled = none) (hdp : A.depth ≤ 400) (hfr : A.frames = some (envX cn cs L a ccd cl :: outer)) (hun : A.units ≤ 35) (t : Tok) (v2 : Value)
   (B : Below A₀ base outer h₀) (F : Fr h₀ L s.heap m) (X : (hd.heap_39 w.params).In h₀) (N : News h₀ L s.heap news)
   (T : Top p9 lo9 mean mg mb h₀)
   (hk : cs.kind = .function) (hT52 : Tab 52 news) (hret : ∀ f need h' g' d' tk' led', GoodF w 0 f need → Fr h₀ L h' m → News h₀ L h' led' → (∀ p ∈ news, p ∈ led') → (∀ p ∈ need, p ∈ led') → (∀ p ∈ need, ∀ q ∈ news, q.1 < p.1) → g' = s.gens → Q (.ref f) ⟨h', g', d', tk', s.os⟩) :
   wpAny (model PySem.Challenge.rw_bb0001_01.row.prog w) A (call (.ref 278) [.str (Str.ofString "pav") t, v2]) Q E s :=
  wp_weaken hh hdp (.inr hfr) (.inl rfl) hun (gm0 w mean mg mb cn cs a ccd cl outer A₀ base h₀ L m news s Q E t v2 B F X N T hk hT52 hret)
set_option maxRecDepth 100000 in
set_option maxHeartbeats 2000000 in
theorem gm1 {p9 : Program} {lo9 : List Str} (w : World) (mean : ExcName → Option Value) (mg mb : Str → Option Value) (cn : Str) (cs : Scope) (a : Addr) (ccd : Value) (cl : List (Str × Addr)) (outer : List Env) (A₀ : Around) (base h₀ : Heap) (L : Addr) (m : Str → Option Value) (news : List (Addr × Obj)) (s : Shared)
   (Q E : Value → Shared → Prop) (t : Tok) (v2 : Value)
   (B : Below A₀ base outer h₀) (F : Fr h₀ L s.heap m) (X : (hd.heap_39 w.params).In h₀) (N : News h₀ L s.heap news)
   (T : Top p9 lo9 mean mg mb h₀)
   (hk : cs.kind = .function) (hT52 : Tab 52 news) (hret : ∀ f need h' g' d' tk' led', GoodF w 1 f need → Fr h₀ L h' m → News h₀ L h' led' → (∀ p ∈ news, p ∈ led') → (∀ p ∈ need, p ∈ led') → (∀ p ∈ need, ∀ q ∈ news, q.1 < p.1) → g' = s.gens → Q (.ref f) ⟨h', g', d', tk', s.os⟩) :
   wpAny (model PySem.Challenge.rw_bb0001_01.row.prog w) { handled := none, depth := 400, frames := some (envX cn cs L a ccd cl :: outer), guards := none, units := 35 } (call (.ref 278) [.str (Str.ofString "slav") t, v2]) Q E s := by
  revert X
  k_fill
  intro X
  refine wpAny_call ?_
  k_dflt (refine' code_def ?k1 ?k2 ?k3 ?k4 ?k5 ?kA ?kF ?kK ?k6 ?k7 ?k8 ?k9 ?kB ?_ ?c2 ?c3 ?c4 ?c5; (case kA => exact rfl); (case kF => exact rfl); (case kK => assumption); (case k1 => k_asm); (case k2 => k_asm); (case k3 => k_asm); (case k4 => k_asm); (case k5 => k_asm); (case k6 => k_is); (case k7 => k_is); (case k8 => k_room); (case k9 => first | exact BindsTo.of_eq rfl | exact binds_K (by k_in) rfl (by k_is) rfl rfl rfl | fail "k_enter: no rule for these arguments"); (case c5 => decide); (case kB => exact locs rfl); (case c2 => exact rfl); (case c3 => exact rfl); (case c4 => exact rfl); k_whole; intro g' L' h' FG' F' N' B' X' T'; (try dsimp only); (try k_lift B'); (try k_fold))
  k_steps
  exact hret _ [] _ _ _ _ _ ⟨sc_slav w, fun h₀ h X k _ => ⟨_, k _ _ (X _ _ (by k_is)), .inl ⟨_, rfl⟩⟩⟩ (by assumption) (by assumption) (fun p hp => hp) (fun p hp => nomatch hp) (fun p hp => nomatch hp) rfl
theorem gm1_u {A : Around} {p9 : Program} {lo9 : List Str} {w : World} {mean : ExcName → Option Value} {mg mb : Str → Option Value} {cn : Str} {cs : Scope} {a : Addr} {ccd : Value} {cl : List (Str × Addr)} {outer : List Env} {A₀ : Around} {base h₀ : Heap} {L : Addr} {m : Str → Option Value} {news : List (Addr × Obj)} {s : Shared}
   {Q E : Value → Shared → Prop}
   (hh : A.handled = none) (hdp : A.depth ≤ 400) (hfr : A.frames = some (envX cn cs L a ccd cl :: outer)) (hun : A.units ≤ 35) (t : Tok) (v2 : Value)
   (B : Below A₀ base outer h₀) (F : Fr h₀ L s.heap m) (X : (hd.heap_39 w.params).In h₀) (N : News h₀ L s.heap news)
   (T : Top p9 lo9 mean mg mb h₀)
   (hk : cs.kind = .function) (hT52 : Tab 52 news) (hret : ∀ f need h' g' d' tk' led', GoodF w 1 f need → Fr h₀ L h' m → News h₀ L h' led' → (∀ p ∈ news, p ∈ led') → (∀ p ∈ need, p ∈ led') → (∀ p ∈ need, ∀ q ∈ news, q.1 < p.1) → g' = s.gens → Q (.ref f) ⟨h', g', d', tk', s.os⟩) :
   wpAny (model PySem.Challenge.rw_bb0001_01.row.prog w) A (call (.ref 278) [.str (Str.ofString "slav") t, v2]) Q E s :=
  wp_weaken hh hdp (.inr hfr) (.inl rfl) hun (gm1 w mean mg mb cn cs a ccd cl outer A₀ base h₀ L m news s Q E t v2 B F X N T hk hT52 hret)
set_option maxRecDepth 100000 in
set_option maxHeartbeats 2000000 in
theorem gm2 {p9 : Program} {lo9 : List Str} (w : World) (mean : ExcName → Option Value) (mg mb : Str → Option Value) (cn : Str) (cs : Scope) (a : Addr) (ccd : Value) (cl : List (Str × Addr)) (outer : List Env) (A₀ : Around) (base h₀ : Heap) (L : Addr) (m : Str → Option Value) (news : List (Addr × Obj)) (s : Shared)
   (Q E : Value → Shared → Prop) (t : Tok) (v2 : Value)
   (B : Below A₀ base outer h₀) (F : Fr h₀ L s.heap m) (X : (hd.heap_39 w.params).In h₀) (N : News h₀ L s.heap news)
   (T : Top p9 lo9 mean mg mb h₀)
   (hk : cs.kind = .function) (hT52 : Tab 52 news) (hret : ∀ f need h' g' d' tk' led', GoodF w 2 f need → Fr h₀ L h' m → News h₀ L h' led' → (∀ p ∈ news, p ∈ led') → (∀ p ∈ need, p ∈ led') → (∀ p ∈ need, ∀ q ∈ news, q.1 < p.1) → g' = s.gens → Q (.ref f) ⟨h', g', d', tk', s.os⟩) :
   wpAny (model PySem.Challenge.rw_bb0001_01.row.prog w) { handled := none, depth := 400, frames := some (envX cn cs L a ccd cl :: outer), guards := none, units := 35 } (call (.ref 278) [.str (Str.ofString "cc") t, v2]) Q E s := by
  revert X
  k_fill
  intro X
  refine wpAny_call ?_
  k_dflt (refine' code_def ?k1 ?k2 ?k3 ?k4 ?k5 ?kA ?kF ?kK ?k6 ?k7 ?k8 ?k9 ?kB ?_ ?c2 ?c3 ?c4 ?c5; (case kA => exact rfl); (case kF => exact rfl); (case kK => assumption); (case k1 => k_asm); (case k2 => k_asm); (case k3 => k_asm); (case k4 => k_asm); (case k5 => k_asm); (case k6 => k_is); (case k7 => k_is); (case k8 => k_room); (case k9 => first | exact BindsTo.of_eq rfl | exact binds_K (by k_in) rfl (by k_is) rfl rfl rfl | fail "k_enter: no rule for these arguments"); (case c5 => decide); (case kB => exact locs rfl); (case c2 => exact rfl); (case c3 => exact rfl); (case c4 => exact rfl); k_whole; intro g' L' h' FG' F' N' B' X' T'; (try dsimp only); (try k_lift B'); (try k_fold))
  k_steps
  exact hret _ [] _ _ _ _ _ ⟨sc_cc w, fun h₀ h X k _ => ⟨_, k _ _ (X _ _ (by k_is)), .inl ⟨_, rfl⟩⟩⟩ (by assumption) (by assumption) (fun p hp => hp) (fun p hp => nomatch hp) (fun p hp => nomatch hp) rfl
theorem gm2_u {A : Around} {p9 : Program} {lo9 : List Str} {w : World} {mean : ExcName → Option Value} {mg mb : Str → Option Value} {cn : Str} {cs : Scope} {a : Addr} {ccd : Value} {cl : List (Str × Addr)} {outer : List Env} {A₀ : Around} {base h₀ : Heap} {L : Addr} {m : Str → Option Value} {news : List (Addr × Obj)} {s : Shared}
   {Q E : Value → Shared → Prop}
   (hh : A.handled = none) (hdp : A.depth ≤ 400) (hfr : A.frames = some (envX cn cs L a ccd cl :: outer)) (hun : A.units ≤ 35) (t : Tok) (v2 : Value)
   (B : Below A₀ base outer h₀) (F : Fr h₀ L s.heap m) (X : (hd.heap_39 w.params).In h₀) (N : News h₀ L s.heap news)
   (T : Top p9 lo9 mean mg mb h₀)
   (hk : cs.kind = .function) (hT52 : Tab 52 news) (hret : ∀ f need h' g' d' tk' led', GoodF w 2 f need → Fr h₀ L h' m → News h₀ L h' led' → (∀ p ∈ news, p ∈ led') → (∀ p ∈ need, p ∈ led') → (∀ p ∈ need, ∀ q ∈ news, q.1 < p.1) → g' = s.gens → Q (.ref f) ⟨h', g', d', tk', s.os⟩) :
   wpAny (model PySem.Challenge.rw_bb0001_01.row.prog w) A (call (.ref 278) [.str (Str.ofString "cc") t, v2]) Q E s :=
  wp_weaken hh hdp (.inr hfr) (.inl rfl) hun (gm2 w mean mg mb cn cs a ccd cl outer A₀ base h₀ L m news s Q E t v2 B F X N T hk hT52 hret)
set_option maxRecDepth 100000 in
set_option maxHeartbeats 2000000 in
theorem gm3 {p9 : Program} {lo9 : List Str} (w : World) (mean : ExcName → Option Value) (mg mb : Str → Option Value) (cn : Str) (cs : Scope) (a : Addr) (ccd : Value) (cl : List (Str × Addr)) (outer : List Env) (A₀ : Around) (base h₀ : Heap) (L : Addr) (m : Str → Option Value) (news : List (Addr × Obj)) (s : Shared)
   (Q E : Value → Shared → Prop) (t : Tok) (v2 : Value)
   (B : Below A₀ base outer h₀) (F : Fr h₀ L s.heap m) (X : (hd.heap_39 w.params).In h₀) (N : News h₀ L s.heap news)
   (T : Top p9 lo9 mean mg mb h₀)
   (hk : cs.kind = .function) (hT52 : Tab 52 news) (hret : ∀ f need h' g' d' tk' led', GoodF w 3 f need → Fr h₀ L h' m → News h₀ L h' led' → (∀ p ∈ news, p ∈ led') → (∀ p ∈ need, p ∈ led') → (∀ p ∈ need, ∀ q ∈ news, q.1 < p.1) → g' = s.gens → Q (.ref f) ⟨h', g', d', tk', s.os⟩) :
   wpAny (model PySem.Challenge.rw_bb0001_01.row.prog w) { handled := none, depth := 400, frames := some (envX cn cs L a ccd cl :: outer), guards := none, units := 35 } (call (.ref 278) [.str (Str.ofString "geom2") t, v2]) Q E s := by
  revert X
  k_fill
  intro X
  refine wpAny_call ?_
  k_dflt (refine' code_def ?k1 ?k2 ?k3 ?k4 ?k5 ?kA ?kF ?kK ?k6 ?k7 ?k8 ?k9 ?kB ?_ ?c2 ?c3 ?c4 ?c5; (case kA => exact rfl); (case kF => exact rfl); (case kK => assumption); (case k1 => k_asm); (case k2 => k_asm); (case k3 => k_asm); (case k4 => k_asm); (case k5 => k_asm); (case k6 => k_is); (case k7 => k_is); (case k8 => k_room); (case k9 => first | exact BindsTo.of_eq rfl | exact binds_K (by k_in) rfl (by k_is) rfl rfl rfl | fail "k_enter: no rule for these arguments"); (case c5 => decide); (case kB => exact locs rfl); (case c2 => exact rfl); (case c3 => exact rfl); (case c4 => exact rfl); k_whole; intro g' L' h' FG' F' N' B' X' T'; (try dsimp only); (try k_lift B'); (try k_fold))
  k_steps
  have hd1 : d8 ≠ 1 := fun e => by
    obtain ⟨ps, hp, _⟩ := hT52
    have := l1 _ hp
    rw [e] at this
    exact absurd this (show ¬ (52 : Nat) < 1 by decide)
  exact hret a8 (ptLed w a8 t8 d8 nt8 k8 _ 2) _ _ _ _ _ ⟨sc_geom w 2 (.inl rfl) a8 t8 d8 nt8 k8 _ hd1, fun h₀ h X k hn => ⟨_, hn _ (.head _), .inr ⟨_, rfl, rfl⟩⟩⟩ (by assumption) (by assumption) (fun p hp => .tail _ (.tail _ (.tail _ hp))) (fun p hp => mem3 hp) (fun p hp q hq => ord3 (l1 _ hq) l2 l3 p hp) rfl
theorem gm3_u {A : Around} {p9 : Program} {lo9 : List Str} {w : World} {mean : ExcName → Option Value} {mg mb : Str → Option Value} {cn : Str} {cs : Scope} {a : Addr} {ccd : Value} {cl : List (Str × Addr)} {outer : List Env} {A₀ : Around} {base h₀ : Heap} {L : Addr} {m : Str → Option Value} {news : List (Addr × Obj)} {s : Shared}
   {Q E : Value → Shared → Prop}
   (hh : A.handled = none) (hdp : A.depth ≤ 400) (hfr : A.frames = some (envX cn cs L a ccd cl :: outer)) (hun : A.units ≤ 35) (t : Tok) (v2 : Value)
   (B : Below A₀ base outer h₀) (F : Fr h₀ L s.heap m) (X : (hd.heap_39 w.params).In h₀) (N : News h₀ L s.heap news)
   (T : Top p9 lo9 mean mg mb h₀)
   (hk : cs.kind = .function) (hT52 : Tab 52 news) (hret : ∀ f need h' g' d' tk' led', GoodF w 3 f need → Fr h₀ L h' m → News h₀ L h' led' → (∀ p ∈ news, p ∈ led') → (∀ p ∈ need, p ∈ led') → (∀ p ∈ need, ∀ q ∈ news, q.1 < p.1) → g' = s.gens → Q (.ref f) ⟨h', g', d', tk', s.os⟩) :
   wpAny (model PySem.Challenge.rw_bb0001_01.row.prog w) A (call (.ref 278) [.str (Str.ofString "geom2") t, v2]) Q E s :=
  wp_weaken hh hdp (.inr hfr) (.inl rfl) hun (gm3 w mean mg mb cn cs a ccd cl outer A₀ base h₀ L m news s Q E t v2 B F X N T hk hT52 hret)
set_option maxRecDepth 100000 in
set_option maxHeartbeats 2000000 in
theorem gm4 {p9 : Program} {lo9 : List Str} (w : World) (mean : ExcName → Option Value) (mg mb : Str → Option Value) (cn : Str) (cs : Scope) (a : Addr) (ccd : Value) (cl : List (Str × Addr)) (outer : List Env) (A₀ : Around) (base h₀ : Heap) (L : Addr) (m : Str → Option Value) (news : List (Addr × Obj)) (s : Shared)
   (Q E : Value → Shared → Prop) (t : Tok) (v2 : Value)
   (B : Below A₀ base outer h₀) (F : Fr h₀ L s.heap m) (X : (hd.heap_39 w.params).In h₀) (N : News h₀ L s.heap news)
   (T : Top p9 lo9 mean mg mb h₀)
   (hk : cs.kind = .function) (hT52 : Tab 52 news) (hret : ∀ f need h' g' d' tk' led', GoodF w 4 f need → Fr h₀ L h' m → News h₀ L h' led' → (∀ p ∈ news, p ∈ led') → (∀ p ∈ need, p ∈ led') → (∀ p ∈ need, ∀ q ∈ news, q.1 < p.1) → g' = s.gens → Q (.ref f) ⟨h', g', d', tk', s.os⟩) :
   wpAny (model PySem.Challenge.rw_bb0001_01.row.prog w) { handled := none, depth := 400, frames := some (envX cn cs L a ccd cl :: outer), guards := none, units := 35 } (call (.ref 278) [.str (Str.ofString "geom3") t, v2]) Q E s := by
  revert X
  k_fill
  intro X
  refine wpAny_call ?_
  k_dflt (refine' code_def ?k1 ?k2 ?k3 ?k4 ?k5 ?kA ?kF ?kK ?k6 ?k7 ?k8 ?k9 ?kB ?_ ?c2 ?c3 ?c4 ?c5; (case kA => exact rfl); (case kF => exact rfl); (case kK => assumption); (case k1 => k_asm); (case k2 => k_asm); (case k3 => k_asm); (case k4 => k_asm); (case k5 => k_asm); (case k6 => k_is); (case k7 => k_is); (case k8 => k_room); (case k9 => first | exact BindsTo.of_eq rfl | exact binds_K (by k_in) rfl (by k_is) rfl rfl rfl | fail "k_enter: no rule for these arguments"); (case c5 => decide); (case kB => exact locs rfl); (case c2 => exact rfl); (case c3 => exact rfl); (case c4 => exact rfl); k_whole; intro g' L' h' FG' F' N' B' X' T'; (try dsimp only); (try k_lift B'); (try k_fold))
  k_steps
  have hd1 : d8 ≠ 1 := fun e => by
    obtain ⟨ps, hp, _⟩ := hT52
    have := l1 _ hp
    rw [e] at this
    exact absurd this (show ¬ (52 : Nat) < 1 by decide)
  exact hret a8 (ptLed w a8 t8 d8 nt8 k8 _ 3) _ _ _ _ _ ⟨sc_geom w 3 (.inr rfl) a8 t8 d8 nt8 k8 _ hd1, fun h₀ h X k hn => ⟨_, hn _ (.head _), .inr ⟨_, rfl, rfl⟩⟩⟩ (by assumption) (by assumption) (fun p hp => .tail _ (.tail _ (.tail _ hp))) (fun p hp => mem3 hp) (fun p hp q hq => ord3 (l1 _ hq) l2 l3 p hp) rfl
theorem gm4_u {A : Around} {p9 : Program} {lo9 : List Str} {w : World} {mean : ExcName → Option Value} {mg mb : Str → Option Value} {cn : Str} {cs : Scope} {a : Addr} {ccd : Value} {cl : List (Str × Addr)} {outer : List Env} {A₀ : Around} {base h₀ : Heap} {L : Addr} {m : Str → Option Value} {news : List (Addr × Obj)} {s : Shared}
   {Q E : Value → Shared → Prop}
   (hh : A.handled = none) (hdp : A.depth ≤ 400) (hfr : A.frames = some (envX cn cs L a ccd cl :: outer)) (hun : A.units ≤ 35) (t : Tok) (v2 : Value)
   (B : Below A₀ base outer h₀) (F : Fr h₀ L s.heap m) (X : (hd.heap_39 w.params).In h₀) (N : News h₀ L s.heap news)
   (T : Top p9 lo9 mean mg mb h₀)
   (hk : cs.kind = .function) (hT52 : Tab 52 news) (hret : ∀ f need h' g' d' tk' led', GoodF w 4 f need → Fr h₀ L h' m → News h₀ L h' led' → (∀ p ∈ news, p ∈ led') → (∀ p ∈ need, p ∈ led') → (∀ p ∈ need, ∀ q ∈ news, q.1 < p.1) → g' = s.gens → Q (.ref f) ⟨h', g', d', tk', s.os⟩) :
   wpAny (model PySem.Challenge.rw_bb0001_01.row.prog w) A (call (.ref 278) [.str (Str.ofString "geom3") t, v2]) Q E s :=
  wp_weaken hh hdp (.inr hfr) (.inl rfl) hun (gm4 w mean mg mb cn cs a ccd cl outer A₀ base h₀ L m news s Q E t v2 B F X N T hk hT52 hret)
theorem gm_any {p9 : Program} {lo9 : List Str} (w : World) (mean : ExcName → Option Value) (mg mb : Str → Option Value) (cn : Str) (cs : Scope) (a : Addr) (ccd : Value) (cl : List (Str × Addr)) (outer : List Env) (A₀ : Around) (base h₀ : Heap) (L : Addr) (m : Str → Option Value) (news : List (Addr × Obj)) (s : Shared)
   (Q E : Value → Shared → Prop) (r : Nat) (hr : r < 5) (t : Tok) (v2 : Value)
   (B : Below A₀ base outer h₀) (F : Fr h₀ L s.heap m) (X : (hd.heap_39 w.params).In h₀) (N : News h₀ L s.heap news)
   (T : Top p9 lo9 mean mg mb h₀)
   (hk : cs.kind = .function) (hT52 : Tab 52 news) (hret : ∀ f need h' g' d' tk' led', GoodF w r f need → Fr h₀ L h' m → News h₀ L h' led' → (∀ p ∈ news, p ∈ led') → (∀ p ∈ need, p ∈ led') → (∀ p ∈ need, ∀ q ∈ news, q.1 < p.1) → g' = s.gens → Q (.ref f) ⟨h', g', d', tk', s.os⟩) :
   wpAny (model PySem.Challenge.rw_bb0001_01.row.prog w) { handled := none, depth := 400, frames := some (envX cn cs L a ccd cl :: outer), guards := none, units := 35 } (call (.ref 278) [.str (nmOf r) t, v2]) Q E s := by
  rcases r with _ | _ | _ | _ | _ | r
  · exact gm0 w mean mg mb cn cs a ccd cl outer A₀ base h₀ L m news s Q E t v2 B F X N T hk hT52 hret
  · exact gm1 w mean mg mb cn cs a ccd cl outer A₀ base h₀ L m news s Q E t v2 B F X N T hk hT52 hret
  · exact gm2 w mean mg mb cn cs a ccd cl outer A₀ base h₀ L m news s Q E t v2 B F X N T hk hT52 hret
  · exact gm3 w mean mg mb cn cs a ccd cl outer A₀ base h₀ L m news s Q E t v2 B F X N T hk hT52 hret
  · exact gm4 w mean mg mb cn cs a ccd cl outer A₀ base h₀ L m news s Q E t v2 B F X N T hk hT52 hret
  · omega
theorem gm_any_u {A : Around} {p9 : Program} {lo9 : List Str} {w : World} {mean : ExcName → Option Value} {mg mb : Str → Option Value} {cn : Str} {cs : Scope} {a : Addr} {ccd : Value} {cl : List (Str × Addr)} {outer : List Env} {A₀ : Around} {base h₀ : Heap} {L : Addr} {m : Str → Option Value} {news : List (Addr × Obj)} {s : Shared}
   {Q E : Value → Shared → Prop}
   (hh : A.handled = none) (hdp : A.depth ≤ 400) (hfr : A.frames = some (envX cn cs L a ccd cl :: outer)) (hun : A.units ≤ 35) (r : Nat) (hr : r < 5) (t : Tok) (v2 : Value)
   (B : Below A₀ base outer h₀) (F : Fr h₀ L s.heap m) (X : (hd.heap_39 w.params).In h₀) (N : News h₀ L s.heap news)
   (T : Top p9 lo9 mean mg mb h₀)
   (hk : cs.kind = .function) (hT52 : Tab 52 news) (hret : ∀ f need h' g' d' tk' led', GoodF w r f need → Fr h₀ L h' m → News h₀ L h' led' → (∀ p ∈ news, p ∈ led') → (∀ p ∈ need, p ∈ led') → (∀ p ∈ need, ∀ q ∈ news, q.1 < p.1) → g' = s.gens → Q (.ref f) ⟨h', g', d', tk', s.os⟩) :
   wpAny (model PySem.Challenge.rw_bb0001_01.row.prog w) A (call (.ref 278) [.str (nmOf r) t, v2]) Q E s :=
  wp_weaken hh hdp (.inr hfr) (.inl rfl) hun (gm_any w mean mg mb cn cs a ccd cl outer A₀ base h₀ L m news s Q E r hr t v2 B F X N T hk hT52 hret)

end Mine
end

/- Cmp -/
section
open PySem PySem.W PyProof.Rows PySem.Calls PySem.Spec
set_option linter.unusedVariables false
namespace Mine
theorem mul_bd {a b M K : Int} (h1 : -M ≤ a) (h2 : a ≤ M) (h3 : 0 < b) (h4 : b ≤ K) (hM : 0 ≤ M) : -(M * K) ≤ a * b ∧ a * b ≤ M * K := by
  have q1 : a * b ≤ M * b := Int.mul_le_mul_of_nonneg_right h2 (Int.le_of_lt h3)
  have q2 : M * b ≤ M * K := Int.mul_le_mul_of_nonneg_left h4 hM
  have q3 : -M * b ≤ a * b := Int.mul_le_mul_of_nonneg_right h1 (Int.le_of_lt h3)
  have q4 : -M * b = -(M * b) := Int.neg_mul ..
  omega
set_option maxRecDepth 100000 in
set_option maxHeartbeats 2000000 in
theorem parts_gt {p9 : Program} {lo9 : List Str} (w : World) (mean : ExcName → Option Value) (mg mb : Str → Option Value) (cn : Str) (cs : Scope) (a : Addr) (ccd : Value) (cl : List (Str × Addr)) (outer : List Env) (A₀ : Around) (base h₀ : Heap) (L : Addr) (m : Str → Option Value) (news : List (Addr × Obj)) (s : Shared)
   (Q E : Value → Shared → Prop) (v1 v2 : Value) (n1 d1 n2 d2 : Int)
   (B : Below A₀ base outer h₀) (F : Fr h₀ L s.heap m) (X : (hd.heap_39 w.params).In h₀) (N : News h₀ L s.heap news)
   (T : Top p9 lo9 mean mg mb h₀)
   (hk : cs.kind = .function) (p1 : PartsAt w news v1 n1 d1) (p2 : PartsAt w news v2 n2 d2) (a1 : 0 < d1) (a2 : d1 ≤ 6561) (a3 : -6561 ≤ n1) (a4 : n1 ≤ 26270244) (b1 : 0 < d2) (b2 : d2 ≤ 6561) (b3 : -6561 ≤ n2) (b4 : n2 ≤ 26270244) (hret : ∀ h' tk', Fr h₀ L h' m → News h₀ L h' news → Q (.bool (decide (n2 * d1 < n1 * d2))) { s with heap := h', toks := tk' }) :
   wpAny (model PySem.Challenge.rw_bb0001_01.row.prog w) { handled := none, depth := 440, frames := some (envX cn cs L a ccd cl :: outer), guards := none, units := 70 } (richCompare .Gt v1 v2) Q E s := by
  revert X
  k_fill
  intro X
  have m12 := mul_bd (M := 26270244) (a := n1) (b := d2) (K := 6561) (by omega) (by omega) b1 b2 (by decide)
  have m21 := mul_bd (M := 26270244) (a := n2) (b := d1) (K := 6561) (by omega) (by omega) a1 a2 (by decide)
  rcases p1 with ⟨t1, rfl, rfl⟩ | ⟨x, rfl, dx, k1a, t1a, k2a, t2a, e1, e2⟩ <;> rcases p2 with ⟨t2, rfl, rfl⟩ | ⟨y, rfl, dy, k1b, t1b, k2b, t2b, f1, f2⟩
  · refine richCompare_gives (op := .Gt) (typeIs_int s _ t1) (typeIs_int s _ t2) PySem.F.slot_int_gt PySem.F.entry_int_gt (PySem.F.args_int_gt_2 _ _) (gives_int_gt _ _ t1 t2) (fun x => nomatch x) ?_
    have := hret s.heap s.toks F N
    simp only [Int.mul_one] at this
    exact this
  · refine gt_if (X.keeps F.keep) (N _ f1).1 (inst_fr N f1 f2) (by show 70 < cLine; unfold cLine; decide) ?_
    refine wp_weaken (A' := { handled := none, depth := 480, frames := some (envX cn cs L a ccd cl :: outer), guards := none, units := 90 }) rfl (Nat.le_of_ble_eq_true rfl) (.inr rfl) (.inl rfl) (Nat.le_of_ble_eq_true rfl) (fr_lt_i w mean mg mb cn cs a ccd cl outer A₀ base h₀ L m news s _ _ y dy n2 d2 k1b t1b k2b t2b n1 t1 B F X N T hk f1 f2 b1 (by omega) (by omega) (by omega) (by omega) fun bv h' tk' eb F' N' => ?_)
    subst eb
    have := hret h' tk' F' N'
    simp only [Int.mul_one] at this
    exact this
  · refine' cmp_K (op := .Gt) (by show 70 < cLine; unfold cLine; decide) F X (inst_fr N e1 e2) ?hb ?hn ?hs ?hf ?_; (case hb => exact Looks.of_pure (r := .type "int") rfl); (case hn => k_is); (case hs => k_is); (case hf => k_is)
    refine wp_weaken (A' := { handled := none, depth := 480, frames := some (envX cn cs L a ccd cl :: outer), guards := none, units := 90 }) rfl (Nat.le_of_ble_eq_true rfl) (.inr rfl) (.inl rfl) (Nat.le_of_ble_eq_true rfl) (fr_gt_i w mean mg mb cn cs a ccd cl outer A₀ base h₀ L m news s _ _ x dx n1 d1 k1a t1a k2a t2a n2 t2 B F X N T hk e1 e2 a1 (by omega) (by omega) (by omega) (by omega) fun bv h' tk' eb F' N' => ?_)
    subst eb
    have := hret h' tk' F' N'
    simp only [Int.mul_one] at this
    exact this
  · refine' cmp_K (op := .Gt) (by show 70 < cLine; unfold cLine; decide) F X (inst_fr N e1 e2) ?hb ?hn ?hs ?hf ?_; (case hb => exact (inst_fr N f1 f2).type); (case hn => k_is); (case hs => k_is); (case hf => k_is)
    refine wp_weaken (A' := { handled := none, depth := 480, frames := some (envX cn cs L a ccd cl :: outer), guards := none, units := 90 }) rfl (Nat.le_of_ble_eq_true rfl) (.inr rfl) (.inl rfl) (Nat.le_of_ble_eq_true rfl) (fr_gt_f w mean mg mb cn cs a ccd cl outer A₀ base h₀ L m news s _ _ x dx n1 d1 k1a t1a k2a t2a y dy n2 d2 k1b t1b k2b t2b B F X N T hk e1 e2 f1 f2 a1 (by omega) (by omega) b1 (by omega) (by omega) (by omega) (by omega) fun bv h' tk' eb F' N' => ?_)
    subst eb
    exact hret h' tk' F' N'
set_option maxRecDepth 100000 in
set_option maxHeartbeats 2000000 in
theorem parts_eq {p9 : Program} {lo9 : List Str} (w : World) (mean : ExcName → Option Value) (mg mb : Str → Option Value) (cn : Str) (cs : Scope) (a : Addr) (ccd : Value) (cl : List (Str × Addr)) (outer : List Env) (A₀ : Around) (base h₀ : Heap) (L : Addr) (m : Str → Option Value) (news : List (Addr × Obj)) (s : Shared)
   (Q E : Value → Shared → Prop) (v1 v2 : Value) (n1 d1 n2 d2 : Int)
   (B : Below A₀ base outer h₀) (F : Fr h₀ L s.heap m) (X : (hd.heap_39 w.params).In h₀) (N : News h₀ L s.heap news)
   (T : Top p9 lo9 mean mg mb h₀)
   (hk : cs.kind = .function) (p1 : PartsAt w news v1 n1 d1) (p2 : PartsAt w news v2 n2 d2) (a1 : 0 < d1) (a2 : d1 ≤ 6561) (a3 : -6561 ≤ n1) (a4 : n1 ≤ 26270244) (b1 : 0 < d2) (b2 : d2 ≤ 6561) (b3 : -6561 ≤ n2) (b4 : n2 ≤ 26270244) (hret : ∀ bv h' tk', (bv = true ↔ n1 = n2 ∧ d1 = d2) → Fr h₀ L h' m → News h₀ L h' news → Q (.bool bv) { s with heap := h', toks := tk' }) :
   wpAny (model PySem.Challenge.rw_bb0001_01.row.prog w) { handled := none, depth := 440, frames := some (envX cn cs L a ccd cl :: outer), guards := none, units := 70 } (compareOp .Eq v1 v2) Q E s := by
  refine cmp_ofEq ?_
  revert X
  k_fill
  intro X
  have m12 := mul_bd (M := 26270244) (a := n1) (b := d2) (K := 6561) (by omega) (by omega) b1 b2 (by decide)
  have m21 := mul_bd (M := 26270244) (a := n2) (b := d1) (K := 6561) (by omega) (by omega) a1 a2 (by decide)
  rcases p1 with ⟨t1, rfl, rfl⟩ | ⟨x, rfl, dx, k1a, t1a, k2a, t2a, e1, e2⟩ <;> rcases p2 with ⟨t2, rfl, rfl⟩ | ⟨y, rfl, dy, k1b, t1b, k2b, t2b, f1, f2⟩
  · refine richCompare_gives (op := .Eq) (typeIs_int s _ t1) (typeIs_int s _ t2) PySem.F.slot_int_eq PySem.F.entry_int_eq (PySem.F.args_int_eq_2 _ _) (gives_int_eq _ _ t1 t2) (fun x => nomatch x) ?_
    exact hret _ s.heap s.toks (by simp) F N
  · refine eq_if (X.keeps F.keep) (N _ f1).1 (inst_fr N f1 f2) (by show 70 < cLine; unfold cLine; decide) ?_
    refine wp_weaken (A' := { handled := none, depth := 480, frames := some (envX cn cs L a ccd cl :: outer), guards := none, units := 90 }) rfl (Nat.le_of_ble_eq_true rfl) (.inr rfl) (.inl rfl) (Nat.le_of_ble_eq_true rfl) (fr_eq_i w mean mg mb cn cs a ccd cl outer A₀ base h₀ L m news s _ _ y dy n2 d2 k1b t1b k2b t2b n1 t1 B F X N T hk f1 f2 b1 (by omega) (by omega) (by omega) fun bv h' tk' eb F' N' => ?_)
    subst eb
    exact hret _ h' tk' (by rw [decide_eq_true_eq]; constructor <;> (rintro ⟨u, v⟩; exact ⟨u.symm, v.symm⟩)) F' N'
  · refine' cmp_K (op := .Eq) (by show 70 < cLine; unfold cLine; decide) F X (inst_fr N e1 e2) ?hb ?hn ?hs ?hf ?_; (case hb => exact Looks.of_pure (r := .type "int") rfl); (case hn => k_is); (case hs => k_is); (case hf => k_is)
    refine wp_weaken (A' := { handled := none, depth := 480, frames := some (envX cn cs L a ccd cl :: outer), guards := none, units := 90 }) rfl (Nat.le_of_ble_eq_true rfl) (.inr rfl) (.inl rfl) (Nat.le_of_ble_eq_true rfl) (fr_eq_i w mean mg mb cn cs a ccd cl outer A₀ base h₀ L m news s _ _ x dx n1 d1 k1a t1a k2a t2a n2 t2 B F X N T hk e1 e2 a1 (by omega) (by omega) (by omega) fun bv h' tk' eb F' N' => ?_)
    subst eb
    exact hret _ h' tk' (by rw [decide_eq_true_eq]) F' N'
  · refine' cmp_K (op := .Eq) (by show 70 < cLine; unfold cLine; decide) F X (inst_fr N e1 e2) ?hb ?hn ?hs ?hf ?_; (case hb => exact (inst_fr N f1 f2).type); (case hn => k_is); (case hs => k_is); (case hf => k_is)
    refine wp_weaken (A' := { handled := none, depth := 480, frames := some (envX cn cs L a ccd cl :: outer), guards := none, units := 90 }) rfl (Nat.le_of_ble_eq_true rfl) (.inr rfl) (.inl rfl) (Nat.le_of_ble_eq_true rfl) (fr_eq_f w mean mg mb cn cs a ccd cl outer A₀ base h₀ L m news s _ _ x dx n1 d1 k1a t1a k2a t2a y dy n2 d2 k1b t1b k2b t2b B F X N T hk e1 e2 f1 f2 a1 (by omega) (by omega) b1 (by omega) (by omega) fun bv h' tk' eb F' N' => ?_)
    subst eb
    exact hret _ h' tk' (by rw [decide_eq_true_eq]) F' N'
theorem parts_gt_u {A : Around} {p9 : Program} {lo9 : List Str} {w : World} {mean : ExcName → Option Value} {mg mb : Str → Option Value} {cn : Str} {cs : Scope} {a : Addr} {ccd : Value} {cl : List (Str × Addr)} {outer : List Env} {A₀ : Around} {base h₀ : Heap} {L : Addr} {m : Str → Option Value} {news : List (Addr × Obj)} {s : Shared}
   {Q E : Value → Shared → Prop}
   (hh : A.handled = none) (hdp : A.depth ≤ 440) (hfr : A.frames = some (envX cn cs L a ccd cl :: outer)) (hun : A.units ≤ 70) (v1 v2 : Value) (n1 d1 n2 d2 : Int)
   (B : Below A₀ base outer h₀) (F : Fr h₀ L s.heap m) (X : (hd.heap_39 w.params).In h₀) (N : News h₀ L s.heap news)
   (T : Top p9 lo9 mean mg mb h₀)
   (hk : cs.kind = .function) (p1 : PartsAt w news v1 n1 d1) (p2 : PartsAt w news v2 n2 d2) (a1 : 0 < d1) (a2 : d1 ≤ 6561) (a3 : -6561 ≤ n1) (a4 : n1 ≤ 26270244) (b1 : 0 < d2) (b2 : d2 ≤ 6561) (b3 : -6561 ≤ n2) (b4 : n2 ≤ 26270244) (hret : ∀ h' tk', Fr h₀ L h' m → News h₀ L h' news → Q (.bool (decide (n2 * d1 < n1 * d2))) { s with heap := h', toks := tk' }) :
   wpAny (model PySem.Challenge.rw_bb0001_01.row.prog w) A (richCompare .Gt v1 v2) Q E s :=
  wp_weaken hh hdp (.inr hfr) (.inl rfl) hun (parts_gt w mean mg mb cn cs a ccd cl outer A₀ base h₀ L m news s Q E v1 v2 n1 d1 n2 d2 B F X N T hk p1 p2 a1 a2 a3 a4 b1 b2 b3 b4 hret)
theorem parts_eq_u {A : Around} {p9 : Program} {lo9 : List Str} {w : World} {mean : ExcName → Option Value} {mg mb : Str → Option Value} {cn : Str} {cs : Scope} {a : Addr} {ccd : Value} {cl : List (Str × Addr)} {outer : List Env} {A₀ : Around} {base h₀ : Heap} {L : Addr} {m : Str → Option Value} {news : List (Addr × Obj)} {s : Shared}
   {Q E : Value → Shared → Prop}
   (hh : A.handled = none) (hdp : A.depth ≤ 440) (hfr : A.frames = some (envX cn cs L a ccd cl :: outer)) (hun : A.units ≤ 70) (v1 v2 : Value) (n1 d1 n2 d2 : Int)
   (B : Below A₀ base outer h₀) (F : Fr h₀ L s.heap m) (X : (hd.heap_39 w.params).In h₀) (N : News h₀ L s.heap news)
   (T : Top p9 lo9 mean mg mb h₀)
   (hk : cs.kind = .function) (p1 : PartsAt w news v1 n1 d1) (p2 : PartsAt w news v2 n2 d2) (a1 : 0 < d1) (a2 : d1 ≤ 6561) (a3 : -6561 ≤ n1) (a4 : n1 ≤ 26270244) (b1 : 0 < d2) (b2 : d2 ≤ 6561) (b3 : -6561 ≤ n2) (b4 : n2 ≤ 26270244) (hret : ∀ bv h' tk', (bv = true ↔ n1 = n2 ∧ d1 = d2) → Fr h₀ L h' m → News h₀ L h' news → Q (.bool bv) { s with heap := h', toks := tk' }) :
   wpAny (model PySem.Challenge.rw_bb0001_01.row.prog w) A (compareOp .Eq v1 v2) Q E s :=
  wp_weaken hh hdp (.inr hfr) (.inl rfl) hun (parts_eq w mean mg mb cn cs a ccd cl outer A₀ base h₀ L m news s Q E v1 v2 n1 d1 n2 d2 B F X N T hk p1 p2 a1 a2 a3 a4 b1 b2 b3 b4 hret)
end Mine
end

/- MaxO -/
section
open PySem PySem.W PyProof.Rows PySem.Calls PySem.Spec
set_option linter.unusedVariables false
namespace Mine
section
variable {prog : Program} {w : World} {A : Around} {E : Value → Shared → Prop} {h₀ : Heap} {L l : Addr} {m : Str → Option Value} {led : List (Addr × Obj)} {vs : Array Value} {o : Obj}
/-- a comparison that may change the heap, but no object of the ledger -/
def CmpL (prog : Program) (w : World) (A : Around) (h₀ : Heap) (L : Addr) (m : Str → Option Value) (led : List (Addr × Obj)) (vs : Array Value) (z : Nat → Int) : Prop :=
  ∀ (i j : Nat) (vi vj : Value) (s : Shared) (led' : List (Addr × Obj)) (Q E : Value → Shared → Prop), vs[i]? = some vi → vs[j]? = some vj → Fr h₀ L s.heap m → News h₀ L s.heap led' → (∀ p ∈ led, p ∈ led') →
    (∀ h' tk', Fr h₀ L h' m → News h₀ L h' led' → Q (.bool (decide (z j < z i))) { s with heap := h', toks := tk' }) → wpAny (model prog w) A (richCompare .Gt vi vj) Q E s
def bestObj (vb : Value) (c : Nat) : Obj := { cls := .type "list", dict := none, data := .seq #[vb, vb] c, slots := #[] }
theorem maxo_loop {R : Result → Shared → Prop} {I S : Addr} {z : Nat → Int} (hh : A.handled = none) (hlI : l ≠ I) (hIS : I ≠ S) (hlS : l ≠ S) (hI : I ≠ L ∧ h₀.get? I = none) (ho : LObj o vs) (hl : (l, o) ∈ led) (hoffI : ∀ p ∈ led, p.1 ≠ I) (hoffS : ∀ p ∈ led, p.1 ≠ S) (hcmp : CmpL prog w A.in1 h₀ L m led vs z) :
    ∀ (k j b : Nat) (s : Shared) (vb : Value) (c : Nat), vs.size - (j + 1) = k → j + 1 ≤ vs.size → s.heap.IsListIter I l (j + 1) → Fr h₀ L s.heap m → News h₀ L s.heap ((S, bestObj vb c) :: led) → b ≤ j → vs[b]? = some vb → (∀ t, t ≤ j → z t ≤ z b) → (∀ t, t < b → z t < z b) →
    (∀ b vb h' tk, b < vs.size → vs[b]? = some vb → (∀ t, t < vs.size → z t ≤ z b) → (∀ t, t < b → z t < z b) → Fr h₀ L h' m → News h₀ L h' led → R (.ok (.ret vb)) { s with heap := h', toks := tk }) →
    codeAny (model prog w) A (.builtin "max.loop" ⟨[.ref I, .none, .ref S], []⟩) R s := by
  have W : Walks prog w A.in1 I [I, l] [I] vs.size _ _ := Walks.list (A := A.in1) hh I l hlI vs
  have hname : (toString "max" ++ toString ".loop" : String) = "max.loop" := by decide
  intro k
  induction k with
  | zero =>
    intro j b s vb c hk hj hit F N hb hvb hz hz2 hR
    have hin : j + 1 = vs.size := by omega
    have hS := (N _ (.head _)).1
    have hst : s.heap.IsListIter I l vs.size ∧ s.heap.IsList l vs := ⟨hin ▸ hit, ho.isList (N _ (.tail _ hl)).1⟩
    refine codeAny_builtin PySem.F.entry_max_loop ?_
    rw [Around.under_plainId PySem.F.plain_max_loop _]
    show wpAny _ A.in1 (seqItems? (.ref S) >>= _) _ _ s
    refine wpAny_bind (wpAny_seqItems hS rfl ?_)
    show wpAny _ A.in1 (tryCatch (pyNext (.ref I)) _ >>= _) _ _ s
    refine wpAny_bind (wpAny_tryCatch (W.done s _ _ hst fun h' tk hk' => ?_))
    have F' := fr_but F hI.1 hI.2 fun b ob hb e => hk' b ob (by simpa using hb) e
    have N' : News h₀ L h' ((S, bestObj vb c) :: led) := fun p hp => ⟨hk' _ _ (by
      rcases List.mem_cons.mp hp with rfl | hp
      · simpa using Ne.symm hIS
      · simpa using hoffI p hp) (N p hp).1, (N p hp).2⟩
    have hS' := (N' _ (.head _)).1
    show wpAny _ A.in1 (updateSeq S (fun _ => #[]) >>= _) _ _ _
    refine wpAny_bind ?_
    refine wpAny_updateSeq hS' rfl (wpAny_bind (wpAny_letGo (wpAny_pure ?_)))
    have kk : ∀ b ob, b ≠ S → h'.get? b = some ob → (h'.update S (Obj.mapSeq fun _ => #[])).get? b = some ob := fun b ob hb e => (Heap.get?_update_other _ _ (Ne.symm hb)).trans e
    exact hR b vb _ tk (by omega) hvb (fun t ht => hz t (by omega)) hz2 (fr_but F' (N' _ (.head _)).2.1 (N' _ (.head _)).2.2 kk) fun p hp => ⟨kk _ _ (hoffS p hp) (N' p (.tail _ hp)).1, (N' p (.tail _ hp)).2⟩
  | succ k ih =>
    intro j b s vb c hk hj hit F N hb hvb hz hz2 hR
    have hlt : j + 1 < vs.size := by omega
    have hS := (N _ (.head _)).1
    refine codeAny_builtin PySem.F.entry_max_loop ?_
    rw [Around.under_plainId PySem.F.plain_max_loop _]
    show wpAny _ A.in1 (seqItems? (.ref S) >>= _) _ _ s
    refine wpAny_bind (wpAny_seqItems hS rfl ?_)
    show wpAny _ A.in1 (tryCatch (pyNext (.ref I)) _ >>= _) _ _ s
    refine wpAny_bind (wpAny_tryCatch (W.item (j + 1) s _ _ hlt ⟨hit, ho.isList (N _ (.tail _ hl)).1⟩ fun v h' tk hP hst' hk' => ?_))
    have F' := fr_but F hI.1 hI.2 fun b ob hb e => hk' b ob (by simpa using hb) e
    obtain ⟨io, hio, hic, hid⟩ := hst'.1
    have N' : News h₀ L h' ((I, io) :: (S, bestObj vb c) :: led) := fun p hp => by
      rcases List.mem_cons.mp hp with rfl | hp
      · exact ⟨hio, hI⟩
      · refine ⟨hk' _ _ ?_ (N p hp).1, (N p hp).2⟩
        rcases List.mem_cons.mp hp with rfl | hp
        · simpa using Ne.symm hIS
        · simpa using hoffI p hp
    show wpAny _ A.in1 (tryCatch (holding [v, v] (richCompare .Gt v vb >>= _)) _ >>= _) _ _ _
    refine wpAny_bind (wpAny_tryCatch (wpAny_holding (wpAny_bind (hcmp (j + 1) b v vb _ _ _ _ hP hvb F' N' (fun p hp => .tail _ (.tail _ hp)) fun h2 tk2 F2 N2 => ?_))))
    refine wpAny_bind (wpAny_holding (wpAny_truthy_bool ?_))
    refine wpAny_bind (wpAny_letGo (wpAny_pure ?_))
    have hS2 := (N2 _ (.tail _ (.head _))).1
    have hit2 : h2.IsListIter I l (j + 1 + 1) := ⟨io, (N2 _ (.head _)).1, hic, hid⟩
    cases hbt : decide (z b < z (j + 1)) with
    | true =>
      have hlt2 : z b < z (j + 1) := of_decide_eq_true hbt
      simp only [if_true]
      refine wpAny_bind ?_
      refine wpAny_updateSeq hS2 rfl (wpAny_bind (wpAny_letGo ?_))
      have kk : ∀ b ob, b ≠ S → h2.get? b = some ob → (h2.update S (Obj.mapSeq fun _ => #[v, v])).get? b = some ob := fun b ob hb e => (Heap.get?_update_other _ _ (Ne.symm hb)).trans e
      rw [hname]
      obtain ⟨c2, hSn⟩ : ∃ c2, (h2.update S (Obj.mapSeq fun _ => #[v, v])).get? S = some (bestObj v c2) := ⟨_, Heap.get?_update_self _ hS2 rfl⟩
      refine wpAny_pure ⟨plainId_quiet PySem.F.plain_max_loop _, ih (j + 1) (j + 1) _ v c2 (by omega) hlt ⟨io, kk _ _ hIS (N2 _ (.head _)).1, hic, hid⟩ (fr_but F2 (N2 _ (.tail _ (.head _))).2.1 (N2 _ (.tail _ (.head _))).2.2 kk) (fun p hp => ?_) (Nat.le_refl _) hP (fun t ht => ?_) (fun t ht => Int.lt_of_le_of_lt (hz t (by omega)) hlt2) fun b' vb' h3 tk3 q1 q2 q3 q4 F3 N3 => hR b' vb' h3 tk3 q1 q2 q3 q4 F3 N3⟩
      · rcases List.mem_cons.mp hp with rfl | hp
        · exact ⟨hSn, (N2 _ (.tail _ (.head _))).2⟩
        · exact ⟨kk _ _ (hoffS p hp) (N2 _ (.tail _ (.tail _ hp))).1, (N2 _ (.tail _ (.tail _ hp))).2⟩
      · by_cases e : t = j + 1
        · rw [e]; exact Int.le_refl _
        · exact Int.le_of_lt (Int.lt_of_le_of_lt (hz t (by omega)) hlt2)
    | false =>
      have hge : ¬ z b < z (j + 1) := of_decide_eq_false hbt
      simp only [Bool.false_eq_true, if_false]
      refine wpAny_bind (wpAny_letGo ?_)
      rw [hname]
      refine wpAny_pure ⟨plainId_quiet PySem.F.plain_max_loop _, ih (j + 1) b _ vb c (by omega) hlt hit2 F2 (fun p hp => N2 p (.tail _ hp)) (by omega) hvb (fun t ht => ?_) hz2 fun b' vb' h3 tk3 q1 q2 q3 q4 F3 N3 => hR b' vb' h3 tk3 q1 q2 q3 q4 F3 N3⟩
      by_cases e : t = j + 1
      · rw [e]; omega
      · exact hz t (by omega)
theorem maxo {s : Shared} {z : Nat → Int} {Q : Value → Shared → Prop} (hh : A.handled = none) (ho : LObj o vs) (hl : (l, o) ∈ led) (hn : 0 < vs.size) (hcmp : CmpL prog w A.in1 h₀ L m led vs z) (F : Fr h₀ L s.heap m) (N : News h₀ L s.heap led)
    (hR : ∀ b vb h' tk, b < vs.size → vs[b]? = some vb → (∀ t, t < vs.size → z t ≤ z b) → (∀ t, t < b → z t < z b) → Fr h₀ L h' m → News h₀ L h' led → Q vb { s with heap := h', toks := tk }) :
    wpAny (model prog w) A (call (.builtin "max") [.ref l]) Q E s := by
  have hname : (toString "max" ++ toString ".loop" : String) = "max.loop" := by decide
  have hls := ho.isList (N _ hl).1
  have hlt := Heap.lt_size (N _ hl).1
  refine call_function_tree PySem.F.kind_max PySem.F.plain_max PySem.F.entry_max (PySem.F.args_max1 _) ?_
  show wpAny _ A.in1 (Builtin.Builtins.bindParams "max" ["key", "default"] 0 ⟨[], []⟩ >>= _) _ _ s
  refine wpAny_bind (wpAny_of_eq (show Builtin.Builtins.bindParams "max" ["key", "default"] 0 ⟨[], []⟩ = pure [none, none] from rfl) ?_)
  refine wpAny_bind (wpAny_pure ?_)
  refine wpAny_bind (wpAny_pyIter_list hls ?_)
  refine wpAny_bind (wpAny_newObj_type ?_)
  rw [hname]
  have F1 := F.push { cls := .type "list_iterator", data := .fields #[.ref l, .int 0 0] }
  have N1 := N.push F { cls := .type "list_iterator", data := .fields #[.ref l, .int 0 0] }
  have sz : (s.heap.push { cls := .type "list_iterator", data := .fields #[.ref l, .int 0 0] }).objs.size = s.heap.objs.size + 1 := Heap.size_push ..
  have lt : ∀ p ∈ led, p.1 < s.heap.objs.size := fun p hp => Heap.lt_size (N p hp).1
  generalize s.heap.push { cls := .type "list_iterator", data := .fields #[.ref l, .int 0 0] } = h1 at F1 N1 sz ⊢
  have F2 := F1.push { cls := .type "list", data := .seq ([] : List Value).toArray }
  have N2 := N1.push F1 { cls := .type "list", data := .seq ([] : List Value).toArray }
  refine wpAny_pure ⟨plainId_quiet PySem.F.plain_max_loop _, ?_⟩
  have hIS : s.heap.objs.size ≠ h1.objs.size := by rw [sz]; exact (Nat.succ_ne_self _).symm
  have hoffS : ∀ p ∈ led, p.1 ≠ h1.objs.size := fun p hp => by rw [sz]; exact Nat.ne_of_lt (Nat.lt_succ_of_lt (lt p hp))
  have hoffI : ∀ p ∈ led, p.1 ≠ s.heap.objs.size := fun p hp => Nat.ne_of_lt (lt p hp)
  have hS2 := (N2 _ (.head _)).1
  have W : Walks prog w A.in1 s.heap.objs.size [s.heap.objs.size, l] [s.heap.objs.size] vs.size _ _ := Walks.list (A := A.in1) hh s.heap.objs.size l (Nat.ne_of_lt hlt) vs
  have hI := (N2 _ (.tail _ (.head _))).2
  refine codeAny_builtin PySem.F.entry_max_loop ?_
  rw [Around.under_plainId PySem.F.plain_max_loop _]
  show wpAny _ A.in1 (seqItems? (.ref h1.objs.size) >>= _) _ _ _
  refine wpAny_bind (wpAny_seqItems hS2 rfl ?_)
  show wpAny _ A.in1 (tryCatch (pyNext (.ref s.heap.objs.size)) _ >>= _) _ _ _
  refine wpAny_bind (wpAny_tryCatch (W.item 0 _ _ _ hn ⟨⟨_, (N2 _ (.tail _ (.head _))).1, rfl, rfl⟩, ho.isList (N2 _ (.tail _ (.tail _ hl))).1⟩ fun v h' tk hP hst' hk' => ?_))
  have F3 := fr_but F2 hI.1 hI.2 fun b ob hb e => hk' b ob (by simpa using hb) e
  obtain ⟨io, hio, hic, hid⟩ := hst'.1
  have hS3 := hk' _ _ (by simpa using Ne.symm hIS) hS2
  show wpAny _ A.in1 (updateSeq h1.objs.size (fun _ => #[v, v]) >>= _) _ _ _
  refine wpAny_bind ?_
  refine wpAny_updateSeq hS3 rfl ?_
  have kk : ∀ b ob, b ≠ h1.objs.size → h'.get? b = some ob → (h'.update h1.objs.size (Obj.mapSeq fun _ => #[v, v])).get? b = some ob := fun b ob hb e => (Heap.get?_update_other _ _ (Ne.symm hb)).trans e
  rw [hname]
  obtain ⟨c2, hSn⟩ : ∃ c2, (h'.update h1.objs.size (Obj.mapSeq fun _ => #[v, v])).get? h1.objs.size = some (bestObj v c2) := ⟨_, Heap.get?_update_self _ hS3 rfl⟩
  refine wpAny_pure ⟨plainId_quiet PySem.F.plain_max_loop _, maxo_loop hh (Nat.ne_of_lt hlt) hIS (by rw [sz]; exact Nat.ne_of_lt (Nat.lt_succ_of_lt hlt)) hI ho hl hoffI hoffS hcmp _ 0 0 _ v c2 rfl hn ⟨io, kk _ _ hIS hio, hic, hid⟩ (fr_but F3 (N2 _ (.head _)).2.1 (N2 _ (.head _)).2.2 kk) (fun p hp => ?_) (Nat.le_refl _) hP (fun t ht => by rw [Nat.le_zero.mp ht]; exact Int.le_refl _) (fun t ht => absurd ht (Nat.not_lt_zero t)) fun b' vb' h4 tk4 q1 q2 q3 q4 F4 N4 => hR b' vb' h4 tk4 q1 q2 q3 q4 F4 N4⟩
  rcases List.mem_cons.mp hp with rfl | hp
  · exact ⟨hSn, (N2 _ (.head _)).2⟩
  · exact ⟨kk _ _ (hoffS p hp) (hk' _ _ (by simpa using hoffI p hp) (N2 _ (.tail _ (.tail _ hp))).1), (N p hp).2⟩
end
end Mine
end

/- ScM -/
section
open PySem PySem.W PyProof.Rows PySem.Calls PySem.Spec
set_option linter.unusedVariables false
namespace Mine
/-- a list of numbers: the c-th one is z c / D, by parts -/
def ScoresAt (w : World) (led : List (Addr × Obj)) (ms : Array Value) (n : Nat) (D : Int) (z : Nat → Int) : Prop :=
  ms.size = n ∧ ∀ c, c < n → ∃ v nn dd, ms[c]? = some v ∧ PartsAt w led v nn dd ∧ 0 < dd ∧ dd ≤ 6561 ∧ -6561 ≤ nn ∧ nn ≤ 26270244 ∧ nn * D = z c * dd
theorem ScoresAt.mono {w : World} {led led' : List (Addr × Obj)} {ms : Array Value} {n : Nat} {D : Int} {z : Nat → Int} (h : ScoresAt w led ms n D z) (k : ∀ p ∈ led, p ∈ led') : ScoresAt w led' ms n D z :=
  ⟨h.1, fun c hc => let ⟨v, nn, dd, e, p, r⟩ := h.2 c hc; ⟨v, nn, dd, e, p.mono k, r⟩⟩
theorem ScoresAt.soft {w : World} {led led' : List (Addr × Obj)} {ms : Array Value} {n : Nat} {D : Int} {z : Nat → Int} (h : ScoresAt w led ms n D z) (k : ∀ p ∈ led, Soft p → p ∈ led') : ScoresAt w led' ms n D z :=
  ⟨h.1, fun c hc => let ⟨v, nn, dd, e, p, r⟩ := h.2 c hc; ⟨v, nn, dd, e, p.elim .inl fun ⟨x, e, f⟩ => .inr ⟨x, e, f.soft k⟩, r⟩⟩
theorem scores_of {w : World} {led : List (Addr × Obj)} {ms : Array Value} {n : Nat} {D : Int} {com : List Nat} {g : Nat → Int} (hs : ms.size = n) (h : ∀ c, c < n → ∃ v, ms[c]? = some v ∧ if c ∈ com then ∃ t, v = .int (-1) t else RepAt w led D 4 v (g c)) :
    ScoresAt w led ms n D (fun c => if c ∈ com then -D else g c) := by
  refine ⟨hs, fun c hc => ?_⟩
  obtain ⟨v, e, r⟩ := h c hc
  by_cases hin : c ∈ com
  · rw [if_pos hin] at r
    obtain ⟨t, rfl⟩ := r
    exact ⟨_, -1, 1, e, .inl ⟨t, rfl, rfl⟩, by decide, by decide, by decide, by decide, by simp [hin]⟩
  · rw [if_neg hin] at r
    obtain ⟨nn, dd, p, r1, r2, r3, r4, r5⟩ := r
    have r2' : dd ≤ 6561 := r2
    exact ⟨v, nn, dd, e, p, r1, r2', by omega, by omega, by simp only [hin, if_false]; exact r3⟩
theorem frac_lt {n1 d1 n2 d2 D z1 z2 : Int} (hD : 0 < D) (h1 : 0 < d1) (h2 : 0 < d2) (e1 : n1 * D = z1 * d1) (e2 : n2 * D = z2 * d2) : n2 * d1 < n1 * d2 ↔ z2 < z1 := by
  have q1 : D * (n2 * d1) = z2 * (d1 * d2) := by rw [← Int.mul_assoc, Int.mul_comm D, e2, Int.mul_assoc, Int.mul_comm d2]
  have q2 : D * (n1 * d2) = z1 * (d1 * d2) := by rw [← Int.mul_assoc, Int.mul_comm D, e1, Int.mul_assoc]
  have hp : 0 < d1 * d2 := Int.mul_pos h1 h2
  constructor
  · intro h
    have : D * (n2 * d1) < D * (n1 * d2) := Int.mul_lt_mul_of_pos_left h hD
    rw [q1, q2] at this
    exact Int.lt_of_mul_lt_mul_right this (Int.le_of_lt hp)
  · intro h
    have : z2 * (d1 * d2) < z1 * (d1 * d2) := Int.mul_lt_mul_of_pos_right h hp
    rw [← q1, ← q2] at this
    exact Int.lt_of_mul_lt_mul_left this (Int.le_of_lt hD)
theorem max_sc {p9 : Program} {lo9 : List Str} (w : World) (mean : ExcName → Option Value) (mg mb : Str → Option Value) (cn : Str) (cs : Scope) (a : Addr) (ccd : Value) (cl : List (Str × Addr)) (outer : List Env) (A₀ : Around) (base h₀ : Heap) (L : Addr) (m : Str → Option Value) (news : List (Addr × Obj)) (s : Shared)
   (Q E : Value → Shared → Prop) (la : Addr) (oa : Obj) (ms : Array Value) (n : Nat) (D : Int) (z : Nat → Int)
   (B : Below A₀ base outer h₀) (F : Fr h₀ L s.heap m) (X : (hd.heap_39 w.params).In h₀) (N : News h₀ L s.heap news)
   (T : Top p9 lo9 mean mg mb h₀)
   (hk : cs.kind = .function) (hla : (la, oa) ∈ news) (hoa : LObj oa ms) (hS : ScoresAt w news ms n D z) (hn : 0 < n) (hD : 0 < D) (hret : ∀ b vb h' tk', b < n → ms[b]? = some vb → (∀ t, t < n → z t ≤ z b) → (∀ t, t < b → z t < z b) → Fr h₀ L h' m → News h₀ L h' news → Q vb { s with heap := h', toks := tk' }) :
   wpAny (model PySem.Challenge.rw_bb0001_01.row.prog w) { handled := none, depth := 440, frames := some (envX cn cs L a ccd cl :: outer), guards := none, units := 60 } (call (.builtin "max") [.ref la]) Q E s := by
  refine maxo (z := z) rfl hoa hla (by rw [hS.1]; exact hn) (fun i j vi vj s' led' Q' E' hi hj F' N' hsub hq => ?_) F N fun b vb h' tk' q1 q2 q3 q4 F' N' => hret b vb h' tk' (by rw [← hS.1]; exact q1) q2 (fun t ht => q3 t (by rw [hS.1]; exact ht)) q4 F' N'
  have li : i < n := by rw [← hS.1]; exact (Array.getElem?_eq_some_iff.mp hi).1
  have lj : j < n := by rw [← hS.1]; exact (Array.getElem?_eq_some_iff.mp hj).1
  obtain ⟨v1, n1, d1, u1, p1, x1, x2, x3, x4, x5⟩ := hS.2 i li
  obtain ⟨v2, n2, d2, u2, p2, y1, y2, y3, y4, y5⟩ := hS.2 j lj
  obtain rfl : vi = v1 := Option.some.inj (hi.symm.trans u1)
  obtain rfl : vj = v2 := Option.some.inj (hj.symm.trans u2)
  refine parts_gt_u (Q := Q') (E := E') rfl (Nat.le_of_ble_eq_true rfl) rfl (Nat.le_of_ble_eq_true rfl) vi vj n1 d1 n2 d2 B F' X N' T hk (p1.mono hsub) (p2.mono hsub) x1 x2 x3 x4 y1 y2 y3 y4 fun h' tk' F2 N2 => ?_
  have e : decide (n2 * d1 < n1 * d2) = decide (z j < z i) := by rw [decide_eq_decide]; exact frac_lt hD x1 y1 x5 y5
  rw [e]
  exact hq h' tk' F2 N2
theorem max_sc_u {A : Around} {p9 : Program} {lo9 : List Str} {w : World} {mean : ExcName → Option Value} {mg mb : Str → Option Value} {cn : Str} {cs : Scope} {a : Addr} {ccd : Value} {cl : List (Str × Addr)} {outer : List Env} {A₀ : Around} {base h₀ : Heap} {L : Addr} {m : Str → Option Value} {news : List (Addr × Obj)} {s : Shared}
   {Q E : Value → Shared → Prop}
   (hh : A.handled = none) (hdp : A.depth ≤ 440) (hfr : A.frames = some (envX cn cs L a ccd cl :: outer)) (hun : A.units ≤ 60) (la : Addr) (oa : Obj) (ms : Array Value) (n : Nat) (D : Int) (z : Nat → Int)
   (B : Below A₀ base outer h₀) (F : Fr h₀ L s.heap m) (X : (hd.heap_39 w.params).In h₀) (N : News h₀ L s.heap news)
   (T : Top p9 lo9 mean mg mb h₀)
   (hk : cs.kind = .function) (hla : (la, oa) ∈ news) (hoa : LObj oa ms) (hS : ScoresAt w news ms n D z) (hn : 0 < n) (hD : 0 < D) (hret : ∀ b vb h' tk', b < n → ms[b]? = some vb → (∀ t, t < n → z t ≤ z b) → (∀ t, t < b → z t < z b) → Fr h₀ L h' m → News h₀ L h' news → Q vb { s with heap := h', toks := tk' }) :
   wpAny (model PySem.Challenge.rw_bb0001_01.row.prog w) A (call (.builtin "max") [.ref la]) Q E s :=
  wp_weaken hh hdp (.inr hfr) (.inl rfl) hun (max_sc w mean mg mb cn cs a ccd cl outer A₀ base h₀ L m news s Q E la oa ms n D z B F X N T hk hla hoa hS hn hD hret)
theorem eq_sc {p9 : Program} {lo9 : List Str} (w : World) (mean : ExcName → Option Value) (mg mb : Str → Option Value) (cn : Str) (cs : Scope) (a : Addr) (ccd : Value) (cl : List (Str × Addr)) (outer : List Env) (A₀ : Around) (base h₀ : Heap) (L : Addr) (m : Str → Option Value) (news : List (Addr × Obj)) (s : Shared)
   (Q E : Value → Shared → Prop) (ms : Array Value) (n : Nat) (D : Int) (z : Nat → Int) (c b : Nat) (vc vb : Value)
   (B : Below A₀ base outer h₀) (F : Fr h₀ L s.heap m) (X : (hd.heap_39 w.params).In h₀) (N : News h₀ L s.heap news)
   (T : Top p9 lo9 mean mg mb h₀)
   (hk : cs.kind = .function) (hS : ScoresAt w news ms n D z) (hD : 0 < D) (hc : c < n) (hb : b < n) (hvc : ms[c]? = some vc) (hvb : ms[b]? = some vb) (hret : ∀ bv h' tk', (bv = true → z c = z b) → (c = b → bv = true) → Fr h₀ L h' m → News h₀ L h' news → Q (.bool bv) { s with heap := h', toks := tk' }) :
   wpAny (model PySem.Challenge.rw_bb0001_01.row.prog w) { handled := none, depth := 440, frames := some (envX cn cs L a ccd cl :: outer), guards := none, units := 60 } (compareOp .Eq vc vb) Q E s := by
  obtain ⟨v1, n1, d1, u1, p1, x1, x2, x3, x4, x5⟩ := hS.2 c hc
  obtain rfl : vc = v1 := Option.some.inj (hvc.symm.trans u1)
  by_cases hcb : c = b
  · subst hcb
    obtain rfl : vc = vb := Option.some.inj (hvc.symm.trans hvb)
    refine parts_eq_u rfl (Nat.le_of_ble_eq_true rfl) rfl (Nat.le_of_ble_eq_true rfl) vc vc n1 d1 n1 d1 B F X N T hk p1 p1 x1 x2 x3 x4 x1 x2 x3 x4 fun bv h' tk' e F' N' => hret bv h' tk' (fun _ => rfl) (fun _ => e.mpr ⟨rfl, rfl⟩) F' N'
  · obtain ⟨v2, n2, d2, u2, p2, y1, y2, y3, y4, y5⟩ := hS.2 b hb
    obtain rfl : vb = v2 := Option.some.inj (hvb.symm.trans u2)
    refine parts_eq_u rfl (Nat.le_of_ble_eq_true rfl) rfl (Nat.le_of_ble_eq_true rfl) vc vb n1 d1 n2 d2 B F X N T hk p1 p2 x1 x2 x3 x4 y1 y2 y3 y4 fun bv h' tk' e F' N' => hret bv h' tk' (fun hb' => ?_) (fun h => absurd h hcb) F' N'
    obtain ⟨rfl, rfl⟩ := e.mp hb'
    have : z c * d1 = z b * d1 := x5.symm.trans y5
    exact Int.eq_of_mul_eq_mul_right (by omega) this
theorem eq_sc_u {A : Around} {p9 : Program} {lo9 : List Str} {w : World} {mean : ExcName → Option Value} {mg mb : Str → Option Value} {cn : Str} {cs : Scope} {a : Addr} {ccd : Value} {cl : List (Str × Addr)} {outer : List Env} {A₀ : Around} {base h₀ : Heap} {L : Addr} {m : Str → Option Value} {news : List (Addr × Obj)} {s : Shared}
   {Q E : Value → Shared → Prop}
   (hh : A.handled = none) (hdp : A.depth ≤ 440) (hfr : A.frames = some (envX cn cs L a ccd cl :: outer)) (hun : A.units ≤ 60) (ms : Array Value) (n : Nat) (D : Int) (z : Nat → Int) (c b : Nat) (vc vb : Value)
   (B : Below A₀ base outer h₀) (F : Fr h₀ L s.heap m) (X : (hd.heap_39 w.params).In h₀) (N : News h₀ L s.heap news)
   (T : Top p9 lo9 mean mg mb h₀)
   (hk : cs.kind = .function) (hS : ScoresAt w news ms n D z) (hD : 0 < D) (hc : c < n) (hb : b < n) (hvc : ms[c]? = some vc) (hvb : ms[b]? = some vb) (hret : ∀ bv h' tk', (bv = true → z c = z b) → (c = b → bv = true) → Fr h₀ L h' m → News h₀ L h' news → Q (.bool bv) { s with heap := h', toks := tk' }) :
   wpAny (model PySem.Challenge.rw_bb0001_01.row.prog w) A (compareOp .Eq vc vb) Q E s :=
  wp_weaken hh hdp (.inr hfr) (.inl rfl) hun (eq_sc w mean mg mb cn cs a ccd cl outer A₀ base h₀ L m news s Q E ms n D z c b vc vb B F X N T hk hS hD hc hb hvc hvb hret)
end Mine
end

/- Sel -/
section
open PySem PySem.W PyProof.Rows PySem.Calls PySem.Spec
set_option linter.unusedVariables false
set_option maxRecDepth 100000
namespace Mine
section
variable {prog : Program} {w : World} {A : Around} {E : Value → Shared → Prop} {s : Shared} {h₀ : Heap} {L : Addr} {m : Str → Option Value} {led : List (Addr × Obj)}
theorem append_led {l : Addr} {its : Array Value} {n : Nat} {x : Value} {Q : Value → Shared → Prop} (F : Fr h₀ L s.heap m) (N : News h₀ L s.heap led) (hl : (l, ({ cls := .type "list", data := .seq its n } : Obj)) ∈ led) (hz : its.size ≤ 9)
    (h : ∀ h', Fr h₀ L h' m → News h₀ L h' (put l { cls := .type "list", data := .seq (its.push x) (n + 1) } led) → Q .none { s with heap := h' }) :
    wpAny (model prog w) A (call (.builtin "list.append") [.ref l, x]) Q E s :=
  append_at (N _ hl).1 (fun h' hs ho => h h' (F.change hs (N _ hl).2.1 (N _ hl).2.2) (news_put N hl (fun b ob hb e => (hs.2 b hb).trans e) ho)) (Nat.le_trans hz (Nat.le_of_ble_eq_true rfl))
theorem gm_append {l : Addr} {its : Array Value} {n : Nat} {pl : Sem Bool} {Q : Value × List Value → Shared → Prop} (N : News h₀ L s.heap led) (hl : (l, ({ cls := .type "list", data := .seq its n } : Obj)) ∈ led) (h : Q (.builtin "list.append", [.ref l]) s) :
    wpAny (model prog w) A (getMethod (.ref l) (Str.ofString "append") pl) Q E s :=
  listMethod_K N hl PySem.F.slot_list_append PySem.F.type_list_append h
end
section
variable {prog : Program} {w : World} {A : Around} {E : Value → Shared → Prop} {s : Shared} {h₀ : Heap} {L : Addr} {m : Str → Option Value} {env : Env}
theorem comp_sel {ct : Expr} {x : Str} {px : Pos} {scope : Scope} {cl : List (Str × Addr)} {Fin : List Value → List (Addr × Obj) → Prop} {news : List (Addr × Obj)} {n b : Nat} (good : Nat → Prop) (hb : b < n) (hfirst : ∀ k, good k → b ≤ k)
    (hx : scope.names.lookup x = some .local) (hk : scope.kind = .function) (hdb : (x == ("__debug__" : Str)) = false)
    (turn : ∀ k t I oI C oC D m₂ ys h tk (E' : Value → Shared → Prop), k < n → LCg.NsObj oC m₂ → m₂ x = some (.int (k : Int) t) → Fr h₀ L h m → News h₀ L h ((I, oI) :: (C, oC) :: (D, LCg.lst ys) :: news) →
      wpAny (model prog w) A (isTrue ct (compEnvC scope cl C env) (eval ct (compEnvC scope cl C env))) (fun ok s' => (ok = true → good k) ∧ (k = b → ok = true) ∧ ∃ h' tk', s' = { s with heap := h', toks := tk' } ∧ Fr h₀ L h' m ∧ News h₀ L h' ((I, oI) :: (C, oC) :: (D, LCg.lst ys) :: news)) E' { s with heap := h, toks := tk })
    (fin : ∀ ys t, (∀ v ∈ ys, ∃ (c : Nat) (t : Tok), v = .int (c : Int) t ∧ c < n ∧ good c) → good b → Fin (.int (b : Int) t :: ys) news) :
    LCt.CompRestT prog w A h₀ L m env ct (.Name x px) x scope cl s (fun _ => True) (fun i v => ∃ t, v = .int (0 + (i : Int)) t) Fin n 0 [] news := by
  have key : ∀ (j i : Nat) (ys : List Value), i + j = n → (∀ v ∈ ys, ∃ (c : Nat) (t : Tok), v = .int (c : Int) t ∧ c < n ∧ good c) → (b < i → ∃ t r, ys = .int (b : Int) t :: r) → (i ≤ b → ys = []) →
      LCt.CompRestT prog w A h₀ L m env ct (.Name x px) x scope cl s (fun _ => True) (fun i v => ∃ t, v = .int (0 + (i : Int)) t) Fin j i ys news := by
    intro j
    induction j with
    | zero =>
      intro i ys hi hy hne _
      obtain ⟨t, r, rfl⟩ := hne (by omega)
      obtain ⟨c, t', e, _, hg⟩ := hy _ (.head _)
      have ec : c = b := by cases e; omega
      exact LCt.CompRestT.zero (fin r t (fun v hv => hy v (.tail _ hv)) (ec ▸ hg))
    | succ j ih =>
      intro i ys hi hy hne hem
      refine LCt.CompRestT.succ ?_
      intro v I oI C oC D m₂ h tk E' hv hC hx' F N off ne
      obtain ⟨t, rfl⟩ := hv
      rw [Int.zero_add] at hx'
      refine wpAny_mono (turn i t I oI C oC D m₂ ys h tk E' (by omega) hC hx' F N) (fun ok s₂ hq => ?_) fun _ _ e => e
      obtain ⟨hg, hbb, h', tk', rfl, F', N'⟩ := hq
      cases ok with
      | true =>
        simp only [if_true]
        have hns := hC.ns (N' _ (.tail _ (.head _))).1
        refine wpAny_Name (wpAny_loadName_local (by show (relabel scope env).kind = _; simp [relabel, hk]) (lookup_relabel_local hx) hns hx' ?_) hdb
        refine ⟨h', tk', news, rfl, F', N', off, trivial, ih (i + 1) _ (by omega) (fun v hv => ?_) (fun hbi => ?_) (fun hib => ?_)⟩
        rotate_left
        · have hbk := hfirst i (hg rfl)
          rcases Nat.lt_or_eq_of_le hbk with hlt | rfl
          · obtain ⟨t', r, e⟩ := hne hlt
            exact ⟨t', r ++ [_], by rw [e, List.cons_append]⟩
          · exact ⟨t, [], by rw [hem (Nat.le_refl _), List.nil_append]⟩
        · have hbk := hfirst i (hg rfl)
          omega
        rcases List.mem_append.mp hv with hv | hv
        · exact hy v hv
        · rw [List.mem_singleton.mp hv]; exact ⟨i, t, rfl, by omega, hg rfl⟩
      | false =>
        simp only [Bool.false_eq_true, if_false]
        refine ⟨h', tk', news, rfl, F', N', off, trivial, ih (i + 1) _ (by omega) hy (fun hbi => hne ?_) (fun hib => hem (by omega))⟩
        have : ¬ i = b := fun e => by have := hbb e; cases this
        omega
  exact key n 0 [] (by omega) (fun v hv => nomatch hv) (fun h => absurd h (Nat.not_lt_zero _)) (fun _ => rfl)
end
end Mine
end

/- Res -/
section
open PySem PySem.W PyProof.Rows PySem.Calls PySem.Spec
open PySem.W.X (tableObj)
set_option linter.unusedVariables false
namespace Mine
/-- candidates added one by one, each of greatest gain -/
inductive Run (G : Nat → Int) (bs : List (List Nat × Int)) (n : Nat) (D : Int) : List Nat → Prop
  | nil : Run G bs n D []
  | snoc (com : List Nat) (c : Nat) : Run G bs n D com → c < n → c ∉ com → (∀ t, t < n → t ∉ com → sumG G bs com t ≤ sumG G bs com c) → (∀ t, t < c → t ∉ com → sumG G bs com t < sumG G bs com c) → Run G bs n D (com ++ [c])
section
variable {prog : Program} {w : World} {A : Around} {E : Value → Shared → Prop} {s : Shared} {h₀ : Heap} {L : Addr} {m : Str → Option Value} {led : List (Addr × Obj)} {env : Env}
theorem store_cell {x : Str} {c : Addr} {oc : Obj} {v0 : Option Value} {v : Value} {Q : Unit → Shared → Prop} (hk : env.scope.kind = .function) (hl : env.kindOf x = some .cell) (hc : env.cells.lookup x = some c)
    (F : Fr h₀ L s.heap m) (N : News h₀ L s.heap led) (hm : (c, oc) ∈ led) (ho : oc.data = .cell v0)
    (h : ∀ h' oc', oc'.data = .cell (some v) → Fr h₀ L h' m → News h₀ L h' (put c oc' led) → Q () { s with heap := h' }) : wpAny (model prog w) A (storeName env x v) Q E s := by
  refine wpAny_storeName_cell hk hl hc ⟨_, (N _ hm).1, ho⟩ fun h' hI hs => ?_
  obtain ⟨o', e1, e2⟩ := hI
  exact h h' o' e2 (F.change hs (N _ hm).2.1 (N _ hm).2.2) (news_put N hm (fun b ob hb e => (hs.2 b hb).trans e) e1)
set_option maxRecDepth 100000 in
theorem small_k : ∀ k : Nat, k ≤ 4 → Builtin.Range.small 0 (k : Int) 1 = true := by
  intro k hk
  rcases k with _ | _ | _ | _ | _ | k
  all_goals first | decide +kernel | omega
set_option maxRecDepth 100000 in
theorem size_k : ∀ k : Nat, k ≤ 4 → Builtin.Range.rangeSize 0 (k : Int) 1 = (k : Int) := by
  intro k hk
  rcases k with _ | _ | _ | _ | _ | k
  all_goals first | decide +kernel | omega
theorem four_adr {l3 l2 l1 di : Addr} {o1 o2 o3 o4 : Obj} {led : List (Addr × Obj)} {h : Heap} (_ : News h₀ L h ((l3, o3) :: (l2, o2) :: (l1, o1) :: (di, o4) :: led)) : ∃ a b c d e, a = l3 ∧ b = l2 ∧ c = l1 ∧ d = di ∧ e = o4 := ⟨_, _, _, _, _, rfl, rfl, rfl, rfl, rfl⟩
theorem two_adr {lc cc : Addr} {o1 o2 : Obj} {led : List (Addr × Obj)} {h : Heap} (_ : News h₀ L h ((lc, o1) :: (cc, o2) :: led)) : ∃ a e, a = lc ∧ e = o2 := ⟨_, _, rfl, rfl⟩
end
theorem Run.lt {G : Nat → Int} {bs : List (List Nat × Int)} {n : Nat} {D : Int} {com : List Nat} (h : Run G bs n D com) : ∀ k ∈ com, k < n := by
  induction h with
  | nil => intro k hk; cases hk
  | snoc com c _ hc _ _ _ ih =>
    intro k hk
    rcases List.mem_append.mp hk with hk | hk
    · exact ih k hk
    · rw [List.mem_singleton.mp hk]; exact hc
theorem Run.nodup {G : Nat → Int} {bs : List (List Nat × Int)} {n : Nat} {D : Int} {com : List Nat} (h : Run G bs n D com) : com.Nodup := by
  induction h with
  | nil => exact List.nodup_nil
  | snoc com c _ _ hn _ _ ih =>
    refine List.nodup_append.mpr ⟨ih, by simp, fun a ha b hb e => ?_⟩
    rw [List.mem_singleton.mp hb] at e
    exact hn (e ▸ ha)
theorem first_max (z : Nat → Int) : ∀ n, 0 < n → ∃ b, b < n ∧ (∀ t, t < n → z t ≤ z b) ∧ ∀ t, t < b → z t < z b
  | 0, h => absurd h (Nat.lt_irrefl _)
  | 1, _ => ⟨0, Nat.one_pos, fun t ht => by rw [Nat.lt_one_iff.mp ht]; exact Int.le_refl _, fun t ht => absurd ht (Nat.not_lt_zero _)⟩
  | n + 2, _ => by
    obtain ⟨b, h1, h2, h3⟩ := first_max z (n + 1) (Nat.succ_pos _)
    by_cases hz : z b < z (n + 1)
    · exact ⟨n + 1, Nat.lt_succ_self _, fun t ht => by
        rcases Nat.lt_succ_iff_lt_or_eq.mp ht with h | h
        · exact Int.le_of_lt (Int.lt_of_le_of_lt (h2 t h) hz)
        · rw [h]; exact Int.le_refl _, fun t ht => Int.lt_of_le_of_lt (h2 t ht) hz⟩
    · exact ⟨b, Nat.lt_succ_of_lt h1, fun t ht => by
        rcases Nat.lt_succ_iff_lt_or_eq.mp ht with h | h
        · exact h2 t h
        · rw [h]; omega, h3⟩
theorem max_uniq {z : Nat → Int} {n b b' : Nat} (h1 : b < n) (h2 : ∀ t, t < n → z t ≤ z b) (h3 : ∀ t, t < b → z t < z b) (k1 : b' < n) (k2 : ∀ t, t < n → z t ≤ z b') (k3 : ∀ t, t < b' → z t < z b') : b' = b := by
  rcases Nat.lt_trichotomy b' b with h | h | h
  · have := h3 b' h; have := k2 b h1; omega
  · exact h
  · have := k3 b h; have := h2 b' k1; omega
theorem GOf_nonneg : ∀ r j : Nat, 0 ≤ GOf r j
  | 0, 0 | 0, 1 | 0, 2 | 0, 3 | 1, 0 | 1, 1 | 1, 2 | 1, 3 | 2, 0 | 2, 1 | 2, 2 | 2, 3 | 3, 0 | 3, 1 | 3, 2 | 3, 3 => by decide
  | _ + 4, 0 => (by decide : (0 : Int) ≤ 0)
  | _ + 4, 1 => (by decide : (0 : Int) ≤ 3 * 3 * 3)
  | _ + 4, 2 => (by decide : (0 : Int) ≤ 3 * 3)
  | _ + 4, 3 => (by decide : (0 : Int) ≤ 3)
  | 0, _ + 4 | 1, _ + 4 | 2, _ + 4 | 3, _ + 4 | _ + 4, _ + 4 => Int.le_refl 0
theorem sum_nonneg : ∀ l : List Int, (∀ x ∈ l, 0 ≤ x) → 0 ≤ l.sum
  | [], _ => by simp
  | x :: l, h => by
    have h1 := h x (.head _)
    have h2 := sum_nonneg l fun y hy => h y (.tail _ hy)
    rw [List.sum_cons]; omega
theorem sumG_nonneg {G : Nat → Int} (hG : ∀ j, 0 ≤ G j) {bs : List (List Nat × Int)} (hb : ∀ b ∈ bs, 0 < b.2) (com : List Nat) (c : Nat) : 0 ≤ sumG G bs com c := by
  unfold sumG
  refine sum_nonneg _ fun x hx => ?_
  obtain ⟨b, hb', rfl⟩ := List.mem_map.mp hx
  show 0 ≤ ite _ _ _
  split
  · exact Int.mul_nonneg (Int.le_of_lt (hb b hb')) (hG _)
  · exact Int.le_refl _
theorem left_over : ∀ (com : List Nat) (n : Nat), 3 ≤ n → com.length ≤ 2 → ∃ t, t < n ∧ t ∉ com
  | [], n, h, _ => ⟨0, by omega, by simp⟩
  | [a], n, h, _ => by
    by_cases e : a = 0
    · exact ⟨1, by omega, by simp <;> omega⟩
    · exact ⟨0, by omega, by simp <;> omega⟩
  | [a, b], n, h, _ => by
    by_cases e : a = 0
    · by_cases e' : b = 1
      · exact ⟨2, by omega, by simp <;> omega⟩
      · exact ⟨1, by omega, by simp <;> omega⟩
    · by_cases e' : b = 0
      · by_cases e'' : a = 1
        · exact ⟨2, by omega, by simp <;> omega⟩
        · exact ⟨1, by omega, by simp <;> omega⟩
      · exact ⟨0, by omega, by simp <;> omega⟩
  | _ :: _ :: _ :: _, n, _, h => by simp at h <;> omega
theorem pick_ok {G : Nat → Int} (hG : ∀ j, 0 ≤ G j) {bs : List (List Nat × Int)} (hb : ∀ b ∈ bs, 0 < b.2) {com : List Nat} {n c : Nat} {D : Int} {z : Nat → Int} (hz : z = fun c => if c ∈ com then -D else sumG G bs com c) (hD : 0 < D) (hn : 3 ≤ n) (hc2 : com.length ≤ 2) (hgood : ∀ t, t < n → z t ≤ z c) (hfst : ∀ t, t < c → z t < z c) :
    c ∉ com ∧ (∀ t, t < n → t ∉ com → sumG G bs com t ≤ sumG G bs com c) ∧ ∀ t, t < c → t ∉ com → sumG G bs com t < sumG G bs com c := by
  subst hz
  have hc : c ∉ com := fun hc => by
    obtain ⟨t, ht, hnt⟩ := left_over com n hn hc2
    have h1 := hgood t ht
    simp only [hnt, hc, if_true, if_false] at h1
    have h2 := sumG_nonneg hG hb com t
    omega
  refine ⟨hc, fun t ht hnt => ?_, fun t ht hnt => ?_⟩
  · have h1 := hgood t ht
    simpa only [hnt, hc, if_false] using h1
  · have h1 := hfst t ht
    simpa only [hnt, hc, if_false] using h1
theorem DOf_pos : ∀ r : Nat, 0 < DOf r
  | 0 => (by decide : (0 : Int) < 12)
  | 1 => (by decide : (0 : Int) < 105)
  | 2 => (by decide : (0 : Int) < 1)
  | 3 => (by decide : (0 : Int) < 8)
  | _ + 4 => (by decide : (0 : Int) < 27)
section
variable {prog : Program} {w : World} {A : Around} {E : Value → Shared → Prop} {s : Shared} {h₀ : Heap} {L : Addr} {m : Str → Option Value} {led : List (Addr × Obj)} {env : Env}
theorem cell_led {x : Str} {px : Pos} {c : Addr} {oc : Obj} {v : Value} {Q : Value → Shared → Prop} (N : News h₀ L s.heap led) (hm : (c, oc) ∈ led) (ho : oc.data = .cell (some v)) (h : Q v s)
    (hk : env.scope.kind = .function := by exact rfl) (hl : env.kindOf x = some .cell := by exact rfl) (hc : env.cells.lookup x = some c := by exact rfl) (hd : (x == ("__debug__" : Str)) = false := by exact rfl) : wpAny (model prog w) A (eval (.Name x px) env) Q E s :=
  wpAny_Name (wpAny_loadName_cell hk hl hc ⟨_, (N _ hm).1, ho⟩ h) hd
theorem len_o {l : Addr} {o : Obj} {vs : Array Value} {Q : Value → Shared → Prop} (N : News h₀ L s.heap led) (hl : (l, o) ∈ led) (ho : LObj o vs) (hz : vs.size ≤ 9)
    (hq : ∀ t tk', Q (.int (vs.size : Int) t) { s with toks := tk' }) :
    wpAny (model prog w) A (call (.builtin "len") [.ref l]) Q E s := call_len_list (ho.isList (N _ hl).1) (by omega) (hq _ _)
end
local macro_rules | `(tactic| k_mem) => `(tactic| first | assumption | exact List.Mem.head _ | (refine List.Mem.tail _ ?_; k_mem))
local macro_rules | `(tactic| wtm_at "own exec For Name Call cons nil") => `(tactic| refine Halt9.intro ?_)
local macro_rules | `(tactic| wtm_at "own call ref") => `(tactic| refine Halt9.intro ?_)
local macro_rules | `(tactic| wtm_at "own pyIter ref") => `(tactic| refine Halt9.intro ?_)
set_option hygiene false in
local macro_rules | `(tactic| wtm_at "own eval Name") => `(tactic| (k_here; name_kind "local"; k_dflt (refine q_locF (by assumption) (by first | with_reducible (first | exact hm1 | exact hm2 | exact hm3 | exact hm4 | exact hm5) | (first | exact hm1 | exact hm2 | exact hm3 | exact hm4 | exact hm5)) (by kernel_rfl!) (by kernel_rfl!) (by exact rfl) ?_)))
set_option hygiene false in
local macro_rules | `(tactic| wtm_at "own eval Name") => `(tactic| (k_here; name_kind "cell"; k_dflt (refine cell_led (c := L' + 1) (by assumption) (by k_mem) hocd1 ?_)))
set_option hygiene false in
local macro_rules | `(tactic| wtm_at "own call builtin:len") => `(tactic| (k_here; refine len_o (by assumption) (by k_mem) hom (by omega) ?_; intro t8 tk8; (try dsimp only)))
local macro_rules | `(tactic| wtm_at "own CompSrcT") => `(tactic| refine Halt9.intro ?_)
local macro_rules | `(tactic| wtm_at "own storeName") => `(tactic| ((with_reducible show wpAny _ _ (storeName _ (Str.ofString "additional_score_cand") _) _ _ _); refine Halt9.intro ?_))
local macro_rules | `(tactic| wtm_at "own call builtin:max") => `(tactic| refine Halt9.intro ?_)
local macro_rules | `(tactic| wtm_at "own subscriptTail") => `(tactic| refine Halt9.intro ?_)
local macro_rules | `(tactic| wtm_at "own subscriptTail Name Constant ref int") => `(tactic| refine Halt9.intro ?_)
local macro_rules | `(tactic| wtm_at "own getMethod ref") => `(tactic| refine Halt9.intro ?_)
local macro_rules | `(tactic| wtm_at "own call builtin:list.append") => `(tactic| refine Halt9.intro ?_)
set_option maxRecDepth 100000 in
set_option maxHeartbeats 2000000 in
theorem res453 {p9 : Program} {lo9 : List Str} (w : World) (mean : ExcName → Option Value) (mg mb : Str → Option Value) (cn : Str) (cs : Scope) (a : Addr) (ccd : Value) (cl : List (Str × Addr)) (outer : List Env) (A₀ : Around) (base h₀ : Heap) (L : Addr) (m : Str → Option Value) (news : List (Addr × Obj)) (s : Shared)
   (Q E : Value → Shared → Prop) (r : Nat) (hr : r < 5) (t : Tok) (p lv : Addr) (n : Nat) (vv : Array Value) (nlv : Nat) (bs : List (List Nat × Int)) (k : Nat) (tk : Tok) (NG : Nat)
   (B : Below A₀ base outer h₀) (F : Fr h₀ L s.heap m) (X : (hd.heap_39 w.params).In h₀) (N : News h₀ L s.heap news)
   (T : Top p9 lo9 mean mg mb h₀)
   (hk : cs.kind = .function) (hn : n = 3 ∨ n = 4) (hp : ProfAt w news p n lv) (hlv : (lv, ({ cls := .type "list", data := .seq vv nlv } : Obj)) ∈ news) (hvot : VotersAt w news vv bs) (hbs : bs.length ≤ 4) (hb : ∀ b ∈ bs, b.1 ∈ subs ∧ (∀ k ∈ b.1, k < n) ∧ 0 < b.2 ∧ b.2 ≤ 1001)
   (hk1 : 1 ≤ k) (hk3 : k ≤ 3) (hkn : k ≤ n) (hT52 : Tab 52 news) (hT80 : Tab 80 news) (hT88 : Tab 88 news) (hG : GB NG s.gens)
   (hret : ∀ tp e lo e2 i2 x dx com tks ep h' g' d' t' led', Run (GOf r) bs n (DOf r) com → com.length = k → Fr h₀ L h' m → News h₀ L h' led' → (∀ p ∈ news, p.1 ≠ 52 → p.1 ≠ 80 → p.1 ≠ 88 → p ∈ led') → Tab 52 led' → Tab 80 led' → Tab 88 led' → GB NG g' → (tp, ({ cls := .type "tuple", data := .seq #[.ref lo, i2] e } : Obj)) ∈ led' → (lo, seqObj "list" #[.ref x] e2) ∈ led' → (x, csObj dx (esOf (insAll [] com) tks) ep (tabS (insAll [] com) (!bt w))) ∈ led' → (dx, dictOf [] 0) ∈ led' → (∀ p ∈ news, p.1 < dx) → dx < x → x < lo → lo < tp → Q (.ref tp) ⟨h', g', d', t', s.os⟩) :
   wpAny (model PySem.Challenge.rw_bb0001_01.row.prog w) { handled := none, depth := 390, frames := some (envX cn cs L a ccd cl :: outer), guards := none, units := 25 } (call (.ref 453) [.str (nmOf r) t, .ref p, .int (k : Int) tk]) Q E s := by
  revert X
  k_fill
  intro X
  refine wpAny_call ?_
  k_dflt (refine' code_defC ?k1 ?k2 ?k3 ?k4 ?k5 ?kA ?kF ?kK ?k6 ?k7 ?k8 ?k9 ?kB ?kD ?_ ?c2 ?c3 ?c4; (case kA => exact rfl); (case kF => exact rfl); (case kK => assumption); (case k1 => k_asm); (case k2 => k_asm); (case k3 => k_asm); (case k4 => k_asm); (case k5 => k_asm); (case k6 => k_is); (case k7 => k_is); (case k8 => k_room); (case k9 => first | exact BindsTo.of_eq rfl | exact binds_K (by k_in) rfl (by k_is) rfl rfl rfl); (case kB => exact rfl); (case kD => decide +kernel); (case c2 => exact rfl); (case c3 => exact rfl); (case c4 => exact rfl); k_whole; intro g' L' h' tk' cells' FG' F' N' Y' B' X' T' l1; (try k_lt l1); k_cells Y'; (try simp only [List.cons_append, List.nil_append] at N'); (try dsimp only); (try k_lift B'); (try k_fold))
  k_steps
  refine Halt9.out ?_
  rename Fr _ _ _ _ => FF
  rename News _ _ _ _ => NN
  obtain ⟨lc, oc0, e1, e2⟩ := two_adr NN
  subst e1 e2
  have hcell0 : ∃ v0, oc0.data = .cell v0 := ⟨_, by assumption⟩
  have hlcn : L' + 1 < lc ∧ AllLt lc news := by assumption
  have hnL : ∀ q ∈ news, q.1 < L' := by assumption
  refine gm_any_u rfl (Nat.le_of_ble_eq_true rfl) rfl (Nat.le_of_ble_eq_true rfl) r hr t _ (by assumption) FF (by assumption) NN (by assumption) rfl (hT52.mono fun p hp _ => .tail _ (.tail _ hp)) ?_
  intro f need hf gf df tkf ledf hgf Ff Nf sf nf of ef
  subst ef
  dsimp only
  k_steps
  refine Halt9.out ?_
  rename Fr _ _ _ _ => FF
  rename News _ _ _ _ => NN
  obtain ⟨l3, l2, l1, di, od, e1, e2, e3, e4, e5⟩ := four_adr NN
  subst e1 e2 e3 e4 e5
  have hdi : ∀ q ∈ ledf, q.1 < di := by assumption
  rename Obj.IsDictOf _ od _ => hod
  have h12 : di < l1 ∧ AllLt l1 ledf := by assumption
  have h13 : l1 < l2 ∧ di < l2 ∧ AllLt l2 ledf := by assumption
  have h14 : l2 < l3 ∧ l1 < l3 ∧ di < l3 ∧ AllLt l3 ledf := by assumption
  refine For_c ?_
  k_steps
  refine Halt9.out ?_
  rename Fr _ _ _ _ => FF
  rename News _ _ _ _ => NN
  have hlcf : (lc, ({ cls := .type "list", data := .seq #[] 0 } : Obj)) ∈ ledf := sf _ (.head _)
  have hccf : (L' + 1, oc0) ∈ ledf := sf _ (.tail _ (.head _))
  refine iter_c_range (fun i m₁ led₁ g => g = s.gens ∧ m₁ (Str.ofString "committee") = some (.ref lc) ∧ m₁ (Str.ofString "marginal_scorefct") = some (.ref f) ∧ m₁ (Str.ofString "detailed_info") = some (.ref di) ∧ m₁ (Str.ofString "profile") = some (.ref p) ∧ (∀ q ∈ news, q ∈ led₁) ∧ (∀ q ∈ need, q ∈ led₁) ∧ (di, od) ∈ led₁ ∧ (∃ oc v0, (L' + 1, oc) ∈ led₁ ∧ oc.data = .cell v0) ∧
      (∃ com cms ncm, com.length = i ∧ (cms : Array Value).size = i ∧ (lc, ({ cls := .type "list", data := .seq cms ncm } : Obj)) ∈ led₁ ∧ (∀ i v, cms[i]? = some v → ∃ t, v = Value.int ((com.getD i 0 : Nat) : Int) t) ∧ Run (GOf r) bs n (DOf r) com) ∧
      (∃ v1 n1, (l1, ({ cls := .type "list", data := .seq v1 n1 } : Obj)) ∈ led₁ ∧ (v1 : Array Value).size = i) ∧ (∃ v1 n1, (l2, ({ cls := .type "list", data := .seq v1 n1 } : Obj)) ∈ led₁ ∧ (v1 : Array Value).size = i) ∧ (∃ v1 n1, (l3, ({ cls := .type "list", data := .seq v1 n1 } : Obj)) ∈ led₁ ∧ (v1 : Array Value).size = i))
    rfl (by assumption) (small_k k (by omega)) (size_k k (by omega)) FF NN ?_ ?_ ?_
  · obtain ⟨v0, hv0⟩ := hcell0
    exact ⟨rfl, rfl, rfl, rfl, rfl, fun q hq => .tail _ (.tail _ (.tail _ (.tail _ (sf _ (.tail _ (.tail _ hq)))))), fun q hq => .tail _ (.tail _ (.tail _ (.tail _ (nf _ hq)))), .tail _ (.tail _ (.tail _ (.head _))), ⟨oc0, v0, .tail _ (.tail _ (.tail _ (.tail _ hccf))), hv0⟩,
      ⟨[], #[], 0, rfl, rfl, .tail _ (.tail _ (.tail _ (.tail _ hlcf))), fun i v h => by simp at h, .nil⟩, ⟨#[], 0, .tail _ (.tail _ (.head _)), rfl⟩, ⟨#[], 0, .tail _ (.head _), rfl⟩, ⟨#[], 0, .head _, rfl⟩⟩
  · rintro i tt m₁ led₁ I io h g d t9 hi ⟨rfl, hm1, hm2, hm3, hm4, hsub, hneed, hdi1, ⟨oc, v0, hoc, hocd⟩, ⟨com, cms, ncm, hcl, hcs, hlc, hcv, hrun⟩, ⟨v1, n1, hl1, hz1⟩, ⟨v2, n2, hl2, hz2⟩, ⟨v3, n3, hl3, hz3⟩⟩ hoff ⟨fs, hfs⟩ F2 N2
    refine turn_name F2 N2 rfl rfl fun h3 t3 F3 N3 => ?_
    k_steps
    refine Halt9.out ?_
    rename Fr _ _ _ _ => FF3
    rename News _ _ _ _ => NN3
    have hio := fun {q : Addr × Obj} (hq : q ∈ led₁) => (List.Mem.tail (I, io) hq : q ∈ (I, io) :: led₁)
    refine marg_u rfl (Nat.le_of_ble_eq_true rfl) rfl (Nat.le_of_ble_eq_true rfl) f need (DOf r) (GOf r) p lv lc n vv nlv bs cms ncm com (by assumption) FF3 (by assumption) NN3 (by assumption) rfl hn (hp.mono fun q hq => hio (hsub q hq)) (DOf_pos r) hgf.1 (fun q hq => hio (hneed q hq)) (fun h k hq => hgf.2 _ h X' k hq) (hio (hsub _ hlv)) (hvot.mono fun q hq => hio (hsub q hq)) hbs hb (hio hlc) (by rw [hcl, hcs]) hcv hrun.lt hrun.nodup (by omega) ?_
    intro lm om ms h4 g4 d4 t4 led4 F4 N4 sub4 ne4 hlm hom hms hvals hg4
    subst hg4
    have hS := scores_of hms hvals
    dsimp only
    k_steps
    refine Halt9.out ?_
    refine store_cell (c := L' + 1) (by exact rfl) (by exact rfl) (by exact rfl) F4 N4 (sub4 _ (hio hoc)) hocd fun h5 oc1 hocd1 F5 N5 => ?_
    have up5 : ∀ q ∈ led4, q.1 ≠ L' + 1 → q ∈ put (L' + 1) oc1 led4 := fun q hq hne => mem_put hq hne
    have hoc1 : (L' + 1, oc1) ∈ put (L' + 1) oc1 led4 := mem_put_self
    have hlm5 : (lm, om) ∈ put (L' + 1) oc1 led4 := up5 _ hlm (Ne.symm (ne4 _ (hio hoc)))
    have hS5 : ScoresAt w (put (L' + 1) oc1 led4) ms n (DOf r) _ := hS.soft fun q hq hs => up5 q hq (News.ne_data N4 hq (sub4 _ (hio hoc)) (by rw [hocd]; rcases hs with e | ⟨es, n, e⟩ <;> rw [e] <;> intro z <;> cases z))
    generalize put (L' + 1) oc1 led4 = led5 at *
    k_steps
    refine Halt9.out ?_
    rename Fr _ _ _ _ => FF5
    rename News _ _ _ _ => NN5
    obtain ⟨z, hz⟩ : ∃ z : Nat → Int, z = (fun c => if c ∈ com then -DOf r else sumG (GOf r) bs com c) := ⟨_, rfl⟩
    rw [← hz] at hS5
    obtain ⟨b, hb1, hb2, hb3⟩ := first_max z n (by omega)
    have hn4 : n ≤ 4 := by omega
    refine LCt.CompSrcT.range (n := ms.size) rfl FF5 NN5 (by assumption) (small_k ms.size (by omega)) (size_k ms.size (by omega)) (Nat.le_trans (by rw [hms]; exact hn4) (Nat.le_of_ble_eq_true rfl)) fun g9 => comp_sel (b := b) (fun c => ∀ t, t < n → z t ≤ z c) (by rw [hms]; exact hb1) (fun k hk => Nat.le_of_not_lt fun hlt => by have h1 := hk b hb1; have h2 := hb3 k hlt; omega) (by exact rfl) (by exact rfl) (by exact rfl) ?_ ?_
    · intro kk tt9 I9 oI9 C9 oC9 D9 m9 ys9 h9 tk9 E9 hkk hC9 hx9 F9 N9
      have hkn9 : kk < n := by omega
      obtain ⟨vk, hvk⟩ : ∃ vk, ms[kk]? = some vk := ⟨_, Array.getElem?_eq_getElem hkk⟩
      k_steps
      rename Fr _ _ _ _ => FF9
      rename News _ _ _ _ => NN9
      have hk63 : (kk : Int) < 2 ^ 63 := by omega
      refine Halt9.out ?_
      refine item_list (hom.isList (NN9 _ (.tail _ (.tail _ (.tail _ hlm5)))).1) (Int.natCast_nonneg _) hk63 (by simpa using hvk) ?_
      k_steps
      refine Halt9.out ?_
      rename Fr _ _ _ _ => FF9
      rename News _ _ _ _ => NN9
      have tl3 : ∀ q ∈ led5, q ∈ (I9, oI9) :: (C9, oC9) :: (D9, LCg.lst ys9) :: led5 := fun q hq => .tail _ (.tail _ (.tail _ hq))
      refine max_sc_u rfl (Nat.le_of_ble_eq_true rfl) rfl (Nat.le_of_ble_eq_true rfl) lm om ms n (DOf r) z (by assumption) FF9 (by assumption) NN9 (by assumption) rfl (tl3 _ hlm5) hom (hS5.mono tl3) (by omega) (DOf_pos r) fun b' vb h10 tk10 q1 q2 q3 q4 F10 N10 => ?_
      obtain rfl : b' = b := max_uniq hb1 hb2 hb3 q1 q3 q4
      k_steps
      refine eq_sc_u rfl (Nat.le_of_ble_eq_true rfl) rfl (Nat.le_of_ble_eq_true rfl) ms n (DOf r) z kk b' vk vb (by assumption) F10 (by assumption) N10 (by assumption) rfl (hS5.mono tl3) (DOf_pos r) hkn9 q1 hvk q2 fun bv h11 tk11 y1 y2 F11 N11 => ?_
      exact wpAny_truthy_bool ⟨fun h t ht => by rw [y1 h]; exact q3 t ht, y2, h11, tk11, rfl, F11, N11⟩
    · intro ysr tc9 hys9 hgood D10 h10 tk10 F10 N10 o10
      obtain ⟨c9, e9⟩ : ∃ c9, c9 = b := ⟨_, rfl⟩
      subst e9
      have hc9 := hb1
      have hup5 : ∀ q ∈ led₁, q.1 ≠ L' + 1 → q ∈ led5 := fun q hq hne => up5 q (sub4 q (hio hq)) hne
      have nc : lc ≠ L' + 1 := Nat.ne_of_gt hlcn.1
      have hlcdi : lc < di := hdi _ hlcf
      have hccdi : L' + 1 < di := hdi _ hccf
      have hlc5 := hup5 _ hlc nc
      have hdi5 := hup5 _ hdi1 (Nat.ne_of_gt hccdi)
      have hl15 := hup5 _ hl1 (Nat.ne_of_gt (Nat.lt_trans hccdi h12.1))
      have hl25 := hup5 _ hl2 (Nat.ne_of_gt (Nat.lt_trans hccdi h13.2.1))
      have hl35 := hup5 _ hl3 (Nat.ne_of_gt (Nat.lt_trans hccdi h14.2.2.1))
      have hI5 : (I, io) ∈ led5 := up5 _ (sub4 _ (.head _)) (Ne.symm (hoff _ hoc))
      k_steps
      refine Halt9.out ?_
      refine item_list (k := 0) (x := Value.int (c9 : Int) tc9) (items := (Value.int (c9 : Int) tc9 :: ysr).toArray) ⟨_, (N10 _ (.head _)).1, rfl, _, rfl⟩ (by decide) (by decide) (by rfl) ?_
      k_steps
      refine Halt9.out ?_
      rename Fr _ _ _ _ => FF11
      rename News _ _ _ _ => NN11
      refine gm_append NN11 (.tail _ hlc5) ?_
      k_steps
      refine Halt9.out ?_
      rename Fr _ _ _ _ => FF11
      rename News _ _ _ _ => NN11
      refine append_led FF11 NN11 (.tail _ hlc5) (by omega) fun h12' F12 N12 => ?_
      have v12 : ∀ q ∈ led5, q.1 ≠ lc → q ∈ put lc { cls := .type "list", data := .seq (cms.push (Value.int (c9 : Int) tc9)) (ncm + 1) } ((D10, LCg.lst (Value.int (c9 : Int) tc9 :: ysr)) :: led5) := fun q hq hne => mem_put (.tail _ hq) hne
      have s12 : ∀ q ∈ led5, Soft q → q ∈ put lc { cls := .type "list", data := .seq (cms.push (Value.int (c9 : Int) tc9)) (ncm + 1) } ((D10, LCg.lst (Value.int (c9 : Int) tc9 :: ysr)) :: led5) := fun q hq hs => soft_put NN11 (.tail _ hlc5) LObj.lit q (.tail _ hq) hs
      have hlc12 : (lc, ({ cls := .type "list", data := .seq (cms.push (Value.int (c9 : Int) tc9)) (ncm + 1) } : Obj)) ∈ put lc { cls := .type "list", data := .seq (cms.push (Value.int (c9 : Int) tc9)) (ncm + 1) } ((D10, LCg.lst (Value.int (c9 : Int) tc9 :: ysr)) :: led5) := mem_put_self
      generalize put lc { cls := .type "list", data := .seq (cms.push (Value.int (c9 : Int) tc9)) (ncm + 1) } ((D10, LCg.lst (Value.int (c9 : Int) tc9 :: ysr)) :: led5) = led12 at *
      have nl1 : l1 ≠ lc := Nat.ne_of_gt (Nat.lt_trans hlcdi h12.1)
      have nl2 : l2 ≠ lc := Nat.ne_of_gt (Nat.lt_trans hlcdi h13.2.1)
      have nl3 : l3 ≠ lc := Nat.ne_of_gt (Nat.lt_trans hlcdi h14.2.2.1)
      have ml1 : l1 ≠ L' + 1 := Nat.ne_of_gt (Nat.lt_trans hccdi h12.1)
      have ml2 : l2 ≠ L' + 1 := Nat.ne_of_gt (Nat.lt_trans hccdi h13.2.1)
      have ml3 : l3 ≠ L' + 1 := Nat.ne_of_gt (Nat.lt_trans hccdi h14.2.2.1)
      have hdi12 := v12 _ hdi5 (Nat.ne_of_gt hlcdi)
      have hl112 := v12 _ hl15 nl1
      have hl212 := v12 _ hl25 nl2
      have hl312 := v12 _ hl35 nl3
      have hI12 := v12 _ hI5 (Ne.symm (hoff _ hlc))
      have hlm12 := v12 _ hlm5 (Ne.symm (ne4 _ (hio hlc)))
      have hoc12 := v12 _ hoc1 (Ne.symm nc)
      have hS12 := hS5.soft s12
      k_steps
      refine Halt9.out ?_
      refine kda_item (knd := PySem.strKind _ _) N12 hdi12 hod (strKind_is _ _ _ _) (by rfl) ?_
      k_steps
      refine Halt9.out ?_
      refine gm_append N12 hl112 ?_
      k_steps
      refine Halt9.out ?_
      refine append_led F12 N12 hl112 (by omega) fun h13' F13 N13 => ?_
      have v13 : ∀ q ∈ led12, q.1 ≠ l1 → q ∈ put l1 { cls := .type "list", data := .seq (v1.push (Value.int (c9 : Int) tc9)) (n1 + 1) } led12 := fun q hq hne => mem_put hq hne
      have s13 : ∀ q ∈ led12, Soft q → q ∈ put l1 { cls := .type "list", data := .seq (v1.push (Value.int (c9 : Int) tc9)) (n1 + 1) } led12 := fun q hq hs => soft_put N12 hl112 LObj.lit q hq hs
      have hl113 : (l1, ({ cls := .type "list", data := .seq (v1.push (Value.int (c9 : Int) tc9)) (n1 + 1) } : Obj)) ∈ put l1 { cls := .type "list", data := .seq (v1.push (Value.int (c9 : Int) tc9)) (n1 + 1) } led12 := mem_put_self
      generalize put l1 { cls := .type "list", data := .seq (v1.push (Value.int (c9 : Int) tc9)) (n1 + 1) } led12 = led13 at *
      have hdi13 := v13 _ hdi12 (Nat.ne_of_lt h12.1)
      have hl213 := v13 _ hl212 (Nat.ne_of_gt h13.1)
      have hl313 := v13 _ hl312 (Nat.ne_of_gt h14.2.1)
      have hlc13 := v13 _ hlc12 (Ne.symm nl1)
      have hI13 := v13 _ hI12 (Ne.symm (hoff _ hl1))
      have hlm13 := v13 _ hlm12 (Ne.symm (ne4 _ (hio hl1)))
      have hoc13 := v13 _ hoc12 (Ne.symm ml1)
      have hS13 := hS12.soft s13
      k_steps
      refine Halt9.out ?_
      refine kda_item (knd := PySem.strKind _ _) N13 hdi13 hod (strKind_is _ _ _ _) (by rfl) ?_
      k_steps
      refine Halt9.out ?_
      refine gm_append N13 hl213 ?_
      k_steps
      refine Halt9.out ?_
      refine append_led F13 N13 hl213 (by omega) fun h14' F14 N14 => ?_
      have v14 : ∀ q ∈ led13, q.1 ≠ l2 → q ∈ put l2 { cls := .type "list", data := .seq (v2.push (Value.ref D10)) (n2 + 1) } led13 := fun q hq hne => mem_put hq hne
      have s14 : ∀ q ∈ led13, Soft q → q ∈ put l2 { cls := .type "list", data := .seq (v2.push (Value.ref D10)) (n2 + 1) } led13 := fun q hq hs => soft_put N13 hl213 LObj.lit q hq hs
      have hl214 : (l2, ({ cls := .type "list", data := .seq (v2.push (Value.ref D10)) (n2 + 1) } : Obj)) ∈ put l2 { cls := .type "list", data := .seq (v2.push (Value.ref D10)) (n2 + 1) } led13 := mem_put_self
      generalize put l2 { cls := .type "list", data := .seq (v2.push (Value.ref D10)) (n2 + 1) } led13 = led14 at *
      have hdi14 := v14 _ hdi13 (Nat.ne_of_lt h13.2.1)
      have hl114 := v14 _ hl113 (Nat.ne_of_lt h13.1)
      have hl314 := v14 _ hl313 (Nat.ne_of_gt h14.1)
      have hlc14 := v14 _ hlc13 (Ne.symm nl2)
      have hI14 := v14 _ hI13 (Ne.symm (hoff _ hl2))
      have hlm14 := v14 _ hlm13 (Ne.symm (ne4 _ (hio hl2)))
      have hoc14 := v14 _ hoc13 (Ne.symm ml2)
      have hS14 := hS13.soft s14
      k_steps
      refine Halt9.out ?_
      refine kda_item (knd := PySem.strKind _ _) N14 hdi14 hod (strKind_is _ _ _ _) (by rfl) ?_
      k_steps
      refine Halt9.out ?_
      refine gm_append N14 hl314 ?_
      k_steps
      refine Halt9.out ?_
      refine max_sc_u rfl (Nat.le_of_ble_eq_true rfl) rfl (Nat.le_of_ble_eq_true rfl) lm om ms n (DOf r) z (by assumption) F14 (by assumption) N14 (by assumption) rfl hlm14 hom hS14 (by omega) (DOf_pos r) fun b' vb h15' tk15 q1 q2 q3 q4 F15 N15 => ?_
      k_steps
      refine Halt9.out ?_
      refine append_led F15 N15 hl314 (by omega) fun h16' F16 N16 => ?_
      k_steps
      have v16 : ∀ q ∈ led14, q.1 ≠ l3 → q ∈ put l3 { cls := .type "list", data := .seq (v3.push vb) (n3 + 1) } led14 := fun q hq hne => mem_put hq hne
      have all16 : ∀ q ∈ led₁, q.1 ≠ L' + 1 → q.1 ≠ lc → q.1 ≠ l1 → q.1 ≠ l2 → q.1 ≠ l3 → q ∈ off I (put l3 { cls := .type "list", data := .seq (v3.push vb) (n3 + 1) } led14) := fun q hq a1 a2 a3 a4 a5 => mem_off.mpr ⟨v16 _ (v14 _ (v13 _ (v12 _ (hup5 q hq a1) a2) a3) a4) a5, hoff q hq⟩
      have iL : L' + 1 ≠ I := hoff _ hoc
      have ic : lc ≠ I := hoff _ hlc
      have i1 : l1 ≠ I := hoff _ hl1
      have i2 : l2 ≠ I := hoff _ hl2
      have i3 : l3 ≠ I := hoff _ hl3
      have hcc := pick_ok (GOf_nonneg r) (fun b hb' => (hb b hb').2.2.1) hz (DOf_pos r) (by omega) (by omega) hgood hb3
      refine ⟨_, _, F16, N16, v16 _ hI14 (Ne.symm (hoff _ hl3)), ⟨rfl, hm1, hm2, hm3, hm4, fun q hq => ?_, fun q hq => ?_, ?_, ⟨oc1, _, mem_off.mpr ⟨v16 _ hoc14 (Ne.symm ml3), iL⟩, hocd1⟩, ⟨com ++ [c9], cms.push (.int c9 tc9), ncm + 1, by simp [hcl], by simp [hcs], mem_off.mpr ⟨v16 _ hlc14 (Ne.symm nl3), ic⟩, fun j v hv => ?_, .snoc com c9 hrun (by omega) hcc.1 hcc.2.1 hcc.2.2⟩, ⟨_, _, mem_off.mpr ⟨v16 _ hl114 (Nat.ne_of_lt h14.2.1), i1⟩, by simp [hz1]⟩, ⟨_, _, mem_off.mpr ⟨v16 _ hl214 (Nat.ne_of_lt h14.1), i2⟩, by simp [hz2]⟩, ⟨_, _, mem_off.mpr ⟨mem_put_self, i3⟩, by simp [hz3]⟩⟩, rfl⟩
      · have x1 := hnL q hq
        have x2 := allLt_mem hlcn.2 q hq
        exact all16 q (hsub q hq) (Nat.ne_of_lt (Nat.lt_succ_of_lt x1)) (Nat.ne_of_lt x2) (Nat.ne_of_lt (Nat.lt_trans x2 (Nat.lt_trans hlcdi h12.1))) (Nat.ne_of_lt (Nat.lt_trans x2 (Nat.lt_trans hlcdi h13.2.1))) (Nat.ne_of_lt (Nat.lt_trans x2 (Nat.lt_trans hlcdi h14.2.2.1)))
      · have x1 := of q hq _ (.tail _ (.head _))
        have x2 := of q hq _ (.head _)
        have x3 := hdi q (nf q hq)
        exact all16 q (hneed q hq) (Nat.ne_of_gt x1) (Nat.ne_of_gt x2) (Nat.ne_of_lt (Nat.lt_trans x3 h12.1)) (Nat.ne_of_lt (Nat.lt_trans x3 h13.2.1)) (Nat.ne_of_lt (Nat.lt_trans x3 h14.2.2.1))
      · exact all16 _ hdi1 (Nat.ne_of_gt hccdi) (Nat.ne_of_gt hlcdi) (Nat.ne_of_lt h12.1) (Nat.ne_of_lt h13.2.1) (Nat.ne_of_lt h14.2.2.1)
      · rw [Array.getElem?_push] at hv
        split at hv
        · rename_i e
          cases hv
          refine ⟨tc9, ?_⟩
          rw [e, hcs, ← hcl]
          simp
        · rename_i e
          obtain ⟨t, ht⟩ := hcv j v hv
          refine ⟨t, ?_⟩
          have hj : j < com.length := by
            have := (Array.getElem?_eq_some_iff.mp hv).1
            omega
          rw [ht]
          simp [List.getD, List.getElem?_append_left hj]
  · rintro m₁ led₁ h g d t9 ⟨rfl, hm1, hm2, hm3, hm4, hsub, hneed, hdi1, ⟨oc, v0, hoc, hocd⟩, ⟨com, cms, ncm, hcl, hcs, hlc, hcv, hrun⟩, -, -, -⟩ F2 N2
    k_steps
    refine Halt9.out ?_
    rename Fr _ _ _ _ => FF3
    rename News _ _ _ _ => NN3
    obtain ⟨lin, elin⟩ := head_adr NN3
    subst elin
    refine sc85_u rfl (Nat.le_of_ble_eq_true rfl) rfl (Nat.le_of_ble_eq_true rfl) lin lc _ (insAll [] com) NG (by assumption) FF3 (by assumption) NN3 (by assumption) rfl (.head _) .lit (.inl ⟨cms, com, ncm, .tail _ hlc, by rw [hcl, hcs], hcv, fun q hq => Nat.lt_of_lt_of_le (hrun.lt q hq) (by omega), hrun.nodup, by omega, rfl⟩) (hT52.mono fun q hq _ => .tail _ (hsub q hq)) (hT80.mono fun q hq _ => .tail _ (hsub q hq)) (hT88.mono fun q hq _ => .tail _ (hsub q hq)) hG ?_
    intro lo e5 x5 dx5 tks5 ep5 h5 g5 d5 t5 led5 F5 N5 sub5 T52 T80 T88 G5 hlo hx5 hdx5 fr5 ord5 ord5'
    k_steps
    rename News h₀ L _ _ => KN
    rename Fr h₀ L _ _ => KF
    obtain ⟨tp, etp⟩ := head_adr KN
    subst etp
    have hlt : ∀ q ∈ led5, q.1 < tp := by assumption
    exact hret tp _ lo e5 (.ref di) x5 dx5 com tks5 ep5 _ _ _ _ _ hrun hcl KF KN (fun q hq a1 a2 a3 => .tail _ (sub5 q (.tail _ (hsub q hq)) a1 a2 a3)) (T52.mono fun q hq _ => .tail _ hq) (T80.mono fun q hq _ => .tail _ hq) (T88.mono fun q hq _ => .tail _ hq) G5 (.head _) (.tail _ hlo) (.tail _ hx5) (.tail _ hdx5) (fun q hq => fr5 q (.tail _ (hsub q hq))) ord5 ord5' (hlt _ hlo)
theorem res453_u {A : Around} {p9 : Program} {lo9 : List Str} {w : World} {mean : ExcName → Option Value} {mg mb : Str → Option Value} {cn : Str} {cs : Scope} {a : Addr} {ccd : Value} {cl : List (Str × Addr)} {outer : List Env} {A₀ : Around} {base h₀ : Heap} {L : Addr} {m : Str → Option Value} {news : List (Addr × Obj)} {s : Shared}
   {Q E : Value → Shared → Prop}
   (hh : A.handled = none) (hdp : A.depth ≤ 390) (hfr : A.frames = some (envX cn cs L a ccd cl :: outer)) (hun : A.units ≤ 25) (r : Nat) (hr : r < 5) (t : Tok) (p lv : Addr) (n : Nat) (vv : Array Value) (nlv : Nat) (bs : List (List Nat × Int)) (k : Nat) (tk : Tok) (NG : Nat)
   (B : Below A₀ base outer h₀) (F : Fr h₀ L s.heap m) (X : (hd.heap_39 w.params).In h₀) (N : News h₀ L s.heap news)
   (T : Top p9 lo9 mean mg mb h₀)
   (hk : cs.kind = .function) (hn : n = 3 ∨ n = 4) (hp : ProfAt w news p n lv) (hlv : (lv, ({ cls := .type "list", data := .seq vv nlv } : Obj)) ∈ news) (hvot : VotersAt w news vv bs) (hbs : bs.length ≤ 4) (hb : ∀ b ∈ bs, b.1 ∈ subs ∧ (∀ k ∈ b.1, k < n) ∧ 0 < b.2 ∧ b.2 ≤ 1001)
   (hk1 : 1 ≤ k) (hk3 : k ≤ 3) (hkn : k ≤ n) (hT52 : Tab 52 news) (hT80 : Tab 80 news) (hT88 : Tab 88 news) (hG : GB NG s.gens)
   (hret : ∀ tp e lo e2 i2 x dx com tks ep h' g' d' t' led', Run (GOf r) bs n (DOf r) com → com.length = k → Fr h₀ L h' m → News h₀ L h' led' → (∀ p ∈ news, p.1 ≠ 52 → p.1 ≠ 80 → p.1 ≠ 88 → p ∈ led') → Tab 52 led' → Tab 80 led' → Tab 88 led' → GB NG g' → (tp, ({ cls := .type "tuple", data := .seq #[.ref lo, i2] e } : Obj)) ∈ led' → (lo, seqObj "list" #[.ref x] e2) ∈ led' → (x, csObj dx (esOf (insAll [] com) tks) ep (tabS (insAll [] com) (!bt w))) ∈ led' → (dx, dictOf [] 0) ∈ led' → (∀ p ∈ news, p.1 < dx) → dx < x → x < lo → lo < tp → Q (.ref tp) ⟨h', g', d', t', s.os⟩) :
   wpAny (model PySem.Challenge.rw_bb0001_01.row.prog w) A (call (.ref 453) [.str (nmOf r) t, .ref p, .int (k : Int) tk]) Q E s :=
  wp_weaken hh hdp (.inr hfr) (.inl rfl) hun (res453 w mean mg mb cn cs a ccd cl outer A₀ base h₀ L m news s Q E r hr t p lv n vv nlv bs k tk NG B F X N T hk hn hp hlv hvot hbs hb hk1 hk3 hkn hT52 hT80 hT88 hG hret)

end Mine
end

/- PL -/
section
open PySem PySem.W PyProof.Rows PySem.Calls PySem.Spec
set_option linter.unusedVariables false
namespace Mine
/-- how many of com are in ballot b -/
def cut (com b : List Nat) : Nat := (com.filter (· ∈ b)).length
/-- the worth of com by the gains -/
def wth (g : List Int) (bs : List (List Nat × Int)) (com : List Nat) : Int := (bs.map fun b => b.2 * (g.take (cut com b.1)).sum).sum
theorem Run.same {G : Nat → Int} {bs : List (List Nat × Int)} {n : Nat} {D : Int} {c1 c2 : List Nat} (h1 : Run G bs n D c1) (h2 : Run G bs n D c2) (hl : c1.length = c2.length) : c1 = c2 := by
  induction h1 generalizing c2 with
  | nil => exact (List.length_eq_zero_iff.mp hl.symm).symm
  | snoc com c r hc hn hm hf ih =>
    cases h2 with
    | nil => simp at hl
    | snoc com' c' r' hc' hn' hm' hf' =>
      have e := ih r' (by simpa using hl)
      subst e
      rcases Nat.lt_trichotomy c c' with h | h | h
      · have := hf' c h hn; have := hm c' hc' hn'; omega
      · rw [h]
      · have := hf c' h hn'; have := hm' c hc hn; omega
theorem Run.last {G : Nat → Int} {bs : List (List Nat × Int)} {n : Nat} {D : Int} {c1 c2 : List Nat} (h1 : Run G bs n D c1) (h2 : Run G bs n D c2) (hl : c2.length = c1.length + 1) :
    ∃ c, c2 = c1 ++ [c] ∧ c < n ∧ c ∉ c1 ∧ ∀ t, t < n → t ∉ c1 → sumG G bs c1 t ≤ sumG G bs c1 c := by
  cases h2 with
  | nil => simp at hl
  | snoc com c r hc hn hm hf =>
    have e := h1.same r (by simp at hl; omega)
    subst e
    exact ⟨c, rfl, hc, hn, hm⟩
theorem nodup_len : ∀ (l m : List Nat), l.Nodup → (∀ x ∈ l, x ∈ m) → l.length ≤ m.length
  | [], _, _, _ => Nat.zero_le _
  | a :: l, m, hn, hs => by
    have ha := List.nodup_cons.mp hn
    have hm := hs a (.head _)
    have ih := nodup_len l (m.erase a) ha.2 fun x hx => by
      have hne : x ≠ a := fun e => ha.1 (e ▸ hx)
      exact (List.mem_erase_of_ne hne).mpr (hs x (.tail _ hx))
    rw [List.length_erase_of_mem hm] at ih
    have := List.length_pos_of_mem hm
    rw [List.length_cons]
    omega
/-- four gains that fall -/
structure Falls (g : List Int) (G : Nat → Int) : Prop where
  shape : ∃ a b c d, g = [a, b, c, d] ∧ b ≤ a ∧ c ≤ b ∧ d ≤ c ∧ 0 ≤ d ∧ G 1 = a ∧ G 2 = b ∧ G 3 = c
theorem Falls.step {g : List Int} {G : Nat → Int} (h : Falls g G) (a : Nat) (ha : a ≤ 2) : (g.take (a + 1)).sum = (g.take a).sum + G (a + 1) ∧ 0 ≤ G (a + 1) := by
  obtain ⟨x, y, z, u, rfl, h1, h2, h3, h4, e1, e2, e3⟩ := h.shape
  rcases a with _ | _ | _ | a
  · simp [e1]; omega
  · simp [e2]; omega
  · simp [e3]; omega
  · omega
theorem Falls.conc {g : List Int} {G : Nat → Int} (h : Falls g G) (a d j : Nat) (ha : a ≤ 2) (hd : d ≤ 4) (hj : j ≤ a + d) : (g.take j).sum ≤ (g.take a).sum + (d : Int) * G (a + 1) := by
  obtain ⟨x, y, z, u, rfl, h1, h2, h3, h4, e1, e2, e3⟩ := h.shape
  have hj' : j ≤ 6 := by omega
  rcases a with _ | _ | _ | a
  · rw [e1]
    rcases j with _ | _ | _ | _ | _ | _ | _ | j <;> rcases d with _ | _ | _ | _ | _ | d <;> simp <;> omega
  · rw [e2]
    rcases j with _ | _ | _ | _ | _ | _ | _ | j <;> rcases d with _ | _ | _ | _ | _ | d <;> simp <;> omega
  · rw [e3]
    rcases j with _ | _ | _ | _ | _ | _ | _ | j <;> rcases d with _ | _ | _ | _ | _ | d <;> simp <;> omega
  · omega
theorem Falls.nonneg {g : List Int} {G : Nat → Int} (h : Falls g G) (j : Nat) : 0 ≤ (g.take j).sum := by
  obtain ⟨x, y, z, u, rfl, h1, h2, h3, h4, e1, e2, e3⟩ := h.shape
  rcases j with _ | _ | _ | _ | j <;> simp <;> omega
theorem wth_nonneg {g : List Int} {G : Nat → Int} (h : Falls g G) : ∀ (bs : List (List Nat × Int)), (∀ b ∈ bs, 0 < b.2) → ∀ com, 0 ≤ wth g bs com
  | [], _, com => by simp [wth]
  | b :: bs, hb, com => by
    have ih := wth_nonneg h bs (fun x hx => hb x (.tail _ hx)) com
    have h1 := Int.mul_nonneg (Int.le_of_lt (hb b (.head _))) (h.nonneg (cut com b.1))
    unfold wth at ih ⊢
    rw [List.map_cons, List.sum_cons]
    omega
theorem cut_snoc (com b : List Nat) (c : Nat) : cut (com ++ [c]) b = cut com b + if c ∈ b then 1 else 0 := by
  unfold cut
  rw [List.filter_append, List.length_append]
  by_cases h : c ∈ b <;> simp [h]
theorem cut_le (com b : List Nat) : cut com b ≤ com.length := List.length_filter_le _ _
theorem wth_snoc {g : List Int} {G : Nat → Int} (h : Falls g G) (com : List Nat) (hc : com.length ≤ 2) (c : Nat) : ∀ bs : List (List Nat × Int), wth g bs (com ++ [c]) = wth g bs com + sumG G bs com c
  | [] => by simp [wth, sumG]
  | b :: bs => by
    have ih := wth_snoc h com hc c bs
    have h1 := (h.step (cut com b.1) (Nat.le_trans (cut_le _ _) hc)).1
    unfold wth sumG at ih ⊢
    simp only [List.map_cons, List.sum_cons]
    rw [ih, cut_snoc]
    by_cases hm : c ∈ b.1
    · simp only [hm, if_true]
      rw [h1, Int.mul_add]
      show _ = _ + (b.2 * G (cut com b.1 + 1) + _)
      omega
    · simp only [hm, if_false, Nat.add_zero]
      omega
/-- the sum of the single gains of the members of T -/
def gsum (G : Nat → Int) (bs : List (List Nat × Int)) (com T : List Nat) : Int := (T.map fun t => sumG G bs com t).sum
theorem gsum_cons (G : Nat → Int) (b : List Nat × Int) (bs : List (List Nat × Int)) (com : List Nat) : ∀ T : List Nat, gsum G (b :: bs) com T = (cut T b.1 : Int) * (b.2 * G (cut com b.1 + 1)) + gsum G bs com T
  | [] => by simp [gsum, cut]
  | t :: T => by
    have ih := gsum_cons G b bs com T
    unfold gsum at ih ⊢
    rw [List.map_cons, List.sum_cons, ih, List.map_cons, List.sum_cons]
    have e : sumG G (b :: bs) com t = (if t ∈ b.1 then b.2 * G (cut com b.1 + 1) else 0) + sumG G bs com t := by
      unfold sumG cut; rw [List.map_cons, List.sum_cons]
    rw [e]
    by_cases h : t ∈ b.1
    · have e2 : cut (t :: T) b.1 = cut T b.1 + 1 := by unfold cut; simp [h]
      rw [e2, if_pos h, Int.natCast_add, Int.add_mul]
      omega
    · have e2 : cut (t :: T) b.1 = cut T b.1 := by unfold cut; simp [h]
      rw [e2, if_neg h]
      omega
/-- the worth of T against com, by the members of T outside com -/
theorem wth_le {g : List Int} {G : Nat → Int} (h : Falls g G) (com T U : List Nat) (hc : com.length ≤ 2) (hU : U.length ≤ 4) (hcut : ∀ b : List Nat, cut T b ≤ cut com b + cut U b) :
    ∀ bs : List (List Nat × Int), (∀ b ∈ bs, 0 < b.2) → wth g bs T ≤ wth g bs com + gsum G bs com U
  | [], _ => by
    have : ∀ l : List Nat, gsum G [] com l = 0 := fun l => by
      induction l with
      | nil => rfl
      | cons t l ih => unfold gsum at ih ⊢; rw [List.map_cons, List.sum_cons, ih]; rfl
    rw [this]; simp [wth]
  | b :: bs, hb => by
    have ih := wth_le h com T U hc hU hcut bs (fun x hx => hb x (.tail _ hx))
    have h1 := h.conc (cut com b.1) (cut U b.1) (cut T b.1) (Nat.le_trans (cut_le _ _) hc) (Nat.le_trans (cut_le _ _) hU) (hcut b.1)
    have h2 := Int.mul_le_mul_of_nonneg_left h1 (Int.le_of_lt (hb b (.head _)))
    rw [gsum_cons]
    unfold wth at ih ⊢
    rw [List.map_cons, List.sum_cons, List.map_cons, List.sum_cons]
    rw [Int.mul_add] at h2
    have e : b.2 * ((cut U b.1 : Int) * G (cut com b.1 + 1)) = (cut U b.1 : Int) * (b.2 * G (cut com b.1 + 1)) := by
      rw [← Int.mul_assoc, ← Int.mul_assoc, Int.mul_comm b.2]
    rw [e] at h2
    omega
theorem gsum_le {G : Nat → Int} {bs : List (List Nat × Int)} {com : List Nat} {x : Int} : ∀ U : List Nat, (∀ t ∈ U, sumG G bs com t ≤ x) → gsum G bs com U ≤ (U.length : Int) * x
  | [], _ => by simp [gsum]
  | t :: U, h => by
    have ih := gsum_le U fun y hy => h y (.tail _ hy)
    have h1 := h t (.head _)
    unfold gsum at ih ⊢
    rw [List.map_cons, List.sum_cons, List.length_cons, Int.natCast_add, Int.add_mul]
    omega
theorem cut_split (com b : List Nat) (hcom : com.Nodup) : ∀ T : List Nat, T.Nodup → cut T b ≤ cut com b + cut (T.filter (· ∉ com)) b := by
  intro T hT
  have e : cut T b = cut (T.filter (· ∈ com)) b + cut (T.filter (· ∉ com)) b := by
    unfold cut
    clear hT
    induction T with
    | nil => rfl
    | cons t T ih =>
      by_cases h1 : t ∈ com <;> by_cases h2 : t ∈ b <;> simp [h1, h2] at ih ⊢ <;> omega
  have l : cut (T.filter (· ∈ com)) b ≤ cut com b := by
    unfold cut
    have hn : ((T.filter (· ∈ com)).filter (· ∈ b)).Nodup := (hT.filter _).filter _
    have hs : ∀ x ∈ (T.filter (· ∈ com)).filter (· ∈ b), x ∈ com.filter (· ∈ b) := fun x hx => by
      simp only [List.mem_filter, decide_eq_true_eq] at hx ⊢
      exact ⟨hx.1.2, hx.2⟩
    exact nodup_len _ _ hn hs
  omega
/-- the greedy step -/
theorem greedy {g : List Int} {G : Nat → Int} (h : Falls g G) {bs : List (List Nat × Int)} (hb : ∀ b ∈ bs, 0 < b.2) {n c : Nat} {com T : List Nat} (hcom : com.Nodup) (hc : com.length ≤ 2)
    (hmax : ∀ t, t < n → t ∉ com → sumG G bs com t ≤ sumG G bs com c) (hpos : 0 ≤ sumG G bs com c) (hT : T.Nodup) (hTn : ∀ t ∈ T, t < n) (hT4 : T.length ≤ 4) :
    wth g bs T - wth g bs com ≤ (T.length : Int) * (wth g bs (com ++ [c]) - wth g bs com) := by
  have h1 := wth_le h com T (T.filter (· ∉ com)) hc (Nat.le_trans (List.length_filter_le _ _) hT4) (fun b => cut_split com b hcom T hT) bs hb
  have h2 := gsum_le (G := G) (bs := bs) (com := com) (x := sumG G bs com c) (T.filter (· ∉ com)) fun t ht => by
    simp only [List.mem_filter, decide_eq_true_eq] at ht
    exact hmax t (hTn t ht.1) ht.2
  have h3 : ((T.filter (· ∉ com)).length : Int) * sumG G bs com c ≤ (T.length : Int) * sumG G bs com c := Int.mul_le_mul_of_nonneg_right (by have := List.length_filter_le (· ∉ com) T; omega) hpos
  have h4 := wth_snoc h com hc c bs
  have e : wth g bs (com ++ [c]) - wth g bs com = sumG G bs com c := by omega
  rw [e]
  omega
end Mine
end

/- LW -/
section
open PySem PySem.W PyProof.Rows PySem.Calls PySem.Spec
set_option linter.unusedVariables false
namespace Mine
/-- v is a row: a ballot of the candidates ks, and a weight -/
def RowAt (led : List (Addr × Obj)) (v : Value) (ks : List Nat) (wt : Int) : Prop := ∃ tp nt bl tw vs nl, v = .ref tp ∧ (tp, ({ cls := .type "tuple", data := .seq #[.ref bl, .int wt tw] nt } : Obj)) ∈ led ∧ (bl, ({ cls := .type "list", data := .seq vs nl } : Obj)) ∈ led ∧ VN (vs : Array Value).toList ks
theorem RowAt.mono {led led' : List (Addr × Obj)} {v : Value} {ks : List Nat} {wt : Int} (h : RowAt led v ks wt) (k : ∀ p ∈ led, p ∈ led') : RowAt led' v ks wt :=
  let ⟨tp, nt, bl, tw, vs, nl, e, a, b, c⟩ := h; ⟨tp, nt, bl, tw, vs, nl, e, k _ a, k _ b, c⟩
def RowsAt (led : List (Addr × Obj)) (rv : Array Value) (bs : List (List Nat × Int)) : Prop := rv.size = bs.length ∧ ∀ (i : Nat) (b : List Nat × Int), bs[i]? = some b → ∃ v, rv[i]? = some v ∧ RowAt led v b.1 b.2
theorem RowsAt.mono {led led' : List (Addr × Obj)} {rv : Array Value} {bs : List (List Nat × Int)} (h : RowsAt led rv bs) (k : ∀ p ∈ led, p ∈ led') : RowsAt led' rv bs :=
  ⟨h.1, fun i b hb => let ⟨v, e, f⟩ := h.2 i b hb; ⟨v, e, f.mono k⟩⟩
theorem head_obj {h₀ h : Heap} {L a : Addr} {o : Obj} {news : List (Addr × Obj)} (_ : News h₀ L h ((a, o) :: news)) : ∃ o', o' = o := ⟨o, rfl⟩
theorem RowsAt.refs {led : List (Addr × Obj)} {rv : Array Value} {bs : List (List Nat × Int)} (h : RowsAt led rv bs) : ∀ (i : Nat) (v : Value), rv[i]? = some v → ∃ T, v = Value.ref T := fun i v hv => by
  have hi := (Array.getElem?_eq_some_iff.mp hv).1
  obtain ⟨b, hb⟩ : ∃ b, bs[i]? = some b := ⟨_, List.getElem?_eq_getElem (by rw [← h.1]; exact hi)⟩
  obtain ⟨v', hv', tp, nt, bl, tw, vs, nl, e, _⟩ := h.2 i b hb
  exact ⟨tp, by rw [← e]; exact Option.some.inj (hv.symm.trans hv')⟩
theorem wth_take {g : List Int} {bs : List (List Nat × Int)} {com : List Nat} {i : Nat} {b : List Nat × Int} (h : bs[i]? = some b) : wth g (bs.take (i + 1)) com = wth g (bs.take i) com + b.2 * (g.take (cut com b.1)).sum := by
  unfold wth
  rw [List.take_add_one, h]
  simp
local macro_rules | `(tactic| k_mem) => `(tactic| first | assumption | exact List.Mem.head _ | (refine List.Mem.tail _ ?_; k_mem))
local macro_rules | `(tactic| wtm_at "own exec For Tuple Name cons nil") => `(tactic| refine Halt9.intro ?_)
set_option hygiene false in
local macro_rules | `(tactic| wtm_at "own eval Name") => `(tactic| (k_here; name_kind "local"; k_dflt (refine q_locF (by assumption) (by first | with_reducible (first | exact hm1 | exact hm2 | exact hm3) | (first | exact hm1 | exact hm2 | exact hm3)) (by kernel_rfl!) (by kernel_rfl!) (by exact rfl) ?_)))
set_option hygiene false in
local macro_rules | `(tactic| wtm_at "own eval Name") => `(tactic| (k_here; name_kind "cell"; k_dflt (refine cell_led (c := L' + 1) (by assumption) (by k_mem) hocd1 ?_)))
local macro_rules | `(tactic| wtm_at "own compareOp In") => `(tactic| refine Halt9.intro ?_)
set_option hygiene false in
local macro_rules | `(tactic| wtm_at "own loadName") => `(tactic| (k_here; k_dflt (refine wpAny_loadName_local (by exact rfl) (by exact rfl) (Fr.ns (by assumption)) (by first | exact hm1 | exact hm2 | exact hm3) ?_)))
local macro_rules | `(tactic| wtm_at "own CompSrcT") => `(tactic| refine Halt9.intro ?_)
local macro_rules | `(tactic| wtm_at "own pyIter ref") => `(tactic| refine Halt9.intro ?_)
local macro_rules | `(tactic| wtm_at "own storeName") => `(tactic| ((with_reducible show wpAny _ _ (storeName _ (Str.ofString "ballot") _) _ _ _); refine Halt9.intro ?_))
set_option maxRecDepth 100000 in
set_option maxHeartbeats 2000000 in
theorem lw655 {p9 : Program} {lo9 : List Str} (w : World) (mean : ExcName → Option Value) (mg mb : Str → Option Value) (cn : Str) (cs : Scope) (a : Addr) (ccd : Value) (cl : List (Str × Addr)) (outer : List Env) (A₀ : Around) (base h₀ : Heap) (L : Addr) (m : Str → Option Value) (news : List (Addr × Obj)) (s : Shared)
   (Q E : Value → Shared → Prop) (gl rl cl9 : Addr) (gv rv cv : Array Value) (gs : List Int) (nrv ncv : Nat) (bs : List (List Nat × Int)) (com : List Nat)
   (B : Below A₀ base outer h₀) (F : Fr h₀ L s.heap m) (X : (hd.heap_39 w.params).In h₀) (N : News h₀ L s.heap news)
   (T : Top p9 lo9 mean mg mb h₀)
   (hk : cs.kind = .function) (hgl : h₀.IsList gl gv) (hgi : IntsAre gv.toList gs) (hg4 : gs.length = 4) (hg0 : ∀ x ∈ gs, 0 ≤ x ∧ x ≤ 200) (hrl : (rl, ({ cls := .type "list", data := .seq rv nrv } : Obj)) ∈ news) (hrows : RowsAt news rv bs) (hbs : bs.length ≤ 4) (hb : ∀ b ∈ bs, 0 < b.2 ∧ b.2 ≤ 1001 ∧ b.1.length ≤ 4)
   (hcl : (cl9, ({ cls := .type "list", data := .seq cv ncv } : Obj)) ∈ news) (hcv : VN cv.toList com) (hcom : com.length ≤ 4)
   (hret : ∀ t h' d' tk', Fr h₀ L h' m → News h₀ L h' news → Q (.int (wth gs bs com) t) ⟨h', s.gens, d', tk', s.os⟩) :
   wpAny (model PySem.Challenge.rw_bb0001_01.row.prog w) { handled := none, depth := 390, frames := some (envX cn cs L a ccd cl :: outer), guards := none, units := 25 } (call (.ref 655) [.ref gl, .ref rl, .ref cl9]) Q E s := by
  revert X
  k_fill
  intro X
  refine wpAny_call ?_
  k_dflt (refine' code_defC ?k1 ?k2 ?k3 ?k4 ?k5 ?kA ?kF ?kK ?k6 ?k7 ?k8 ?k9 ?kB ?kD ?_ ?c2 ?c3 ?c4; (case kA => exact rfl); (case kF => exact rfl); (case kK => assumption); (case k1 => k_asm); (case k2 => k_asm); (case k3 => k_asm); (case k4 => k_asm); (case k5 => k_asm); (case k6 => k_is); (case k7 => k_is); (case k8 => k_room); (case k9 => first | exact BindsTo.of_eq rfl | exact binds_K (by k_in) rfl (by k_is) rfl rfl rfl); (case kB => exact rfl); (case kD => decide +kernel); (case c2 => exact rfl); (case c3 => exact rfl); (case c4 => exact rfl); k_whole; intro g' L' h' tk' cells' FG' F' N' Y' B' X' T' l1; (try k_lt l1); k_cells Y'; (try simp only [List.cons_append, List.nil_append] at N'); (try dsimp only); (try k_lift B'); (try k_fold))
  k_steps
  refine Halt9.out ?_
  rename Fr _ _ _ _ => FF
  rename News _ _ _ _ => NN
  obtain ⟨oc0, e2⟩ := head_obj NN
  subst e2
  have hcell0 : ∃ oc v0, (L' + 1, oc) ∈ (L' + 1, oc0) :: news ∧ oc.data = .cell v0 := ⟨oc0, _, .head _, by assumption⟩
  have hnL : ∀ q ∈ news, q.1 < L' := by assumption
  refine For_c ?_
  k_steps
  refine Halt9.out ?_
  rename Fr _ _ _ _ => FF
  rename News _ _ _ _ => NN
  refine iter_c_listT (l := rl) (fun i m₁ led₁ g => g = s.gens ∧ m₁ (Str.ofString "gains") = some (.ref gl) ∧ m₁ (Str.ofString "committee") = some (.ref cl9) ∧ (∃ tt, m₁ (Str.ofString "worth") = some (.int (wth gs (bs.take i) com) tt)) ∧ (∀ q ∈ news, q ∈ led₁) ∧ ∃ oc v0, (L' + 1, oc) ∈ led₁ ∧ oc.data = .cell v0)
    rfl hrows.refs .lit (fun i m led g hJ => hJ.2.2.2.2.1 _ hrl) FF NN ⟨rfl, rfl, rfl, ⟨_, rfl⟩, fun q hq => by k_mem, hcell0⟩ ?_ ?_
  · rintro i v m₁ led₁ I io h g d t hi hv ⟨rfl, hm1, hm2, ⟨tw, hm3⟩, hsub, oc, v0, hoc, hocd⟩ hoff hio F2 N2
    obtain ⟨b, hbi⟩ : ∃ b, bs[i]? = some b := ⟨_, List.getElem?_eq_getElem (by rw [← hrows.1]; exact hi)⟩
    obtain ⟨v', hv', tp, nt, bl, twt, bv, nbl, rfl, a1, a2, a3⟩ := hrows.2 i b hbi
    obtain rfl : v = .ref tp := Option.some.inj (hv.symm.trans hv')
    have hio := fun {q : Addr × Obj} (hq : q ∈ led₁) => (List.Mem.tail (I, io) hq : q ∈ (I, io) :: led₁)
    have a1' := hio (hsub _ a1)
    have nccL : cl9 ≠ L' + 1 := fun e => by
      have h1 := hsub _ hcl
      rw [e] at h1
      have h2 := News.func N2 (hio h1) (hio hoc)
      rw [← h2] at hocd; cases hocd
    have nbl : bl ≠ L' + 1 := fun e => by
      have h1 := hsub _ a2
      rw [e] at h1
      have h2 := News.func N2 (hio h1) (hio hoc)
      rw [← h2] at hocd; cases hocd
    unfold TurnG
    k_steps
    refine Halt9.out ?_
    rename Fr _ _ _ _ => FF
    rename News _ _ _ _ => NN
    refine store_cell (c := L' + 1) (by exact rfl) (by exact rfl) (by exact rfl) FF NN (hio hoc) hocd fun h5 oc1 hocd1 F5 N5 => ?_
    have up5 : ∀ q ∈ (I, io) :: led₁, q.1 ≠ L' + 1 → q ∈ put (L' + 1) oc1 ((I, io) :: led₁) := fun q hq hne => mem_put hq hne
    have hoc1 : (L' + 1, oc1) ∈ put (L' + 1) oc1 ((I, io) :: led₁) := mem_put_self
    generalize put (L' + 1) oc1 ((I, io) :: led₁) = led5 at *
    k_steps
    refine Halt9.out ?_
    rename Fr _ _ _ _ => FF
    rename News _ _ _ _ => NN
    have hcl5 := up5 _ (hio (hsub _ hcl)) nccL
    have hbl5 := up5 _ (hio (hsub _ a2)) nbl
    have hcz : com.length = cv.size := by rw [← hcv.len]; simp
    refine LCt.CompSrcT.ledger rfl FF NN hcl5 (by have : 4 ≤ sizeLine := Nat.le_of_ble_eq_true rfl; omega) fun g9 => comp_flt com (fun k => decide (k ∈ b.1)) hcz (fun i v _ hv => hcv.get i v (by simpa using hv)) (.inr ⟨_, hcl5, rfl, _, rfl⟩) (by exact rfl) (by exact rfl) (by exact rfl) ?_ ?_
    · intro j kk tt9 I9 oI9 C9 oC9 D9 m9 ys9 h9 tk9 E9 hj hkk hC9 hx9 F9 N9
      k_steps
      refine Halt9.out ?_
      rename Fr _ _ _ _ => FF9
      rename News _ _ _ _ => NN9
      refine in_vn ⟨_, (NN9 _ (.tail _ (.tail _ (.tail _ hbl5)))).1, rfl, _, rfl⟩ a3 ?_
      exact wpAny_truthy_bool ⟨rfl, _, _, rfl, FF9, NN9⟩
    · intro ys9 hys9 D10 h10 tk10 F10 N10 o10
      have hyl : ys9.length = cut com b.1 := hys9.len
      have hcut := cut_le com b.1
      k_steps
      refine len_o (o := LCg.lst ys9) N10 (.head _) ⟨rfl, _, rfl⟩ (by simp; omega) ?_
      intro t8 tk8
      rw [show (ys9.toArray.size : Int) = (cut com b.1 : Int) from by simp [hyl]]
      have hgl' : g'.IsList gl gv := by
        obtain ⟨o, e1, e2⟩ := hgl
        exact ⟨o, FG'.keep _ _ e1, e2⟩
      obtain ⟨hw0, hw1, hw4⟩ := hb b (List.mem_of_getElem? hbi)
      dsimp only
      k_steps
      rename Fr _ _ _ _ => FF11
      rename News _ _ _ _ => NN11
      have iL : L' + 1 ≠ I := hoff _ hoc
      have hI5 : (I, io) ∈ led5 := up5 _ (.head _) (Ne.symm iL)
      refine ⟨_, _, FF11, NN11, by k_mem, ⟨rfl, hm1, hm2, ⟨_, by rw [wth_take hbi]; rfl⟩, fun q hq => ?_, oc1, _, mem_off.mpr ⟨by k_mem, iL⟩, hocd1⟩, rfl⟩
      · have hq5 := up5 _ (hio (hsub q hq)) (Nat.ne_of_lt (Nat.lt_succ_of_lt (hnL q hq)))
        exact mem_off.mpr ⟨by k_mem, hoff q (hsub q hq)⟩
  · rintro m₁ led₁ h g d t ⟨rfl, hm1, hm2, ⟨tw, hm3⟩, hsub, oc, v0, hoc, hocd⟩ F2 N2
    rw [hrows.1, List.take_length] at hm3
    k_steps
    rename News h₀ L _ _ => KN
    rename Fr h₀ L _ _ => KF
    exact hret _ _ _ _ KF (cb_drop KN fun q hq => by have hq5 := hsub q hq; k_mem)
theorem lw655_u {A : Around} {p9 : Program} {lo9 : List Str} {w : World} {mean : ExcName → Option Value} {mg mb : Str → Option Value} {cn : Str} {cs : Scope} {a : Addr} {ccd : Value} {cl : List (Str × Addr)} {outer : List Env} {A₀ : Around} {base h₀ : Heap} {L : Addr} {m : Str → Option Value} {news : List (Addr × Obj)} {s : Shared}
   {Q E : Value → Shared → Prop}
   (hh : A.handled = none) (hdp : A.depth ≤ 390) (hfr : A.frames = some (envX cn cs L a ccd cl :: outer)) (hun : A.units ≤ 25) (gl rl cl9 : Addr) (gv rv cv : Array Value) (gs : List Int) (nrv ncv : Nat) (bs : List (List Nat × Int)) (com : List Nat)
   (B : Below A₀ base outer h₀) (F : Fr h₀ L s.heap m) (X : (hd.heap_39 w.params).In h₀) (N : News h₀ L s.heap news)
   (T : Top p9 lo9 mean mg mb h₀)
   (hk : cs.kind = .function) (hgl : h₀.IsList gl gv) (hgi : IntsAre gv.toList gs) (hg4 : gs.length = 4) (hg0 : ∀ x ∈ gs, 0 ≤ x ∧ x ≤ 200) (hrl : (rl, ({ cls := .type "list", data := .seq rv nrv } : Obj)) ∈ news) (hrows : RowsAt news rv bs) (hbs : bs.length ≤ 4) (hb : ∀ b ∈ bs, 0 < b.2 ∧ b.2 ≤ 1001 ∧ b.1.length ≤ 4)
   (hcl : (cl9, ({ cls := .type "list", data := .seq cv ncv } : Obj)) ∈ news) (hcv : VN cv.toList com) (hcom : com.length ≤ 4)
   (hret : ∀ t h' d' tk', Fr h₀ L h' m → News h₀ L h' news → Q (.int (wth gs bs com) t) ⟨h', s.gens, d', tk', s.os⟩) :
   wpAny (model PySem.Challenge.rw_bb0001_01.row.prog w) A (call (.ref 655) [.ref gl, .ref rl, .ref cl9]) Q E s :=
  wp_weaken hh hdp (.inr hfr) (.inl rfl) hun (lw655 w mean mg mb cn cs a ccd cl outer A₀ base h₀ L m news s Q E gl rl cl9 gv rv cv gs nrv ncv bs com B F X N T hk hgl hgi hg4 hg0 hrl hrows hbs hb hcl hcv hcom hret)

end Mine
end

/- VO -/
section
open PySem.W.X (tableObj)
open PySem PySem.W PyProof.Rows PySem.Calls PySem.Spec
set_option linter.unusedVariables false
namespace Mine
local macro_rules | `(tactic| k_mem) => `(tactic| first | assumption | exact List.Mem.head _ | (refine List.Mem.tail _ ?_; k_mem))
theorem mem_vo {α : Type} {a b c d e : α} {l : List α} : ∀ p ∈ c :: d :: e :: a :: b :: l, p ∈ a :: b :: c :: d :: e :: l := fun p hp => by
  simp only [List.mem_cons] at hp ⊢
  rcases hp with h | h | h | h | h | h
  · exact .inr (.inr (.inl h))
  · exact .inr (.inr (.inr (.inl h)))
  · exact .inr (.inr (.inr (.inr (.inl h))))
  · exact .inl h
  · exact .inr (.inl h)
  · exact .inr (.inr (.inr (.inr (.inr h))))
set_option hygiene false in
local macro_rules | `(tactic| wtm_at "own call ref") => `(tactic| (k_here; (with_reducible show wpAny _ _ (call (Value.ref 75) [Value.ref _] _) _ _ _); (refine wpAny_call (cod_weaken (by exact rfl) (Nat.le_of_ble_eq_true (by exact rfl)) (.inr (by exact rfl)) (.inl (by exact rfl)) (Nat.le_of_ble_eq_true (by exact rfl)) (cs_new w mean mg mb _ _ _ _ _ _ _ _ _ _ _ _ _ l vs ns nl B' F' X' T' (by exact rfl) _ ps (cb_drop N' mem_rot3) .none _ (.inr (by exact rfl)) (.inl rfl) h52' htr hG (by k_mem) hn hval hlt hnd hvz (fun x6 dx6 h6 g6 d6 t6 o6 ps6 tks6 ep6 hm6 htr6 hG6 ho6 F6 N6 l6 l6' => ?_)))); have l7 := l6; have l7' := l6'; (try k_lt l6); (try k_lt2 l6'); (try k_sweep); (try dsimp only)))
set_option maxRecDepth 100000 in
set_option maxHeartbeats 600000 in
theorem vo_new {NG : Nat} {p9 : Program} {lo9 : List Str} (w : World) (mean : ExcName → Option Value) (mg mb : Str → Option Value) (cn : Str) (cs : Scope) (a : Addr) (ccd : Value) (cl : List (Str × Addr)) (outer : List Env) (A₀ : Around) (base h₀ : Heap) (L : Addr) (m : Str → Option Value) (s : Shared)
   (Q E : Value → Shared → Prop) (l : Addr) (vs : Array Value) (ns : List Nat) (nl : Nat) (wt : Int) (tw : Tok)
   (B : Below A₀ base outer h₀) (F : Fr h₀ L s.heap m) (X : (hd.heap_39 w.params).In h₀) 
   (T : Top p9 lo9 mean mg mb h₀)
   (hk : cs.kind = .function) (rest : List (Addr × Obj)) (ps : Array Value) (N : News h₀ L s.heap ((52, tableObj ps) :: rest)) 
   (h52 : ∀ p ∈ rest, p.1 ≠ 52) (htr : TriplesOk ps.toList) (hG : GB NG s.gens) (hl : (l, { cls := .type "list", data := .seq vs nl }) ∈ rest) (hn : ns.length = vs.size) (hval : ∀ i v, vs[i]? = some v → ∃ t, v = Value.int ((ns.getD i 0 : Nat) : Int) t) (hlt : ∀ k ∈ ns, k < 4) (hnd : ns.Nodup) (hvz : vs.size ≤ 4) (hw : 0 < wt)
   (hret : ∀ x dx y dy h' g' d' t' o' ps' tks ep' k1 k2, (∃ more, ps' = ps ++ more) → TriplesOk ps'.toList → GB NG g' → o' = s.os → Fr h₀ L h' m → News h₀ L h' ((52, tableObj ps') :: (x, instObj 633 dx) :: (dx, dictOf [⟨PyData.keyHash w.params (Str.ofString "approved"), .str (Str.ofString "approved") k1, .ref y⟩, ⟨PyData.keyHash w.params (Str.ofString "weight"), .str (Str.ofString "weight") k2, .int wt tw⟩] 2) :: (y, csObj dy (esOf (insAll [] ns) tks) ep' (tabS (insAll [] ns) (!bt w))) :: (dy, dictOf [] 0) :: rest) → (∀ p ∈ (52, tableObj ps) :: rest, p.1 < dx) → dx < x → x < dy → dy < y → Q (.ref x) ⟨h', g', d', t', o'⟩) :
   wpAny (model PySem.Challenge.rw_bb0001_01.row.prog w) { handled := none, depth := 400, frames := some (envX cn cs L a ccd cl :: outer), guards := none, units := 60 } (call (.ref 633) [.ref l, .int wt tw]) Q E s := by
  revert X
  k_fill
  intro X
  k_dflt (refine' call_cls ?k1 ?k2 ?k3 ?k4 ?k5 ?k6 ?_; (case k1 => k_asm); (case k2 => k_asm); (case k3 => k_asm); (case k4 => k_is); (case k5 => k_is); (case k6 => k_is); k_whole; intro x' d' h' F' N' l1 l2; have l1' := l1; have l2' := l2; (try k_lt l1); (try k_lt2 l2); (try k_sweep))
  k_dflt (refine' code_def ?k1 ?k2 ?k3 ?k4 ?k5 ?kA ?kF ?kK ?k6 ?k7 ?k8 ?k9 ?kB ?_ ?c2 ?c3 ?c4 ?c5; (case kA => exact rfl); (case kF => exact rfl); (case kK => assumption); (case k1 => k_asm); (case k2 => k_asm); (case k3 => k_asm); (case k4 => k_asm); (case k5 => k_asm); (case k6 => k_is); (case k7 => k_is); (case k8 => k_room); (case k9 => first | exact BindsTo.of_eq rfl | exact binds_K (by k_in) rfl (by k_is) rfl rfl rfl | fail "k_enter: no rule for these arguments"); (case c5 => decide); (case kB => exact locs rfl); (case c2 => exact rfl); (case c3 => exact rfl); (case c4 => exact rfl); k_whole; intro g' L' h' FG' F' N' B' X' T'; (try dsimp only); (try k_lift B'); (try k_fold))
  have h52' : ∀ p ∈ (x', instObj 633 d') :: (d', dictOf [] 0) :: rest, p.1 ≠ 52 := fun p hp => by
    rcases List.mem_cons.mp hp with rfl | hp
    · exact Nat.ne_of_gt (Nat.lt_trans (l1' _ (.head _)) l2')
    · rcases List.mem_cons.mp hp with rfl | hp
      · exact Nat.ne_of_gt (l1' _ (.head _))
      · exact h52 p hp
  k_steps
  refine hret x' d' x6 dx6 _ _ _ _ _ ps6 tks6 ep6 _ _ hm6 htr6 hG6 ho6 (by assumption) (cb_drop (by assumption) mem_vo) l1' l2' (l7 _ (.tail _ (.head _))) l7'
end Mine
end

/- VOS -/
section
open PySem.W.X (tableObj)
open PySem PySem.W PyProof.Rows PySem.Calls PySem.Spec
set_option linter.unusedVariables false
namespace Mine
local macro_rules | `(tactic| k_mem) => `(tactic| first | assumption | exact List.Mem.head _ | (refine List.Mem.tail _ ?_; k_mem))
set_option hygiene false in
local macro_rules | `(tactic| wtm_at "own call ref") => `(tactic| (k_here; (with_reducible show wpAny _ _ (call (Value.ref 75) [Value.ref _] _) _ _ _); (refine wpAny_call (cod_weaken (by exact rfl) (Nat.le_of_ble_eq_true (by exact rfl)) (.inr (by exact rfl)) (.inl (by exact rfl)) (Nat.le_of_ble_eq_true (by exact rfl)) (cs_news w mean mg mb _ _ _ _ _ _ _ _ _ _ _ _ _ l dl ks tks epl B' F' X' T' (by exact rfl) _ ps (cb_drop N' mem_rot3) (.int nc tn) _ (.inr (by exact rfl)) (.inr ⟨_, _, rfl, hnc⟩) h52' htr hG (by k_mem) hks (fun x6 dx6 h6 g6 d6 t6 o6 ps6 tks6 ep6 hm6 htr6 hG6 ho6 F6 N6 l6 l6' => ?_)))); have l7 := l6; have l7' := l6'; (try k_lt l6); (try k_lt2 l6'); (try k_sweep); (try dsimp only)))
set_option maxRecDepth 100000 in
set_option maxHeartbeats 600000 in
theorem vo_news {NG : Nat} {p9 : Program} {lo9 : List Str} (w : World) (mean : ExcName → Option Value) (mg mb : Str → Option Value) (cn : Str) (cs : Scope) (a : Addr) (ccd : Value) (cl : List (Str × Addr)) (outer : List Env) (A₀ : Around) (base h₀ : Heap) (L : Addr) (m : Str → Option Value) (s : Shared)
   (Q E : Value → Shared → Prop) (l : Addr) (dl : Addr) (ks : List Nat) (tks : Nat → Tok) (epl : Nat) (wt : Int) (tw : Tok) (nc : Int) (tn : Tok)
   (B : Below A₀ base outer h₀) (F : Fr h₀ L s.heap m) (X : (hd.heap_39 w.params).In h₀) 
   (T : Top p9 lo9 mean mg mb h₀)
   (hk : cs.kind = .function) (rest : List (Addr × Obj)) (ps : Array Value) (N : News h₀ L s.heap ((52, tableObj ps) :: rest)) 
   (h52 : ∀ p ∈ rest, p.1 ≠ 52) (htr : TriplesOk ps.toList) (hG : GB NG s.gens) (hl : (l, csObj dl (esOf ks tks) epl (tabS ks (!bt w))) ∈ rest) (hks : ks ∈ subs) (hnc : ∀ k ∈ ks, (k : Int) < nc) (hw : 0 < wt)
   (hret : ∀ x dx y dy h' g' d' t' o' ps' tks' ep' k1 k2, (∃ more, ps' = ps ++ more) → TriplesOk ps'.toList → GB NG g' → o' = s.os → Fr h₀ L h' m → News h₀ L h' ((52, tableObj ps') :: (x, instObj 633 dx) :: (dx, dictOf [⟨PyData.keyHash w.params (Str.ofString "approved"), .str (Str.ofString "approved") k1, .ref y⟩, ⟨PyData.keyHash w.params (Str.ofString "weight"), .str (Str.ofString "weight") k2, .int wt tw⟩] 2) :: (y, csObj dy (esOf ks tks') ep' (tabS ks (!bt w))) :: (dy, dictOf [] 0) :: rest) → (∀ p ∈ (52, tableObj ps) :: rest, p.1 < dx) → dx < x → x < dy → dy < y → Q (.ref x) ⟨h', g', d', t', o'⟩) :
   wpAny (model PySem.Challenge.rw_bb0001_01.row.prog w) { handled := none, depth := 400, frames := some (envX cn cs L a ccd cl :: outer), guards := none, units := 60 } (call (.ref 633) [.ref l] [(Str.ofString "weight", .int wt tw), (Str.ofString "num_cand", .int nc tn)]) Q E s := by
  revert X
  k_fill
  intro X
  k_dflt (refine' call_cls ?k1 ?k2 ?k3 ?k4 ?k5 ?k6 ?_; (case k1 => k_asm); (case k2 => k_asm); (case k3 => k_asm); (case k4 => k_is); (case k5 => k_is); (case k6 => k_is); k_whole; intro x' d' h' F' N' l1 l2; have l1' := l1; have l2' := l2; (try k_lt l1); (try k_lt2 l2); (try k_sweep))
  k_dflt (refine' code_def ?k1 ?k2 ?k3 ?k4 ?k5 ?kA ?kF ?kK ?k6 ?k7 ?k8 ?k9 ?kB ?_ ?c2 ?c3 ?c4 ?c5; (case kA => exact rfl); (case kF => exact rfl); (case kK => assumption); (case k1 => k_asm); (case k2 => k_asm); (case k3 => k_asm); (case k4 => k_asm); (case k5 => k_asm); (case k6 => k_is); (case k7 => k_is); (case k8 => k_room); (case k9 => first | exact BindsTo.of_eq rfl | exact binds_K (by k_in) rfl (by k_is) rfl rfl rfl | fail "k_enter: no rule for these arguments"); (case c5 => decide); (case kB => exact locs rfl); (case c2 => exact rfl); (case c3 => exact rfl); (case c4 => exact rfl); k_whole; intro g' L' h' FG' F' N' B' X' T'; (try dsimp only); (try k_lift B'); (try k_fold))
  have h52' : ∀ p ∈ (x', instObj 633 d') :: (d', dictOf [] 0) :: rest, p.1 ≠ 52 := fun p hp => by
    rcases List.mem_cons.mp hp with rfl | hp
    · exact Nat.ne_of_gt (Nat.lt_trans (l1' _ (.head _)) l2')
    · rcases List.mem_cons.mp hp with rfl | hp
      · exact Nat.ne_of_gt (l1' _ (.head _))
      · exact h52 p hp
  k_steps
  refine hret x' d' x6 dx6 _ _ _ _ _ ps6 tks6 ep6 _ _ hm6 htr6 hG6 ho6 (by assumption) (cb_drop (by assumption) mem_vo) l1' l2' (l7 _ (.tail _ (.head _))) l7'
end Mine
end

/- VOM -/
section
open PySem.W.X (tableObj)
open PySem PySem.W PyProof.Rows PySem.Calls PySem.Spec
set_option linter.unusedVariables false
namespace Mine
theorem vo_new_m {NG : Nat} {A : Around} {p9 : Program} {lo9 : List Str} {w : World} {mean : ExcName → Option Value} {mg mb : Str → Option Value} {cn : Str} {cs : Scope} {a : Addr} {ccd : Value} {cl : List (Str × Addr)} {outer : List Env} {A₀ : Around} {base h₀ : Heap} {L : Addr} {m : Str → Option Value} {s : Shared}
   {Q E : Value → Shared → Prop} {led : List (Addr × Obj)} (l : Addr) (vs : Array Value) (ns : List Nat) (nl : Nat) (wt : Int) (tw : Tok)
   (hh : A.handled = none) (hdp : A.depth ≤ 400) (hfr : A.frames = some (envX cn cs L a ccd cl :: outer)) (hun : A.units ≤ 60)
   (B : Below A₀ base outer h₀) (F : Fr h₀ L s.heap m) (X : (hd.heap_39 w.params).In h₀) 
   (T : Top p9 lo9 mean mg mb h₀)
   (hk : cs.kind = .function) (N : News h₀ L s.heap led) (hT : Tab 52 led) (hG : GB NG s.gens) (hl : (l, ({ cls := .type "list", data := .seq vs nl } : Obj)) ∈ led) (hn : ns.length = vs.size) (hval : ∀ i v, vs[i]? = some v → ∃ t, v = Value.int ((ns.getD i 0 : Nat) : Int) t) (hlt : ∀ k ∈ ns, k < 4) (hnd : ns.Nodup) (hvz : vs.size ≤ 4) (hw : 0 < wt)
   (hret : ∀ x h' g' d' t' led', Fr h₀ L h' m → News h₀ L h' led' → (∀ p ∈ led, p.1 ≠ 52 → p ∈ led') → Tab 52 led' → GB NG g' → VoterAt w led' (.ref x) (insAll [] ns) wt → Q (.ref x) ⟨h', g', d', t', s.os⟩) :
   wpAny (model PySem.Challenge.rw_bb0001_01.row.prog w) A (call (.ref 633) [.ref l, .int wt tw]) Q E s := by
  obtain ⟨ps, hp, htr⟩ := hT
  refine wp_weaken hh hdp (.inr hfr) (.inl rfl) hun (vo_new w mean mg mb cn cs a ccd cl outer A₀ base h₀ L m s Q E l vs ns nl wt tw B F X T hk (off 52 led) ps (news_tab N hp) (fun p hp => (mem_off.mp hp).2) htr hG (mem_off.mpr ⟨hl, ne_tab N hp hl (fun fs e => by cases e)⟩) hn hval hlt hnd hvz hw ?_)
  intro x dx y dy h' g' d' t' o' ps' tks' ep' k1 k2 hm htr' hG' ho' F' N' l1 l2 l3 l4
  subst ho'
  exact hret x h' g' d' t' _ F' N' (fun p hp hne => .tail _ (.tail _ (.tail _ (.tail _ (.tail _ (mem_off.mpr ⟨hp, hne⟩)))))) ⟨ps', .head _, htr'⟩ hG' ⟨x, dx, y, dy, tks', ep', k1, k2, tw, rfl, .tail _ (.head _), .tail _ (.tail _ (.head _)), .tail _ (.tail _ (.tail _ (.head _))), .tail _ (.tail _ (.tail _ (.tail _ (.head _))))⟩
theorem vo_news_m {NG : Nat} {A : Around} {p9 : Program} {lo9 : List Str} {w : World} {mean : ExcName → Option Value} {mg mb : Str → Option Value} {cn : Str} {cs : Scope} {a : Addr} {ccd : Value} {cl : List (Str × Addr)} {outer : List Env} {A₀ : Around} {base h₀ : Heap} {L : Addr} {m : Str → Option Value} {s : Shared}
   {Q E : Value → Shared → Prop} {led : List (Addr × Obj)} (l dl : Addr) (ks : List Nat) (tks : Nat → Tok) (epl : Nat) (wt : Int) (tw : Tok) (nc : Int) (tn : Tok)
   (hh : A.handled = none) (hdp : A.depth ≤ 400) (hfr : A.frames = some (envX cn cs L a ccd cl :: outer)) (hun : A.units ≤ 60)
   (B : Below A₀ base outer h₀) (F : Fr h₀ L s.heap m) (X : (hd.heap_39 w.params).In h₀) 
   (T : Top p9 lo9 mean mg mb h₀)
   (hk : cs.kind = .function) (N : News h₀ L s.heap led) (hT : Tab 52 led) (hG : GB NG s.gens) (hl : (l, csObj dl (esOf ks tks) epl (tabS ks (!bt w))) ∈ led) (hks : ks ∈ subs) (hnc : ∀ k ∈ ks, (k : Int) < nc) (hw : 0 < wt)
   (hret : ∀ x h' g' d' t' led', Fr h₀ L h' m → News h₀ L h' led' → (∀ p ∈ led, p.1 ≠ 52 → p ∈ led') → Tab 52 led' → GB NG g' → VoterAt w led' (.ref x) ks wt → Q (.ref x) ⟨h', g', d', t', s.os⟩) :
   wpAny (model PySem.Challenge.rw_bb0001_01.row.prog w) A (call (.ref 633) [.ref l] [(Str.ofString "weight", .int wt tw), (Str.ofString "num_cand", .int nc tn)]) Q E s := by
  obtain ⟨ps, hp, htr⟩ := hT
  refine wp_weaken hh hdp (.inr hfr) (.inl rfl) hun (vo_news w mean mg mb cn cs a ccd cl outer A₀ base h₀ L m s Q E l dl ks tks epl wt tw nc tn B F X T hk (off 52 led) ps (news_tab N hp) (fun p hp => (mem_off.mp hp).2) htr hG (mem_off.mpr ⟨hl, ne_tab N hp hl (fun fs e => by cases e)⟩) hks hnc hw ?_)
  intro x dx y dy h' g' d' t' o' ps' tks' ep' k1 k2 hm htr' hG' ho' F' N' l1 l2 l3 l4
  subst ho'
  exact hret x h' g' d' t' _ F' N' (fun p hp hne => .tail _ (.tail _ (.tail _ (.tail _ (.tail _ (mem_off.mpr ⟨hp, hne⟩)))))) ⟨ps', .head _, htr'⟩ hG' ⟨x, dx, y, dy, tks', ep', k1, k2, tw, rfl, .tail _ (.head _), .tail _ (.tail _ (.head _)), .tail _ (.tail _ (.tail _ (.head _))), .tail _ (.tail _ (.tail _ (.tail _ (.head _))))⟩
end Mine
end

/- UV -/
section
open PySem.W.X (tableObj)
open PySem PySem.W PyProof.Rows PySem.Calls PySem.Spec
set_option linter.unusedVariables false
namespace Mine
theorem inst_vot {h₀ h : Heap} {L x dx : Addr} {news : List (Addr × Obj)} {od : Obj} (N : News h₀ L h news) (h1 : (x, instObj 633 dx) ∈ news) (h2 : (dx, od) ∈ news) :
    InstAt h x { cls := .ref 633, dict := some dx, data := .plain } 633 (some od) := ⟨(N _ h1).1, rfl, rfl, (N _ h2).1⟩
local macro_rules | `(tactic| k_mem) => `(tactic| first | assumption | exact List.Mem.head _ | (refine List.Mem.tail _ ?_; k_mem))
local macro_rules | `(tactic| k_inst) => `(tactic| (first | (refine' inst_vot ?N ?h1 ?h2; (case N => k_asm); (case h1 => k_mem); (case h2 => k_mem)) | (refine' inst_prof ?N ?h1 ?h2; (case N => k_asm); (case h1 => k_mem); (case h2 => k_mem))))
local macro_rules | `(tactic| wtm_at "own call ref") => `(tactic| refine Halt9.intro ?_)
local macro_rules | `(tactic| wtm_at "own call builtin:len") => `(tactic| (k_here; (refine len_l (by assumption) (by k_mem) (by omega) ?_); intro t8 tk8; (try dsimp only)))
set_option maxRecDepth 100000 in
set_option maxHeartbeats 2000000 in
theorem uv502 {p9 : Program} {lo9 : List Str} (w : World) (mean : ExcName → Option Value) (mg mb : Str → Option Value) (cn : Str) (cs : Scope) (a : Addr) (ccd : Value) (cl : List (Str × Addr)) (outer : List Env) (A₀ : Around) (base h₀ : Heap) (L : Addr) (m : Str → Option Value) (news : List (Addr × Obj)) (s : Shared)
   (Q E : Value → Shared → Prop) (p vx lv : Addr) (n : Nat) (ks : List Nat) (wt : Int) (NG : Nat)
   (B : Below A₀ base outer h₀) (F : Fr h₀ L s.heap m) (X : (hd.heap_39 w.params).In h₀) (N : News h₀ L s.heap news)
   (T : Top p9 lo9 mean mg mb h₀)
   (hk : cs.kind = .function) (hp : ProfAt w news p n lv) (hn : n = 3 ∨ n = 4) (hv : VoterAt w news (.ref vx) ks wt) (hks : ks ∈ subs) (hkn : ∀ k ∈ ks, k < n) (hw : 0 < wt) (hT : Tab 52 news) (hG : GB NG s.gens)
   (hret : ∀ x h' g' d' t' led', Fr h₀ L h' m → News h₀ L h' led' → (∀ p ∈ news, p.1 ≠ 52 → p ∈ led') → Tab 52 led' → GB NG g' → VoterAt w led' (.ref x) ks wt → Q (.ref x) ⟨h', g', d', t', s.os⟩) :
   wpAny (model PySem.Challenge.rw_bb0001_01.row.prog w) { handled := none, depth := 390, frames := some (envX cn cs L a ccd cl :: outer), guards := none, units := 50 } (call (.ref 502) [.ref p, .ref vx]) Q E s := by
  obtain ⟨dp, lc, ln, k1, k2, k3, vs, nl, hp1, hp2, hp3, hvs, -⟩ := hp
  obtain ⟨x, dx, y, dy, tks, ep, j1, j2, tw, he, hv1, hv2, hv3, hv4⟩ := hv
  subst hvs
  cases he
  revert X
  k_fill
  intro X
  refine wpAny_call ?_
  k_dflt (refine' code_def ?k1 ?k2 ?k3 ?k4 ?k5 ?kA ?kF ?kK ?k6 ?k7 ?k8 ?k9 ?kB ?_ ?c2 ?c3 ?c4 ?c5; (case kA => exact rfl); (case kF => exact rfl); (case kK => assumption); (case k1 => k_asm); (case k2 => k_asm); (case k3 => k_asm); (case k4 => k_asm); (case k5 => k_asm); (case k6 => k_is); (case k7 => k_is); (case k8 => k_room); (case k9 => first | exact BindsTo.of_eq rfl | exact binds_K (by k_in) rfl (by k_is) rfl rfl rfl | fail "k_enter: no rule for these arguments"); (case c5 => decide); (case kB => exact locs rfl); (case c2 => exact rfl); (case c3 => exact rfl); (case c4 => exact rfl); k_whole; intro g' L' h' FG' F' N' B' X' T'; (try dsimp only); (try k_lift B'); (try k_fold))
  k_steps
  refine Halt9.out ?_
  rename Fr _ _ _ _ => FF
  rename News _ _ _ _ => NN
  refine vo_news_m y dy ks tks ep wt _ _ _ rfl (Nat.le_of_ble_eq_true rfl) rfl (Nat.le_of_ble_eq_true rfl) (by assumption) FF (by assumption) (by assumption) rfl NN hT hG hv3 hks (fun k hk => by have := hkn k hk; omega) hw ?_
  intro x5 h5 g5 d5 t5 led5 F5 N5 sub5 T5 G5 V5
  k_steps
  exact hret _ _ _ _ _ _ (by assumption) (by assumption) sub5 T5 G5 V5
theorem uv502_u {A : Around} {p9 : Program} {lo9 : List Str} {w : World} {mean : ExcName → Option Value} {mg mb : Str → Option Value} {cn : Str} {cs : Scope} {a : Addr} {ccd : Value} {cl : List (Str × Addr)} {outer : List Env} {A₀ : Around} {base h₀ : Heap} {L : Addr} {m : Str → Option Value} {news : List (Addr × Obj)} {s : Shared}
   {Q E : Value → Shared → Prop}
   (hh : A.handled = none) (hdp : A.depth ≤ 390) (hfr : A.frames = some (envX cn cs L a ccd cl :: outer)) (hun : A.units ≤ 50) (p vx lv : Addr) (n : Nat) (ks : List Nat) (wt : Int) (NG : Nat)
   (B : Below A₀ base outer h₀) (F : Fr h₀ L s.heap m) (X : (hd.heap_39 w.params).In h₀) (N : News h₀ L s.heap news)
   (T : Top p9 lo9 mean mg mb h₀)
   (hk : cs.kind = .function) (hp : ProfAt w news p n lv) (hn : n = 3 ∨ n = 4) (hv : VoterAt w news (.ref vx) ks wt) (hks : ks ∈ subs) (hkn : ∀ k ∈ ks, k < n) (hw : 0 < wt) (hT : Tab 52 news) (hG : GB NG s.gens)
   (hret : ∀ x h' g' d' t' led', Fr h₀ L h' m → News h₀ L h' led' → (∀ p ∈ news, p.1 ≠ 52 → p ∈ led') → Tab 52 led' → GB NG g' → VoterAt w led' (.ref x) ks wt → Q (.ref x) ⟨h', g', d', t', s.os⟩) :
   wpAny (model PySem.Challenge.rw_bb0001_01.row.prog w) A (call (.ref 502) [.ref p, .ref vx]) Q E s :=
  wp_weaken hh hdp (.inr hfr) (.inl rfl) hun (uv502 w mean mg mb cn cs a ccd cl outer A₀ base h₀ L m news s Q E p vx lv n ks wt NG B F X N T hk hp hn hv hks hkn hw hT hG hret)

local macro_rules | `(tactic| wtm_at "own getMethod ref") => `(tactic| ((with_reducible show wpAny _ _ (getMethod _ (Str.ofString "append") _) _ _ _); refine Halt9.intro ?_))
local macro_rules | `(tactic| wtm_at "own call builtin:list.append") => `(tactic| refine Halt9.intro ?_)
set_option maxRecDepth 100000 in
set_option maxHeartbeats 2000000 in
theorem av509 {p9 : Program} {lo9 : List Str} (w : World) (mean : ExcName → Option Value) (mg mb : Str → Option Value) (cn : Str) (cs : Scope) (a : Addr) (ccd : Value) (cl : List (Str × Addr)) (outer : List Env) (A₀ : Around) (base h₀ : Heap) (L : Addr) (m : Str → Option Value) (news : List (Addr × Obj)) (s : Shared)
   (Q E : Value → Shared → Prop) (p vx lv : Addr) (n : Nat) (ks : List Nat) (wt : Int) (vv : Array Value) (nlv : Nat) (NG : Nat)
   (B : Below A₀ base outer h₀) (F : Fr h₀ L s.heap m) (X : (hd.heap_39 w.params).In h₀) (N : News h₀ L s.heap news)
   (T : Top p9 lo9 mean mg mb h₀)
   (hk : cs.kind = .function) (hp : ProfAt w news p n lv) (hn : n = 3 ∨ n = 4) (hlv : (lv, ({ cls := .type "list", data := .seq vv nlv } : Obj)) ∈ news) (hvz : vv.size ≤ 9) (hv : VoterAt w news (.ref vx) ks wt) (hks : ks ∈ subs) (hkn : ∀ k ∈ ks, k < n) (hw : 0 < wt) (hT : Tab 52 news) (hG : GB NG s.gens)
   (hret : ∀ x h' g' d' t' led', Fr h₀ L h' m → News h₀ L h' led' → (∀ p ∈ news, p.1 ≠ 52 → p.1 ≠ lv → p ∈ led') → Tab 52 led' → GB NG g' → VoterAt w led' (.ref x) ks wt → (lv, ({ cls := .type "list", data := .seq (vv.push (.ref x)) (nlv + 1) } : Obj)) ∈ led' → Q .none ⟨h', g', d', t', s.os⟩) :
   wpAny (model PySem.Challenge.rw_bb0001_01.row.prog w) { handled := none, depth := 380, frames := some (envX cn cs L a ccd cl :: outer), guards := none, units := 40 } (call (.ref 509) [.ref p, .ref vx]) Q E s := by
  have hp0 := hp
  obtain ⟨dp, lc, ln, k1, k2, k3, vs, nl, hp1, hp2, hp3, hvs, hlne⟩ := hp
  revert X
  k_fill
  intro X
  refine wpAny_call ?_
  k_dflt (refine' code_def ?k1 ?k2 ?k3 ?k4 ?k5 ?kA ?kF ?kK ?k6 ?k7 ?k8 ?k9 ?kB ?_ ?c2 ?c3 ?c4 ?c5; (case kA => exact rfl); (case kF => exact rfl); (case kK => assumption); (case k1 => k_asm); (case k2 => k_asm); (case k3 => k_asm); (case k4 => k_asm); (case k5 => k_asm); (case k6 => k_is); (case k7 => k_is); (case k8 => k_room); (case k9 => first | exact BindsTo.of_eq rfl | exact binds_K (by k_in) rfl (by k_is) rfl rfl rfl | fail "k_enter: no rule for these arguments"); (case c5 => decide); (case kB => exact locs rfl); (case c2 => exact rfl); (case c3 => exact rfl); (case c4 => exact rfl); k_whole; intro g' L' h' FG' F' N' B' X' T'; (try dsimp only); (try k_lift B'); (try k_fold))
  k_steps
  refine Halt9.out ?_
  rename Fr _ _ _ _ => FF
  rename News _ _ _ _ => NN
  refine gm_append NN hlv ?_
  k_steps
  refine Halt9.out ?_
  rename Fr _ _ _ _ => FF
  rename News _ _ _ _ => NN
  refine uv502_u rfl (Nat.le_of_ble_eq_true rfl) rfl (Nat.le_of_ble_eq_true rfl) p vx lv n ks wt NG (by assumption) FF (by assumption) NN (by assumption) rfl hp0 hn hv hks hkn hw hT hG ?_
  intro x5 h5 g5 d5 t5 led5 F5 N5 sub5 T5 G5 V5
  have n52 : lv ≠ 52 := by
    obtain ⟨ps, hps, _⟩ := hT
    exact ne_tab N hps hlv (fun fs e => by cases e)
  have hlv5 := sub5 _ hlv n52
  k_steps
  refine Halt9.out ?_
  refine append_led F5 N5 hlv5 hvz fun h6 F6 N6 => ?_
  k_steps
  have up : ∀ q ∈ led5, q.1 ≠ lv → q ∈ put lv { cls := .type "list", data := .seq (vv.push (.ref x5)) (nlv + 1) } led5 := fun q hq hne => mem_put hq hne

  refine hret x5 _ _ _ _ _ (by assumption) (by assumption) (fun q hq a1 a2 => up q (sub5 q hq a1) a2) (T5.mono fun q hq e => up q hq (e ▸ n52.symm)) G5 ?_ mem_put_self
  obtain ⟨x, dx, y, dy, tks, ep, j1, j2, tw, he, v1, v2, v3, v4⟩ := V5
  exact ⟨x, dx, y, dy, tks, ep, j1, j2, tw, he, up _ v1 (News.ne_data N5 v1 hlv5 (fun e => by cases e)), up _ v2 (News.ne_data N5 v2 hlv5 (fun e => by cases e)), up _ v3 (News.ne_data N5 v3 hlv5 (fun e => by cases e)), up _ v4 (News.ne_data N5 v4 hlv5 (fun e => by cases e))⟩
theorem av509_u {A : Around} {p9 : Program} {lo9 : List Str} {w : World} {mean : ExcName → Option Value} {mg mb : Str → Option Value} {cn : Str} {cs : Scope} {a : Addr} {ccd : Value} {cl : List (Str × Addr)} {outer : List Env} {A₀ : Around} {base h₀ : Heap} {L : Addr} {m : Str → Option Value} {news : List (Addr × Obj)} {s : Shared}
   {Q E : Value → Shared → Prop}
   (hh : A.handled = none) (hdp : A.depth ≤ 380) (hfr : A.frames = some (envX cn cs L a ccd cl :: outer)) (hun : A.units ≤ 40) (p vx lv : Addr) (n : Nat) (ks : List Nat) (wt : Int) (vv : Array Value) (nlv : Nat) (NG : Nat)
   (B : Below A₀ base outer h₀) (F : Fr h₀ L s.heap m) (X : (hd.heap_39 w.params).In h₀) (N : News h₀ L s.heap news)
   (T : Top p9 lo9 mean mg mb h₀)
   (hk : cs.kind = .function) (hp : ProfAt w news p n lv) (hn : n = 3 ∨ n = 4) (hlv : (lv, ({ cls := .type "list", data := .seq vv nlv } : Obj)) ∈ news) (hvz : vv.size ≤ 9) (hv : VoterAt w news (.ref vx) ks wt) (hks : ks ∈ subs) (hkn : ∀ k ∈ ks, k < n) (hw : 0 < wt) (hT : Tab 52 news) (hG : GB NG s.gens)
   (hret : ∀ x h' g' d' t' led', Fr h₀ L h' m → News h₀ L h' led' → (∀ p ∈ news, p.1 ≠ 52 → p.1 ≠ lv → p ∈ led') → Tab 52 led' → GB NG g' → VoterAt w led' (.ref x) ks wt → (lv, ({ cls := .type "list", data := .seq (vv.push (.ref x)) (nlv + 1) } : Obj)) ∈ led' → Q .none ⟨h', g', d', t', s.os⟩) :
   wpAny (model PySem.Challenge.rw_bb0001_01.row.prog w) A (call (.ref 509) [.ref p, .ref vx]) Q E s :=
  wp_weaken hh hdp (.inr hfr) (.inl rfl) hun (av509 w mean mg mb cn cs a ccd cl outer A₀ base h₀ L m news s Q E p vx lv n ks wt vv nlv NG B F X N T hk hp hn hlv hvz hv hks hkn hw hT hG hret)

end Mine
end

/- TupC -/
section
open PySem PySem.W PyProof.Rows PySem.Calls PySem.Spec
set_option linter.unusedVariables false
namespace Mine
section
variable {prog : Program} {w : World} {A : Around} {E : Value → Shared → Prop} {s : Shared} {env : Env} {h₀ : Heap} {target : Expr} {body : List Stmt} {Q : Flow → Shared → Prop}
theorem iter_c_tuple {l : Addr} {vs : Array Value} {nt : Nat} {m : Str → Option Value} {led : List (Addr × Obj)} (J : Nat → (Str → Option Value) → List (Addr × Obj) → Array GenState → Prop)
    (hh : A.handled = none) (hneed : ∀ i m led g, J i m led g → (l, ({ cls := .type "tuple", data := .seq vs nt } : Obj)) ∈ led) (F : Fr h₀ env.locals s.heap m) (N : News h₀ env.locals s.heap led) (h0 : J 0 m led s.gens)
    (turn : ∀ i v m₁ led₁ I io h g d t, i < vs.size → vs[i]? = some v → J i m₁ led₁ g → (∀ p ∈ led₁, p.1 ≠ I) → (∃ fs, io.data = .fields fs) → Fr h₀ env.locals h m₁ → News h₀ env.locals h ((I, io) :: led₁) →
      TurnG prog w A h₀ env target body I io (J (i + 1)) s.os Q E v ⟨h, g, d, t, s.os⟩)
    (done : ∀ m₁ led₁ h g d t, J vs.size m₁ led₁ g → Fr h₀ env.locals h m₁ → News h₀ env.locals h led₁ → Q .next ⟨h, g, d, t, s.os⟩)
    (hE : PassesOwn (model prog w) A env E := by passes_own)
    (ht : ∀ (I : Addr) v, letOwnedTupleGo target (.ref I) v = pure () := by intro _ _; rfl) :
    wpAny (model prog w) A (pyIter (.ref l)) (LoopC prog w A env target body Q E) E s := by
  have hl := hneed _ _ _ _ h0
  have hls : s.heap.IsTuple l vs := ⟨_, (N _ hl).1, rfl, _, rfl⟩
  have hne : l ≠ s.heap.objs.size := Nat.ne_of_lt (Heap.lt_size (N _ hl).1)
  refine wpAny_pyIter_tuple hls ?_
  refine loop_c (need := [(l, { cls := .type "tuple", data := .seq vs nt })]) (s := { s with heap := s.heap.push { cls := .type "tuple_iterator", data := .fields #[.ref l, .int 0 0] } }) J (Walks.tuple hh s.heap.objs.size l hne vs) ?_ ?_ (next_is_new F) (Nat.ne_of_gt F.ns.lt) ?_ ⟨⟨_, Heap.get?_push_size _ rfl, rfl, rfl⟩, hls.at fun o e => Heap.get?_push_of_some _ e⟩ (F.push _) (fun p hp => ⟨Heap.get?_push_of_some _ (N p hp).1, (N p hp).2⟩) (fun p hp => Nat.ne_of_lt (Heap.lt_size (N p hp).1)) h0 turn done hE ht
  · intro b hb
    rcases List.mem_cons.mp hb with rfl | hb
    · exact .inl rfl
    · rw [List.mem_singleton.mp hb]; exact .inr ⟨_, List.mem_singleton.mpr rfl⟩
  · rintro i h ⟨⟨o, e, c, d⟩, _⟩
    exact ⟨o, e, _, d⟩
  · intro i m led g hJ p hp
    rw [List.mem_singleton.mp hp]; exact hneed _ _ _ _ hJ
theorem iter_tup1 {l : Addr} {v : Value} {nt : Nat} {m : Str → Option Value} {led : List (Addr × Obj)} (K : (Str → Option Value) → List (Addr × Obj) → Prop)
    (hh : A.handled = none) (hl : (l, ({ cls := .type "tuple", data := .seq #[v] nt } : Obj)) ∈ led) (hK : ∀ m led, K m led → (l, ({ cls := .type "tuple", data := .seq #[v] nt } : Obj)) ∈ led) (F : Fr h₀ env.locals s.heap m) (N : News h₀ env.locals s.heap led)
    (turn : ∀ I io h g d t, g = s.gens → (∀ p ∈ led, p.1 ≠ I) → (∃ fs, io.data = .fields fs) → Fr h₀ env.locals h m → News h₀ env.locals h ((I, io) :: led) →
      TurnG prog w A h₀ env target body I io (fun m led g => g = s.gens ∧ K m led) s.os Q E v ⟨h, g, d, t, s.os⟩)
    (done : ∀ m₁ led₁ h d t, K m₁ led₁ → Fr h₀ env.locals h m₁ → News h₀ env.locals h led₁ → Q .next ⟨h, s.gens, d, t, s.os⟩)
    (hE : PassesOwn (model prog w) A env E := by passes_own)
    (ht : ∀ (I : Addr) v, letOwnedTupleGo target (.ref I) v = pure () := by intro _ _; rfl) :
    wpAny (model prog w) A (pyIter (.ref l)) (LoopC prog w A env target body Q E) E s := by
  refine iter_c_tuple (vs := #[v]) (nt := nt) (fun i m' led' g => g = s.gens ∧ (if i = 0 then m' = m ∧ led' = led else K m' led')) hh (fun i m led g hJ => ?_) F N ⟨rfl, by simp⟩ ?_ ?_ hE ht
  · by_cases hi : i = 0
    · rw [if_pos hi] at hJ; rw [hJ.2.2]; exact hl
    · rw [if_neg hi] at hJ; exact hK _ _ hJ.2
  · intro i v' m₁ led₁ I io h g d t hi hv hJ hoff hio F' N'
    obtain rfl : i = 0 := Nat.lt_one_iff.mp hi
    obtain rfl : v = v' := by simpa using hv
    obtain ⟨hg, rfl, rfl⟩ : g = s.gens ∧ m₁ = m ∧ led₁ = led := by simpa using hJ
    have h := turn I io h g d t hg hoff hio F' N'
    simpa using h
  · intro m₁ led₁ h g d t hJ F' N'
    obtain ⟨rfl, hJ⟩ := hJ
    exact done m₁ led₁ h d t (by simpa using hJ) F' N'
end
end Mine
end

/- SkipIf -/
section
open PySem PySem.W PyProof.Rows PySem.Calls PySem.Spec
set_option linter.unusedVariables false
namespace Mine
section
variable {prog : Program} {w : World} {A : Around} {E : Value → Shared → Prop} {s : Shared} {env : Env} {Q : Flow → Shared → Prop}
theorem execs_one {st : Stmt} (h : wpAny (model prog w) A (exec st env) Q E s) : wpAny (model prog w) A (execs [st] env) Q E s :=
  wpAny_execs_cons (wpAny_mono h (fun f s' hq => by cases f <;> first | exact hq | exact wpAny_pure hq) fun _ _ e => e)
theorem skip_eq {x v c : Str} {t : Tok} {m : Str → Option Value} {p1 p2 p3 p4 : Pos} {kt : Nat} {body orelse : List Stmt} {hp : Heap} {gs : Array GenState} {dr : Drawn} {tk : Tok} {os : _} (hn : hp.Ns env.locals m) (hm : m x = some (.str v t)) (hne : (v == c) = false)
    (h : ∀ tk', wpAny (model prog w) A (execs orelse env) Q E ⟨hp, gs, dr, tk', os⟩)
    (hk : env.scope.kind = .function := by exact rfl) (hx : env.kindOf x = some .local := by exact rfl) (hd : (x == ("__debug__" : Str)) = false := by exact rfl) :
    wpAny (model prog w) A (exec (.If (.Compare (.Name x p1) [.Eq] [.Constant (.str c) kt p2] p3) body orelse p4) env) Q E ⟨hp, gs, dr, tk, os⟩ := by
  refine wpAny_If (wpAny_isTrue_Compare1 (wpAny_Name (wpAny_loadName_local hk hx hn hm ?_) hd) (by rfl))
  refine wpAny_Constant_str (PyProof.Rows.eq_str ?_)
  rw [hne]
  exact wpAny_truthy_bool (h _)
end
end Mine
end

/- RK -/
section
open PySem PySem.W PyProof.Rows PySem.Calls PySem.Spec
set_option linter.unusedVariables false
namespace Mine
def rdict (w : World) (k1 k2 k3 k4 k5 k6 : Tok) (v1 v2 v3 : Value) (la rv lv : Addr) : Obj := dictOf [⟨PyData.keyHash w.params (Str.ofString "rule_id"), .str (Str.ofString "rule_id") k1, v1⟩, ⟨PyData.keyHash w.params (Str.ofString "shortname"), .str (Str.ofString "shortname") k2, v2⟩, ⟨PyData.keyHash w.params (Str.ofString "longname"), .str (Str.ofString "longname") k3, v3⟩, ⟨PyData.keyHash w.params (Str.ofString "algorithms"), .str (Str.ofString "algorithms") k4, .ref la⟩, ⟨PyData.keyHash w.params (Str.ofString "resolute_values"), .str (Str.ofString "resolute_values") k5, .ref rv⟩, ⟨PyData.keyHash w.params (Str.ofString "available_algorithms"), .str (Str.ofString "available_algorithms") k6, .ref lv⟩] 6
/-- a Rule that knows one algorithm, the standard one -/
def RuleAt1 (w : World) (led : List (Addr × Obj)) (x la : Addr) (nt : Nat) (ta : Tok) : Prop := ∃ dx k1 k2 k3 k4 k5 k6 v1 v2 v3 lv tb nl, (x, instObj 369 dx) ∈ led ∧ (dx, rdict w k1 k2 k3 k4 k5 k6 v1 v2 v3 la 344 lv) ∈ led ∧ (la, ({ cls := .type "tuple", data := .seq #[.str (Str.ofString "standard") ta] nt } : Obj)) ∈ led ∧ (lv, ({ cls := .type "list", data := .seq #[.str (Str.ofString "standard") tb] nl } : Obj)) ∈ led
def RuleAt (w : World) (led : List (Addr × Obj)) (x : Addr) : Prop := ∃ la nt ta, RuleAt1 w led x la nt ta
theorem rk_adr {h₀ h : Heap} {L lv la x dx : Addr} {o1 o3 o4 : Obj} {led : List (Addr × Obj)} {ta : Tok} {nt : Nat} (_ : News h₀ L h ((lv, o1) :: (la, ({ cls := .type "tuple", data := .seq #[.str (Str.ofString "standard") ta] nt } : Obj)) :: (x, o3) :: (dx, o4) :: led)) : ∃ a b c d, a = lv ∧ b = la ∧ c = ta ∧ d = nt := ⟨_, _, _, _, rfl, rfl, rfl, rfl⟩
def avs : List Str := [Str.ofString "branch-and-bound", Str.ofString "brute-force", Str.ofString "standard", Str.ofString "standard-fractions"]
theorem av_words {w : World} {h : Heap} (X : (hd.heap_39 w.params).In h) : KTD.Words h 440 avs ∧ PySem.Challenge.rw_bb0001_01.row.prog = PySem.Challenge.rw_bb0001_01.row.prog := by
  revert X; k_fill; intro X
  exact ⟨⟨_, ⟨_, X 440 _ (by k_is), rfl, _, rfl⟩, .cons _ _ (.cons _ _ (.cons _ _ (.cons _ _ .nil)))⟩, rfl⟩
theorem av_std : KTD.inWords (Str.ofString "standard") avs = true := by decide
theorem in_std {w : World} {prog : Program} {A : Around} {E : Value → Shared → Prop} {s : Shared} {h₀ : Heap} {L : Addr} {m : Str → Option Value} {t : Tok} {Q : Value → Shared → Prop} (X : (hd.heap_39 w.params).In h₀) (F : Fr h₀ L s.heap m) (h : Q (.bool true) s) : wpAny (model prog w) A (compareOp .In (.str (Str.ofString "standard") t) (.ref 440)) Q E s :=
  KTD.in_words (av_words (X.keeps F.keep)).1 (fun _ _ e => e) (by rw [av_std]; exact h)
local macro_rules | `(tactic| wtm_at "own execs cons Assign cons") => `(tactic| (k_here; (try k_gentoks); (with_reducible refine wpAny_execs_cons ?_); (try dsimp only)))
local macro_rules | `(tactic| k_mem) => `(tactic| first | assumption | exact List.Mem.head _ | (refine List.Mem.tail _ ?_; k_mem))
local macro_rules | `(tactic| wtm_at "own exec For Name Attribute cons nil") => `(tactic| refine Halt9.intro ?_)
local macro_rules | `(tactic| wtm_at "own pyIter ref") => `(tactic| refine Halt9.intro ?_)
local macro_rules | `(tactic| wtm_at "own compareOp In str ref") => `(tactic| (k_here; refine in_std (by assumption) (by assumption) ?_; (try dsimp only)))
local macro_rules | `(tactic| wtm_at "own exec If") => `(tactic| refine Halt9.intro ?_)
local macro_rules | `(tactic| wtm_at "own ite") => `(tactic| (k_closed; with_reducible first | refine ite_tb (by kernel_rfl!) ?_ | refine ite_fb (by kernel_rfl!) ?_))
set_option maxRecDepth 100000 in
set_option maxHeartbeats 2000000 in
theorem rk0 {p9 : Program} {lo9 : List Str} (w : World) (mean : ExcName → Option Value) (mg mb : Str → Option Value) (cn : Str) (cs : Scope) (a : Addr) (ccd : Value) (cl : List (Str × Addr)) (outer : List Env) (A₀ : Around) (base h₀ : Heap) (L : Addr) (m : Str → Option Value) (news : List (Addr × Obj)) (s : Shared)
   (Q E : Value → Shared → Prop) (t : Tok)
   (B : Below A₀ base outer h₀) (F : Fr h₀ L s.heap m) (X : (hd.heap_39 w.params).In h₀) (N : News h₀ L s.heap news)
   (T : Top p9 lo9 mean mg mb h₀)
   (hk : cs.kind = .function) (hret : ∀ x h' d' t' led', Fr h₀ L h' m → News h₀ L h' led' → (∀ p ∈ news, p ∈ led') → RuleAt w led' x → Q (.ref x) ⟨h', s.gens, d', t', s.os⟩) :
   wpAny (model PySem.Challenge.rw_bb0001_01.row.prog w) { handled := none, depth := 400, frames := some (envX cn cs L a ccd cl :: outer), guards := none, units := 35 } (call (.ref 369) [.str (Str.ofString "seqpav") t]) Q E s := by
  revert X
  k_fill
  intro X
  k_dflt (refine' call_cls ?k1 ?k2 ?k3 ?k4 ?k5 ?k6 ?_; (case k1 => k_asm); (case k2 => k_asm); (case k3 => k_asm); (case k4 => k_is); (case k5 => k_is); (case k6 => k_is); k_whole; intro x' d' h' F' N' l1 l2; have l1' := l1; have l2' := l2; (try k_lt l1); (try k_lt2 l2); (try k_sweep))
  k_dflt (refine' code_def ?k1 ?k2 ?k3 ?k4 ?k5 ?kA ?kF ?kK ?k6 ?k7 ?k8 ?k9 ?kB ?_ ?c2 ?c3 ?c4 ?c5; (case kA => exact rfl); (case kF => exact rfl); (case kK => assumption); (case k1 => k_asm); (case k2 => k_asm); (case k3 => k_asm); (case k4 => k_asm); (case k5 => k_asm); (case k6 => k_is); (case k7 => k_is); (case k8 => k_room); (case k9 => first | exact BindsTo.of_eq rfl | exact binds_K (by k_in) rfl (by k_is) rfl rfl rfl | fail "k_enter: no rule for these arguments"); (case c5 => decide); (case kB => exact locs rfl); (case c2 => exact rfl); (case c3 => exact rfl); (case c4 => exact rfl); k_whole; intro g' L' h' FG' F' N' B' X' T'; (try dsimp only); (try k_lift B'); (try k_fold))
  k_steps
  refine Halt9.out ?_
  rename Fr _ _ _ _ => FF
  iterate 7 (refine skip_eq (FF).ns (by exact rfl) (by decide) (fun tk => ?_) (by exact rfl) (by exact rfl) (by exact rfl); refine execs_one ?_)
  refine wpAny_If ?_
  k_steps
  refine Halt9.out ?_
  refine For_c ?_
  k_steps
  refine Halt9.out ?_
  rename Fr _ _ _ _ => FF
  rename News _ _ _ _ => NN
  obtain ⟨lv, la, ta, nt, e1, e2, e3, e4⟩ := rk_adr NN
  subst e1 e2
  have LL : la < lv ∧ x' < lv ∧ d' < lv ∧ AllLt lv news := by assumption
  refine iter_tup1 (fun m led => (∀ q ∈ news, q ∈ led) ∧ RuleAt1 w led x' la _ _) rfl (.tail _ (.head _)) (fun m led h => by obtain ⟨-, dx, k1, k2, k3, k4, k5, k6, v1, v2, v3, lv, tb, nl, a, b, c, d⟩ := h; exact c) FF NN ?_ ?_
  · rintro I io h g d t9 rfl hoff ⟨fs, hfs⟩ F2 N2
    refine turn_name F2 N2 rfl rfl fun h3 t3 F3 N3 => ?_
    k_steps
    refine Halt9.out ?_
    refine wpAny_If ?_
    k_steps
    rename Fr _ _ _ _ => FF4
    rename News _ _ _ _ => NN4
    refine append_led FF4 NN4 (.tail _ (.head _)) (Nat.zero_le _) fun h5 F5 N5 => ?_
    k_steps
    have ilv : lv ≠ I := hoff _ (.head _)
    have ne (q : Addr × Obj) (hq : q ∈ news) : q.1 ≠ lv := Nat.ne_of_lt (allLt_mem LL.2.2.2 q hq)
    refine ⟨_, _, F5, N5, mem_put (.head _) (Ne.symm (hoff _ (.head _))), ⟨rfl, fun q hq => mem_off.mpr ⟨mem_put (.tail _ (.tail _ (.tail _ (.tail _ (.tail _ hq))))) (ne q hq), hoff _ (.tail _ (.tail _ (.tail _ (.tail _ hq))))⟩, d', _, _, _, _, _, _, _, _, _, lv, _, _, mem_off.mpr ⟨mem_put (.tail _ (.tail _ (.tail _ (.head _)))) (Nat.ne_of_lt LL.2.1), hoff _ (.tail _ (.tail _ (.head _)))⟩, mem_off.mpr ⟨mem_put (.tail _ (.tail _ (.tail _ (.tail _ (.head _))))) (Nat.ne_of_lt LL.2.2.1), hoff _ (.tail _ (.tail _ (.tail _ (.head _))))⟩, mem_off.mpr ⟨mem_put (.tail _ (.tail _ (.head _))) (Nat.ne_of_lt LL.1), hoff _ (.tail _ (.head _))⟩, mem_off.mpr ⟨mem_put_self, ilv⟩⟩, rfl⟩
  · intro m₁ led₁ h d t9 hK F2 N2
    k_steps
    exact hret x' _ _ _ led₁ (by assumption) (by assumption) hK.1 ⟨_, _, _, hK.2⟩
theorem rk0_u {A : Around} {p9 : Program} {lo9 : List Str} {w : World} {mean : ExcName → Option Value} {mg mb : Str → Option Value} {cn : Str} {cs : Scope} {a : Addr} {ccd : Value} {cl : List (Str × Addr)} {outer : List Env} {A₀ : Around} {base h₀ : Heap} {L : Addr} {m : Str → Option Value} {news : List (Addr × Obj)} {s : Shared}
   {Q E : Value → Shared → Prop}
   (hh : A.handled = none) (hdp : A.depth ≤ 400) (hfr : A.frames = some (envX cn cs L a ccd cl :: outer)) (hun : A.units ≤ 35) (t : Tok)
   (B : Below A₀ base outer h₀) (F : Fr h₀ L s.heap m) (X : (hd.heap_39 w.params).In h₀) (N : News h₀ L s.heap news)
   (T : Top p9 lo9 mean mg mb h₀)
   (hk : cs.kind = .function) (hret : ∀ x h' d' t' led', Fr h₀ L h' m → News h₀ L h' led' → (∀ p ∈ news, p ∈ led') → RuleAt w led' x → Q (.ref x) ⟨h', s.gens, d', t', s.os⟩) :
   wpAny (model PySem.Challenge.rw_bb0001_01.row.prog w) A (call (.ref 369) [.str (Str.ofString "seqpav") t]) Q E s :=
  wp_weaken hh hdp (.inr hfr) (.inl rfl) hun (rk0 w mean mg mb cn cs a ccd cl outer A₀ base h₀ L m news s Q E t B F X N T hk hret)
set_option maxRecDepth 100000 in
set_option maxHeartbeats 2000000 in
theorem rk1 {p9 : Program} {lo9 : List Str} (w : World) (mean : ExcName → Option Value) (mg mb : Str → Option Value) (cn : Str) (cs : Scope) (a : Addr) (ccd : Value) (cl : List (Str × Addr)) (outer : List Env) (A₀ : Around) (base h₀ : Heap) (L : Addr) (m : Str → Option Value) (news : List (Addr × Obj)) (s : Shared)
   (Q E : Value → Shared → Prop) (t : Tok)
   (B : Below A₀ base outer h₀) (F : Fr h₀ L s.heap m) (X : (hd.heap_39 w.params).In h₀) (N : News h₀ L s.heap news)
   (T : Top p9 lo9 mean mg mb h₀)
   (hk : cs.kind = .function) (hret : ∀ x h' d' t' led', Fr h₀ L h' m → News h₀ L h' led' → (∀ p ∈ news, p ∈ led') → RuleAt w led' x → Q (.ref x) ⟨h', s.gens, d', t', s.os⟩) :
   wpAny (model PySem.Challenge.rw_bb0001_01.row.prog w) { handled := none, depth := 400, frames := some (envX cn cs L a ccd cl :: outer), guards := none, units := 35 } (call (.ref 369) [.str (Str.ofString "seqslav") t]) Q E s := by
  revert X
  k_fill
  intro X
  k_dflt (refine' call_cls ?k1 ?k2 ?k3 ?k4 ?k5 ?k6 ?_; (case k1 => k_asm); (case k2 => k_asm); (case k3 => k_asm); (case k4 => k_is); (case k5 => k_is); (case k6 => k_is); k_whole; intro x' d' h' F' N' l1 l2; have l1' := l1; have l2' := l2; (try k_lt l1); (try k_lt2 l2); (try k_sweep))
  k_dflt (refine' code_def ?k1 ?k2 ?k3 ?k4 ?k5 ?kA ?kF ?kK ?k6 ?k7 ?k8 ?k9 ?kB ?_ ?c2 ?c3 ?c4 ?c5; (case kA => exact rfl); (case kF => exact rfl); (case kK => assumption); (case k1 => k_asm); (case k2 => k_asm); (case k3 => k_asm); (case k4 => k_asm); (case k5 => k_asm); (case k6 => k_is); (case k7 => k_is); (case k8 => k_room); (case k9 => first | exact BindsTo.of_eq rfl | exact binds_K (by k_in) rfl (by k_is) rfl rfl rfl | fail "k_enter: no rule for these arguments"); (case c5 => decide); (case kB => exact locs rfl); (case c2 => exact rfl); (case c3 => exact rfl); (case c4 => exact rfl); k_whole; intro g' L' h' FG' F' N' B' X' T'; (try dsimp only); (try k_lift B'); (try k_fold))
  k_steps
  refine Halt9.out ?_
  rename Fr _ _ _ _ => FF
  iterate 9 (refine skip_eq (FF).ns (by exact rfl) (by decide) (fun tk => ?_) (by exact rfl) (by exact rfl) (by exact rfl); refine execs_one ?_)
  refine wpAny_If ?_
  k_steps
  refine Halt9.out ?_
  refine For_c ?_
  k_steps
  refine Halt9.out ?_
  rename Fr _ _ _ _ => FF
  rename News _ _ _ _ => NN
  obtain ⟨lv, la, ta, nt, e1, e2, e3, e4⟩ := rk_adr NN
  subst e1 e2
  have LL : la < lv ∧ x' < lv ∧ d' < lv ∧ AllLt lv news := by assumption
  refine iter_tup1 (fun m led => (∀ q ∈ news, q ∈ led) ∧ RuleAt1 w led x' la _ _) rfl (.tail _ (.head _)) (fun m led h => by obtain ⟨-, dx, k1, k2, k3, k4, k5, k6, v1, v2, v3, lv, tb, nl, a, b, c, d⟩ := h; exact c) FF NN ?_ ?_
  · rintro I io h g d t9 rfl hoff ⟨fs, hfs⟩ F2 N2
    refine turn_name F2 N2 rfl rfl fun h3 t3 F3 N3 => ?_
    k_steps
    refine Halt9.out ?_
    refine wpAny_If ?_
    k_steps
    rename Fr _ _ _ _ => FF4
    rename News _ _ _ _ => NN4
    refine append_led FF4 NN4 (.tail _ (.head _)) (Nat.zero_le _) fun h5 F5 N5 => ?_
    k_steps
    have ilv : lv ≠ I := hoff _ (.head _)
    have ne (q : Addr × Obj) (hq : q ∈ news) : q.1 ≠ lv := Nat.ne_of_lt (allLt_mem LL.2.2.2 q hq)
    refine ⟨_, _, F5, N5, mem_put (.head _) (Ne.symm (hoff _ (.head _))), ⟨rfl, fun q hq => mem_off.mpr ⟨mem_put (.tail _ (.tail _ (.tail _ (.tail _ (.tail _ hq))))) (ne q hq), hoff _ (.tail _ (.tail _ (.tail _ (.tail _ hq))))⟩, d', _, _, _, _, _, _, _, _, _, lv, _, _, mem_off.mpr ⟨mem_put (.tail _ (.tail _ (.tail _ (.head _)))) (Nat.ne_of_lt LL.2.1), hoff _ (.tail _ (.tail _ (.head _)))⟩, mem_off.mpr ⟨mem_put (.tail _ (.tail _ (.tail _ (.tail _ (.head _))))) (Nat.ne_of_lt LL.2.2.1), hoff _ (.tail _ (.tail _ (.tail _ (.head _))))⟩, mem_off.mpr ⟨mem_put (.tail _ (.tail _ (.head _))) (Nat.ne_of_lt LL.1), hoff _ (.tail _ (.head _))⟩, mem_off.mpr ⟨mem_put_self, ilv⟩⟩, rfl⟩
  · intro m₁ led₁ h d t9 hK F2 N2
    k_steps
    exact hret x' _ _ _ led₁ (by assumption) (by assumption) hK.1 ⟨_, _, _, hK.2⟩
theorem rk1_u {A : Around} {p9 : Program} {lo9 : List Str} {w : World} {mean : ExcName → Option Value} {mg mb : Str → Option Value} {cn : Str} {cs : Scope} {a : Addr} {ccd : Value} {cl : List (Str × Addr)} {outer : List Env} {A₀ : Around} {base h₀ : Heap} {L : Addr} {m : Str → Option Value} {news : List (Addr × Obj)} {s : Shared}
   {Q E : Value → Shared → Prop}
   (hh : A.handled = none) (hdp : A.depth ≤ 400) (hfr : A.frames = some (envX cn cs L a ccd cl :: outer)) (hun : A.units ≤ 35) (t : Tok)
   (B : Below A₀ base outer h₀) (F : Fr h₀ L s.heap m) (X : (hd.heap_39 w.params).In h₀) (N : News h₀ L s.heap news)
   (T : Top p9 lo9 mean mg mb h₀)
   (hk : cs.kind = .function) (hret : ∀ x h' d' t' led', Fr h₀ L h' m → News h₀ L h' led' → (∀ p ∈ news, p ∈ led') → RuleAt w led' x → Q (.ref x) ⟨h', s.gens, d', t', s.os⟩) :
   wpAny (model PySem.Challenge.rw_bb0001_01.row.prog w) A (call (.ref 369) [.str (Str.ofString "seqslav") t]) Q E s :=
  wp_weaken hh hdp (.inr hfr) (.inl rfl) hun (rk1 w mean mg mb cn cs a ccd cl outer A₀ base h₀ L m news s Q E t B F X N T hk hret)
set_option maxRecDepth 100000 in
set_option maxHeartbeats 2000000 in
theorem rk2 {p9 : Program} {lo9 : List Str} (w : World) (mean : ExcName → Option Value) (mg mb : Str → Option Value) (cn : Str) (cs : Scope) (a : Addr) (ccd : Value) (cl : List (Str × Addr)) (outer : List Env) (A₀ : Around) (base h₀ : Heap) (L : Addr) (m : Str → Option Value) (news : List (Addr × Obj)) (s : Shared)
   (Q E : Value → Shared → Prop) (t : Tok)
   (B : Below A₀ base outer h₀) (F : Fr h₀ L s.heap m) (X : (hd.heap_39 w.params).In h₀) (N : News h₀ L s.heap news)
   (T : Top p9 lo9 mean mg mb h₀)
   (hk : cs.kind = .function) (hret : ∀ x h' d' t' led', Fr h₀ L h' m → News h₀ L h' led' → (∀ p ∈ news, p ∈ led') → RuleAt w led' x → Q (.ref x) ⟨h', s.gens, d', t', s.os⟩) :
   wpAny (model PySem.Challenge.rw_bb0001_01.row.prog w) { handled := none, depth := 400, frames := some (envX cn cs L a ccd cl :: outer), guards := none, units := 35 } (call (.ref 369) [.str (Str.ofString "seqcc") t]) Q E s := by
  revert X
  k_fill
  intro X
  k_dflt (refine' call_cls ?k1 ?k2 ?k3 ?k4 ?k5 ?k6 ?_; (case k1 => k_asm); (case k2 => k_asm); (case k3 => k_asm); (case k4 => k_is); (case k5 => k_is); (case k6 => k_is); k_whole; intro x' d' h' F' N' l1 l2; have l1' := l1; have l2' := l2; (try k_lt l1); (try k_lt2 l2); (try k_sweep))
  k_dflt (refine' code_def ?k1 ?k2 ?k3 ?k4 ?k5 ?kA ?kF ?kK ?k6 ?k7 ?k8 ?k9 ?kB ?_ ?c2 ?c3 ?c4 ?c5; (case kA => exact rfl); (case kF => exact rfl); (case kK => assumption); (case k1 => k_asm); (case k2 => k_asm); (case k3 => k_asm); (case k4 => k_asm); (case k5 => k_asm); (case k6 => k_is); (case k7 => k_is); (case k8 => k_room); (case k9 => first | exact BindsTo.of_eq rfl | exact binds_K (by k_in) rfl (by k_is) rfl rfl rfl | fail "k_enter: no rule for these arguments"); (case c5 => decide); (case kB => exact locs rfl); (case c2 => exact rfl); (case c3 => exact rfl); (case c4 => exact rfl); k_whole; intro g' L' h' FG' F' N' B' X' T'; (try dsimp only); (try k_lift B'); (try k_fold))
  k_steps
  refine Halt9.out ?_
  rename Fr _ _ _ _ => FF
  iterate 10 (refine skip_eq (FF).ns (by exact rfl) (by decide) (fun tk => ?_) (by exact rfl) (by exact rfl) (by exact rfl); refine execs_one ?_)
  refine wpAny_If ?_
  k_steps
  refine Halt9.out ?_
  refine For_c ?_
  k_steps
  refine Halt9.out ?_
  rename Fr _ _ _ _ => FF
  rename News _ _ _ _ => NN
  obtain ⟨lv, la, ta, nt, e1, e2, e3, e4⟩ := rk_adr NN
  subst e1 e2
  have LL : la < lv ∧ x' < lv ∧ d' < lv ∧ AllLt lv news := by assumption
  refine iter_tup1 (fun m led => (∀ q ∈ news, q ∈ led) ∧ RuleAt1 w led x' la _ _) rfl (.tail _ (.head _)) (fun m led h => by obtain ⟨-, dx, k1, k2, k3, k4, k5, k6, v1, v2, v3, lv, tb, nl, a, b, c, d⟩ := h; exact c) FF NN ?_ ?_
  · rintro I io h g d t9 rfl hoff ⟨fs, hfs⟩ F2 N2
    refine turn_name F2 N2 rfl rfl fun h3 t3 F3 N3 => ?_
    k_steps
    refine Halt9.out ?_
    refine wpAny_If ?_
    k_steps
    rename Fr _ _ _ _ => FF4
    rename News _ _ _ _ => NN4
    refine append_led FF4 NN4 (.tail _ (.head _)) (Nat.zero_le _) fun h5 F5 N5 => ?_
    k_steps
    have ilv : lv ≠ I := hoff _ (.head _)
    have ne (q : Addr × Obj) (hq : q ∈ news) : q.1 ≠ lv := Nat.ne_of_lt (allLt_mem LL.2.2.2 q hq)
    refine ⟨_, _, F5, N5, mem_put (.head _) (Ne.symm (hoff _ (.head _))), ⟨rfl, fun q hq => mem_off.mpr ⟨mem_put (.tail _ (.tail _ (.tail _ (.tail _ (.tail _ hq))))) (ne q hq), hoff _ (.tail _ (.tail _ (.tail _ (.tail _ hq))))⟩, d', _, _, _, _, _, _, _, _, _, lv, _, _, mem_off.mpr ⟨mem_put (.tail _ (.tail _ (.tail _ (.head _)))) (Nat.ne_of_lt LL.2.1), hoff _ (.tail _ (.tail _ (.head _)))⟩, mem_off.mpr ⟨mem_put (.tail _ (.tail _ (.tail _ (.tail _ (.head _))))) (Nat.ne_of_lt LL.2.2.1), hoff _ (.tail _ (.tail _ (.tail _ (.head _))))⟩, mem_off.mpr ⟨mem_put (.tail _ (.tail _ (.head _))) (Nat.ne_of_lt LL.1), hoff _ (.tail _ (.head _))⟩, mem_off.mpr ⟨mem_put_self, ilv⟩⟩, rfl⟩
  · intro m₁ led₁ h d t9 hK F2 N2
    k_steps
    exact hret x' _ _ _ led₁ (by assumption) (by assumption) hK.1 ⟨_, _, _, hK.2⟩
theorem rk2_u {A : Around} {p9 : Program} {lo9 : List Str} {w : World} {mean : ExcName → Option Value} {mg mb : Str → Option Value} {cn : Str} {cs : Scope} {a : Addr} {ccd : Value} {cl : List (Str × Addr)} {outer : List Env} {A₀ : Around} {base h₀ : Heap} {L : Addr} {m : Str → Option Value} {news : List (Addr × Obj)} {s : Shared}
   {Q E : Value → Shared → Prop}
   (hh : A.handled = none) (hdp : A.depth ≤ 400) (hfr : A.frames = some (envX cn cs L a ccd cl :: outer)) (hun : A.units ≤ 35) (t : Tok)
   (B : Below A₀ base outer h₀) (F : Fr h₀ L s.heap m) (X : (hd.heap_39 w.params).In h₀) (N : News h₀ L s.heap news)
   (T : Top p9 lo9 mean mg mb h₀)
   (hk : cs.kind = .function) (hret : ∀ x h' d' t' led', Fr h₀ L h' m → News h₀ L h' led' → (∀ p ∈ news, p ∈ led') → RuleAt w led' x → Q (.ref x) ⟨h', s.gens, d', t', s.os⟩) :
   wpAny (model PySem.Challenge.rw_bb0001_01.row.prog w) A (call (.ref 369) [.str (Str.ofString "seqcc") t]) Q E s :=
  wp_weaken hh hdp (.inr hfr) (.inl rfl) hun (rk2 w mean mg mb cn cs a ccd cl outer A₀ base h₀ L m news s Q E t B F X N T hk hret)
end Mine
end

/- TupB -/
section
open PySem PySem.W PyProof.Rows PySem.Calls PySem.Spec
set_option linter.unusedVariables false
namespace Mine
section
variable {prog : Program} {w : World} {A : Around} {env : Env} {h₀ : Heap} {L : Addr}
theorem for_own_b {R : Result → Shared → Prop} {target : Expr} {body : List Stmt} {I : Addr} {fp : List Addr} {n : Nat} {P : Nat → Value → Prop} {St : Nat → Heap → Prop} {m : Str → Option Value} {led need : List (Addr × Obj)} {s : Shared} {E' : Value → Shared → Prop}
    (W : Walks prog w A I fp [I] n P St) (hfp : ∀ b ∈ fp, b = I ∨ (∃ o, (b, o) ∈ need) ∨ ∃ o, h₀.get? b = some o) (hIo : ∀ i h, St i h → ∃ o, h.get? I = some o ∧ ∃ fs, o.data = .fields fs) (hI₀ : h₀.get? I = none) (hIL : I ≠ L)
    (J : Nat → (Str → Option Value) → List (Addr × Obj) → Array GenState → Prop)
    (hneed : ∀ i m led g, J i m led g → ∀ p ∈ need, p ∈ led)
    (hst : St 0 s.heap) (F : Fr h₀ L s.heap m) (N : News h₀ L s.heap led) (hoff : ∀ p ∈ led, p.1 ≠ I) (h0 : J 0 m led s.gens)
    (turn : ∀ i v m₁ led₁ io h g d t, i < n → P i v → J i m₁ led₁ g → (∀ p ∈ led₁, p.1 ≠ I) → (∃ fs, io.data = .fields fs) → Fr h₀ L h m₁ → News h₀ L h ((I, io) :: led₁) →
      wpAny (model prog w) A (assign target env v) (fun _ s₂ => wpAny (model prog w) A (execs body env) (EndG h₀ L I io (J (i + 1)) s.os fun f s' => R (.ok f) s') E' s₂) E' ⟨h, g, d, t, s.os⟩)
    (done : ∀ m₁ led₁ h g d t, J n m₁ led₁ g → Fr h₀ L h m₁ → News h₀ L h led₁ → R (.ok .next) ⟨h, g, d, t, s.os⟩)
    (hE : ∀ e s', E' e s' → notedBy (model prog w) A env (fun e s' => R (.error e) s') e s')
    (ht : ∀ v, letOwnedTupleGo target (.ref I) v = pure () := by intro _; rfl) :
    codeAny (model prog w) A (.forLoop target (.ref I) body [] env) R s := by
  refine codeAny_forLoop
    (fun k s' => ∃ h' g d tk m' led' i, s' = ⟨h', g, d, tk, s.os⟩ ∧ St i h' ∧ Fr h₀ L h' m' ∧ News h₀ L h' led' ∧ (∀ p ∈ led', p.1 ≠ I) ∧ J i m' led' g ∧ i ≤ n ∧ k = n + 1 - i) ?_ (n + 1)
    ⟨s.heap, s.gens, s.drawn, s.toks, m, led, 0, rfl, hst, F, N, hoff, h0, Nat.zero_le _, rfl⟩ ht
  rintro k s' ⟨h', g, d, tk, m', led', i, rfl, hst', F', N', hoff', hJ, hi, rfl⟩
  have next : ∀ h₁ : Heap, (∀ b o, b ∉ [I] → h'.get? b = some o → h₁.get? b = some o) → Fr h₀ L h₁ m' ∧ News h₀ L h₁ led' := fun h₁ hk₁ =>
    ⟨⟨F'.ns.at' fun o e => hk₁ _ o (by simpa using Ne.symm hIL) e, fun b o e => hk₁ b o (fun hm => by rw [List.mem_singleton.mp hm, hI₀] at e; cases e) (F'.keep b o e), F'.above⟩, fun p hp => ⟨hk₁ _ _ (by simpa using hoff' p hp) (N' p hp).1, (N' p hp).2⟩⟩
  by_cases hlt : i < n
  · refine W.item i _ _ _ hlt hst' fun v h₁ tk₁ hP hst₁ hk₁ => ?_
    obtain ⟨F₁, N₁⟩ := next h₁ hk₁
    obtain ⟨io, hio, hfs⟩ := hIo _ _ hst₁
    have N₁' : News h₀ L h₁ ((I, io) :: led') := fun p hp => by
      rcases List.mem_cons.mp hp with rfl | hp
      · exact ⟨hio, hIL, hI₀⟩
      · exact N₁ p hp
    have fin : ∀ s₃ : Shared, (∃ m₂ led₂, Fr h₀ L s₃.heap m₂ ∧ News h₀ L s₃.heap led₂ ∧ (I, io) ∈ led₂ ∧ J (i + 1) m₂ (off I led₂) s₃.gens ∧ s₃.os = s.os) →
        ∃ m, m < n + 1 - i ∧ ∃ h' g d tk m' led' i, s₃ = ⟨h', g, d, tk, s.os⟩ ∧ St i h' ∧ Fr h₀ L h' m' ∧ News h₀ L h' led' ∧ (∀ p ∈ led', p.1 ≠ I) ∧ J i m' led' g ∧ i ≤ n ∧ m = n + 1 - i := by
      rintro ⟨h₃, g₃, d₃, t₃, o₃⟩ ⟨m₂, led₂, F₃, N₃, hI₃, hJ₃, ho₃⟩
      dsimp only at F₃ N₃ hJ₃ ho₃
      subst ho₃
      refine ⟨n + 1 - (i + 1), by omega, h₃, g₃, d₃, t₃, m₂, off I led₂, i + 1, rfl, ?_, F₃, news_off N₃, fun p hp => (mem_off.mp hp).2, hJ₃, hlt, rfl⟩
      refine W.frame _ _ _ hst₁ fun b hb o e => ?_
      rcases hfp b hb with rfl | ⟨ob, hob⟩ | ⟨ob, hob⟩
      · rw [hio] at e; cases e; exact (N₃ _ hI₃).1
      · have e1 := (N₁ _ (hneed _ _ _ _ hJ _ hob)).1
        rw [e] at e1; cases e1
        exact (N₃ _ (mem_off.mp (hneed _ _ _ _ hJ₃ _ hob)).1).1
      · have e1 := F₁.keep _ _ hob
        rw [e] at e1; cases e1
        exact F₃.keep _ _ hob
    refine wpAny_mono (turn i v m' led' io h₁ g d tk₁ hlt hP hJ hoff' hfs F₁ N₁') (fun _ s₂ h₂ => ?_) hE
    refine wpAny_mono h₂ (fun f s₃ h₃ => ?_) hE
    cases f with
    | ret v => exact h₃
    | brk => exact h₃
    | next => exact fin _ h₃
    | cont => exact fin _ h₃
  · have hin : i = n := by omega
    subst hin
    refine W.done _ _ _ hst' fun h₁ tk₁ hk₁ => wpAny_execs_nil ?_
    obtain ⟨F₁, N₁⟩ := next h₁ hk₁
    exact done m' led' h₁ g d tk₁ hJ F₁ N₁
end
section
variable {prog : Program} {w : World} {A : Around} {E : Value → Shared → Prop} {s : Shared} {env : Env} {h₀ : Heap} {target : Expr} {body : List Stmt} {Q : Flow → Shared → Prop}
theorem loop_cb {I : Addr} {fp : List Addr} {n : Nat} {P : Nat → Value → Prop} {St : Nat → Heap → Prop} {m : Str → Option Value} {led need : List (Addr × Obj)}
    (J : Nat → (Str → Option Value) → List (Addr × Obj) → Array GenState → Prop)
    (W : Walks prog w A I fp [I] n P St) (hfp : ∀ b ∈ fp, b = I ∨ (∃ o, (b, o) ∈ need) ∨ ∃ o, h₀.get? b = some o) (hIo : ∀ i h, St i h → ∃ o, h.get? I = some o ∧ ∃ fs, o.data = .fields fs) (hI₀ : h₀.get? I = none) (hIL : I ≠ env.locals)
    (hneed : ∀ i m led g, J i m led g → ∀ p ∈ need, p ∈ led)
    (hst : St 0 s.heap) (F : Fr h₀ env.locals s.heap m) (N : News h₀ env.locals s.heap led) (hoff : ∀ p ∈ led, p.1 ≠ I) (h0 : J 0 m led s.gens)
    (turn : ∀ i v m₁ led₁ I io h g d t, i < n → P i v → J i m₁ led₁ g → (∀ p ∈ led₁, p.1 ≠ I) → (∃ fs, io.data = .fields fs) → Fr h₀ env.locals h m₁ → News h₀ env.locals h ((I, io) :: led₁) →
      TurnG prog w A h₀ env target body I io (J (i + 1)) s.os Q E v ⟨h, g, d, t, s.os⟩)
    (done : ∀ m₁ led₁ h g d t, J n m₁ led₁ g → Fr h₀ env.locals h m₁ → News h₀ env.locals h led₁ → Q .next ⟨h, g, d, t, s.os⟩)
    (hE : PassesOwn (model prog w) A env E := by passes_own)
    (ht : ∀ (I : Addr) v, letOwnedTupleGo target (.ref I) v = pure () := by intro _ _; rfl) : LoopC prog w A env target body Q E (.ref I) s :=
  for_own_b W hfp hIo hI₀ hIL J hneed hst F N hoff h0 (fun i v m₁ led₁ io h g d t hi hP hJ ho hf F₁ N₁ =>
    wpAny_passesOwn hE (wpAny_mono (turn i v m₁ led₁ I io h g d t hi hP hJ ho hf F₁ N₁) (fun _ s₂ h₂ => wpAny_passesOwn hE h₂) fun _ _ x => x)) done (fun e s' x => x) (ht I)
/-- a for over a tuple of the base -/
theorem iter_b_tuple {l : Addr} {o : Obj} {vs : Array Value} {m : Str → Option Value} {led : List (Addr × Obj)} (J : Nat → (Str → Option Value) → List (Addr × Obj) → Array GenState → Prop)
    (hh : A.handled = none) (ho : h₀.get? l = some o) (hc : o.cls = .type "tuple") (hd : ∃ n, o.data = .seq vs n) (F : Fr h₀ env.locals s.heap m) (N : News h₀ env.locals s.heap led) (h0 : J 0 m led s.gens)
    (turn : ∀ i v m₁ led₁ I io h g d t, i < vs.size → vs[i]? = some v → J i m₁ led₁ g → (∀ p ∈ led₁, p.1 ≠ I) → (∃ fs, io.data = .fields fs) → Fr h₀ env.locals h m₁ → News h₀ env.locals h ((I, io) :: led₁) →
      TurnG prog w A h₀ env target body I io (J (i + 1)) s.os Q E v ⟨h, g, d, t, s.os⟩)
    (done : ∀ m₁ led₁ h g d t, J vs.size m₁ led₁ g → Fr h₀ env.locals h m₁ → News h₀ env.locals h led₁ → Q .next ⟨h, g, d, t, s.os⟩)
    (hE : PassesOwn (model prog w) A env E := by passes_own)
    (ht : ∀ (I : Addr) v, letOwnedTupleGo target (.ref I) v = pure () := by intro _ _; rfl) :
    wpAny (model prog w) A (pyIter (.ref l)) (LoopC prog w A env target body Q E) E s := by
  have hls : s.heap.IsTuple l vs := ⟨_, F.keep _ _ ho, hc, hd⟩
  have hne : l ≠ s.heap.objs.size := Nat.ne_of_lt (Heap.lt_size (F.keep _ _ ho))
  refine wpAny_pyIter_tuple hls ?_
  refine loop_cb (need := []) (s := { s with heap := s.heap.push { cls := .type "tuple_iterator", data := .fields #[.ref l, .int 0 0] } }) J (Walks.tuple hh s.heap.objs.size l hne vs) ?_ ?_ (next_is_new F) (Nat.ne_of_gt F.ns.lt) (fun _ _ _ _ _ p hp => nomatch hp) ⟨⟨_, Heap.get?_push_size _ rfl, rfl, rfl⟩, hls.at fun o e => Heap.get?_push_of_some _ e⟩ (F.push _) (fun p hp => ⟨Heap.get?_push_of_some _ (N p hp).1, (N p hp).2⟩) (fun p hp => Nat.ne_of_lt (Heap.lt_size (N p hp).1)) h0 turn done hE ht
  · intro b hb
    rcases List.mem_cons.mp hb with rfl | hb
    · exact .inl rfl
    · rw [List.mem_singleton.mp hb]; exact .inr (.inr ⟨_, ho⟩)
  · rintro i h ⟨⟨o, e, c, d⟩, _⟩
    exact ⟨o, e, _, d⟩
end
end Mine
end

/- RG -/
section
open PySem PySem.W PyProof.Rows PySem.Calls PySem.Spec
set_option linter.unusedVariables false
namespace Mine
/-- a Rule of a geometric name -/
def RuleG (w : World) (led : List (Addr × Obj)) (x : Addr) : Prop := ∃ dx k1 k2 k3 k4 k5 k6 v1 n1 n2 t1 t2 la rv lv, (x, instObj 369 dx) ∈ led ∧ (dx, rdict w k1 k2 k3 k4 k5 k6 v1 (.str n1 t1) (.str n2 t2) la rv lv) ∈ led ∧ Str.length n1 ≤ 50 ∧ Str.length n2 ≤ 50
theorem rg_pack {w : World} {h₀ h : Heap} {L lv a1 a2 a3 a4 x dx la rv : Addr} {o0 o1 o2 o3 o4 ox : Obj} {led : List (Addr × Obj)} {k1 k2 k3 k4 k5 k6 t1 t2 : Tok} {v1 : Value} {n1 n2 : Str} (N : News h₀ L h ((lv, o0) :: (a1, o1) :: (a2, o2) :: (a3, o3) :: (a4, o4) :: (x, ox) :: (dx, rdict w k1 k2 k3 k4 k5 k6 v1 (.str n1 t1) (.str n2 t2) la rv lv) :: led)) (h1 : n1.length ≤ 50) (h2 : n2.length ≤ 50) :
    ∃ lv', lv' = lv ∧ ∃ la rv k1 k2 k3 k4 k5 k6 v1 n1 n2 t1 t2, Str.length n1 ≤ 50 ∧ Str.length n2 ≤ 50 ∧ News h₀ L h ((lv', o0) :: (x, ox) :: (dx, rdict w k1 k2 k3 k4 k5 k6 v1 (.str n1 t1) (.str n2 t2) la rv lv') :: led) :=
  ⟨lv, rfl, la, rv, k1, k2, k3, k4, k5, k6, v1, n1, n2, t1, t2, h1, h2, cb_drop N fun p hp => by
    simp only [List.mem_cons] at hp ⊢
    rcases hp with h | h | h | h
    · exact .inl h
    · exact .inr (.inr (.inr (.inr (.inr (.inl h)))))
    · exact .inr (.inr (.inr (.inr (.inr (.inr (.inl h))))))
    · exact .inr (.inr (.inr (.inr (.inr (.inr (.inr h))))))⟩
theorem inst_rule {h₀ h : Heap} {L x dx : Addr} {news : List (Addr × Obj)} {od : Obj} (N : News h₀ L h news) (h1 : (x, instObj 369 dx) ∈ news) (h2 : (dx, od) ∈ news) :
    InstAt h x { cls := .ref 369, dict := some dx, data := .plain } 369 (some od) := ⟨(N _ h1).1, rfl, rfl, (N _ h2).1⟩
theorem th_tuple {w : World} {h : Heap} (X : (hd.heap_39 w.params).In h) : (∃ o vs, h.get? 342 = some o ∧ o.cls = .type "tuple" ∧ (∃ n, o.data = .seq vs n) ∧ vs.size = 5 ∧ ∀ (i : Nat) v, vs[i]? = some v → ∃ y t, v = Value.str y t) ∧ PySem.Challenge.rw_bb0001_01.row.prog = PySem.Challenge.rw_bb0001_01.row.prog := by
  revert X; k_fill; intro X
  refine ⟨⟨_, _, X 342 _ (by k_is), rfl, ⟨_, rfl⟩, rfl, fun i v hv => ?_⟩, rfl⟩
  rcases i with _ | _ | _ | _ | _ | i
  all_goals first | (cases hv; exact ⟨_, _, rfl⟩) | (simp at hv)
local macro_rules | `(tactic| wtm_at "own execs cons Assign cons") => `(tactic| (k_here; (try k_gentoks); (with_reducible refine wpAny_execs_cons ?_); (try dsimp only)))
local macro_rules | `(tactic| k_mem) => `(tactic| first | assumption | exact List.Mem.head _ | (refine List.Mem.tail _ ?_; k_mem))
local macro_rules | `(tactic| wtm_at "own exec For Name Attribute cons nil") => `(tactic| refine Halt9.intro ?_)
local macro_rules | `(tactic| wtm_at "own pyIter ref") => `(tactic| refine Halt9.intro ?_)
local macro_rules | `(tactic| wtm_at "own compareOp In str ref") => `(tactic| (k_here; refine in_std (by assumption) (by assumption) ?_; (try dsimp only)))
local macro_rules | `(tactic| wtm_at "own call ref") => `(tactic| refine Halt9.intro ?_)
local macro_rules | `(tactic| wtm_at "own exec Try") => `(tactic| refine Halt9.intro ?_)
local macro_rules | `(tactic| wtm_at "own exec Try cons") => `(tactic| refine Halt9.intro ?_)
local macro_rules | `(tactic| wtm_at "own exec If") => `(tactic| refine Halt9.intro ?_)
local macro_rules | `(tactic| wtm_at "own compareOp In str ref") => `(tactic| ((with_reducible show wpAny _ _ (compareOp CmpOp.In _ (Value.ref 440)) _ _ _); refine Halt9.intro ?_))
local macro_rules | `(tactic| wtm_at "own getMethod ref") => `(tactic| refine Halt9.intro ?_)
local macro_rules | `(tactic| wtm_at "own call builtin:list.append") => `(tactic| refine Halt9.intro ?_)
local macro_rules | `(tactic| k_inst) => `(tactic| (refine' inst_rule ?N ?h1 ?h2; (case N => k_asm); (case h1 => k_mem); (case h2 => k_mem)))
set_option hygiene false in
local macro_rules | `(tactic| wtm_at "own eval Name") => `(tactic| (k_here; name_kind "local"; k_dflt (refine q_locF (by assumption) (by first | with_reducible (exact hm1) | (exact hm1)) (by kernel_rfl!) (by kernel_rfl!) (by exact rfl) ?_)))
set_option maxRecDepth 100000 in
set_option maxHeartbeats 2000000 in
theorem rg0 {p9 : Program} {lo9 : List Str} (w : World) (mean : ExcName → Option Value) (mg mb : Str → Option Value) (cn : Str) (cs : Scope) (a : Addr) (ccd : Value) (cl : List (Str × Addr)) (outer : List Env) (A₀ : Around) (base h₀ : Heap) (L : Addr) (m : Str → Option Value) (news : List (Addr × Obj)) (s : Shared)
   (Q E : Value → Shared → Prop) (t : Tok)
   (B : Below A₀ base outer h₀) (F : Fr h₀ L s.heap m) (X : (hd.heap_39 w.params).In h₀) (N : News h₀ L s.heap news)
   (T : Top p9 lo9 mean mg mb h₀)
   (hk : cs.kind = .function) (hret : ∀ x h' d' t' led', Fr h₀ L h' m → News h₀ L h' led' → (∀ p ∈ news, p ∈ led') → RuleG w led' x → Q (.ref x) ⟨h', s.gens, d', t', s.os⟩) :
   wpAny (model PySem.Challenge.rw_bb0001_01.row.prog w) { handled := none, depth := 400, frames := some (envX cn cs L a ccd cl :: outer), guards := none, units := 35 } (call (.ref 369) [.str (Str.ofString "geom2") t]) Q E s := by
  revert X
  k_fill
  intro X
  k_dflt (refine' call_cls ?k1 ?k2 ?k3 ?k4 ?k5 ?k6 ?_; (case k1 => k_asm); (case k2 => k_asm); (case k3 => k_asm); (case k4 => k_is); (case k5 => k_is); (case k6 => k_is); k_whole; intro x' d' h' F' N' l1 l2; have l1' := l1; have l2' := l2; (try k_lt l1); (try k_lt2 l2); (try k_sweep))
  k_dflt (refine' code_def ?k1 ?k2 ?k3 ?k4 ?k5 ?kA ?kF ?kK ?k6 ?k7 ?k8 ?k9 ?kB ?_ ?c2 ?c3 ?c4 ?c5; (case kA => exact rfl); (case kF => exact rfl); (case kK => assumption); (case k1 => k_asm); (case k2 => k_asm); (case k3 => k_asm); (case k4 => k_asm); (case k5 => k_asm); (case k6 => k_is); (case k7 => k_is); (case k8 => k_room); (case k9 => first | exact BindsTo.of_eq rfl | exact binds_K (by k_in) rfl (by k_is) rfl rfl rfl | fail "k_enter: no rule for these arguments"); (case c5 => decide); (case kB => exact locs rfl); (case c2 => exact rfl); (case c3 => exact rfl); (case c4 => exact rfl); k_whole; intro g' L' h' FG' F' N' B' X' T'; (try dsimp only); (try k_lift B'); (try k_fold))
  k_steps
  refine Halt9.out ?_
  rename Fr _ _ _ _ => FF
  iterate 19 (refine skip_eq (FF).ns (by exact rfl) (by decide) (fun tk => ?_) (by exact rfl) (by exact rfl) (by exact rfl); refine execs_one ?_)
  refine wpAny_If ?_
  k_steps
  refine Halt9.out ?_
  refine wpAny_If ?_
  k_steps
  refine Halt9.out ?_
  refine wpAny_If ?_
  k_steps
  refine Halt9.out ?_
  refine wpAny_If ?_
  k_steps
  refine Halt9.out ?_
  rename Fr _ _ _ _ => FF
  iterate 5 (refine skip_eq (FF).ns (by exact rfl) (by decide) (fun tk => ?_) (by exact rfl) (by exact rfl) (by exact rfl); refine execs_one ?_)
  refine wpAny_If ?_
  k_steps
  refine Halt9.out ?_
  refine For_c ?_
  k_steps
  refine Halt9.out ?_
  rename Fr _ _ _ _ => FF
  rename News _ _ _ _ => NN
  obtain ⟨lv, e1, la, rv, k1, k2, k3, k4, k5, k6, v1, n1, n2, t1, t2, hn1, hn2, NP⟩ := rg_pack NN (by decide) (by decide)
  subst e1
  have LL : ∃ a b c e : Addr, a < lv ∧ b < lv ∧ c < lv ∧ e < lv ∧ x' < lv ∧ d' < lv ∧ AllLt lv news := ⟨_, _, _, _, by assumption⟩
  obtain ⟨-, -, -, -, -, -, -, -, lx, ld, ln⟩ := LL
  obtain ⟨⟨o3, vs3, e1, e2, e3, e4, e5⟩, -⟩ := th_tuple X'
  refine iter_b_tuple (fun i m₁ led₁ g => g = s.gens ∧ m₁ (Str.ofString "self") = some (.ref x') ∧ (∀ q ∈ news, q ∈ led₁) ∧ (x', instObj 369 d') ∈ led₁ ∧ (d', rdict w k1 k2 k3 k4 k5 k6 v1 (.str n1 t1) (.str n2 t2) la rv lv) ∈ led₁ ∧ ∃ its n1, (lv, ({ cls := .type "list", data := .seq its n1 } : Obj)) ∈ led₁ ∧ (its : Array Value).size ≤ i) rfl e1 e2 e3 FF NP ⟨rfl, rfl, fun q hq => .tail _ (.tail _ (.tail _ hq)), .tail _ (.head _), .tail _ (.tail _ (.head _)), #[], 0, .head _, Nat.le_refl _⟩ ?_ ?_
  · rintro i v m₁ led₁ I io h g d t9 hi hv ⟨rfl, hm1, hsub, hx, hd9, its, nn, hl, hz⟩ hoff hio F2 N2
    obtain ⟨y9, ty9, rfl⟩ := e5 i v hv
    refine turn_name F2 N2 rfl rfl fun h3 t3 F3 N3 => ?_
    have hx' := mem_io (I := I) (io := io) hx
    have hd' := mem_io (I := I) (io := io) hd9
    have hl' := mem_io (I := I) (io := io) hl
    have ilv : lv ≠ I := hoff _ hl
    k_steps
    refine Halt9.out ?_
    refine wpAny_If ?_
    k_steps
    refine Halt9.out ?_
    refine KTD.in_words (av_words (X'.keeps F3.keep)).1 (fun _ _ e => e) ?_
    refine wpAny_truthy_bool ?_
    cases KTD.inWords y9 avs with
    | true =>
      simp only [if_true]
      k_steps
      refine Halt9.out ?_
      refine gm_append N3 hl' ?_
      k_steps
      refine Halt9.out ?_
      refine append_led F3 N3 hl' (by omega) fun h5 F5 N5 => ?_
      k_steps
      refine ⟨_, _, F5, N5, mem_put (.head _) (Ne.symm ilv), ⟨rfl, hm1, fun q hq => mem_off.mpr ⟨mem_put (mem_io (hsub q hq)) (Nat.ne_of_lt (allLt_mem ln q hq)), hoff _ (hsub q hq)⟩, mem_off.mpr ⟨mem_put hx' (Nat.ne_of_lt lx), hoff _ hx⟩, mem_off.mpr ⟨mem_put hd' (Nat.ne_of_lt ld), hoff _ hd9⟩, _, _, mem_off.mpr ⟨mem_put_self, ilv⟩, ?_⟩, rfl⟩
      rw [Array.size_push]; omega
    | false =>
      simp only [Bool.false_eq_true, if_false]
      k_steps
      exact ⟨_, _, F3, N3, .head _, ⟨rfl, hm1, fun q hq => mem_off.mpr ⟨mem_io (hsub q hq), hoff _ (hsub q hq)⟩, mem_off.mpr ⟨hx', hoff _ hx⟩, mem_off.mpr ⟨hd', hoff _ hd9⟩, its, nn, mem_off.mpr ⟨hl', ilv⟩, by omega⟩, rfl⟩
  · rintro m₁ led₁ h g d t9 ⟨rfl, hm1, hsub, hx, hd9, -⟩ F2 N2
    k_steps
    exact hret x' _ _ _ led₁ (by assumption) (by assumption) hsub ⟨d', k1, k2, k3, k4, k5, k6, v1, n1, n2, t1, t2, _, _, lv, hx, hd9, hn1, hn2⟩
theorem rg0_u {A : Around} {p9 : Program} {lo9 : List Str} {w : World} {mean : ExcName → Option Value} {mg mb : Str → Option Value} {cn : Str} {cs : Scope} {a : Addr} {ccd : Value} {cl : List (Str × Addr)} {outer : List Env} {A₀ : Around} {base h₀ : Heap} {L : Addr} {m : Str → Option Value} {news : List (Addr × Obj)} {s : Shared}
   {Q E : Value → Shared → Prop}
   (hh : A.handled = none) (hdp : A.depth ≤ 400) (hfr : A.frames = some (envX cn cs L a ccd cl :: outer)) (hun : A.units ≤ 35) (t : Tok)
   (B : Below A₀ base outer h₀) (F : Fr h₀ L s.heap m) (X : (hd.heap_39 w.params).In h₀) (N : News h₀ L s.heap news)
   (T : Top p9 lo9 mean mg mb h₀)
   (hk : cs.kind = .function) (hret : ∀ x h' d' t' led', Fr h₀ L h' m → News h₀ L h' led' → (∀ p ∈ news, p ∈ led') → RuleG w led' x → Q (.ref x) ⟨h', s.gens, d', t', s.os⟩) :
   wpAny (model PySem.Challenge.rw_bb0001_01.row.prog w) A (call (.ref 369) [.str (Str.ofString "geom2") t]) Q E s :=
  wp_weaken hh hdp (.inr hfr) (.inl rfl) hun (rg0 w mean mg mb cn cs a ccd cl outer A₀ base h₀ L m news s Q E t B F X N T hk hret)
set_option maxRecDepth 100000 in
set_option maxHeartbeats 2000000 in
theorem rg1 {p9 : Program} {lo9 : List Str} (w : World) (mean : ExcName → Option Value) (mg mb : Str → Option Value) (cn : Str) (cs : Scope) (a : Addr) (ccd : Value) (cl : List (Str × Addr)) (outer : List Env) (A₀ : Around) (base h₀ : Heap) (L : Addr) (m : Str → Option Value) (news : List (Addr × Obj)) (s : Shared)
   (Q E : Value → Shared → Prop) (t : Tok)
   (B : Below A₀ base outer h₀) (F : Fr h₀ L s.heap m) (X : (hd.heap_39 w.params).In h₀) (N : News h₀ L s.heap news)
   (T : Top p9 lo9 mean mg mb h₀)
   (hk : cs.kind = .function) (hret : ∀ x h' d' t' led', Fr h₀ L h' m → News h₀ L h' led' → (∀ p ∈ news, p ∈ led') → RuleG w led' x → Q (.ref x) ⟨h', s.gens, d', t', s.os⟩) :
   wpAny (model PySem.Challenge.rw_bb0001_01.row.prog w) { handled := none, depth := 400, frames := some (envX cn cs L a ccd cl :: outer), guards := none, units := 35 } (call (.ref 369) [.str (Str.ofString "geom3") t]) Q E s := by
  revert X
  k_fill
  intro X
  k_dflt (refine' call_cls ?k1 ?k2 ?k3 ?k4 ?k5 ?k6 ?_; (case k1 => k_asm); (case k2 => k_asm); (case k3 => k_asm); (case k4 => k_is); (case k5 => k_is); (case k6 => k_is); k_whole; intro x' d' h' F' N' l1 l2; have l1' := l1; have l2' := l2; (try k_lt l1); (try k_lt2 l2); (try k_sweep))
  k_dflt (refine' code_def ?k1 ?k2 ?k3 ?k4 ?k5 ?kA ?kF ?kK ?k6 ?k7 ?k8 ?k9 ?kB ?_ ?c2 ?c3 ?c4 ?c5; (case kA => exact rfl); (case kF => exact rfl); (case kK => assumption); (case k1 => k_asm); (case k2 => k_asm); (case k3 => k_asm); (case k4 => k_asm); (case k5 => k_asm); (case k6 => k_is); (case k7 => k_is); (case k8 => k_room); (case k9 => first | exact BindsTo.of_eq rfl | exact binds_K (by k_in) rfl (by k_is) rfl rfl rfl | fail "k_enter: no rule for these arguments"); (case c5 => decide); (case kB => exact locs rfl); (case c2 => exact rfl); (case c3 => exact rfl); (case c4 => exact rfl); k_whole; intro g' L' h' FG' F' N' B' X' T'; (try dsimp only); (try k_lift B'); (try k_fold))
  k_steps
  refine Halt9.out ?_
  rename Fr _ _ _ _ => FF
  iterate 19 (refine skip_eq (FF).ns (by exact rfl) (by decide) (fun tk => ?_) (by exact rfl) (by exact rfl) (by exact rfl); refine execs_one ?_)
  refine wpAny_If ?_
  k_steps
  refine Halt9.out ?_
  refine wpAny_If ?_
  k_steps
  refine Halt9.out ?_
  refine wpAny_If ?_
  k_steps
  refine Halt9.out ?_
  refine wpAny_If ?_
  k_steps
  refine Halt9.out ?_
  rename Fr _ _ _ _ => FF
  iterate 5 (refine skip_eq (FF).ns (by exact rfl) (by decide) (fun tk => ?_) (by exact rfl) (by exact rfl) (by exact rfl); refine execs_one ?_)
  refine wpAny_If ?_
  k_steps
  refine Halt9.out ?_
  refine For_c ?_
  k_steps
  refine Halt9.out ?_
  rename Fr _ _ _ _ => FF
  rename News _ _ _ _ => NN
  obtain ⟨lv, e1, la, rv, k1, k2, k3, k4, k5, k6, v1, n1, n2, t1, t2, hn1, hn2, NP⟩ := rg_pack NN (by decide) (by decide)
  subst e1
  have LL : ∃ a b c e : Addr, a < lv ∧ b < lv ∧ c < lv ∧ e < lv ∧ x' < lv ∧ d' < lv ∧ AllLt lv news := ⟨_, _, _, _, by assumption⟩
  obtain ⟨-, -, -, -, -, -, -, -, lx, ld, ln⟩ := LL
  obtain ⟨⟨o3, vs3, e1, e2, e3, e4, e5⟩, -⟩ := th_tuple X'
  refine iter_b_tuple (fun i m₁ led₁ g => g = s.gens ∧ m₁ (Str.ofString "self") = some (.ref x') ∧ (∀ q ∈ news, q ∈ led₁) ∧ (x', instObj 369 d') ∈ led₁ ∧ (d', rdict w k1 k2 k3 k4 k5 k6 v1 (.str n1 t1) (.str n2 t2) la rv lv) ∈ led₁ ∧ ∃ its n1, (lv, ({ cls := .type "list", data := .seq its n1 } : Obj)) ∈ led₁ ∧ (its : Array Value).size ≤ i) rfl e1 e2 e3 FF NP ⟨rfl, rfl, fun q hq => .tail _ (.tail _ (.tail _ hq)), .tail _ (.head _), .tail _ (.tail _ (.head _)), #[], 0, .head _, Nat.le_refl _⟩ ?_ ?_
  · rintro i v m₁ led₁ I io h g d t9 hi hv ⟨rfl, hm1, hsub, hx, hd9, its, nn, hl, hz⟩ hoff hio F2 N2
    obtain ⟨y9, ty9, rfl⟩ := e5 i v hv
    refine turn_name F2 N2 rfl rfl fun h3 t3 F3 N3 => ?_
    have hx' := mem_io (I := I) (io := io) hx
    have hd' := mem_io (I := I) (io := io) hd9
    have hl' := mem_io (I := I) (io := io) hl
    have ilv : lv ≠ I := hoff _ hl
    k_steps
    refine Halt9.out ?_
    refine wpAny_If ?_
    k_steps
    refine Halt9.out ?_
    refine KTD.in_words (av_words (X'.keeps F3.keep)).1 (fun _ _ e => e) ?_
    refine wpAny_truthy_bool ?_
    cases KTD.inWords y9 avs with
    | true =>
      simp only [if_true]
      k_steps
      refine Halt9.out ?_
      refine gm_append N3 hl' ?_
      k_steps
      refine Halt9.out ?_
      refine append_led F3 N3 hl' (by omega) fun h5 F5 N5 => ?_
      k_steps
      refine ⟨_, _, F5, N5, mem_put (.head _) (Ne.symm ilv), ⟨rfl, hm1, fun q hq => mem_off.mpr ⟨mem_put (mem_io (hsub q hq)) (Nat.ne_of_lt (allLt_mem ln q hq)), hoff _ (hsub q hq)⟩, mem_off.mpr ⟨mem_put hx' (Nat.ne_of_lt lx), hoff _ hx⟩, mem_off.mpr ⟨mem_put hd' (Nat.ne_of_lt ld), hoff _ hd9⟩, _, _, mem_off.mpr ⟨mem_put_self, ilv⟩, ?_⟩, rfl⟩
      rw [Array.size_push]; omega
    | false =>
      simp only [Bool.false_eq_true, if_false]
      k_steps
      exact ⟨_, _, F3, N3, .head _, ⟨rfl, hm1, fun q hq => mem_off.mpr ⟨mem_io (hsub q hq), hoff _ (hsub q hq)⟩, mem_off.mpr ⟨hx', hoff _ hx⟩, mem_off.mpr ⟨hd', hoff _ hd9⟩, its, nn, mem_off.mpr ⟨hl', ilv⟩, by omega⟩, rfl⟩
  · rintro m₁ led₁ h g d t9 ⟨rfl, hm1, hsub, hx, hd9, -⟩ F2 N2
    k_steps
    exact hret x' _ _ _ led₁ (by assumption) (by assumption) hsub ⟨d', k1, k2, k3, k4, k5, k6, v1, n1, n2, t1, t2, _, _, lv, hx, hd9, hn1, hn2⟩
theorem rg1_u {A : Around} {p9 : Program} {lo9 : List Str} {w : World} {mean : ExcName → Option Value} {mg mb : Str → Option Value} {cn : Str} {cs : Scope} {a : Addr} {ccd : Value} {cl : List (Str × Addr)} {outer : List Env} {A₀ : Around} {base h₀ : Heap} {L : Addr} {m : Str → Option Value} {news : List (Addr × Obj)} {s : Shared}
   {Q E : Value → Shared → Prop}
   (hh : A.handled = none) (hdp : A.depth ≤ 400) (hfr : A.frames = some (envX cn cs L a ccd cl :: outer)) (hun : A.units ≤ 35) (t : Tok)
   (B : Below A₀ base outer h₀) (F : Fr h₀ L s.heap m) (X : (hd.heap_39 w.params).In h₀) (N : News h₀ L s.heap news)
   (T : Top p9 lo9 mean mg mb h₀)
   (hk : cs.kind = .function) (hret : ∀ x h' d' t' led', Fr h₀ L h' m → News h₀ L h' led' → (∀ p ∈ news, p ∈ led') → RuleG w led' x → Q (.ref x) ⟨h', s.gens, d', t', s.os⟩) :
   wpAny (model PySem.Challenge.rw_bb0001_01.row.prog w) A (call (.ref 369) [.str (Str.ofString "geom3") t]) Q E s :=
  wp_weaken hh hdp (.inr hfr) (.inl rfl) hun (rg1 w mean mg mb cn cs a ccd cl outer A₀ base h₀ L m news s Q E t B F X N T hk hret)
end Mine
end

/- RVe -/
section
open PySem PySem.W PyProof.Rows PySem.Calls PySem.Spec
set_option linter.unusedVariables false
namespace Mine
local macro_rules | `(tactic| k_mem) => `(tactic| first | assumption | exact List.Mem.head _ | (refine List.Mem.tail _ ?_; k_mem))
local macro_rules | `(tactic| k_inst) => `(tactic| (first | (refine' inst_rule ?N ?h1 ?h2; (case N => k_asm); (case h1 => k_mem); (case h2 => k_mem)) | (refine' inst_prof ?N ?h1 ?h2; (case N => k_asm); (case h1 => k_mem); (case h2 => k_mem))))
theorem res_tup {w : World} {h : Heap} (X : (hd.heap_39 w.params).In h) : h.IsTuple 344 #[.bool true, .bool false] ∧ PySem.Challenge.rw_bb0001_01.row.prog = PySem.Challenge.rw_bb0001_01.row.prog := by
  revert X; k_fill; intro X
  exact ⟨⟨_, X 344 _ (by k_is), rfl, _, rfl⟩, rfl⟩
theorem eq_strs {A : Around} {s : Shared} (x : Str) (t u : Tok) : SeqAt.EqAt A s (.str x t) (.str x u) true := by
  have z := SeqAt.EqAt.str_str (A := A) (s := s) x t x u
  rwa [beq_self_eq_true] at z
local macro_rules | `(tactic| wtm_at "own compareOp NotIn") => `(tactic| refine Halt9.intro ?_)
local macro_rules | `(tactic| wtm_at "own call builtin:len") => `(tactic| (k_here; (refine len_l (by assumption) (by k_mem) (by omega) ?_); intro t8 tk8; (try dsimp only)))
local macro_rules | `(tactic| wtm_at "own ite") => `(tactic| (k_dflt (first | (refine PySem.W.ite_neg ?hc ?_; (case hc => first | (simp; done) | (simp only [beq_iff_eq, bne_iff_ne, ne_eq, Decidable.not_not, decide_eq_true_eq]; omega))) | (refine PySem.W.ite_pos ?hc ?_; (case hc => first | (simp; done) | (simp only [beq_iff_eq, decide_eq_true_eq]; omega))))))
set_option maxRecDepth 100000 in
set_option maxHeartbeats 2000000 in
theorem rver {p9 : Program} {lo9 : List Str} (w : World) (mean : ExcName → Option Value) (mg mb : Str → Option Value) (cn : Str) (cs : Scope) (a : Addr) (ccd : Value) (cl : List (Str × Addr)) (outer : List Env) (A₀ : Around) (base h₀ : Heap) (L : Addr) (m : Str → Option Value) (news : List (Addr × Obj)) (s : Shared)
   (Q E : Value → Shared → Prop) (x p lv : Addr) (n : Nat) (vv : Array Value) (nlv : Nat) (k : Nat) (tk ts : Tok)
   (B : Below A₀ base outer h₀) (F : Fr h₀ L s.heap m) (X : (hd.heap_39 w.params).In h₀) (N : News h₀ L s.heap news)
   (T : Top p9 lo9 mean mg mb h₀)
   (hk : cs.kind = .function) (hx : RuleAt w news x) (hp : ProfAt w news p n lv) (hn : n = 3 ∨ n = 4) (hlv : (lv, ({ cls := .type "list", data := .seq vv nlv } : Obj)) ∈ news) (hv1 : 1 ≤ vv.size) (hv4 : vv.size ≤ 4) (hk1 : 1 ≤ k) (hkn : k ≤ n)
   (hret : ∀ h' tk', Fr h₀ L h' m → News h₀ L h' news → Q .none { s with heap := h', toks := tk' }) :
   wpAny (model PySem.Challenge.rw_bb0001_01.row.prog w) { handled := none, depth := 390, frames := some (envX cn cs L a ccd cl :: outer), guards := none, units := 25 } (call (.ref 366) [.ref x] [(Str.ofString "profile", .ref p), (Str.ofString "committeesize", .int (k : Int) tk), (Str.ofString "algorithm", .str (Str.ofString "standard") ts), (Str.ofString "resolute", .bool true), (Str.ofString "max_num_of_committees", .none)]) Q E s := by
  obtain ⟨la, nt, ta, dxr, j1, j2, j3, j4, j5, j6, v1, v2, v3, lvr, tb, nlr, ha, hb, hc, hd⟩ := hx
  obtain ⟨dp, lc, ln, k1, k2, k3, vs, nl, hp1, hp2, hp3, hvs, hlne⟩ := hp
  subst hvs
  revert X
  k_fill
  intro X
  refine wpAny_call ?_
  k_dflt (refine' code_def ?k1 ?k2 ?k3 ?k4 ?k5 ?kA ?kF ?kK ?k6 ?k7 ?k8 ?k9 ?kB ?_ ?c2 ?c3 ?c4 ?c5; (case kA => exact rfl); (case kF => exact rfl); (case kK => assumption); (case k1 => k_asm); (case k2 => k_asm); (case k3 => k_asm); (case k4 => k_asm); (case k5 => k_asm); (case k6 => k_is); (case k7 => k_is); (case k8 => k_room); (case k9 => first | exact BindsTo.of_eq rfl | exact binds_K (by k_in) rfl (by k_is) rfl rfl rfl | fail "k_enter: no rule for these arguments"); (case c5 => decide); (case kB => exact locs rfl); (case c2 => exact rfl); (case c3 => exact rfl); (case c4 => exact rfl); k_whole; intro g' L' h' FG' F' N' B' X' T'; (try dsimp only); (try k_lift B'); (try k_fold))
  k_steps
  refine Halt9.out ?_
  rename News _ _ _ _ => NN
  refine SeqAt.notIn_tupleAt (items := #[.str (Str.ofString "standard") ta]) (fun _ => true) ⟨_, (NN _ hc).1, rfl, _, rfl⟩ (fun y hy => ?_) ?_
  · simp only [List.mem_toArray, List.mem_cons, List.not_mem_nil, or_false] at hy
    subst hy
    exact eq_strs _ _ _
  k_steps
  refine Halt9.out ?_
  rename Fr _ _ _ _ => FF
  refine SeqAt.notIn_tupleAt (items := #[.bool true, .bool false]) (fun y => match y with | .bool b => b == true | _ => false) (res_tup (X'.keeps FF.keep)).1 (fun y hy => ?_) ?_
  · simp only [List.mem_toArray, List.mem_cons, List.not_mem_nil, or_false] at hy
    rcases hy with rfl | rfl
    · exact SeqAt.EqAt.bool_bool true true
    · exact SeqAt.EqAt.bool_bool false true
  k_steps
  exact hret _ _ (by assumption) (by assumption)
theorem rver_u {A : Around} {p9 : Program} {lo9 : List Str} {w : World} {mean : ExcName → Option Value} {mg mb : Str → Option Value} {cn : Str} {cs : Scope} {a : Addr} {ccd : Value} {cl : List (Str × Addr)} {outer : List Env} {A₀ : Around} {base h₀ : Heap} {L : Addr} {m : Str → Option Value} {news : List (Addr × Obj)} {s : Shared}
   {Q E : Value → Shared → Prop}
   (hh : A.handled = none) (hdp : A.depth ≤ 390) (hfr : A.frames = some (envX cn cs L a ccd cl :: outer)) (hun : A.units ≤ 25) (x p lv : Addr) (n : Nat) (vv : Array Value) (nlv : Nat) (k : Nat) (tk ts : Tok)
   (B : Below A₀ base outer h₀) (F : Fr h₀ L s.heap m) (X : (hd.heap_39 w.params).In h₀) (N : News h₀ L s.heap news)
   (T : Top p9 lo9 mean mg mb h₀)
   (hk : cs.kind = .function) (hx : RuleAt w news x) (hp : ProfAt w news p n lv) (hn : n = 3 ∨ n = 4) (hlv : (lv, ({ cls := .type "list", data := .seq vv nlv } : Obj)) ∈ news) (hv1 : 1 ≤ vv.size) (hv4 : vv.size ≤ 4) (hk1 : 1 ≤ k) (hkn : k ≤ n)
   (hret : ∀ h' tk', Fr h₀ L h' m → News h₀ L h' news → Q .none { s with heap := h', toks := tk' }) :
   wpAny (model PySem.Challenge.rw_bb0001_01.row.prog w) A (call (.ref 366) [.ref x] [(Str.ofString "profile", .ref p), (Str.ofString "committeesize", .int (k : Int) tk), (Str.ofString "algorithm", .str (Str.ofString "standard") ts), (Str.ofString "resolute", .bool true), (Str.ofString "max_num_of_committees", .none)]) Q E s :=
  wp_weaken hh hdp (.inr hfr) (.inl rfl) hun (rver w mean mg mb cn cs a ccd cl outer A₀ base h₀ L m news s Q E x p lv n vv nlv k tk ts B F X N T hk hx hp hn hlv hv1 hv4 hk1 hkn hret)

end Mine
end

/- GMD -/
section
open PySem PySem.W PyProof.Rows PySem.Calls PySem.Spec
set_option linter.unusedVariables false
namespace Mine
local macro_rules | `(tactic| k_mem) => `(tactic| first | assumption | exact List.Mem.head _ | (refine List.Mem.tail _ ?_; k_mem))
set_option hygiene false in
local macro_rules | `(tactic| wtm_at "own callWith type:functools.partial") => `(tactic| (k_here; refine callWith_typeKw ?_ (by rfl) (by rfl) (by rfl) (by rfl)))
set_option hygiene false in
local macro_rules | `(tactic| wtm_at "own call type:functools.partial") => `(tactic| (k_here; (rename Fr _ _ _ _ => F9); (rename News _ _ _ _ => N9); with_unfolding_all refine pt_new X' F9 N9 ?_; intro h8 tk8 a8 t8 d8 k8 nt8 F8 N8 l1 l2 l3; (try dsimp only)))
set_option maxRecDepth 100000 in
set_option maxHeartbeats 2000000 in
theorem gd3 {p9 : Program} {lo9 : List Str} (w : World) (mean : ExcName → Option Value) (mg mb : Str → Option Value) (cn : Str) (cs : Scope) (a : Addr) (ccd : Value) (cl : List (Str × Addr)) (outer : List Env) (A₀ : Around) (base h₀ : Heap) (L : Addr) (m : Str → Option Value) (news : List (Addr × Obj)) (s : Shared)
   (Q E : Value → Shared → Prop) (t : Tok)
   (B : Below A₀ base outer h₀) (F : Fr h₀ L s.heap m) (X : (hd.heap_39 w.params).In h₀) (N : News h₀ L s.heap news)
   (T : Top p9 lo9 mean mg mb h₀)
   (hk : cs.kind = .function) (hT52 : Tab 52 news) (hret : ∀ f need h' g' d' tk' led', GoodF w 3 f need → Fr h₀ L h' m → News h₀ L h' led' → (∀ p ∈ news, p ∈ led') → (∀ p ∈ need, p ∈ led') → (∀ p ∈ need, ∀ q ∈ news, q.1 < p.1) → g' = s.gens → Q (.ref f) ⟨h', g', d', tk', s.os⟩) :
   wpAny (model PySem.Challenge.rw_bb0001_01.row.prog w) { handled := none, depth := 400, frames := some (envX cn cs L a ccd cl :: outer), guards := none, units := 35 } (call (.ref 278) [.str (Str.ofString "geom2") t]) Q E s := by
  revert X
  k_fill
  intro X
  refine wpAny_call ?_
  k_dflt (refine' code_def ?k1 ?k2 ?k3 ?k4 ?k5 ?kA ?kF ?kK ?k6 ?k7 ?k8 ?k9 ?kB ?_ ?c2 ?c3 ?c4 ?c5; (case kA => exact rfl); (case kF => exact rfl); (case kK => assumption); (case k1 => k_asm); (case k2 => k_asm); (case k3 => k_asm); (case k4 => k_asm); (case k5 => k_asm); (case k6 => k_is); (case k7 => k_is); (case k8 => k_room); (case k9 => first | exact BindsTo.of_eq rfl | exact binds_K (by k_in) rfl (by k_is) rfl rfl rfl | fail "k_enter: no rule for these arguments"); (case c5 => decide); (case kB => exact locs rfl); (case c2 => exact rfl); (case c3 => exact rfl); (case c4 => exact rfl); k_whole; intro g' L' h' FG' F' N' B' X' T'; (try dsimp only); (try k_lift B'); (try k_fold))
  k_steps
  have hd1 : d8 ≠ 1 := fun e => by
    obtain ⟨ps, hp, _⟩ := hT52
    have := l1 _ hp
    rw [e] at this
    exact absurd this (show ¬ (52 : Nat) < 1 by decide)
  exact hret a8 (ptLed w a8 t8 d8 nt8 k8 _ 2) _ _ _ _ _ ⟨sc_geom w 2 (.inl rfl) a8 t8 d8 nt8 k8 _ hd1, fun h₀ h X k hn => ⟨_, hn _ (.head _), .inr ⟨_, rfl, rfl⟩⟩⟩ (by assumption) (by assumption) (fun p hp => .tail _ (.tail _ (.tail _ hp))) (fun p hp => mem3 hp) (fun p hp q hq => ord3 (l1 _ hq) l2 l3 p hp) rfl
theorem gd3_u {A : Around} {p9 : Program} {lo9 : List Str} {w : World} {mean : ExcName → Option Value} {mg mb : Str → Option Value} {cn : Str} {cs : Scope} {a : Addr} {ccd : Value} {cl : List (Str × Addr)} {outer : List Env} {A₀ : Around} {base h₀ : Heap} {L : Addr} {m : Str → Option Value} {news : List (Addr × Obj)} {s : Shared}
   {Q E : Value → Shared → Prop}
   (hh : A.handled = none) (hdp : A.depth ≤ 400) (hfr : A.frames = some (envX cn cs L a ccd cl :: outer)) (hun : A.units ≤ 35) (t : Tok)
   (B : Below A₀ base outer h₀) (F : Fr h₀ L s.heap m) (X : (hd.heap_39 w.params).In h₀) (N : News h₀ L s.heap news)
   (T : Top p9 lo9 mean mg mb h₀)
   (hk : cs.kind = .function) (hT52 : Tab 52 news) (hret : ∀ f need h' g' d' tk' led', GoodF w 3 f need → Fr h₀ L h' m → News h₀ L h' led' → (∀ p ∈ news, p ∈ led') → (∀ p ∈ need, p ∈ led') → (∀ p ∈ need, ∀ q ∈ news, q.1 < p.1) → g' = s.gens → Q (.ref f) ⟨h', g', d', tk', s.os⟩) :
   wpAny (model PySem.Challenge.rw_bb0001_01.row.prog w) A (call (.ref 278) [.str (Str.ofString "geom2") t]) Q E s :=
  wp_weaken hh hdp (.inr hfr) (.inl rfl) hun (gd3 w mean mg mb cn cs a ccd cl outer A₀ base h₀ L m news s Q E t B F X N T hk hT52 hret)
set_option maxRecDepth 100000 in
set_option maxHeartbeats 2000000 in
theorem gd4 {p9 : Program} {lo9 : List Str} (w : World) (mean : ExcName → Option Value) (mg mb : Str → Option Value) (cn : Str) (cs : Scope) (a : Addr) (ccd : Value) (cl : List (Str × Addr)) (outer : List Env) (A₀ : Around) (base h₀ : Heap) (L : Addr) (m : Str → Option Value) (news : List (Addr × Obj)) (s : Shared)
   (Q E : Value → Shared → Prop) (t : Tok)
   (B : Below A₀ base outer h₀) (F : Fr h₀ L s.heap m) (X : (hd.heap_39 w.params).In h₀) (N : News h₀ L s.heap news)
   (T : Top p9 lo9 mean mg mb h₀)
   (hk : cs.kind = .function) (hT52 : Tab 52 news) (hret : ∀ f need h' g' d' tk' led', GoodF w 4 f need → Fr h₀ L h' m → News h₀ L h' led' → (∀ p ∈ news, p ∈ led') → (∀ p ∈ need, p ∈ led') → (∀ p ∈ need, ∀ q ∈ news, q.1 < p.1) → g' = s.gens → Q (.ref f) ⟨h', g', d', tk', s.os⟩) :
   wpAny (model PySem.Challenge.rw_bb0001_01.row.prog w) { handled := none, depth := 400, frames := some (envX cn cs L a ccd cl :: outer), guards := none, units := 35 } (call (.ref 278) [.str (Str.ofString "geom3") t]) Q E s := by
  revert X
  k_fill
  intro X
  refine wpAny_call ?_
  k_dflt (refine' code_def ?k1 ?k2 ?k3 ?k4 ?k5 ?kA ?kF ?kK ?k6 ?k7 ?k8 ?k9 ?kB ?_ ?c2 ?c3 ?c4 ?c5; (case kA => exact rfl); (case kF => exact rfl); (case kK => assumption); (case k1 => k_asm); (case k2 => k_asm); (case k3 => k_asm); (case k4 => k_asm); (case k5 => k_asm); (case k6 => k_is); (case k7 => k_is); (case k8 => k_room); (case k9 => first | exact BindsTo.of_eq rfl | exact binds_K (by k_in) rfl (by k_is) rfl rfl rfl | fail "k_enter: no rule for these arguments"); (case c5 => decide); (case kB => exact locs rfl); (case c2 => exact rfl); (case c3 => exact rfl); (case c4 => exact rfl); k_whole; intro g' L' h' FG' F' N' B' X' T'; (try dsimp only); (try k_lift B'); (try k_fold))
  k_steps
  have hd1 : d8 ≠ 1 := fun e => by
    obtain ⟨ps, hp, _⟩ := hT52
    have := l1 _ hp
    rw [e] at this
    exact absurd this (show ¬ (52 : Nat) < 1 by decide)
  exact hret a8 (ptLed w a8 t8 d8 nt8 k8 _ 3) _ _ _ _ _ ⟨sc_geom w 3 (.inr rfl) a8 t8 d8 nt8 k8 _ hd1, fun h₀ h X k hn => ⟨_, hn _ (.head _), .inr ⟨_, rfl, rfl⟩⟩⟩ (by assumption) (by assumption) (fun p hp => .tail _ (.tail _ (.tail _ hp))) (fun p hp => mem3 hp) (fun p hp q hq => ord3 (l1 _ hq) l2 l3 p hp) rfl
theorem gd4_u {A : Around} {p9 : Program} {lo9 : List Str} {w : World} {mean : ExcName → Option Value} {mg mb : Str → Option Value} {cn : Str} {cs : Scope} {a : Addr} {ccd : Value} {cl : List (Str × Addr)} {outer : List Env} {A₀ : Around} {base h₀ : Heap} {L : Addr} {m : Str → Option Value} {news : List (Addr × Obj)} {s : Shared}
   {Q E : Value → Shared → Prop}
   (hh : A.handled = none) (hdp : A.depth ≤ 400) (hfr : A.frames = some (envX cn cs L a ccd cl :: outer)) (hun : A.units ≤ 35) (t : Tok)
   (B : Below A₀ base outer h₀) (F : Fr h₀ L s.heap m) (X : (hd.heap_39 w.params).In h₀) (N : News h₀ L s.heap news)
   (T : Top p9 lo9 mean mg mb h₀)
   (hk : cs.kind = .function) (hT52 : Tab 52 news) (hret : ∀ f need h' g' d' tk' led', GoodF w 4 f need → Fr h₀ L h' m → News h₀ L h' led' → (∀ p ∈ news, p ∈ led') → (∀ p ∈ need, p ∈ led') → (∀ p ∈ need, ∀ q ∈ news, q.1 < p.1) → g' = s.gens → Q (.ref f) ⟨h', g', d', tk', s.os⟩) :
   wpAny (model PySem.Challenge.rw_bb0001_01.row.prog w) A (call (.ref 278) [.str (Str.ofString "geom3") t]) Q E s :=
  wp_weaken hh hdp (.inr hfr) (.inl rfl) hun (gd4 w mean mg mb cn cs a ccd cl outer A₀ base h₀ L m news s Q E t B F X N T hk hT52 hret)
end Mine
end

/- RS -/
section
open PySem PySem.W PyProof.Rows PySem.Calls PySem.Spec
set_option linter.unusedVariables false
namespace Mine
local macro_rules | `(tactic| wtm_at "own execs cons Assign cons") => `(tactic| (k_here; (try k_gentoks); (with_reducible refine wpAny_execs_cons ?_); (try dsimp only)))
local macro_rules | `(tactic| k_mem) => `(tactic| first | assumption | exact List.Mem.head _ | (refine List.Mem.tail _ ?_; k_mem))
local macro_rules | `(tactic| wtm_at "own exec For Name Attribute cons nil") => `(tactic| refine Halt9.intro ?_)
local macro_rules | `(tactic| wtm_at "own pyIter ref") => `(tactic| refine Halt9.intro ?_)
local macro_rules | `(tactic| wtm_at "own compareOp In str ref") => `(tactic| (k_here; refine in_std (by assumption) (by assumption) ?_; (try dsimp only)))
local macro_rules | `(tactic| wtm_at "own call ref") => `(tactic| refine Halt9.intro ?_)
local macro_rules | `(tactic| wtm_at "own exec If") => `(tactic| refine Halt9.intro ?_)
local macro_rules | `(tactic| wtm_at "own compareOp In str ref") => `(tactic| ((with_reducible show wpAny _ _ (compareOp CmpOp.In _ (Value.ref 440)) _ _ _); refine Halt9.intro ?_))
local macro_rules | `(tactic| wtm_at "own getMethod ref") => `(tactic| refine Halt9.intro ?_)
local macro_rules | `(tactic| wtm_at "own call builtin:list.append") => `(tactic| refine Halt9.intro ?_)
local macro_rules | `(tactic| k_inst) => `(tactic| (refine' inst_rule ?N ?h1 ?h2; (case N => k_asm); (case h1 => k_mem); (case h2 => k_mem)))
set_option hygiene false in
local macro_rules | `(tactic| wtm_at "own setAttr ref") => `(tactic| (have q9 := ho1; clear q9; refine Halt9.intro ?_))
set_option maxRecDepth 100000 in
set_option maxHeartbeats 2000000 in
theorem rs0 {p9 : Program} {lo9 : List Str} (w : World) (mean : ExcName → Option Value) (mg mb : Str → Option Value) (cn : Str) (cs : Scope) (a : Addr) (ccd : Value) (cl : List (Str × Addr)) (outer : List Env) (A₀ : Around) (base h₀ : Heap) (L : Addr) (m : Str → Option Value) (news : List (Addr × Obj)) (s : Shared)
   (Q E : Value → Shared → Prop) (t : Tok)
   (B : Below A₀ base outer h₀) (F : Fr h₀ L s.heap m) (X : (hd.heap_39 w.params).In h₀) (N : News h₀ L s.heap news)
   (T : Top p9 lo9 mean mg mb h₀)
   (hk : cs.kind = .function) (hT52 : Tab 52 news) (hret : ∀ x h' d' t' led', Fr h₀ L h' m → News h₀ L h' led' → (∀ p ∈ news, p ∈ led') → RuleAt w led' x → Q (.ref x) ⟨h', s.gens, d', t', s.os⟩) :
   wpAny (model PySem.Challenge.rw_bb0001_01.row.prog w) { handled := none, depth := 390, frames := some (envX cn cs L a ccd cl :: outer), guards := none, units := 25 } (call (.ref 369) [.str (Str.ofString "seqgeom2") t]) Q E s := by
  revert X
  k_fill
  intro X
  k_dflt (refine' call_cls ?k1 ?k2 ?k3 ?k4 ?k5 ?k6 ?_; (case k1 => k_asm); (case k2 => k_asm); (case k3 => k_asm); (case k4 => k_is); (case k5 => k_is); (case k6 => k_is); k_whole; intro x' d' h' F' N' l1 l2; have l1' := l1; have l2' := l2; (try k_lt l1); (try k_lt2 l2); (try k_sweep))
  k_dflt (refine' code_def ?k1 ?k2 ?k3 ?k4 ?k5 ?kA ?kF ?kK ?k6 ?k7 ?k8 ?k9 ?kB ?_ ?c2 ?c3 ?c4 ?c5; (case kA => exact rfl); (case kF => exact rfl); (case kK => assumption); (case k1 => k_asm); (case k2 => k_asm); (case k3 => k_asm); (case k4 => k_asm); (case k5 => k_asm); (case k6 => k_is); (case k7 => k_is); (case k8 => k_room); (case k9 => first | exact BindsTo.of_eq rfl | exact binds_K (by k_in) rfl (by k_is) rfl rfl rfl | fail "k_enter: no rule for these arguments"); (case c5 => decide); (case kB => exact locs rfl); (case c2 => exact rfl); (case c3 => exact rfl); (case c4 => exact rfl); k_whole; intro g' L' h' FG' F' N' B' X' T'; (try dsimp only); (try k_lift B'); (try k_fold))
  k_steps
  refine Halt9.out ?_
  rename Fr _ _ _ _ => FF
  iterate 19 (refine skip_eq (FF).ns (by exact rfl) (by decide) (fun tk => ?_) (by exact rfl) (by exact rfl) (by exact rfl); refine execs_one ?_)
  refine wpAny_If ?_
  k_steps
  refine Halt9.out ?_
  refine wpAny_If ?_
  k_steps
  refine Halt9.out ?_
  refine wpAny_If ?_
  k_steps
  refine Halt9.out ?_
  refine wpAny_If ?_
  k_steps
  refine Halt9.out ?_
  rename Fr _ _ _ _ => FF
  iterate 5 (refine skip_eq (FF).ns (by exact rfl) (by decide) (fun tk => ?_) (by exact rfl) (by exact rfl) (by exact rfl); refine execs_one ?_)
  refine wpAny_If ?_
  k_steps
  refine Halt9.out ?_
  refine wpAny_If ?_
  k_steps
  refine Halt9.out ?_
  refine wpAny_If ?_
  k_steps
  refine Halt9.out ?_
  rename Fr _ _ _ _ => FF1
  rename News _ _ _ _ => NN1
  refine gd3_u rfl (Nat.le_of_ble_eq_true rfl) rfl (Nat.le_of_ble_eq_true rfl) _ (by assumption) FF1 (by assumption) NN1 (by assumption) rfl (hT52.mono fun q hq _ => by repeat (first | exact hq | refine List.Mem.tail _ ?_)) ?_
  intro f need hf gf df tkf ledf hgf Ff Nf sf nf of ef
  subst ef
  dsimp only
  k_steps
  refine Halt9.out ?_
  refine skip_eq (Ff).ns (by exact rfl) (by decide) (fun tk => ?_) (by exact rfl) (by exact rfl) (by exact rfl)
  k_steps
  refine Halt9.out ?_
  refine rg0_u rfl (Nat.le_of_ble_eq_true rfl) rfl (Nat.le_of_ble_eq_true rfl) _ (by assumption) Ff (by assumption) Nf (by assumption) rfl ?_
  intro xo ho do9 tko ledo Fo No so hxo
  obtain ⟨dxo, k1, k2, k3, k4, k5, k6, v1, n1, n2, t1, t2, la, rv, lvo, ho1, ho2, hn1, hn2⟩ := hxo
  dsimp only
  k_steps
  refine Halt9.out ?_
  refine wpAny_If ?_
  k_steps
  refine Halt9.out ?_
  rename Fr _ _ _ _ => FS
  rename News _ _ _ _ => NS
  have hx1 : (x', instObj 369 d') ∈ ledo := so _ (sf _ (by repeat (first | exact List.Mem.head _ | refine List.Mem.tail _ ?_)))
  have hx2 := so _ (sf (d', _) (by repeat (first | exact List.Mem.head _ | refine List.Mem.tail _ ?_)))
  have nd1 : xo ≠ d' := News.ne_data NS ho1 hx2 (fun e => by cases e)
  have nd2 : dxo ≠ d' := News.ne NS ho2 hx2 (fun e => absurd (congrArg (fun o : Obj => match o.data with | .dict _ n => n | _ => 0) e) (by show ¬ (6 : Nat) = 1; decide))
  have nd3 : x' ≠ d' := Nat.ne_of_gt (by assumption)
  have p1 : ∀ q ∈ ledo, q.1 ≠ d' → q ∈ off d' ledo := fun q hq hne => mem_off.mpr ⟨hq, hne⟩
  have p2 : ∀ q ∈ off d' ledo, q.1 ≠ d' := fun q hq => (mem_off.mp hq).2
  (refine' set_dict FS X' (news_tab NS hx2) (inst_rule NS hx1 hx2) ?z1k5 ?z1k6 ?z1k7 ?z1k8 ?z1k9 ?z1k10 ?z1k11 (.head fun p hp => (mem_off.mp hp).2) ?z1k13 ?z1kk; (case z1k5 => exact rfl); (case z1k6 => k_is); (case z1k7 => k_is); (case z1k8 => k_is); (case z1k9 => k_is); (case z1k10 => k_get); (case z1k11 => k_put); (case z1k13 => exact Nat.le_of_ble_eq_true rfl); clear FS NS; intro hS FS NS)
  have ho1' := p1 _ ho1 nd1
  have ho2' := p1 _ ho2 nd2
  have hx1' := p1 _ hx1 nd3
  generalize off d' ledo = r1 at *
  k_steps
  refine Halt9.out ?_
  rename Fr _ _ _ _ => FS
  rename News _ _ _ _ => NS
  refine' set_dict FS X' NS (inst_rule NS (.tail _ hx1') (.head _)) ?q5 ?q6 ?q7 ?q8 ?q9 ?q10 ?q11 (.head p2) ?q13 ?qq; (case q5 => exact rfl); (case q6 => k_is); (case q7 => k_is); (case q8 => k_is); (case q9 => k_is); (case q10 => k_get); (case q11 => k_put); (case q13 => exact Nat.le_of_ble_eq_true rfl)
  clear FS NS
  intro hS2 FS NS
  k_steps
  refine Halt9.out ?_
  rename Fr _ _ _ _ => FS
  rename News _ _ _ _ => NS
  obtain ⟨la2, ela⟩ := head_adr NS
  subst ela
  have nla : la2 ≠ d' := News.ne_data NS (.head _) (.tail _ (.head _)) (fun e => by cases e)
  (refine' set_dict FS X' NS (inst_rule NS (.tail _ (.tail _ hx1')) (.tail _ (.head _))) ?z2k5 ?z2k6 ?z2k7 ?z2k8 ?z2k9 ?z2k10 ?z2k11 (.tail nla (.head p2)) ?z2k13 ?z2kk; (case z2k5 => exact rfl); (case z2k6 => k_is); (case z2k7 => k_is); (case z2k8 => k_is); (case z2k9 => k_is); (case z2k10 => k_get); (case z2k11 => k_put); (case z2k13 => exact Nat.le_of_ble_eq_true rfl))
  clear FS NS
  intro hS3 FS NS
  k_steps
  refine Halt9.out ?_
  rename Fr _ _ _ _ => FS
  rename News _ _ _ _ => NS
  (refine' set_dict FS X' NS (inst_rule NS (.tail _ (.tail _ hx1')) (.tail _ (.head _))) ?z3k5 ?z3k6 ?z3k7 ?z3k8 ?z3k9 ?z3k10 ?z3k11 (.tail nla (.head p2)) ?z3k13 ?z3kk; (case z3k5 => exact rfl); (case z3k6 => k_is); (case z3k7 => k_is); (case z3k8 => k_is); (case z3k9 => k_is); (case z3k10 => k_get); (case z3k11 => k_put); (case z3k13 => exact Nat.le_of_ble_eq_true rfl))
  clear FS NS
  intro hS4 FS NS
  k_steps
  refine Halt9.out ?_
  rename Fr _ _ _ _ => FS
  rename News _ _ _ _ => NS
  obtain ⟨lv2, elv⟩ := head_adr NS
  subst elv
  have nlv : lv2 ≠ d' := News.ne_data NS (.head _) (.tail _ (.tail _ (.head _))) (fun e => by cases e)
  (refine' set_dict FS X' NS (inst_rule NS (.tail _ (.tail _ (.tail _ hx1'))) (.tail _ (.tail _ (.head _)))) ?z4k5 ?z4k6 ?z4k7 ?z4k8 ?z4k9 ?z4k10 ?z4k11 (.tail nlv (.tail nla (.head p2))) ?z4k13 ?z4kk; (case z4k5 => exact rfl); (case z4k6 => k_is); (case z4k7 => k_is); (case z4k8 => k_is); (case z4k9 => k_is); (case z4k10 => k_get); (case z4k11 => k_put); (case z4k13 => exact Nat.le_of_ble_eq_true rfl))
  clear FS NS
  intro hS5 FS NS
  k_steps
  refine Halt9.out ?_
  refine For_c ?_
  k_steps
  refine Halt9.out ?_
  rename Fr _ _ _ _ => FS
  rename News _ _ _ _ => NS
  have LL : la2 < lv2 ∧ d' < lv2 ∧ AllLt lv2 r1 := by assumption
  have nws : ∀ q ∈ news, q ∈ r1 := fun q hq => p1 _ (so _ (sf _ (by repeat (first | exact hq | refine List.Mem.tail _ ?_)))) (Nat.ne_of_lt (by first | exact l1' q hq | assumption))
  refine iter_tup1 (fun m led => (∀ q ∈ news, q ∈ led) ∧ RuleAt1 w led x' la2 _ _) rfl (.tail _ (.head _)) (fun m led h => by obtain ⟨-, dx, k1, k2, k3, k4, k5, k6, v1, v2, v3, lv, tb, nl, a, b, c, d⟩ := h; exact c) FS NS ?_ ?_
  · rintro I io h g d t9 rfl hoff ⟨fs, hfs⟩ F2 N2
    refine turn_name F2 N2 rfl rfl fun h3 t3 F3 N3 => ?_
    k_steps
    refine Halt9.out ?_
    refine wpAny_If ?_
    k_steps
    refine Halt9.out ?_
    refine in_std X' F3 ?_
    k_steps
    refine Halt9.out ?_
    refine gm_append N3 (.tail _ (.head _)) ?_
    k_steps
    refine Halt9.out ?_
    refine append_led F3 N3 (.tail _ (.head _)) (Nat.zero_le _) fun h5 F5 N5 => ?_
    k_steps
    have ilv : lv2 ≠ I := hoff _ (.head _)
    have ne (q : Addr × Obj) (hq : q ∈ r1) : q.1 ≠ lv2 := Nat.ne_of_lt (allLt_mem LL.2.2 q hq)
    refine ⟨_, _, F5, N5, mem_put (.head _) (Ne.symm ilv), ⟨rfl, fun q hq => mem_off.mpr ⟨mem_put (.tail _ (.tail _ (.tail _ (.tail _ (nws q hq))))) (ne q (nws q hq)), hoff _ (.tail _ (.tail _ (.tail _ (nws q hq))))⟩, d', _, _, _, _, _, _, _, _, _, lv2, _, _, mem_off.mpr ⟨mem_put (.tail _ (.tail _ (.tail _ (.tail _ hx1')))) (ne _ hx1'), hoff _ (.tail _ (.tail _ (.tail _ hx1')))⟩, mem_off.mpr ⟨mem_put (.tail _ (.tail _ (.tail _ (.head _)))) (Nat.ne_of_lt LL.2.1), hoff _ (.tail _ (.tail _ (.head _)))⟩, mem_off.mpr ⟨mem_put (.tail _ (.tail _ (.head _))) (Nat.ne_of_lt LL.1), hoff _ (.tail _ (.head _))⟩, mem_off.mpr ⟨mem_put_self, ilv⟩⟩, rfl⟩
  · intro m₁ led₁ h d t9 hK F2 N2
    k_steps
    exact hret x' _ _ _ led₁ (by assumption) (by assumption) hK.1 ⟨_, _, _, hK.2⟩
set_option maxRecDepth 100000 in
set_option maxHeartbeats 2000000 in
theorem rs1 {p9 : Program} {lo9 : List Str} (w : World) (mean : ExcName → Option Value) (mg mb : Str → Option Value) (cn : Str) (cs : Scope) (a : Addr) (ccd : Value) (cl : List (Str × Addr)) (outer : List Env) (A₀ : Around) (base h₀ : Heap) (L : Addr) (m : Str → Option Value) (news : List (Addr × Obj)) (s : Shared)
   (Q E : Value → Shared → Prop) (t : Tok)
   (B : Below A₀ base outer h₀) (F : Fr h₀ L s.heap m) (X : (hd.heap_39 w.params).In h₀) (N : News h₀ L s.heap news)
   (T : Top p9 lo9 mean mg mb h₀)
   (hk : cs.kind = .function) (hT52 : Tab 52 news) (hret : ∀ x h' d' t' led', Fr h₀ L h' m → News h₀ L h' led' → (∀ p ∈ news, p ∈ led') → RuleAt w led' x → Q (.ref x) ⟨h', s.gens, d', t', s.os⟩) :
   wpAny (model PySem.Challenge.rw_bb0001_01.row.prog w) { handled := none, depth := 390, frames := some (envX cn cs L a ccd cl :: outer), guards := none, units := 25 } (call (.ref 369) [.str (Str.ofString "seqgeom3") t]) Q E s := by
  revert X
  k_fill
  intro X
  k_dflt (refine' call_cls ?k1 ?k2 ?k3 ?k4 ?k5 ?k6 ?_; (case k1 => k_asm); (case k2 => k_asm); (case k3 => k_asm); (case k4 => k_is); (case k5 => k_is); (case k6 => k_is); k_whole; intro x' d' h' F' N' l1 l2; have l1' := l1; have l2' := l2; (try k_lt l1); (try k_lt2 l2); (try k_sweep))
  k_dflt (refine' code_def ?k1 ?k2 ?k3 ?k4 ?k5 ?kA ?kF ?kK ?k6 ?k7 ?k8 ?k9 ?kB ?_ ?c2 ?c3 ?c4 ?c5; (case kA => exact rfl); (case kF => exact rfl); (case kK => assumption); (case k1 => k_asm); (case k2 => k_asm); (case k3 => k_asm); (case k4 => k_asm); (case k5 => k_asm); (case k6 => k_is); (case k7 => k_is); (case k8 => k_room); (case k9 => first | exact BindsTo.of_eq rfl | exact binds_K (by k_in) rfl (by k_is) rfl rfl rfl | fail "k_enter: no rule for these arguments"); (case c5 => decide); (case kB => exact locs rfl); (case c2 => exact rfl); (case c3 => exact rfl); (case c4 => exact rfl); k_whole; intro g' L' h' FG' F' N' B' X' T'; (try dsimp only); (try k_lift B'); (try k_fold))
  k_steps
  refine Halt9.out ?_
  rename Fr _ _ _ _ => FF
  iterate 19 (refine skip_eq (FF).ns (by exact rfl) (by decide) (fun tk => ?_) (by exact rfl) (by exact rfl) (by exact rfl); refine execs_one ?_)
  refine wpAny_If ?_
  k_steps
  refine Halt9.out ?_
  refine wpAny_If ?_
  k_steps
  refine Halt9.out ?_
  refine wpAny_If ?_
  k_steps
  refine Halt9.out ?_
  refine wpAny_If ?_
  k_steps
  refine Halt9.out ?_
  rename Fr _ _ _ _ => FF
  iterate 5 (refine skip_eq (FF).ns (by exact rfl) (by decide) (fun tk => ?_) (by exact rfl) (by exact rfl) (by exact rfl); refine execs_one ?_)
  refine wpAny_If ?_
  k_steps
  refine Halt9.out ?_
  refine wpAny_If ?_
  k_steps
  refine Halt9.out ?_
  refine wpAny_If ?_
  k_steps
  refine Halt9.out ?_
  rename Fr _ _ _ _ => FF1
  rename News _ _ _ _ => NN1
  refine gd4_u rfl (Nat.le_of_ble_eq_true rfl) rfl (Nat.le_of_ble_eq_true rfl) _ (by assumption) FF1 (by assumption) NN1 (by assumption) rfl (hT52.mono fun q hq _ => by repeat (first | exact hq | refine List.Mem.tail _ ?_)) ?_
  intro f need hf gf df tkf ledf hgf Ff Nf sf nf of ef
  subst ef
  dsimp only
  k_steps
  refine Halt9.out ?_
  refine skip_eq (Ff).ns (by exact rfl) (by decide) (fun tk => ?_) (by exact rfl) (by exact rfl) (by exact rfl)
  k_steps
  refine Halt9.out ?_
  refine rg1_u rfl (Nat.le_of_ble_eq_true rfl) rfl (Nat.le_of_ble_eq_true rfl) _ (by assumption) Ff (by assumption) Nf (by assumption) rfl ?_
  intro xo ho do9 tko ledo Fo No so hxo
  obtain ⟨dxo, k1, k2, k3, k4, k5, k6, v1, n1, n2, t1, t2, la, rv, lvo, ho1, ho2, hn1, hn2⟩ := hxo
  dsimp only
  k_steps
  refine Halt9.out ?_
  refine wpAny_If ?_
  k_steps
  refine Halt9.out ?_
  rename Fr _ _ _ _ => FS
  rename News _ _ _ _ => NS
  have hx1 : (x', instObj 369 d') ∈ ledo := so _ (sf _ (by repeat (first | exact List.Mem.head _ | refine List.Mem.tail _ ?_)))
  have hx2 := so _ (sf (d', _) (by repeat (first | exact List.Mem.head _ | refine List.Mem.tail _ ?_)))
  have nd1 : xo ≠ d' := News.ne_data NS ho1 hx2 (fun e => by cases e)
  have nd2 : dxo ≠ d' := News.ne NS ho2 hx2 (fun e => absurd (congrArg (fun o : Obj => match o.data with | .dict _ n => n | _ => 0) e) (by show ¬ (6 : Nat) = 1; decide))
  have nd3 : x' ≠ d' := Nat.ne_of_gt (by assumption)
  have p1 : ∀ q ∈ ledo, q.1 ≠ d' → q ∈ off d' ledo := fun q hq hne => mem_off.mpr ⟨hq, hne⟩
  have p2 : ∀ q ∈ off d' ledo, q.1 ≠ d' := fun q hq => (mem_off.mp hq).2
  (refine' set_dict FS X' (news_tab NS hx2) (inst_rule NS hx1 hx2) ?z5k5 ?z5k6 ?z5k7 ?z5k8 ?z5k9 ?z5k10 ?z5k11 (.head fun p hp => (mem_off.mp hp).2) ?z5k13 ?z5kk; (case z5k5 => exact rfl); (case z5k6 => k_is); (case z5k7 => k_is); (case z5k8 => k_is); (case z5k9 => k_is); (case z5k10 => k_get); (case z5k11 => k_put); (case z5k13 => exact Nat.le_of_ble_eq_true rfl); clear FS NS; intro hS FS NS)
  have ho1' := p1 _ ho1 nd1
  have ho2' := p1 _ ho2 nd2
  have hx1' := p1 _ hx1 nd3
  generalize off d' ledo = r1 at *
  k_steps
  refine Halt9.out ?_
  rename Fr _ _ _ _ => FS
  rename News _ _ _ _ => NS
  refine' set_dict FS X' NS (inst_rule NS (.tail _ hx1') (.head _)) ?q5 ?q6 ?q7 ?q8 ?q9 ?q10 ?q11 (.head p2) ?q13 ?qq; (case q5 => exact rfl); (case q6 => k_is); (case q7 => k_is); (case q8 => k_is); (case q9 => k_is); (case q10 => k_get); (case q11 => k_put); (case q13 => exact Nat.le_of_ble_eq_true rfl)
  clear FS NS
  intro hS2 FS NS
  k_steps
  refine Halt9.out ?_
  rename Fr _ _ _ _ => FS
  rename News _ _ _ _ => NS
  obtain ⟨la2, ela⟩ := head_adr NS
  subst ela
  have nla : la2 ≠ d' := News.ne_data NS (.head _) (.tail _ (.head _)) (fun e => by cases e)
  (refine' set_dict FS X' NS (inst_rule NS (.tail _ (.tail _ hx1')) (.tail _ (.head _))) ?z6k5 ?z6k6 ?z6k7 ?z6k8 ?z6k9 ?z6k10 ?z6k11 (.tail nla (.head p2)) ?z6k13 ?z6kk; (case z6k5 => exact rfl); (case z6k6 => k_is); (case z6k7 => k_is); (case z6k8 => k_is); (case z6k9 => k_is); (case z6k10 => k_get); (case z6k11 => k_put); (case z6k13 => exact Nat.le_of_ble_eq_true rfl))
  clear FS NS
  intro hS3 FS NS
  k_steps
  refine Halt9.out ?_
  rename Fr _ _ _ _ => FS
  rename News _ _ _ _ => NS
  (refine' set_dict FS X' NS (inst_rule NS (.tail _ (.tail _ hx1')) (.tail _ (.head _))) ?z7k5 ?z7k6 ?z7k7 ?z7k8 ?z7k9 ?z7k10 ?z7k11 (.tail nla (.head p2)) ?z7k13 ?z7kk; (case z7k5 => exact rfl); (case z7k6 => k_is); (case z7k7 => k_is); (case z7k8 => k_is); (case z7k9 => k_is); (case z7k10 => k_get); (case z7k11 => k_put); (case z7k13 => exact Nat.le_of_ble_eq_true rfl))
  clear FS NS
  intro hS4 FS NS
  k_steps
  refine Halt9.out ?_
  rename Fr _ _ _ _ => FS
  rename News _ _ _ _ => NS
  obtain ⟨lv2, elv⟩ := head_adr NS
  subst elv
  have nlv : lv2 ≠ d' := News.ne_data NS (.head _) (.tail _ (.tail _ (.head _))) (fun e => by cases e)
  (refine' set_dict FS X' NS (inst_rule NS (.tail _ (.tail _ (.tail _ hx1'))) (.tail _ (.tail _ (.head _)))) ?z8k5 ?z8k6 ?z8k7 ?z8k8 ?z8k9 ?z8k10 ?z8k11 (.tail nlv (.tail nla (.head p2))) ?z8k13 ?z8kk; (case z8k5 => exact rfl); (case z8k6 => k_is); (case z8k7 => k_is); (case z8k8 => k_is); (case z8k9 => k_is); (case z8k10 => k_get); (case z8k11 => k_put); (case z8k13 => exact Nat.le_of_ble_eq_true rfl))
  clear FS NS
  intro hS5 FS NS
  k_steps
  refine Halt9.out ?_
  refine For_c ?_
  k_steps
  refine Halt9.out ?_
  rename Fr _ _ _ _ => FS
  rename News _ _ _ _ => NS
  have LL : la2 < lv2 ∧ d' < lv2 ∧ AllLt lv2 r1 := by assumption
  have nws : ∀ q ∈ news, q ∈ r1 := fun q hq => p1 _ (so _ (sf _ (by repeat (first | exact hq | refine List.Mem.tail _ ?_)))) (Nat.ne_of_lt (by first | exact l1' q hq | assumption))
  refine iter_tup1 (fun m led => (∀ q ∈ news, q ∈ led) ∧ RuleAt1 w led x' la2 _ _) rfl (.tail _ (.head _)) (fun m led h => by obtain ⟨-, dx, k1, k2, k3, k4, k5, k6, v1, v2, v3, lv, tb, nl, a, b, c, d⟩ := h; exact c) FS NS ?_ ?_
  · rintro I io h g d t9 rfl hoff ⟨fs, hfs⟩ F2 N2
    refine turn_name F2 N2 rfl rfl fun h3 t3 F3 N3 => ?_
    k_steps
    refine Halt9.out ?_
    refine wpAny_If ?_
    k_steps
    refine Halt9.out ?_
    refine in_std X' F3 ?_
    k_steps
    refine Halt9.out ?_
    refine gm_append N3 (.tail _ (.head _)) ?_
    k_steps
    refine Halt9.out ?_
    refine append_led F3 N3 (.tail _ (.head _)) (Nat.zero_le _) fun h5 F5 N5 => ?_
    k_steps
    have ilv : lv2 ≠ I := hoff _ (.head _)
    have ne (q : Addr × Obj) (hq : q ∈ r1) : q.1 ≠ lv2 := Nat.ne_of_lt (allLt_mem LL.2.2 q hq)
    refine ⟨_, _, F5, N5, mem_put (.head _) (Ne.symm ilv), ⟨rfl, fun q hq => mem_off.mpr ⟨mem_put (.tail _ (.tail _ (.tail _ (.tail _ (nws q hq))))) (ne q (nws q hq)), hoff _ (.tail _ (.tail _ (.tail _ (nws q hq))))⟩, d', _, _, _, _, _, _, _, _, _, lv2, _, _, mem_off.mpr ⟨mem_put (.tail _ (.tail _ (.tail _ (.tail _ hx1')))) (ne _ hx1'), hoff _ (.tail _ (.tail _ (.tail _ hx1')))⟩, mem_off.mpr ⟨mem_put (.tail _ (.tail _ (.tail _ (.head _)))) (Nat.ne_of_lt LL.2.1), hoff _ (.tail _ (.tail _ (.head _)))⟩, mem_off.mpr ⟨mem_put (.tail _ (.tail _ (.head _))) (Nat.ne_of_lt LL.1), hoff _ (.tail _ (.head _))⟩, mem_off.mpr ⟨mem_put_self, ilv⟩⟩, rfl⟩
  · intro m₁ led₁ h d t9 hK F2 N2
    k_steps
    exact hret x' _ _ _ led₁ (by assumption) (by assumption) hK.1 ⟨_, _, _, hK.2⟩
end Mine
end

/- RFa -/
section
open PySem PySem.W PyProof.Rows PySem.Calls PySem.Spec
set_option linter.unusedVariables false
namespace Mine
local macro_rules | `(tactic| k_mem) => `(tactic| first | assumption | exact List.Mem.head _ | (refine List.Mem.tail _ ?_; k_mem))
local macro_rules | `(tactic| k_inst) => `(tactic| (refine' inst_rule ?N ?h1 ?h2; (case N => k_asm); (case h1 => k_mem); (case h2 => k_mem)))
local macro_rules | `(tactic| wtm_at "own subscriptTail") => `(tactic| refine Halt9.intro ?_)
set_option maxRecDepth 100000 in
set_option maxHeartbeats 2000000 in
theorem rfast {p9 : Program} {lo9 : List Str} (w : World) (mean : ExcName → Option Value) (mg mb : Str → Option Value) (cn : Str) (cs : Scope) (a : Addr) (ccd : Value) (cl : List (Str × Addr)) (outer : List Env) (A₀ : Around) (base h₀ : Heap) (L : Addr) (m : Str → Option Value) (news : List (Addr × Obj)) (s : Shared)
   (Q E : Value → Shared → Prop) (x : Addr)
   (B : Below A₀ base outer h₀) (F : Fr h₀ L s.heap m) (X : (hd.heap_39 w.params).In h₀) (N : News h₀ L s.heap news)
   (T : Top p9 lo9 mean mg mb h₀)
   (hk : cs.kind = .function) (hx : RuleAt w news x)
   (hret : ∀ t h' tk', Fr h₀ L h' m → News h₀ L h' news → Q (.str (Str.ofString "standard") t) { s with heap := h', toks := tk' }) :
   wpAny (model PySem.Challenge.rw_bb0001_01.row.prog w) { handled := none, depth := 390, frames := some (envX cn cs L a ccd cl :: outer), guards := none, units := 25 } (call (.ref 358) [.ref x]) Q E s := by
  obtain ⟨la, nt, ta, dx, k1, k2, k3, k4, k5, k6, v1, v2, v3, lv, tb, nl, ha, hb, hc, hd⟩ := hx
  revert X
  k_fill
  intro X
  refine wpAny_call ?_
  k_dflt (refine' code_def ?k1 ?k2 ?k3 ?k4 ?k5 ?kA ?kF ?kK ?k6 ?k7 ?k8 ?k9 ?kB ?_ ?c2 ?c3 ?c4 ?c5; (case kA => exact rfl); (case kF => exact rfl); (case kK => assumption); (case k1 => k_asm); (case k2 => k_asm); (case k3 => k_asm); (case k4 => k_asm); (case k5 => k_asm); (case k6 => k_is); (case k7 => k_is); (case k8 => k_room); (case k9 => first | exact BindsTo.of_eq rfl | exact binds_K (by k_in) rfl (by k_is) rfl rfl rfl | fail "k_enter: no rule for these arguments"); (case c5 => decide); (case kB => exact locs rfl); (case c2 => exact rfl); (case c3 => exact rfl); (case c4 => exact rfl); k_whole; intro g' L' h' FG' F' N' B' X' T'; (try dsimp only); (try k_lift B'); (try k_fold))
  k_steps
  rename News _ _ _ _ => NT
  refine wpAny_truthy_list (items := #[.str (Str.ofString "standard") tb]) ⟨_, (NT _ hd).1, rfl, _, rfl⟩ (by show ((1 : Nat) : Int) < 2 ^ 63; decide) ?_
  rw [show (!(#[Value.str (Str.ofString "standard") tb] : Array Value).isEmpty) = true from rfl]
  k_steps
  refine Halt9.out ?_
  rename News _ _ _ _ => NN
  refine' tail_any (o := .ref lv) (T := "list") ?z1 slot_list_getitem.lookup ?z2 ?z3
  case z1 => exact ⟨_, (NN _ hd).1, rfl⟩
  case z3 => with_unfolding_all rfl
  refine wpAny_getItem_list (x := .str (Str.ofString "standard") tb) (items := #[.str (Str.ofString "standard") tb]) ⟨_, (NN _ hd).1, rfl, _, rfl⟩ (by decide) (by decide) rfl ?_
  k_steps
  exact hret _ _ _ (by assumption) (by assumption)
theorem rfast_u {A : Around} {p9 : Program} {lo9 : List Str} {w : World} {mean : ExcName → Option Value} {mg mb : Str → Option Value} {cn : Str} {cs : Scope} {a : Addr} {ccd : Value} {cl : List (Str × Addr)} {outer : List Env} {A₀ : Around} {base h₀ : Heap} {L : Addr} {m : Str → Option Value} {news : List (Addr × Obj)} {s : Shared}
   {Q E : Value → Shared → Prop}
   (hh : A.handled = none) (hdp : A.depth ≤ 390) (hfr : A.frames = some (envX cn cs L a ccd cl :: outer)) (hun : A.units ≤ 25) (x : Addr)
   (B : Below A₀ base outer h₀) (F : Fr h₀ L s.heap m) (X : (hd.heap_39 w.params).In h₀) (N : News h₀ L s.heap news)
   (T : Top p9 lo9 mean mg mb h₀)
   (hk : cs.kind = .function) (hx : RuleAt w news x)
   (hret : ∀ t h' tk', Fr h₀ L h' m → News h₀ L h' news → Q (.str (Str.ofString "standard") t) { s with heap := h', toks := tk' }) :
   wpAny (model PySem.Challenge.rw_bb0001_01.row.prog w) A (call (.ref 358) [.ref x]) Q E s :=
  wp_weaken hh hdp (.inr hfr) (.inl rfl) hun (rfast w mean mg mb cn cs a ccd cl outer A₀ base h₀ L m news s Q E x B F X N T hk hx hret)

end Mine
end

/- Co -/
section
open PySem PySem.W PyProof.Rows PySem.Calls PySem.Spec
set_option linter.unusedVariables false
namespace Mine
theorem rule_any {A : Around} {p9 : Program} {lo9 : List Str} {w : World} {mean : ExcName → Option Value} {mg mb : Str → Option Value} {cn : Str} {cs : Scope} {a : Addr} {ccd : Value} {cl : List (Str × Addr)} {outer : List Env} {A₀ : Around} {base h₀ : Heap} {L : Addr} {m : Str → Option Value} {news : List (Addr × Obj)} {s : Shared}
   {Q E : Value → Shared → Prop}
   (hh : A.handled = none) (hdp : A.depth ≤ 390) (hfr : A.frames = some (envX cn cs L a ccd cl :: outer)) (hun : A.units ≤ 25) (r : Nat) (hr : r < 5) (t : Tok)
   (B : Below A₀ base outer h₀) (F : Fr h₀ L s.heap m) (X : (hd.heap_39 w.params).In h₀) (N : News h₀ L s.heap news)
   (T : Top p9 lo9 mean mg mb h₀)
   (hk : cs.kind = .function) (hT52 : Tab 52 news) (hret : ∀ x h' d' t' led', Fr h₀ L h' m → News h₀ L h' led' → (∀ p ∈ news, p ∈ led') → RuleAt w led' x → Q (.ref x) ⟨h', s.gens, d', t', s.os⟩) :
   wpAny (model PySem.Challenge.rw_bb0001_01.row.prog w) A (call (.ref 369) [.str (Str.ofString "seq" ++ nmOf r) t]) Q E s := by
  have h300 : A.depth ≤ 400 := Nat.le_trans hdp (Nat.le_of_ble_eq_true rfl)
  have h35 : A.units ≤ 35 := Nat.le_trans hun (Nat.le_of_ble_eq_true rfl)
  rcases r with _ | _ | _ | _ | _ | r
  · rw [show Str.ofString "seq" ++ nmOf 0 = Str.ofString "seqpav" from by decide +kernel]
    exact rk0_u hh h300 hfr h35 t B F X N T hk hret
  · rw [show Str.ofString "seq" ++ nmOf (0 + 1) = Str.ofString "seqslav" from by decide +kernel]
    exact rk1_u hh h300 hfr h35 t B F X N T hk hret
  · rw [show Str.ofString "seq" ++ nmOf (0 + 1 + 1) = Str.ofString "seqcc" from by decide +kernel]
    exact rk2_u hh h300 hfr h35 t B F X N T hk hret
  · rw [show Str.ofString "seq" ++ nmOf (0 + 1 + 1 + 1) = Str.ofString "seqgeom2" from by decide +kernel]
    exact wp_weaken hh hdp (.inr hfr) (.inl rfl) hun (rs0 w mean mg mb cn cs a ccd cl outer A₀ base h₀ L m news s Q E t B F X N T hk hT52 hret)
  · rw [show Str.ofString "seq" ++ nmOf (0 + 1 + 1 + 1 + 1) = Str.ofString "seqgeom3" from by decide +kernel]
    exact wp_weaken hh hdp (.inr hfr) (.inl rfl) hun (rs1 w mean mg mb cn cs a ccd cl outer A₀ base h₀ L m news s Q E t B F X N T hk hT52 hret)
  · exact absurd hr (by omega)
local macro_rules | `(tactic| k_mem) => `(tactic| first | assumption | exact List.Mem.head _ | (refine List.Mem.tail _ ?_; k_mem))
local macro_rules | `(tactic| k_inst) => `(tactic| (refine' inst_rule ?N ?h1 ?h2; (case N => k_asm); (case h1 => k_mem); (case h2 => k_mem)))
theorem nm_len : ∀ r, Str.length (nmOf r) ≤ 9
  | 0 | 1 | 2 | 3 => by decide +kernel
  | _ + 4 => (by decide +kernel : Str.length (Str.ofString "geom3") ≤ 9)
theorem add_nm {w : World} {prog : Program} {A : Around} {E : Value → Shared → Prop} {s : Shared} {r : Nat} {t u : Tok} {Q : Value → Shared → Prop} (h : ∀ t' tk, Q (.str (Str.ofString "seq" ++ nmOf r) t') { s with toks := tk }) :
    wpAny (model prog w) A (binaryOp .Add (.str (Str.ofString "seq") t) (.str (nmOf r) u)) Q E s :=
  PyProof.Rows.add_str h (by
    have h1 := nm_len r
    have h2 : Str.length (Str.ofString "seq") ≤ 9 := by decide +kernel
    have h3 : 18 ≤ sizeLine := Nat.le_of_ble_eq_true rfl
    omega)
local macro_rules | `(tactic| wtm_at "own binaryOp Add str str") => `(tactic| (k_here; refine add_nm ?_; intro t8 tk8; (try dsimp only)))
local macro_rules | `(tactic| wtm_at "own call ref") => `(tactic| refine Halt9.intro ?_)
set_option maxRecDepth 100000 in
set_option maxHeartbeats 2000000 in
theorem comp448 {p9 : Program} {lo9 : List Str} (w : World) (mean : ExcName → Option Value) (mg mb : Str → Option Value) (cn : Str) (cs : Scope) (a : Addr) (ccd : Value) (cl : List (Str × Addr)) (outer : List Env) (A₀ : Around) (base h₀ : Heap) (L : Addr) (m : Str → Option Value) (news : List (Addr × Obj)) (s : Shared)
   (Q E : Value → Shared → Prop) (r : Nat) (hr : r < 5) (t : Tok) (p lv : Addr) (n : Nat) (vv : Array Value) (nlv : Nat) (bs : List (List Nat × Int)) (k : Nat) (tkk : Tok) (NG : Nat)
   (B : Below A₀ base outer h₀) (F : Fr h₀ L s.heap m) (X : (hd.heap_39 w.params).In h₀) (N : News h₀ L s.heap news)
   (T : Top p9 lo9 mean mg mb h₀)
   (hk : cs.kind = .function) (hn : n = 3 ∨ n = 4) (hp : ProfAt w news p n lv) (hlv : (lv, ({ cls := .type "list", data := .seq vv nlv } : Obj)) ∈ news) (hvot : VotersAt w news vv bs) (hbs : bs.length ≤ 4) (hbs1 : 1 ≤ bs.length) (hb : ∀ b ∈ bs, b.1 ∈ subs ∧ (∀ k ∈ b.1, k < n) ∧ 0 < b.2 ∧ b.2 ≤ 1001)
   (hk1 : 1 ≤ k) (hk3 : k ≤ 3) (hT52 : Tab 52 news) (hT80 : Tab 80 news) (hT88 : Tab 88 news) (hG : GB NG s.gens)
   (hret : ∀ lo e2 x dx com tks ep h' g' d' t' led', Run (GOf r) bs n (DOf r) com → com.length = k → Fr h₀ L h' m → News h₀ L h' led' → (∀ p ∈ news, p.1 ≠ 52 → p.1 ≠ 80 → p.1 ≠ 88 → p ∈ led') → Tab 52 led' → Tab 80 led' → Tab 88 led' → GB NG g' → (lo, seqObj "list" #[.ref x] e2) ∈ led' → (x, csObj dx (esOf (insAll [] com) tks) ep (tabS (insAll [] com) (!bt w))) ∈ led' → (dx, dictOf [] 0) ∈ led' → Q (.ref lo) ⟨h', g', d', t', s.os⟩) :
   wpAny (model PySem.Challenge.rw_bb0001_01.row.prog w) { handled := none, depth := 380, frames := some (envX cn cs L a ccd cl :: outer), guards := none, units := 15 } (call (.ref 448) [.str (nmOf r) t, .ref p, .int (k : Int) tkk]) Q E s := by
  revert X
  k_fill
  intro X
  refine wpAny_call ?_
  k_dflt (refine' code_def ?k1 ?k2 ?k3 ?k4 ?k5 ?kA ?kF ?kK ?k6 ?k7 ?k8 ?k9 ?kB ?_ ?c2 ?c3 ?c4 ?c5; (case kA => exact rfl); (case kF => exact rfl); (case kK => assumption); (case k1 => k_asm); (case k2 => k_asm); (case k3 => k_asm); (case k4 => k_asm); (case k5 => k_asm); (case k6 => k_is); (case k7 => k_is); (case k8 => k_room); (case k9 => first | exact BindsTo.of_eq rfl | exact binds_K (by k_in) rfl (by k_is) rfl rfl rfl | fail "k_enter: no rule for these arguments"); (case c5 => decide); (case kB => exact locs rfl); (case c2 => exact rfl); (case c3 => exact rfl); (case c4 => exact rfl); k_whole; intro g' L' h' FG' F' N' B' X' T'; (try dsimp only); (try k_lift B'); (try k_fold))
  replace F' : Fr _ _ _ (fun y => List.lookup y [(Str.ofString "max_num_of_committees", _), (Str.ofString "resolute", _), (Str.ofString "algorithm", _), (Str.ofString "committeesize", _), (Str.ofString "profile", _), (Str.ofString "scorefct_id", _)]) := F'
  k_steps
  refine Halt9.out ?_
  rename Fr _ _ _ _ => FF
  rename News _ _ _ _ => NN
  refine gm_any_u rfl (Nat.le_of_ble_eq_true rfl) rfl (Nat.le_of_ble_eq_true rfl) r hr t _ (by assumption) FF (by assumption) NN (by assumption) rfl hT52 ?_
  intro f need hf gf df tkf ledf hgf Ff Nf sf nf of ef
  subst ef
  dsimp only
  k_steps
  refine Halt9.out ?_
  rename Fr _ _ _ _ => FF
  rename News _ _ _ _ => NN
  refine rule_any rfl (Nat.le_of_ble_eq_true rfl) rfl (Nat.le_of_ble_eq_true rfl) r hr _ (by assumption) FF (by assumption) NN (by assumption) rfl (hT52.mono fun p hp _ => sf p hp) ?_
  intro x1 h1 d1 t1 led1 F1 N1 s1 hx1
  have hx1' := hx1
  obtain ⟨la, nt, ta, dxr, j1, j2, j3, j4, j5, j6, v1, v2, v3, lvr, tb, nlr, ha1, hb1, hc1, hd1⟩ := hx1'
  k_steps
  refine Halt9.out ?_
  rename Fr _ _ _ _ => FF
  rename News _ _ _ _ => NN
  refine rfast_u rfl (Nat.le_of_ble_eq_true rfl) rfl (Nat.le_of_ble_eq_true rfl) x1 (by assumption) FF (by assumption) NN (by assumption) rfl hx1 ?_
  intro ts h2 tk2 F2 N2
  k_steps
  refine Halt9.out ?_
  rename Fr _ _ _ _ => FF
  rename News _ _ _ _ => NN
  have hvs : vv.size = bs.length := hvot.1
  with_unfolding_all show wpAny _ _ (call (.ref 366) [.ref x1] [(Str.ofString "profile", .ref p), (Str.ofString "committeesize", .int (k : Int) tkk), (Str.ofString "algorithm", .str (Str.ofString "standard") ts), (Str.ofString "resolute", .bool true), (Str.ofString "max_num_of_committees", .none)]) _ _ _
  refine rver_u rfl (Nat.le_of_ble_eq_true rfl) rfl (Nat.le_of_ble_eq_true rfl) x1 p lv n vv nlv k tkk ts (by assumption) FF (by assumption) NN (by assumption) rfl hx1 (hp.mono fun q hq => s1 q (sf q hq)) hn (s1 _ (sf _ hlv)) (by omega) (by omega) hk1 (by omega) ?_
  intro h3 tk3 F3 N3
  k_steps
  refine Halt9.out ?_
  rename Fr _ _ _ _ => FF
  rename News _ _ _ _ => NN
  refine res453_u rfl (Nat.le_of_ble_eq_true rfl) rfl (Nat.le_of_ble_eq_true rfl) r hr t p lv n vv nlv bs k tkk NG (by assumption) FF (by assumption) NN (by assumption) rfl hn (hp.mono fun q hq => s1 q (sf q hq)) (s1 _ (sf _ hlv)) (hvot.mono fun q hq => s1 q (sf q hq)) hbs hb hk1 hk3 (by omega) (hT52.mono fun q hq _ => s1 q (sf q hq)) (hT80.mono fun q hq _ => s1 q (sf q hq)) (hT88.mono fun q hq _ => s1 q (sf q hq)) hG ?_
  intro tp e lo e2 i2 x dx com tks ep h4 g4 d4 t4 led4 hrun hlen F4 N4 s4 T52 T80 T88 G4 htp hlo hx hdx o1 o2 o3 o4
  dsimp only
  k_steps
  refine Halt9.out ?_
  rename Fr _ _ _ _ => FF
  rename News _ _ _ _ => NN
  have hsub : insAll [] com ∈ subs := insAll_subs com [] (by decide) (fun q hq => Nat.lt_of_lt_of_le (hrun.lt q hq) (by omega))
  refine sc85_u rfl (Nat.le_of_ble_eq_true rfl) rfl (Nat.le_of_ble_eq_true rfl) lo x _ (insAll [] com) NG (by assumption) FF (by assumption) NN (by assumption) rfl hlo ⟨rfl, _, rfl⟩ (.inr ⟨dx, tks, ep, hx, hsub⟩) T52 T80 T88 G4 ?_
  intro lo5 e5 x5 dx5 tks5 ep5 h5 g5 d5 t5 led5 F5 N5 s5 T52' T80' T88' G5 hlo5 hx5 hdx5 _ _ _
  dsimp only
  k_steps
  exact hret lo5 e5 x5 dx5 com tks5 ep5 _ _ _ _ led5 hrun hlen (by assumption) (by assumption) (fun q hq a1 a2 a3 => s5 q (s4 q (s1 q (sf q hq)) a1 a2 a3) a1 a2 a3) T52' T80' T88' G5 hlo5 hx5 hdx5
theorem comp448_u {A : Around} {p9 : Program} {lo9 : List Str} {w : World} {mean : ExcName → Option Value} {mg mb : Str → Option Value} {cn : Str} {cs : Scope} {a : Addr} {ccd : Value} {cl : List (Str × Addr)} {outer : List Env} {A₀ : Around} {base h₀ : Heap} {L : Addr} {m : Str → Option Value} {news : List (Addr × Obj)} {s : Shared}
   {Q E : Value → Shared → Prop}
   (hh : A.handled = none) (hdp : A.depth ≤ 380) (hfr : A.frames = some (envX cn cs L a ccd cl :: outer)) (hun : A.units ≤ 15) (r : Nat) (hr : r < 5) (t : Tok) (p lv : Addr) (n : Nat) (vv : Array Value) (nlv : Nat) (bs : List (List Nat × Int)) (k : Nat) (tkk : Tok) (NG : Nat)
   (B : Below A₀ base outer h₀) (F : Fr h₀ L s.heap m) (X : (hd.heap_39 w.params).In h₀) (N : News h₀ L s.heap news)
   (T : Top p9 lo9 mean mg mb h₀)
   (hk : cs.kind = .function) (hn : n = 3 ∨ n = 4) (hp : ProfAt w news p n lv) (hlv : (lv, ({ cls := .type "list", data := .seq vv nlv } : Obj)) ∈ news) (hvot : VotersAt w news vv bs) (hbs : bs.length ≤ 4) (hbs1 : 1 ≤ bs.length) (hb : ∀ b ∈ bs, b.1 ∈ subs ∧ (∀ k ∈ b.1, k < n) ∧ 0 < b.2 ∧ b.2 ≤ 1001)
   (hk1 : 1 ≤ k) (hk3 : k ≤ 3) (hT52 : Tab 52 news) (hT80 : Tab 80 news) (hT88 : Tab 88 news) (hG : GB NG s.gens)
   (hret : ∀ lo e2 x dx com tks ep h' g' d' t' led', Run (GOf r) bs n (DOf r) com → com.length = k → Fr h₀ L h' m → News h₀ L h' led' → (∀ p ∈ news, p.1 ≠ 52 → p.1 ≠ 80 → p.1 ≠ 88 → p ∈ led') → Tab 52 led' → Tab 80 led' → Tab 88 led' → GB NG g' → (lo, seqObj "list" #[.ref x] e2) ∈ led' → (x, csObj dx (esOf (insAll [] com) tks) ep (tabS (insAll [] com) (!bt w))) ∈ led' → (dx, dictOf [] 0) ∈ led' → Q (.ref lo) ⟨h', g', d', t', s.os⟩) :
   wpAny (model PySem.Challenge.rw_bb0001_01.row.prog w) A (call (.ref 448) [.str (nmOf r) t, .ref p, .int (k : Int) tkk]) Q E s :=
  wp_weaken hh hdp (.inr hfr) (.inl rfl) hun (comp448 w mean mg mb cn cs a ccd cl outer A₀ base h₀ L m news s Q E r hr t p lv n vv nlv bs k tkk NG B F X N T hk hn hp hlv hvot hbs hbs1 hb hk1 hk3 hT52 hT80 hT88 hG hret)

end Mine
end

/- PF -/
section
open PySem PySem.W PyProof.Rows PySem.Calls PySem.Spec
set_option linter.unusedVariables false
namespace Mine
def TurnFree (h₀ : Heap) (L : Addr) (m : Str → Option Value) (s : Shared) (led : List (Addr × Obj)) (y : Value) (s' : Shared) : Prop := ∃ h' tk', s' = { s with heap := h', toks := tk' } ∧ Fr h₀ L h' m ∧ News h₀ L h' led
section
variable {prog : Program} {w : World} {A : Around} {E : Value → Shared → Prop} {s : Shared} {h₀ : Heap} {L : Addr} {m : Str → Option Value} {env : Env}
theorem comp_free {elt : Expr} {x : Str} {scope : Scope} {cl : List (Str × Addr)} {Fin : List Value → List (Addr × Obj) → Prop} {news : List (Addr × Obj)} {n : Nat} {a : Int}
    (turn : ∀ k t I oI C oC D m₂ ys h tk (E' : Value → Shared → Prop), a ≤ k → k < a + (n : Int) → LCg.NsObj oC m₂ → m₂ x = some (.int k t) → Fr h₀ L h m → News h₀ L h ((I, oI) :: (C, oC) :: (D, LCg.lst ys) :: news) →
      wpAny (model prog w) A (eval elt (compEnvC scope cl C env)) (TurnFree h₀ L m { s with heap := h, toks := tk } ((I, oI) :: (C, oC) :: (D, LCg.lst ys) :: news)) E' { s with heap := h, toks := tk })
    (fin : ∀ ys, ys.length = n → Fin ys news) : LCg.CompRest prog w A h₀ L m env elt x scope cl s (fun _ => True) (fun i v => ∃ t, v = .int (a + (i : Int)) t) Fin n 0 [] news := by
  have key : ∀ (j i : Nat) (ys : List Value), i + j = n → ys.length = i → LCg.CompRest prog w A h₀ L m env elt x scope cl s (fun _ => True) (fun i v => ∃ t, v = .int (a + (i : Int)) t) Fin j i ys news := by
    intro j
    induction j with
    | zero =>
      intro i ys hi hy
      exact LCg.CompRest.zero (fin ys (by omega))
    | succ j ih =>
      intro i ys hi hy
      refine LCg.CompRest.succ ?_
      intro v I oI C oC D m₂ h tk E' hv hC hx F N off ne
      obtain ⟨t, rfl⟩ := hv
      refine wpAny_mono (turn _ t I oI C oC D m₂ ys h tk E' (by omega) (by omega) hC hx F N) (fun y s₂ hq => ?_) fun _ _ e => e
      obtain ⟨h', tk', rfl, F', N'⟩ := hq
      exact ⟨h', tk', news, rfl, F', N', off, trivial, ih (i + 1) _ (by omega) (by simp [hy])⟩
  exact key n 0 [] (by omega) rfl
end
theorem mem_pf {α : Type} {x d lc ln lv c : α} {l : List α} : ∀ p ∈ x :: d :: lc :: ln :: lv :: l, p ∈ lv :: ln :: lc :: c :: x :: d :: l := fun p hp => by
  simp only [List.mem_cons] at hp ⊢
  rcases hp with h | h | h | h | h | h
  · exact .inr (.inr (.inr (.inr (.inl h))))
  · exact .inr (.inr (.inr (.inr (.inr (.inl h)))))
  · exact .inr (.inr (.inl h))
  · exact .inr (.inl h)
  · exact .inl h
  · exact .inr (.inr (.inr (.inr (.inr (.inr h)))))
theorem sep_pf {x d lc ln lv c : Addr} {o1 o2 o3 o4 o5 : Obj} {news : List (Addr × Obj)} (h : Sep news) (h1 : ∀ p ∈ news, p.1 < d) (h2 : d < x) (h3 : c ≠ lc ∧ x ≠ lc ∧ d ≠ lc ∧ GnNe lc news) (h4 : lc ≠ ln ∧ c ≠ ln ∧ x ≠ ln ∧ d ≠ ln ∧ LCg.Off1 ln news) (h5 : ln < lv ∧ lc < lv ∧ c < lv ∧ x < lv ∧ d < lv ∧ AllLt lv news) :
    Sep ((x, o1) :: (d, o2) :: (lc, o3) :: (ln, o4) :: (lv, o5) :: news) := by
  refine .cons ?_ (.cons ?_ (.cons ?_ (.cons ?_ (.cons ?_ h))))
  all_goals simp only [List.forall_mem_cons]
  · exact ⟨Nat.ne_of_lt h2, Ne.symm h3.2.1, Ne.symm h4.2.2.1, Nat.ne_of_gt h5.2.2.2.1, fun q hq => Nat.ne_of_lt (Nat.lt_trans (h1 q hq) h2)⟩
  · exact ⟨Ne.symm h3.2.2.1, Ne.symm h4.2.2.2.1, Nat.ne_of_gt h5.2.2.2.2.1, fun q hq => Nat.ne_of_lt (h1 q hq)⟩
  · exact ⟨Ne.symm h4.1, Nat.ne_of_gt h5.2.1, fun q hq => gnNe_mem h3.2.2.2 q hq⟩
  · exact ⟨Nat.ne_of_gt h5.1, fun q hq => off1_mem h4.2.2.2.2 q hq⟩
  · exact fun q hq => Nat.ne_of_lt (allLt_mem h5.2.2.2.2.2 q hq)
local macro_rules | `(tactic| wtm_at "own exec Assign cons ListComp") => `(tactic| (k_here; walk_at "exec Assign"))
local macro_rules | `(tactic| k_mem) => `(tactic| first | assumption | exact List.Mem.head _ | (refine List.Mem.tail _ ?_; k_mem))
local macro_rules | `(tactic| wtm_at "own CompSrc") => `(tactic| (k_here; k_dflt (refine LCg.CompSrc.range (by rfl) (by k_asm) (by k_asm) (by assumption) (by first | decide | rfl) (by first | rfl | decide) (by first | size_fits | exact Nat.le_of_ble_eq_true rfl) ?_; intro g'; (refine comp_free (fun k' t' I' oI' C' oC' D' m' ys' h' tk' E' hlo' hhi' hC' hx' F' N' => ?_) (fun ys' hys' => ?_)))))
local macro_rules | `(tactic| wtm_at "own TurnFree") => `(tactic| (with_unfolding_all exact ⟨_, _, rfl, by assumption, by assumption⟩))
set_option maxRecDepth 100000 in
set_option maxHeartbeats 600000 in
theorem pf_new {p9 : Program} {lo9 : List Str} (w : World) (mean : ExcName → Option Value) (mg mb : Str → Option Value) (cn : Str) (cs : Scope) (a : Addr) (ccd : Value) (cl : List (Str × Addr)) (outer : List Env) (A₀ : Around) (base h₀ : Heap) (L : Addr) (m : Str → Option Value) (news : List (Addr × Obj)) (s : Shared)
   (Q E : Value → Shared → Prop) (n : Int) (t9 : Tok)
   (B : Below A₀ base outer h₀) (F : Fr h₀ L s.heap m) (X : (hd.heap_39 w.params).In h₀) (N : News h₀ L s.heap news)
   (T : Top p9 lo9 mean mg mb h₀)
   (hk : cs.kind = .function) (hn : n = 3 ∨ n = 4) (hS : Sep news)
   (hret : ∀ x dx lc ln lv k1 k2 k3 vs nl vs2 n2 h' tk', (vs : Array Value).size = n.toNat → Fr h₀ L h' m → News h₀ L h' ((x, instObj 596 dx) :: (dx, dictOf [⟨PyData.keyHash w.params (Str.ofString "candidates"), .str (Str.ofString "candidates") k1, .ref lc⟩, ⟨PyData.keyHash w.params (Str.ofString "cand_names"), .str (Str.ofString "cand_names") k2, .ref ln⟩, ⟨PyData.keyHash w.params (Str.ofString "_voters"), .str (Str.ofString "_voters") k3, .ref lv⟩] 3) :: (lc, { cls := .type "list", data := .seq vs nl }) :: (ln, { cls := .type "list", data := .seq vs2 n2 }) :: (lv, { cls := .type "list", data := .seq #[] 0 }) :: news) → Sep ((x, instObj 596 dx) :: (dx, dictOf [⟨PyData.keyHash w.params (Str.ofString "candidates"), .str (Str.ofString "candidates") k1, .ref lc⟩, ⟨PyData.keyHash w.params (Str.ofString "cand_names"), .str (Str.ofString "cand_names") k2, .ref ln⟩, ⟨PyData.keyHash w.params (Str.ofString "_voters"), .str (Str.ofString "_voters") k3, .ref lv⟩] 3) :: (lc, { cls := .type "list", data := .seq vs nl }) :: (ln, { cls := .type "list", data := .seq vs2 n2 }) :: (lv, { cls := .type "list", data := .seq #[] 0 }) :: news) → Q (.ref x) { s with heap := h', toks := tk' })
   :
   wpAny (model PySem.Challenge.rw_bb0001_01.row.prog w) { handled := none, depth := 400, frames := some (envX cn cs L a ccd cl :: outer), guards := none, units := 60 } (call (.ref 596) [.int n t9]) Q E s := by
  revert X
  k_fill
  intro X
  rcases hn with rfl | rfl
  · k_dflt (refine' call_cls ?k1 ?k2 ?k3 ?k4 ?k5 ?k6 ?_; (case k1 => k_asm); (case k2 => k_asm); (case k3 => k_asm); (case k4 => k_is); (case k5 => k_is); (case k6 => k_is); k_whole; intro x' d' h' F' N' l1 l2; have l1' := l1; have l2' := l2; (try k_lt l1); (try k_lt2 l2); (try k_sweep))
    k_dflt (refine' code_defC ?k1 ?k2 ?k3 ?k4 ?k5 ?kA ?kF ?kK ?k6 ?k7 ?k8 ?k9 ?kB ?kD ?_ ?c2 ?c3 ?c4; (case kA => exact rfl); (case kF => exact rfl); (case kK => assumption); (case k1 => k_asm); (case k2 => k_asm); (case k3 => k_asm); (case k4 => k_asm); (case k5 => k_asm); (case k6 => k_is); (case k7 => k_is); (case k8 => k_room); (case k9 => first | exact BindsTo.of_eq rfl | exact binds_K (by k_in) rfl (by k_is) rfl rfl rfl); (case kB => exact rfl); (case kD => decide +kernel); (case c2 => exact rfl); (case c3 => exact rfl); (case c4 => exact rfl); k_whole; intro g' L' h' tk' cells' FG' F' N' Y' B' X' T' l1; (try k_lt l1); k_cells Y'; (try simp only [List.cons_append, List.nil_append] at N'); (try dsimp only); (try k_lift B'); (try k_fold))
    k_steps
    rename_i zf zn zt zx
    refine hret _ _ _ _ _ _ _ _ _ _ _ _ _ _ ?_ zf (cb_drop zn mem_pf) (sep_pf hS l1' l2' (by assumption) (by assumption) (by assumption))
    rename IntsAre _ _ => zi
    exact zi.length.trans (by rfl)
  · k_dflt (refine' call_cls ?k1 ?k2 ?k3 ?k4 ?k5 ?k6 ?_; (case k1 => k_asm); (case k2 => k_asm); (case k3 => k_asm); (case k4 => k_is); (case k5 => k_is); (case k6 => k_is); k_whole; intro x' d' h' F' N' l1 l2; have l1' := l1; have l2' := l2; (try k_lt l1); (try k_lt2 l2); (try k_sweep))
    k_dflt (refine' code_defC ?k1 ?k2 ?k3 ?k4 ?k5 ?kA ?kF ?kK ?k6 ?k7 ?k8 ?k9 ?kB ?kD ?_ ?c2 ?c3 ?c4; (case kA => exact rfl); (case kF => exact rfl); (case kK => assumption); (case k1 => k_asm); (case k2 => k_asm); (case k3 => k_asm); (case k4 => k_asm); (case k5 => k_asm); (case k6 => k_is); (case k7 => k_is); (case k8 => k_room); (case k9 => first | exact BindsTo.of_eq rfl | exact binds_K (by k_in) rfl (by k_is) rfl rfl rfl); (case kB => exact rfl); (case kD => decide +kernel); (case c2 => exact rfl); (case c3 => exact rfl); (case c4 => exact rfl); k_whole; intro g' L' h' tk' cells' FG' F' N' Y' B' X' T' l1; (try k_lt l1); k_cells Y'; (try simp only [List.cons_append, List.nil_append] at N'); (try dsimp only); (try k_lift B'); (try k_fold))
    k_steps
    rename_i zf zn zt zx
    refine hret _ _ _ _ _ _ _ _ _ _ _ _ _ _ ?_ zf (cb_drop zn mem_pf) (sep_pf hS l1' l2' (by assumption) (by assumption) (by assumption))
    rename IntsAre _ _ => zi
    exact zi.length.trans (by rfl)
end Mine
end

/- LA1 -/
section
open PySem PySem.W PyProof.Rows PySem.Calls PySem.Spec
set_option linter.unusedVariables false
namespace Mine
/-- the law's own text -/
def lawFn : List Stmt × Scope := match PySem.Challenge.pw_bb0001_01.main.body.getLast? with
  | some (.FunctionDef _ _ body _ _ _ scope _ _ _) => (body, scope)
  | _ => ([], default)
abbrev lawEnv (L fa : Addr) (cdv : Value) : Env := envOfC (Str.ofString "law") lawFn.2 L fa cdv
set_option hygiene false in
local macro_rules | `(tactic| wtm_at "own eval Name") => `(tactic| (k_here; name_kind "local"; k_dflt (refine q_locF (by assumption) (by first | with_reducible (first | exact hm0 | exact hm1 | exact hm2 | exact hm3 | exact hm4 | exact hm5 | exact hm6 | exact hm7 | exact hm8 | exact hm9 | exact hm10 | exact hm11) | (first | exact hm0 | exact hm1 | exact hm2 | exact hm3 | exact hm4 | exact hm5 | exact hm6 | exact hm7 | exact hm8 | exact hm9 | exact hm10 | exact hm11)) (by kernel_rfl!) (by kernel_rfl!) (by exact rfl) ?_)))
set_option hygiene false in
local macro_rules | `(tactic| wtm_at "own loadName") => `(tactic| (k_here; k_dflt (refine wpAny_loadName_local (by exact rfl) (by exact rfl) (Fr.ns (by assumption)) (by first | exact hm0 | exact hm1 | exact hm2 | exact hm3 | exact hm4 | exact hm5 | exact hm6 | exact hm7 | exact hm8 | exact hm9 | exact hm10 | exact hm11) ?_)))
local macro_rules | `(tactic| k_mem) => `(tactic| first | assumption | exact List.Mem.head _ | (refine List.Mem.tail _ ?_; k_mem))
local macro_rules | `(tactic| wtm_at "own execs cons") => `(tactic| ((with_reducible show wpAny _ _ (execs (Stmt.Assign [Expr.Tuple _ _ _] _ _ :: _) _) _ _ _); refine Halt9.intro ?_))
local macro_rules | `(tactic| wtm_at "own execs cons Assign cons") => `(tactic| ((with_reducible show wpAny _ _ (execs (Stmt.Assign [Expr.Tuple _ _ _] _ _ :: _) _) _ _ _); refine Halt9.intro ?_))
local macro_rules | `(tactic| wtm_at "own call builtin:len") => `(tactic| refine Halt9.intro ?_)
local macro_rules | `(tactic| wtm_at "own subscriptTail Name Slice ref ref") => `(tactic| ((with_reducible show wpAny _ _ (subscriptTail (Expr.Name (Str.ofString "rest") _) _ _ _) _ _ _); refine Halt9.intro ?_))
set_option maxRecDepth 100000 in
set_option maxHeartbeats 2000000 in
theorem law1 {p9 : Program} {lo9 : List Str} (w : World) (mean : ExcName → Option Value) (mg mb : Str → Option Value) (fa : Addr) (cdv : Value) (base h₀ : Heap) (L : Addr) (m : Str → Option Value) (news : List (Addr × Obj)) (s : Shared) (Q : Flow → Shared → Prop) (E : Value → Shared → Prop) (sl : Addr) (sv : List Value) (ns : List Int)
   (B : Below callerA base [] h₀) (F : Fr h₀ L s.heap m) (X : (hd.heap_39 w.params).In h₀) (N : News h₀ L s.heap news) (T : Top p9 lo9 mean mg mb h₀) (hm0 : m (Str.ofString "script") = some (.ref sl)) (hsl : h₀.IsList sl sv.toArray) (hsi : IntsAre sv ns) (hns : ns.length ≤ 63)
   (hnext : ∀ cl ws cs n h' tk' m' led, IntsAre ws cs → cs.length = 7 → m' (Str.ofString "cells") = some (.ref cl) → Fr h₀ L h' m' → News h₀ L h' led → (∀ p ∈ news, p ∈ led) → (cl, ({ cls := .type "list", data := .seq ws.toArray n } : Obj)) ∈ led → wpAny (model PySem.Challenge.rw_bb0001_01.row.prog w) (callerA.deeper (lawEnv L fa cdv)) (execs (lawFn.1.drop 2) (lawEnv L fa cdv)) Q E { s with heap := h', toks := tk' }) :
   wpAny (model PySem.Challenge.rw_bb0001_01.row.prog w) (callerA.deeper (lawEnv L fa cdv)) (execs lawFn.1 (lawEnv L fa cdv)) Q E s := by
  revert X
  k_fill
  intro X
  with_unfolding_all show wpAny _ _ (execs (_ :: _) _) _ _ _
  k_steps
  refine Halt9.out ?_
  rename News _ _ _ _ => NN
  rename IntsAre _ _ => hI7
  have h7 := hI7.length
  have h7' : (ns.take 7).length ≤ 7 := by rw [List.length_take]; omega
  refine len_o NN (.head _) ⟨rfl, _, rfl⟩ (by rw [List.size_toArray]; omega) ?_
  intro t8 tk8
  rw [List.size_toArray, h7]
  dsimp only
  k_steps
  refine Halt9.out ?_
  rename Fr _ _ _ _ => FF
  rename News _ _ _ _ => NN
  have hir : ∀ t0 t1 t2 t3 t4 t5 t6 : Tok, IntsAre [Value.int 0 t0, .int 3 t1, .int 1 t2, .int 5 t3, .int 14 t4, .int 6 t5, .int 9 t6] [0, 3, 1, 5, 14, 6, 9] := fun _ _ _ _ _ _ _ => .cons _ _ (.cons _ _ (.cons _ _ (.cons _ _ (.cons _ _ (.cons _ _ (.cons _ _ .nil))))))
  k_dflt (refine' kmk_slice_ints FF NN ⟨_, (NN _ (.tail _ (.tail _ (.head _)))).1, rfl, _, rfl⟩ (.int _ _) .none (hir _ _ _ _ _ _ _) (kmk_from (hir _ _ _ _ _ _ _) (Int.natCast_nonneg _)) rfl ?_ ?s ?t ?z; (case s => with_unfolding_all rfl); (case t => kmk_pure); (case z => kmk_size))
  intro D8 ws8 h8 F8 N8 l8 hI8 _ _
  have l8' := l8
  k_steps
  refine Halt9.out ?_
  rename Fr _ _ _ _ => FF
  rename News _ _ _ _ => NN
  rename IntsAre _ _ => hIc
  refine hnext _ _ _ _ _ _ _ _ hIc ?_ (by exact rfl) FF NN (fun q hq => by k_mem) (.head _)
  rw [List.length_append, List.length_drop]
  show _ + (7 - (List.take 7 ns).length) = 7
  omega
end Mine
end

/- LA2 -/
section
open PySem PySem.W PyProof.Rows PySem.Calls PySem.Spec
set_option linter.unusedVariables false
namespace Mine
def gainsOf : Nat → List Int | 0 => [12, 6, 4, 3] | 1 => [105, 35, 21, 15] | 2 => [1, 0, 0, 0] | 3 => [8, 4, 2, 1] | _ => [27, 9, 3, 1]
theorem falls_of : ∀ r, r < 5 → Falls (gainsOf r) (GOf r)
  | 0, _ => ⟨_, _, _, _, rfl, by decide, by decide, by decide, by decide, rfl, rfl, rfl⟩
  | 1, _ => ⟨_, _, _, _, rfl, by decide, by decide, by decide, by decide, rfl, rfl, rfl⟩
  | 2, _ => ⟨_, _, _, _, rfl, by decide, by decide, by decide, by decide, rfl, rfl, rfl⟩
  | 3, _ => ⟨_, _, _, _, rfl, by decide, by decide, by decide, by decide, rfl, rfl, rfl⟩
  | 4, _ => ⟨_, _, _, _, rfl, by decide, by decide, by decide, by decide, rfl, rfl, rfl⟩
  | _ + 5, h => absurd h (by omega)
theorem gains_small : ∀ r, (gainsOf r).length = 4 ∧ ∀ x ∈ gainsOf r, 0 ≤ x ∧ x ≤ 200
  | 0 | 1 | 2 | 3 => by decide
  | _ + 4 => (by decide : [(27 : Int), 9, 3, 1].length = 4 ∧ ∀ x ∈ [(27 : Int), 9, 3, 1], 0 ≤ x ∧ x ≤ 200)
theorem gains_top {w : World} {h : Heap} (X : (hd.heap_39 w.params).In h) : h.IsList 650 #[.ref 645, .ref 646, .ref 647, .ref 648, .ref 649] ∧ PySem.Challenge.rw_bb0001_01.row.prog = PySem.Challenge.rw_bb0001_01.row.prog := by
  revert X; k_fill; intro X
  exact ⟨⟨_, X 650 _ (by k_is), rfl, _, rfl⟩, rfl⟩
theorem gains_at {w : World} {h : Heap} (X : (hd.heap_39 w.params).In h) (r : Nat) (hr : r < 5) : (∃ gv, h.IsList (645 + r) gv ∧ IntsAre gv.toList (gainsOf r)) ∧ PySem.Challenge.rw_bb0001_01.row.prog = PySem.Challenge.rw_bb0001_01.row.prog := by
  revert X; k_fill; intro X
  rcases r with _ | _ | _ | _ | _ | r
  · exact ⟨⟨_, ⟨_, X 645 _ (by k_is), rfl, _, rfl⟩, .cons _ _ (.cons _ _ (.cons _ _ (.cons _ _ .nil)))⟩, rfl⟩
  · exact ⟨⟨_, ⟨_, X 646 _ (by k_is), rfl, _, rfl⟩, .cons _ _ (.cons _ _ (.cons _ _ (.cons _ _ .nil)))⟩, rfl⟩
  · exact ⟨⟨_, ⟨_, X 647 _ (by k_is), rfl, _, rfl⟩, .cons _ _ (.cons _ _ (.cons _ _ (.cons _ _ .nil)))⟩, rfl⟩
  · exact ⟨⟨_, ⟨_, X 648 _ (by k_is), rfl, _, rfl⟩, .cons _ _ (.cons _ _ (.cons _ _ (.cons _ _ .nil)))⟩, rfl⟩
  · exact ⟨⟨_, ⟨_, X 649 _ (by k_is), rfl, _, rfl⟩, .cons _ _ (.cons _ _ (.cons _ _ (.cons _ _ .nil)))⟩, rfl⟩
  · exact absurd hr (by omega)
theorem five_item (r : Nat) (hr : r < 5) : (#[Value.ref 645, .ref 646, .ref 647, .ref 648, .ref 649] : Array Value)[r]? = some (.ref (645 + r)) := by
  rcases r with _ | _ | _ | _ | _ | r
  · rfl
  · rfl
  · rfl
  · rfl
  · rfl
  · exact absurd hr (by omega)
theorem ints1 {ws : List Value} {cs : List Int} {n : Nat} (h : IntsAre ws cs) (hl : cs.length = n + 1) : ∃ c t ws' cs', cs = c :: cs' ∧ ws = .int c t :: ws' ∧ IntsAre ws' cs' ∧ cs'.length = n := by
  cases h with
  | nil => cases hl
  | cons c t h' => exact ⟨_, _, _, _, rfl, rfl, h', Nat.succ.inj hl⟩
theorem ints7 : ∀ {ws : List Value} {cs : List Int}, IntsAre ws cs → cs.length = 7 → ∃ c0 c1 c2 c3 c4 c5 c6 t0 t1 t2 t3 t4 t5 t6, cs = [c0, c1, c2, c3, c4, c5, c6] ∧ ws = [.int c0 t0, .int c1 t1, .int c2 t2, .int c3 t3, .int c4 t4, .int c5 t5, .int c6 t6] := by
  intro ws cs h hl
  obtain ⟨c0, t0, ws0, cs0, rfl, rfl, h0, l0⟩ := ints1 h hl
  obtain ⟨c1, t1, ws1, cs1, rfl, rfl, h1, l1⟩ := ints1 h0 l0
  obtain ⟨c2, t2, ws2, cs2, rfl, rfl, h2, l2⟩ := ints1 h1 l1
  obtain ⟨c3, t3, ws3, cs3, rfl, rfl, h3, l3⟩ := ints1 h2 l2
  obtain ⟨c4, t4, ws4, cs4, rfl, rfl, h4, l4⟩ := ints1 h3 l3
  obtain ⟨c5, t5, ws5, cs5, rfl, rfl, h5, l5⟩ := ints1 h4 l4
  obtain ⟨c6, t6, ws6, cs6, rfl, rfl, h6, l6⟩ := ints1 h5 l5
  obtain rfl := List.eq_nil_of_length_eq_zero l6
  cases h6
  exact ⟨_, _, _, _, _, _, _, _, _, _, _, _, _, _, rfl, rfl⟩
set_option hygiene false in
local macro_rules | `(tactic| wtm_at "own eval Name") => `(tactic| (k_here; name_kind "local"; k_dflt (refine q_locF (by assumption) (by first | with_reducible (first | exact hm0 | exact hm1 | exact hm2 | exact hm3 | exact hm4 | exact hm5 | exact hm6 | exact hm7 | exact hm8 | exact hm9 | exact hm10 | exact hm11) | (first | exact hm0 | exact hm1 | exact hm2 | exact hm3 | exact hm4 | exact hm5 | exact hm6 | exact hm7 | exact hm8 | exact hm9 | exact hm10 | exact hm11)) (by kernel_rfl!) (by kernel_rfl!) (by exact rfl) ?_)))
set_option hygiene false in
local macro_rules | `(tactic| wtm_at "own loadName") => `(tactic| (k_here; k_dflt (refine wpAny_loadName_local (by exact rfl) (by exact rfl) (Fr.ns (by assumption)) (by first | exact hm0 | exact hm1 | exact hm2 | exact hm3 | exact hm4 | exact hm5 | exact hm6 | exact hm7 | exact hm8 | exact hm9 | exact hm10 | exact hm11) ?_)))
local macro_rules | `(tactic| k_mem) => `(tactic| first | assumption | exact List.Mem.head _ | (refine List.Mem.tail _ ?_; k_mem))

local macro_rules | `(tactic| wtm_at "own subscriptTail") => `(tactic| refine Halt9.intro ?_)
local macro_rules | `(tactic| wtm_at "own subscriptTail Name Constant ref int") => `(tactic| refine Halt9.intro ?_)
local macro_rules | `(tactic| wtm_at "own execs cons") => `(tactic| ((with_reducible show wpAny _ _ (execs (Stmt.For _ _ _ _ _ :: _) _) _ _ _); refine Halt9.intro ?_))
local macro_rules | `(tactic| wtm_at "own execs cons Assign cons") => `(tactic| ((with_reducible show wpAny _ _ (execs (Stmt.For _ _ _ _ _ :: _) _) _ _ _); refine Halt9.intro ?_))
set_option maxRecDepth 100000 in
set_option maxHeartbeats 2000000 in
theorem law2 {p9 : Program} {lo9 : List Str} (w : World) (mean : ExcName → Option Value) (mg mb : Str → Option Value) (fa : Addr) (cdv : Value) (base h₀ : Heap) (L : Addr) (m : Str → Option Value) (news : List (Addr × Obj)) (s : Shared) (Q : Flow → Shared → Prop) (E : Value → Shared → Prop) (cl : Addr) (ncl : Nat) (c0 c1 c2 c3 c4 c5 c6 : Int) (t0 t1 t2 t3 t4 t5 t6 : Tok)
   (B : Below callerA base [] h₀) (F : Fr h₀ L s.heap m) (X : (hd.heap_39 w.params).In h₀) (N : News h₀ L s.heap news) (T : Top p9 lo9 mean mg mb h₀) (hm1 : m (Str.ofString "cells") = some (.ref cl)) (hcl : (cl, ({ cls := .type "list", data := .seq #[.int c0 t0, .int c1 t1, .int c2 t2, .int c3 t3, .int c4 t4, .int c5 t5, .int c6 t6] ncl } : Obj)) ∈ news)
   (hnext : ∀ (r n : Nat) rl e tr tn h' tk' m' led, r < 5 → (n = 3 ∨ n = 4) → m' (Str.ofString "cells") = some (.ref cl) → m' (Str.ofString "rule") = some (.int (r : Int) tr) → m' (Str.ofString "count") = some (.int (n : Int) tn) → m' (Str.ofString "gains") = some (.ref (645 + r)) → m' (Str.ofString "rows") = some (.ref rl) → Fr h₀ L h' m' → News h₀ L h' led → (∀ p ∈ news, p ∈ led) → (rl, ({ cls := .type "list", data := .seq #[] e } : Obj)) ∈ led → (∀ p ∈ news, p.1 < rl) → wpAny (model PySem.Challenge.rw_bb0001_01.row.prog w) (callerA.deeper (lawEnv L fa cdv)) (execs (lawFn.1.drop 5) (lawEnv L fa cdv)) Q E { s with heap := h', toks := tk' }) :
   wpAny (model PySem.Challenge.rw_bb0001_01.row.prog w) (callerA.deeper (lawEnv L fa cdv)) (execs (lawFn.1.drop 2) (lawEnv L fa cdv)) Q E s := by
  revert X
  k_fill
  intro X
  with_unfolding_all show wpAny _ _ (execs (_ :: _ :: _ :: lawFn.1.drop 5) _) _ _ _
  generalize lawFn.1.drop 5 = rest at hnext ⊢
  k_steps
  refine Halt9.out ?_
  refine item_list (k := 0) (x := .int c0 t0) (items := #[.int c0 t0, .int c1 t1, .int c2 t2, .int c3 t3, .int c4 t4, .int c5 t5, .int c6 t6]) ⟨_, (N _ hcl).1, rfl, _, rfl⟩ (by decide) (by decide) (by rfl) ?_
  obtain ⟨r, hr, er⟩ : ∃ r : Nat, r < 5 ∧ c0.fmod 5 = (r : Int) := by
    rw [Int.fmod_eq_emod_of_nonneg _ (by decide)]
    have h1 := Int.emod_nonneg c0 (show (5 : Int) ≠ 0 by decide)
    have h2 := Int.emod_lt_of_pos c0 (show (0 : Int) < 5 by decide)
    exact ⟨(c0 % 5).toNat, by omega, by omega⟩
  obtain ⟨n, hn, en⟩ : ∃ n : Nat, (n = 3 ∨ n = 4) ∧ 3 + c1.fmod 2 = (n : Int) := by
    rw [Int.fmod_eq_emod_of_nonneg _ (by decide)]
    have h1 := Int.emod_nonneg c1 (show (2 : Int) ≠ 0 by decide)
    have h2 := Int.emod_lt_of_pos c1 (show (0 : Int) < 2 by decide)
    exact ⟨(3 + c1 % 2).toNat, by omega, by omega⟩
  k_steps
  refine Halt9.out ?_
  refine item_list (k := 1) (x := .int c1 t1) (items := #[.int c0 t0, .int c1 t1, .int c2 t2, .int c3 t3, .int c4 t4, .int c5 t5, .int c6 t6]) ⟨_, (N _ hcl).1, rfl, _, rfl⟩ (by decide) (by decide) (by rfl) ?_
  k_steps
  refine Halt9.out ?_
  rename Fr _ _ _ _ => FF
  rename News _ _ _ _ => NN
  rw [er] at FF ⊢
  rw [en] at FF
  refine item_list (k := (r : Int)) (x := .ref (645 + r)) (items := #[Value.ref 645, .ref 646, .ref 647, .ref 648, .ref 649]) (gains_top (X.keeps FF.keep)).1 (by omega) (by omega) (by rw [Int.toNat_natCast]; exact five_item r hr) ?_
  k_steps
  rename Fr _ _ _ _ => FF
  rename News _ _ _ _ => NN
  have hlt : ∀ q ∈ news, q.1 < _ := fun q hq => allLt_mem (And.right (by assumption)) q hq
  exact hnext r n _ _ _ _ _ _ _ _ hr hn (by exact hm1) (by exact rfl) (by exact rfl) (by exact rfl) (by exact rfl) FF NN (fun q hq => by k_mem) (.head _) hlt
end Mine
end

/- LA3 -/
section
open PySem PySem.W PyProof.Rows PySem.Calls PySem.Spec
set_option linter.unusedVariables false
namespace Mine
set_option hygiene false in
local macro_rules | `(tactic| wtm_at "own eval Name") => `(tactic| (k_here; name_kind "local"; k_dflt (refine q_locF (by assumption) (by first | with_reducible (first | exact hm0 | exact hm1 | exact hm2 | exact hm3 | exact hm4 | exact hm5 | exact hm6 | exact hm7 | exact hm8 | exact hm9 | exact hm10 | exact hm11) | (first | exact hm0 | exact hm1 | exact hm2 | exact hm3 | exact hm4 | exact hm5 | exact hm6 | exact hm7 | exact hm8 | exact hm9 | exact hm10 | exact hm11)) (by kernel_rfl!) (by kernel_rfl!) (by exact rfl) ?_)))
set_option hygiene false in
local macro_rules | `(tactic| wtm_at "own loadName") => `(tactic| (k_here; k_dflt (refine wpAny_loadName_local (by exact rfl) (by exact rfl) (Fr.ns (by assumption)) (by first | exact hm0 | exact hm1 | exact hm2 | exact hm3 | exact hm4 | exact hm5 | exact hm6 | exact hm7 | exact hm8 | exact hm9 | exact hm10 | exact hm11) ?_)))
local macro_rules | `(tactic| k_mem) => `(tactic| first | assumption | exact List.Mem.head _ | (refine List.Mem.tail _ ?_; k_mem))

set_option hygiene false in
local macro_rules | `(tactic| wtm_at "own eval Name") => `(tactic| (k_here; name_kind "cell"; k_dflt (refine cell_led (c := L + 1) (by assumption) (by k_mem) hocd1 ?_)))
local macro_rules | `(tactic| wtm_at "own subscriptTail Name Constant ref int") => `(tactic| refine Halt9.intro ?_)
local macro_rules | `(tactic| wtm_at "own subscriptTail Name Slice ref ref") => `(tactic| refine Halt9.intro ?_)
local macro_rules | `(tactic| wtm_at "own execs cons") => `(tactic| ((with_reducible show wpAny _ _ (execs (Stmt.Assign [Expr.Name (Str.ofString "best") _] _ _ :: _) _) _ _ _); refine Halt9.intro ?_))
local macro_rules | `(tactic| wtm_at "own execs cons Assign cons") => `(tactic| ((with_reducible show wpAny _ _ (execs (Stmt.Assign [Expr.Name (Str.ofString "best") _] _ _ :: _) _) _ _ _); refine Halt9.intro ?_))
local macro_rules | `(tactic| wtm_at "own exec For Name Subscript cons nil") => `(tactic| refine Halt9.intro ?_)
local macro_rules | `(tactic| wtm_at "own pyIter ref") => `(tactic| refine Halt9.intro ?_)
local macro_rules | `(tactic| wtm_at "own getMethod ref") => `(tactic| refine Halt9.intro ?_)
local macro_rules | `(tactic| wtm_at "own call builtin:list.append") => `(tactic| refine Halt9.intro ?_)
local macro_rules | `(tactic| wtm_at "own CompSrcT") => `(tactic| refine Halt9.intro ?_)
local macro_rules | `(tactic| wtm_at "own binaryOp FloorDiv int int") => `(tactic| (k_here; (with_reducible refine floordiv_int ?kbe ?_ (Or.inl (PyProof.noPylong_of_log2 ?kbp))); (case kbe => omega); (case kbp => exact log60 (by omega) (by omega))))
local macro_rules | `(tactic| wtm_at "own storeName") => `(tactic| ((with_reducible show wpAny _ _ (storeName _ (Str.ofString "pick") _) _ _ _); refine Halt9.intro ?_))
theorem ints_item : ∀ {vs : List Value} {ns : List Int} (i : Nat) (v : Value), IntsAre vs ns → vs[i]? = some v → ∃ (x : Int) (t : Tok), v = .int x t
  | _, _, i, v, .nil, h => by simp at h
  | _, _, 0, v, .cons n t _, h => ⟨n, t, by simp at h; exact h.symm⟩
  | _, _, i + 1, v, .cons n t r, h => ints_item i v r (by simpa using h)
theorem run_len {c3 c4 c5 c6 : Int} (c0 c1 c2 x : Int) (h : 0 ≤ x) (h4 : x < 4) : 1 ≤ ((([c0, c1, c2, c3, c4, c5, c6] : List Int).drop (3 : Int).toNat).take (min (4 + x).toNat ([c0, c1, c2, c3, c4, c5, c6] : List Int).length - (3 : Int).toNat)).length ∧ ((([c0, c1, c2, c3, c4, c5, c6] : List Int).drop (3 : Int).toNat).take (min (4 + x).toNat ([c0, c1, c2, c3, c4, c5, c6] : List Int).length - (3 : Int).toNat)).length ≤ 4 := by
  rw [List.length_take, List.length_drop]
  simp only [List.length_cons, List.length_nil]
  have : (3 : Int).toNat = 3 := rfl
  omega
/-- a tuple or a list -/
def Seqs (p : Addr × Obj) : Prop := ∃ vs n, p.2.data = .seq vs n
theorem RowsAt.lists {led led' : List (Addr × Obj)} {rv : Array Value} {bs : List (List Nat × Int)} (h : RowsAt led rv bs) (k : ∀ p ∈ led, Seqs p → p ∈ led') : RowsAt led' rv bs :=
  ⟨h.1, fun i b hb => let ⟨v, e, tp, nt, bl, tw, vs, nl, e1, a, b, c⟩ := h.2 i b hb; ⟨v, e, tp, nt, bl, tw, vs, nl, e1, k _ a ⟨_, _, rfl⟩, k _ b ⟨_, _, rfl⟩, c⟩⟩
theorem RowsAt.keep {led led' : List (Addr × Obj)} {rv : Array Value} {nrv : Nat} {bs : List (List Nat × Int)} (h : RowsAt led rv bs) (k : ∀ p ∈ led, Seqs p → p.2 ≠ ({ cls := .type "list", data := .seq rv nrv } : Obj) → p ∈ led') : RowsAt led' rv bs :=
  ⟨h.1, fun i b hb => by
    obtain ⟨v, e, tp, nt, bl, tw, vs, nl, e1, a, b', c⟩ := h.2 i b hb
    refine ⟨v, e, tp, nt, bl, tw, vs, nl, e1, k _ a ⟨_, _, rfl⟩ (fun z => ?_), k _ b' ⟨_, _, rfl⟩ (fun z => ?_), c⟩
    · have z1 := congrArg Obj.cls z
      simp at z1
    · have z1 := congrArg Obj.data z
      simp only [Data.seq.injEq] at z1
      obtain ⟨t, ht⟩ := c.get i v (by rw [z1.1]; simpa using e)
      rw [e1] at ht
      cases ht⟩
theorem RowsAt.snoc {led : List (Addr × Obj)} {rv : Array Value} {bs : List (List Nat × Int)} {v : Value} {b : List Nat × Int} (h : RowsAt led rv bs) (hr : RowAt led v b.1 b.2) : RowsAt led (rv.push v) (bs ++ [b]) :=
  ⟨by simp [h.1], fun i b' hb => by
    by_cases hi : i < bs.length
    · rw [List.getElem?_append_left hi] at hb
      obtain ⟨v', e, r⟩ := h.2 i b' hb
      have hi' : i ≠ rv.size := by rw [h.1]; omega
      exact ⟨v', by rw [Array.getElem?_push, if_neg hi']; exact e, r⟩
    · have hi2 := (List.getElem?_eq_some_iff.mp hb).1
      simp at hi2
      have hi' : i = bs.length := by omega
      subst hi'
      simp at hb
      subst hb
      exact ⟨v, by rw [Array.getElem?_push, if_pos h.1.symm], hr⟩⟩
theorem flt_subs (n : Nat) (hn : n = 3 ∨ n = 4) (p : Nat → Bool) : (List.range n).filter p ∈ subs ∧ ∀ k ∈ (List.range n).filter p, k < n := by
  refine ⟨?_, fun k hk => List.mem_range.mp (List.mem_filter.mp hk).1⟩
  rcases hn with rfl | rfl
  · show [0, 1, 2].filter p ∈ subs
    cases h0 : p 0 <;> cases h1 : p 1 <;> cases h2 : p 2 <;> simp [h0, h1, h2, subs]
  · show [0, 1, 2, 3].filter p ∈ subs
    cases h0 : p 0 <;> cases h1 : p 1 <;> cases h2 : p 2 <;> cases h3 : p 3 <;> simp [h0, h1, h2, h3, subs]
theorem wt_good (x y : Int) (h0 : 0 ≤ y) (h1 : y < 1000) : 0 < 1 + x.fmod (2 + y) ∧ 1 + x.fmod (2 + y) ≤ 1001 := by
  rw [Int.fmod_eq_emod_of_nonneg _ (by omega)]
  have a1 := Int.emod_nonneg x (show 2 + y ≠ 0 by omega)
  have a2 := Int.emod_lt_of_pos x (show 0 < 2 + y by omega)
  omega
theorem mem_tail2 {h₀ h : Heap} {L : Addr} {a b q : Addr × Obj} {l : List (Addr × Obj)} (_ : News h₀ L h (a :: b :: l)) (hq : q ∈ l) : q ∈ a :: b :: l := .tail _ (.tail _ hq)
theorem up_put {h₀ h : Heap} {L a : Addr} {o : Obj} {l : List (Addr × Obj)} (_ : News h₀ L h (put a o l)) : ∀ q ∈ l, q.1 ≠ a → q ∈ put a o l := fun q hq hne => mem_put hq hne
theorem self_put {h₀ h : Heap} {L a : Addr} {o : Obj} {l : List (Addr × Obj)} (_ : News h₀ L h (put a o l)) : (a, o) ∈ put a o l := mem_put_self
theorem head_mem {h₀ h : Heap} {L : Addr} {a b : Addr × Obj} {l : List (Addr × Obj)} (_ : News h₀ L h (a :: b :: l)) : a ∈ a :: b :: l ∧ b ∈ a :: b :: l ∧ ∀ q ∈ l, q ∈ a :: b :: l := ⟨.head _, .tail _ (.head _), fun q hq => .tail _ (.tail _ hq)⟩
theorem rows_off {h₀ h : Heap} {L I : Addr} {io : Obj} {led : List (Addr × Obj)} {rv : Array Value} {bs : List (List Nat × Int)} (N : News h₀ L h led) (hI : (I, io) ∈ led) (hio : ∃ fs, io.data = .fields fs) (h : RowsAt led rv bs) : RowsAt (off I led) rv bs :=
  h.lists fun p hp ⟨vs, n, e⟩ => mem_off.mpr ⟨hp, News.ne_data N hp hI (by obtain ⟨fs, e2⟩ := hio; rw [e, e2]; intro z; cases z)⟩
def GoodB (n : Nat) (b : List Nat × Int) : Prop := b.1 ∈ subs ∧ (∀ k ∈ b.1, k < n) ∧ 0 < b.2 ∧ b.2 ≤ 1001
set_option maxRecDepth 100000 in
set_option maxHeartbeats 2000000 in
theorem law3 {p9 : Program} {lo9 : List Str} (w : World) (mean : ExcName → Option Value) (mg mb : Str → Option Value) (fa : Addr) (cdv : Value) (base h₀ : Heap) (L : Addr) (m : Str → Option Value) (news : List (Addr × Obj)) (s : Shared) (Q : Flow → Shared → Prop) (E : Value → Shared → Prop) (cl rl : Addr) (ncl e : Nat) (c0 c1 c2 c3 c4 c5 c6 : Int) (t0 t1 t2 t3 t4 t5 t6 : Tok) (n : Nat) (tn : Tok)
   (B : Below callerA base [] h₀) (F : Fr h₀ L s.heap m) (X : (hd.heap_39 w.params).In h₀) (N : News h₀ L s.heap news) (T : Top p9 lo9 mean mg mb h₀)(hE : PassesOwn (model PySem.Challenge.rw_bb0001_01.row.prog w) (callerA.deeper (lawEnv L fa cdv)) (lawEnv L fa cdv) E) (hn : n = 3 ∨ n = 4) (hm1 : m (Str.ofString "cells") = some (.ref cl)) (hcl : (cl, ({ cls := .type "list", data := .seq #[.int c0 t0, .int c1 t1, .int c2 t2, .int c3 t3, .int c4 t4, .int c5 t5, .int c6 t6] ncl } : Obj)) ∈ news)
   (hm2 : m (Str.ofString "count") = some (.int (n : Int) tn)) (hm3 : m (Str.ofString "rows") = some (.ref rl)) (hrl : (rl, ({ cls := .type "list", data := .seq #[] e } : Obj)) ∈ news) (hcell : ∃ oc v0, (L + 1, oc) ∈ news ∧ oc.data = .cell v0)
   (hnext : ∀ rv nrv bs oc v0 h' g' d' tk' led, g' = s.gens → RowsAt led rv bs → 1 ≤ bs.length → bs.length ≤ 4 → (∀ b ∈ bs, GoodB n b) → Fr h₀ L h' m → News h₀ L h' led → (∀ p ∈ news, p.1 ≠ L + 1 → p.1 ≠ rl → p ∈ led) → (rl, ({ cls := .type "list", data := .seq rv nrv } : Obj)) ∈ led → (L + 1, oc) ∈ led → oc.data = .cell v0 → wpAny (model PySem.Challenge.rw_bb0001_01.row.prog w) (callerA.deeper (lawEnv L fa cdv)) (execs (lawFn.1.drop 6) (lawEnv L fa cdv)) Q E ⟨h', g', d', tk', s.os⟩) :
   wpAny (model PySem.Challenge.rw_bb0001_01.row.prog w) (callerA.deeper (lawEnv L fa cdv)) (execs (lawFn.1.drop 5) (lawEnv L fa cdv)) Q E s := by
  have nclL : cl ≠ L + 1 := by
    obtain ⟨oc', v', h1, h2⟩ := hcell
    exact News.ne_data N hcl h1 (by rw [h2]; intro z; cases z)
  have nclr : cl ≠ rl := News.ne_data N hcl hrl (by intro z; cases z)
  revert X
  k_fill
  intro X
  with_unfolding_all show wpAny _ _ (execs (_ :: _) _) _ _ _
  k_steps
  refine Halt9.out ?_
  refine For_c ?_
  k_steps
  refine Halt9.out ?_
  rename Fr _ _ _ _ => FF
  rename News _ _ _ _ => NN
  refine item_list (k := 2) (x := .int c2 t2) (items := #[.int c0 t0, .int c1 t1, .int c2 t2, .int c3 t3, .int c4 t4, .int c5 t5, .int c6 t6]) ⟨_, (NN _ hcl).1, rfl, _, rfl⟩ (by decide) (by decide) (by rfl) ?_
  have hx0 : 0 ≤ c2.fmod 4 ∧ c2.fmod 4 < 4 := by
    rw [Int.fmod_eq_emod_of_nonneg _ (by decide)]
    exact ⟨Int.emod_nonneg c2 (by decide), Int.emod_lt_of_pos c2 (by decide)⟩
  k_steps
  refine Halt9.out ?_
  have hir : IntsAre [Value.int c0 t0, .int c1 t1, .int c2 t2, .int c3 t3, .int c4 t4, .int c5 t5, .int c6 t6] [c0, c1, c2, c3, c4, c5, c6] := .cons _ _ (.cons _ _ (.cons _ _ (.cons _ _ (.cons _ _ (.cons _ _ (.cons _ _ .nil))))))
  k_dflt (refine' kmk_slice_ints FF NN ⟨_, (NN _ hcl).1, rfl, _, rfl⟩ (.int _ _) (.int _ _) hir (kmk_run hir (show (0 : Int) ≤ 3 by decide) (show (0 : Int) ≤ 4 + c2.fmod 4 by omega)) rfl ?_ ?s ?t ?z; (case s => with_unfolding_all rfl); (case t => kmk_pure); (case z => kmk_size))
  intro D8 ws8 h8 F8 N8 l8 hI8 _ _
  have nDr : D8 ≠ rl := Nat.ne_of_gt (l8 _ hrl)
  obtain ⟨q1, q2⟩ := run_len (c3 := c3) (c4 := c4) (c5 := c5) (c6 := c6) c0 c1 c2 _ hx0.1 hx0.2
  rw [← hI8.length] at q1 q2
  have hsz : ws8.toArray.size = ws8.length := by simp
  k_steps
  refine Halt9.out ?_
  rename Fr _ _ _ _ => FF
  rename News _ _ _ _ => NN
  refine iter_c_list (hE := hE) (l := D8) (fun i m₁ led₁ g => g = s.gens ∧ m₁ = m ∧ (∀ q ∈ news, q.1 ≠ L + 1 → q.1 ≠ rl → q ∈ led₁) ∧ (D8, ({ cls := .type "list", data := .seq ws8.toArray 0 } : Obj)) ∈ led₁ ∧ (∃ oc v0, (L + 1, oc) ∈ led₁ ∧ oc.data = .cell v0) ∧ ∃ rv nrv bs, (rl, ({ cls := .type "list", data := .seq rv nrv } : Obj)) ∈ led₁ ∧ RowsAt led₁ rv bs ∧ bs.length = i ∧ ∀ b ∈ bs, GoodB n b)
    rfl .lit (fun i m led g hJ => hJ.2.2.2.1) FF NN ?_ ?_ ?_
  · obtain ⟨oc, v0, h1, h2⟩ := hcell
    exact ⟨rfl, rfl, fun q hq _ _ => .tail _ hq, .head _, ⟨oc, v0, .tail _ h1, h2⟩, #[], e, [], .tail _ hrl, ⟨rfl, fun i b hb => by simp at hb⟩, rfl, fun b hb => nomatch hb⟩
  · rintro i v m₁ led₁ I io h g d t hi hv ⟨rfl, rfl, hsub, hD8, ⟨oc, v0, hoc, hocd⟩, rv, nrv, bs, hrl1, hrows, hbl, hgood⟩ hoff hio0 F2 N2
    obtain ⟨pv, tp, rfl⟩ := ints_item i v hI8 (by simpa using hv)
    have hio := fun {q : Addr × Obj} (hq : q ∈ led₁) => (List.Mem.tail (I, io) hq : q ∈ (I, io) :: led₁)
    have hrv9 : rv.size ≤ 9 := by rw [hrows.1, hbl]; omega
    unfold TurnG
    k_steps
    refine Halt9.out ?_
    refine store_cell (c := L + 1) (by exact rfl) (by exact rfl) (by exact rfl) F2 N2 (hio hoc) hocd fun h5 oc1 hocd1 F5 N5 => ?_
    have up5 : ∀ q ∈ (I, io) :: led₁, q.1 ≠ L + 1 → q ∈ put (L + 1) oc1 ((I, io) :: led₁) := fun q hq hne => mem_put hq hne
    have hoc1 : (L + 1, oc1) ∈ put (L + 1) oc1 ((I, io) :: led₁) := mem_put_self
    have hI5 : (I, io) ∈ put (L + 1) oc1 ((I, io) :: led₁) := up5 _ (.head _) (Ne.symm (hoff _ hoc))
    have nrl : rl ≠ L + 1 := News.ne_data N2 (hio hrl1) (hio hoc) (by rw [hocd]; intro z; cases z)
    have nD8 : D8 ≠ L + 1 := News.ne_data N2 (hio hD8) (hio hoc) (by rw [hocd]; intro z; cases z)
    have hrl5 := up5 _ (hio hrl1) nrl
    have hD85 := up5 _ (hio hD8) nD8
    have hrows5 : RowsAt (put (L + 1) oc1 ((I, io) :: led₁)) rv bs := hrows.lists (fun q hq hs => up5 _ (hio hq) (News.ne_data N2 (hio hq) (hio hoc) (by rw [hocd]; obtain ⟨vs, n, e⟩ := hs; rw [e]; intro z; cases z)))
    generalize put (L + 1) oc1 ((I, io) :: led₁) = led5 at *
    k_steps
    refine Halt9.out ?_
    rename Fr _ _ _ _ => FF5
    rename News _ _ _ _ => NN5
    refine gm_append NN5 hrl5 ?_
    k_steps
    refine Halt9.out ?_
    rename Fr _ _ _ _ => FF5
    rename News _ _ _ _ => NN5
    refine LCt.CompSrcT.range (n := n) rfl FF5 NN5 (by assumption) (small_k n (by omega)) (size_k n (by omega)) (by have : 4 ≤ sizeLine := Nat.le_of_ble_eq_true rfl; omega) fun g9 => comp_flt (List.range n) (fun k => decide ((pv.fdiv ((2 : Int) ^ k)).fmod 2 = 1)) (List.length_range) (fun i v hi hv => ?_) trivial (by exact rfl) (by exact rfl) (by exact rfl) ?_ ?_
    · obtain ⟨t9, rfl⟩ := hv
      rw [List.length_range] at hi
      exact ⟨t9, by simp [List.getD, hi]⟩
    · intro j kk tt9 I9 oI9 C9 oC9 D9 m9 ys9 h9 tk9 E9 hj hkk hC9 hx9 F9 N9
      have hk4 : kk < 4 := by
        rw [List.length_range] at hj
        have : kk = j := by rw [hkk]; simp [List.getD, hj]
        omega
      k_steps
      all_goals first | (rename Fr _ _ _ _ => q9; exact q9) | (rename News _ _ _ _ => q9; exact q9)
    · intro ys9 hys9 D10 h10 tk10 F10 N10 o10
      have n16 : (0 : Int) < 2 ^ n ∧ (2 : Int) ^ n ≤ 16 := by rcases hn with rfl | rfl <;> decide
      have hw0 : 0 ≤ (c1.fdiv 2).fmod 1000 ∧ (c1.fdiv 2).fmod 1000 < 1000 := by
        rw [Int.fmod_eq_emod_of_nonneg _ (by decide)]
        exact ⟨Int.emod_nonneg _ (by decide), Int.emod_lt_of_pos _ (by decide)⟩
      k_steps
      refine Halt9.out ?_
      rename Fr _ _ _ _ => FF10
      rename News _ _ _ _ => NN10
      have hcl5 : (cl, ({ cls := .type "list", data := .seq #[.int c0 t0, .int c1 t1, .int c2 t2, .int c3 t3, .int c4 t4, .int c5 t5, .int c6 t6] ncl } : Obj)) ∈ led5 := up5 _ (hio (hsub _ hcl nclL nclr)) nclL
      refine item_list (k := 1) (x := .int c1 t1) (items := #[.int c0 t0, .int c1 t1, .int c2 t2, .int c3 t3, .int c4 t4, .int c5 t5, .int c6 t6]) ⟨_, (NN10 _ (.tail _ hcl5)).1, rfl, _, rfl⟩ (by decide) (by decide) (by rfl) ?_
      k_steps
      refine Halt9.out ?_
      rename Fr _ _ _ _ => FF11
      rename News _ _ _ _ => NN11
      have hrl11 : (rl, ({ cls := .type "list", data := .seq rv nrv } : Obj)) ∈ _ := mem_tail2 NN11 hrl5
      refine append_led FF11 NN11 hrl11 hrv9 fun h12 F12 N12 => ?_
      obtain ⟨dt, edt⟩ := head_adr NN11
      subst edt
      obtain ⟨hh1, hh2, hh3⟩ := head_mem NN11
      have up12 := up_put N12
      have me12 := self_put N12
      have ndt : dt ≠ rl := News.ne_cls NN11 hh1 hrl11 (by intro z; simp at z)
      have nd10 : D10 ≠ rl := Ne.symm (off1_mem o10 _ hrl5)
      have e2n : (2 : Int) ^ ((n : Int)).toNat = 2 ^ n := by rw [Int.toNat_natCast]
      have hrows11 := (hrows5.mono hh3).keep (nrv := nrv) fun q hq _ hne => up12 q hq (fun e => hne (News.func NN11 (by rw [← e]; exact hq) hrl11))
      have hrow12 : RowAt _ (.ref dt) ((List.range n).filter fun k => decide ((pv.fdiv ((2 : Int) ^ k)).fmod 2 = 1)) (1 + (pv.fdiv (2 ^ ((n : Int)).toNat)).fmod (2 + (c1.fdiv 2).fmod 1000)) := ⟨dt, _, D10, _, ys9.toArray, _, rfl, up12 _ hh1 ndt, up12 _ hh2 nd10, by simpa using hys9⟩
      have hrows12 := RowsAt.snoc (b := (_, _)) hrows11 hrow12
      have hb1 := flt_subs n hn (fun k => decide ((pv.fdiv ((2 : Int) ^ k)).fmod 2 = 1))
      have hb2 := wt_good (pv.fdiv (2 ^ ((n : Int)).toNat)) _ hw0.1 hw0.2
      have iL1 : L + 1 ≠ I := hoff _ hoc
      have nIr : I ≠ rl := Ne.symm (hoff _ hrl1)
      have hI12 := up12 _ (hh3 _ hI5) nIr
      have u12 : ∀ q ∈ led5, q.1 ≠ rl → q.1 ≠ I → q ∈ off I _ := fun q hq a1 a2 => mem_off.mpr ⟨up12 q (hh3 q hq) a1, a2⟩
      k_steps
      refine ⟨_, _, F12, N12, hI12, ⟨rfl, rfl, fun q hq a1 a2 => u12 q (up5 q (hio (hsub q hq a1 a2)) a1) a2 (hoff q (hsub q hq a1 a2)), u12 _ hD85 nDr (hoff _ hD8), ⟨oc1, _, u12 _ hoc1 (Ne.symm nrl) iL1, hocd1⟩, _, _, _, mem_off.mpr ⟨me12, Ne.symm nIr⟩, rows_off N12 hI12 hio0 hrows12, by simp [hbl], fun b hb => ?_⟩, rfl⟩
      rcases List.mem_append.mp hb with hb | hb
      · exact hgood b hb
      · rw [List.mem_singleton.mp hb]; exact ⟨hb1.1, hb1.2, hb2.1, hb2.2⟩
  · rintro m₁ led₁ h g d t ⟨rfl, rfl, hsub, hD8, ⟨oc, v0, hoc, hocd⟩, rv, nrv, bs, hrl1, hrows, hbl, hgood⟩ F2 N2
    k_steps
    refine Halt9.out ?_
    exact hnext rv nrv bs oc v0 _ _ _ _ led₁ rfl hrows (by omega) (by omega) hgood F2 N2 hsub hrl1 hoc hocd
end Mine
end

/- Pm -/
section
open PySem PySem.W PyProof.Rows PySem.Calls PySem.Spec
open PySem.W.X (tableObj)
set_option linter.unusedVariables false
namespace Mine
def sepd : List (Addr × Obj) → List (Addr × Obj)
  | [] => []
  | p :: l => p :: off p.1 (sepd l)
theorem sep_off {a : Addr} {l : List (Addr × Obj)} (h : Sep l) : Sep (off a l) := h.sub List.filter_sublist
theorem sepd_sep : ∀ l : List (Addr × Obj), Sep (sepd l)
  | [] => Sep.nil
  | p :: l => Sep.cons (fun q hq => (mem_off.mp hq).2) (sep_off (sepd_sep l))
theorem sepd_sub (l : List (Addr × Obj)) : ∀ q ∈ sepd l, q ∈ l := by
  induction l with
  | nil => exact fun q h => h
  | cons p l ih =>
    intro q h
    rcases List.mem_cons.mp h with rfl | h
    · exact .head _
    · exact .tail _ (ih q (mem_off.mp h).1)
theorem sepd_mem {h₀ h : Heap} {L : Addr} {l : List (Addr × Obj)} (N : News h₀ L h l) : ∀ q ∈ l, q ∈ sepd l := by
  induction l with
  | nil => exact fun q h => h
  | cons p l ih =>
    intro q hq
    by_cases e : q.1 = p.1
    · have e2 : q = p := by
        have h1 := N q hq
        have h2 := N p (.head _)
        rw [e] at h1
        exact Prod.ext e (Option.some.inj (h1.1.symm.trans h2.1))
      rw [e2]; exact .head _
    · rcases List.mem_cons.mp hq with rfl | hq
      · exact .head _
      · exact .tail _ (mem_off.mpr ⟨ih (fun p hp => N p (.tail _ hp)) q hq, e⟩)
/-- Profile(n), told by membership -/
theorem pf_new_m {A : Around} {p9 : Program} {lo9 : List Str} (w : World) (mean : ExcName → Option Value) (mg mb : Str → Option Value) (cn : Str) (cs : Scope) (a : Addr) (ccd : Value) (cl : List (Str × Addr)) (outer : List Env) (A₀ : Around) (base h₀ : Heap) (L : Addr) (m : Str → Option Value) (news : List (Addr × Obj)) (s : Shared)
   (Q E : Value → Shared → Prop) (n : Nat) (t9 : Tok) (hh : A.handled = none) (hdp : A.depth ≤ 400) (hfr : A.frames = some (envX cn cs L a ccd cl :: outer)) (hun : A.units ≤ 60)
   (B : Below A₀ base outer h₀) (F : Fr h₀ L s.heap m) (X : (hd.heap_39 w.params).In h₀) (N : News h₀ L s.heap news) (T : Top p9 lo9 mean mg mb h₀)
   (hk : cs.kind = .function) (hn : n = 3 ∨ n = 4)
   (hret : ∀ x lv h' tk' led', Fr h₀ L h' m → News h₀ L h' led' → (∀ p ∈ news, p ∈ led') → ProfAt w led' x n lv → (lv, ({ cls := .type "list", data := .seq #[] 0 } : Obj)) ∈ led' → (∀ p ∈ news, p.1 ≠ lv) → Q (.ref x) { s with heap := h', toks := tk' }) :
   wpAny (model PySem.Challenge.rw_bb0001_01.row.prog w) A (call (.ref 596) [.int (n : Int) t9]) Q E s := by
  refine wp_weaken hh hdp (.inr hfr) (.inl rfl) hun (pf_new w mean mg mb cn cs a ccd cl outer A₀ base h₀ L m (sepd news) s Q E n t9 B F X (cb_drop N (sepd_sub news)) T hk (by omega) (sepd_sep news) ?_)
  intro x dx lc ln lv k1 k2 k3 vs nl vs2 n2 h' tk' hvs F' N' S'
  have S3 : Sep ((lc, ({ cls := .type "list", data := .seq vs nl } : Obj)) :: (ln, { cls := .type "list", data := .seq vs2 n2 }) :: (lv, { cls := .type "list", data := .seq #[] 0 }) :: sepd news) := S'.tail.tail
  refine hret x lv h' tk' _ F' N' (fun p hp => .tail _ (.tail _ (.tail _ (.tail _ (.tail _ (sepd_mem N p hp)))))) ⟨dx, lc, ln, k1, k2, k3, vs, nl, .head _, .tail _ (.head _), .tail _ (.tail _ (.head _)), by rw [hvs]; simp, Ne.symm (S3.ne _ (.tail _ (.head _)))⟩ (.tail _ (.tail _ (.tail _ (.tail _ (.head _))))) (fun p hp => S3.tail.tail.ne p (sepd_mem N p hp))
/-- neither a sequence nor fields -/
def Still (p : Addr × Obj) : Prop := (∀ vs n, p.2.data ≠ .seq vs n) ∧ ∀ fs, p.2.data ≠ .fields fs
theorem VoterAt.still {w : World} {led led' : List (Addr × Obj)} {v : Value} {ks : List Nat} {wt : Int} (h : VoterAt w led v ks wt) (k : ∀ p ∈ led, Still p → p ∈ led') : VoterAt w led' v ks wt :=
  let ⟨x, dx, y, dy, tks, ep, k1, k2, tw, e, a, b, c, d⟩ := h
  ⟨x, dx, y, dy, tks, ep, k1, k2, tw, e, k _ a ⟨fun _ _ => nofun, fun _ => nofun⟩, k _ b ⟨fun _ _ => nofun, fun _ => nofun⟩, k _ c ⟨fun _ _ => nofun, fun _ => nofun⟩, k _ d ⟨fun _ _ => nofun, fun _ => nofun⟩⟩
theorem VotersAt.still {w : World} {led led' : List (Addr × Obj)} {vs : Array Value} {bs : List (List Nat × Int)} (h : VotersAt w led vs bs) (k : ∀ p ∈ led, Still p → p ∈ led') : VotersAt w led' vs bs :=
  ⟨h.1, fun i b hb => let ⟨v, e, f⟩ := h.2 i b hb; ⟨v, e, f.still k⟩⟩
theorem VotersAt.snoc {w : World} {led : List (Addr × Obj)} {vs : Array Value} {bs : List (List Nat × Int)} {v : Value} {b : List Nat × Int} (h : VotersAt w led vs bs) (hr : VoterAt w led v b.1 b.2) : VotersAt w led (vs.push v) (bs ++ [b]) :=
  ⟨by simp [h.1], fun i b' hb => by
    by_cases hi : i < bs.length
    · rw [List.getElem?_append_left hi] at hb
      obtain ⟨v', e, r⟩ := h.2 i b' hb
      have hi' : i ≠ vs.size := by rw [h.1]; omega
      exact ⟨v', by rw [Array.getElem?_push, if_neg hi']; exact e, r⟩
    · have hi2 := (List.getElem?_eq_some_iff.mp hb).1
      simp at hi2
      have hi' : i = bs.length := by omega
      subst hi'
      simp at hb
      subst hb
      exact ⟨v, by rw [Array.getElem?_push, if_pos h.1.symm], hr⟩⟩
theorem insAll_self : ∀ ks ∈ subs, insAll [] ks = ks := by decide
end Mine
end

/- LA6 -/
section
open PySem PySem.W PyProof.Rows PySem.Calls PySem.Spec
set_option linter.unusedVariables false
namespace Mine
set_option hygiene false in
local macro_rules | `(tactic| wtm_at "own eval Name") => `(tactic| (k_here; name_kind "local"; k_dflt (refine q_locF (by assumption) (by first | with_reducible (first | exact hm0 | exact hm1 | exact hm2 | exact hm3 | exact hm4 | exact hm5 | exact hm6 | exact hm7 | exact hm8 | exact hm9 | exact hm10 | exact hm11) | (first | exact hm0 | exact hm1 | exact hm2 | exact hm3 | exact hm4 | exact hm5 | exact hm6 | exact hm7 | exact hm8 | exact hm9 | exact hm10 | exact hm11)) (by kernel_rfl!) (by kernel_rfl!) (by exact rfl) ?_)))
set_option hygiene false in
local macro_rules | `(tactic| wtm_at "own loadName") => `(tactic| (k_here; k_dflt (refine wpAny_loadName_local (by exact rfl) (by exact rfl) (Fr.ns (by assumption)) (by first | exact hm0 | exact hm1 | exact hm2 | exact hm3 | exact hm4 | exact hm5 | exact hm6 | exact hm7 | exact hm8 | exact hm9 | exact hm10 | exact hm11) ?_)))
local macro_rules | `(tactic| k_mem) => `(tactic| first | assumption | exact List.Mem.head _ | (refine List.Mem.tail _ ?_; k_mem))

open PySem.W.X (tableObj)
local macro_rules | `(tactic| k_inst) => `(tactic| (refine' inst_prof ?N ?h1 ?h2; (case N => k_asm); (case h1 => k_mem); (case h2 => k_mem)))
local macro_rules | `(tactic| wtm_at "own execs cons") => `(tactic| ((with_reducible show wpAny _ _ (execs (Stmt.For (Expr.Name (Str.ofString "seats") _) _ _ _ _ :: _) _) _ _ _); refine Halt9.intro ?_))
local macro_rules | `(tactic| wtm_at "own execs cons Assign cons") => `(tactic| ((with_reducible show wpAny _ _ (execs (Stmt.For (Expr.Name (Str.ofString "seats") _) _ _ _ _ :: _) _) _ _ _); refine Halt9.intro ?_))
local macro_rules | `(tactic| wtm_at "own exec For Tuple Name cons nil") => `(tactic| refine Halt9.intro ?_)
local macro_rules | `(tactic| wtm_at "own pyIter ref") => `(tactic| refine Halt9.intro ?_)
local macro_rules | `(tactic| wtm_at "own call ref") => `(tactic| refine Halt9.intro ?_)
set_option maxRecDepth 100000 in
set_option maxHeartbeats 2000000 in
theorem law6 {p9 : Program} {lo9 : List Str} (w : World) (mean : ExcName → Option Value) (mg mb : Str → Option Value) (fa : Addr) (cdv : Value) (base h₀ : Heap) (L : Addr) (m : Str → Option Value) (news : List (Addr × Obj)) (s : Shared) (Q : Flow → Shared → Prop) (E : Value → Shared → Prop) (rl bl : Addr) (r : Nat) (tr : Tok) (n : Nat) (tn : Tok) (rv bv : Array Value) (nrv nb : Nat) (bs : List (List Nat × Int))
   (B : Below callerA base [] h₀) (F : Fr h₀ L s.heap m) (X : (hd.heap_39 w.params).In h₀) (N : News h₀ L s.heap news) (T : Top p9 lo9 mean mg mb h₀)(hE : PassesOwn (model PySem.Challenge.rw_bb0001_01.row.prog w) (callerA.deeper (lawEnv L fa cdv)) (lawEnv L fa cdv) E) (hn : n = 3 ∨ n = 4) (hm0 : m (Str.ofString "rule") = some (.int (r : Int) tr))
   (hm1 : m (Str.ofString "count") = some (.int (n : Int) tn)) (hm2 : m (Str.ofString "rows") = some (.ref rl)) (hm3 : m (Str.ofString "gains") = some (.ref (645 + r))) (hm4 : m (Str.ofString "best") = some (.ref bl)) (hrl : (rl, ({ cls := .type "list", data := .seq rv nrv } : Obj)) ∈ news) (hrows : RowsAt news rv bs) (hb4 : bs.length ≤ 4) (hgood : ∀ b ∈ bs, GoodB n b)
   (hT52 : Tab 52 news) (hG : GB 0 s.gens)
   (hnext : ∀ p lv vv nlv bf nbf th h' g' d' tk' m' led, GB 0 g' → ProfAt w led p n lv → (lv, ({ cls := .type "list", data := .seq vv nlv } : Obj)) ∈ led → VotersAt w led vv bs → m' (Str.ofString "rule") = some (.int (r : Int) tr) → m' (Str.ofString "count") = some (.int (n : Int) tn) → m' (Str.ofString "rows") = some (.ref rl) → m' (Str.ofString "gains") = some (.ref (645 + r)) → m' (Str.ofString "best") = some (.ref bl) → m' (Str.ofString "profile") = some (.ref p) → m' (Str.ofString "have") = some (.int 0 th) → m' (Str.ofString "before") = some (.ref bf) → Fr h₀ L h' m' → News h₀ L h' led → (∀ p ∈ news, p.1 ≠ 52 → p ∈ led) → Tab 52 led → (bf, ({ cls := .type "list", data := .seq #[] nbf } : Obj)) ∈ led → wpAny (model PySem.Challenge.rw_bb0001_01.row.prog w) (callerA.deeper (lawEnv L fa cdv)) (execs (lawFn.1.drop 11) (lawEnv L fa cdv)) Q E ⟨h', g', d', tk', s.os⟩) :
   wpAny (model PySem.Challenge.rw_bb0001_01.row.prog w) (callerA.deeper (lawEnv L fa cdv)) (execs (lawFn.1.drop 8) (lawEnv L fa cdv)) Q E s := by
  have Tp := T
  have n52rl : rl ≠ 52 := by
    obtain ⟨ps, hps, _⟩ := hT52
    exact ne_tab N hps hrl (fun fs => nofun)
  revert X
  k_fill
  intro X
  with_unfolding_all show wpAny _ _ (execs (_ :: _) _) _ _ _
  k_steps
  refine Halt9.out ?_
  rename Fr _ _ _ _ => FF
  rename News _ _ _ _ => NN
  refine pf_new_m w mean mg mb _ _ _ _ _ _ _ _ _ _ _ _ _ _ _ n tn rfl (Nat.le_of_ble_eq_true rfl) rfl (Nat.le_of_ble_eq_true rfl) B FF X NN Tp (by exact rfl) hn ?_
  intro p lv h1 tk1 led1 F1 N1 sub1 hp hlv nlv
  have n52 : ∀ q ∈ led1, (∀ fs, q.2.data ≠ .fields fs) → q.1 ≠ 52 := by
    obtain ⟨ps, hps, _⟩ := hT52
    exact fun q hq hd => ne_tab N1 (sub1 _ hps) hq hd
  have nlp : ∀ q ∈ led1, (∀ vs n, q.2.data ≠ .seq vs n) → q.1 ≠ lv := fun q hq hd => News.ne_data N1 hq hlv (hd _ _)
  have hp0 := hp
  obtain ⟨dp, lc, ln, k1, k2, k3, vs, nl, hp1, hp2, hp3, hvs, hlne⟩ := hp0
  k_steps
  refine Halt9.out ?_
  refine For_c ?_
  k_steps
  refine Halt9.out ?_
  rename Fr _ _ _ _ => FF
  rename News _ _ _ _ => NN
  refine iter_c_listT (hE := hE) (l := rl) (fun i m₁ led₁ g => GB 0 g ∧ m₁ (Str.ofString "rule") = some (.int (r : Int) tr) ∧ m₁ (Str.ofString "count") = some (.int (n : Int) tn) ∧ m₁ (Str.ofString "rows") = some (.ref rl) ∧ m₁ (Str.ofString "gains") = some (.ref (645 + r)) ∧ m₁ (Str.ofString "best") = some (.ref bl) ∧ m₁ (Str.ofString "profile") = some (.ref p) ∧ (∀ q ∈ led1, q.1 ≠ 52 → q.1 ≠ lv → q ∈ led₁) ∧ Tab 52 led₁ ∧ ∃ vv nlv, (lv, ({ cls := .type "list", data := .seq vv nlv } : Obj)) ∈ led₁ ∧ VotersAt w led₁ vv (bs.take i))
    rfl hrows.refs .lit (fun i m led g hJ => hJ.2.2.2.2.2.2.2.1 _ (sub1 _ hrl) n52rl (nlv _ hrl)) FF NN ?_ ?_ ?_
  · exact ⟨hG, by exact hm0, by exact hm1, by exact hm2, by exact hm3, by exact hm4, rfl, fun q hq _ _ => hq, hT52.mono fun q hq _ => sub1 q hq, #[], 0, hlv, rfl, fun i b hb => by simp at hb⟩
  · rintro i v m₁ led₁ I io h g d t hi hv ⟨hg, hm0, hm1, hm2, hm3, hm4, hm5, hsub, hT, vv, nlv', hlv1, hvot⟩ hoff hio0 F2 N2
    obtain ⟨b, hbi⟩ : ∃ b, bs[i]? = some b := ⟨_, List.getElem?_eq_getElem (by rw [← hrows.1]; exact hi)⟩
    obtain ⟨v', hv', tp, nt, bal, twt, bv', nbl, rfl, a1, a2, a3⟩ := hrows.2 i b hbi
    obtain rfl : v = .ref tp := Option.some.inj (hv.symm.trans hv')
    obtain ⟨g1, g2, g3, g4⟩ := hgood b (List.mem_of_getElem? hbi)
    have hio := fun {q : Addr × Obj} (hq : q ∈ led₁) => (List.Mem.tail (I, io) hq : q ∈ (I, io) :: led₁)
    have a1' := hio (hsub _ (sub1 _ a1) (n52 _ (sub1 _ a1) fun _ => nofun) (nlv _ a1))
    have a2' := hio (hsub _ (sub1 _ a2) (n52 _ (sub1 _ a2) fun _ => nofun) (nlv _ a2))
    have hp1' := hio (hsub _ hp1 (n52 _ hp1 fun _ => nofun) (nlp _ hp1 fun _ _ => nofun))
    have hp2' := hio (hsub _ hp2 (n52 _ hp2 fun _ => nofun) (nlp _ hp2 fun _ _ => nofun))
    have hp3' := hio (hsub _ hp3 (n52 _ hp3 fun _ => nofun) hlne)
    obtain ⟨ps9, hps9, -⟩ := id hT
    have n52I : (52 : Addr) ≠ I := hoff _ hps9
    have nlvI : lv ≠ I := hoff _ hlv1
    have st52 : ∀ q ∈ led₁, Still q → q.1 ≠ 52 := fun q hq hs => News.ne_data N2 (hio hq) (hio hps9) (hs.2 _)
    have stlv : ∀ q ∈ led₁, Still q → q.1 ≠ lv := fun q hq hs => News.ne_data N2 (hio hq) (hio hlv1) (hs.1 _ _)
    have n52lv : lv ≠ 52 := n52 _ hlv fun _ => nofun
    have hvv4 : vv.size ≤ 9 := by
      have := hvot.1
      rw [List.length_take] at this
      omega
    unfold TurnG
    k_steps
    refine Halt9.out ?_
    rename Fr _ _ _ _ => FF
    rename News _ _ _ _ => NN
    refine vo_new_m bal bv' b.1 nbl b.2 twt rfl (Nat.le_of_ble_eq_true rfl) rfl (Nat.le_of_ble_eq_true rfl) B FF X Tp (by exact rfl) NN (hT.mono fun q hq _ => hio hq) hg a2' (by rw [← a3.len]; simp) (fun i v hv => a3.get i v (by simpa using hv)) (fun k hk => by have := g2 k hk; omega) (subs_nodup _ g1) (by have := a3.len; have h4 := nodup_len b.1 (List.range n) (subs_nodup _ g1) (fun t ht => List.mem_range.mpr (g2 t ht)); rw [List.length_range] at h4; simp at this; omega) g3 ?_
    intro x5 h5 g5 d5 t5 led5 F5 N5 sub5 T5 G5 V5
    rw [insAll_self _ g1] at V5
    dsimp only
    k_steps
    refine Halt9.out ?_
    refine av509_u rfl (Nat.le_of_ble_eq_true rfl) rfl (Nat.le_of_ble_eq_true rfl) p x5 lv n b.1 b.2 vv nlv' 0 B F5 X N5 Tp (by exact rfl) ⟨dp, lc, ln, k1, k2, k3, vs, nl, sub5 _ hp1' (n52 _ hp1 fun _ => nofun), sub5 _ hp2' (n52 _ hp2 fun _ => nofun), sub5 _ hp3' (n52 _ hp3 fun _ => nofun), hvs, hlne⟩ hn (sub5 _ (hio hlv1) n52lv) hvv4 V5 g1 g2 g3 T5 G5 ?_
    intro x6 h6 g6 d6 t6 led6 F6 N6 sub6 T6 G6 V6 hlv6
    dsimp only
    k_steps
    have hI6 : (I, io) ∈ led6 := sub6 _ (sub5 _ (.head _) (Ne.symm n52I)) (Ne.symm n52I) (Ne.symm nlvI)
    have up6 : ∀ q ∈ led₁, q.1 ≠ 52 → q.1 ≠ lv → q ∈ off I led6 := fun q hq a1 a2 => mem_off.mpr ⟨sub6 q (sub5 q (hio hq) a1) a1 a2, hoff q hq⟩
    have v6 : VoterAt w (off I led6) (.ref x6) b.1 b.2 := V6.still fun q hq hs => mem_off.mpr ⟨hq, News.ne_data N6 hq hI6 (by obtain ⟨fs, e⟩ := hio0; rw [e]; exact hs.2 _)⟩
    have w6 := (hvot.still fun q hq hs => up6 q hq (st52 q hq hs) (stlv q hq hs)).snoc (b := b) v6
    have et : bs.take (i + 1) = bs.take i ++ [b] := by rw [List.take_add_one, hbi]; rfl
    refine ⟨_, _, F6, N6, hI6, ⟨G6, by exact hm0, by exact hm1, by exact hm2, by exact hm3, by exact hm4, by exact hm5, fun q hq a1 a2 => up6 q (hsub q hq a1 a2) a1 a2, T6.mono fun q hq e => mem_off.mpr ⟨hq, by rw [e]; exact n52I⟩, _, _, mem_off.mpr ⟨hlv6, nlvI⟩, by rw [et]; exact w6⟩, rfl⟩
  · rintro m₁ led₁ h g d t ⟨hg, hm0, hm1, hm2, hm3, hm4, hm5, hsub, hT, vv, nlv', hlv1, hvot⟩ F2 N2
    rw [hrows.1, List.take_length] at hvot
    obtain ⟨ps9, hps9, -⟩ := id hT
    k_steps
    refine Halt9.out ?_
    rename Fr _ _ _ _ => FF
    rename News _ _ _ _ => NN
    have tl : ∀ q ∈ led₁, q ∈ _ := (head_mem NN).2.2
    exact hnext p lv vv nlv' _ _ _ _ _ _ _ _ _ hg ⟨dp, lc, ln, k1, k2, k3, vs, nl, tl _ (hsub _ hp1 (n52 _ hp1 fun _ => nofun) (nlp _ hp1 fun _ _ => nofun)), tl _ (hsub _ hp2 (n52 _ hp2 fun _ => nofun) (nlp _ hp2 fun _ _ => nofun)), tl _ (hsub _ hp3 (n52 _ hp3 fun _ => nofun) hlne), hvs, hlne⟩ (tl _ hlv1) (hvot.mono tl) (by exact hm0) (by exact hm1) (by exact hm2) (by exact hm3) (by exact hm4) (by exact hm5) (by exact rfl) (by exact rfl) FF NN (fun q hq a1 => tl _ (hsub q (sub1 q hq) a1 (nlv q hq))) (hT.mono fun q hq _ => tl q hq) (head_mem NN).2.1
end Mine
end

/- LA4 -/
section
open PySem PySem.W PyProof.Rows PySem.Calls PySem.Spec
set_option linter.unusedVariables false
namespace Mine
set_option hygiene false in
local macro_rules | `(tactic| wtm_at "own eval Name") => `(tactic| (k_here; name_kind "local"; k_dflt (refine q_locF (by assumption) (by first | with_reducible (first | exact hm0 | exact hm1 | exact hm2 | exact hm3 | exact hm4 | exact hm5 | exact hm6 | exact hm7 | exact hm8 | exact hm9 | exact hm10 | exact hm11) | (first | exact hm0 | exact hm1 | exact hm2 | exact hm3 | exact hm4 | exact hm5 | exact hm6 | exact hm7 | exact hm8 | exact hm9 | exact hm10 | exact hm11)) (by kernel_rfl!) (by kernel_rfl!) (by exact rfl) ?_)))
set_option hygiene false in
local macro_rules | `(tactic| wtm_at "own loadName") => `(tactic| (k_here; k_dflt (refine wpAny_loadName_local (by exact rfl) (by exact rfl) (Fr.ns (by assumption)) (by first | exact hm0 | exact hm1 | exact hm2 | exact hm3 | exact hm4 | exact hm5 | exact hm6 | exact hm7 | exact hm8 | exact hm9 | exact hm10 | exact hm11) ?_)))
local macro_rules | `(tactic| k_mem) => `(tactic| first | assumption | exact List.Mem.head _ | (refine List.Mem.tail _ ?_; k_mem))

set_option hygiene false in
local macro_rules | `(tactic| wtm_at "own eval Name") => `(tactic| (k_here; name_kind "cell"; k_dflt (refine cell_led (c := L + 2) (by assumption) (by k_mem) hocd1 ?_)))
local macro_rules | `(tactic| wtm_at "own execs cons") => `(tactic| ((with_reducible show wpAny _ _ (execs (Stmt.Assign [Expr.Name (Str.ofString "profile") _] _ _ :: _) _) _ _ _); refine Halt9.intro ?_))
local macro_rules | `(tactic| wtm_at "own execs cons Assign cons") => `(tactic| ((with_reducible show wpAny _ _ (execs (Stmt.Assign [Expr.Name (Str.ofString "profile") _] _ _ :: _) _) _ _ _); refine Halt9.intro ?_))
local macro_rules | `(tactic| wtm_at "own exec For Name Call cons nil") => `(tactic| refine Halt9.intro ?_)
local macro_rules | `(tactic| wtm_at "own pyIter ref") => `(tactic| refine Halt9.intro ?_)
local macro_rules | `(tactic| wtm_at "own call ref") => `(tactic| refine Halt9.intro ?_)
local macro_rules | `(tactic| wtm_at "own call builtin:len") => `(tactic| refine Halt9.intro ?_)
local macro_rules | `(tactic| wtm_at "own subscriptTail") => `(tactic| refine Halt9.intro ?_)
local macro_rules | `(tactic| wtm_at "own setItem ref int") => `(tactic| refine Halt9.intro ?_)
local macro_rules | `(tactic| wtm_at "own CompSrcT") => `(tactic| refine Halt9.intro ?_)
local macro_rules | `(tactic| wtm_at "own binaryOp FloorDiv int int") => `(tactic| (k_here; (with_reducible refine floordiv_int ?kbe ?_ (Or.inl (PyProof.noPylong_of_log2 ?kbp))); (case kbe => omega); (case kbp => exact log60 (by omega) (by omega))))
local macro_rules | `(tactic| wtm_at "own storeName") => `(tactic| ((with_reducible show wpAny _ _ (storeName _ (Str.ofString "mask") _) _ _ _); refine Halt9.intro ?_))
theorem range_8 : Builtin.Range.small 0 ((8 : Nat) : Int) 1 = true ∧ Builtin.Range.rangeSize 0 ((8 : Nat) : Int) 1 = ((8 : Nat) : Int) ∧ Builtin.Range.small 0 ((16 : Nat) : Int) 1 = true ∧ Builtin.Range.rangeSize 0 ((16 : Nat) : Int) 1 = ((16 : Nat) : Int) := by decide +kernel
theorem small_m (M : Nat) (h : M = 8 ∨ M = 16) : Builtin.Range.small 0 (M : Int) 1 = true := h.elim (fun e => e ▸ range_8.1) fun e => e ▸ range_8.2.2.1
theorem size_m (M : Nat) (h : M = 8 ∨ M = 16) : Builtin.Range.rangeSize 0 (M : Int) 1 = (M : Int) := h.elim (fun e => e ▸ range_8.2.1) fun e => e ▸ range_8.2.2.2
/-- x is no more than the worth of a group of k -/
def BestOk (gs : List Int) (bs : List (List Nat × Int)) (n k : Nat) (x : Int) : Prop := x = 0 ∨ ∃ T : List Nat, T.Nodup ∧ (∀ t ∈ T, t < n) ∧ T.length = k ∧ x = wth gs bs T
def BestAt (gs : List Int) (bs : List (List Nat × Int)) (n : Nat) (bv : Array Value) : Prop := bv.size = n + 1 ∧ ∀ k, k ≤ n → ∃ x t, bv[k]? = some (.int x t) ∧ BestOk gs bs n k x
set_option maxRecDepth 100000 in
set_option maxHeartbeats 2000000 in
theorem law4 {p9 : Program} {lo9 : List Str} (w : World) (mean : ExcName → Option Value) (mg mb : Str → Option Value) (fa : Addr) (cdv : Value) (base h₀ : Heap) (L : Addr) (m : Str → Option Value) (news : List (Addr × Obj)) (s : Shared) (Q : Flow → Shared → Prop) (E : Value → Shared → Prop) (rl : Addr) (r : Nat) (hr : r < 5) (tr : Tok) (n : Nat) (tn : Tok) (rv : Array Value) (nrv : Nat) (bs : List (List Nat × Int))
   (B : Below callerA base [] h₀) (F : Fr h₀ L s.heap m) (X : (hd.heap_39 w.params).In h₀) (N : News h₀ L s.heap news) (T : Top p9 lo9 mean mg mb h₀)(hE : PassesOwn (model PySem.Challenge.rw_bb0001_01.row.prog w) (callerA.deeper (lawEnv L fa cdv)) (lawEnv L fa cdv) E) (hn : n = 3 ∨ n = 4) (hm0 : m (Str.ofString "rule") = some (.int (r : Int) tr))
   (hm2 : m (Str.ofString "count") = some (.int (n : Int) tn)) (hm3 : m (Str.ofString "rows") = some (.ref rl)) (hm4 : m (Str.ofString "gains") = some (.ref (645 + r))) (hrl : (rl, ({ cls := .type "list", data := .seq rv nrv } : Obj)) ∈ news) (hrows : RowsAt news rv bs) (hb1 : 1 ≤ bs.length) (hb4 : bs.length ≤ 4) (hgood : ∀ b ∈ bs, GoodB n b) (hcell : ∃ oc v0, (L + 2, oc) ∈ news ∧ oc.data = .cell v0)
   (hnext : ∀ bl ob bv h' g' d' tk' m' led, g' = s.gens → BestAt (gainsOf r) bs n bv → m' (Str.ofString "rule") = some (.int (r : Int) tr) → m' (Str.ofString "count") = some (.int (n : Int) tn) → m' (Str.ofString "rows") = some (.ref rl) → m' (Str.ofString "gains") = some (.ref (645 + r)) → m' (Str.ofString "best") = some (.ref bl) → Fr h₀ L h' m' → News h₀ L h' led → (∀ p ∈ news, p.1 ≠ L + 2 → p ∈ led) → (bl, ob) ∈ led → LObj ob bv → wpAny (model PySem.Challenge.rw_bb0001_01.row.prog w) (callerA.deeper (lawEnv L fa cdv)) (execs (lawFn.1.drop 8) (lawEnv L fa cdv)) Q E ⟨h', g', d', tk', s.os⟩) :
   wpAny (model PySem.Challenge.rw_bb0001_01.row.prog w) (callerA.deeper (lawEnv L fa cdv)) (execs (lawFn.1.drop 6) (lawEnv L fa cdv)) Q E s := by
  have Tp := T
  have N0 := fun {a b : Addr × Obj} (ha : a ∈ news) (hb : b ∈ news) (hne : a.2.data ≠ b.2.data) => News.ne_data N ha hb hne
  have nrl : rl ≠ L + 2 := by
    obtain ⟨oc', v', h1, h2⟩ := hcell
    exact N0 hrl h1 (by rw [h2]; intro z; cases z)
  revert X
  k_fill
  intro X
  with_unfolding_all show wpAny _ _ (execs (_ :: _) _) _ _ _
  have n16 : (2 : Int) ^ n = 8 ∨ (2 : Int) ^ n = 16 := by rcases hn with rfl | rfl <;> decide
  k_steps
  refine Halt9.out ?_
  refine For_c ?_
  k_steps
  refine Halt9.out ?_
  rename Fr _ _ _ _ => FF
  rename News _ _ _ _ => NN
  rename IsRange _ _ _ _ _ _ _ _ => hr8
  obtain ⟨M, hM, hM8⟩ : ∃ M : Nat, (2 : Int) ^ ((n : Int)).toNat = (M : Int) ∧ (M = 8 ∨ M = 16) := by
    rw [Int.toNat_natCast]
    rcases n16 with e | e
    · rw [e]; exact ⟨8, rfl, .inl rfl⟩
    · rw [e]; exact ⟨16, rfl, .inr rfl⟩
  rw [hM] at hr8
  obtain ⟨D9, e9⟩ := head_adr NN
  subst e9
  have hD9n : ∀ q ∈ news, q.1 ≠ D9 := fun q hq => Nat.ne_of_lt (allLt_mem (And.right (by assumption)) q hq)
  refine iter_c_range (hE := hE) (fun i m₁ led₁ g => g = s.gens ∧ m₁ (Str.ofString "rule") = some (.int (r : Int) tr) ∧ m₁ (Str.ofString "count") = some (.int (n : Int) tn) ∧ m₁ (Str.ofString "rows") = some (.ref rl) ∧ m₁ (Str.ofString "gains") = some (.ref (645 + r)) ∧ m₁ (Str.ofString "best") = some (.ref D9) ∧ (∀ q ∈ news, q.1 ≠ L + 2 → q ∈ led₁) ∧ (∃ oc v0, (L + 2, oc) ∈ led₁ ∧ oc.data = .cell v0) ∧ ∃ ob bv, (D9, ob) ∈ led₁ ∧ LObj ob bv ∧ BestAt (gainsOf r) bs n bv)
    rfl hr8 (small_m M hM8) (size_m M hM8) FF NN ?_ ?_ ?_
  · obtain ⟨oc, v0, h1, h2⟩ := hcell
    refine ⟨rfl, by exact hm0, by exact hm2, by exact hm3, by exact hm4, rfl, fun q hq _ => .tail _ (.tail _ hq), ⟨oc, v0, .tail _ (.tail _ h1), h2⟩, _, _, .head _, .lit, ?_, fun k hk => ⟨0, _, zeros_get (n := n + 1) (by omega), .inl rfl⟩⟩
    have e : (List.replicate ((n + 1 : Nat) : Int).toNat [Value.int 0 s.toks]).flatten.toArray.size = n + 1 := by
      rw [Int.toNat_natCast]; simp
    exact e
  · rintro i tt m₁ led₁ I io h g d t9 hi ⟨rfl, hm0, hm2, hm3, hm4, hm5, hsub, ⟨oc, v0, hoc, hocd⟩, ob, bv, hD9, hob, hbest⟩ hoff hio0 F2 N2
    have hio := fun {q : Addr × Obj} (hq : q ∈ led₁) => (List.Mem.tail (I, io) hq : q ∈ (I, io) :: led₁)
    unfold TurnG
    k_steps
    refine Halt9.out ?_
    refine store_cell (c := L + 2) (by exact rfl) (by exact rfl) (by exact rfl) F2 N2 (hio hoc) hocd fun h5 oc1 hocd1 F5 N5 => ?_
    have up5 : ∀ q ∈ (I, io) :: led₁, q.1 ≠ L + 2 → q ∈ put (L + 2) oc1 ((I, io) :: led₁) := fun q hq hne => mem_put hq hne
    have hoc1 : (L + 2, oc1) ∈ put (L + 2) oc1 ((I, io) :: led₁) := mem_put_self
    have hI5 : (I, io) ∈ put (L + 2) oc1 ((I, io) :: led₁) := up5 _ (.head _) (Ne.symm (hoff _ hoc))
    have nD9 : D9 ≠ L + 2 := News.ne_data N2 (hio hD9) (hio hoc) (by obtain ⟨_, nz, ez⟩ := hob; rw [hocd, ez]; intro z; cases z)
    have hD95 := up5 _ (hio hD9) nD9
    have hrows5 : RowsAt (put (L + 2) oc1 ((I, io) :: led₁)) rv bs := hrows.lists (fun q hq hs => by
      have nq : q.1 ≠ L + 2 := by
        obtain ⟨oc', v', h1, h2⟩ := hcell
        exact N0 hq h1 (by rw [h2]; obtain ⟨vs, n, e⟩ := hs; rw [e]; intro z; cases z)
      exact up5 _ (hio (hsub q hq nq)) nq)
    have hrl5 := up5 _ (hio (hsub _ hrl nrl)) nrl
    generalize put (L + 2) oc1 ((I, io) :: led₁) = led5 at *
    k_steps
    refine Halt9.out ?_
    rename Fr _ _ _ _ => FF5
    rename News _ _ _ _ => NN5
    refine LCt.CompSrcT.range (n := n) rfl FF5 NN5 (by assumption) (small_k n (by omega)) (size_k n (by omega)) (by have : 4 ≤ sizeLine := Nat.le_of_ble_eq_true rfl; omega) fun g9 => comp_flt (List.range n) (fun k => decide (((0 + (i : Int)).fdiv ((2 : Int) ^ k)).fmod 2 = 1)) (List.length_range) (fun i v hi hv => ?_) trivial (by exact rfl) (by exact rfl) (by exact rfl) ?_ ?_
    · obtain ⟨t9, rfl⟩ := hv
      rw [List.length_range] at hi
      exact ⟨t9, by simp [List.getD, hi]⟩
    · intro j kk tt9 I9 oI9 C9 oC9 D9 m9 ys9 h9 tk9 E9 hj hkk hC9 hx9 F9 N9
      have hk4 : kk < 4 := by
        rw [List.length_range] at hj
        have : kk = j := by rw [hkk]; simp [List.getD, hj]
        omega
      k_steps
      all_goals first | (rename Fr _ _ _ _ => q9; exact q9) | (rename News _ _ _ _ => q9; exact q9)
    · intro ys9 hys9 D10 h10 tk10 F10 N10 o10
      obtain ⟨T, hT⟩ : ∃ T, T = List.filter (fun k => decide (((0 + (i : Int)).fdiv ((2 : Int) ^ k)).fmod 2 = 1)) (List.range n) := ⟨_, rfl⟩
      rw [← hT] at hys9
      have hTn : T.Nodup := by rw [hT]; exact List.nodup_range.filter _
      have hTl : ∀ t ∈ T, t < n := fun t ht => by rw [hT] at ht; exact List.mem_range.mp (List.mem_filter.mp ht).1
      have hTk : T.length ≤ n := by
        have := nodup_len T (List.range n) hTn (fun t ht => List.mem_range.mpr (hTl t ht))
        rwa [List.length_range] at this
      have hyl : ys9.length = T.length := hys9.len
      have hy9 : ys9.toArray.size ≤ 9 := by simp; omega
      have hyT : (ys9.toArray.size : Int) = (T.length : Int) := by simp [hyl]
      obtain ⟨xb, tb, hxb, hok⟩ := hbest.2 T.length hTk
      have hk63 : (T.length : Int) < 2 ^ 63 := by omega
      k_steps
      refine Halt9.out ?_
      refine len_o (o := LCg.lst ys9) N10 (.head _) ⟨rfl, _, rfl⟩ hy9 ?_
      intro t8 tk8
      rw [hyT]
      dsimp only
      k_steps
      refine Halt9.out ?_
      rename News _ _ _ _ => NN10
      refine item_list (k := (T.length : Int)) (x := .int xb tb) (items := bv) (hob.isList (NN10 _ (.tail _ hD95)).1) (Int.natCast_nonneg _) hk63 (by rw [Int.toNat_natCast]; exact hxb) ?_
      k_steps
      refine Halt9.out ?_
      rename Fr _ _ _ _ => FF10
      rename News _ _ _ _ => NN10
      obtain ⟨gv, hgv, hgi⟩ := (gains_at X r hr).1
      refine lw655_u rfl (Nat.le_of_ble_eq_true rfl) rfl (Nat.le_of_ble_eq_true rfl) (645 + r) rl D10 gv rv ys9.toArray (gainsOf r) nrv _ bs T B FF10 X NN10 Tp (by exact rfl) hgv hgi (gains_small r).1 (gains_small r).2 (.tail _ hrl5) (hrows5.mono fun q hq => .tail _ hq) hb4 (fun b hb => ?_) (.head _) (by simpa using hys9) (by omega) ?_
      · obtain ⟨g1, g2, g3, g4⟩ := hgood b hb
        exact ⟨g3, g4, by
          have := nodup_len b.1 (List.range n) (subs_nodup _ g1) (fun t ht => List.mem_range.mpr (g2 t ht))
          rw [List.length_range] at this
          omega⟩
      intro tw h11 d11 tk11 F11 N11
      dsimp only
      k_steps
      refine Halt9.out ?_
      rename Fr _ _ _ _ => FF11
      rename News _ _ _ _ => NN11
      refine len_o (o := LCg.lst ys9) NN11 (.head _) ⟨rfl, _, rfl⟩ hy9 ?_
      intro t12 tk12
      rw [hyT]
      dsimp only
      have hK2 : (T.length : Int) < bv.size := by rw [hbest.1]; omega
      k_steps
      refine Halt9.out ?_
      refine set_led FF11 NN11 (.tail _ hD95) hob (Int.natCast_nonneg _) hk63 hK2 fun h13 o13 ho13 F13 N13 => ?_
      k_steps
      have up13 := up_put N13
      have me13 := self_put N13
      have nDI : D9 ≠ I := hoff _ hD9
      have u13 : ∀ q ∈ led5, q.1 ≠ D9 → q.1 ≠ I → q ∈ off I _ := fun q hq a1 a2 => mem_off.mpr ⟨up13 q (.tail _ hq) a1, a2⟩
      have nLI : L + 2 ≠ I := hoff _ hoc
      refine ⟨_, _, F13, N13, up13 _ (.tail _ hI5) (Ne.symm nDI), ⟨rfl, by exact hm0, by exact hm2, by exact hm3, by exact hm4, by exact hm5, fun q hq a1 => u13 q (up5 q (hio (hsub q hq a1)) a1) (hD9n q hq) (hoff q (hsub q hq a1)), ⟨oc1, _, u13 _ hoc1 (Ne.symm nD9) nLI, hocd1⟩, o13, _, mem_off.mpr ⟨me13, nDI⟩, ho13, ?_, fun k hk => ?_⟩, rfl⟩
      · rw [Array.size_setIfInBounds]; exact hbest.1
      · rw [Int.toNat_natCast, Array.getElem?_setIfInBounds]
        by_cases e : T.length = k
        · have hz : T.length < bv.size := by rw [hbest.1]; omega
          rw [if_pos e, if_pos hz]
          refine ⟨_, _, rfl, ?_⟩
          split
          · exact .inr ⟨T, hTn, hTl, e, rfl⟩
          · rw [← e]; exact hok
        · rw [if_neg e]
          exact hbest.2 k hk
  · rintro m₁ led₁ h g d t ⟨rfl, hm0, hm2, hm3, hm4, hm5, hsub, -, ob, bv, hD9, hob, hbest⟩ F2 N2
    k_steps
    refine Halt9.out ?_
    exact hnext D9 ob bv _ _ _ _ _ led₁ rfl hbest hm0 hm2 hm3 hm4 hm5 F2 N2 hsub hD9 hob
end Mine
end

/- LPl -/
section
open PySem PySem.W PyProof.Rows PySem.Calls PySem.Spec
set_option linter.unusedVariables false
namespace Mine
theorem ins_perm (k : Nat) : ∀ ks : List Nat, k ∉ ks → (ins k ks).Perm (k :: ks)
  | [], _ => List.Perm.refl _
  | j :: r, h => by
    have hj : k ≠ j := fun e => h (e ▸ List.Mem.head _)
    have ih := ins_perm k r fun hm => h (.tail _ hm)
    unfold ins
    split
    · exact List.Perm.refl _
    · exact (ih.cons j).trans (List.Perm.swap k j r)
theorem insAll_perm : ∀ (ns ks : List Nat), ns.Nodup → (∀ k ∈ ns, k ∉ ks) → (insAll ks ns).Perm (ks ++ ns)
  | [], ks, _, _ => by rw [List.append_nil]; exact List.Perm.refl _
  | k :: r, ks, hn, hd => by
    have hk := hd k (.head _)
    have hn' := List.nodup_cons.mp hn
    have ih := insAll_perm r (ins k ks) hn'.2 fun j hj hm => by
      rcases (ins_mem k ks j).mp hm with e | hm
      · exact hn'.1 (e ▸ hj)
      · exact hd j (.tail _ hj) hm
    refine ih.trans ?_
    have h1 : (ins k ks ++ r).Perm ((k :: ks) ++ r) := (ins_perm k ks hk).append_right r
    refine h1.trans ?_
    exact List.perm_middle.symm
theorem com_perm {com : List Nat} (h : com.Nodup) : (insAll [] com).Perm com := by
  have := insAll_perm com [] h fun k _ => nofun
  rwa [List.nil_append] at this
theorem wth_perm {g : List Int} {l l' : List Nat} (p : l.Perm l') : ∀ bs : List (List Nat × Int), wth g bs l = wth g bs l'
  | [] => rfl
  | b :: bs => by
    have ih := wth_perm (g := g) p bs
    have e : cut l b.1 = cut l' b.1 := (p.filter _).length_eq
    unfold wth at ih ⊢
    rw [List.map_cons, List.sum_cons, List.map_cons, List.sum_cons, ih, e]
theorem wth_com {g : List Int} {bs : List (List Nat × Int)} {com : List Nat} (h : com.Nodup) : wth g bs (insAll [] com) = wth g bs com := wth_perm (com_perm h) bs
theorem com_len {com : List Nat} (h : com.Nodup) : (insAll [] com).length = com.length := (com_perm h).length_eq
theorem wth_nil {g : List Int} : ∀ bs : List (List Nat × Int), wth g bs [] = 0
  | [] => rfl
  | b :: bs => by
    have ih := wth_nil (g := g) bs
    unfold wth at ih ⊢
    rw [List.map_cons, List.sum_cons, ih]
    simp [cut]
/-- what the law asks at each step -/
theorem law_step {r : Nat} (hr : r < 5) {bs : List (List Nat × Int)} {n : Nat} (hn : n = 3 ∨ n = 4) (hgood : ∀ b ∈ bs, GoodB n b) {com com' : List Nat} (h1 : Run (GOf r) bs n (DOf r) com) (h2 : Run (GOf r) bs n (DOf r) com') (hl : com'.length = com.length + 1) (hc : com.length ≤ 2)
    {k : Nat} (hk : k ≤ n) {x : Int} (hx : BestOk (gainsOf r) bs n k x) : x - wth (gainsOf r) bs com ≤ (k : Int) * (wth (gainsOf r) bs com' - wth (gainsOf r) bs com) := by
  have hf := falls_of r hr
  have hb : ∀ b ∈ bs, 0 < b.2 := fun b hb => (hgood b hb).2.2.1
  obtain ⟨c, rfl, hcn, hcc, hmax⟩ := h1.last h2 hl
  have hpos := sumG_nonneg (GOf_nonneg r) hb com c
  rcases hx with rfl | ⟨T, hT, hTn, rfl, rfl⟩
  · have e := wth_snoc hf com hc c bs
    have h0 := wth_nonneg hf bs hb com
    have h3 : 0 ≤ (k : Int) * (wth (gainsOf r) bs (com ++ [c]) - wth (gainsOf r) bs com) := Int.mul_nonneg (Int.natCast_nonneg _) (by omega)
    omega
  · exact greedy hf hb h1.nodup hc hmax hpos hT hTn (by omega)
theorem law_sub {G : Nat → Int} {D : Int} {bs : List (List Nat × Int)} {n : Nat} {com com' : List Nat} (h1 : Run G bs n D com) (h2 : Run G bs n D com') (hl : com'.length = com.length + 1) : (insAll [] com).filter (fun k => !decide (k ∈ insAll [] com')) = [] := by
  obtain ⟨c, rfl, _⟩ := h1.last h2 hl
  rw [List.filter_eq_nil_iff]
  intro k hk
  have hk' : k ∈ com := (com_perm h1.nodup).mem_iff.mp hk
  have : k ∈ insAll [] (com ++ [c]) := (com_perm h2.nodup).mem_iff.mpr (List.mem_append_left _ hk')
  simp [this]
end Mine
end

/- SrtC -/
section
open PySem PySem.W PyProof.Rows PySem.Calls PySem.Spec
set_option linter.unusedVariables false
namespace Mine
section
variable {w : World} {A : Around} {x dx : Addr} {ks : List Nat} {tk : Nat → Tok} {ep : Nat} {s : Shared} {E : Value → Shared → Prop} {h : Heap}
set_option maxRecDepth 100000 in
set_option maxHeartbeats 2000000 in
theorem srt_find (X : (hd.heap_39 w.params).In h) : Looks (model PySem.Challenge.rw_bb0001_01.row.prog w) h (typeLookup (.ref 75) (Str.ofString "__len__")) (some (.builtin "set.__len__")) := by
  revert X; k_fill; intro X
  exact looks_findIn X (by k_is)
theorem len_split : splitId "set.__len__" = some ("set", "__len__") := by decide +kernel
theorem hint_cs {Q : Bool → Shared → Prop} (X : (hd.heap_39 w.params).In s.heap) (hks : ks ∈ subs) (hne : ks ≠ []) (hx : s.heap.get? x = some (csObj dx (esOf ks tk) ep (tabS ks (!bt w)))) (hq : ∀ tk', Q true { s with toks := tk' }) :
    wpAny (model PySem.Challenge.rw_bb0001_01.row.prog w) A (Builtin.List.listLengthHint (.ref x)) Q E s := by
  have ht := ty_cs (M := model PySem.Challenge.rw_bb0001_01.row.prog w) hx
  have hsp : Looks (model PySem.Challenge.rw_bb0001_01.row.prog w) s.heap (specialOf (.ref x) (Str.ofString "__len__")) (some (.builtin "set.__len__")) := by
    unfold specialOf; exact ht.andThen (srt_find X)
  unfold Builtin.List.listLengthHint
  refine wpAny_bind (hsp.here ?_)
  generalize hid : ("set.__len__" : String) = id0
  wp_delta
  rw [show splitId id0 = some ("set", "__len__") from by subst hid; decide +kernel]
  subst hid
  have hsi : Looks (model PySem.Challenge.rw_bb0001_01.row.prog w) s.heap (isInstance (.ref x) (.type "set")) true := ht.andThen (sup_set X)
  refine wpAny_bind (hsi.here ?_)
  rw [if_neg (by decide)]
  dsimp only
  rw [if_pos (by decide +kernel)]
  refine wpAny_bind (ht.here ?_)
  dsimp only
  refine wpAny_bind (len_cs hks X hx fun t tk' => ?_)
  refine wpAny_bind (m := asInt? (.int _ t)) (wpAny_pure ?_)
  dsimp only
  have hk : ((ks.length : Int) != 0) = true := by
    cases ks with
    | nil => exact absurd rfl hne
    | cons a r => simp; omega
  rw [hk]
  exact wpAny_pure (hq tk')
/-- the items of a CandidateSet, in the order of a walk over it -/
theorem collect_cs {Q : List Value → Shared → Prop} (hh : A.handled = none) (X : (hd.heap_39 w.params).In s.heap) (hks : ks ∈ subs) (hne : ks ≠ []) (hx : s.heap.get? x = some (csObj dx (esOf ks tk) ep (tabS ks (!bt w))))
    (hQ : ∀ h' tk' acc, (∀ b o, s.heap.get? b = some o → h'.get? b = some o) → ItemsOf (fun i v => ∃ k, (ordOf w x ep ks)[i]? = some k ∧ v = Value.int (k : Int) (tk k)) acc ks.length → Q acc.toList { s with heap := h', toks := tk' }) :
    wpAny (model PySem.Challenge.rw_bb0001_01.row.prog w) A (collect (.ref x)) Q E s := by
  have hlen4 : ks.length ≤ 4 := by
    simp only [subs, List.mem_cons, List.not_mem_nil, or_false] at hks
    rcases hks with rfl | rfl | rfl | rfl | rfl | rfl | rfl | rfl | rfl | rfl | rfl | rfl | rfl | rfl | rfl | rfl <;> decide
  unfold collect
  refine wpAny_bind (wpAny_runValue (codeAny_builtin PySem.F.entry_proto_collect ?_))
  rw [Around.under_plainId PySem.F.plain_proto_collect _]
  show wpAny _ A.in1 (newList [] >>= fun l => again (.builtin "list.__iadd__" ⟨[l, .ref x], []⟩)) _ _ s
  refine wpAny_bind (wpAny_newObj_type ?_)
  refine wpAny_pure ⟨plainId_quiet PySem.F.plain_list_iadd _, codeAny_builtin PySem.F.entry_list_iadd ?_⟩
  rw [Around.under_plainId PySem.F.plain_list_iadd _]
  have k1 : ∀ b o, s.heap.get? b = some o → (s.heap.push { cls := .type "list", data := .seq ([] : List Value).toArray }).get? b = some o := fun b o e => Heap.get?_push_of_some _ e
  have hx1 := k1 _ _ hx
  have X1 : (hd.heap_39 w.params).In (s.heap.push { cls := .type "list", data := .seq ([] : List Value).toArray }) := X.keeps k1
  have hS1 : (s.heap.push { cls := .type "list", data := .seq ([] : List Value).toArray }).get? s.heap.objs.size = some { cls := .type "list", data := .seq ([] : List Value).toArray } := Heap.get?_push_size _ rfl
  have hxS : x ≠ s.heap.objs.size := Nat.ne_of_lt (Heap.lt_size hx)
  generalize hH : s.heap.push { cls := .type "list", data := .seq ([] : List Value).toArray } = H1 at *
  show wpAny _ A.in1 (Builtin.List.listExtendWith (.ref s.heap.objs.size) (.ref x) (.ref s.heap.objs.size)) _ _ { s with heap := H1 }
  unfold Builtin.List.listExtendWith
  refine wpAny_bind ((ty_cs hx1).here ?_)
  have q1 : Builtin.List.listSameRef (.ref s.heap.objs.size) (.ref x) = false := by simp [Builtin.List.listSameRef, Ne.symm hxS]
  have q2 : (Value.ref 75 == Value.type "list") = false := by decide
  have q3 : (Value.ref 75 == Value.type "tuple") = false := by decide
  rw [if_neg (by rw [q1, q2, q3]; decide)]
  refine wpAny_bind (si_iter (h := H1) X1 hks hx1 ?_)
  refine wpAny_bind (wpAny_holding ?_)
  have k2 : ∀ b o, H1.get? b = some o → (H1.push (itObj 0 0 x ks.length ep)).get? b = some o := fun b o e => Heap.get?_push_of_some _ e
  have hit : (H1.push (itObj 0 0 x ks.length ep)).get? H1.objs.size = some (itObj 0 0 x ks.length ep) := Heap.get?_push_size _ rfl
  have hxI : x ≠ H1.objs.size := Nat.ne_of_lt (Heap.lt_size hx1)
  have hSI : s.heap.objs.size ≠ H1.objs.size := Nat.ne_of_lt (Heap.lt_size hS1)
  refine hint_cs (X1.keeps k2) hks hne (k2 _ _ hx1) fun tk1 => ?_
  rw [if_pos (by rw [Bool.true_or])]
  show wpAny _ A.in1 (rule "list.extend.makes-room" >>= fun _ => Builtin.List.listTouch (.ref s.heap.objs.size) >>= fun _ => again (.builtin "list.extend.loop" ⟨[.ref s.heap.objs.size, .ref H1.objs.size, .ref s.heap.objs.size], []⟩)) _ _ _
  refine wpAny_bind (wpAny_rule ?_)
  have hS2 := k2 _ _ hS1
  generalize hH2 : H1.push (itObj 0 0 x ks.length ep) = H2 at *
  refine wpAny_bind ?_
  show wpAny _ A.in1 (updateSeq s.heap.objs.size (·.push .none) >>= fun _ => updateSeq s.heap.objs.size (·.pop)) _ _ _
  refine wpAny_bind (wpAny_updateSeq hS2 rfl ?_)
  have hS3 := Heap.get?_update_self (Obj.mapSeq (·.push Value.none)) hS2 rfl
  refine wpAny_updateSeq hS3 rfl ?_
  have hS4 := Heap.get?_update_self (Obj.mapSeq (·.pop)) hS3 rfl
  have oth : ∀ b o, b ≠ s.heap.objs.size → H2.get? b = some o →
      ((H2.update s.heap.objs.size (Obj.mapSeq (·.push Value.none))).update s.heap.objs.size (Obj.mapSeq (·.pop))).get? b = some o :=
    fun b o hb e => (Heap.get?_update_other _ _ (Ne.symm hb)).trans ((Heap.get?_update_other _ _ (Ne.symm hb)).trans e)
  have W := (Walks.cset (prog := PySem.Challenge.rw_bb0001_01.row.prog) (w := w) (A := A.in1) hh H1.objs.size x dx hxI ks hks tk ep).toS
  refine wpAny_pure ⟨plainId_quiet PySem.F.plain_extend_loop _, codeAny_extend_loopS W (Nat.le_trans hlen4 (Nat.le_of_ble_eq_true rfl)) _ (by simp; exact ⟨hSI, Ne.symm hxS⟩) _ ks.length 0 _ _ _ rfl (Nat.zero_le _) ⟨0, oth _ _ (Ne.symm hSI) hit, oth _ _ hxS (k2 _ _ hx1), fun _ => rfl⟩ hS4 (ItemsOf.nil _) fun s' acc' c' hm hS' hacc => ?_⟩
  show wpAny _ A (load s.heap.objs.size >>= _) _ _ s'
  refine wpAny_bind (wpAny_load hS' ?_)
  obtain ⟨h9, g9, d9, t9, o9⟩ := s'
  have e1 : g9 = s.gens := hm.gens
  have e2 : d9 = s.drawn := hm.drawn
  have e3 : o9 = s.os := hm.os
  subst e1 e2 e3
  refine wpAny_pure (hQ h9 t9 acc' (fun b o e => ?_) hacc)
  have nb : b ≠ s.heap.objs.size := Nat.ne_of_lt (Heap.lt_size e)
  have nI : b ≠ H1.objs.size := Nat.ne_of_lt (Nat.lt_trans (Heap.lt_size e) (Nat.lt_of_le_of_ne (Nat.le_of_lt (Heap.lt_size hS1)) hSI))
  exact hm.heap b o (by simp [nb, nI]) (oth b o nb (k2 _ _ (k1 _ _ e)))
theorem ord_sorted : ∀ ks ∈ subs, (ks.map fun k : Nat => (k : Int)).Pairwise (· ≤ ·) := by decide
theorem pw_perm_eq : ∀ {l m : List Int}, l.Pairwise (· ≤ ·) → m.Pairwise (· ≤ ·) → l.Perm m → l = m := fun h1 h2 p => p.eq_of_pairwise (fun a b _ _ h3 h4 => Int.le_antisymm h3 h4) h1 h2
theorem vn_of_ints : ∀ {vs : List Value} {ks : List Nat}, IntsAre vs (ks.map fun k : Nat => (k : Int)) → VN vs ks
  | [], [], _ => trivial
  | _ :: _, _ :: _, .cons _ t h => ⟨⟨t, rfl⟩, vn_of_ints h⟩
theorem ints_of_ord {ord : List Nat} : ∀ {vs : List Value} {i : Nat}, (∀ j v, vs[j]? = some v → ∃ k, ord[i + j]? = some k ∧ v = Value.int (k : Int) (tk k)) → vs.length + i = ord.length → IntsAre vs ((ord.drop i).map fun k : Nat => (k : Int))
  | [], i, _, hl => by
    have : ord.drop i = [] := List.drop_eq_nil_of_le (by simp at hl; omega)
    rw [this]; exact .nil
  | v :: vs, i, h, hl => by
    obtain ⟨k, hk, rfl⟩ := h 0 v rfl
    have hi : i < ord.length := by simp at hl; omega
    have e : ord.drop i = k :: ord.drop (i + 1) := by
      rw [List.drop_eq_getElem_cons hi]
      have : ord[i] = k := by simpa [hi] using hk
      rw [this]
    rw [e, List.map_cons]
    exact .cons _ _ (ints_of_ord (fun j v hv => by
      obtain ⟨k', hk', e'⟩ := h (j + 1) v (by simpa using hv)
      exact ⟨k', by rw [← hk']; congr 1; omega, e'⟩) (by simp at hl; omega))
/-- sorted(a CandidateSet) -/
theorem sorted_cs {h₀ : Heap} {L : Addr} {m : Str → Option Value} {led : List (Addr × Obj)} {Q : Value → Shared → Prop} (hh : A.handled = none) (X : (hd.heap_39 w.params).In h₀) (F₀ : Fr h₀ L s.heap m) (N : News h₀ L s.heap led) (hks : ks ∈ subs) (hne : ks ≠ []) (hx : (x, csObj dx (esOf ks tk) ep (tabS ks (!bt w))) ∈ led)
    (hQ : ∀ l xs e h' tk', Fr h₀ L h' m → News h₀ L h' ((l, ({ cls := .type "list", data := .seq xs e } : Obj)) :: led) → VN (xs : Array Value).toList ks → (∀ p ∈ led, p.1 < l) → Q (.ref l) { s with heap := h', toks := tk' }) :
    wpAny (model PySem.Challenge.rw_bb0001_01.row.prog w) A (call (.builtin "sorted") [.ref x]) Q E s := by
  refine call_function_entry kind_sorted plain_sorted entry_sorted (args_sorted1 _) ?_
  unfold Builtin.«sorted»
  refine wpAny_bind (m := checkCount "sorted" 1 1 _) (wpAny_pure ?_)
  refine wpAny_bind (collect_cs (by exact hh) (X.keeps F₀.keep) hks hne (N _ hx).1 fun h1 tk1 acc hk hacc => ?_)
  have F1 : Fr h₀ L h1 m := F₀.keeps hk
  have N1 : News h₀ L h1 led := fun p hp => ⟨hk _ _ (N p hp).1, (N p hp).2⟩
  have hI : IntsAre acc.toList ((ordOf w x ep ks).map fun k : Nat => (k : Int)) := by
    have := ints_of_ord (tk := tk) (ord := ordOf w x ep ks) (vs := acc.toList) (i := 0) (fun j v hv => by
      obtain ⟨k, h1, h2⟩ := hacc.2 j v (by simpa using hv)
      exact ⟨k, by simpa using h1, h2⟩) (by rw [(ord_perm w x ep ks).length_eq]; simpa using hacc.1)
    simpa using this
  have hlen4 : acc.toList.length < 64 := by
    have : acc.size = ks.length := hacc.1
    have h4 : ks.length ≤ 4 := by
      simp only [subs, List.mem_cons, List.not_mem_nil, or_false] at hks
      rcases hks with rfl | rfl | rfl | rfl | rfl | rfl | rfl | rfl | rfl | rfl | rfl | rfl | rfl | rfl | rfl | rfl <;> decide
    simp; omega
  refine wpAny_bind (wpAny_newList ?_ (hsz := Nat.le_trans (Nat.le_of_lt hlen4) (Nat.le_of_ble_eq_true rfl)))
  have F2 := F1.push (seqObj "list" acc.toList.toArray 0)
  have N2 := N1.push F1 (seqObj "list" acc.toList.toArray 0)
  have lt : ∀ p ∈ led, p.1 < h1.objs.size := fun p hp => Heap.lt_size (N1 p hp).1
  refine wpAny_bind (wpAny_holding (wpAny_call_entry slot_list_sort ⟨_, (N2 _ (.head _)).1, rfl⟩ entry_list_sort (list_sort_tree (N2 _ (.head _)).1 hI hlen4 fun out ns' a1 a2 a3 => ⟨_, rfl, ?_⟩) (args_list_sort _)))
  have e9 : ns' = ks.map fun k : Nat => (k : Int) := pw_perm_eq a3 (ord_sorted ks hks) (a2.trans ((ord_perm w x ep ks).map _))
  obtain ⟨e, he⟩ := sortedHeap_at (vs := acc.toList) (out := out) (N2 _ (.head _)).1
  have old : ∀ b o, b ≠ h1.objs.size → (h1.push (seqObj "list" acc.toList.toArray 0)).get? b = some o → (sortedHeap (h1.push (seqObj "list" acc.toList.toArray 0)) h1.objs.size acc.toList out).get? b = some o := fun b o hb e => by
    rw [sortedHeap_old hb (Heap.lt_size e)]; exact e
  refine wpAny_pure ⟨_, rfl, ?_⟩
  exact hQ _ _ e _ _ (fr_but F2 (N2 _ (.head _)).2.1 (N2 _ (.head _)).2.2 old) (news_but N2 (fun p hp => Nat.ne_of_lt (lt p hp)) he old) (vn_of_ints (by rw [← e9]; exact a1)) lt
end
end Mine
end

/- NotI -/
section
open PySem PySem.W PyProof.Rows PySem.Calls PySem.Spec
set_option linter.unusedVariables false
namespace Mine
section
variable {w : World} {A : Around} {x dx : Addr} {ks : List Nat} {tk : Nat → Tok} {ep : Nat} {led : Bool} {s : Shared} {E : Value → Shared → Prop} {h : Heap}
set_option maxRecDepth 100000 in
set_option maxHeartbeats 2000000 in
theorem con_find (X : (hd.heap_39 w.params).In h) : Looks (model PySem.Challenge.rw_bb0001_01.row.prog w) h (typeLookup (.ref 75) (Str.ofString "__contains__")) (some (.builtin "set.__contains__")) := by
  revert X; k_fill; intro X
  exact looks_findIn X (by k_is)
theorem con_bind (self : Value) : bindSpecial (.builtin "set.__contains__") self = pure (.builtin "set.__contains__", [self]) :=
  (Slot.of (T := "set") (name := "__contains__") (owner := "set") (n := "__contains__") (by rw [typeLookup_type, builtinLookup_eq_fast]; kernel_rfl) (by decide +kernel) (by decide +kernel) (by decide +kernel)
    (by first | exact .inl (by decide +kernel) | exact .inr (by decide +kernel)) (by rw [isSubtype_type]; kernel_rfl)).bind self
theorem con_kind : builtinKind "set.__contains__" = some .method := by decide +kernel
theorem con_split : splitId "set.__contains__" = some ("set", "__contains__") := by decide +kernel
/-- k not in a CandidateSet that holds it -/
theorem notin_cs {h₀ : Heap} {L : Addr} {m : Str → Option Value} {news : List (Addr × Obj)} {Q : Value → Shared → Prop} {k : Nat} {t : Tok} (X₀ : (hd.heap_39 w.params).In h₀) (F : Fr h₀ L s.heap m) (N : News h₀ L s.heap news) (hks : ks ∈ subs) (hk4 : k < 4) (hn : (x, csObj dx (esOf ks tk) ep (tabS ks led)) ∈ news)
    (hq : ∀ tk', Q (.bool (!decide (k ∈ ks))) { s with toks := tk' }) :
    wpAny (model PySem.Challenge.rw_bb0001_01.row.prog w) A (compareOp .NotIn (.int (k : Int) t) (.ref x)) Q E s := by
  have hx := (N _ hn).1
  have X := X₀.keeps F.keep
  have ht := ty_cs (M := model PySem.Challenge.rw_bb0001_01.row.prog w) hx
  have hs := sup_set X
  have hI : Looks (model PySem.Challenge.rw_bb0001_01.row.prog w) s.heap (isInstance (.ref x) (.type "set")) true := ht.andThen hs
  have hsp : Looks (model PySem.Challenge.rw_bb0001_01.row.prog w) s.heap (specialOf (.ref x) (Str.ofString "__contains__")) (some (.builtin "set.__contains__")) := by
    unfold specialOf; exact ht.andThen (con_find X)
  show wpAny _ _ (do return .bool (!(← contains (.ref x) (.int (k : Int) t)))) Q E s
  refine wpAny_bind ?_
  unfold contains
  try with_reducible refine wpAny_holding ?_
  refine wpAny_bind (hsp.here ?_)
  show wpAny _ _ (if (some (Value.builtin "set.__contains__") == some Value.none) = true then _ else _) _ E s
  rw [if_neg (by rw [beq_builtin_none]; exact Bool.false_ne_true)]
  refine wpAny_bind ?_
  unfold callSpecialUnlessNone?
  refine wpAny_bind (hsp.here ?_)
  dsimp only
  refine wpAny_holding ?_
  rw [con_bind]
  refine wpAny_bind (wpAny_pure ?_)
  dsimp only
  rw [if_neg (by rw [show (Value.builtin "set.__contains__" == Value.none) = false from rfl]; exact Bool.false_ne_true)]
  refine wpAny_bind (wpAny_call (codeAny_call_builtin_at (Code.quiet_builtin _ (by decide +kernel)) entry_set_contains ?_))
  refine check_method (M := model PySem.Challenge.rw_bb0001_01.row.prog w) (i := "set.__contains__") (owner := "set") (n := "__contains__") (self := .ref x) (rest := [.int (k : Int) t]) (kw := []) con_kind con_split hI (PySem.F.args_set_contains_2 _ _) ?_
  rw [Around.under_plainId (by decide +kernel : plainId "set.__contains__" = true) _]
  unfold Builtin.«frozenset.__contains__» Builtin.Frozenset.oneOther
  simp only [List.isEmpty_nil]
  unfold Builtin.Frozenset.addrOf Builtin.Frozenset.withSetAsKey setContains
  refine wpAny_bind (wpAny_pure ?_)
  try dsimp only
  refine wpAny_bind (wpAny_tryCatch ?_)
  refine wpAny_holding ?_
  refine wpAny_bind ((intKind PySem.Challenge.rw_bb0001_01.row.prog w).pyHash (k := (k : Int)) (intKind_is _ _ _ _) ?_)
  rw [show (intKind PySem.Challenge.rw_bb0001_01.row.prog w).hash (k : Int) = (k : Int) from hashInt_small _ hk4]
  refine wpAny_bind (cs_find (s := { s with toks := s.toks + 1 }) hx rfl hks hk4 fun r hr => ?_)
  refine wpAny_pure ?_
  show wpAny _ _ (ret (Value.bool r.isSome)) _ _ _
  rw [hr]
  refine wpAny_pure ?_
  refine wpAny_pure ?_
  exact wpAny_truthy_bool (wpAny_pure (hq _))
end
end Mine
end

/- LA8 -/
section
open PySem PySem.W PyProof.Rows PySem.Calls PySem.Spec
set_option linter.unusedVariables false
namespace Mine
set_option hygiene false in
local macro_rules | `(tactic| wtm_at "own eval Name") => `(tactic| (k_here; name_kind "local"; k_dflt (refine q_locF (by assumption) (by first | with_reducible (first | exact hm0 | exact hm1 | exact hm2 | exact hm3 | exact hm4 | exact hm5 | exact hm6 | exact hm7 | exact hm8 | exact hm9 | exact hm10 | exact hm11) | (first | exact hm0 | exact hm1 | exact hm2 | exact hm3 | exact hm4 | exact hm5 | exact hm6 | exact hm7 | exact hm8 | exact hm9 | exact hm10 | exact hm11)) (by kernel_rfl!) (by kernel_rfl!) (by exact rfl) ?_)))
set_option hygiene false in
local macro_rules | `(tactic| wtm_at "own loadName") => `(tactic| (k_here; k_dflt (refine wpAny_loadName_local (by exact rfl) (by exact rfl) (Fr.ns (by assumption)) (by first | exact hm0 | exact hm1 | exact hm2 | exact hm3 | exact hm4 | exact hm5 | exact hm6 | exact hm7 | exact hm8 | exact hm9 | exact hm10 | exact hm11) ?_)))
local macro_rules | `(tactic| k_mem) => `(tactic| first | assumption | exact List.Mem.head _ | (refine List.Mem.tail _ ?_; k_mem))

open PySem.W.X (tableObj)
set_option hygiene false in
local macro_rules | `(tactic| wtm_at "own eval Name") => `(tactic| (k_here; name_kind "cell"; k_dflt (refine cell_led (c := L + 3) (by assumption) (by k_mem) hocd1 ?_)))
local macro_rules | `(tactic| wtm_at "own exec For Name Call cons nil") => `(tactic| refine Halt9.intro ?_)
local macro_rules | `(tactic| wtm_at "own pyIter ref") => `(tactic| refine Halt9.intro ?_)
local macro_rules | `(tactic| wtm_at "own call ref") => `(tactic| ((with_reducible show wpAny _ _ (call (Value.ref 448) _) _ _ _); refine Halt9.intro ?_))
local macro_rules | `(tactic| wtm_at "own call ref") => `(tactic| ((with_reducible show wpAny _ _ (call (Value.ref 655) _) _ _ _); refine Halt9.intro ?_))
local macro_rules | `(tactic| wtm_at "own subscriptTail") => `(tactic| refine Halt9.intro ?_)
local macro_rules | `(tactic| wtm_at "own subscriptTail Name Constant ref int") => `(tactic| refine Halt9.intro ?_)
local macro_rules | `(tactic| wtm_at "own call builtin:len") => `(tactic| refine Halt9.intro ?_)
local macro_rules | `(tactic| wtm_at "own call builtin:sorted") => `(tactic| refine Halt9.intro ?_)
local macro_rules | `(tactic| wtm_at "own CompSrcT") => `(tactic| refine Halt9.intro ?_)
local macro_rules | `(tactic| wtm_at "own compareOp NotIn") => `(tactic| refine Halt9.intro ?_)
local macro_rules | `(tactic| wtm_at "own compareOp NotEq ref ref") => `(tactic| refine Halt9.intro ?_)
local macro_rules | `(tactic| wtm_at "own ite") => `(tactic| (k_dflt (first | (refine PySem.W.ite_neg ?hc ?_; (case hc => first | (simp; done) | (simp only [beq_iff_eq, bne_iff_ne, ne_eq, Decidable.not_not, decide_eq_true_eq]; omega))) | (refine PySem.W.ite_pos ?hc ?_; (case hc => first | (simp; done) | (simp only [beq_iff_eq, decide_eq_true_eq]; omega))))))
theorem nm_item (r : Nat) (hr : r < 5) (t0 t1 t2 t3 t4 : Tok) : ∃ t, (#[Value.str (Str.ofString "pav") t0, .str (Str.ofString "slav") t1, .str (Str.ofString "cc") t2, .str (Str.ofString "geom2") t3, .str (Str.ofString "geom3") t4] : Array Value)[r]? = some (.str (nmOf r) t) := by
  rcases r with _ | _ | _ | _ | _ | r
  · exact ⟨_, rfl⟩
  · exact ⟨_, rfl⟩
  · exact ⟨_, rfl⟩
  · exact ⟨_, rfl⟩
  · exact ⟨_, rfl⟩
  · exact absurd hr (by omega)
theorem range_n1 : Builtin.Range.small 1 (((3 : Nat) : Int) + 1) 1 = true ∧ Builtin.Range.rangeSize 1 (((3 : Nat) : Int) + 1) 1 = ((3 : Nat) : Int) ∧ Builtin.Range.small 1 (((4 : Nat) : Int) + 1) 1 = true ∧ Builtin.Range.rangeSize 1 (((4 : Nat) : Int) + 1) 1 = ((4 : Nat) : Int) := by decide +kernel
theorem small_n1 (n : Nat) (h : n = 3 ∨ n = 4) : Builtin.Range.small 1 ((n : Int) + 1) 1 = true := h.elim (fun e => e ▸ range_n1.1) fun e => e ▸ range_n1.2.2.1
theorem size_n1 (n : Nat) (h : n = 3 ∨ n = 4) : Builtin.Range.rangeSize 1 ((n : Int) + 1) 1 = (n : Int) := h.elim (fun e => e ▸ range_n1.2.1) fun e => e ▸ range_n1.2.2.2
theorem pack_three {h₀ h : Heap} {L l : Addr} {o : Obj} {b c : Addr × Obj} {led : List (Addr × Obj)} (N : News h₀ L h ((l, o) :: b :: c :: led)) : ∃ led', (l, o) ∈ led' ∧ (∀ q ∈ led, q ∈ led') ∧ News h₀ L h led' := ⟨_, .head _, fun q hq => .tail _ (.tail _ (.tail _ hq)), N⟩
/-- neither fields nor a cell -/
def NF (p : Addr × Obj) : Prop := (∀ fs, p.2.data ≠ .fields fs) ∧ ∀ v, p.2.data ≠ .cell v
theorem ProfAt.nf {w : World} {led led' : List (Addr × Obj)} {p lv : Addr} {n : Nat} (h : ProfAt w led p n lv) (k : ∀ p ∈ led, NF p → p ∈ led') : ProfAt w led' p n lv := by
  obtain ⟨dp, lc, ln, k1, k2, k3, vs, nl, a, b, c, d⟩ := h
  exact ⟨dp, lc, ln, k1, k2, k3, vs, nl, k _ a ⟨fun _ => nofun, fun _ => nofun⟩, k _ b ⟨fun _ => nofun, fun _ => nofun⟩, k _ c ⟨fun _ => nofun, fun _ => nofun⟩, d⟩
theorem VotersAt.nf {w : World} {led led' : List (Addr × Obj)} {vs : Array Value} {bs : List (List Nat × Int)} (h : VotersAt w led vs bs) (k : ∀ p ∈ led, NF p → p ∈ led') : VotersAt w led' vs bs :=
  ⟨h.1, fun i b hb => let ⟨v, e, x, dx, y, dy, tks, ep, k1, k2, tw, e1, a, b', c, d⟩ := h.2 i b hb
    ⟨v, e, x, dx, y, dy, tks, ep, k1, k2, tw, e1, k _ a ⟨fun _ => nofun, fun _ => nofun⟩, k _ b' ⟨fun _ => nofun, fun _ => nofun⟩, k _ c ⟨fun _ => nofun, fun _ => nofun⟩, k _ d ⟨fun _ => nofun, fun _ => nofun⟩⟩⟩
theorem RowsAt.nf {led led' : List (Addr × Obj)} {rv : Array Value} {bs : List (List Nat × Int)} (h : RowsAt led rv bs) (k : ∀ p ∈ led, NF p → p ∈ led') : RowsAt led' rv bs :=
  h.lists fun p hp ⟨vs, n, e⟩ => k p hp ⟨fun fs => by rw [e]; nofun, fun v => by rw [e]; nofun⟩
theorem nf_seq {a : Addr} {c : Value} {vs : Array Value} {n : Nat} : NF (a, ({ cls := c, data := .seq vs n } : Obj)) := ⟨fun _ => nofun, fun _ => nofun⟩
theorem nf_lobj {a : Addr} {o : Obj} {vs : Array Value} (h : LObj o vs) : NF (a, o) := ⟨fun fs => by obtain ⟨_, n, e⟩ := h; rw [e]; nofun, fun v => by obtain ⟨_, n, e⟩ := h; rw [e]; nofun⟩
theorem nf_ne {h₀ h : Heap} {L a : Addr} {o : Obj} {led : List (Addr × Obj)} (N : News h₀ L h led) (ha : (a, o) ∈ led) {v : Option Value} (ho : o.data = .cell v) : ∀ q ∈ led, NF q → q.1 ≠ a := fun q hq hn => News.ne_data N hq ha (by rw [ho]; exact hn.2 _)
theorem tab_ne {h₀ h : Heap} {L P : Addr} {led : List (Addr × Obj)} (N : News h₀ L h led) (hT : Tab P led) : ∀ q ∈ led, (∀ fs, q.2.data ≠ .fields fs) → q.1 ≠ P := fun q hq hd => by
  obtain ⟨ps, hps, _⟩ := hT
  exact ne_tab N hps hq hd
theorem tab_cell {h₀ h : Heap} {L P a : Addr} {o : Obj} {led : List (Addr × Obj)} (N : News h₀ L h led) (hT : Tab P led) (ha : (a, o) ∈ led) {v : Option Value} (ho : o.data = .cell v) : a ≠ P := tab_ne N hT _ ha (by rw [ho]; exact fun _ => nofun)
set_option maxRecDepth 100000 in
set_option maxHeartbeats 4000000 in
theorem law8 {p9 : Program} {lo9 : List Str} (w : World) (mean : ExcName → Option Value) (mg mb : Str → Option Value) (fa : Addr) (cdv : Value) (base h₀ : Heap) (L : Addr) (m : Str → Option Value) (news : List (Addr × Obj)) (s : Shared) (Q : Flow → Shared → Prop) (E : Value → Shared → Prop) (rl bl p lv bf : Addr) (r : Nat) (hr : r < 5) (tr : Tok) (n : Nat) (tn th : Tok) (ob : Obj) (rv bv vv : Array Value) (nrv nlv nbf : Nat) (bs : List (List Nat × Int))
   (B : Below callerA base [] h₀) (F : Fr h₀ L s.heap m) (X : (hd.heap_39 w.params).In h₀) (N : News h₀ L s.heap news) (T : Top p9 lo9 mean mg mb h₀)(hE : PassesOwn (model PySem.Challenge.rw_bb0001_01.row.prog w) (callerA.deeper (lawEnv L fa cdv)) (lawEnv L fa cdv) E) (hn : n = 3 ∨ n = 4) (hm0 : m (Str.ofString "rule") = some (.int (r : Int) tr))
   (hm1 : m (Str.ofString "count") = some (.int (n : Int) tn)) (hm2 : m (Str.ofString "rows") = some (.ref rl)) (hm3 : m (Str.ofString "gains") = some (.ref (645 + r))) (hm4 : m (Str.ofString "best") = some (.ref bl)) (hm5 : m (Str.ofString "profile") = some (.ref p)) (hm6 : m (Str.ofString "have") = some (.int 0 th)) (hm7 : m (Str.ofString "before") = some (.ref bf))
   (hrl : (rl, ({ cls := .type "list", data := .seq rv nrv } : Obj)) ∈ news) (hrows : RowsAt news rv bs) (hb1 : 1 ≤ bs.length) (hb4 : bs.length ≤ 4) (hgood : ∀ b ∈ bs, GoodB n b)
   (hp : ProfAt w news p n lv) (hlv : (lv, ({ cls := .type "list", data := .seq vv nlv } : Obj)) ∈ news) (hvot : VotersAt w news vv bs) (hbl : (bl, ob) ∈ news) (hob : LObj ob bv) (hbest : BestAt (gainsOf r) bs n bv) (hbf : (bf, ({ cls := .type "list", data := .seq #[] nbf } : Obj)) ∈ news)
   (hT52 : Tab 52 news) (hT80 : Tab 80 news) (hT88 : Tab 88 news) (hcell : ∃ oc v0, (L + 3, oc) ∈ news ∧ oc.data = .cell v0) (hG : GB 0 s.gens)
   (hret : ∀ h' g' d' t' m' led', Fr h₀ L h' m' → News h₀ L h' led' → Tab 52 led' → Tab 80 led' → Tab 88 led' → GB 0 g' → Q (.ret (.bool true)) ⟨h', g', d', t', s.os⟩) :
   wpAny (model PySem.Challenge.rw_bb0001_01.row.prog w) (callerA.deeper (lawEnv L fa cdv)) (execs (lawFn.1.drop 11) (lawEnv L fa cdv)) Q E s := by
  have Tp := T
  have nx : ∀ q ∈ news, NF q → q.1 ≠ 52 ∧ q.1 ≠ 80 ∧ q.1 ≠ 88 ∧ q.1 ≠ L + 3 := fun q hq hn => by
    obtain ⟨oc, v0, h1, h2⟩ := hcell
    exact ⟨tab_ne N hT52 q hq hn.1, tab_ne N hT80 q hq hn.1, tab_ne N hT88 q hq hn.1, nf_ne N h1 h2 q hq hn⟩
  revert X
  k_fill
  intro X
  with_unfolding_all show wpAny _ _ (execs (_ :: _) _) _ _ _
  k_steps
  refine Halt9.out ?_
  refine For_c ?_
  k_steps
  refine Halt9.out ?_
  rename Fr _ _ _ _ => FF
  rename News _ _ _ _ => NN
  refine iter_c_range (hE := hE) (a := 1) (b := 4) (n := 3) (fun i m₁ led₁ g => GB 0 g ∧ m₁ (Str.ofString "rule") = some (.int (r : Int) tr) ∧ m₁ (Str.ofString "count") = some (.int (n : Int) tn) ∧ m₁ (Str.ofString "rows") = some (.ref rl) ∧ m₁ (Str.ofString "gains") = some (.ref (645 + r)) ∧ m₁ (Str.ofString "best") = some (.ref bl) ∧ m₁ (Str.ofString "profile") = some (.ref p) ∧ (∀ q ∈ news, q.1 ≠ 52 → q.1 ≠ 80 → q.1 ≠ 88 → q.1 ≠ L + 3 → q ∈ led₁) ∧ Tab 52 led₁ ∧ Tab 80 led₁ ∧ Tab 88 led₁ ∧ (∃ oc v0, (L + 3, oc) ∈ led₁ ∧ oc.data = .cell v0) ∧
      ∃ com bf bfv nbf th, Run (GOf r) bs n (DOf r) com ∧ com.length = i ∧ m₁ (Str.ofString "have") = some (.int (wth (gainsOf r) bs com) th) ∧ m₁ (Str.ofString "before") = some (.ref bf) ∧ (bf, ({ cls := .type "list", data := .seq bfv nbf } : Obj)) ∈ led₁ ∧ VN (bfv : Array Value).toList (insAll [] com))
    rfl (by assumption) (by decide +kernel) (by decide +kernel) FF NN ?_ ?_ ?_
  · exact ⟨hG, hm0, hm1, hm2, hm3, hm4, hm5, fun q hq _ _ _ _ => hq, hT52, hT80, hT88, hcell, [], bf, #[], nbf, th, .nil, rfl, by rw [wth_nil]; exact hm6, hm7, hbf, trivial⟩
  · rintro i tt m₁ led₁ I io h g d t9 hi ⟨hg, hm0, hm1, hm2, hm3, hm4, hm5, hsub, hT52, hT80, hT88, ⟨oc, v0, hoc, hocd⟩, com, bf, bfv, nbf, th, hrun, hcl, hm6, hm7, hbf1, hbfv⟩ hoff hio0 F2 N2
    rw [show (1 : Int) + (i : Int) = ((i + 1 : Nat) : Int) by omega]
    refine turn_name F2 N2 rfl rfl fun h3 t3 F3 N3 => ?_
    have hio := fun {q : Addr × Obj} (hq : q ∈ led₁) => (List.Mem.tail (I, io) hq : q ∈ (I, io) :: led₁)
    have kp : ∀ q ∈ news, NF q → q ∈ led₁ := fun q hq hn => by
      obtain ⟨a1, a2, a3, a4⟩ := nx q hq hn
      exact hsub q hq a1 a2 a3 a4
    have i52 : I ≠ 52 := by
      obtain ⟨ps, hps, _⟩ := hT52
      exact Ne.symm (hoff _ hps)
    have i80 : I ≠ 80 := by
      obtain ⟨ps, hps, _⟩ := hT80
      exact Ne.symm (hoff _ hps)
    have i88 : I ≠ 88 := by
      obtain ⟨ps, hps, _⟩ := hT88
      exact Ne.symm (hoff _ hps)
    have iL3 : I ≠ L + 3 := Ne.symm (hoff _ hoc)
    have nb1 : ∀ q ∈ led₁, NF q → q.1 ≠ 52 ∧ q.1 ≠ 80 ∧ q.1 ≠ 88 ∧ q.1 ≠ L + 3 := fun q hq hn => ⟨tab_ne N2 (hT52.mono fun q hq _ => hio hq) q (hio hq) hn.1, tab_ne N2 (hT80.mono fun q hq _ => hio hq) q (hio hq) hn.1, tab_ne N2 (hT88.mono fun q hq _ => hio hq) q (hio hq) hn.1, nf_ne N2 (hio hoc) hocd q (hio hq) hn⟩
    have c52 : L + 3 ≠ 52 := tab_cell N2 (hT52.mono fun q hq _ => hio hq) (hio hoc) hocd
    have c80 : L + 3 ≠ 80 := tab_cell N2 (hT80.mono fun q hq _ => hio hq) (hio hoc) hocd
    have c88 : L + 3 ≠ 88 := tab_cell N2 (hT88.mono fun q hq _ => hio hq) (hio hoc) hocd
    k_steps
    refine Halt9.out ?_
    rename Fr _ _ _ _ => FF
    rename News _ _ _ _ => NN
    obtain ⟨tnm, hnm⟩ := nm_item r hr _ _ _ _ _
    refine item_listR (k := (r : Int)) (x := .str (nmOf r) tnm) ⟨_, (NN _ (.head _)).1, rfl, _, rfl⟩ (Int.natCast_nonneg _) (by omega) (by rw [Int.toNat_natCast]; exact hnm) ?_
    k_steps
    refine Halt9.out ?_
    rename Fr _ _ _ _ => FF
    rename News _ _ _ _ => NN
    have tl : ∀ q ∈ led₁, q ∈ _ := (head_mem NN).2.2
    refine comp448_u rfl (Nat.le_of_ble_eq_true rfl) rfl (Nat.le_of_ble_eq_true rfl) r hr tnm p lv n vv nlv bs (i + 1) tt 0 B FF X NN Tp (by exact rfl) hn (hp.nf fun q hq hn => tl _ (kp q hq hn)) (tl _ (kp _ hlv nf_seq)) (hvot.nf fun q hq hn => tl _ (kp q hq hn)) hb4 hb1 hgood (by omega) (by omega) (hT52.mono fun q hq _ => tl q hq) (hT80.mono fun q hq _ => tl q hq) (hT88.mono fun q hq _ => tl q hq) hg ?_
    intro lo e2 x dx com' tks ep h4 g4 d4 t4 led4 hrun' hlen' F4 N4 sub4 T52 T80 T88 G4 hlo hx hdx
    have s4 : ∀ q ∈ led₁, q.1 ≠ 52 → q.1 ≠ 80 → q.1 ≠ 88 → q ∈ led4 := fun q hq a1 a2 a3 => sub4 q (tl q hq) a1 a2 a3
    have hI4 : (I, io) ∈ led4 := sub4 _ (head_mem NN).2.1 i52 i80 i88
    dsimp only
    k_steps
    refine store_cell (c := L + 3) (by exact rfl) (by exact rfl) (by exact rfl) F4 N4 (s4 _ hoc c52 c80 c88) hocd fun h5 oc1 hocd1 F5 N5 => ?_
    have up5 := up_put N5
    have hoc1 := self_put N5
    have nf4 := nf_ne N4 (s4 _ hoc c52 c80 c88) hocd
    have hlo5 := up5 _ hlo (nf4 _ hlo nf_seq)
    have hx5 := up5 _ hx (nf4 _ hx ⟨fun _ => nofun, fun _ => nofun⟩)
    have hI5 := up5 _ hI4 iL3
    have k5 : ∀ q ∈ led₁, NF q → q ∈ put (L + 3) oc1 led4 := fun q hq hn => by
      obtain ⟨a1, a2, a3, a4⟩ := nb1 q hq hn
      exact up5 q (s4 q hq a1 a2 a3) a4
    have j5 : ∀ q ∈ news, q.1 ≠ 52 → q.1 ≠ 80 → q.1 ≠ 88 → q.1 ≠ L + 3 → q ∈ put (L + 3) oc1 led4 := fun q hq a1 a2 a3 a4 => up5 q (s4 q (hsub q hq a1 a2 a3 a4) a1 a2 a3) a4
    have t52 : Tab 52 (put (L + 3) oc1 led4) := T52.mono fun q hq e => up5 q hq (by rw [e]; exact Ne.symm c52)
    have t80 : Tab 80 (put (L + 3) oc1 led4) := T80.mono fun q hq e => up5 q hq (by rw [e]; exact Ne.symm c80)
    have t88 : Tab 88 (put (L + 3) oc1 led4) := T88.mono fun q hq e => up5 q hq (by rw [e]; exact Ne.symm c88)
    generalize put (L + 3) oc1 led4 = led5 at *
    have hbf5 := k5 _ hbf1 nf_seq
    have hrows5 : RowsAt led5 rv bs := hrows.nf fun q hq hn => k5 q (kp q hq hn) hn
    have hrl5 := k5 _ (kp _ hrl nf_seq) nf_seq
    have hbl5 := k5 _ (kp _ hbl (nf_lobj hob)) (nf_lobj hob)
    have hsub' : insAll [] com' ∈ subs := insAll_subs com' [] (by decide) (fun q hq => Nat.lt_of_lt_of_le (hrun'.lt q hq) (by omega))
    have hsub0 : insAll [] com ∈ subs := insAll_subs com [] (by decide) (fun q hq => Nat.lt_of_lt_of_le (hrun.lt q hq) (by omega))
    have hl' : (insAll [] com').length = i + 1 := by rw [com_len hrun'.nodup, hlen']
    k_steps
    refine Halt9.out ?_
    refine len_o N5 hlo5 ⟨rfl, _, rfl⟩ (Nat.le_of_ble_eq_true rfl) ?_
    intro t61 k61
    rw [show (((#[Value.ref x] : Array Value).size : Nat) : Int) = 1 from rfl]
    dsimp only
    k_steps
    refine Halt9.out ?_
    rename News _ _ _ _ => N5
    refine item_list (k := 0) (x := .ref x) (items := #[.ref x]) ⟨_, (N5 _ hlo5).1, rfl, _, rfl⟩ (by decide) (by decide) (by rfl) ?_
    k_steps
    refine Halt9.out ?_
    rename Fr _ _ _ _ => F5
    rename News _ _ _ _ => N5
    refine len_x hsub' X F5 N5 hx5 ?_
    intro t62 k62
    rw [hl']
    dsimp only
    k_steps
    refine Halt9.out ?_
    rename Fr _ _ _ _ => F5
    rename News _ _ _ _ => N5
    have hz0 : (insAll [] com).length = bfv.size := by rw [← hbfv.len]; simp
    have hz4 : bfv.size ≤ 4 := by rw [← hz0, com_len hrun.nodup]; omega
    have hlt0 : ∀ k ∈ insAll [] com, k < 4 := fun k hk => by
      have := hrun.lt k ((com_perm hrun.nodup).mem_iff.mp hk)
      omega
    refine LCt.CompSrcT.ledger rfl F5 N5 hbf5 (by have : 4 ≤ sizeLine := Nat.le_of_ble_eq_true rfl; omega) fun g9 => comp_flt (insAll [] com) (fun k => !decide (k ∈ insAll [] com')) hz0 (fun i v _ hv => hbfv.get i v (by simpa using hv)) (.inr ⟨_, hbf5, rfl, _, rfl⟩) (by exact rfl) (by exact rfl) (by exact rfl) ?_ ?_
    · intro j kk tt9 I9 oI9 C9 oC9 D9 m9 ys9 h9 tk9 E9 hj hkk hC9 hx9 F9 N9
      have hk4 : kk < 4 := hlt0 kk (by rw [hkk]; simp [List.getD, hj])
      k_steps
      refine Halt9.out ?_
      rename News _ _ _ _ => NN9
      refine item_list (k := 0) (x := .ref x) (items := #[.ref x]) ⟨_, (NN9 _ (.tail _ (.tail _ (.tail _ hlo5)))).1, rfl, _, rfl⟩ (by decide) (by decide) (by rfl) ?_
      k_steps
      refine Halt9.out ?_
      rename Fr _ _ _ _ => FF9
      rename News _ _ _ _ => NN9
      refine notin_cs X FF9 NN9 hsub' hk4 (.tail _ (.tail _ (.tail _ hx5))) fun tk10 => ?_
      exact wpAny_truthy_bool ⟨rfl, _, _, rfl, FF9, NN9⟩
    · intro ys9 hys9 D10 h10 tk10 F10 N10 o10
      rw [law_sub hrun hrun' (by omega)] at hys9
      have hys0 : ys9 = [] := by
        have := hys9.len
        exact List.length_eq_zero_iff.mp this
      subst hys0
      k_steps
      refine Halt9.out ?_
      rename Fr _ _ _ _ => F11
      rename News _ _ _ _ => N11
      refine ne_intsK (vs := []) (us := []) (ns := []) (ms := []) ⟨_, (N11 _ (.tail _ (.head _))).1, rfl, _, rfl⟩ .nil ⟨_, (N11 _ (.head _)).1, rfl, _, rfl⟩ .nil (Nat.le_of_ble_eq_true rfl) ?_
      rw [show (!decide (([] : List Int) = [])) = false from rfl]
      k_steps
      refine Halt9.out ?_
      rename News _ _ _ _ => N12
      have m2 := (head_mem N12).2.2
      refine item_list (k := 0) (x := .ref x) (items := #[.ref x]) ⟨_, (N12 _ (m2 _ hlo5)).1, rfl, _, rfl⟩ (by decide) (by decide) (by rfl) ?_
      k_steps
      refine Halt9.out ?_
      rename Fr _ _ _ _ => F12
      rename News _ _ _ _ => N12
      have hne' : insAll [] com' ≠ [] := fun e => by rw [e] at hl'; simp at hl'
      refine sorted_cs (by exact rfl) X F12 N12 hsub' hne' (m2 _ hx5) ?_
      intro l13 xs13 e13 h13 tk13 F13 N13 hvn13 lt13
      k_steps
      refine Halt9.out ?_
      rename Fr _ _ _ _ => F13
      rename News _ _ _ _ => N13
      obtain ⟨gv, hgv, hgi⟩ := (gains_at X r hr).1
      refine lw655_u rfl (Nat.le_of_ble_eq_true rfl) rfl (Nat.le_of_ble_eq_true rfl) (645 + r) rl l13 gv rv xs13 (gainsOf r) nrv _ bs (insAll [] com') B F13 X N13 Tp (by exact rfl) hgv hgi (gains_small r).1 (gains_small r).2 (.tail _ (m2 _ hrl5)) (hrows5.mono fun q hq => .tail _ (m2 q hq)) hb4 (fun b hb => ?_) (.head _) hvn13 (by rw [hl']; omega) ?_
      · obtain ⟨g1, g2, g3, g4⟩ := hgood b hb
        exact ⟨g3, g4, by
          have := nodup_len b.1 (List.range n) (subs_nodup _ g1) (fun t ht => List.mem_range.mpr (g2 t ht))
          rw [List.length_range] at this
          omega⟩
      intro tw h14 d14 tk14 F14 N14
      rw [wth_com hrun'.nodup]
      dsimp only
      k_steps
      refine Halt9.out ?_
      refine For_c ?_
      k_steps
      refine Halt9.out ?_
      rename Fr _ _ _ _ => F15
      rename News _ _ _ _ => N15
      obtain ⟨led15, m13, m5, N15⟩ := pack_three N15
      have ltI : I < l13 := lt13 _ (m2 _ hI5)
      refine iter_c_range (hE := hE) (a := 1) (b := (n : Int) + 1) (n := n) (fun i2 m₂ led₂ g => g = g4 ∧ m₂ (Str.ofString "rule") = some (.int (r : Int) tr) ∧ m₂ (Str.ofString "count") = some (.int (n : Int) tn) ∧ m₂ (Str.ofString "rows") = some (.ref rl) ∧ m₂ (Str.ofString "gains") = some (.ref (645 + r)) ∧ m₂ (Str.ofString "best") = some (.ref bl) ∧ m₂ (Str.ofString "profile") = some (.ref p) ∧ m₂ (Str.ofString "have") = some (.int (wth (gainsOf r) bs com) th) ∧ m₂ (Str.ofString "before") = some (.ref l13) ∧ m₂ (Str.ofString "worth") = some (.int (wth (gainsOf r) bs com') tw) ∧ ∀ q ∈ led15, q ∈ led₂)
        rfl (by assumption) (small_n1 n hn) (size_n1 n hn) F15 N15 ?_ ?_ ?_
      · exact ⟨rfl, by exact hm0, by exact hm1, by exact hm2, by exact hm3, by exact hm4, by exact hm5, by exact hm6, rfl, rfl, fun q hq => hq⟩
      · rintro i2 tt2 m₂ led₂ I2 io2 h g d t29 hi2 ⟨rfl, hm0, hm1, hm2, hm3, hm4, hm5, hm6, hm7, hm8, hs15⟩ hoff2 hio2 F16 N16
        rw [show (1 : Int) + (i2 : Int) = ((i2 + 1 : Nat) : Int) by omega]
        refine turn_name F16 N16 rfl rfl fun h17 t17 F17 N17 => ?_
        obtain ⟨xb, tb, hxb, hok⟩ := hbest.2 (i2 + 1) (by omega)
        have hle := law_step hr hn hgood hrun hrun' (by omega) (by omega) (show i2 + 1 ≤ n by omega) hok
        have hi25 : i2 + 1 ≤ 4 := by omega
        k_steps
        refine Halt9.out ?_
        rename News _ _ _ _ => N18
        refine item_list (k := ((i2 + 1 : Nat) : Int)) (x := .int xb tb) (items := bv) (hob.isList (N18 _ (.tail _ (hs15 _ (m5 _ hbl5)))).1) (Int.natCast_nonneg _) (by omega) (by rw [Int.toNat_natCast]; exact hxb) ?_
        k_steps
        rename Fr _ _ _ _ => F19
        rename News _ _ _ _ => N19
        refine ⟨_, _, F19, N19, .head _, ⟨rfl, by exact hm0, by exact hm1, by exact hm2, by exact hm3, by exact hm4, by exact hm5, by exact hm6, by exact hm7, by exact hm8, fun q hq => mem_off.mpr ⟨.tail _ (hs15 q hq), hoff2 q (hs15 q hq)⟩⟩, rfl⟩
      · rintro m₂ led₂ h g d t29 ⟨rfl, hm0, hm1, hm2, hm3, hm4, hm5, hm6, hm7, hm8, hs15⟩ F16 N16
        k_steps
        rename Fr _ _ _ _ => F19
        rename News _ _ _ _ => N19
        have k15 : ∀ q ∈ led5, q.1 ≠ I → q ∈ off I led₂ := fun q hq a => mem_off.mpr ⟨hs15 q (m5 q hq), a⟩
        refine ⟨_, _, F19, N19, hs15 _ (m5 _ hI5), ⟨G4, by exact hm0, by exact hm1, by exact hm2, by exact hm3, by exact hm4, by exact hm5, fun q hq a1 a2 a3 a4 => k15 q (j5 q hq a1 a2 a3 a4) (hoff q (hsub q hq a1 a2 a3 a4)), t52.mono fun q hq e => k15 q hq (by rw [e]; exact Ne.symm i52), t80.mono fun q hq e => k15 q hq (by rw [e]; exact Ne.symm i80), t88.mono fun q hq e => k15 q hq (by rw [e]; exact Ne.symm i88), ⟨oc1, _, k15 _ hoc1 (Ne.symm iL3), hocd1⟩, com', l13, xs13, e13, tw, hrun', hlen', by exact rfl, by exact hm7, mem_off.mpr ⟨hs15 _ m13, Nat.ne_of_gt ltI⟩, hvn13⟩, rfl⟩
  · rintro m₁ led₁ h g d t ⟨hg, hm0, hm1, hm2, hm3, hm4, hm5, hsub, hT52, hT80, hT88, -, -⟩ F2 N2
    k_steps
    rename Fr _ _ _ _ => F3
    rename News _ _ _ _ => N3
    exact hret _ _ _ _ _ _ F3 N3 hT52 hT80 hT88 hg
end Mine
end

/- LAJ -/
section
open PySem PySem.W PyProof.Rows PySem.Calls PySem.Spec
set_option linter.unusedVariables false
namespace Mine

open PySem.W.X (tableObj)
theorem n21 (L : Nat) : L + 2 ≠ L + 1 := by omega
theorem n31 (L : Nat) : L + 3 ≠ L + 1 := by omega
theorem n32 (L : Nat) : L + 3 ≠ L + 2 := by omega
/-- the law, from its first statement to its end -/
theorem law_all {p9 : Program} {lo9 : List Str} (w : World) (mean : ExcName → Option Value) (mg mb : Str → Option Value) (fa : Addr) (cdv : Value) (base h₀ : Heap) (L : Addr) (m : Str → Option Value) (news : List (Addr × Obj)) (s : Shared) (Q : Flow → Shared → Prop) (E : Value → Shared → Prop) (sl : Addr) (sv : List Value) (ns : List Int)
   (B : Below callerA base [] h₀) (F : Fr h₀ L s.heap m) (X : (hd.heap_39 w.params).In h₀) (N : News h₀ L s.heap news) (T : Top p9 lo9 mean mg mb h₀)(hE : PassesOwn (model PySem.Challenge.rw_bb0001_01.row.prog w) (callerA.deeper (lawEnv L fa cdv)) (lawEnv L fa cdv) E) (hm0 : m (Str.ofString "script") = some (.ref sl)) (hsl : h₀.IsList sl sv.toArray) (hsi : IntsAre sv ns) (hns : ns.length ≤ 63)
   (hT52 : Tab 52 news) (hT80 : Tab 80 news) (hT88 : Tab 88 news) (hc1 : ∃ oc v0, (L + 1, oc) ∈ news ∧ oc.data = .cell v0) (hc2 : ∃ oc v0, (L + 2, oc) ∈ news ∧ oc.data = .cell v0) (hc3 : ∃ oc v0, (L + 3, oc) ∈ news ∧ oc.data = .cell v0) (hG : GB 0 s.gens)
   (hret : ∀ h' g' d' t' m' led', Fr h₀ L h' m' → News h₀ L h' led' → Tab 52 led' → Tab 80 led' → Tab 88 led' → GB 0 g' → Q (.ret (.bool true)) ⟨h', g', d', t', s.os⟩) :
   Sealed (wpAny (model PySem.Challenge.rw_bb0001_01.row.prog w) (callerA.deeper (lawEnv L fa cdv)) (execs lawFn.1 (lawEnv L fa cdv)) Q E s) := by
  refine ⟨?_⟩
  with_reducible refine law1 w mean mg mb fa cdv base h₀ L m news s Q E sl sv ns B F X N T hm0 hsl hsi hns ?_
  intro cl ws cs ncl h1 tk1 m1 led1 hI hlen hm1 F1 N1 s1 hcl
  obtain ⟨c0, c1, c2, c3, c4, c5, c6, t0, t1, t2, t3, t4, t5, t6, rfl, rfl⟩ := ints7 hI hlen
  with_reducible refine law2 w mean mg mb fa cdv base h₀ L m1 led1 _ Q E cl ncl c0 c1 c2 c3 c4 c5 c6 t0 t1 t2 t3 t4 t5 t6 B F1 X N1 T hm1 hcl ?_
  intro r n rl e tr tn h2 tk2 m2 led2 hr hn a1 a2 a3 a4 a5 F2 N2 s2 hrl lt2
  have up2 : ∀ q ∈ news, q ∈ led2 := fun q hq => s2 q (s1 q hq)
  have cell2 : ∀ {a : Addr}, (∃ oc v0, (a, oc) ∈ news ∧ oc.data = .cell v0) → ∃ oc v0, (a, oc) ∈ led2 ∧ oc.data = .cell v0 := fun ⟨oc, v0, h1, h2⟩ => ⟨oc, v0, up2 _ h1, h2⟩
  with_reducible refine law3 w mean mg mb fa cdv base h₀ L m2 led2 _ Q E cl rl ncl e c0 c1 c2 c3 c4 c5 c6 t0 t1 t2 t3 t4 t5 t6 n tn B F2 X N2 T hE hn a1 (s2 _ hcl) a3 a5 hrl (cell2 hc1) ?_
  intro rv nrv bs oc3 v3 h3 g3 d3 tk3 led3 eg3 hrows hb1 hb4 hgood F3 N3 s3 hrl3 hoc3 hocd3
  subst eg3
  have rln : ∀ q ∈ news, q.1 ≠ rl := fun q hq => Nat.ne_of_lt (lt2 q (s1 q hq))
  have k3 : ∀ q ∈ news, q.1 ≠ L + 1 → q ∈ led3 := fun q hq a => s3 q (up2 q hq) a (rln q hq)
  obtain ⟨oc9, v9, hc19, hcd19⟩ := hc1
  have t52a : (52 : Addr) ≠ L + 1 := Ne.symm (tab_cell N hT52 hc19 hcd19)
  have t80a : (80 : Addr) ≠ L + 1 := Ne.symm (tab_cell N hT80 hc19 hcd19)
  have t88a : (88 : Addr) ≠ L + 1 := Ne.symm (tab_cell N hT88 hc19 hcd19)
  have c3 : ∀ {a : Addr}, a ≠ L + 1 → (∃ oc v0, (a, oc) ∈ news ∧ oc.data = .cell v0) → ∃ oc v0, (a, oc) ∈ led3 ∧ oc.data = .cell v0 := fun hne ⟨oc, v0, h1, h2⟩ => ⟨oc, v0, k3 _ h1 hne, h2⟩
  with_reducible refine law4 w mean mg mb fa cdv base h₀ L m2 led3 _ Q E rl r hr tr n tn rv nrv bs B F3 X N3 T hE hn a2 a3 a5 a4 hrl3 hrows hb1 hb4 hgood (c3 (n21 L) hc2) ?_
  intro bl ob bv h4 g4 d4 tk4 m4 led4 eg4 hbest b1 b2 b3 b4 b5 F4 N4 s4 hbl hob
  subst eg4
  obtain ⟨oc8, v8, hc28, hcd28⟩ := hc2
  have t52b : (52 : Addr) ≠ L + 2 := Ne.symm (tab_cell N hT52 hc28 hcd28)
  have t80b : (80 : Addr) ≠ L + 2 := Ne.symm (tab_cell N hT80 hc28 hcd28)
  have t88b : (88 : Addr) ≠ L + 2 := Ne.symm (tab_cell N hT88 hc28 hcd28)
  have k4 : ∀ q ∈ news, q.1 ≠ L + 1 → q.1 ≠ L + 2 → q ∈ led4 := fun q hq a b => s4 q (k3 q hq a) b
  have hrl4 := s4 _ hrl3 (nf_ne N3 (k3 _ hc28 (n21 L)) hcd28 _ hrl3 nf_seq)
  have hrows4 : RowsAt led4 rv bs := hrows.nf fun q hq hn => s4 q hq (nf_ne N3 (k3 _ hc28 (n21 L)) hcd28 _ hq hn)
  have T52 : Tab 52 led4 := hT52.mono fun q hq e => k4 q hq (by rw [e]; exact t52a) (by rw [e]; exact t52b)
  have T80 : Tab 80 led4 := hT80.mono fun q hq e => k4 q hq (by rw [e]; exact t80a) (by rw [e]; exact t80b)
  have T88 : Tab 88 led4 := hT88.mono fun q hq e => k4 q hq (by rw [e]; exact t88a) (by rw [e]; exact t88b)
  with_reducible refine law6 w mean mg mb fa cdv base h₀ L m4 led4 _ Q E rl bl r tr n tn rv bv nrv 0 bs B F4 X N4 T hE hn b1 b2 b3 b4 b5 hrl4 hrows4 hb4 hgood T52 hG ?_
  intro p lv vv nlv bf nbf th h6 g6 d6 tk6 m6 led6 hg6 hp hlv hvot e0 e1 e2 e3 e4 e5 e6 e7 F6 N6 s6 T52' hbf
  have n52 : ∀ q ∈ led4, NF q → q ∈ led6 := fun q hq hn => s6 q hq (tab_ne N4 T52 q hq hn.1)
  obtain ⟨oc7, v7, hc37, hcd37⟩ := hc3
  have hoc6 : (L + 3, oc7) ∈ led6 := s6 _ (k4 _ hc37 (n31 L) (n32 L)) (tab_cell N hT52 hc37 hcd37)
  have T80' : Tab 80 led6 := T80.mono fun q hq e => s6 q hq (by rw [e]; decide)
  have T88' : Tab 88 led6 := T88.mono fun q hq e => s6 q hq (by rw [e]; decide)
  exact law8 w mean mg mb fa cdv base h₀ L m6 led6 _ Q E rl bl p lv bf r hr tr n tn th ob rv bv vv nrv nlv nbf bs B F6 X N6 T hE hn e0 e1 e2 e3 e4 e5 e6 e7 (n52 _ hrl4 nf_seq) (hrows4.nf n52) hb1 hb4 hgood hp hlv hvot (n52 _ hbl (nf_lobj hob)) hob hbest hbf T52' T80' T88' ⟨oc7, v7, hoc6, hcd37⟩ hg6 hret
end Mine
end

/- TJ -/
section
open PySem PySem.W PyProof.Rows
open PySem.W.X (tableObj)
namespace Mine
abbrev lawTabs : List (Addr × Addr) := [(56, 52), (84, 80), (92, 88)]
/-- True came back, what was there is as it was, but for code tables that grew -/
theorem law_post {cw : ClaimW} {cl : Str → Option Addr} {mean : ExcName → Option Value} {args : List WData} {tabs : List (Addr × Addr)} {s₁ s' : Shared} {L : Addr} {m : Str → Option Value} (hT : TabsAt tabs s₁.heap) (F : Fr (ghostOf s₁.heap tabs) L s'.heap m)
    (hG : ∀ q ∈ tabs, ∃ ps, s'.heap.get? q.2 = some (tabObj ps)) (hg : AllBare s'.gens) (hos : s'.os = s₁.os) (hn : ∀ cls, cw.raises args cls = false) (hp : cw.post args (.bool true) args = true) :
    GoodWG cw cl mean args s₁ (.ok (.ret (.bool true))) s' := by
  have tab : ∀ {b : Addr} {o : Obj}, s₁.heap.get? b = some o → b ∈ tabs.map (·.2) → isCodeTable s₁.heap b ∧ o = tabObj #[] ∧ ∃ ps, s'.heap.get? b = some (tabObj ps) := fun {b o} e hb => by
    obtain ⟨q, hq, rfl⟩ := List.mem_map.mp hb
    have h2 := (hT q hq).2
    rw [e] at h2
    exact ⟨((hT q hq).1.tab (hT q hq).2).isCodeTable, Option.some.inj h2, hG q hq⟩
  refine ⟨.inl ⟨.bool true, .bool true, [], rfl, hn, .bool _, hp, fun _ => ⟨List.nodup_nil, fun a ha => nomatch ha⟩⟩, ⟨fun b o e => ?_, fun b o e => ?_⟩, hos, hg⟩
  · by_cases hb : b ∈ tabs.map (·.2)
    · obtain ⟨h1, rfl, ps, h3⟩ := tab e hb
      exact .inr (.inl ⟨h1, rfl, #[], ps, rfl, by rw [Array.empty_append]; exact h3⟩)
    · exact .inl (F.keep b o (ghost_ne e hb))
  · by_cases hb : b ∈ tabs.map (·.2)
    · obtain ⟨_, _, ps, h3⟩ := tab e hb
      exact ⟨_, h3⟩
    · exact ⟨o, F.keep b o (ghost_ne e hb)⟩
theorem law_tabs {w : World} {h : Heap} (X : (hd.heap_39 w.params).In h) (KT : ∀ P ∈ [52, 80, 88], h.get? P = some (tabObj #[])) : TabsAt lawTabs h :=
  List.forall_mem_cons.mpr ⟨⟨codeHd_of_K (c := 56) (P := 52) X (by kernel_rfl), KT 52 (.head _)⟩, List.forall_mem_cons.mpr ⟨⟨codeHd_of_K (c := 84) (P := 80) X (by kernel_rfl), KT 80 (.tail _ (.head _))⟩, List.forall_mem_cons.mpr ⟨⟨codeHd_of_K (c := 92) (P := 88) X (by kernel_rfl), KT 88 (.tail _ (.tail _ (.head _)))⟩, fun _ h => nomatch h⟩⟩⟩
theorem law_noTabs (w : World) : noTabs (hd.heap_39 w.params) = true := by kernel_rfl
theorem tab_of {P : Addr} {led : List (Addr × Obj)} (h : (P, tabObj #[]) ∈ led) : Tab P led := ⟨#[], h, trivial⟩
theorem grown_of {h₀ h : Heap} {L P : Addr} {led : List (Addr × Obj)} (N : News h₀ L h led) (hT : Tab P led) : ∃ ps, h.get? P = some (tabObj ps) := let ⟨ps, hp, _⟩ := hT; ⟨ps, (N _ hp).1⟩
set_option maxRecDepth 100000 in
set_option maxHeartbeats 8000000 in
theorem law_join : PySem.Challenge.rw_bb0001_01.Holds := hd (by
  k_fill
  intro w s₀ s₁ mg mb G Y fa o pm cd doc dV kV ho hd hcd hD hmg hg args vals as hpre hlay hrd hwl hlo
  have KX := km_in_of Y
  have KT := km_tabs_of Y
  refine Ground.open G ?_
  intro T B D TE TW
  try (refine guard_noD D (by decide +kernel) ?_; clear D)
  clear hmg
  wrow_args hpre hlay hrd hwl hlo
  all_goals (
    first | refine callC_kw (enter_call ?_) | refine enter_call ?_ | refine callC_kw (enter_callW ?_) | refine enter_callW ?_ | w_how
    w_top on
    have K0 := below_caller (Top.heap T)
    w_call any ho hd hcd hD T F)
  rename Fr _ _ _ _ => F
  rename News _ _ _ _ => N
  rename Heap.IsList _ _ _ => hL
  rename IntsAre _ _ => hI
  rename ¬ _ => hc
  have hT := law_tabs KX KT
  have F' := ghost_fr hT F
  have N' := ghost_news hT F N
  apply Sealed.out
  refine law_all w _ mg mb fa cd (ghostOf s₁.heap lawTabs) (ghostOf s₁.heap lawTabs) s₁.heap.objs.size _ _ _ _ _ _ _ _ (ghost_below hT) F' (ghost_K hT KX (law_noTabs w)) N' (ghost_top hT T) ?hE (by exact rfl) (ghost_list hT hL) hI (by omega) (tab_of (.tail _ (.tail _ (.tail _ (.head _))))) (tab_of (.tail _ (.tail _ (.tail _ (.tail _ (.head _)))))) (tab_of (.tail _ (.tail _ (.tail _ (.tail _ (.tail _ (.head _))))))) ⟨_, _, .tail _ (.tail _ (.head _)), by assumption⟩ ⟨_, _, .tail _ (.head _), by assumption⟩ ⟨_, _, .head _, by assumption⟩ ?hG ?hret
  case hE => passes_own
  case hG =>
    show GB 0 s₁.gens
    rw [hg]
    exact ⟨.of_eq rfl, Nat.zero_le _⟩
  case hret =>
    intro h' g' d' t' m' led' F9 N9 T52 T80 T88 G9
    refine law_post hT F9 ?g1 G9.bare rfl ?g2 ?g3
    case g1 => exact List.forall_mem_cons.mpr ⟨grown_of N9 T52, List.forall_mem_cons.mpr ⟨grown_of N9 T80, List.forall_mem_cons.mpr ⟨grown_of N9 T88, fun _ h => nomatch h⟩⟩⟩
    case g2 => exact fun _ => rfl
    case g3 => exact postW_of (X := (true == true)) rfl (w_eq_bool (w_res rfl) w_lit) rfl)
end Mine
end

theorem PySem.Challenge.cw_bb0001_01_holds : PySem.Challenge.rw_bb0001_01.Holds := by
  exact Mine.law_join
#print axioms PySem.Challenge.cw_bb0001_01_holds
